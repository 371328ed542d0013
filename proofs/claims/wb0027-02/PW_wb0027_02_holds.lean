import PyProof.Rows.All
import Wide.All
import OpenK.AllK
import Wide.FinOn
import PyProof.StrLawsFirst
import PyProof.StrBlockL
import PyProof.Rows.StrNews2
import PyProof.ExcStrAll.Exception
import PyProof.ExcStrAll.ValueError
import PyProof.ExcArgsOwn
import PyProof.CallStr
import KE.KIntText
import KE.IntTextLaws
import KE.KNestM
import Lean
import PySem.Challenge.RW_wb0027_02
set_option Elab.async false
set_option linter.all false
section
open PySem PySem.Calls PyProof.Rows PySem.W
namespace Mine
theorem all1 {α : Type} {x : α} {P : α → Prop} (h1 : P x) : ∀ b ∈ [x], P b := fun b hb => by
  cases List.mem_singleton.mp hb; exact h1
theorem allC {α : Type} {x : α} {l : List α} {P : α → Prop} (h1 : P x) (h : ∀ b ∈ l, P b) : ∀ b ∈ x :: l, P b := fun b hb => by
  rcases List.mem_cons.mp hb with rfl | hb
  · exact h1
  · exact h b hb
theorem all2 {α : Type} {x y : α} {P : α → Prop} (h1 : P x) (h2 : P y) : ∀ b ∈ [x, y], P b := allC h1 (all1 h2)
theorem all3 {α : Type} {x y z : α} {P : α → Prop} (h1 : P x) (h2 : P y) (h3 : P z) : ∀ b ∈ [x, y, z], P b := allC h1 (all2 h2 h3)
theorem all4 {α : Type} {x y z w : α} {P : α → Prop} (h1 : P x) (h2 : P y) (h3 : P z) (h4 : P w) : ∀ b ∈ [x, y, z, w], P b := allC h1 (all3 h2 h3 h4)
theorem byC {p : Prop} (h : (p → False) → False) : p := Classical.byContradiction h
noncomputable abbrev D := PyData
noncomputable abbrev Kp := Addr → Option Obj
noncomputable def Kle (κ κ' : Kp) : Prop := ∀ b o, κ b = some o → κ' b = some o
theorem Kle.refl (κ : Kp) : Kle κ κ := fun _ _ e => e
theorem Kle.trans {a b c : Kp} (x : Kle a b) (y : Kle b c) : Kle a c := fun _ _ e => y _ _ (x _ _ e)
mutual
noncomputable def R (κ : Kp) : D → Value → Prop
  | .none, v => v = .none
  | .bool b, v => v = .bool b
  | .int i, v => ∃ t, v = .int i t
  | .str x, v => ∃ t, v = .str x t
  | .list l, v => ∃ a o vs n, v = .ref a ∧ κ a = some o ∧ o.cls = .type "list" ∧ o.dict = .none ∧ o.data = .seq vs n ∧ RL κ l vs.toList
  | .tuple l, v => ∃ a o vs n, v = .ref a ∧ κ a = some o ∧ o.cls = .type "tuple" ∧ o.dict = .none ∧ o.data = .seq vs n ∧ RL κ l vs.toList
  | .dict _, _ => False
noncomputable def RL (κ : Kp) : List D → List Value → Prop
  | [], vs => vs = []
  | d :: ds, vs => ∃ v r, vs = v :: r ∧ R κ d v ∧ RL κ ds r
end
mutual
theorem R.mono {κ κ' : Kp} (k : Kle κ κ') : ∀ {d : D} {v : Value}, R κ d v → R κ' d v
  | .none, _, h => h
  | .bool _, _, h => h
  | .int _, _, h => h
  | .str _, _, h => h
  | .list _, _, h => by
    simp only [R] at h ⊢
    refine byC fun hC1 => ?_
    obtain ⟨a, o, vs, n, h1, h2, h3, h4, h5, h6⟩ := h
    refine hC1 ?_
    exact ⟨a, o, vs, n, h1, k _ _ h2, h3, h4, h5, RL.mono k h6⟩
  | .tuple _, _, h => by
    simp only [R] at h ⊢
    refine byC fun hC2 => ?_
    obtain ⟨a, o, vs, n, h1, h2, h3, h4, h5, h6⟩ := h
    refine hC2 ?_
    exact ⟨a, o, vs, n, h1, k _ _ h2, h3, h4, h5, RL.mono k h6⟩
  | .dict _, _, h => h.elim
theorem RL.mono {κ κ' : Kp} (k : Kle κ κ') : ∀ {d : List D} {v : List Value}, RL κ d v → RL κ' d v
  | [], _, h => h
  | _ :: _, _, h => by
    simp only [RL] at h ⊢
    refine byC fun hC1 => ?_
    obtain ⟨v, r, h1, h2, h3⟩ := h
    refine hC1 ?_
    exact ⟨v, r, h1, R.mono k h2, RL.mono k h3⟩
end
theorem RL.length {κ : Kp} : ∀ {ds : List D} {vs : List Value}, RL κ ds vs → vs.length = ds.length
  | [], _, h => by cases h; rfl
  | _ :: _, _, h => by
    simp only [RL] at h
    obtain ⟨v, r, rfl, _, h3⟩ := h
    simp [RL.length h3]
theorem RL.get {κ : Kp} : ∀ {ds : List D} {vs : List Value}, RL κ ds vs → ∀ {i : Nat} {d : D}, ds[i]? = some d → ∃ v, vs[i]? = some v ∧ R κ d v
  | [], _, _, _, _, e => by simp at e
  | d :: ds, vs, h, i, x, e => by
    simp only [RL] at h
    obtain ⟨v, r, rfl, h2, h3⟩ := h
    cases i with
    | zero => simp at e; subst e; exact ⟨v, by simp, h2⟩
    | succ i => simp at e ⊢; exact RL.get h3 e
theorem RL.of_get {κ : Kp} : ∀ {ds : List D} {vs : List Value}, vs.length = ds.length → (∀ (i : Nat) (d : D), ds[i]? = some d → ∃ v, vs[i]? = some v ∧ R κ d v) → RL κ ds vs
  | [], vs, hl, _ => by cases vs with | nil => rfl | cons => simp at hl
  | d :: ds, vs, hl, h => by
    cases vs with
    | nil => simp at hl
    | cons v r =>
      simp only [RL]
      refine ⟨v, r, rfl, ?_, RL.of_get (by simpa using hl) fun i x e => ?_⟩
      · obtain ⟨v', e, h'⟩ := h 0 d (by simp); simp at e; subst e; exact h'
      · have := h (i + 1) x (by simpa using e); simpa using this
theorem RL.append {κ : Kp} : ∀ {ds es : List D} {vs us : List Value}, RL κ ds vs → RL κ es us → RL κ (ds ++ es) (vs ++ us)
  | [], _, _, _, h, k => by cases h; exact k
  | d :: ds, es, vs, us, h, k => by
    simp only [RL] at h
    obtain ⟨v, r, rfl, h2, h3⟩ := h
    simp only [List.cons_append, RL]
    exact ⟨v, r ++ us, rfl, h2, RL.append h3 k⟩
theorem len1 {α : Type} {l : List α} (h : l.length = 1) : ∃ a, l = [a] := List.length_eq_one_iff.mp h
theorem len2 {α : Type} {l : List α} (h : l.length = 2) : ∃ a b, l = [a, b] := by
  obtain ⟨a, r, rfl⟩ := List.exists_cons_of_length_eq_add_one h
  obtain ⟨b, rfl⟩ := len1 (Nat.succ.inj h)
  exact ⟨a, b, rfl⟩
theorem len3 {α : Type} {l : List α} (h : l.length = 3) : ∃ a b c, l = [a, b, c] := by
  obtain ⟨a, r, rfl⟩ := List.exists_cons_of_length_eq_add_one h
  obtain ⟨b, c, rfl⟩ := len2 (Nat.succ.inj h)
  exact ⟨a, b, c, rfl⟩
theorem len4 {α : Type} {l : List α} (h : l.length = 4) : ∃ a b c d, l = [a, b, c, d] := by
  refine byC fun hC1 => ?_
  obtain ⟨a, r, rfl⟩ := List.exists_cons_of_length_eq_add_one h
  obtain ⟨b, c, d, rfl⟩ := len3 (Nat.succ.inj h)
  refine hC1 ?_
  exact ⟨a, b, c, d, rfl⟩
inductive AV where
  | d (x : D) | obj (i : Nat) | glob (v : Value)
inductive AObj where
  | ns (names : List Str) (vars : List (Option AV))
  | cell (a : Option AV)
  | list (l : List AV)
  | frz (d : D)
  | raw (P : Obj → Prop)
noncomputable def RV (κ : Kp) (σ : List Addr) : AV → Value → Prop
  | .d x, v => R κ x v
  | .obj i, v => ∃ a, σ[i]? = some a ∧ v = .ref a
  | .glob w, v => v = w
theorem get_pre {α : Type} {l l' : List α} (h : l <+: l') {i : Nat} {a : α} (e : l[i]? = some a) : l'[i]? = some a := by
  obtain ⟨r, rfl⟩ := h
  rw [List.getElem?_append_left]
  · exact e
  · by_cases q : i < l.length
    · exact q
    · rw [List.getElem?_eq_none (by lia)] at e; cases e
theorem RV.mono {κ κ' : Kp} {σ σ' : List Addr} (k : Kle κ κ') (p : σ <+: σ') {a : AV} {v : Value} (h : RV κ σ a v) : RV κ' σ' a v := by
  cases a with
  | d x => exact R.mono k h
  | obj i => obtain ⟨a, h1, h2⟩ := h; exact ⟨a, get_pre p h1, h2⟩
  | glob w => exact h
noncomputable def RVL (κ : Kp) (σ : List Addr) (as : List AV) (vs : List Value) : Prop := vs.length = as.length ∧ ∀ (i : Nat) (a : AV), as[i]? = some a → ∃ v, vs[i]? = some v ∧ RV κ σ a v
theorem RVL.mono {κ κ' : Kp} {σ σ' : List Addr} (k : Kle κ κ') (p : σ <+: σ') {a : List AV} {v : List Value} (h : RVL κ σ a v) : RVL κ' σ' a v :=
  ⟨h.1, fun i x e => let ⟨v, h1, h2⟩ := h.2 i x e; ⟨v, h1, h2.mono k p⟩⟩
theorem RVL.toD {κ : Kp} {σ : List Addr} {ds : List D} {vs : List Value} (h : RVL κ σ (ds.map .d) vs) : RL κ ds vs :=
  RL.of_get (by simpa using h.1) fun i d e => h.2 i (.d d) (by simp [e])
theorem RVL.ofD {κ : Kp} {σ : List Addr} {ds : List D} {vs : List Value} (h : RL κ ds vs) : RVL κ σ (ds.map .d) vs :=
  ⟨by simpa using h.length, fun i a e => by
    rw [List.getElem?_map] at e
    cases q : ds[i]? with
    | none => rw [q] at e; cases e
    | some d => rw [q] at e; cases e; exact h.get q⟩
theorem RVL.nil {κ : Kp} {σ : List Addr} : RVL κ σ [] [] := ⟨rfl, fun _ _ e => by simp at e⟩
theorem RVL.cons {κ : Kp} {σ : List Addr} {a : AV} {v : Value} {as : List AV} {vs : List Value} (h : RV κ σ a v) (k : RVL κ σ as vs) : RVL κ σ (a :: as) (v :: vs) :=
  ⟨by simp [k.1], fun i x e => by cases i with | zero => simp at e; subst e; exact ⟨v, by simp, h⟩ | succ i => simp at e ⊢; exact k.2 i x e⟩
theorem RVL.snoc {κ : Kp} {σ : List Addr} {a : AV} {v : Value} {as : List AV} {vs : List Value} (k : RVL κ σ as vs) (h : RV κ σ a v) : RVL κ σ (as ++ [a]) (vs ++ [v]) :=
  ⟨by simp [k.1], fun i x e => by
    rcases Nat.lt_trichotomy i as.length with q | q | q
    · rw [List.getElem?_append_left q] at e
      refine byC fun hC1 => ?_
      obtain ⟨u, h1, h2⟩ := k.2 i x e
      refine hC1 ?_
      exact ⟨u, by rw [List.getElem?_append_left (by rw [k.1]; exact q)]; exact h1, h2⟩
    · subst q; simp at e; subst e; exact ⟨v, by rw [← k.1]; simp, h⟩
    · rw [List.getElem?_eq_none (by simp; lia)] at e; cases e⟩
inductive NsO (o : Obj) (m : Str → Option Value) : Prop
  | mk (es : _) (ep : _) (h1 : o.data = .dict es ep) (h2 : StrKeys es) (h3 : ∀ name, nsFind es name = m name)
noncomputable def RO (κ : Kp) (σ : List Addr) : AObj → Obj → Prop
  | .ns names vars, o => names.Nodup ∧ ∃ m, NsO o m ∧ ∀ (i : Nat) (x : Str) (a : AV), names[i]? = some x → vars[i]? = some (some a) → ∃ v, m x = some v ∧ RV κ σ a v
  | .cell .none, o => ∃ v, o.data = .cell v
  | .cell (some a), o => ∃ v, o.data = .cell (some v) ∧ RV κ σ a v
  | .list l, o => ∃ vs n, o = { cls := .type "list", data := .seq vs n } ∧ RVL κ σ l vs.toList
  | .frz _, _ => True
  | .raw P, o => P o
theorem RO.mono {κ κ' : Kp} {σ σ' : List Addr} (k : Kle κ κ') (p : σ <+: σ') {x : AObj} {o : Obj} (h : RO κ σ x o) : RO κ' σ' x o := by
  cases x with
  | ns names vars => obtain ⟨h1, m, h2, h3⟩ := h; exact ⟨h1, m, h2, fun i x a e e' => let ⟨v, q, r⟩ := h3 i x a e e'; ⟨v, q, r.mono k p⟩⟩
  | cell a => cases a with
    | none => exact h
    | some a => obtain ⟨v, h1, h2⟩ := h; exact ⟨v, h1, h2.mono k p⟩
  | list l => obtain ⟨vs, n, h3, h4⟩ := h; exact ⟨vs, n, h3, h4.mono k p⟩
  | frz d => trivial
  | raw P => exact h
structure Cx where
  prog : Program
  w : World
  P0 : Kp
  tabs : List Addr
  tq : Pos → Str
  os : OsState
noncomputable def CodeK (κ : Kp) (cv : Value) (q : Str) : Prop := ∃ c o vs t, cv = .ref c ∧ κ c = some o ∧ o.data = .fields vs ∧ vs[1]? = some (.str q t)
theorem CodeK.mono {κ κ' : Kp} {cv : Value} {q : Str} (k : Kle κ κ') (x : CodeK κ cv q) : CodeK κ' cv q := let ⟨c, o, vs, t, h1, h2, h3⟩ := x; ⟨c, o, vs, t, h1, k _ _ h2, h3⟩
theorem CodeK.rec {κ : Kp} {cv : Value} {q : Str} {h : Heap} (x : CodeK κ cv q) (k : ∀ b o, κ b = some o → h.get? b = some o) : h.CodeRec cv q := let ⟨c, o, vs, t, h1, h2, h3⟩ := x; ⟨c, o, vs, t, h1, k _ _ h2, h3⟩
noncomputable def TabOk (C : Cx) (κ : Kp) (h : Heap) (P : Addr) : Prop := ∃ ps, h.get? P = some (tabObj ps) ∧ TriplesOk ps.toList ∧ ∀ pos cv, codeAmong pos ps.toList = some cv → CodeK κ cv (C.tq pos)
theorem TabOk.keeps {C : Cx} {κ κ' : Kp} {h h' : Heap} {P : Addr} (x : TabOk C κ h P) (k : Kle κ κ') (hk : ∀ o, h.get? P = some o → h'.get? P = some o) : TabOk C κ' h' P :=
  let ⟨ps, h1, h2, h3⟩ := x; ⟨ps, hk _ h1, h2, fun pos cv e => (h3 pos cv e).mono k⟩
noncomputable def AObj.live : AObj → Prop
  | .frz _ => False
  | _ => True
inductive OwnP (φ κ : Kp) (σ : List Addr) (s : Shared) (a : Addr) (x : AObj) : Prop
  | frz (d : D) (hx : x = .frz d) (r : R κ d (.ref a)) (hs : (κ a).isSome)
  | own (hl : x.live) (h1 : κ a = none) (h2 : φ a = none) (o : Obj) (h3 : s.heap.get? a = some o) (h4 : RO κ σ x o)
theorem nope {α : Type} {x : Option α} {o : α} {p : Prop} (h1 : x = none) (h2 : x = some o) : p := by rw [h1] at h2; cases h2
theorem noneOf {α : Type} {x : Option α} (h : ∀ o, x = some o → False) : x = none := by
  cases x with
  | none => rfl
  | some o => exact (h o rfl).elim
theorem isSome_of {κ κ' : Kp} (k : Kle κ κ') {a : Addr} (h : (κ a).isSome) : (κ' a).isSome := by
  obtain ⟨o, e⟩ := Option.isSome_iff_exists.mp h; rw [k _ _ e]; rfl
theorem OwnP.map {φ κ φ' κ' : Kp} {σ σ' : List Addr} {s s' : Shared} {a : Addr} {x : AObj} (h : OwnP φ κ σ s a x) (k : Kle κ κ') (p : σ <+: σ') (f : κ a = none → φ a = none → ∀ o, s.heap.get? a = some o → κ' a = none ∧ φ' a = none ∧ s'.heap.get? a = some o) : OwnP φ' κ' σ' s' a x := by
  cases h with
  | frz d hx r hs => exact .frz d hx (r.mono k) (isSome_of k hs)
  | own hl h1 h2 o h3 h4 => have q := f h1 h2 o h3; exact .own hl q.1 q.2.1 o q.2.2 (h4.mono k p)
structure Rel (C : Cx) (φ κ₀ κ : Kp) (σ : List Addr) (st : List AObj) (s : Shared) : Prop where
  prog : Kle C.P0 κ
  k0 : Kle κ₀ κ
  new : ∀ b o, κ b = some o → κ₀ b = some o ∨ φ b = none
  keep : ∀ b o, κ b = some o → s.heap.get? b = some o
  phi : ∀ b o, φ b = some o → s.heap.get? b = some o
  len : σ.length = st.length
  nd : σ.Nodup
  own : ∀ (i : Nat) (a : Addr) (x : AObj), σ[i]? = some a → st[i]? = some x → OwnP φ κ σ s a x
  tabs : ∀ P ∈ C.tabs, TabOk C κ s.heap P ∧ φ P = none ∧ κ P = none ∧ P ∉ σ
  gens : s.gens = #[]
  os : s.os = C.os
section
variable {C : Cx} {φ κ₀ κ : Kp} {σ : List Addr} {st : List AObj} {s : Shared}
theorem Rel.at (X : Rel C φ κ₀ κ σ st s) {i : Nat} {x : AObj} (e : st[i]? = some x) : ∃ a, σ[i]? = some a := by
  by_cases q : i < st.length
  · exact ⟨σ[i]'(by rw [X.len]; exact q), by simp⟩
  · exact nope (List.getElem?_eq_none (by lia)) e
theorem OwnP.none {a : Addr} {x : AObj} (h : OwnP φ κ σ s a x) (hx : x.live) : κ a = none ∧ φ a = none := by
  cases h with
  | frz d e => rw [e] at hx; exact hx.elim
  | own _ h1 h2 => exact ⟨h1, h2⟩
inductive Got (φ κ : Kp) (σ : List Addr) (s : Shared) (i : Nat) (x : AObj) : Prop
  | mk (a : Addr) (o : Obj) (h1 : σ[i]? = some a) (h2 : κ a = none) (h3 : φ a = none) (h4 : s.heap.get? a = some o) (h5 : RO κ σ x o)
theorem Rel.get (X : Rel C φ κ₀ κ σ st s) {i : Nat} {x : AObj} (e : st[i]? = some x) (hx : x.live) : Got φ κ σ s i x := by
  obtain ⟨a, ha⟩ := X.at e
  rcases X.own i a x ha e with ⟨d, hd, _, _⟩ | ⟨_, h1, h2, o, h3, h4⟩
  · rw [hd] at hx; exact hx.elim
  · exact ⟨a, o, ha, h1, h2, h3, h4⟩
theorem Rel.mem (X : Rel C φ κ₀ κ σ st s) {a : Addr} (hm : a ∈ σ) {P : Prop} (f : ∀ o, κ a = some o → P) (g : κ a = none → φ a = none → ∀ o, s.heap.get? a = some o → P) : P := by
  obtain ⟨i, hi, e⟩ := List.getElem_of_mem hm
  rcases X.own i a _ (by rw [List.getElem?_eq_getElem hi, e]) (List.getElem?_eq_getElem (X.len ▸ hi)) with ⟨_, _, _, hs⟩ | ⟨_, h1, h2, o, h3, _⟩
  · obtain ⟨o, e⟩ := Option.isSome_iff_exists.mp hs; exact f o e
  · exact g h1 h2 o h3
theorem Rel.frz (X : Rel C φ κ₀ κ σ st s) {i : Nat} {d : D} (e : st[i]? = some (.frz d)) : ∃ a, σ[i]? = some a ∧ R κ d (.ref a) := by
  obtain ⟨a, ha⟩ := X.at e
  rcases X.own i a _ ha e with ⟨d', hd, r, _⟩ | ⟨hl, _⟩
  · cases hd; exact ⟨a, ha, r⟩
  · exact hl.elim
theorem Rel.toks (X : Rel C φ κ₀ κ σ st s) (t : Tok) (d : Drawn) : Rel C φ κ₀ κ σ st { s with toks := t, drawn := d } :=
  ⟨X.prog, X.k0, X.new, X.keep, X.phi, X.len, X.nd, fun i a x e1 e2 => (X.own i a x e1 e2).map (Kle.refl _) (List.prefix_refl _) fun h1 h2 _ h3 => ⟨h1, h2, h3⟩, X.tabs, X.gens, X.os⟩
theorem Rel.keeps (X : Rel C φ κ₀ κ σ st s) {s' : Shared} (hk : ∀ b o, s.heap.get? b = some o → s'.heap.get? b = some o) (hg : s'.gens = s.gens) (ho : s'.os = s.os) : Rel C φ κ₀ κ σ st s' := by
  refine ⟨X.prog, X.k0, X.new, fun b o e => hk _ _ (X.keep b o e), fun b o e => hk _ _ (X.phi b o e), X.len, X.nd, fun i a x e1 e2 => ?_, fun P hP => ?_, hg.trans X.gens, ho.trans X.os⟩
  · exact (X.own i a x e1 e2).map (Kle.refl _) (List.prefix_refl _) fun h1 h2 o h3 => ⟨h1, h2, hk _ _ h3⟩
  · refine byC fun hC1 => ?_
    obtain ⟨h1, h2⟩ := X.tabs P hP
    refine hC1 ?_
    exact ⟨h1.keeps (Kle.refl _) (hk _), h2⟩
theorem Rel.alloc (X : Rel C φ κ₀ κ σ st s) {s' : Shared} {a : Addr} {o : Obj} {x : AObj} (hn : s.heap.get? a = none) (hk : ∀ b o, s.heap.get? b = some o → s'.heap.get? b = some o) (ha : s'.heap.get? a = some o)
    (hg : s'.gens = s.gens) (ho : s'.os = s.os) (hr : RO κ (σ ++ [a]) x o) (hx : x.live) : Rel C φ κ₀ κ (σ ++ [a]) (st ++ [x]) s' := by
  have Y := X.keeps hk hg ho
  have hp : σ <+: σ ++ [a] := List.prefix_append ..
  have hκ : κ a = none := noneOf fun o' e => nope hn (X.keep _ _ e)
  have hφ : φ a = none := noneOf fun o' e => nope hn (X.phi _ _ e)
  have hσ : a ∉ σ := fun hm => X.mem hm (fun o e => nope hκ e) fun _ _ o e => nope hn e
  refine ⟨X.prog, X.k0, X.new, Y.keep, Y.phi, by simp [X.len], ?_, fun i b y e1 e2 => ?_, fun P hP => ?_, Y.gens, Y.os⟩
  · rw [List.nodup_append]
    exact ⟨X.nd, by simp, fun b hb c hc => by simp at hc; subst hc; exact fun e => hσ (e ▸ hb)⟩
  · rcases Nat.lt_trichotomy i st.length with q | q | q
    · rw [List.getElem?_append_left (by rw [X.len]; exact q)] at e1
      rw [List.getElem?_append_left q] at e2
      exact (Y.own i b y e1 e2).map (Kle.refl _) hp fun h1 h2 o h3 => ⟨h1, h2, h3⟩
    · subst q
      rw [← X.len] at e1
      simp at e1 e2
      subst e1; subst e2
      exact .own hx hκ hφ o ha hr
    · exact nope (List.getElem?_eq_none (by simp; lia)) e2
  · obtain ⟨h1, h2, h3, h4⟩ := Y.tabs P hP
    refine ⟨h1, h2, h3, fun hm => ?_⟩
    rcases List.mem_append.mp hm with hm | hm
    · exact h4 hm
    · simp at hm
      subst hm
      obtain ⟨⟨ps, e, _⟩, _⟩ := X.tabs P hP
      exact nope hn e
theorem Rel.upd (X : Rel C φ κ₀ κ σ st s) {s' : Shared} {i : Nat} {a : Addr} {o : Obj} {x y : AObj} (ei : st[i]? = some x) (hx : x.live) (ea : σ[i]? = some a) (hs : ∀ b o, b ≠ a → s.heap.get? b = some o → s'.heap.get? b = some o) (ha : s'.heap.get? a = some o)
    (hg : s'.gens = s.gens) (ho : s'.os = s.os) (hr : RO κ σ y o) (hy : y.live) : Rel C φ κ₀ κ σ (st.set i y) s' := by
  obtain ⟨a', o', ea', hκ, hφ, hh, _⟩ := X.get ei hx
  rw [ea] at ea'; cases ea'
  have hkn : ∀ b o, κ b = some o → b ≠ a := fun b o e q => by rw [q, hκ] at e; cases e
  have hil : i < st.length := by
    by_cases q : i < st.length
    · exact q
    · exact nope (List.getElem?_eq_none (by lia)) ei
  refine ⟨X.prog, X.k0, X.new, fun b o e => hs b o (hkn b o e) (X.keep b o e), fun b o e => hs b o (fun q => by rw [q, hφ] at e; cases e) (X.phi b o e), by simp [X.len], X.nd, fun j b z e1 e2 => ?_, fun P hP => ?_, hg.trans X.gens, ho.trans X.os⟩
  · by_cases hj : i = j
    · subst hj
      rw [ea] at e1; cases e1
      rw [List.getElem?_set_self hil] at e2; cases e2
      exact .own hy hκ hφ o ha hr
    · rw [List.getElem?_set_ne hj] at e2
      have hba : b ≠ a := fun q => by
        subst q
        have hi' : i < σ.length := by rw [X.len]; exact hil
        have hj' : j < σ.length := by
          by_cases q : j < σ.length
          · exact q
          · exact nope (List.getElem?_eq_none (by lia)) e1
        rw [List.getElem?_eq_getElem hi'] at ea
        rw [List.getElem?_eq_getElem hj'] at e1
        exact hj ((List.getElem_inj X.nd).mp ((Option.some.inj ea).trans (Option.some.inj e1).symm))
      exact (X.own j b z e1 e2).map (Kle.refl _) (List.prefix_refl _) fun h1 h2 o h3 => ⟨h1, h2, hs b _ hba h3⟩
  · obtain ⟨h1, h2, h3, h4⟩ := X.tabs P hP
    have hPa : P ≠ a := fun q => h4 (q ▸ List.mem_of_getElem? ea)
    exact ⟨h1.keeps (Kle.refl _) fun o e => hs P o hPa e, h2, h3, h4⟩
end
end Mine
end
section
open PySem PySem.Calls PyProof.Rows PySem.W
namespace Mine
structure AEnv where
  scope : Scope
  L : Nat
  cells : List (Str × Nat)
  code : Value
  qual : Str
structure ScOk (sc : Scope) : Prop where
  kind : sc.kind = .function
  nd : (sc.names.map (·.1)).Nodup
  nodebug : ∀ p ∈ sc.names, (p.1 == ("__debug__" : Str)) = false ∧ (p.1 == ("__classdict__" : Str)) = false
noncomputable def noFree (sc : Scope) : Bool := !(sc.names.any fun p => p.2 == .free)
structure EnvR (ae : AEnv) (σ : List Addr) (env : Env) : Prop where
  scope : env.scope = ae.scope
  loc : σ[ae.L]? = some env.locals
  cnames : env.cells.map (·.1) = ae.cells.map (·.1)
  cnd : (ae.cells.map (·.1)).Nodup
  cells : ∀ (j : Nat) (x : Str) (i : Nat), ae.cells[j]? = some (x, i) → ∃ c, env.cells[j]? = some (x, c) ∧ σ[i]? = some c
  code : env.code = ae.code
  qual : env.qual = ae.qual
  globals : env.globals = mainGlobals
  builtins : env.builtins = builtinsNs
  ok : ScOk ae.scope
  frame : noFree ae.scope = true → ∃ L, env.frame = some L ∧ σ[0]? = some L
theorem EnvR.mono {ae : AEnv} {σ σ' : List Addr} {env : Env} (p : σ <+: σ') (x : EnvR ae σ env) : EnvR ae σ' env :=
  ⟨x.scope, get_pre p x.loc, x.cnames, x.cnd, fun j y i e => let ⟨c, h1, h2⟩ := x.cells j y i e; ⟨c, h1, get_pre p h2⟩, x.code, x.qual, x.globals, x.builtins, x.ok, fun h => let ⟨L, h1, h2⟩ := x.frame h; ⟨L, h1, get_pre p h2⟩⟩
structure Gd where
  φ : Kp
  κ₀ : Kp
  env : Env
  E : Value → Shared → Prop
structure AOk (A : Around) (n : Nat) : Prop where
  handled : A.handled = none
  depth : A.depth + n ≤ 690
  units : A.units + 20 * n ≤ 9000
inductive PA {α β : Type} (rel : Kp → List Addr → β → α → Prop) (C : Cx) (φ κ₀ κ : Kp) (σ : List Addr) (Q : β → List AObj → Prop) (v : α) (s' : Shared) : Prop where
  | mk (κ' : Kp) (σ' : List Addr) (b : β) (st' : List AObj) (k : Kle κ κ') (p : σ <+: σ') (X : Rel C φ κ₀ κ' σ' st' s') (r : rel κ' σ' b v) (q : Q b st') : PA rel C φ κ₀ κ σ Q v s'
theorem PA.go {α β : Type} {rel : Kp → List Addr → β → α → Prop} {φ κ₀ κ : Kp} {σ : List Addr} {Q : β → List AObj → Prop} {v : α} {s : Shared} {P : Prop}
    (h : PA rel C φ κ₀ κ σ Q v s) (k : ∀ κ' σ' b st', Kle κ κ' → σ <+: σ' → Rel C φ κ₀ κ' σ' st' s → rel κ' σ' b v → Q b st' → P) : P := by
  obtain ⟨κ', σ', b, st', k1, p1, X', r, q⟩ := h
  exact k κ' σ' b st' k1 p1 X' r q
noncomputable def W {α β : Type} (rel : Kp → List Addr → β → α → Prop) (C : Cx) (A : Around) (G : Gd) (ae : AEnv) (st : List AObj) (t : Sem α) (Q : β → List AObj → Prop) : Prop :=
  ∀ κ σ s, EnvR ae σ G.env → Rel C G.φ G.κ₀ κ σ st s → wpAny (model C.prog C.w) A t (PA rel C G.φ G.κ₀ κ σ Q) G.E s
section
variable {α β γ δ : Type} {rel : Kp → List Addr → β → α → Prop} {rel' : Kp → List Addr → δ → γ → Prop} {C : Cx} {A : Around} {G : Gd} {ae : AEnv} {st : List AObj}
theorem PA.ret {φ κ₀ κ : Kp} {σ : List Addr} {Q : β → List AObj → Prop} {v : α} {s : Shared} {b : β} (X : Rel C φ κ₀ κ σ st s) (r : rel κ σ b v) (q : Q b st) : PA rel C φ κ₀ κ σ Q v s :=
  ⟨κ, σ, b, st, Kle.refl _, List.prefix_refl _, X, r, q⟩
theorem PA.up {φ κ₀ κ κ' : Kp} {σ σ' : List Addr} {Q : β → List AObj → Prop} {v : α} {s : Shared} (k : Kle κ κ') (p : σ <+: σ') (h : PA rel C φ κ₀ κ' σ' Q v s) : PA rel C φ κ₀ κ σ Q v s :=
  let ⟨κ2, σ2, b, st', k2, p2, X, r, q⟩ := h; ⟨κ2, σ2, b, st', k.trans k2, p.trans p2, X, r, q⟩
theorem W.mono {t : Sem α} {Q Q' : β → List AObj → Prop} (h : W rel C A G ae st t Q) (hq : ∀ b st', Q b st' → Q' b st') : W rel C A G ae st t Q' := fun κ σ s e X =>
  wpAny_mono (h κ σ s e X) (fun _ _ z => z.go fun κ' σ' b st' k1 p1 X' r q => ⟨κ', σ', b, st', k1, p1, X', r, hq _ _ q⟩) fun _ _ z => z
end
noncomputable abbrev wE (C : Cx) (A : Around) (G : Gd) (ae : AEnv) (st : List AObj) (e : Expr) (Q : AV → List AObj → Prop) : Prop := W RV C A G ae st (eval e G.env) Q
noncomputable def RB (_ : Kp) (_ : List Addr) (b : Bool) (v : Bool) : Prop := v = b
noncomputable abbrev wB (C : Cx) (A : Around) (G : Gd) (ae : AEnv) (st : List AObj) (e : Expr) (Q : Bool → List AObj → Prop) : Prop := W RB C A G ae st (isTrue e G.env (eval e G.env)) Q
inductive AF where
  | next | brk | cont | ret (a : AV)
noncomputable def RF (κ : Kp) (σ : List Addr) : AF → Flow → Prop
  | .next, f => f = .next
  | .brk, f => f = .brk
  | .cont, f => f = .cont
  | .ret a, f => ∃ v, f = .ret v ∧ RV κ σ a v
noncomputable abbrev wS (C : Cx) (A : Around) (G : Gd) (ae : AEnv) (st : List AObj) (x : Stmt) (Q : AF → List AObj → Prop) : Prop := W RF C A G ae st (exec x G.env) Q
noncomputable abbrev wSs (C : Cx) (A : Around) (G : Gd) (ae : AEnv) (st : List AObj) (x : List Stmt) (Q : AF → List AObj → Prop) : Prop := W RF C A G ae st (execs x G.env) Q
section
variable {C : Cx} {A : Around} {G : Gd} {ae : AEnv} {st : List AObj}
theorem lookup_at {α : Type} : ∀ {l : List (Str × α)} {i : Nat} {x : Str} {k : α}, (l.map (·.1)).Nodup → l[i]? = some (x, k) → l.lookup x = some k
  | [], _, _, _, _, e => by simp at e
  | p :: l, 0, x, k, _, e => by simp at e; subst e; simp [List.lookup]
  | p :: l, i + 1, x, k, h, e => by
    simp only [List.map_cons, List.nodup_cons] at h
    simp at e
    have : p.1 ≠ x := fun q => h.1 (q ▸ List.mem_map_of_mem (f := (·.1)) (List.mem_of_getElem? e))
    rw [List.lookup_cons, beq_eq_false_iff_ne.mpr (Ne.symm this)]
    exact lookup_at h.2 e
theorem EnvR.kindOf {σ : List Addr} {env : Env} (e : EnvR ae σ env) {i : Nat} {x : Str} {k : NameKind} (h : ae.scope.names[i]? = some (x, k)) : env.kindOf x = some k := by
  show env.scope.names.lookup x = some k
  rw [e.scope]
  exact lookup_at e.ok.nd h
theorem EnvR.kind {σ : List Addr} {env : Env} (e : EnvR ae σ env) : env.scope.kind = .function := by rw [e.scope]; exact e.ok.kind
theorem EnvR.cell {σ : List Addr} {env : Env} (e : EnvR ae σ env) {j i : Nat} {x : Str} (h : ae.cells[j]? = some (x, i)) : ∃ c, env.cells.lookup x = some c ∧ σ[i]? = some c := by
  obtain ⟨c, h1, h2⟩ := e.cells j x i h
  exact ⟨c, lookup_at (by rw [e.cnames]; exact e.cnd) h1, h2⟩
theorem NsO.ns {h : Heap} {a : Addr} {o : Obj} {m : Str → Option Value} (ho : h.get? a = some o) (x : NsO o m) : h.Ns a m := let ⟨es, ep, r1, r2, r3⟩ := x; ⟨o, es, ep, ho, r1, r2, r3⟩
theorem wE_local (i : Nat) {x : Str} {pos : Pos} {names : List Str} {vars : List (Option AV)} {a : AV} {Q : AV → List AObj → Prop} (hk : ae.scope.names[i]? = some (x, .local))
    (hns : st[ae.L]? = some (.ns names vars)) (hn : names[i]? = some x) (hv : vars[i]? = some (some a)) (q : Q a st) : wE C A G ae st (.Name x pos) Q := fun κ σ s e X => by
  obtain ⟨L, o, hL, _, _, ho, _, m, hm, hr⟩ := X.get hns trivial
  obtain rfl := Option.some.inj (e.loc.symm.trans hL)
  obtain ⟨v, h1, h2⟩ := hr i x a hn hv
  refine wpAny_Name (wpAny_loadName_local e.kind (e.kindOf hk) (hm.ns ho) h1 (PA.ret X h2 q)) (e.ok.nodebug _ (List.mem_of_getElem? hk)).1
theorem wE_cell (i j k : Nat) {x : Str} {pos : Pos} {a : AV} {Q : AV → List AObj → Prop} (hk : ae.scope.names[i]? = some (x, .cell))
    (hc : ae.cells[j]? = some (x, k)) (ho : st[k]? = some (.cell (some a))) (q : Q a st) : wE C A G ae st (.Name x pos) Q := fun κ σ s e X => by
  obtain ⟨c, o, hL, _, _, ho, v, hd, hr⟩ := X.get ho trivial
  obtain ⟨c', h1, h2⟩ := e.cell hc
  obtain rfl := Option.some.inj (h2.symm.trans hL)
  exact wpAny_Name (wpAny_loadName_cell e.kind (e.kindOf hk) h1 ⟨o, ho, hd⟩ (PA.ret X hr q)) (e.ok.nodebug _ (List.mem_of_getElem? hk)).1
noncomputable def GlobIs (C : Cx) (x : Str) (v : Value) : Prop := (∀ h : Heap, (∀ b o, C.P0 b = some o → h.get? b = some o) → (∃ mg, h.Ns mainGlobals mg ∧ mg x = some v) ∨ (∃ mg mb, h.Ns mainGlobals mg ∧ mg x = none ∧ h.Ns builtinsNs mb ∧ mb x = some v))
theorem Rel.p0 {φ κ₀ κ : Kp} {σ : List Addr} {s : Shared} (X : Rel C φ κ₀ κ σ st s) : ∀ b o, C.P0 b = some o → s.heap.get? b = some o := fun b o e => X.keep _ _ (X.prog _ _ e)
theorem wE_glob (i : Nat) {x : Str} {pos : Pos} {v : Value} {Q : AV → List AObj → Prop} (g : GlobIs C x v) (hk : ae.scope.names[i]? = some (x, .globalImplicit)) (q : Q (.glob v) st) : wE C A G ae st (.Name x pos) Q := fun κ σ s e X => by
  refine Name_function_global e.kind (e.kindOf hk) ?_ (e.ok.nodebug _ (List.mem_of_getElem? hk)).1
  rcases g s.heap X.p0 with ⟨mg, h1, h2⟩ | ⟨mg, mb, h1, h2, h3, h4⟩
  · exact loadGlobal_global (by rw [e.globals]; exact h1) h2 (PA.ret (b := AV.glob v) X rfl q)
  · exact loadGlobal_builtin (by rw [e.globals]; exact h1) h2 (by rw [e.builtins]; exact h3) h4 (PA.ret (b := AV.glob v) X rfl q)
theorem wE_int {i : Int} {k : Nat} {pos : Pos} {Q : AV → List AObj → Prop} (q : Q (.d (.int i)) st) : wE C A G ae st (.Constant (.int i) k pos) Q := fun κ σ s e X =>
  wpAny_Constant_int (PA.ret (b := AV.d (.int i)) (X.toks (s.toks + 1) s.drawn) ⟨_, rfl⟩ q)
theorem wE_str {i : Str} {k : Nat} {pos : Pos} {Q : AV → List AObj → Prop} (q : Q (.d (.str i)) st) : wE C A G ae st (.Constant (.str i) k pos) Q := fun κ σ s e X =>
  Constant_str (PA.ret (b := AV.d (.str i)) (X.toks (s.toks + 1) s.drawn) ⟨_, rfl⟩ q)
theorem wE_none {k : Nat} {pos : Pos} {Q : AV → List AObj → Prop} (q : Q (.d .none) st) : wE C A G ae st (.Constant .none k pos) Q := fun κ σ s e X =>
  wpAny_Constant_none (PA.ret (b := AV.d .none) X rfl q)
noncomputable def wBin (C : Cx) (A : Around) (G : Gd) (st : List AObj) (op : Operator) (a b : AV) (Q : AV → List AObj → Prop) : Prop :=
  ∀ κ σ s va vb, Rel C G.φ G.κ₀ κ σ st s → RV κ σ a va → RV κ σ b vb → wpAny (model C.prog C.w) A (binaryOp op va vb) (PA RV C G.φ G.κ₀ κ σ Q) G.E s
noncomputable def wCmp (C : Cx) (A : Around) (G : Gd) (st : List AObj) (op : CmpOp) (a b : AV) (Q : AV → List AObj → Prop) : Prop :=
  ∀ κ σ s va vb, Rel C G.φ G.κ₀ κ σ st s → RV κ σ a va → RV κ σ b vb → wpAny (model C.prog C.w) A (compareOp op va vb) (PA RV C G.φ G.κ₀ κ σ Q) G.E s
noncomputable def wUn (C : Cx) (A : Around) (G : Gd) (st : List AObj) (op : UnaryOp) (a : AV) (Q : AV → List AObj → Prop) : Prop :=
  ∀ κ σ s va, Rel C G.φ G.κ₀ κ σ st s → RV κ σ a va → wpAny (model C.prog C.w) A (unaryOp op va) (PA RV C G.φ G.κ₀ κ σ Q) G.E s
noncomputable def wTr (C : Cx) (A : Around) (G : Gd) (st : List AObj) (a : AV) (Q : Bool → List AObj → Prop) : Prop :=
  ∀ κ σ s va, Rel C G.φ G.κ₀ κ σ st s → RV κ σ a va → wpAny (model C.prog C.w) A (truthy va) (PA RB C G.φ G.κ₀ κ σ Q) G.E s
theorem PA.wp {α β : Type} {rel : Kp → List Addr → β → α → Prop} {φ κ₀ κ κ' : Kp} {σ σ' : List Addr} {Q : β → List AObj → Prop} {s : Shared} {M : Model} {E : Value → Shared → Prop} {t : Sem α} (k : Kle κ κ') (p : σ <+: σ')
    (h : wpAny M A t (PA rel C φ κ₀ κ' σ' Q) E s) : wpAny M A t (PA rel C φ κ₀ κ σ Q) E s := wpAny_mono h (fun _ _ z => z.up k p) fun _ _ z => z
theorem wE_bin {l r : Expr} {op : Operator} {pos : Pos} {Q : AV → List AObj → Prop}
    (h : wE C A G ae st l fun a st1 => wE C A G ae st1 r fun b st2 => wBin C A G st2 op a b Q) : wE C A G ae st (.BinOp l op r pos) Q := fun κ σ s e X =>
  wpAny_BinOp (wpAny_mono (h κ σ s e X) (fun va s1 z => z.go fun κ1 σ1 a st1 k1 p1 X1 r1 q1 =>
    wpAny_mono (q1 κ1 σ1 s1 (e.mono p1) X1) (fun vb s2 z => z.go fun κ2 σ2 b st2 k2 p2 X2 r2 q2 => PA.wp (k1.trans k2) (p1.trans p2) (q2 κ2 σ2 s2 va vb X2 (r1.mono k2 p2) r2)) fun _ _ z => z) fun _ _ z => z)
theorem wE_un {x : Expr} {op : UnaryOp} {pos : Pos} {Q : AV → List AObj → Prop} (h : wE C A G ae st x fun a st1 => wUn C A G st1 op a Q) : wE C A G ae st (.UnaryOp op x pos) Q := fun κ σ s e X =>
  wpAny_UnaryOp (wpAny_mono (h κ σ s e X) (fun va s1 z => z.go fun κ1 σ1 a st1 k1 p1 X1 r1 q1 => PA.wp k1 p1 (q1 κ1 σ1 s1 va X1 r1)) fun _ _ z => z)
theorem wE_cmp {l r : Expr} {op : CmpOp} {pos : Pos} {Q : AV → List AObj → Prop} (hm : behindInMarks op r = false)
    (h : wE C A G ae st l fun a st1 => wE C A G ae st1 r fun b st2 => wCmp C A G st2 op a b Q) : wE C A G ae st (.Compare l [op] [r] pos) Q := fun κ σ s e X =>
  wpAny_Compare1 (wpAny_mono (h κ σ s e X) (fun va s1 z => z.go fun κ1 σ1 a st1 k1 p1 X1 r1 q1 =>
    wpAny_mono (q1 κ1 σ1 s1 (e.mono p1) X1) (fun vb s2 z => z.go fun κ2 σ2 b st2 k2 p2 X2 r2 q2 => PA.wp (k1.trans k2) (p1.trans p2) (q2 κ2 σ2 s2 va vb X2 (r1.mono k2 p2) r2)) fun _ _ z => z) fun _ _ z => z) hm
theorem wB_cmp {l r : Expr} {op : CmpOp} {pos : Pos} {Q : Bool → List AObj → Prop} (hm : behindInMarks op r = false)
    (h : wE C A G ae st l fun a st1 => wE C A G ae st1 r fun b st2 => wCmp C A G st2 op a b fun c st3 => wTr C A G st3 c Q) : wB C A G ae st (.Compare l [op] [r] pos) Q := fun κ σ s e X =>
  wpAny_isTrue_Compare1 (wpAny_mono (h κ σ s e X) (fun va s1 z => z.go fun κ1 σ1 a st1 k1 p1 X1 r1 q1 =>
    wpAny_mono (q1 κ1 σ1 s1 (e.mono p1) X1) (fun vb s2 z => z.go fun κ2 σ2 b st2 k2 p2 X2 r2 q2 =>
      wpAny_mono (q2 κ2 σ2 s2 va vb X2 (r1.mono k2 p2) r2) (fun vc s3 z => z.go fun κ3 σ3 c st3 k3 p3 X3 r3 q3 => PA.wp ((k1.trans k2).trans k3) ((p1.trans p2).trans p3) (q3 κ3 σ3 s3 vc X3 r3)) fun _ _ z => z) fun _ _ z => z) fun _ _ z => z) hm
theorem wB_not {x : Expr} {pos : Pos} {Q : Bool → List AObj → Prop} (h : wB C A G ae st x fun b st1 => Q (!b) st1) : wB C A G ae st (.UnaryOp .Not x pos) Q := fun κ σ s e X =>
  wpAny_isTrue_Not (wpAny_mono (h κ σ s e X) (fun b s1 z => z.go fun κ' σ' b' st' k1 p1 X' r q => ⟨κ', σ', !b', st', k1, p1, X', by cases r; rfl, q⟩) fun _ _ z => z)
theorem wB_val {x : Expr} {Q : Bool → List AObj → Prop} (he : ∀ env whole, isTrue x env whole = (do let v ← whole; standAt x.pos; holding [v] (truthy v))) (h : wE C A G ae st x fun a st1 => wTr C A G st1 a Q) : wB C A G ae st x Q := fun κ σ s e X =>
  wpAny_isTrue_value (wpAny_mono (h κ σ s e X) (fun va s1 z => z.go fun κ1 σ1 a st1 k1 p1 X1 r1 q1 => PA.wp k1 p1 (q1 κ1 σ1 s1 va X1 r1)) fun _ _ z => z) (he _ _)
theorem wE_if {t b o : Expr} {pos : Pos} {Q : AV → List AObj → Prop} (h : wB C A G ae st t fun c st1 => if c then wE C A G ae st1 b Q else wE C A G ae st1 o Q) : wE C A G ae st (.IfExp t b o pos) Q := fun κ σ s e X =>
  wpAny_IfExp (wpAny_mono (h κ σ s e X) (fun c s1 z => z.go fun κ' σ' c' st' k1 p1 X' r q => by
    cases (r : c = c')
    cases c with
    | true => exact wpAny_mono (q κ' σ' s1 (e.mono p1) X') (fun _ _ z => z.up k1 p1) fun _ _ z => z
    | false => exact wpAny_mono (q κ' σ' s1 (e.mono p1) X') (fun _ _ z => z.up k1 p1) fun _ _ z => z) fun _ _ z => z)
theorem wE_and {x y : Expr} {pos : Pos} {Q : AV → List AObj → Prop}
    (h : wE C A G ae st x fun a st1 => wTr C A G st1 a fun t st2 => if t then wE C A G ae st2 y Q else Q a st2) : wE C A G ae st (.BoolOp .And [x, y] pos) Q := fun κ σ s e X =>
  wpAny_And2 (wpAny_mono (h κ σ s e X) (fun va s1 z => z.go fun κ1 σ1 a st1 k1 p1 X1 r1 q1 =>
    wpAny_mono (q1 κ1 σ1 s1 va X1 r1) (fun t s2 z => z.go fun κ' σ' t' st' k2 p2 X' r q => by
      cases (r : t = t')
      cases t with
      | true => exact PA.wp (k1.trans k2) (p1.trans p2) (q κ' σ' s2 (e.mono (p1.trans p2)) X')
      | false => exact PA.up (k1.trans k2) (p1.trans p2) (PA.ret X' (r1.mono k2 p2) q)) fun _ _ z => z) fun _ _ z => z)
theorem wSs_nil {Q : AF → List AObj → Prop} (q : Q .next st) : wSs C A G ae st [] Q := fun κ σ s e X => wpAny_execs_nil (PA.ret (b := AF.next) X rfl q)
noncomputable def thenSs (C : Cx) (A : Around) (G : Gd) (ae : AEnv) (r : List Stmt) (Q : AF → List AObj → Prop) (f : AF) (st1 : List AObj) : Prop := match f with | .next => wSs C A G ae st1 r Q | f => Q f st1
theorem wSs_cons {x : Stmt} {r : List Stmt} {Q : AF → List AObj → Prop} (h : wS C A G ae st x (thenSs C A G ae r Q)) : wSs C A G ae st (x :: r) Q := fun κ σ s e X =>
  wpAny_execs_cons (wpAny_mono (h κ σ s e X) (fun f s1 z => z.go fun κ' σ' f' st' k1 p1 X' rr q => by
    cases f' with
    | next => cases (rr : f = .next); exact wpAny_mono (q κ' σ' s1 (e.mono p1) X') (fun _ _ z => z.up k1 p1) fun _ _ z => z
    | brk => cases (rr : f = .brk); exact ⟨κ', σ', .brk, st', k1, p1, X', rfl, q⟩
    | cont => cases (rr : f = .cont); exact ⟨κ', σ', .cont, st', k1, p1, X', rfl, q⟩
    | ret a => obtain ⟨v, rfl, rv⟩ := rr; exact ⟨κ', σ', .ret a, st', k1, p1, X', ⟨v, rfl, rv⟩, q⟩) fun _ _ z => z)
theorem wS_if {t : Expr} {b o : List Stmt} {pos : Pos} {Q : AF → List AObj → Prop} (h : wB C A G ae st t fun c st1 => if c then wSs C A G ae st1 b Q else wSs C A G ae st1 o Q) : wS C A G ae st (.If t b o pos) Q := fun κ σ s e X =>
  wpAny_If (wpAny_mono (h κ σ s e X) (fun c s1 z => z.go fun κ' σ' c' st' k1 p1 X' r q => by
    cases (r : c = c')
    cases c with
    | true => exact wpAny_mono (q κ' σ' s1 (e.mono p1) X') (fun _ _ z => z.up k1 p1) fun _ _ z => z
    | false => exact wpAny_mono (q κ' σ' s1 (e.mono p1) X') (fun _ _ z => z.up k1 p1) fun _ _ z => z) fun _ _ z => z)
theorem wS_ret {x : Expr} {pos : Pos} {Q : AF → List AObj → Prop} (h : wE C A G ae st x fun a st1 => Q (.ret a) st1) : wS C A G ae st (.Return (some x) pos) Q := fun κ σ s e X =>
  wpAny_Return_some (wpAny_mono (h κ σ s e X) (fun v s1 z => z.go fun κ' σ' a st' k1 p1 X' r q => ⟨κ', σ', .ret a, st', k1, p1, X', ⟨v, rfl, r⟩, q⟩) fun _ _ z => z)
theorem wS_brk {pos : Pos} {Q : AF → List AObj → Prop} (q : Q .brk st) : wS C A G ae st (.Break pos) Q := fun κ σ s e X => wpAny_Break (PA.ret (b := AF.brk) X rfl q)
end
end Mine
end
section
open PySem PySem.Calls PyProof.Rows PySem.W PySem.SeqAt
namespace Mine
section
variable {C : Cx} {A : Around} {G : Gd} {ae : AEnv} {st : List AObj} {Q : AV → List AObj → Prop} {a b : Int}
theorem R.int_inv {κ : Kp} {i : Int} {v : Value} (h : R κ (.int i) v) : ∃ t, v = .int i t := h
theorem R.str_inv {κ : Kp} {i : Str} {v : Value} (h : R κ (.str i) v) : ∃ t, v = .str i t := h
theorem PA.int {φ κ₀ κ : Kp} {σ : List Addr} {s : Shared} {i : Int} {t : Tok} (X : Rel C φ κ₀ κ σ st s) (q : Q (.d (.int i)) st) : PA RV C φ κ₀ κ σ Q (.int i t) s := PA.ret (b := AV.d (.int i)) X (show R κ (.int i) _ from ⟨t, rfl⟩) q
theorem PA.str {φ κ₀ κ : Kp} {σ : List Addr} {s : Shared} {i : Str} {t : Tok} (X : Rel C φ κ₀ κ σ st s) (q : Q (.d (.str i)) st) : PA RV C φ κ₀ κ σ Q (.str i t) s := PA.ret (b := AV.d (.str i)) X (show R κ (.str i) _ from ⟨t, rfl⟩) q
theorem PA.bool {φ κ₀ κ : Kp} {σ : List Addr} {s : Shared} {i : Bool} (X : Rel C φ κ₀ κ σ st s) (q : Q (.d (.bool i)) st) : PA RV C φ κ₀ κ σ Q (.bool i) s := PA.ret (b := AV.d (.bool i)) X (show R κ (.bool i) _ from rfl) q
theorem PA.none {φ κ₀ κ : Kp} {σ : List Addr} {s : Shared} (X : Rel C φ κ₀ κ σ st s) (q : Q (.d .none) st) : PA RV C φ κ₀ κ σ Q .none s := PA.ret (b := AV.d .none) X (show R κ .none _ from rfl) q
theorem add_ii (q : Q (.d (.int (a + b))) st) : wBin C A G st .Add (.d (.int a)) (.d (.int b)) Q := fun κ σ s va vb X ⟨t, ea⟩ ⟨u, eb⟩ => by
  subst ea; subst eb; exact PyProof.Rows.add_int (PA.int (X.toks _ s.drawn) q)
theorem sub_ii (q : Q (.d (.int (a - b))) st) : wBin C A G st .Sub (.d (.int a)) (.d (.int b)) Q := fun κ σ s va vb X ⟨t, ea⟩ ⟨u, eb⟩ => by
  subst ea; subst eb; exact PyProof.Rows.sub_int (PA.int (X.toks _ s.drawn) q)
theorem mul_ii (hm : IntMulOk a b) (q : Q (.d (.int (a * b))) st) : wBin C A G st .Mult (.d (.int a)) (.d (.int b)) Q := fun κ σ s va vb X ⟨t, ea⟩ ⟨u, eb⟩ => by
  subst ea; subst eb; exact P.mul_int (PA.int (X.toks _ s.drawn) q) hm
theorem div_ii (hb : b ≠ 0) (hp : Builtin.divisionGoesByPylong a b = false) (q : Q (.d (.int (a.fdiv b))) st) : wBin C A G st .FloorDiv (.d (.int a)) (.d (.int b)) Q := fun κ σ s va vb X ⟨t, ea⟩ ⟨u, eb⟩ => by
  subst ea; subst eb; exact PyProof.Rows.floordiv_int hb (PA.int (X.toks _ s.drawn) q) (.inl hp)
theorem mod_ii (hb : b ≠ 0) (q : Q (.d (.int (a.fmod b))) st) : wBin C A G st .Mod (.d (.int a)) (.d (.int b)) Q := fun κ σ s va vb X ⟨t, ea⟩ ⟨u, eb⟩ => by
  subst ea; subst eb; exact PyProof.Rows.mod_int hb (PA.int (X.toks _ s.drawn) q)
theorem pow_ii (hn : 0 ≤ b) (hsz : (Builtin.Int.intBits a : Int) * b ≤ 2 ^ 27) (q : Q (.d (.int (a ^ b.toNat))) st) : wBin C A G st .Pow (.d (.int a)) (.d (.int b)) Q := fun κ σ s va vb X ⟨t, ea⟩ ⟨u, eb⟩ => by
  subst ea; subst eb; exact PyProof.Rows.pow_int hn hsz (PA.int (X.toks _ s.drawn) q)
theorem shl_ii (hn : 0 ≤ b) (hn2 : b ≤ 1000000) (ha : a.natAbs < 2 ^ 64) (q : Q (.d (.int (a * 2 ^ b.toNat))) st) : wBin C A G st .LShift (.d (.int a)) (.d (.int b)) Q := fun κ σ s va vb X ⟨t, ea⟩ ⟨u, eb⟩ => by
  subst ea; subst eb; exact PyProof.Rows.lshift_int_small hn hn2 ha (PA.int (X.toks _ s.drawn) q)
theorem shr_ii (hn : 0 ≤ b) (q : Q (.d (.int (a.fdiv (2 ^ b.toNat)))) st) : wBin C A G st .RShift (.d (.int a)) (.d (.int b)) Q := fun κ σ s va vb X ⟨t, ea⟩ ⟨u, eb⟩ => by
  subst ea; subst eb; exact PyProof.Rows.rshift_int hn (PA.int (X.toks _ s.drawn) q)
theorem and_ii (q : Q (.d (.int (Builtin.bitAnd a b))) st) : wBin C A G st .BitAnd (.d (.int a)) (.d (.int b)) Q := fun κ σ s va vb X ⟨t, ea⟩ ⟨u, eb⟩ => by
  subst ea; subst eb; exact PyProof.Rows.and_int (PA.int (X.toks _ s.drawn) q)
theorem neg_i (q : Q (.d (.int (-a))) st) : wUn C A G st .USub (.d (.int a)) Q := fun κ σ s va X ⟨t, ea⟩ => by
  subst ea; exact P.neg_int (PA.int (X.toks _ s.drawn) q)
theorem add_ss {x y : Str} (hsz : x.length + y.length ≤ sizeLine) (q : Q (.d (.str (x ++ y))) st) : wBin C A G st .Add (.d (.str x)) (.d (.str y)) Q := fun κ σ s va vb X ⟨t, ea⟩ ⟨u, eb⟩ => by
  subst ea; subst eb; exact PyProof.Rows.add_str (fun t' tk => PA.str (X.toks tk s.drawn) q) hsz
theorem lt_ii (q : Q (.d (.bool (decide (a < b)))) st) : wCmp C A G st .Lt (.d (.int a)) (.d (.int b)) Q := fun κ σ s va vb X ⟨t, ea⟩ ⟨u, eb⟩ => by
  subst ea; subst eb; exact PyProof.Rows.lt_int (PA.bool X q)
theorem gt_ii (q : Q (.d (.bool (decide (b < a)))) st) : wCmp C A G st .Gt (.d (.int a)) (.d (.int b)) Q := fun κ σ s va vb X ⟨t, ea⟩ ⟨u, eb⟩ => by
  subst ea; subst eb; exact PyProof.Rows.gt_int (PA.bool X q)
theorem le_ii (q : Q (.d (.bool (decide (a ≤ b)))) st) : wCmp C A G st .LtE (.d (.int a)) (.d (.int b)) Q := fun κ σ s va vb X ⟨t, ea⟩ ⟨u, eb⟩ => by
  subst ea; subst eb; exact PyProof.Rows.le_int (PA.bool X q)
theorem eq_ii (q : Q (.d (.bool (a == b))) st) : wCmp C A G st .Eq (.d (.int a)) (.d (.int b)) Q := fun κ σ s va vb X ⟨t, ea⟩ ⟨u, eb⟩ => by
  subst ea; subst eb; exact PyProof.Rows.eq_int (PA.bool X q)
theorem ne_ii (q : Q (.d (.bool (a != b))) st) : wCmp C A G st .NotEq (.d (.int a)) (.d (.int b)) Q := fun κ σ s va vb X ⟨t, ea⟩ ⟨u, eb⟩ => by
  subst ea; subst eb; exact PyProof.Rows.ne_int (PA.bool X q)
theorem eq_ss {a b : Str} (q : Q (.d (.bool (a == b))) st) : wCmp C A G st .Eq (.d (.str a)) (.d (.str b)) Q := fun κ σ s va vb X ⟨t, ea⟩ ⟨u, eb⟩ => by
  subst ea; subst eb; exact PyProof.Rows.eq_str (PA.bool X q)
theorem ne_ss {a b : Str} (q : Q (.d (.bool (a != b))) st) : wCmp C A G st .NotEq (.d (.str a)) (.d (.str b)) Q := fun κ σ s va vb X ⟨t, ea⟩ ⟨u, eb⟩ => by
  subst ea; subst eb; exact PyProof.Rows.ne_str (PA.bool X q)
theorem ne_bb {a b : Bool} (q : Q (.d (.bool (a != b))) st) : wCmp C A G st .NotEq (.d (.bool a)) (.d (.bool b)) Q := fun κ σ s va vb X ea eb => by
  cases (ea : va = _); cases (eb : vb = _); exact PyProof.Rows.ne_bool (PA.bool X q)
theorem tr_b {c : Bool} {Q : Bool → List AObj → Prop} (q : Q c st) : wTr C A G st (.d (.bool c)) Q := fun κ σ s va X ea => by
  cases (ea : va = _); exact wpAny_truthy_bool (PA.ret (b := c) X rfl q)
theorem tr_i {Q : Bool → List AObj → Prop} (q : Q (a != 0) st) : wTr C A G st (.d (.int a)) Q := fun κ σ s va X ⟨t, ea⟩ => by
  subst ea; exact P.truthy_int (PA.ret (b := (a != 0)) X rfl q)
mutual
theorem R.reads {κ : Kp} {h : Heap} (k : ∀ b o, κ b = some o → h.get? b = some o) : ∀ {d : D} {v : Value}, R κ d v → ∃ as, Reads h v d as
  | .none, _, h => by cases (h : _ = _); exact ⟨_, .none⟩
  | .bool _, _, h => by cases (h : _ = _); exact ⟨_, .bool _⟩
  | .int _, _, h => by obtain ⟨t, rfl⟩ := (h : ∃ _, _); exact ⟨_, .int _ _⟩
  | .str _, _, h => by obtain ⟨t, rfl⟩ := (h : ∃ _, _); exact ⟨_, .str _ _⟩
  | .list _, _, h => by
    simp only [R] at h
    refine byC fun hC1 => ?_
    obtain ⟨a, o, vs, n, rfl, h2, h3, h4, h5, h6⟩ := h
    obtain ⟨as, h7⟩ := RL.reads k h6
    refine hC1 ?_
    exact ⟨_, .list (k _ _ h2) h3 h5 h7⟩
  | .tuple _, _, h => by
    simp only [R] at h
    refine byC fun hC2 => ?_
    obtain ⟨a, o, vs, n, rfl, h2, h3, h4, h5, h6⟩ := h
    obtain ⟨as, h7⟩ := RL.reads k h6
    refine hC2 ?_
    exact ⟨_, .tuple (k _ _ h2) h3 h5 h7⟩
  | .dict _, _, h => h.elim
theorem RL.reads {κ : Kp} {h : Heap} (k : ∀ b o, κ b = some o → h.get? b = some o) : ∀ {d : List D} {v : List Value}, RL κ d v → ∃ as, ReadsAll h v d as
  | [], _, h => by cases h; exact ⟨_, .nil⟩
  | _ :: _, _, h => by
    simp only [RL] at h
    refine byC fun hC1 => ?_
    obtain ⟨v, r, rfl, h2, h3⟩ := h
    obtain ⟨as, h4⟩ := R.reads k h2
    obtain ⟨bs, h5⟩ := RL.reads k h3
    refine hC1 ?_
    exact ⟨_, .cons h4 h5⟩
end
theorem ne_dd {x y : D} (hA : A.units + 64 < cLine) (hx : shaped x = true) (hy : shaped y = true) (q : Q (.d (.bool (!PyData.eqv x y))) st) : wCmp C A G st .NotEq (.d x) (.d y) Q := fun κ σ s va vb X ra rb => by
  refine byC fun hC1 => ?_
  obtain ⟨as, ra⟩ := R.reads X.keep ra
  obtain ⟨bs, rb⟩ := R.reads X.keep rb
  refine hC1 ?_
  exact ne_dataH ra rb hx hy hA (PA.bool X q)
end
end Mine
end
section
open PySem PySem.Calls PyProof.Rows PySem.W PySem.SeqAt
namespace Mine
noncomputable def CalleeOk (s : Shared) (f : Value) : Prop := (∃ id, f = .builtin id) ∨ (∃ T, f = .type T) ∨ ∃ a o fd, f = .ref a ∧ s.heap.get? a = some o ∧ o.data = .func fd
section
variable {M : Model} {A : Around} {E : Value → Shared → Prop} {s : Shared}
theorem evalArgs_go {f : Value} {args : List (Bool × Sem Value)} {keywords : List (Option Str × Sem Value)} {Q : Args → Shared → Prop} (hs : args.all (fun x => !x.1) = true) (hk : keywords.all (·.1.isSome) = true)
    (h : wpAny M A (spliced args) (fun vs s1 => wpAny M A (evalAll (keywords.map (·.2))) (fun ks s2 => Q ⟨vs, (keywords.filterMap (·.1)).zip ks⟩ s2) E s1) E s) : wpAny M A (evalArgs f true args keywords) Q E s := by
  have fin : ∀ vs s1, wpAny M A (evalAll (keywords.map (·.2))) (fun ks s2 => Q ⟨vs, (keywords.filterMap (·.1)).zip ks⟩ s2) E s1 →
      wpAny M A (evalAll (keywords.map (·.2)) >>= fun ks => (pure vs : Sem (List Value)) >>= fun p => pure (⟨p, (keywords.filterMap (·.1)).zip ks⟩ : Args)) Q E s1 := fun vs s1 h1 =>
    wpAny_bind (wpAny_mono h1 (fun ks s2 h2 => wpAny_bind (wpAny_pure (wpAny_pure h2))) fun _ _ z => z)
  unfold evalArgs
  match args, hs, h with
  | [], _, h =>
    show wpAny M A (spliced [] >>= _) Q E s
    refine wpAny_bind (wpAny_mono h (fun vs s1 h1 => ?_) fun _ _ z => z)
    refine wpAny_holding ?_
    simp only [hk, if_true]
    exact fin vs s1 h1
  | (false, x) :: r, _, h =>
    show wpAny M A (spliced ((false, x) :: r) >>= _) Q E s
    refine wpAny_bind (wpAny_mono h (fun vs s1 h1 => ?_) fun _ _ z => z)
    refine wpAny_holding ?_
    simp only [hk, if_true]
    exact fin vs s1 h1
  | (true, x) :: r, hs, _ => simp at hs
theorem callWith_go {pos : Pos} {f : Value} {first : List Value} {args : List (Bool × Sem Value)} {keywords : List (Option Str × Sem Value)} {Q : Value → Shared → Prop} (hs : args.all (fun x => !x.1) = true) (hk : keywords.all (·.1.isSome) = true)
    (h : wpAny M A (spliced args) (fun vs s1 => wpAny M A (evalAll (keywords.map (·.2))) (fun ks s2 => CalleeOk s2 f ∧ wpAny M A (call f (first ++ vs) ((keywords.filterMap (·.1)).zip ks)) Q E s2) E s1) E s) :
    wpAny M A (callWith pos f first args keywords) Q E s := by
  unfold callWith
  refine wpAny_bind (wpAny_holding (wpAny_mono (evalArgs_go (Q := fun x s2 => CalleeOk s2 f ∧ wpAny M A (call f (first ++ x.pos) x.kw) Q E s2) hs hk h) (fun x s1 h1 => wpAny_bind (wpAny_standAt ?_)) fun _ _ z => z))
  have e1 : args.any (·.1) = false := by
    rw [List.any_eq_false]
    intro x hx
    have := List.all_eq_true.mp hs x hx
    simpa using this
  have e2 : keywords.any (·.1.isNone) = false := by
    rw [List.any_eq_false]
    intro x hx
    have := List.all_eq_true.mp hk x hx
    rw [Option.isSome_iff_ne_none] at this
    simpa using this
  have tail : ∀ {t : Sem Value}, wpAny M A t Q E s1 → wpAny M A (t >>= fun r => holding [r] point >>= fun _ => pure r) Q E s1 :=
    fun ht => wpAny_bind (wpAny_mono ht (fun r s2 hr => wpAny_bind (wpAny_holding (wpAny_point (wpAny_pure hr)))) fun _ _ z => z)
  simp only [e1, e2, Bool.or_false]
  rcases h1 with ⟨⟨id, rfl⟩ | ⟨T, rfl⟩ | ⟨a, o, fd, rfl, ho, hd⟩, h1⟩
  · exact wpAny_bind (wpAny_pure (tail h1))
  · exact wpAny_bind (wpAny_pure (tail h1))
  · refine wpAny_bind (m := keeperOf (.ref a)) ?_
    unfold keeperOf
    refine wpAny_bind (wpAny_load ho ?_)
    rw [hd]
    refine wpAny_pure ?_
    refine wpAny_ite ?_
    split
    · exact tail h1
    · exact tail (by unfold callMarked; exact Calls.wpAny_keep h1)
end
section
variable {C : Cx} {A : Around} {G : Gd} {ae : AEnv} {st : List AObj}
noncomputable def wArgs (C : Cx) (A : Around) (G : Gd) (ae : AEnv) (st : List AObj) (pos : Pos) (es : List Expr) (Q : List AV → List AObj → Prop) : Prop := W RVL C A G ae st (spliced (backTo pos (starEach es G.env))) Q
theorem wArgs_nil {pos : Pos} {Q : List AV → List AObj → Prop} (q : Q [] st) : wArgs C A G ae st pos [] Q := fun κ σ s e X => args_nil (PA.ret (b := []) X RVL.nil q)
theorem wArgs_cons {pos : Pos} {x : Expr} {r : List Expr} {Q : List AV → List AObj → Prop} (he : ∀ env, starEach (x :: r) env = (false, eval x env) :: starEach r env)
    (h : wE C A G ae st x fun a st1 => wArgs C A G ae st1 pos r fun as st2 => Q (a :: as) st2) : wArgs C A G ae st pos (x :: r) Q := fun κ σ s e X =>
  args_cons (wpAny_mono (h κ σ s e X) (fun v s1 z => z.go fun κ1 σ1 a st1 k1 p1 X1 r1 q1 =>
    wpAny_mono (q1 κ1 σ1 s1 (e.mono p1) X1) (fun vs s2 z => z.go fun κ2 σ2 as st2 k2 p2 X2 r2 q2 => ⟨κ2, σ2, a :: as, st2, k1.trans k2, p1.trans p2, X2, RVL.cons (r1.mono k2 p2) r2, q2⟩) fun _ _ z => z) fun _ _ z => z) (he _)
noncomputable def wKws (C : Cx) (A : Around) (G : Gd) (ae : AEnv) (st : List AObj) (pos : Pos) (ks : List Keyword) (Q : List AV → List AObj → Prop) : Prop := W RVL C A G ae st (evalAll ((backToKw pos (keywordEach ks G.env)).map (·.2))) Q
theorem wKws_nil {pos : Pos} {Q : List AV → List AObj → Prop} (q : Q [] st) : wKws C A G ae st pos [] Q := fun κ σ s e X => wpAny_evalAll_nil (PA.ret (b := []) X RVL.nil q)
noncomputable def wCall (C : Cx) (A : Around) (G : Gd) (st : List AObj) (f : AV) (as : List AV) (names : List Str) (ks : List AV) (Q : AV → List AObj → Prop) : Prop :=
  ∀ κ σ s vf vs kvs, Rel C G.φ G.κ₀ κ σ st s → RV κ σ f vf → RVL κ σ as vs → RVL κ σ ks kvs → CalleeOk s vf ∧ wpAny (model C.prog C.w) A (call vf vs (names.zip kvs)) (PA RV C G.φ G.κ₀ κ σ Q) G.E s
theorem wE_call {x : Str} {np pos : Pos} {args : List Expr} {kws : List Keyword} {Q : AV → List AObj → Prop} (hs : ∀ env, (backTo pos (starEach args env)).all (fun x => !x.1) = true) (hk : ∀ env, (backToKw pos (keywordEach kws env)).all (·.1.isSome) = true)
    (names : List Str) (hn : ∀ env, (backToKw pos (keywordEach kws env)).filterMap (·.1) = names)
    (h : wE C A G ae st (.Name x np) fun f st1 => wArgs C A G ae st1 pos args fun as st2 => wKws C A G ae st2 pos kws fun ks st3 => wCall C A G st3 f as names ks Q) : wE C A G ae st (.Call (.Name x np) args kws pos) Q := fun κ σ s e X =>
  wpAny_Call_ofName (wpAny_mono (h κ σ s e X) (fun vf s1 z => z.go fun κ1 σ1 f st1 k1 p1 X1 r1 q1 => callWith_go (hs _) (hk _)
    (wpAny_mono (q1 κ1 σ1 s1 (e.mono p1) X1) (fun vs s2 z => z.go fun κ2 σ2 as st2 k2 p2 X2 r2 q2 =>
      wpAny_mono (q2 κ2 σ2 s2 (e.mono (p1.trans p2)) X2) (fun kvs s3 z => z.go fun κ3 σ3 ks st3 k3 p3 X3 r3 q3 => by
        have q := q3 κ3 σ3 s3 vf vs kvs X3 (r1.mono (k2.trans k3) (p2.trans p3)) (r2.mono k3 p3) r3
        exact ⟨q.1, PA.wp ((k1.trans k2).trans k3) ((p1.trans p2).trans p3) (by rw [hn, List.nil_append]; exact q.2)⟩) fun _ _ z => z) fun _ _ z => z)) fun _ _ z => z)
theorem wE_call0 {x : Str} {np pos : Pos} {args : List Expr} {Q : AV → List AObj → Prop} (hs : ∀ env, (backTo pos (starEach args env)).all (fun x => !x.1) = true)
    (h : wE C A G ae st (.Name x np) fun f st1 => wArgs C A G ae st1 pos args fun as st2 => wCall C A G st2 f as [] [] Q) : wE C A G ae st (.Call (.Name x np) args [] pos) Q :=
  wE_call hs (fun _ => rfl) [] (fun _ => rfl) (h.mono fun f st1 h1 => W.mono h1 fun as st2 h2 => wKws_nil h2)
end
end Mine
end
section
open PySem PySem.Calls PyProof.Rows PySem.W PySem.SeqAt
namespace Mine
noncomputable def RU (_ : Kp) (_ : List Addr) (_ : Unit) (_ : Unit) : Prop := True
section
variable {C : Cx} {A : Around} {G : Gd} {ae : AEnv} {st : List AObj}
noncomputable def wStore (C : Cx) (A : Around) (G : Gd) (ae : AEnv) (st : List AObj) (x : Str) (a : AV) (Q : List AObj → Prop) : Prop :=
  ∀ κ σ s v, EnvR ae σ G.env → Rel C G.φ G.κ₀ κ σ st s → RV κ σ a v → wpAny (model C.prog C.w) A (storeName G.env x v) (PA RU C G.φ G.κ₀ κ σ fun _ => Q) G.E s
theorem st_local (i : Nat) {x : Str} {names : List Str} {vars : List (Option AV)} {a : AV} {Q : List AObj → Prop} (hk : ae.scope.names[i]? = some (x, .local))
    (hns : st[ae.L]? = some (.ns names vars)) (hn : names[i]? = some x) (q : Q (st.set ae.L (.ns names (vars.set i (some a))))) : wStore C A G ae st x a Q := fun κ σ s v e X r => by
  refine byC fun hC1 => ?_
  obtain ⟨L, o, hL, _, _, ho, hnd, m, hm, hr⟩ := X.get hns trivial
  obtain rfl := Option.some.inj (e.loc.symm.trans hL)
  refine hC1 ?_
  refine wpAny_storeName_local (e.kindOf hk) (hm.ns ho) (fun h' hn' hs => ?_) (by rw [e.kind]; rfl)
  refine byC fun hC2 => ?_
  obtain ⟨o', es, ep, ho', hd', hs1, hs2⟩ := hn'
  refine hC2 ?_
  refine ⟨κ, σ, (), _, Kle.refl _, List.prefix_refl _, X.upd (o := o') (y := .ns names (vars.set i (some a))) hns trivial hL (fun b o hb e => (hs.2 b hb).trans e) ho' rfl rfl ⟨hnd, _, ⟨es, ep, hd', hs1, hs2⟩, fun j y b ej ev => ?_⟩ trivial, trivial, q⟩
  by_cases hij : i = j
  · subst hij
    rw [hn] at ej; cases ej
    by_cases hl : i < vars.length
    · rw [List.getElem?_set_self hl] at ev; cases ev
      exact ⟨v, by simp, r⟩
    · exact nope (List.getElem?_eq_none (by simp; lia)) ev
  · rw [List.getElem?_set_ne hij] at ev
    refine byC fun hC3 => ?_
    obtain ⟨u, h1, h2⟩ := hr j y b ej ev
    refine hC3 ?_
    have hne : y ≠ x := fun q => by
      subst q
      obtain ⟨h1, e1⟩ := List.getElem?_eq_some_iff.mp hn
      obtain ⟨h2, e2⟩ := List.getElem?_eq_some_iff.mp ej
      exact hij ((List.getElem_inj hnd).mp (e1.trans e2.symm))
    exact ⟨u, by rw [if_neg hne]; exact h1, h2⟩
theorem st_cell (i j k : Nat) {x : Str} {b : Option AV} {a : AV} {Q : List AObj → Prop} (hk : ae.scope.names[i]? = some (x, .cell))
    (hc : ae.cells[j]? = some (x, k)) (ho : st[k]? = some (.cell b)) (q : Q (st.set k (.cell (some a)))) : wStore C A G ae st x a Q := fun κ σ s v e X r => by
  refine byC fun hC1 => ?_
  obtain ⟨c, o, hL, _, _, hoo, hr⟩ := X.get ho trivial
  obtain ⟨c', h1, h2⟩ := e.cell hc
  obtain rfl := Option.some.inj (h2.symm.trans hL)
  have hcell : ∃ v₀, s.heap.IsCell c' v₀ := by
    cases b with
    | none => obtain ⟨v₀, hd⟩ := hr; exact ⟨v₀, o, hoo, hd⟩
    | some b => obtain ⟨v₀, hd, _⟩ := hr; exact ⟨some v₀, o, hoo, hd⟩
  obtain ⟨v₀, hcell⟩ := hcell
  refine hC1 ?_
  refine wpAny_storeName_cell e.kind (e.kindOf hk) h1 hcell fun h' hv hs => ?_
  refine byC fun hC2 => ?_
  obtain ⟨o', ho', hd'⟩ := hv
  refine hC2 ?_
  exact ⟨κ, σ, (), _, Kle.refl _, List.prefix_refl _, X.upd (o := o') (y := .cell (some a)) ho trivial hL (fun b o hb e => (hs.2 b hb).trans e) ho' rfl rfl ⟨v, hd', r⟩ trivial, trivial, q⟩
theorem wS_assign {x : Str} {p pos : Pos} {value : Expr} {Q : AF → List AObj → Prop} (hs : ∀ env, swapsWith value (some (.Name x p)) pos.line env = pure false)
    (h : wE C A G ae st value fun a st1 => wStore C A G ae st1 x a fun st2 => Q .next st2) : wS C A G ae st (.Assign [.Name x p] value pos) Q := fun κ σ s e X =>
  wpAny_Assign_Name (wpAny_mono (h κ σ s e X) (fun v s1 z => z.go fun κ1 σ1 a st1 k1 p1 X1 r1 q1 =>
    wpAny_mono (q1 κ1 σ1 s1 v (e.mono p1) X1 r1) (fun _ s2 z => z.go fun κ2 σ2 _ st2 k2 p2 X2 _ q2 => ⟨κ2, σ2, .next, st2, k1.trans k2, p1.trans p2, X2, rfl, q2⟩) fun _ _ z => z) fun _ _ z => z) (hs _)
noncomputable def wInp (C : Cx) (A : Around) (G : Gd) (st : List AObj) (op : Operator) (a b : AV) (Q : AV → List AObj → Prop) : Prop :=
  ∀ κ σ s va vb, Rel C G.φ G.κ₀ κ σ st s → RV κ σ a va → RV κ σ b vb → wpAny (model C.prog C.w) A (inplaceOp op va vb) (PA RV C G.φ G.κ₀ κ σ Q) G.E s
theorem ixor_ii {a b : Int} {Q : AV → List AObj → Prop} (q : Q (.d (.int (Builtin.bitXor a b))) st) : wInp C A G st .BitXor (.d (.int a)) (.d (.int b)) Q := fun κ σ s va vb X ⟨t, ea⟩ ⟨u, eb⟩ => by
  subst ea; subst eb; exact PyProof.Rows.ixor_int (PA.int (X.toks _ s.drawn) q)
theorem wS_aug (i : Nat) {x : Str} {p pos : Pos} {op : Operator} {value : Expr} {names : List Str} {vars : List (Option AV)} {a : AV} {Q : AF → List AObj → Prop} (hk : ae.scope.names[i]? = some (x, .local))
    (hns : st[ae.L]? = some (.ns names vars)) (hn : names[i]? = some x) (hv : vars[i]? = some (some a))
    (h : wE C A G ae st value fun b st1 => wInp C A G st1 op a b fun c st2 => wStore C A G ae st2 x c fun st3 => Q .next st3) : wS C A G ae st (.AugAssign (.Name x p) op value pos) Q := fun κ σ s e X => by
  refine byC fun hC1 => ?_
  obtain ⟨L, o, hL, _, _, ho, _, m, hm, hr⟩ := X.get hns trivial
  obtain rfl := Option.some.inj (e.loc.symm.trans hL)
  obtain ⟨v, h1, r0⟩ := hr i x a hn hv
  refine hC1 ?_
  exact wpAny_AugAssign_Name (wpAny_loadName_local e.kind (e.kindOf hk) (hm.ns ho) h1 (wpAny_mono (h κ σ s e X) (fun u s1 z => z.go fun κ1 σ1 b st1 k1 p1 X1 r1 q1 =>
    wpAny_mono (q1 κ1 σ1 s1 v u X1 (r0.mono k1 p1) r1) (fun y s2 z => z.go fun κ2 σ2 c st2 k2 p2 X2 r2 q2 =>
      wpAny_mono (q2 κ2 σ2 s2 y (e.mono (p1.trans p2)) X2 r2) (fun _ s3 z => z.go fun κ3 σ3 _ st3 k3 p3 X3 _ q3 => ⟨κ3, σ3, .next, st3, (k1.trans k2).trans k3, (p1.trans p2).trans p3, X3, rfl, q3⟩) fun _ _ z => z) fun _ _ z => z) fun _ _ z => z))
theorem wS_expr {x : Expr} {pos : Pos} {Q : AF → List AObj → Prop} (hs : ∀ env, swapsWith x none pos.line env = pure false) (h : wE C A G ae st x fun _ st1 => Q .next st1) : wS C A G ae st (.Expr x pos) Q := fun κ σ s e X =>
  wpAny_Expr_any (wpAny_mono (h κ σ s e X) (fun v s1 z => z.go fun κ1 σ1 a st1 k1 p1 X1 r1 q1 => ⟨κ1, σ1, .next, st1, k1, p1, X1, rfl, q1⟩) fun _ _ z => z)
    (by unfold interactive; rw [e.kind]; rfl) (hs _)
noncomputable def wBi (C : Cx) (A : Around) (G : Gd) (st : List AObj) (f : Value) (as : List AV) (Q : AV → List AObj → Prop) : Prop :=
  ∀ κ σ s vs, Rel C G.φ G.κ₀ κ σ st s → RVL κ σ as vs → wpAny (model C.prog C.w) A (call f vs) (PA RV C G.φ G.κ₀ κ σ Q) G.E s
theorem wCall_bi {id : String} {as : List AV} {Q : AV → List AObj → Prop} (h : wBi C A G st (.builtin id) as Q) : wCall C A G st (.glob (.builtin id)) as [] [] Q := fun κ σ s vf vs kvs X rf ra _ => by
  cases (rf : vf = _); exact ⟨.inl ⟨_, rfl⟩, h κ σ s vs X ra⟩
theorem wCall_ty {T : String} {as : List AV} {Q : AV → List AObj → Prop} (h : wBi C A G st (.type T) as Q) : wCall C A G st (.glob (.type T)) as [] [] Q := fun κ σ s vf vs kvs X rf ra _ => by
  cases (rf : vf = _); exact ⟨.inr (.inl ⟨_, rfl⟩), h κ σ s vs X ra⟩
noncomputable def HasTy (C : Cx) (st : List AObj) (a : AV) (T : String) : Prop :=
  ∀ φ κ₀ κ σ s v, Rel C φ κ₀ κ σ st s → RV κ σ a v → s.TypeIs v T ∧ ∀ x, v = .ref x → ∃ ob, s.heap.get? x = some ob ∧ ob.dict = none
theorem hasTy_str {x : Str} : HasTy C st (.d (.str x)) "str" := fun φ κ₀ κ σ s v X ⟨t, e⟩ => by subst e; exact ⟨typeIs_str s x t, fun _ q => nomatch q⟩
theorem hasTy_list {i : Nat} {l : List AV} (h : st[i]? = some (.list l)) : HasTy C st (.obj i) "list" := fun φ κ₀ κ σ s v X ⟨a, ha, e⟩ => by
  subst e
  refine byC fun hC1 => ?_
  obtain ⟨a', o, ha', _, _, ho, ws, n, rfl, _⟩ := X.get h trivial
  refine hC1 ?_
  rw [ha] at ha'; cases ha'
  exact ⟨⟨_, ho, rfl⟩, fun x q => by cases q; exact ⟨_, ho, rfl⟩⟩
theorem wE_meth {o : Expr} {name : Str} {apos pos : Pos} {args : List Expr} {T id : String} {Q : AV → List AObj → Prop} (hbase : ∀ env, attributeBase o name env (eval o env) = eval o env)
    (hfew : ∀ env, ((backTo pos (starEach args env)).all (fun x => !x.1) && (backToKw pos (keywordEach [] env)).all (fun x => x.1.isSome) && decide (args.length + ([] : List Keyword).length + (if ([] : List Keyword).isEmpty then 0 else 1) < 30)) = true)
    (hline : (apos.endLine == pos.line) = true) (pa : PlainAttrs T) (slot : Slot T name id) (hty : typeOf (.builtin id) = pure (.type "method_descriptor"))
    (h : wE C A G ae st o fun a st1 => HasTy C st1 a T ∧ wArgs C A G ae st1 pos args fun as st2 => wBi C A G st2 (.builtin id) (a :: as) Q) : wE C A G ae st (.Call (.Attribute o name apos) args [] pos) Q := fun κ σ s e X =>
  wpAny_Call_method (hbase _) (hfew _) hline pa slot hty (wpAny_mono (h κ σ s e X) (fun ov s1 z => z.go fun κ1 σ1 a st1 k1 p1 X1 r1 q1 => by
    obtain ⟨ht, q1⟩ := q1
    have ht' := ht _ _ _ _ _ _ X1 r1
    refine ⟨ht'.1, ht'.2, callWith_go (by have := hfew G.env; simp only [Bool.and_eq_true] at this; exact this.1.1) rfl ?_⟩
    refine wpAny_mono (q1 κ1 σ1 s1 (e.mono p1) X1) (fun vs s2 z => z.go fun κ2 σ2 as st2 k2 p2 X2 r2 q2 => ?_) fun _ _ z => z
    exact wpAny_evalAll_nil ⟨.inl ⟨_, rfl⟩, PA.wp (k1.trans k2) (p1.trans p2) (q2 κ2 σ2 s2 (ov :: vs) X2 (RVL.cons (r1.mono k2 p2) r2))⟩) fun _ _ z => z)
theorem bi_append {i : Nat} {l : List AV} {a : AV} {Q : AV → List AObj → Prop} (hi : st[i]? = some (.list l)) (hsz : l.length ≤ sizeLine) (q : Q (.d .none) (st.set i (.list (l ++ [a])))) :
    wBi C A G st (.builtin "list.append") [.obj i, a] Q := fun κ σ s vs X ⟨hl, hr⟩ => by
  refine byC fun hC1 => ?_
  obtain ⟨v, u, rfl⟩ : ∃ v u, vs = [v, u] := len2 hl
  obtain ⟨v', e1, ⟨b, hb, rfl⟩⟩ := hr 0 _ rfl
  obtain ⟨u', e2, ru⟩ := hr 1 _ rfl
  simp at e1 e2
  subst e1; subst e2
  obtain ⟨b', o, hb', _, _, ho, ws, n, rfl, hw⟩ := X.get hi trivial
  refine hC1 ?_
  rw [hb] at hb'; cases hb'
  have hP : s.heap.PlainList b ws := ⟨n, ho⟩
  have hsz' : ws.size ≤ sizeLine := by have := hw.1; rw [Array.length_toList] at this; lia
  refine wpAny_list_append_plain hP (fun h' hl' hs => ?_) hsz'
  refine byC fun hC2 => ?_
  obtain ⟨n', ho'⟩ := hl'
  refine hC2 ?_
  exact PA.none (X.upd (y := .list (l ++ [a])) hi trivial hb (fun b o hb e => (hs.2 b hb).trans e) ho' rfl rfl ⟨_, n', rfl, by rw [Array.toList_push]; exact hw.snoc ru⟩ trivial) q
end
end Mine
end
section
open PySem PySem.Calls PyProof.Rows PySem.W PySem.SeqAt
namespace Mine
section
variable {C : Cx} {φ κ₀ κ : Kp} {σ : List Addr} {st : List AObj} {s : Shared}
noncomputable def withOne (κ : Kp) (a : Addr) (o : Obj) : Kp := fun b => if b = a then some o else κ b
theorem withOne_le {a : Addr} {o : Obj} (h : κ a = none) : Kle κ (withOne κ a o) := fun b x e => by
  unfold withOne
  rw [if_neg (fun q => by rw [q, h] at e; cases e)]; exact e
theorem withOne_ne {a b : Addr} {o : Obj} (h : b ≠ a) : withOne κ a o b = κ b := if_neg h
theorem Rel.freeze (X : Rel C φ κ₀ κ σ st s) {i : Nat} {ds : List D} (e : st[i]? = some (.list (ds.map .d))) : ∃ κ', Kle κ κ' ∧ Rel C φ κ₀ κ' σ (st.set i (.frz (.list ds))) s := by
  obtain ⟨a, o, ha, hκ, hφ, ho, vs, n, rfl, hr⟩ := X.get e trivial
  refine ⟨withOne κ a { cls := .type "list", data := .seq vs n }, withOne_le hκ, ?_⟩
  have hle := withOne_le (o := { cls := .type "list", data := .seq vs n }) hκ
  have hil : i < st.length := by
    by_cases q : i < st.length
    · exact q
    · exact nope (List.getElem?_eq_none (by lia)) e
  refine ⟨X.prog.trans hle, X.k0.trans hle, fun b o e' => ?_, fun b o e' => ?_, X.phi, by simp [X.len], X.nd, fun j b z e1 e2 => ?_, fun P hP => ?_, X.gens, X.os⟩
  · by_cases q : b = a
    · subst q; exact .inr hφ
    · rw [withOne_ne q] at e'; exact X.new b o e'
  · by_cases q : b = a
    · subst q; unfold withOne at e'; rw [if_pos rfl] at e'; cases e'; exact ho
    · rw [withOne_ne q] at e'; exact X.keep b o e'
  · by_cases hj : i = j
    · subst hj
      rw [ha] at e1; cases e1
      rw [List.getElem?_set_self hil] at e2; cases e2
      have hs : withOne κ a { cls := .type "list", data := .seq vs n } a = some { cls := .type "list", data := .seq vs n } := if_pos rfl
      exact .frz _ rfl (by simp only [R]; exact ⟨a, _, vs, n, rfl, hs, rfl, rfl, rfl, (hr.toD).mono hle⟩) (by rw [hs]; rfl)
    · rw [List.getElem?_set_ne hj] at e2
      have hba : b ≠ a := fun q => by
        subst q
        obtain ⟨h1, e3⟩ := List.getElem?_eq_some_iff.mp ha
        obtain ⟨h2, e4⟩ := List.getElem?_eq_some_iff.mp e1
        exact hj ((List.getElem_inj X.nd).mp (e3.trans e4.symm))
      exact (X.own j b z e1 e2).map hle (List.prefix_refl _) fun h1 h2 o h3 => ⟨by rw [withOne_ne hba]; exact h1, h2, h3⟩
  · obtain ⟨h1, h2, h3, h4⟩ := X.tabs P hP
    have hPa : P ≠ a := fun q => h4 (q ▸ List.mem_of_getElem? ha)
    exact ⟨h1.keeps hle fun _ e => e, h2, by rw [withOne_ne hPa]; exact h3, h4⟩
noncomputable def AV.below (n : Nat) : AV → Prop
  | .obj i => i < n
  | _ => True
noncomputable def AObj.below (n : Nat) : AObj → Prop
  | .ns _ vars => ∀ (j : Nat) (a : AV), vars[j]? = some (some a) → a.below n
  | .cell (some a) => a.below n
  | .list l => ∀ a ∈ l, a.below n
  | _ => True
noncomputable def ObjLe (n : Nat) : AObj → AObj → Prop
  | .ns names vars, .ns names' vars' => names' = names ∧ ∀ (j : Nat) (a : AV), vars'[j]? = some (some a) → vars[j]? = some (some a) ∧ a.below n
  | x, y => y = x ∧ x.below n
theorem ObjLe.frz {n : Nat} {d : D} {y : AObj} (h : ObjLe n (.frz d) y) : y = .frz d := by
  cases y <;> exact h.1
theorem ObjLe.live {n : Nat} {x y : AObj} (h : ObjLe n x y) (hx : x.live) : y.live := by
  cases y with
  | frz => cases x with
    | frz => exact hx
    | _ => cases h.1
  | _ => trivial
noncomputable def Sub (n : Nat) (st st' : List AObj) : Prop := st'.length = n ∧ n ≤ st.length ∧ ∀ (i : Nat) (x y : AObj), i < n → st[i]? = some x → st'[i]? = some y → ObjLe n x y
theorem RV.cut {n : Nat} {a : AV} {v : Value} (h : RV κ σ a v) (hb : a.below n) : RV κ (σ.take n) a v := by
  cases a with
  | d x => exact h
  | obj i =>
    obtain ⟨a, h1, h2⟩ := h
    exact ⟨a, by rw [List.getElem?_take_of_lt hb]; exact h1, h2⟩
  | glob w => exact h
theorem RO.cut {n : Nat} {x y : AObj} {o : Obj} (h : RO κ σ x o) (hl : ObjLe n x y) : RO κ (σ.take n) y o := by
  cases x with
  | ns names vars =>
    cases y with
    | ns names' vars' =>
      obtain ⟨rfl, hl⟩ := hl
      obtain ⟨h1, m, h2, h3⟩ := h
      exact ⟨h1, m, h2, fun j z a e1 e2 => let ⟨v, h4, h5⟩ := h3 j z a e1 (hl j a e2).1; ⟨v, h4, h5.cut (hl j a e2).2⟩⟩
    | cell => cases hl.1
    | list => cases hl.1
    | frz => cases hl.1
    | raw => cases hl.1
  | cell a =>
    obtain ⟨rfl, hb⟩ := (show y = .cell a ∧ (AObj.cell a).below n by cases y <;> exact hl)
    cases a with
    | none => exact h
    | some a => obtain ⟨v, h1, h2⟩ := h; exact ⟨v, h1, h2.cut hb⟩
  | list l =>
    obtain ⟨rfl, hb⟩ := (show y = .list l ∧ (AObj.list l).below n by cases y <;> exact hl)
    obtain ⟨vs, m, h1, h2, h3⟩ := h
    exact ⟨vs, m, h1, h2, fun i a e => let ⟨v, h4, h5⟩ := h3 i a e; ⟨v, h4, h5.cut (hb a (List.mem_of_getElem? e))⟩⟩
  | frz d =>
    obtain ⟨rfl, hb⟩ := (show y = .frz d ∧ (AObj.frz d).below n by cases y <;> exact hl)
    trivial
  | raw P =>
    obtain ⟨rfl, hb⟩ := (show y = .raw P ∧ (AObj.raw P).below n by cases y <;> exact hl)
    exact h
theorem Rel.sub (X : Rel C φ κ₀ κ σ st s) {n : Nat} {st' : List AObj} (h : Sub n st st') : Rel C φ κ₀ κ (σ.take n) st' s := by
  obtain ⟨h1, h2, h3⟩ := h
  refine ⟨X.prog, X.k0, X.new, X.keep, X.phi, by simp [X.len, h1, h2], X.nd.sublist (List.take_sublist ..), fun i a y e1 e2 => ?_, fun P hP => ?_, X.gens, X.os⟩
  · have hi : i < n := by
      by_cases q : i < n
      · exact q
      · exact nope (List.getElem?_eq_none (by lia)) e2
    rw [List.getElem?_take_of_lt hi] at e1
    obtain ⟨x, ex⟩ : ∃ x, st[i]? = some x := ⟨st[i]'(by lia), by simp⟩
    have hl := h3 i x y hi ex e2
    rcases X.own i a x e1 ex with ⟨d, rfl, r, hs⟩ | ⟨hx, q1, q2, o, q3, q4⟩
    · exact .frz d (hl.frz) r hs
    · exact .own (hl.live hx) q1 q2 o q3 (q4.cut hl)
  · obtain ⟨q1, q2, q3, q4⟩ := X.tabs P hP
    exact ⟨q1, q2, q3, fun hm => q4 (List.mem_of_mem_take hm)⟩
end
section
variable {C : Cx} {A : Around} {G : Gd} {ae : AEnv} {st : List AObj}
noncomputable def Closed (st : List AObj) : Prop := ∀ (i : Nat) (x : AObj), st[i]? = some x → x.below st.length
theorem closedOf {st : List AObj} {n : Nat} (hn : st.length = n) (h : ∀ x ∈ st, x.below n) : Closed st := fun i x e => hn ▸ h x (List.mem_of_getElem? e)
noncomputable def OptB (n : Nat) (o : Option AV) : Prop := ∀ a, o = some a → a.below n
theorem OptB.none {n : Nat} : OptB n none := fun _ e => nomatch e
theorem OptB.obj {n i : Nat} (h : i < n) : OptB n (some (.obj i)) := fun a e => by cases e; exact h
theorem nsBelow {n : Nat} {N : List Str} {vars : List (Option AV)} (h : ∀ o ∈ vars, OptB n o) : (AObj.ns N vars).below n := fun _ a e => h (some a) (List.mem_of_getElem? e) a rfl
theorem Closed.sub {st st' : List AObj} (h : Closed st) : Sub st.length (st ++ st') st := ⟨rfl, by simp, fun i x y hi e1 e2 => by
  rw [List.getElem?_append_left hi, e2] at e1; cases e1
  have hb := h i x e2
  cases x with
  | ns names vars => exact ⟨rfl, fun j a e => ⟨e, hb j a e⟩⟩
  | cell a => exact ⟨rfl, hb⟩
  | list l => exact ⟨rfl, hb⟩
  | frz d => exact ⟨rfl, hb⟩
  | raw P => exact ⟨rfl, hb⟩⟩
noncomputable def RangeO (a b : Int) (o : Obj) : Prop := ∃ t u v, o = { cls := .type "range", data := .fields #[.int a t, .int b u, .int 1 v] }
noncomputable def upto (a : Int) (n : Nat) : List D := (List.range n).map fun (i : Nat) => PyData.int (a + (i : Int))
theorem upto_get {a : Int} {n k : Nat} {x : D} (h : (upto a n)[k]? = some x) : x = .int (a + k) ∧ k < n := by
  unfold upto at h
  rw [List.getElem?_map] at h
  by_cases q : k < n
  · rw [List.getElem?_range q] at h; cases h; exact ⟨rfl, q⟩
  · rw [List.getElem?_eq_none (by simp; lia)] at h; cases h
end
end Mine
end
section
open PySem PySem.Calls PyProof.Rows PySem.W PySem.SeqAt
namespace Mine
section
variable {C : Cx} {A : Around} {G : Gd} {ae : AEnv} {st : List AObj}
noncomputable def Gd.at (G : Gd) (E : Value → Shared → Prop) : Gd := { G with E := E }
noncomputable def wTgt (C : Cx) (A : Around) (G : Gd) (ae : AEnv) (st : List AObj) (target : Expr) (a : AV) (Q : List AObj → Prop) : Prop :=
  ∀ κ σ s v, EnvR ae σ G.env → Rel C G.φ G.κ₀ κ σ st s → RV κ σ a v → wpAny (model C.prog C.w) A (assign target G.env v) (PA RU C G.φ G.κ₀ κ σ fun _ => Q) G.E s
theorem wTgt_name {x : Str} {p : Pos} {a : AV} {Q : List AObj → Prop} (h : wStore C A G ae st x a Q) : wTgt C A G ae st (.Name x p) a Q := fun κ σ s v e X r => wpAny_assign_Name (h κ σ s v e X r)
theorem take_pre {σ σ' : List Addr} (p : σ <+: σ') : σ'.take σ.length = σ := by
  obtain ⟨r, rfl⟩ := p; simp
end
end Mine
end
section
open PySem PySem.Calls PyProof.Rows PySem.W PySem.SeqAt
namespace Mine
section
variable {C : Cx} {A : Around} {G : Gd} {ae : AEnv} {st : List AObj}
theorem wS_while {test : Expr} {body : List Stmt} {pos : Pos} {Q : AF → List AObj → Prop} (n : Nat) (I : Nat → List AObj → Prop) (hI : ∀ m st1, I m st1 → st1.length = n) (m : Nat) (h0 : I m st)
    (turn : ∀ E' m st1, I m st1 → wB C A (G.at E') ae st1 test fun b st2 => if b then wSs C A (G.at E') ae st2 body fun f st3 => match f with
        | .next | .cont => ∃ m', m' < m ∧ ∃ st4, Sub n st3 st4 ∧ I m' st4
        | .brk => ∃ st4, Sub n st3 st4 ∧ Q .next st4
        | .ret a => Q (.ret a) st3
      else ∃ st4, Sub n st2 st4 ∧ Q .next st4) : wS C A G ae st (.While test body [] pos) Q := fun κ σ s e X => by
  have hlen : σ.length = n := by rw [X.len]; exact hI m st h0
  refine wpAny_While (codeAny_whileLoop (fun m s' => ∃ κ' st', Kle κ κ' ∧ Rel C G.φ G.κ₀ κ' σ st' s' ∧ I m st') ?_ m ⟨κ, st, Kle.refl _, X, h0⟩)
  rintro m s' ⟨κ', st', kle, X', hi⟩
  refine wpAny_mono (turn (notedBy (model C.prog C.w) A G.env fun e s' => cameBackBy (model C.prog C.w) A G.env G.E e s') m st' hi κ' σ s' e X') (fun b s2 z => z.go fun κ2 σ2 b' st2 k2 p2 X2 r2 q2 => ?_) fun _ _ z => z
  cases (r2 : b = b')
  have cut : ∀ {κ' : Kp} {σ' : List Addr} {st5 st6 : List AObj} {s5 : Shared}, σ <+: σ' → Rel C G.φ G.κ₀ κ' σ' st5 s5 → Sub n st5 st6 → Rel C G.φ G.κ₀ κ' σ st6 s5 := fun p Y hs => by
    have := Y.sub hs
    rw [← hlen, take_pre p] at this
    exact this
  cases b with
  | false =>
    refine byC fun hC1 => ?_
    obtain ⟨st4, hs, q⟩ := q2
    refine hC1 ?_
    exact wpAny_execs_nil ⟨κ2, σ, .next, st4, kle.trans k2, List.prefix_refl _, cut p2 X2 hs, rfl, q⟩
  | true =>
    refine wpAny_mono (q2 κ2 σ2 s2 (e.mono p2) X2) (fun f s3 z => z.go fun κ3 σ3 f' st3 k3 p3 X3 r3 q3 => ?_) fun _ _ z => z
    cases f' with
    | next => cases (r3 : f = .next); obtain ⟨m', hm, st4, hs, hi4⟩ := q3; exact ⟨m', hm, κ3, st4, kle.trans (k2.trans k3), cut (p2.trans p3) X3 hs, hi4⟩
    | cont => cases (r3 : f = .cont); obtain ⟨m', hm, st4, hs, hi4⟩ := q3; exact ⟨m', hm, κ3, st4, kle.trans (k2.trans k3), cut (p2.trans p3) X3 hs, hi4⟩
    | brk => cases (r3 : f = .brk); obtain ⟨st4, hs, q⟩ := q3; exact ⟨κ3, σ, .next, st4, kle.trans (k2.trans k3), List.prefix_refl _, cut (p2.trans p3) X3 hs, rfl, q⟩
    | ret a => obtain ⟨u, rfl, ru⟩ := r3; exact ⟨κ3, σ3, .ret a, st3, kle.trans (k2.trans k3), p2.trans p3, X3, ⟨u, rfl, ru⟩, q3⟩
noncomputable def CR (σ : List Addr) (cs : List (Str × Addr)) (ca : List (Str × Nat)) : Prop := cs.map (·.1) = ca.map (·.1) ∧ ∀ (j : Nat) (x : Str) (i : Nat), ca[j]? = some (x, i) → ∃ c, cs[j]? = some (x, c) ∧ σ[i]? = some c
theorem CR.nil {σ : List Addr} : CR σ [] [] := ⟨rfl, fun _ _ _ e => by simp at e⟩
theorem CR.mono {σ σ' : List Addr} {cs : List (Str × Addr)} {ca : List (Str × Nat)} (p : σ <+: σ') (h : CR σ cs ca) : CR σ' cs ca := ⟨h.1, fun j x i e => let ⟨c, h1, h2⟩ := h.2 j x i e; ⟨c, h1, get_pre p h2⟩⟩
theorem CR.cons {σ : List Addr} {cs : List (Str × Addr)} {ca : List (Str × Nat)} {x : Str} {i : Nat} {c : Addr} (h : CR σ cs ca) (e : σ[i]? = some c) : CR σ ((x, c) :: cs) ((x, i) :: ca) :=
  ⟨by simp [h.1], fun j y k q => by cases j with
    | zero => simp at q; obtain ⟨rfl, rfl⟩ := q; exact ⟨c, by simp, e⟩
    | succ j => simp at q ⊢; exact h.2 j y k q⟩
noncomputable def nCells : List (Str × NameKind) → Nat
  | [] => 0
  | (_, k) :: r => if k == .cell then nCells r + 1 else nCells r
theorem fresh_none (h : Heap) : h.get? h.objs.size = none := by
  cases q : h.get? h.objs.size with
  | none => rfl
  | some o' => exact absurd (Heap.lt_size q) (Nat.lt_irrefl _)
theorem layCells_go {M : Model} {E : Value → Shared → Prop} {φ κ₀ κ : Kp} {Q : List (Str × Addr) → Shared → Prop} : ∀ (names : List (Str × NameKind)) (σ : List Addr) (st : List AObj) (cs : List (Str × Addr)) (ca : List (Str × Nat)) (s : Shared),
    Rel C φ κ₀ κ σ st s → CR σ cs ca →
    (∀ cs' σ' s', σ <+: σ' → CR σ' cs' (cellsFrom st.length names ca) → Rel C φ κ₀ κ σ' (st ++ List.replicate (nCells names) (.cell none)) s' → (∀ b o, s.heap.get? b = some o → s'.heap.get? b = some o) → Q cs' s') →
    wpAny M A (forIn names cs fun x cells => (if x.2 == .cell then do let a ← alloc { cls := .type "cell", data := .cell none }; pure (ForInStep.yield ((x.1, a) :: cells)) else pure (ForInStep.yield cells) : Sem _)) Q E s := by
  intro names
  induction names with
  | nil => intro σ st cs ca s X c h; rw [List.forIn_nil]; exact wpAny_pure (h cs σ s (List.prefix_refl _) c (by simpa [nCells] using X) fun _ _ e => e)
  | cons x r ih =>
    intro σ st cs ca s X c h
    obtain ⟨n, k⟩ := x
    rw [List.forIn_cons]
    cases hk : (k == NameKind.cell) with
    | false =>
      simp only [hk, Bool.false_eq_true, if_false]
      refine wpAny_bind (wpAny_pure (ih σ st cs ca s X c fun cs' σ' s' p c' X' hk' => h cs' σ' s' p ?_ ?_ hk'))
      · simpa [cellsFrom, hk] using c'
      · simpa [nCells, hk] using X'
    | true =>
      simp only [hk, if_true]
      refine wpAny_bind (wpAny_bind (wpAny_alloc (wpAny_pure ?_)))
      have X1 := X.alloc (s' := { s with heap := s.heap.push { cls := .type "cell", data := .cell none } }) (a := s.heap.objs.size) (x := .cell none) (fresh_none _) (fun b o e => Heap.get?_push_of_some _ e) (Heap.get?_push_size _ rfl) rfl rfl ⟨none, rfl⟩ trivial
      have c1 : CR (σ ++ [s.heap.objs.size]) ((n, s.heap.objs.size) :: cs) ((n, st.length) :: ca) := (c.mono (List.prefix_append ..)).cons (by rw [← X.len]; simp)
      refine ih _ _ _ _ _ X1 c1 fun cs' σ' s' p c' X' hk' => h cs' σ' s' ((List.prefix_append ..).trans p) ?_ ?_ fun b o e => hk' _ _ (Heap.get?_push_of_some _ e)
      · simpa [cellsFrom, hk] using c'
      · have : st ++ [AObj.cell none] ++ List.replicate (nCells r) (.cell none) = st ++ List.replicate (nCells ((n, k) :: r)) (.cell none) := by
          simp [nCells, hk, List.replicate_succ]
        rw [← this]; exact X'
noncomputable def wStores (C : Cx) (A : Around) (G : Gd) (ae : AEnv) : List (Str × AV) → List AObj → (List AObj → Prop) → Prop
  | [], st, Q => Q st
  | (x, a) :: r, st, Q => wStore C A G ae st x a fun st' => wStores C A G ae r st' Q
theorem wStores_go {Q : List AObj → Prop} {R : PUnit → Shared → Prop} {κ : Kp} : ∀ (bs : List (Str × AV)) (vs : List (Str × Value)) (σ : List Addr) (st : List AObj) (s : Shared), EnvR ae σ G.env → Rel C G.φ G.κ₀ κ σ st s → vs.map (·.1) = bs.map (·.1) → RVL κ σ (bs.map (·.2)) (vs.map (·.2)) →
    wStores C A G ae bs st Q → (∀ κ' σ' st' s', Kle κ κ' → σ <+: σ' → Rel C G.φ G.κ₀ κ' σ' st' s' → Q st' → R ⟨⟩ s') →
    wpAny (model C.prog C.w) A (forIn vs PUnit.unit fun x _ => do storeName G.env x.1 x.2; pure (ForInStep.yield PUnit.unit)) R G.E s := by
  intro bs
  induction bs generalizing κ with
  | nil =>
    intro vs σ st s e X hn hr h hR
    cases vs with
    | cons => simp at hn
    | nil => rw [List.forIn_nil]; exact wpAny_pure (hR κ σ st s (Kle.refl _) (List.prefix_refl _) X h)
  | cons b r ih =>
    intro vs σ st s e X hn hr h hR
    obtain ⟨x, a⟩ := b
    cases vs with
    | nil => simp at hn
    | cons v vs =>
      obtain ⟨y, v⟩ := v
      simp at hn
      obtain ⟨rfl, hn⟩ := hn
      obtain ⟨u, e0, r0⟩ := hr.2 0 a (by simp)
      simp at e0; subst e0
      rw [List.forIn_cons]
      refine wpAny_bind (wpAny_bind (wpAny_mono (h κ σ s v e X r0) (fun _ s1 z => z.go fun κ1 σ1 _ st1 k1 p1 X1 _ q1 => wpAny_pure ?_) fun _ _ z => z))
      refine ih vs σ1 st1 s1 (e.mono p1) X1 (by simpa using hn) (RVL.mono k1 p1 ⟨by have := hr.1; simpa using this, fun i z ez => by have := hr.2 (i + 1) z (by simpa using ez); simpa using this⟩) q1 fun κ' σ' st' s' k p X' q => hR κ' σ' st' s' (k1.trans k) (p1.trans p) X' q
end
end Mine
end
section
open PySem PySem.Calls PyProof.Rows PySem.W PySem.SeqAt
namespace Mine
theorem newFunctionEnv_eq (scope : Scope) (globals : Addr) (closure : List (Str × Addr)) (binds : List (Str × Value)) (qual : Str) (func : Option Addr) (code : Value) (around : Option Env) (builtins : Addr) :
    newFunctionEnv scope globals closure binds qual func code around builtins = (do
      let locals ← alloc { cls := .type (if around.isSome then "dict" else "frame"), data := .dict #[] }
      let cells ← forIn scope.names closure fun x cells => (if x.2 == .cell then do let a ← alloc { cls := .type "cell", data := .cell none }; pure (ForInStep.yield ((x.1, a) :: cells)) else pure (ForInStep.yield cells) : Sem _)
      forIn binds PUnit.unit fun x _ => do storeName (newEnv scope locals globals cells qual func code around builtins) x.1 x.2; pure (ForInStep.yield PUnit.unit)
      pure (newEnv scope locals globals cells qual func code around builtins)) := by
  cases around <;> rfl
section
variable {C : Cx} {A : Around} {G : Gd} {st : List AObj}
noncomputable def envCode (code : Value) : Option Env → Value
  | some o => o.code
  | none => code
noncomputable def envFrame (L : Addr) : Option Env → Option Addr
  | some o => o.frame
  | none => some L
noncomputable def envBuiltins (b : Addr) : Option Env → Addr
  | some o => o.builtins
  | none => b
theorem NsO.empty (c : Value) : NsO { cls := c, data := .dict #[] } fun _ => none := ⟨#[], 0, rfl, fun e he => by simp at he, fun name => by simp [nsFind, findBy]⟩
theorem newEnv_go {φ κ₀ κ : Kp} {σ : List Addr} {s : Shared} {scope : Scope} {globals : Addr} {closure : List (Str × Addr)} {ca : List (Str × Nat)} {binds : List (Str × Value)} {bs : List (Str × AV)} {qual : Str} {func : Option Addr} {code : Value} {around : Option Env} {builtins : Addr}
    {E : Value → Shared → Prop} {Q : Env → Shared → Prop} {Q' : Env → List AObj → Prop} (X : Rel C φ κ₀ κ σ st s) (c : CR σ closure ca) (ok : ScOk scope) (hcn : ((cellsFrom (st.length + 1) scope.names ca).map (·.1)).Nodup)
    (hfr : noFree scope = true → ∀ L0, ∃ L, envFrame L0 around = some L ∧ (σ ++ [L0])[0]? = some L) (hg : globals = mainGlobals) (hb : envBuiltins builtins around = builtinsNs) (hn : binds.map (·.1) = bs.map (·.1)) (hr : RVL κ σ (bs.map (·.2)) (binds.map (·.2)))
    (stores : ∀ env, wStores C A ⟨φ, κ₀, env, E⟩ ⟨scope, st.length, cellsFrom (st.length + 1) scope.names ca, envCode code around, qual⟩ bs (st ++ [.ns (scope.names.map (·.1)) (List.replicate scope.names.length none)] ++ List.replicate (nCells scope.names) (.cell none)) (Q' env))
    (h : ∀ κ' σ' st' env s', Kle κ κ' → σ <+: σ' → EnvR ⟨scope, st.length, cellsFrom (st.length + 1) scope.names ca, envCode code around, qual⟩ σ' env → (∃ cells, env = newEnv scope s.heap.objs.size globals cells qual func code around builtins) → Rel C φ κ₀ κ' σ' st' s' → Q' env st' → Q env s') :
    wpAny (model C.prog C.w) A (newFunctionEnv scope globals closure binds qual func code around builtins) Q E s := by
  rw [newFunctionEnv_eq]
  refine wpAny_bind (wpAny_alloc ?_)
  have X1 := X.alloc (s' := { s with heap := s.heap.push { cls := .type (if around.isSome then "dict" else "frame"), data := .dict #[] } }) (a := s.heap.objs.size) (x := .ns (scope.names.map (·.1)) (List.replicate scope.names.length none))
    (fresh_none _) (fun b o e => Heap.get?_push_of_some _ e) (Heap.get?_push_size _ rfl) rfl rfl ⟨ok.nd, _, NsO.empty _, fun i x a e1 e2 => by
      rw [List.getElem?_replicate] at e2
      split at e2 <;> cases e2⟩ trivial
  have p1 : σ <+: σ ++ [s.heap.objs.size] := List.prefix_append ..
  refine wpAny_bind (layCells_go scope.names _ _ _ _ _ X1 (c.mono p1) fun cs' σ2 s2 p2 c2 X2 _ => ?_)
  rw [show (st ++ [AObj.ns (scope.names.map (·.1)) (List.replicate scope.names.length none)]).length = st.length + 1 by simp] at c2
  have hL : σ2[st.length]? = some s.heap.objs.size := get_pre p2 (by rw [← X.len]; simp)
  have eR : EnvR ⟨scope, st.length, cellsFrom (st.length + 1) scope.names ca, envCode code around, qual⟩ σ2 (newEnv scope s.heap.objs.size globals cs' qual func code around builtins) := by
    refine ⟨?_, ?_, ?_, hcn, ?_, ?_, ?_, ?_, ?_, ok, ?_⟩
    · cases around <;> rfl
    · cases around <;> exact hL
    · cases around <;> exact c2.1
    · cases around <;> exact c2.2
    · cases around <;> rfl
    · cases around <;> rfl
    · cases around <;> exact hg
    · cases around <;> exact hb
    · intro h
      obtain ⟨L, h1, h2⟩ := hfr h s.heap.objs.size
      refine ⟨L, by cases around <;> exact h1, ?_⟩
      exact get_pre p2 h2
  refine wpAny_bind ?_
  refine wStores_go (G := ⟨φ, κ₀, newEnv scope s.heap.objs.size globals cs' qual func code around builtins, E⟩) bs binds σ2 _ s2 eR X2 hn (hr.mono (Kle.refl _) (p1.trans p2)) (stores _) fun κ' σ' st' s' k p X' q => ?_
  exact wpAny_pure (h κ' σ' st' _ s' k ((p1.trans p2).trans p) (eR.mono p) ⟨cs', rfl⟩ X' q)
structure Base (C : Cx) (κ : Kp) (s : Shared) : Prop where
  prog : Kle C.P0 κ
  keep : ∀ b o, κ b = some o → s.heap.get? b = some o
  tabs : ∀ P ∈ C.tabs, TabOk C κ s.heap P ∧ κ P = none
  gens : s.gens = #[]
  os : s.os = C.os
noncomputable def KeepsT (C : Cx) (s s' : Shared) : Prop := ∀ b o, b ∉ C.tabs → s.heap.get? b = some o → s'.heap.get? b = some o
inductive FnPost (C : Cx) (κ : Kp) (s : Shared) (post : D → Prop) (r : Value) (s' : Shared) : Prop
  | mk (κ' : Kp) (d : D) (k : Kle κ κ') (B : Base C κ' s') (hn : ∀ b o, κ' b = some o → κ b = some o ∨ s.heap.get? b = none) (hk : KeepsT C s s') (hr : R κ' d r) (hp : post d)
noncomputable def FnOk (C : Cx) (φf κf : Kp) (n : Nat) (f : Value) (as : List AV) (names : List Str) (ks : List AV) (post : D → Prop) : Prop :=
  ∀ A E κ s vs kvs, AOk A n → Base C κ s → Kle κf κ → (∀ b o, κ b = some o → κf b = some o ∨ φf b = none) → (∀ b o, φf b = some o → s.heap.get? b = some o) → RVL κ [] as vs → RVL κ [] ks kvs →
    CalleeOk s f ∧ wpAny (model C.prog C.w) A (call f vs (names.zip kvs)) (FnPost C κ s post) E s
theorem Rel.base {φ κ₀ κ : Kp} {σ : List Addr} {s : Shared} (X : Rel C φ κ₀ κ σ st s) : Base C κ s := ⟨X.prog, X.keep, fun P hP => ⟨(X.tabs P hP).1, (X.tabs P hP).2.2.1⟩, X.gens, X.os⟩
theorem Rel.behind {φ κ₀ κ κ' : Kp} {σ : List Addr} {s s' : Shared} (X : Rel C φ κ₀ κ σ st s) (k : Kle κ κ') (B : Base C κ' s') (hn : ∀ b o, κ' b = some o → κ b = some o ∨ s.heap.get? b = none) (hk : KeepsT C s s') : Rel C φ κ₀ κ' σ st s' := by
  have hφT : ∀ P ∈ C.tabs, φ P = none := fun P hP => (X.tabs P hP).2.1
  have notab : ∀ a, a ∈ σ → a ∉ C.tabs := fun a ha hT => (X.tabs a hT).2.2.2 ha
  refine ⟨X.prog.trans k, X.k0.trans k, fun b o e => ?_, B.keep, fun b o e => hk b o (fun hT => by exact nope (hφT b hT) e) (X.phi b o e), X.len, X.nd, fun i a x e1 e2 => ?_, fun P hP => ?_, B.gens, B.os⟩
  · rcases hn b o e with e | e
    · exact X.new b o e
    · right
      refine noneOf fun o' q => ?_
      rw [X.phi _ _ q] at e; cases e
  · have ha := notab a (List.mem_of_getElem? e1)
    have hκ' : ∀ o, s.heap.get? a = some o → κ a = none → κ' a = none := fun o h1 h2 => by
      refine noneOf fun o' q => ?_
      rcases hn a o' q with e | e
      · exact nope h2 e
      · rw [h1] at e; cases e
    exact (X.own i a x e1 e2).map k (List.prefix_refl _) fun h1 h2 o h3 => ⟨hκ' o h3 h1, h2, hk _ _ ha h3⟩
  · exact ⟨(B.tabs P hP).1, hφT P hP, (B.tabs P hP).2, (X.tabs P hP).2.2.2⟩
noncomputable def AV.flat : AV → Prop
  | .obj _ => False
  | _ => True
theorem RVL.flat {κ : Kp} {σ : List Addr} {as : List AV} {vs : List Value} (h : RVL κ σ as vs) (hf : ∀ a ∈ as, a.flat) : RVL κ [] as vs :=
  ⟨h.1, fun i a e => by
    obtain ⟨v, h1, h2⟩ := h.2 i a e
    have := hf a (List.mem_of_getElem? e)
    cases a with
    | obj => exact this.elim
    | d x => exact ⟨v, h1, h2⟩
    | glob w => exact ⟨v, h1, h2⟩⟩
theorem wCall_fn {n : Nat} {f : Value} {as : List AV} {names : List Str} {ks : List AV} {post : D → Prop} {Q : AV → List AObj → Prop} (F : FnOk C (fun _ => none) C.P0 n f as names ks post) (hA : AOk A n) (h1 : ∀ a ∈ as, a.flat) (h2 : ∀ a ∈ ks, a.flat)
    (q : ∀ d, post d → Q (.d d) st) : wCall C A G st (.glob f) as names ks Q := fun κ σ s vf vs kvs X rf ra rk => by
  cases (rf : vf = _)
  obtain ⟨c, w⟩ := F A G.E κ s vs kvs hA X.base X.prog (fun _ _ _ => .inr rfl) (fun _ _ e => by cases e) (ra.flat h1) (rk.flat h2)
  exact ⟨c, wpAny_mono w (fun r s' ⟨κ', d, k, B, hn, hk, hr, hp⟩ => ⟨κ', σ, .d d, st, k, List.prefix_refl _, X.behind k B hn hk, hr, q d hp⟩) fun _ _ z => z⟩
theorem wCall_fnG {φf κf : Kp} {n : Nat} {f : Value} {as : List AV} {names : List Str} {ks : List AV} {post : D → Prop} {Q : AV → List AObj → Prop} (F : FnOk C φf κf n f as names ks post) (hA : AOk A n) (hφ : ∀ b o, φf b = some o → G.φ b = some o) (hκ : Kle κf G.κ₀)
    (hn : ∀ b o, G.κ₀ b = some o → κf b = some o ∨ φf b = none) (h1 : ∀ a ∈ as, a.flat) (h2 : ∀ a ∈ ks, a.flat)
    (q : ∀ d, post d → Q (.d d) st) : wCall C A G st (.glob f) as names ks Q := fun κ σ s vf vs kvs X rf ra rk => by
  cases (rf : vf = _)
  obtain ⟨c, w⟩ := F A G.E κ s vs kvs hA X.base (hκ.trans X.k0) (fun b o e => by
    rcases X.new b o e with h | h
    · exact hn b o h
    · right; refine noneOf fun o' q => ?_
      rw [hφ b o' q] at h; cases h) (fun b o e => X.phi b o (hφ b o e)) (ra.flat h1) (rk.flat h2)
  exact ⟨c, wpAny_mono w (fun r s' ⟨κ', d, k, B, hn, hk, hr, hp⟩ => ⟨κ', σ, .d d, st, k, List.prefix_refl _, X.behind k B hn hk, hr, q d hp⟩) fun _ _ z => z⟩
end
end Mine
end
section
open PySem PySem.Calls PyProof.Rows PySem.W PySem.SeqAt
namespace Mine
theorem AOk.deeper {A : Around} {n : Nat} (h : AOk A (n + 1)) (env : Env) : AOk (A.deeper env) n := ⟨h.handled, by have := h.depth; show A.depth + 1 + n ≤ 690; lia, by have := h.units; show A.units + 3 + 20 * n ≤ 9000; lia⟩
theorem AOk.mono {A : Around} {n m : Nat} (h : AOk A n) (hm : m ≤ n) : AOk A m := ⟨h.handled, by have := h.depth; lia, by have := h.units; lia⟩
theorem AOk.room {A : Around} {n : Nat} (h : AOk A n) : A.units + 64 < cLine := by have := h.units; rw [cLine]; lia
structure FnAt (C : Cx) (f : Value) (fd : FuncData) (body : List Stmt) : Prop where
  at_ : ∃ a o, f = .ref a ∧ C.P0 a = some o ∧ o.data = .func fd
  body : fd.body = .stmts body
  closure : fd.closure = []
  globals : fd.globals = mainGlobals
  builtins : fd.builtins = builtinsNs
  code : CodeK C.P0 fd.code fd.qualname
  co : fd.scope.isCoroutine = false
  gen : fd.scope.isGenerator = false
noncomputable def NoLim (C : Cx) : Prop := ∀ h : Heap, (∀ b o, C.P0 b = some o → h.get? b = some o) → h.NoLimit
noncomputable def retP (post : D → Prop) : AF → List AObj → Prop
  | .ret (.d d), _ => post d
  | .ret (.obj i), st => (∃ ds : List D, st[i]? = some (.list (ds.map .d)) ∧ post (.list ds)) ∨ ∃ d, st[i]? = some (.frz d) ∧ post d
  | .ret (.glob _), _ => False
  | _, _ => post .none
noncomputable abbrev phiS (C : Cx) (s : Shared) : Kp := fun b => if b ∈ C.tabs then none else s.heap.get? b
noncomputable abbrev nmz (fd : FuncData) : List Str := fd.scope.names.map (·.1)
theorem Rel.start {C : Cx} {κ : Kp} {s : Shared} (B : Base C κ s) : Rel C (phiS C s) κ κ [] [] s :=
  ⟨B.prog, Kle.refl _, fun b o e => .inl e, B.keep, fun b o e => by
    by_cases h : b ∈ C.tabs
    · simp [h] at e
    · simpa [h] using e, rfl, List.nodup_nil, fun i a x e => by simp at e, fun P hP => ⟨(B.tabs P hP).1, by simp [hP], (B.tabs P hP).2, by simp⟩, B.gens, B.os⟩
noncomputable def flv : Flow → Value
  | .ret v => v
  | _ => .none
theorem Rel.finish {C : Cx} {κ κ' : Kp} {σ : List Addr} {st : List AObj} {s s' : Shared} {post : D → Prop} {f : AF} {fl : Flow} (k : Kle κ κ') (X : Rel C (phiS C s) κ κ' σ st s') (r : RF κ' σ f fl) (q : retP post f st) :
    FnPost C κ s post (flv fl) s' := by
  have fin : ∀ {κ'' : Kp} {st' : List AObj} {v : Value} {d : D}, Kle κ κ'' → Rel C (phiS C s) κ κ'' σ st' s' → R κ'' d v → post d → FnPost C κ s post v s' := fun k X r q =>
    ⟨_, _, k, X.base, fun b o e => by
      rcases X.new b o e with e' | e'
      · exact .inl e'
      · by_cases h : b ∈ C.tabs
        · exact nope ((X.tabs b h).2.2.1) e
        · right; simpa [h] using e', fun b o hb e => X.phi b o (by simp [hb, e]), r, q⟩
  cases f with
  | next => cases (r : fl = .next); exact fin k X (show R κ' .none .none from rfl) q
  | brk => cases (r : fl = .brk); exact fin k X (show R κ' .none .none from rfl) q
  | cont => cases (r : fl = .cont); exact fin k X (show R κ' .none .none from rfl) q
  | ret a =>
    obtain ⟨v, rfl, r⟩ := r
    cases a with
    | d x => exact fin k X r q
    | glob w => exact q.elim
    | obj i =>
      obtain ⟨a, ha, rfl⟩ := r
      rcases q with ⟨ds, e, q⟩ | ⟨d, e, q⟩
      · obtain ⟨κ2, k2, X2⟩ := X.freeze e
        have hi : i < st.length := by
          by_cases q : i < st.length
          · exact q
          · exact nope (List.getElem?_eq_none (by lia)) e
        obtain ⟨a', ha', r'⟩ := X2.frz (i := i) (d := .list ds) (by rw [List.getElem?_set_self hi])
        rw [ha] at ha'; cases ha'
        exact fin (k.trans k2) X2 r' q
      · obtain ⟨a', ha', r'⟩ := X.frz e
        rw [ha] at ha'; cases ha'
        exact fin k X r' q
theorem fn_okG {C : Cx} {φf κf : Kp} {f : Value} {fd : FuncData} {body : List Stmt} {n : Nat} {as : List AV} {names : List Str} {ks : List AV} {bs : List (Str × AV)} {post : D → Prop} (F : FnAt C f fd body) (hφt : ∀ b ∈ C.tabs, φf b = none) (hl : NoLim C) (ok : ScOk fd.scope)
    (hcn : ((cellsFrom 1 fd.scope.names []).map (·.1)).Nodup)
    (hbind : ∀ (s : Shared) (vs kvs : List Value), (∀ b o, C.P0 b = some o → s.heap.get? b = some o) → vs.length = as.length → kvs.length = ks.length → ∃ binds, BindsTo s fd ⟨vs, names.zip kvs⟩ binds ∧ binds.map (·.1) = bs.map (·.1) ∧
      ∀ κ : Kp, RVL κ [] as vs → RVL κ [] ks kvs → RVL κ [] (bs.map (·.2)) (binds.map (·.2)))
    (run : ∀ A G A', AOk A n → (∀ b o, φf b = some o → G.φ b = some o) → Kle κf G.κ₀ → (∀ b o, G.κ₀ b = some o → κf b = some o ∨ φf b = none) → wStores C A' G ⟨fd.scope, 0, cellsFrom 1 fd.scope.names [], fd.code, fd.qualname ++ ".<locals>."⟩ bs ([.ns (fd.scope.names.map (·.1)) (List.replicate fd.scope.names.length none)] ++ List.replicate (nCells fd.scope.names) (.cell none))
      fun st0 => ∀ E, wSs C A (G.at E) ⟨fd.scope, 0, cellsFrom 1 fd.scope.names [], fd.code, fd.qualname ++ ".<locals>."⟩ st0 body (retP post)) :
    FnOk C φf κf (n + 1) f as names ks post := by
  intro A E κ s vs kvs hA B hκf hnew hφf ra rk
  obtain ⟨a, o, rfl, ha, hd⟩ := F.at_
  have hp0 : ∀ b o, C.P0 b = some o → s.heap.get? b = some o := fun b o e => B.keep _ _ (B.prog _ _ e)
  have hs := hp0 _ _ ha
  refine ⟨.inr (.inr ⟨a, o, fd, rfl, hs, hd⟩), wpAny_call ?_⟩
  obtain ⟨binds, hB, hn, hr⟩ := hbind s vs kvs hp0 ra.1 rk.1
  refine codeAny_call_function (by have := hA.depth; rw [recursionLimit]; lia) hs hd F.co F.gen F.body (F.code.rec hp0) (hB _ _ _ _ ?_)
  rw [F.closure]
  refine newEnv_go (bs := bs) (Q' := fun env st0 => ∀ E, wSs C (A.deeper env) ((⟨(phiS C s), κ, env, fun _ _ => False⟩ : Gd).at E) ⟨fd.scope, 0, cellsFrom 1 fd.scope.names [], fd.code, fd.qualname ++ ".<locals>."⟩ st0 body (retP post)) (Rel.start B) CR.nil ok hcn (fun _ L0 => ⟨L0, rfl, rfl⟩) F.globals F.builtins hn (hr κ ra rk)
    (fun env => ?_) fun κ' σ' st' env s' k p e ⟨cells, he⟩ X q => ?_
  · exact run (A.deeper env) ⟨_, κ, env, _⟩ A.in1 (hA.deeper env) (fun b o e => by
      have : b ∉ C.tabs := fun hb => by exact nope (hφt b hb) e
      simp [this]; exact hφf b o e) hκf hnew
  · refine ⟨hl _ X.p0, codeAny_func ?_⟩
    refine wpAny_mono (q _ κ' σ' s' e X) (fun fl s2 z => z.go fun κ2 σ2 f st2 k2 p2 X2 r2 q2 => ?_) fun _ _ z => z
    have := Rel.finish (k.trans k2) X2 r2 q2
    cases fl <;> exact this
theorem fn_ok {C : Cx} {f : Value} {fd : FuncData} {body : List Stmt} {n : Nat} {as : List AV} {names : List Str} {ks : List AV} {bs : List (Str × AV)} {post : D → Prop} (F : FnAt C f fd body) (hl : NoLim C) (ok : ScOk fd.scope)
    (hcn : ((cellsFrom 1 fd.scope.names []).map (·.1)).Nodup)
    (hbind : ∀ (s : Shared) (vs kvs : List Value), (∀ b o, C.P0 b = some o → s.heap.get? b = some o) → vs.length = as.length → kvs.length = ks.length → ∃ binds, BindsTo s fd ⟨vs, names.zip kvs⟩ binds ∧ binds.map (·.1) = bs.map (·.1) ∧
      ∀ κ : Kp, RVL κ [] as vs → RVL κ [] ks kvs → RVL κ [] (bs.map (·.2)) (binds.map (·.2)))
    (run : ∀ A G A', AOk A n → wStores C A' G ⟨fd.scope, 0, cellsFrom 1 fd.scope.names [], fd.code, fd.qualname ++ ".<locals>."⟩ bs ([.ns (fd.scope.names.map (·.1)) (List.replicate fd.scope.names.length none)] ++ List.replicate (nCells fd.scope.names) (.cell none))
      fun st0 => ∀ E, wSs C A (G.at E) ⟨fd.scope, 0, cellsFrom 1 fd.scope.names [], fd.code, fd.qualname ++ ".<locals>."⟩ st0 body (retP post)) :
    FnOk C (fun _ => none) C.P0 (n + 1) f as names ks post :=
  fn_okG F (fun _ _ => rfl) hl ok hcn hbind fun A G A' hA _ _ _ => run A G A' hA
end Mine
end
section
open PySem PySem.Calls PyProof.Rows PySem.W PySem.SeqAt PyProof.V
namespace Mine
section
variable {C : Cx} {A : Around} {G : Gd} {ae : AEnv} {st : List AObj} {Q : AV → List AObj → Prop}
theorem Rel.data {φ κ₀ κ : Kp} {σ : List Addr} {s : Shared} (X : Rel C φ κ₀ κ σ st s) {s' : Shared} {a : Addr} {o : Obj} (hn : s.heap.get? a = none) (hk : ∀ b o, s.heap.get? b = some o → s'.heap.get? b = some o) (ha : s'.heap.get? a = some o)
    (hg : s'.gens = s.gens) (ho : s'.os = s.os) : Kle κ (withOne κ a o) ∧ Rel C φ κ₀ (withOne κ a o) σ st s' := by
  have Y := X.keeps hk hg ho
  have hκ : κ a = none := noneOf fun o' q => nope hn (X.keep _ _ q)
  have hφ : φ a = none := noneOf fun o' q => nope hn (X.phi _ _ q)
  have hle := withOne_le (o := o) hκ
  have hself : withOne κ a o a = some o := if_pos rfl
  refine ⟨hle, X.prog.trans hle, X.k0.trans hle, fun b x e => ?_, fun b x e => ?_, Y.phi, X.len, X.nd, fun i b x e1 e2 => ?_, fun P hP => ?_, Y.gens, Y.os⟩
  · by_cases q : b = a
    · subst q; exact .inr hφ
    · rw [withOne_ne q] at e; exact X.new b x e
  · by_cases q : b = a
    · subst q; rw [hself] at e; cases e; exact ha
    · rw [withOne_ne q] at e; exact Y.keep b x e
  · have hba : b ≠ a := fun q => X.mem (List.mem_of_getElem? e1) (fun o e => nope hκ (q ▸ e)) fun _ _ o e => nope hn (q ▸ e)
    exact (Y.own i b x e1 e2).map hle (List.prefix_refl _) fun h1 h2 o h3 => ⟨(withOne_ne hba).trans h1, h2, h3⟩
  · refine byC fun hC1 => ?_
    obtain ⟨⟨ps, e, _⟩, _⟩ := X.tabs P hP
    have hPa : P ≠ a := fun q => nope hn (q ▸ e)
    obtain ⟨h1, h2, h3, h4⟩ := Y.tabs P hP
    refine hC1 ?_
    exact ⟨h1.keeps hle fun _ e => e, h2, by rw [withOne_ne hPa]; exact h3, h4⟩
theorem PA.newList {φ κ₀ κ : Kp} {σ : List Addr} {s : Shared} {ds : List D} {vs : Array Value} {n : Nat} {tk : Tok} (X : Rel C φ κ₀ κ σ st s) (h : RL κ ds vs.toList) (q : Q (.d (.list ds)) st) :
    PA RV C φ κ₀ κ σ Q (.ref s.heap.objs.size) { s with heap := s.heap.push { cls := .type "list", data := .seq vs n }, toks := tk } := by
  refine byC fun hC1 => ?_
  obtain ⟨k, Y⟩ := X.data (s' := { s with heap := s.heap.push { cls := .type "list", data := .seq vs n }, toks := tk }) (fresh_none _) (fun b o e => Heap.get?_push_of_some _ e) (Heap.get?_push_size _ rfl) rfl rfl
  refine hC1 ?_
  refine ⟨_, σ, .d (.list ds), st, k, List.prefix_refl _, Y, ?_, q⟩
  simp only [RV, R]
  exact ⟨_, _, vs, n, rfl, if_pos rfl, rfl, rfl, rfl, h.mono k⟩
theorem PA.newTuple {φ κ₀ κ : Kp} {σ : List Addr} {s : Shared} {ds : List D} {vs : Array Value} {n : Nat} {tk : Tok} (X : Rel C φ κ₀ κ σ st s) (h : RL κ ds vs.toList) (q : Q (.d (.tuple ds)) st) :
    PA RV C φ κ₀ κ σ Q (.ref s.heap.objs.size) { s with heap := s.heap.push { cls := .type "tuple", data := .seq vs n }, toks := tk } := by
  obtain ⟨k, Y⟩ := X.data (s' := { s with heap := s.heap.push { cls := .type "tuple", data := .seq vs n }, toks := tk }) (fresh_none _) (fun b o e => Heap.get?_push_of_some _ e) (Heap.get?_push_size _ rfl) rfl rfl
  refine ⟨_, σ, .d (.tuple ds), st, k, List.prefix_refl _, Y, ?_, q⟩
  simp only [RV, R]
  exact ⟨_, _, vs, n, rfl, if_pos rfl, rfl, rfl, rfl, h.mono k⟩
theorem PA.trackList {φ κ₀ κ : Kp} {σ : List Addr} {s : Shared} {l : List AV} {vs : Array Value} {n : Nat} {tk : Tok} (X : Rel C φ κ₀ κ σ st s) (h : RVL κ σ l vs.toList) (q : Q (.obj st.length) (st ++ [.list l])) :
    PA RV C φ κ₀ κ σ Q (.ref s.heap.objs.size) { s with heap := s.heap.push { cls := .type "list", data := .seq vs n }, toks := tk } := by
  have p : σ <+: σ ++ [s.heap.objs.size] := List.prefix_append ..
  refine ⟨κ, σ ++ [s.heap.objs.size], .obj st.length, st ++ [.list l], Kle.refl _, p, X.alloc (s' := { s with heap := s.heap.push { cls := .type "list", data := .seq vs n }, toks := tk }) (x := .list l) (fresh_none _) (fun b o e => Heap.get?_push_of_some _ e) (Heap.get?_push_size _ rfl) rfl rfl ⟨vs, n, rfl, h.mono (Kle.refl _) p⟩ trivial, ⟨_, by rw [← X.len]; simp, rfl⟩, q⟩
theorem wE_list {es : List Expr} {pos : Pos} (h : wArgs C A G ae st pos es fun as st1 => as.length ≤ sizeLine ∧ Q (.obj st1.length) (st1 ++ [.list as])) : wE C A G ae st (.List es pos) Q := fun κ σ s e X =>
  List_ (wpAny_mono (h κ σ s e X) (fun vs s1 z => z.go fun κ1 σ1 as st1 k1 p1 X1 r1 q1 => wpAny_newList (PA.up k1 p1 (PA.trackList (n := 0) X1 (by simpa using r1) q1.2)) (by rw [r1.1]; exact q1.1)) fun _ _ z => z)
theorem wE_listD {es : List Expr} {pos : Pos} (h : wArgs C A G ae st pos es fun as st1 => ∃ ds : List D, as = ds.map .d ∧ ds.length ≤ sizeLine ∧ Q (.d (.list ds)) st1) : wE C A G ae st (.List es pos) Q := fun κ σ s e X =>
  List_ (wpAny_mono (h κ σ s e X) (fun vs s1 z => z.go fun κ1 σ1 as st1 k1 p1 X1 r1 ⟨ds, hd, hl, q⟩ => by
    subst hd
    exact wpAny_newList (PA.up k1 p1 (PA.newList (n := 0) X1 (by simpa using r1.toD) q)) (by rw [r1.1]; simpa using hl)) fun _ _ z => z)
theorem wE_tupD {es : List Expr} {k : Nat} {pos : Pos} (h : wArgs C A G ae st pos es fun as st1 => ∃ ds : List D, as = ds.map .d ∧ ds.length ≤ sizeLine ∧ Q (.d (.tuple ds)) st1) : wE C A G ae st (.Tuple es k pos) Q := fun κ σ s e X =>
  Tuple_ (wpAny_mono (h κ σ s e X) (fun vs s1 z => z.go fun κ1 σ1 as st1 k1 p1 X1 r1 ⟨ds, hd, hl, q⟩ => by
    subst hd
    exact wpAny_newTuple (PA.up k1 p1 (PA.newTuple (n := 0) X1 (by simpa using r1.toD) q)) (by rw [r1.1]; simpa using hl)) fun _ _ z => z)
theorem RVL.one {κ : Kp} {σ : List Addr} {a : AV} {vs : List Value} (h : RVL κ σ [a] vs) : ∃ v, vs = [v] ∧ RV κ σ a v := by
  match vs, h with
  | [v], h => obtain ⟨u, e, r⟩ := h.2 0 a rfl; simp at e; subst e; exact ⟨v, rfl, r⟩
  | [], h => have := h.1; simp at this
  | _ :: _ :: _, h => have := h.1; simp at this
theorem RVL.two {κ : Kp} {σ : List Addr} {a b : AV} {vs : List Value} (h : RVL κ σ [a, b] vs) : ∃ v u, vs = [v, u] ∧ RV κ σ a v ∧ RV κ σ b u := by
  obtain ⟨v, u, rfl⟩ := len2 h.1
  obtain ⟨w, e, r⟩ := h.2 0 a rfl
  obtain ⟨w', e', r'⟩ := h.2 1 b rfl
  cases e; cases e'; exact ⟨_, _, rfl, r, r'⟩
theorem RVL.three {κ : Kp} {σ : List Addr} {a b c : AV} {vs : List Value} (h : RVL κ σ [a, b, c] vs) : ∃ v u w, vs = [v, u, w] ∧ RV κ σ a v ∧ RV κ σ b u ∧ RV κ σ c w := by
  obtain ⟨v, u, x, rfl⟩ := len3 h.1
  obtain ⟨w, e, r⟩ := h.2 0 a rfl
  obtain ⟨w', e', r'⟩ := h.2 1 b rfl
  obtain ⟨w'', e'', r''⟩ := h.2 2 c rfl
  cases e; cases e'; cases e''; exact ⟨_, _, _, rfl, r, r', r''⟩
theorem RVL.one' {κ : Kp} {σ : List Addr} {a : AV} {v : Value} (h : RVL κ σ [a] [v]) : RV κ σ a v := by
  obtain ⟨w, e, r⟩ := h.2 0 a rfl
  cases e; exact r
theorem RVL.two' {κ : Kp} {σ : List Addr} {a b : AV} {v u : Value} (h : RVL κ σ [a, b] [v, u]) : RV κ σ a v ∧ RV κ σ b u := by
  obtain ⟨w, e, r⟩ := h.2 0 a rfl
  obtain ⟨w', e', r'⟩ := h.2 1 b rfl
  cases e; cases e'; exact ⟨r, r'⟩
theorem RVL.three' {κ : Kp} {σ : List Addr} {a b c : AV} {v u x : Value} (h : RVL κ σ [a, b, c] [v, u, x]) : RV κ σ a v ∧ RV κ σ b u ∧ RV κ σ c x := by
  obtain ⟨w, e, r⟩ := h.2 0 a rfl
  obtain ⟨w', e', r'⟩ := h.2 1 b rfl
  obtain ⟨w'', e'', r''⟩ := h.2 2 c rfl
  cases e; cases e'; cases e''; exact ⟨r, r', r''⟩
theorem bi_range1 {n : Int} (q : Q (.obj st.length) (st ++ [.raw (RangeO 0 n)])) : wBi C A G st (.type "range") [.d (.int n)] Q := fun κ σ s vs X r => by
  obtain ⟨v, rfl, t, rfl⟩ := r.one
  refine call_range_1 ⟨κ, σ ++ [s.heap.objs.size], .obj st.length, _, Kle.refl _, List.prefix_append .., (X.alloc (s' := { s with heap := s.heap.push _, toks := _ }) (x := .raw (RangeO 0 n)) (fresh_none _) (fun b o e => Heap.get?_push_of_some _ e) (Heap.get?_push_size _ rfl) rfl rfl ⟨_, _, _, rfl⟩ trivial), ⟨_, by rw [← X.len]; simp, rfl⟩, q⟩
theorem bi_range2 {a n : Int} (q : Q (.obj st.length) (st ++ [.raw (RangeO a n)])) : wBi C A G st (.type "range") [.d (.int a), .d (.int n)] Q := fun κ σ s vs X r => by
  obtain ⟨v, u, rfl, ⟨t, rfl⟩, ⟨t', rfl⟩⟩ := r.two
  refine call_range_2 ⟨κ, σ ++ [s.heap.objs.size], .obj st.length, _, Kle.refl _, List.prefix_append .., (X.alloc (s' := { s with heap := s.heap.push _, toks := _ }) (x := .raw (RangeO a n)) (fresh_none _) (fun b o e => Heap.get?_push_of_some _ e) (Heap.get?_push_size _ rfl) rfl rfl ⟨_, _, _, rfl⟩ trivial), ⟨_, by rw [← X.len]; simp, rfl⟩, q⟩
theorem bi_hex {i : Int} (hsz : (PySem.baseText "0x" 16 i).length ≤ sizeLine) (q : Q (.d (.str (PySem.baseText "0x" 16 i))) st) : wBi C A G st (.builtin "hex") [.d (.int i)] Q := fun κ σ s vs X r => by
  obtain ⟨v, rfl, t, rfl⟩ := r.one
  exact PySem.P.hex_of_int (PA.str (X.toks _ s.drawn) q) hsz
theorem RL.strs {κ : Kp} : ∀ {ys : List Str} {vs : List Value}, RL κ (ys.map .str) vs → StrsAre vs ys
  | [], _, h => by cases h; exact .nil
  | y :: ys, _, h => by
    simp only [List.map_cons, RL] at h
    obtain ⟨v, r, rfl, ⟨t, rfl⟩, h3⟩ := h
    exact .cons _ _ (RL.strs h3)
theorem RL.ofStrs {κ : Kp} : ∀ (l : List (Str × Tok)), RL κ ((l.map (·.1)).map .str) (strValues l)
  | [] => rfl
  | (x, t) :: r => by
    simp only [List.map_cons, RL]
    exact ⟨.str x t, strValues r, rfl, ⟨t, rfl⟩, RL.ofStrs r⟩
noncomputable def LstOf (st : List AObj) : AV → List D → Prop
  | .d (.list ds), l => l = ds
  | .obj i, l => st[i]? = some (.list (l.map .d)) ∨ st[i]? = some (.frz (.list l))
  | _, _ => False
theorem LstOf.get {φ κ₀ κ : Kp} {σ : List Addr} {s : Shared} {a : AV} {l : List D} {v : Value} (h : LstOf st a l) (X : Rel C φ κ₀ κ σ st s) (r : RV κ σ a v) : ∃ x o vs n, v = .ref x ∧ s.heap.get? x = some o ∧ o.cls = .type "list" ∧ o.dict = none ∧ o.data = .seq vs n ∧ RL κ l vs.toList := by
  have key : R κ (.list l) v → ∃ x o vs n, v = .ref x ∧ s.heap.get? x = some o ∧ o.cls = .type "list" ∧ o.dict = none ∧ o.data = .seq vs n ∧ RL κ l vs.toList := fun r => by
    simp only [R] at r
    refine byC fun hC1 => ?_
    obtain ⟨a, o, vs, n, rfl, h2, h3, h4, h5, h6⟩ := r
    refine hC1 ?_
    exact ⟨a, o, vs, n, rfl, X.keep _ _ h2, h3, h4, h5, h6⟩
  cases a with
  | d x =>
    cases x with
    | list ds => cases (h : l = ds); exact key r
    | none => exact h.elim
    | bool => exact h.elim
    | int => exact h.elim
    | str => exact h.elim
    | tuple => exact h.elim
    | dict => exact h.elim
  | glob => exact h.elim
  | obj i =>
    refine byC fun hC2 => ?_
    obtain ⟨x, hx, rfl⟩ := r
    refine hC2 ?_
    rcases h with h | h
    · refine byC fun hC3 => ?_
      obtain ⟨x', o, hx', _, _, ho, vs, n, rfl, hr⟩ := X.get h trivial
      refine hC3 ?_
      rw [hx] at hx'; cases hx'
      exact ⟨x, _, vs, n, rfl, ho, rfl, rfl, rfl, hr.toD⟩
    · refine byC fun hC4 => ?_
      obtain ⟨x', hx', hr⟩ := X.frz h
      refine hC4 ?_
      rw [hx] at hx'; cases hx'
      exact key hr
theorem bi_join {x : Str} {a : AV} {ys : List Str} (h : LstOf st a (ys.map .str)) (hok : (ys.map (·.length)).sum + ys.length * x.length ≤ 16777216) (q : Q (.d (.str (Txt.join x ys))) st) : wBi C A G st (.builtin "str.join") [.d (.str x), a] Q := fun κ σ s vs X r => by
  refine byC fun hC1 => ?_
  obtain ⟨v, u, rfl, ⟨t, rfl⟩, ra⟩ := r.two
  obtain ⟨y, o, ws, n, rfl, ho, hc, hd, hdat, hr⟩ := h.get X ra
  refine hC1 ?_
  exact join_list ⟨o, ho, hc, n, hdat⟩ hr.strs hok fun t' k => PA.str (X.toks k s.drawn) q
noncomputable def IntDict (C : Cx) (v : Value) (T : List (PyData × PyData)) : Prop := ∃ d, v = .ref d ∧ ∀ h : Heap, (∀ b o, C.P0 b = some o → h.get? b = some o) → IntTab C.prog C.w h d T ∧ ∃ o, h.get? d = some o ∧ o.cls = .type "dict" ∧ o.dict = none
noncomputable def flatD : D → Prop
  | .list _ => False
  | .tuple _ => False
  | .dict _ => False
  | _ => True
theorem R.flat {κ : Kp} {d : D} {v : Value} (r : R κ d v) (h : flatD d) : Flat v d := by
  cases d with
  | none => cases (r : v = _); exact Flat.none
  | bool => cases (r : v = _); exact Flat.bool _
  | int => obtain ⟨t, rfl⟩ := r.int_inv; exact Flat.int _ _
  | str => obtain ⟨t, rfl⟩ := r.str_inv; exact Flat.str _ _
  | list => exact h.elim
  | tuple => exact h.elim
  | dict => exact h.elim
theorem R.of_flat {κ : Kp} {d : D} {v : Value} (r : Flat v d) (h : flatD d) : R κ d v := by
  cases d with
  | none => cases r {}; rfl
  | bool => cases r {}; rfl
  | int => obtain ⟨t, rfl⟩ := r.int_inv; exact ⟨t, rfl⟩
  | str => obtain ⟨t, rfl⟩ := r.str_inv; exact ⟨t, rfl⟩
  | list => exact h.elim
  | tuple => exact h.elim
  | dict => exact h.elim
theorem hasTy_dict {v : Value} {T : List (PyData × PyData)} (h : IntDict C v T) : HasTy C st (.glob v) "dict" := fun φ κ₀ κ σ s u X r => by
  cases (r : u = v)
  refine byC fun hC1 => ?_
  obtain ⟨d, rfl, hd⟩ := h
  obtain ⟨_, o, ho, hc, hdd⟩ := hd s.heap X.p0
  refine hC1 ?_
  exact ⟨⟨o, ho, hc⟩, fun y q => by cases q; exact ⟨o, ho, hdd⟩⟩
theorem bi_dictGet {v : Value} {T : List (PyData × PyData)} {i : Int} {x : D} (h : IntDict C v T) (hx : flatD x) (hf : flatD ((PySem.Spec.lookup (.int i) T).getD x)) (q : Q (.d ((PySem.Spec.lookup (.int i) T).getD x)) st) :
    wBi C A G st (.builtin "dict.get") [.glob v, .d (.int i), .d x] Q := fun κ σ s vs X r => by
  refine byC fun hC1 => ?_
  obtain ⟨v', u, w, rfl, e, ⟨t, rfl⟩, rx⟩ := r.three
  cases (e : v' = v)
  obtain ⟨d, rfl, hd⟩ := h
  refine hC1 ?_
  exact call_get2_intTab (hd s.heap X.p0).1 (rx.flat hx) fun y hy => ⟨κ, σ, .d _, st, Kle.refl _, List.prefix_refl _, X.toks _ s.drawn, R.of_flat hy hf, q⟩
end
end Mine
end
section
open PySem PySem.Calls PyProof.Rows PySem.W PySem.SeqAt PyProof.V
namespace Mine
theorem base_call1 (f e : Expr) (es : List Expr) (ks : List Keyword) (p : Pos) (name : Str) (env : Env) (whole : Sem Value) : attributeBase (.Call f (e :: es) ks p) name env whole = whole := by cases f <;> rfl
section
variable {C : Cx} {A : Around} {G : Gd} {ae : AEnv} {st : List AObj} {Q : AV → List AObj → Prop}
theorem wE_m1 {o e : Expr} {name : Str} {apos pos : Pos} {T id : String} (pa : PlainAttrs T) (slot : Slot T name id) (hty : typeOf (.builtin id) = pure (.type "method_descriptor"))
    (ho : ∀ env whole, attributeBase o name env whole = whole) (he : ∀ env, starEach [e] env = [(false, eval e env)]) (hline : (apos.endLine == pos.line) = true)
    (h : wE C A G ae st o fun a st1 => HasTy C st1 a T ∧ wE C A G ae st1 e fun b st2 => wBi C A G st2 (.builtin id) [a, b] Q) : wE C A G ae st (.Call (.Attribute o name apos) [e] [] pos) Q :=
  wE_meth (fun env => ho env _) (fun env => by rw [he]; rfl) hline pa slot hty (W.mono h fun a st1 q => ⟨q.1, wArgs_cons (fun env => by rw [he]; rfl) (W.mono q.2 fun b st2 q2 => wArgs_nil q2)⟩)
theorem wE_m2 {o e e2 : Expr} {name : Str} {apos pos : Pos} {T id : String} (pa : PlainAttrs T) (slot : Slot T name id) (hty : typeOf (.builtin id) = pure (.type "method_descriptor"))
    (ho : ∀ env whole, attributeBase o name env whole = whole) (he : ∀ env, starEach [e, e2] env = [(false, eval e env), (false, eval e2 env)]) (he2 : ∀ env, starEach [e2] env = [(false, eval e2 env)]) (hline : (apos.endLine == pos.line) = true)
    (h : wE C A G ae st o fun a st1 => HasTy C st1 a T ∧ wE C A G ae st1 e fun b st2 => wE C A G ae st2 e2 fun c st3 => wBi C A G st3 (.builtin id) [a, b, c] Q) : wE C A G ae st (.Call (.Attribute o name apos) [e, e2] [] pos) Q :=
  wE_meth (fun env => ho env _) (fun env => by rw [he]; rfl) hline pa slot hty (W.mono h fun a st1 q => ⟨q.1, wArgs_cons (fun env => by rw [he, he2]) (W.mono q.2 fun b st2 q2 => wArgs_cons (fun env => by rw [he2]; rfl) (W.mono q2 fun c st3 q3 => wArgs_nil q3))⟩)
theorem wE_c1 {x : Str} {np pos : Pos} {e : Expr} (he : ∀ env, starEach [e] env = [(false, eval e env)])
    (h : wE C A G ae st (.Name x np) fun f st1 => wE C A G ae st1 e fun a st2 => wCall C A G st2 f [a] [] [] Q) : wE C A G ae st (.Call (.Name x np) [e] [] pos) Q :=
  wE_call0 (fun env => by rw [he]; rfl) (W.mono h fun f st1 q => wArgs_cons (fun env => by rw [he]; rfl) (W.mono q fun b st2 q2 => wArgs_nil q2))
theorem wE_c2 {x : Str} {np pos : Pos} {e e2 : Expr} (he : ∀ env, starEach [e, e2] env = [(false, eval e env), (false, eval e2 env)]) (he2 : ∀ env, starEach [e2] env = [(false, eval e2 env)])
    (h : wE C A G ae st (.Name x np) fun f st1 => wE C A G ae st1 e fun a st2 => wE C A G ae st2 e2 fun b st3 => wCall C A G st3 f [a, b] [] [] Q) : wE C A G ae st (.Call (.Name x np) [e, e2] [] pos) Q :=
  wE_call0 (fun env => by rw [he]; rfl) (W.mono h fun f st1 q => wArgs_cons (fun env => by rw [he, he2]) (W.mono q fun b st2 q2 => wArgs_cons (fun env => by rw [he2]; rfl) (W.mono q2 fun c st3 q3 => wArgs_nil q3)))
theorem wE_c3 {x : Str} {np pos : Pos} {e e2 e3 : Expr} (he : ∀ env, starEach [e, e2, e3] env = [(false, eval e env), (false, eval e2 env), (false, eval e3 env)]) (he2 : ∀ env, starEach [e2, e3] env = [(false, eval e2 env), (false, eval e3 env)]) (he3 : ∀ env, starEach [e3] env = [(false, eval e3 env)])
    (h : wE C A G ae st (.Name x np) fun f st1 => wE C A G ae st1 e fun a st2 => wE C A G ae st2 e2 fun b st3 => wE C A G ae st3 e3 fun c st4 => wCall C A G st4 f [a, b, c] [] [] Q) : wE C A G ae st (.Call (.Name x np) [e, e2, e3] [] pos) Q :=
  wE_call0 (fun env => by rw [he]; rfl) (W.mono h fun f st1 q => wArgs_cons (fun env => by rw [he, he2]) (W.mono q fun b st2 q2 => wArgs_cons (fun env => by rw [he2, he3]) (W.mono q2 fun c st3 q3 => wArgs_cons (fun env => by rw [he3]; rfl) (W.mono q3 fun d st4 q4 => wArgs_nil q4))))
end
noncomputable def bodyOf (p : Program) (k : Nat) : List Stmt := match p.main.body[k]? with | some (.FunctionDef _ _ b _ _ _ _ _ _ _) => b | _ => []
noncomputable def scopeOf (p : Program) (k : Nat) : Scope := match p.main.body[k]? with | some (.FunctionDef _ _ _ _ _ _ s _ _ _) => s | _ => default
noncomputable def paramsOf (p : Program) (k : Nat) : Arguments := match p.main.body[k]? with | some (.FunctionDef _ a _ _ _ _ _ _ _ _) => a | _ => default
noncomputable def nameOf (p : Program) (k : Nat) : Str := match p.main.body[k]? with | some (.FunctionDef n _ _ _ _ _ _ _ _ _) => n | _ => Str.ofString ""
noncomputable def VarsLe (n : Nat) : List (Option AV) → List (Option AV) → Prop
  | _, [] => True
  | _ :: vs, none :: ws => VarsLe n vs ws
  | v :: vs, some a :: ws => v = some a ∧ a.below n ∧ VarsLe n vs ws
  | [], none :: ws => VarsLe n [] ws
  | [], some _ :: _ => False
theorem VarsLe.get {n : Nat} : ∀ {vs ws : List (Option AV)}, VarsLe n vs ws → ∀ (j : Nat) (a : AV), ws[j]? = some (some a) → vs[j]? = some (some a) ∧ a.below n
  | _, [], _, j, a, e => by simp at e
  | v :: vs, none :: ws, h, j, a, e => by
    cases j with
    | zero => simp at e
    | succ j => simp at e ⊢; exact VarsLe.get (show VarsLe n vs ws from h) j a e
  | v :: vs, some b :: ws, h, j, a, e => by
    cases j with
    | zero => simp at e ⊢; subst e; exact ⟨h.1, h.2.1⟩
    | succ j => simp at e ⊢; exact VarsLe.get h.2.2 j a e
  | [], none :: ws, h, j, a, e => by
    cases j with
    | zero => simp at e
    | succ j => simp at e; have := VarsLe.get (show VarsLe n [] ws from h) j a e; simp at this
  | [], some _ :: _, h, _, _, _ => h.elim
noncomputable def ObjLeS (n : Nat) : AObj → AObj → Prop
  | .ns names vars, .ns names' vars' => names' = names ∧ VarsLe n vars vars'
  | x, y => y = x ∧ x.below n
theorem ObjLeS.le {n : Nat} {x y : AObj} (h : ObjLeS n x y) : ObjLe n x y := by
  cases x with
  | ns names vars => cases y with
    | ns => exact ⟨h.1, h.2.get⟩
    | cell => exact h
    | list => exact h
    | frz => exact h
    | raw => exact h
  | cell => cases y <;> exact h
  | list => cases y <;> exact h
  | frz => cases y <;> exact h
  | raw => cases y <;> exact h
noncomputable def SubL (n : Nat) : List AObj → List AObj → Prop
  | _, [] => True
  | x :: xs, y :: ys => ObjLeS n x y ∧ SubL n xs ys
  | [], _ :: _ => False
theorem SubL.get {n : Nat} : ∀ {st st' : List AObj}, SubL n st st' → st'.length ≤ st.length ∧ ∀ (i : Nat) (x y : AObj), st[i]? = some x → st'[i]? = some y → ObjLe n x y
  | _, [], _ => ⟨Nat.zero_le _, fun i x y _ e => by simp at e⟩
  | x :: xs, y :: ys, h => by
    have ih := SubL.get h.2
    refine ⟨by simp only [List.length_cons]; omega, fun i a b e1 e2 => ?_⟩
    cases i with
    | zero => simp at e1 e2; subst e1; subst e2; exact h.1.le
    | succ i => simp at e1 e2; exact ih.2 i a b e1 e2
  | [], _ :: _, h => h.elim
theorem Sub.of {n : Nat} {st st' : List AObj} (hl : st'.length = n) (h : SubL n st st') : Sub n st st' := ⟨hl, hl ▸ h.get.1, fun i x y _ e1 e2 => h.get.2 i x y e1 e2⟩
noncomputable def VarsBelow (n : Nat) : List (Option AV) → Prop
  | [] => True
  | none :: r => VarsBelow n r
  | some a :: r => a.below n ∧ VarsBelow n r
theorem VarsBelow.get {n : Nat} : ∀ {vs : List (Option AV)}, VarsBelow n vs → ∀ (j : Nat) (a : AV), vs[j]? = some (some a) → a.below n
  | [], _, j, a, e => by simp at e
  | none :: r, h, j, a, e => by cases j with
    | zero => simp at e
    | succ j => simp at e; exact VarsBelow.get (show VarsBelow n r from h) j a e
  | some b :: r, h, j, a, e => by cases j with
    | zero => simp at e; subst e; exact h.1
    | succ j => simp at e; exact VarsBelow.get h.2 j a e
noncomputable def BelowL (n : Nat) : List AObj → Prop
  | [] => True
  | .ns _ vars :: r => VarsBelow n vars ∧ BelowL n r
  | x :: r => x.below n ∧ BelowL n r
theorem BelowL.get {n : Nat} : ∀ {st : List AObj}, BelowL n st → ∀ (i : Nat) (x : AObj), st[i]? = some x → x.below n
  | [], _, i, x, e => by simp at e
  | a :: r, h, i, x, e => by
    have hr : BelowL n r := by cases a <;> exact h.2
    cases i with
    | zero =>
      simp at e; subst e
      cases a with
      | ns => exact (h.1 : VarsBelow n _).get
      | cell => exact h.1
      | list => exact h.1
      | frz => exact h.1
      | raw => exact h.1
    | succ i => simp at e; exact BelowL.get hr i x e
theorem Closed.of {st : List AObj} (h : BelowL st.length st) : Closed st := h.get
theorem SubL.nil {n : Nat} {xs : List AObj} : SubL n xs [] := by cases xs <;> exact True.intro
theorem SubL.cons {n : Nat} {x y : AObj} {xs ys : List AObj} (h : ObjLeS n x y) (k : SubL n xs ys) : SubL n (x :: xs) (y :: ys) := ⟨h, k⟩
theorem ObjLeS.ns {n : Nat} {N : List Str} {v w : List (Option AV)} (h : VarsLe n v w) : ObjLeS n (.ns N v) (.ns N w) := ⟨rfl, h⟩
theorem ObjLeS.cell {n : Nat} {a : Option AV} (h : (AObj.cell a).below n) : ObjLeS n (.cell a) (.cell a) := ⟨rfl, h⟩
theorem ObjLeS.list {n : Nat} {a : List AV} (h : (AObj.list a).below n) : ObjLeS n (.list a) (.list a) := ⟨rfl, h⟩
theorem ObjLeS.raw {n : Nat} {P : Obj → Prop} : ObjLeS n (.raw P) (.raw P) := ⟨rfl, trivial⟩
theorem VarsLe.nil {n : Nat} {v : List (Option AV)} : VarsLe n v [] := by cases v <;> exact True.intro
theorem VarsLe.none {n : Nat} {a : Option AV} {v w : List (Option AV)} (h : VarsLe n v w) : VarsLe n (a :: v) (.none :: w) := h
theorem VarsLe.some {n : Nat} {a : AV} {v w : List (Option AV)} (hb : a.below n) (h : VarsLe n v w) : VarsLe n (.some a :: v) (.some a :: w) := ⟨rfl, hb, h⟩
theorem below_d {n : Nat} {x : D} : (AV.d x).below n := trivial
theorem below_obj {n i : Nat} (h : Nat.blt i n = true) : (AV.obj i).below n := Nat.le_of_ble_eq_true h
theorem below_cellS {n : Nat} {a : AV} (h : a.below n) : (AObj.cell (some a)).below n := h
theorem BelowL.nil {n : Nat} : BelowL n [] := trivial
theorem BelowL.ns {n : Nat} {N : List Str} {v : List (Option AV)} {r : List AObj} (h : VarsBelow n v) (k : BelowL n r) : BelowL n (.ns N v :: r) := ⟨h, k⟩
theorem BelowL.cell {n : Nat} {v : Option AV} {r : List AObj} (h : (AObj.cell v).below n) (k : BelowL n r) : BelowL n (.cell v :: r) := ⟨h, k⟩
theorem BelowL.raw {n : Nat} {P : Obj → Prop} {r : List AObj} (k : BelowL n r) : BelowL n (.raw P :: r) := ⟨trivial, k⟩
theorem VarsBelow.nil {n : Nat} : VarsBelow n [] := trivial
theorem VarsBelow.none {n : Nat} {v : List (Option AV)} (h : VarsBelow n v) : VarsBelow n (.none :: v) := h
theorem VarsBelow.some {n : Nat} {a : AV} {v : List (Option AV)} (hb : a.below n) (h : VarsBelow n v) : VarsBelow n (.some a :: v) := ⟨hb, h⟩
theorem below_ds {n : Nat} {ds : List D} : (AObj.list (ds.map .d)).below n := fun a ha => by
  obtain ⟨d, _, rfl⟩ := List.mem_map.mp ha
  trivial
theorem below_raw {n : Nat} {P : Obj → Prop} : (AObj.raw P).below n := trivial
end Mine
end
section
open PySem PySem.Calls PyProof.Rows PySem.W PySem.SeqAt PyProof.V
namespace Mine
noncomputable def SubOk (s : Shared) (o : Value) : Prop := ∃ T id, s.TypeIs o T ∧ typeLookup (.type T) "__getitem__" = pure (some (.builtin id))
theorem subTail {prog : Program} {w : World} {A : Around} {E : Value → Shared → Prop} {s : Shared} {value slice : Expr} {o i : Value} {ops : List Value} {Q : Value → Shared → Prop} (hT : SubOk s o) (h : wpAny (model prog w) A (getItem o i) Q E s)
    (hs : subscripted slice false o i = operate ops (getItem o i)) : wpAny (model prog w) A (subscriptTail value slice o i) Q E s := by
  refine byC fun hC1 => ?_
  obtain ⟨T, id, hT, hl⟩ := hT
  refine hC1 ?_
  unfold subscriptTail
  refine wpAny_bind ?_
  rw [getitemInPython_of_ne hT.not_modules]
  refine wpAny_bind (wpAny_specialOf hT hl ?_)
  have fin : wpAny (model prog w) A (subscripted slice false o i) (fun r s₃ => wpAny (model prog w) A (letTemporaryGo value o r >>= fun _ => pure r) Q E s₃) E s := by
    rw [hs]
    exact wpAny_operating (wpAny_mono h (fun r s₃ h₃ => wpAny_bind (wpAny_letTemporaryGo (wpAny_pure h₃))) fun _ _ x => x)
  first
    | exact wpAny_pure (wpAny_bind fin)
    | exact wpAny_bind (wpAny_pure (wpAny_bind fin))
    | exact wpAny_bind fin
section
variable {C : Cx} {A : Around} {G : Gd} {ae : AEnv} {st : List AObj} {Q : AV → List AObj → Prop}
noncomputable def wSub (C : Cx) (A : Around) (G : Gd) (st : List AObj) (a b : AV) (Q : AV → List AObj → Prop) : Prop :=
  ∀ κ σ s va vb, Rel C G.φ G.κ₀ κ σ st s → RV κ σ a va → RV κ σ b vb → SubOk s va ∧ wpAny (model C.prog C.w) A (getItem va vb) (PA RV C G.φ G.κ₀ κ σ Q) G.E s
theorem wE_sub {value slice : Expr} {pos : Pos} (hs : ∀ o i, ∃ ops, subscripted slice false o i = operate ops (getItem o i))
    (h : wE C A G ae st value fun a st1 => wE C A G ae st1 slice fun b st2 => wSub C A G st2 a b Q) : wE C A G ae st (.Subscript value slice pos) Q := fun κ σ s e X =>
  Subscript_ (wpAny_mono (h κ σ s e X) (fun va s1 z => z.go fun κ1 σ1 a st1 k1 p1 X1 r1 q1 =>
    wpAny_mono (q1 κ1 σ1 s1 (e.mono p1) X1) (fun vb s2 z => z.go fun κ2 σ2 b st2 k2 p2 X2 r2 q2 => PA.wp (k1.trans k2) (p1.trans p2) (by
      refine byC fun hC1 => ?_
      obtain ⟨h1, h2⟩ := q2 κ2 σ2 s2 va vb X2 (r1.mono k2 p2) r2
      obtain ⟨ops, ho⟩ := hs va vb
      refine hC1 ?_
      exact subTail h1 h2 ho)) fun _ _ z => z) fun _ _ z => z)
noncomputable def RP (_ : Kp) (_ : List Addr) (b : Option Int) (v : Value) : Prop := IsPart v b
noncomputable def wP (C : Cx) (A : Around) (G : Gd) (ae : AEnv) (st : List AObj) (x : Option Expr) (Q : Option Int → List AObj → Prop) : Prop := W RP C A G ae st (evalPart x G.env) Q
theorem wP_none {Q : Option Int → List AObj → Prop} (q : Q none st) : wP C A G ae st none Q := fun κ σ s e X => wpAny_pure (PA.ret (b := none) X IsPart.none q)
theorem wP_some {x : Expr} {Q : Option Int → List AObj → Prop} (h : wE C A G ae st x fun a st1 => ∃ i, a = .d (.int i) ∧ Q (some i) st1) : wP C A G ae st (some x) Q := fun κ σ s e X =>
  wpAny_mono (show wpAny _ _ (evalPart (some x) G.env) _ _ s from h κ σ s e X) (fun v s1 z => z.go fun κ' σ' a st' k p X' r ⟨i, ha, q⟩ => ⟨κ', σ', some i, st', k, p, X', by subst ha; obtain ⟨t, rfl⟩ := R.int_inv (κ := κ') r; exact IsPart.int i t, q⟩) fun _ _ z => z
noncomputable def wCut (C : Cx) (A : Around) (G : Gd) (st : List AObj) (a : AV) (x y z : Option Int) (Q : AV → List AObj → Prop) : Prop :=
  ∀ κ σ s va sl vx vy vz, Rel C G.φ G.κ₀ κ σ st s → RV κ σ a va → s.heap.IsSliceOf sl vx vy vz → IsPart vx x → IsPart vy y → IsPart vz z → SubOk s va ∧ wpAny (model C.prog C.w) A (getItem va (.ref sl)) (PA RV C G.φ G.κ₀ κ σ Q) G.E s
theorem wE_cut {value : Expr} {l u t : Option Expr} {p pos : Pos} (h : wE C A G ae st value fun a st1 => wP C A G ae st1 l fun x st2 => wP C A G ae st2 u fun y st3 => wP C A G ae st3 t fun z st4 => wCut C A G st4 a x y z Q) :
    wE C A G ae st (.Subscript value (.Slice l u t p) pos) Q := fun κ σ s e X =>
  Subscript_ (wpAny_mono (h κ σ s e X) (fun va s1 z => z.go fun κ1 σ1 a st1 k1 p1 X1 r1 q1 =>
    wpAny_Slice (wpAny_mono (q1 κ1 σ1 s1 (e.mono p1) X1) (fun vx s2 z =>
      z.go fun κ2 σ2 x st2 k2 p2 X2 r2 q2 =>
      wpAny_mono (q2 κ2 σ2 s2 (e.mono (p1.trans p2)) X2) (fun vy s3 z =>
        z.go fun κ3 σ3 y st3 k3 p3 X3 r3 q3 =>
        wpAny_mono (q3 κ3 σ3 s3 (e.mono ((p1.trans p2).trans p3)) X3) (fun vz s4 z => z.go fun κ4 σ4 z st4 k4 p4 X4 r4 q4 => PA.wp (((k1.trans k2).trans k3).trans k4) (((p1.trans p2).trans p3).trans p4) (by
          have X5 := X4.keeps (s' := { s4 with heap := s4.heap.push { cls := .type "slice", data := .fields #[vx, vy, vz] } }) (fun b o e => Heap.get?_push_of_some _ e) rfl rfl
          obtain ⟨h1, h2⟩ := q4 κ4 σ4 _ va s4.heap.objs.size vx vy vz X5 (((r1.mono k2 p2).mono k3 p3).mono k4 p4) (Heap.IsSliceOf.new ..) r2 r3 r4
          obtain ⟨ops, ho⟩ : ∃ ops, subscripted (.Slice l u t p) false va (.ref s4.heap.objs.size) = operate ops (getItem va (.ref s4.heap.objs.size)) := by cases t <;> exact ⟨_, rfl⟩
          exact subTail h1 h2 ho)) fun _ _ z => z) fun _ _ z => z) fun _ _ z => z)) fun _ _ z => z)
noncomputable def LstAV (st : List AObj) : AV → List AV → Prop
  | .d (.list ds), l => l = ds.map .d
  | .obj i, l => st[i]? = some (.list l) ∨ ∃ ds : List D, st[i]? = some (.frz (.list ds)) ∧ l = ds.map .d
  | _, _ => False
theorem LstAV.get {φ κ₀ κ : Kp} {σ : List Addr} {s : Shared} {a : AV} {l : List AV} {v : Value} (h : LstAV st a l) (X : Rel C φ κ₀ κ σ st s) (r : RV κ σ a v) : ∃ x o vs n, v = .ref x ∧ s.heap.get? x = some o ∧ o.cls = .type "list" ∧ o.dict = none ∧ o.data = .seq vs n ∧ RVL κ σ l vs.toList := by
  have key : ∀ {ds : List D}, R κ (.list ds) v → l = ds.map .d → ∃ x o vs n, v = .ref x ∧ s.heap.get? x = some o ∧ o.cls = .type "list" ∧ o.dict = none ∧ o.data = .seq vs n ∧ RVL κ σ l vs.toList := fun r hl => by
    simp only [R] at r
    refine byC fun hC1 => ?_
    obtain ⟨a, o, vs, n, rfl, h2, h3, h4, h5, h6⟩ := r
    refine hC1 ?_
    exact ⟨a, o, vs, n, rfl, X.keep _ _ h2, h3, h4, h5, hl ▸ RVL.ofD h6⟩
  cases a with
  | d x =>
    cases x with
    | list ds => exact key r h
    | none => exact h.elim
    | bool => exact h.elim
    | int => exact h.elim
    | str => exact h.elim
    | tuple => exact h.elim
    | dict => exact h.elim
  | glob => exact h.elim
  | obj i =>
    refine byC fun hC2 => ?_
    obtain ⟨x, hx, rfl⟩ := r
    refine hC2 ?_
    rcases h with h | ⟨ds, h, hl⟩
    · refine byC fun hC3 => ?_
      obtain ⟨x', o, hx', _, _, ho, vs, n, rfl, hr⟩ := X.get h trivial
      refine hC3 ?_
      rw [hx] at hx'; cases hx'
      exact ⟨x, _, vs, n, rfl, ho, rfl, rfl, rfl, hr⟩
    · refine byC fun hC4 => ?_
      obtain ⟨x', hx', hr⟩ := X.frz h
      refine hC4 ?_
      rw [hx] at hx'; cases hx'
      exact key hr hl
theorem LstOf.av {a : AV} {l : List D} (h : LstOf st a l) : LstAV st a (l.map .d) := by
  cases a with
  | d x =>
    cases x with
    | list ds => cases (h : l = ds); exact rfl
    | none => exact h.elim
    | bool => exact h.elim
    | int => exact h.elim
    | str => exact h.elim
    | tuple => exact h.elim
    | dict => exact h.elim
  | glob => exact h.elim
  | obj i =>
    rcases h with h | h
    · exact .inl h
    · exact .inr ⟨l, h, rfl⟩
theorem sub_list {a x : AV} {l : List AV} {i : Int} (h : LstAV st a l) (h0 : 0 ≤ i) (hi : i < 2 ^ 63) (hx : l[i.toNat]? = some x) (q : Q x st) : wSub C A G st a (.d (.int i)) Q := fun κ σ s va vb X ra ⟨t, rb⟩ => by
  subst rb
  refine byC fun hC1 => ?_
  obtain ⟨y, o, vs, n, rfl, ho, hc, hd, hdat, hr⟩ := h.get X ra
  have hl : s.heap.IsList y vs := ⟨o, ho, hc, n, hdat⟩
  obtain ⟨v, hv, rv⟩ := hr.2 _ _ hx
  refine hC1 ?_
  exact ⟨⟨_, _, hl.typeIs, slot_list_getitem.lookup⟩, wpAny_getItem_list hl h0 hi (by rw [Array.getElem?_toList] at hv; exact hv) (PA.ret X rv q)⟩
theorem sub_list_neg {a x : AV} {l : List AV} {i : Int} (h : LstAV st a l) (h0 : i < 0) (h1 : -(l.length : Int) ≤ i) (hi : -(2 ^ 63) ≤ i) (hx : l[(i + l.length).toNat]? = some x) (q : Q x st) : wSub C A G st a (.d (.int i)) Q := fun κ σ s va vb X ra ⟨t, rb⟩ => by
  subst rb
  refine byC fun hC1 => ?_
  obtain ⟨y, o, vs, n, rfl, ho, hc, hd, hdat, hr⟩ := h.get X ra
  have hl : s.heap.IsList y vs := ⟨o, ho, hc, n, hdat⟩
  have hsz : vs.size = l.length := by rw [← hr.1, Array.length_toList]
  obtain ⟨v, hv, rv⟩ := hr.2 _ _ hx
  refine hC1 ?_
  exact ⟨⟨_, _, hl.typeIs, slot_list_getitem.lookup⟩, wpAny_getItem_list_neg hl h0 (by rw [hsz]; exact h1) hi (by rw [Array.getElem?_toList] at hv; rw [hsz]; exact hv) (PA.ret X rv q)⟩
theorem sub_tuple {ds : List D} {x : D} {i : Int} (h0 : 0 ≤ i) (hi : i < 2 ^ 63) (hx : ds[i.toNat]? = some x) (q : Q (.d x) st) : wSub C A G st (.d (.tuple ds)) (.d (.int i)) Q := fun κ σ s va vb X ra ⟨t, rb⟩ => by
  subst rb
  simp only [RV, R] at ra
  refine byC fun hC1 => ?_
  obtain ⟨a, o, vs, n, rfl, h2, h3, h4, h5, h6⟩ := ra
  have ht : IsTup s.heap a vs := ⟨o, X.keep _ _ h2, h3, n, h5⟩
  have hsz : vs.size = ds.length := by rw [← h6.length, Array.length_toList]
  obtain ⟨v, hv, rv⟩ := h6.get hx
  refine hC1 ?_
  have hlt : i.toNat < ds.length := by
    by_cases q : i.toNat < ds.length
    · exact q
    · exact nope (List.getElem?_eq_none (by lia)) hx
  refine ⟨⟨_, _, ht.typeIs, slot_tuple_getitem.lookup⟩, PyProof.Rows.getItem_tuple ht (by lia) hi (j := i.toNat) ?_ (by rw [Array.getElem?_toList] at hv; exact hv) (PA.ret (b := .d x) X rv q)⟩
  unfold seqIndex?
  simp only [show ¬ i < 0 by lia, if_false]
  rw [if_pos (by simp only [Bool.and_eq_true, decide_eq_true_eq]; lia)]
theorem sub_str {x : Str} {i : Int} {c : Nat} (h0 : -(2 ^ 63) ≤ i) (hi : i < 2 ^ 63) (hc : (seqIndex? i x.length).bind (x.cps[·]?) = some c) (q : Q (.d (.str ⟨#[c]⟩)) st) : wSub C A G st (.d (.str x)) (.d (.int i)) Q := fun κ σ s va vb X ⟨t, ra⟩ ⟨u, rb⟩ => by
  subst ra; subst rb
  refine ⟨⟨_, _, typeIs_str _ _ _, F.slot_str_getitem.lookup⟩, P.getItem_str ?_ hc (PA.str (X.toks _ s.drawn) q)⟩
  simp only [Bool.or_eq_false_iff, decide_eq_false_iff_not]
  lia
theorem sub_dict {v : Value} {T : List (PyData × PyData)} {i : Int} {x : D} (h : IntDict C v T) (hl : PySem.Spec.lookup (.int i) T = some x) (hf : flatD x) (q : Q (.d x) st) : wSub C A G st (.glob v) (.d (.int i)) Q := fun κ σ s va vb X ra ⟨t, rb⟩ => by
  cases (ra : va = v); subst rb
  have hty := hasTy_dict (st := st) h _ _ _ _ _ _ X (show RV κ σ (.glob v) v from rfl)
  obtain ⟨d, rfl, hd⟩ := h
  exact ⟨⟨_, _, hty.1, slot_dict_getitem.lookup⟩, getItem_tab same_int (intKind_is _ _ i t) (hd s.heap X.p0).1 hl fun y hy => ⟨κ, σ, .d x, st, Kle.refl _, List.prefix_refl _, X.toks _ s.drawn, R.of_flat hy hf, q⟩⟩
noncomputable def pickL {α : Type} (l : List α) (lo hi st : Option Int) : List α := (sliceRange (sliceBounds lo hi st l.length).1 (sliceBounds lo hi st l.length).2.1 (sliceBounds lo hi st l.length).2.2).filterMap (l[·]?)
theorem RVL.pick {κ : Kp} {σ : List Addr} {as : List AV} {vs : List Value} (h : RVL κ σ as vs) : ∀ idx : List Nat, RVL κ σ (idx.filterMap (as[·]?)) (idx.filterMap (vs[·]?))
  | [] => RVL.nil
  | i :: r => by
    rw [List.filterMap_cons, List.filterMap_cons]
    by_cases q : i < as.length
    · refine byC fun hC1 => ?_
      obtain ⟨v, e, rv⟩ := h.2 i _ (List.getElem?_eq_getElem q)
      refine hC1 ?_
      rw [List.getElem?_eq_getElem q, e]
      exact RVL.cons rv (RVL.pick h r)
    · rw [List.getElem?_eq_none (by lia), List.getElem?_eq_none (by rw [h.1]; lia)]
      exact RVL.pick h r
theorem pickL_map {α β : Type} (f : α → β) (l : List α) (lo hi st : Option Int) : pickL (l.map f) lo hi st = (pickL l lo hi st).map f := by
  unfold pickL
  rw [List.length_map]
  generalize sliceRange _ _ _ = idx
  induction idx with
  | nil => rfl
  | cons i r ih =>
    rw [List.filterMap_cons, List.filterMap_cons, List.getElem?_map]
    cases l[i]? with
    | none => exact ih
    | some x => exact congrArg (f x :: ·) ih
theorem cut_list {a : AV} {l : List D} {x y z : Option Int} (h : LstOf st a l) (h0 : z ≠ some 0) (hsz : l.length ≤ sizeLine) (q : Q (.d (.list (pickL l x y z))) st) : wCut C A G st a x y z Q := fun κ σ s va sl vx vy vz X ra hs px py pz => by
  refine byC fun hC1 => ?_
  obtain ⟨b, o, vs, n, rfl, ho, hc, hd, hdat, hr⟩ := h.av.get X ra
  refine hC1 ?_
  have hl : s.heap.IsList b vs := ⟨o, ho, hc, n, hdat⟩
  have hsize : vs.size = l.length := by have := hr.1; rw [Array.length_toList] at this; simpa using this
  refine ⟨⟨_, _, hl.typeIs, slot_list_getitem.lookup⟩, wpAny_getItem_list_slice hl hs px py pz h0 ?_ (by rw [hsize]; exact hsz)⟩
  refine PA.newList (n := 0) X ?_ q
  have := hr.pick (sliceRange (sliceBounds x y z l.length).1 (sliceBounds x y z l.length).2.1 (sliceBounds x y z l.length).2.2)
  have e : (sliceRange (sliceBounds x y z l.length).1 (sliceBounds x y z l.length).2.1 (sliceBounds x y z l.length).2.2).filterMap ((l.map AV.d)[·]?) = (pickL l x y z).map AV.d := by
    rw [← pickL_map]; unfold pickL; rw [List.length_map]
  rw [e] at this
  have e2 : (slicePick vs x y z).toList = (sliceRange (sliceBounds x y z l.length).1 (sliceBounds x y z l.length).2.1 (sliceBounds x y z l.length).2.2).filterMap (vs.toList[·]?) := by
    unfold slicePick; rw [hsize]; simp
  rw [e2]
  exact this.toD
theorem partInv {v : Value} {x : Option Int} (h : IsPart v x) : ∃ l : Option (Int × Tok), v = partValue l ∧ l.map (·.1) = x := by
  cases h with
  | none => exact ⟨none, rfl, rfl⟩
  | int i t => exact ⟨some (i, t), rfl, rfl⟩
theorem cut_str {s : Str} {x y : Option Int} (hsz : s.length ≤ sizeLine) (q : Q (.d (.str (Txt.slice s x y))) st) : wCut C A G st (.d (.str s)) x y none Q := fun κ σ s va sl vx vy vz X ⟨t, ra⟩ hs px py pz => by
  subst ra
  cases pz
  refine byC fun hC1 => ?_
  obtain ⟨l, rfl, rfl⟩ := partInv px
  obtain ⟨u, rfl, rfl⟩ := partInv py
  obtain ⟨o, ho, hc, hd⟩ := hs
  refine hC1 ?_
  refine ⟨⟨_, _, typeIs_str _ _ _, F.slot_str_getitem.lookup⟩, wpAny_getItem_str_slice (l := l) (u := u) (st := none) ⟨o, ho, hc, hd⟩ rfl ?_⟩
  exact post_val_or_str ⟨Nat.le_trans (Txt.slice_le _ _ _) hsz, fun t' k => PA.str (X.toks k _) q⟩
end
end Mine
end
section
open PySem PySem.Calls PyProof.Rows PySem.W PySem.SeqAt PyProof.V
open PySem.Builtin PySem.Builtin.Str
namespace Mine
section
variable {C : Cx} {A : Around} {G : Gd} {ae : AEnv} {st : List AObj} {Q : AV → List AObj → Prop}
theorem AOk.in1n {n : Nat} (h : AOk A n) : A.in1.handled = none := by
  have := h.handled; simpa using this
theorem is_none_v {a : AV} {b : Bool} (hb : ∀ φ κ₀ κ σ s v, Rel C φ κ₀ κ σ st s → RV κ σ a v → (v == Value.none) = b) (q : Q (.d (.bool b)) st) : wCmp C A G st .Is a (.d .none) Q := fun κ σ s va vb X ra rb => by
  cases (rb : vb = _)
  exact PySem.is_none (PA.bool X (by rw [hb _ _ _ _ _ _ X ra]; exact q))
theorem is_none_none (q : Q (.d (.bool true)) st) : wCmp C A G st .Is (.d .none) (.d .none) Q := is_none_v (fun _ _ _ _ _ v _ r => by cases (r : v = _); rfl) q
theorem is_none_int {i : Int} (q : Q (.d (.bool false)) st) : wCmp C A G st .Is (.d (.int i)) (.d .none) Q := is_none_v (fun _ _ _ _ _ v _ r => by obtain ⟨t, rfl⟩ := r; rfl) q
theorem is_none_glob {f : Value} (hf : (f == Value.none) = false) (q : Q (.d (.bool false)) st) : wCmp C A G st .Is (.glob f) (.d .none) Q := is_none_v (fun _ _ _ _ _ v _ r => by cases (r : v = _); exact hf) q
theorem mul_si {x : Str} {n : Int} (h1 : 1 ≤ n) (h2 : n ≤ 1000) (hl : x.length ≤ 1000) (hx : x.length ≠ 0) (q : Q (.d (.str ⟨(List.replicate n.toNat x.cps).foldl (· ++ ·) #[]⟩)) st) : wBin C A G st .Mult (.d (.str x)) (.d (.int n)) Q := fun κ σ s va vb X ⟨t, ea⟩ ⟨u, eb⟩ => by
  subst ea; subst eb
  have hlen : x.length * n.toNat ≤ 1000 * 1000 := Nat.mul_le_mul hl (by lia)
  have fold : ∀ (k : Nat) (a : Array Nat), ((List.replicate k x.cps).foldl (· ++ ·) a).size = a.size + k * x.length := by
    intro k
    induction k with
    | zero => intro a; simp
    | succ k ih => intro a; rw [List.replicate_succ, List.foldl_cons, ih, Array.size_append, Nat.succ_mul]; show a.size + x.length + _ = _; lia
  refine P.mul_str ?_ (fun _ _ => ?_) (fun _ _ => ?_) ?_
  · simp only [Bool.or_eq_false_iff, decide_eq_false_iff_not]; lia
  · intro hc
    have : (2 ^ 63 - 1 : Int) / 1000 ≤ (2 ^ 63 - 1) / n := by
      apply Int.le_ediv_of_mul_le (by lia)
      calc (2 ^ 63 - 1 : Int) / 1000 * n ≤ (2 ^ 63 - 1) / 1000 * 1000 := Int.mul_le_mul_of_nonneg_left h2 (by decide)
        _ ≤ 2 ^ 63 - 1 := by decide
    have : (2 ^ 63 - 1 : Int) / 1000 > 1000 := by decide
    lia
  · unfold tooLong
    simp only [decide_eq_false_iff_not]
    rw [sizeLine_eq]
    lia
  · rw [if_neg (by lia)]
    by_cases h : (n == 1 || x.length == 0) = true
    · rw [if_pos h]
      have hn : n = 1 := by simp at h; rcases h with h | h; exact h; exact absurd h hx
      subst hn
      refine PA.str X ?_
      have : (⟨(List.replicate (1 : Int).toNat x.cps).foldl (· ++ ·) #[]⟩ : Str) = x := by simp
      rw [this] at q; exact q
    · rw [if_neg h]
      refine ⟨?_, PA.str (X.toks _ s.drawn) q⟩
      show ((List.replicate n.toNat x.cps).foldl (· ++ ·) #[]).size ≤ sizeLine
      rw [fold, sizeLine_eq, Nat.mul_comm]
      simp
      lia
theorem add_ll {a b : AV} {l m : List D} (h : LstOf st a l) (k : LstOf st b m) (hsz : l.length + m.length ≤ sizeLine) (q : Q (.d (.list (l ++ m))) st) : wBin C A G st .Add a b Q := fun κ σ s va vb X ra rb => by
  obtain ⟨x, ⟨cls, dd, data, sl⟩, vs, n, rfl, ho, hc, hd, hdat, hr⟩ := h.get X ra
  obtain ⟨y, ⟨cls2, dd2, data2, sl2⟩, ws, n2, rfl, ho2, hc2, hd2, hdat2, hr2⟩ := k.get X rb
  simp only at hc hd hdat hc2 hd2 hdat2
  subst hc hd hdat hc2 hd2 hdat2
  have h1 : vs.size = l.length := by rw [← hr.length, Array.length_toList]
  have h2 : ws.size = m.length := by rw [← hr2.length, Array.length_toList]
  refine concat_meets ⟨_, ho, rfl⟩ ⟨_, ho2, rfl⟩ noFill_list_add seq_list_add PySem.F.slot_list_add PySem.F.entry_list_add (PySem.F.args_list_add_2 _ _) (list_addW x y vs ws n n2 _ _ sl sl2 (by lia)) ⟨ho, ho2, ?_⟩
  exact PA.newList (n := 0) X (by simpa using hr.append hr2) q
theorem bi_len {a : AV} {l : List AV} (h : LstAV st a l) (hsz : l.length < 2 ^ 62) (q : Q (.d (.int l.length)) st) : wBi C A G st (.builtin "len") [a] Q := fun κ σ s vs X r => by
  obtain ⟨v, rfl, ra⟩ := r.one
  obtain ⟨x, o, ws, n, rfl, ho, hc, hd, hdat, hr⟩ := h.get X ra
  have h1 : ws.size = l.length := by rw [← hr.1, Array.length_toList]
  exact len_list ⟨o, ho, hc, n, hdat⟩ (by rw [h1]; lia) (by rw [h1]; exact PA.int (X.toks _ s.drawn) q)
theorem preSum_take (ns : List Int) (val : Nat → Int) (hv : ∀ i (h : i < ns.length), val i = ns[i]) : ∀ k, k ≤ ns.length → preSum val k = (ns.take k).sum
  | 0, _ => rfl
  | k + 1, h => by
    show preSum val k + val k = _
    rw [preSum_take ns val hv k (by lia), hv k (by lia), List.take_succ_eq_append_getElem (by lia), List.sum_append]; simp
theorem bi_sum {a : AV} {ns : List Int} (h : LstOf st a (ns.map .int)) (hh : A.in1.handled = none) (q : Q (.d (.int ns.sum)) st) : wBi C A G st (.builtin "sum") [a] Q := fun κ σ s vs X r => by
  obtain ⟨v, rfl, ra⟩ := r.one
  obtain ⟨x, o, ws, n, rfl, ho, hc, hd, hdat, hr⟩ := h.get X ra
  have hl : s.heap.IsList x ws := ⟨o, ho, hc, n, hdat⟩
  have h1 : ws.size = ns.length := by have := hr.length; rw [Array.length_toList] at this; simpa using this
  have hlt : x < s.heap.objs.size := Heap.lt_size ho
  refine call_sum_walkG (wpAny_pyIter_list hl ⟨_, [_, x], [_], _, _, _, fun i => ns.getD i 0, rfl, Walks.list hh _ x (Nat.ne_of_lt hlt) ws, ⟨⟨_, Heap.get?_push_size _ rfl, rfl, rfl⟩, hl.push _⟩, fun b hb => ?_, fun i v hv => ?_, fun h' tk t' hk => ?_⟩)
  · show b < (s.heap.push _).objs.size
    rw [Heap.size_push]
    rcases List.mem_cons.mp hb with rfl | hb
    · exact Nat.lt_succ_self _
    · simp at hb; subst hb; exact Nat.lt_succ_of_lt hlt
  · have hi : i < ns.length := by
      by_cases q : i < ns.length
      · exact q
      · exact nope (Array.getElem?_eq_none (by lia)) hv
    obtain ⟨u, hu, t, rfl⟩ := hr.get (i := i) (d := .int ns[i]) (by simp [hi])
    rw [Array.getElem?_toList, hv] at hu; cases hu
    exact ⟨t, by simp [hi]⟩
  · rw [h1, preSum_take ns _ (fun i h => by simp [h]) _ (Nat.le_refl _), List.take_length]
    refine PA.int (X.keeps (s' := { s with heap := h', toks := tk }) (fun b o e => hk b o (fun hm => ?_) (Heap.get?_push_of_some _ e)) rfl rfl) q
    simp at hm; subst hm; exact absurd (Heap.lt_size e) (Nat.lt_irrefl _)
theorem bi_abs {i : Int} (q : Q (.d (.int (if i < 0 then -i else i))) st) : wBi C A G st (.builtin "abs") [.d (.int i)] Q := fun κ σ s vs X r => by
  obtain ⟨v, rfl, t, rfl⟩ := r.one
  exact call_abs_int fun u tk => PA.int (X.toks tk s.drawn) q
theorem bi_str {i : Int} (hi : i.natAbs.log2 < 1920) (q : Q (.d (.str (Str.ofString (toString i)))) st) : wBi C A G st (.type "str") [.d (.int i)] Q := fun κ σ s vs X r => by
  obtain ⟨v, rfl, t, rfl⟩ := r.one
  exact P.str_of_int hi (PA.str (X.toks _ s.drawn) q)
theorem bi_find {x y : Str} (q : Q (.d (.int (Txt.find x y))) st) : wBi C A G st (.builtin "str.find") [.d (.str x), .d (.str y)] Q := fun κ σ s vs X r => by
  obtain ⟨v, u, rfl, ⟨t, rfl⟩, ⟨t', rfl⟩⟩ := r.two
  exact SC.find (PA.int (X.toks _ s.drawn) q)
theorem bi_find3 {x y : Str} {i : Int} (q : Q (.d (.int (Txt.find3 x y i))) st) : wBi C A G st (.builtin "str.find") [.d (.str x), .d (.str y), .d (.int i)] Q := fun κ σ s vs X r => by
  obtain ⟨v, u, w, rfl, ⟨t, rfl⟩, ⟨t', rfl⟩, ⟨t'', rfl⟩⟩ := r.three
  exact SC.find3 (PA.int (X.toks _ s.drawn) q)
theorem bi_stripc {x y : Str} (hsz : x.length ≤ sizeLine) (q : Q (.d (.str (Txt.stripChars x y))) st) : wBi C A G st (.builtin "str.strip") [.d (.str x), .d (.str y)] Q := fun κ σ s vs X r => by
  obtain ⟨v, u, rfl, ⟨t, rfl⟩, ⟨t', rfl⟩⟩ := r.two
  exact SC.stripChars (fun t' k => PA.str (X.toks k s.drawn) q) hsz
theorem bi_split {x y : Str} (hy : (y.length == 0) = false) (hsz : x.length + 2 ≤ sizeLine) (q : Q (.d (.list ((Txt.split x y).map .str))) st) : wBi C A G st (.builtin "str.split") [.d (.str x), .d (.str y)] Q := fun κ σ s vs X r => by
  obtain ⟨v, w, rfl, ⟨t, rfl⟩, ⟨u, rfl⟩⟩ := r.two
  have hsz2 : (partsBetween x (occurrences x y 0 x.length (x.length + 1)) y.length).length ≤ sizeLine := by
    rw [length_partsBetween]
    have := StrLaws.occ_length_le x y 0 x.length (x.length + 1)
    lia
  cases h1 : (decide (x.length < y.length) || decide (strKind x < strKind y))
  · cases hf : (occurrences x y 0 x.length (x.length + 1)).isEmpty
    · refine call_meets F.slot_str_split (typeIs_str _ _ _) F.entry_str_split (F.args_str_split_2 _ _) (meets_str_split_sep x y t u h1 hy hf (by lia) hsz2) ?_
      show wants _ _ _ { s with toks := _, heap := s.heap.push { cls := .type "list", data := .seq (strsFrom s.toks (partsBetween x (occurrences x y 0 x.length (x.length + 1)) y.length)).toArray } }
      rw [strsFrom_eq]
      have e : (numbered s.toks (partsBetween x (occurrences x y 0 x.length (x.length + 1)) y.length)).map (·.1) = Txt.split x y := (numbered_texts _ _).trans ((if_neg (ne_true_of_eq_false h1)).trans (if_neg (ne_true_of_eq_false hf))).symm
      exact PA.newList (n := 0) X (by rw [← e]; exact RL.ofStrs _) q
    · refine call_meets F.slot_str_split (typeIs_str _ _ _) F.entry_str_split (F.args_str_split_2 _ _) (meets_str_split_not_found x y t u h1 hy hf) ?_
      have e : ([(x, t)] : List (Str × Tok)).map (·.1) = Txt.split x y := ((if_neg (ne_true_of_eq_false h1)).trans (if_pos hf)).symm
      exact PA.newList (n := 0) (vs := (strValues [(x, t)]).toArray) (tk := s.toks) X (by rw [← e]; exact RL.ofStrs [(x, t)]) q
  · refine call_meets F.slot_str_split (typeIs_str _ _ _) F.entry_str_split (F.args_str_split_2 _ _) (meets_str_split_cannot_occur x y t u h1) ?_
    have e : ([(x, t)] : List (Str × Tok)).map (·.1) = Txt.split x y := (if_pos h1).symm
    exact PA.newList (n := 0) (vs := (strValues [(x, t)]).toArray) (tk := s.toks) X (by rw [← e]; exact RL.ofStrs [(x, t)]) q
end
end Mine
end
section
open PySem PySem.Calls PyProof.Rows PySem.W PySem.SeqAt PyProof.V
namespace Mine
noncomputable def Free (C : Cx) (φ κ : Kp) (σ : List Addr) (b : Addr) : Prop := κ b = none ∧ φ b = none ∧ b ∉ σ ∧ b ∉ C.tabs
section
variable {C : Cx} {φ κ₀ κ : Kp} {σ : List Addr} {st : List AObj} {s : Shared}
theorem Rel.free_new (X : Rel C φ κ₀ κ σ st s) {a : Addr} (h : s.heap.get? a = none) : Free C φ κ σ a := by
  refine ⟨?_, ?_, fun hm => ?_, fun hm => ?_⟩
  · exact noneOf fun o' q => nope h (X.keep _ _ q)
  · exact noneOf fun o' q => nope h (X.phi _ _ q)
  · exact X.mem hm (fun o e => nope h (X.keep _ _ e)) fun _ _ o e => nope h e
  · obtain ⟨⟨ps, e, _⟩, _⟩ := X.tabs a hm; exact nope h e
theorem Rel.moved (X : Rel C φ κ₀ κ σ st s) {s' : Shared} {κ' : Kp} {own : List Addr} (hf : ∀ b ∈ own, Free C φ κ σ b) (hk : ∀ b o, b ∉ own → s.heap.get? b = some o → s'.heap.get? b = some o) (hg : s'.gens = s.gens) (ho : s'.os = s.os)
    (k : Kle κ κ') (hn : ∀ b o, κ' b = some o → κ b = some o ∨ (s.heap.get? b = none ∧ b ∉ own)) (hκ : ∀ b o, κ' b = some o → s'.heap.get? b = some o) : Rel C φ κ₀ κ' σ st s' ∧ ∀ b ∈ own, Free C φ κ' σ b := by
  have gone : ∀ a o, s.heap.get? a = some o → κ a = none → κ' a = none := fun a o e1 e2 => by
    refine noneOf fun o' q => ?_
    rcases hn a o' q with h | ⟨h, _⟩
    · exact nope e2 h
    · rw [e1] at h; cases h
  refine ⟨⟨X.prog.trans k, X.k0.trans k, fun b o e => ?_, hκ, fun b o e => hk b o (fun hm => ?_) (X.phi b o e), X.len, X.nd, fun i a x e1 e2 => ?_, fun P hP => ?_, hg.trans X.gens, ho.trans X.os⟩, fun b hb => ⟨?_, (hf b hb).2⟩⟩
  · rcases hn b o e with h | ⟨h, _⟩
    · exact X.new b o h
    · right; refine noneOf fun o' q => ?_
      rw [X.phi _ _ q] at h; cases h
  · exact nope ((hf b hm).2.1) e
  · have hna : a ∉ own := fun hm => (hf a hm).2.2.1 (List.mem_of_getElem? e1)
    exact (X.own i a x e1 e2).map k (List.prefix_refl _) fun h1 h2 o h3 => ⟨gone a o h3 h1, h2, hk _ _ hna h3⟩
  · have hna : P ∉ own := fun hm => (hf P hm).2.2.2 hP
    refine byC fun hC1 => ?_
    obtain ⟨⟨ps, e, r⟩, h2, h3, h4⟩ := X.tabs P hP
    refine hC1 ?_
    exact ⟨TabOk.keeps (C := C) ⟨ps, e, r⟩ k fun o e => hk _ _ hna e, h2, gone P _ e h3, h4⟩
  · refine noneOf fun o q => ?_
    rcases hn b o q with h | ⟨_, h⟩
    · exact nope ((hf b hb).1) h
    · exact absurd hb h
theorem Rel.keepsButs (X : Rel C φ κ₀ κ σ st s) {s' : Shared} {own : List Addr} (hf : ∀ b ∈ own, Free C φ κ σ b) (hk : ∀ b o, b ∉ own → s.heap.get? b = some o → s'.heap.get? b = some o) (hg : s'.gens = s.gens) (ho : s'.os = s.os) : Rel C φ κ₀ κ σ st s' :=
  (X.moved hf hk hg ho (Kle.refl _) (fun _ _ e => .inl e) fun b o e => hk b o (fun hm => by exact nope ((hf b hm).1) e) (X.keep b o e)).1
noncomputable def apart (φ : Kp) (own : List Addr) (h : Heap) : Kp := fun b => if b ∈ own then h.get? b else φ b
theorem apart_in {φ : Kp} {own : List Addr} {h : Heap} {b : Addr} (hb : b ∈ own) : apart φ own h b = h.get? b := if_pos hb
theorem Rel.enter (X : Rel C φ κ₀ κ σ st s) {own : List Addr} (hf : ∀ b ∈ own, Free C φ κ σ b) : Rel C (apart φ own s.heap) κ₀ κ σ st s := by
  have key : ∀ b, b ∉ own → apart φ own s.heap b = φ b := fun b hb => if_neg hb
  refine ⟨X.prog, X.k0, fun b o e => ?_, X.keep, fun b o e => ?_, X.len, X.nd, fun i a x e1 e2 => ?_, fun P hP => ?_, X.gens, X.os⟩
  · have hb : b ∉ own := fun hm => by exact nope ((hf b hm).1) e
    rw [key b hb]; exact X.new b o e
  · by_cases hb : b ∈ own
    · unfold apart at e; rw [if_pos hb] at e; exact e
    · rw [key b hb] at e; exact X.phi b o e
  · have hna : a ∉ own := fun hm => (hf a hm).2.2.1 (List.mem_of_getElem? e1)
    exact (X.own i a x e1 e2).map (Kle.refl _) (List.prefix_refl _) fun h1 h2 o h3 => ⟨h1, (key a hna).trans h2, h3⟩
  · have hna : P ∉ own := fun hm => (hf P hm).2.2.2 hP
    have := X.tabs P hP
    rw [key P hna]; exact this
theorem Rel.leave {h0 : Heap} {own : List Addr} (X : Rel C (apart φ own h0) κ₀ κ σ st s) (hφ : ∀ b ∈ own, φ b = none) (hκ₀ : ∀ b ∈ own, κ₀ b = none) (hex : ∀ b ∈ own, ∃ o, h0.get? b = some o) : Rel C φ κ₀ κ σ st s ∧ (∀ b ∈ own, Free C φ κ σ b) ∧ ∀ b ∈ own, s.heap.get? b = h0.get? b := by
  have key : ∀ b o, φ b = some o → apart φ own h0 b = some o := fun b o e => by
    have hb : b ∉ own := fun hm => by exact nope (hφ b hm) e
    unfold apart; rw [if_neg hb]; exact e
  have keyn : ∀ b, apart φ own h0 b = none → φ b = none := fun b e => by
    refine noneOf fun o q => ?_
    rw [key b o q] at e; cases e
  have there : ∀ b ∈ own, ∃ o, apart φ own h0 b = some o := fun b hb => by
    obtain ⟨o, e⟩ := hex b hb
    exact ⟨o, by unfold apart; rw [if_pos hb]; exact e⟩
  have hκ : ∀ b ∈ own, κ b = none := fun b hb => by
    refine noneOf fun o q => ?_
    rcases X.new b o q with h | h
    · exact nope (hκ₀ b hb) h
    · obtain ⟨o', e⟩ := there b hb; exact nope h e
  refine ⟨⟨X.prog, X.k0, fun b o e => ?_, X.keep, fun b o e => X.phi b o (key b o e), X.len, X.nd, fun i a x e1 e2 => ?_, fun P hP => ?_, X.gens, X.os⟩, fun b hb => ⟨hκ b hb, hφ b hb, fun hm => ?_, fun hm => ?_⟩, fun b hb => ?_⟩
  · rcases X.new b o e with h | h
    · exact .inl h
    · exact .inr (keyn b h)
  · exact (X.own i a x e1 e2).map (Kle.refl _) (List.prefix_refl _) fun h1 h2 o h3 => ⟨h1, keyn a h2, h3⟩
  · obtain ⟨h1, h2, h3⟩ := X.tabs P hP
    exact ⟨h1, keyn P h2, h3⟩
  · obtain ⟨o', e'⟩ := there b hb
    exact X.mem hm (fun o e => nope (hκ b hb) e) fun _ h2 _ _ => nope h2 e'
  · obtain ⟨o', e'⟩ := there b hb
    have := (X.tabs b hm).2.1
    exact nope this e'
  · obtain ⟨o, e⟩ := hex b hb
    rw [e]
    exact X.phi b o (by unfold apart; rw [if_pos hb]; exact e)
end
structure Itr (C : Cx) (A : Around) (tgt : Expr) (κ : Kp) (I : Addr) (own : List Addr) (its : List D) (St : Nat → Heap → Prop) : Prop where
  frame : ∀ k h h', St k h → (∀ b ∈ own, ∀ o, h.get? b = some o → h'.get? b = some o) → (∀ b o, κ b = some o → h'.get? b = some o) → St k h'
  ex : ∀ k h, St k h → ∀ b ∈ own, ∃ o, h.get? b = some o
  next : ∀ k x (s : Shared) (Q : Value → Shared → Prop) (E : Value → Shared → Prop), its[k]? = some x → St k s.heap →
    (∀ v h' tk, St (k + 1) h' → (∀ b o, b ∉ own → s.heap.get? b = some o → h'.get? b = some o) →
      (∀ κc, Kle κ κc → (∀ b o, κc b = some o → s.heap.get? b = some o) → (∀ b ∈ own, κc b = none) → ∃ κ', Kle κc κ' ∧ (∀ b o, κ' b = some o → κc b = some o ∨ (s.heap.get? b = none ∧ b ∉ own)) ∧ (∀ b o, κ' b = some o → h'.get? b = some o) ∧ R κ' x v) →
      Q v { s with heap := h', toks := tk }) →
    wpAny (model C.prog C.w) A (pyNext (.ref I)) (fun r s1 => ∃ v, r = some v ∧ wpAny (model C.prog C.w) A (letOwnedTupleGo tgt (.ref I) v) (fun _ s2 => Q v s2) E s1) E s
  done : ∀ (s : Shared) (Q : Option Value → Shared → Prop) (E : Value → Shared → Prop), St its.length s.heap →
    (∀ h' tk, (∀ b o, b ∉ own → s.heap.get? b = some o → h'.get? b = some o) → Q none { s with heap := h', toks := tk }) → wpAny (model C.prog C.w) A (pyNext (.ref I)) Q E s
  self : ∀ k (s : Shared) (Q : Value → Shared → Prop) (E : Value → Shared → Prop), St k s.heap → Q (.ref I) s → wpAny (model C.prog C.w) A (pyIter (.ref I)) Q E s
theorem letGo_plain {M : Model} {A : Around} {E : Value → Shared → Prop} {s : Shared} {tgt : Expr} {I : Addr} {v : Value} {o : Obj} {Q : Unit → Shared → Prop} (ho : s.heap.get? I = some o) (T : String) (hc : o.cls = .type T)
    (hT : ["enumerate", "zip", "dict_itemiterator", "dict_reverseitemiterator", "odict_iterator", "itertools.zip_longest", "itertools.pairwise"].contains T = false) (hQ : Q () s) : wpAny M A (letOwnedTupleGo tgt (.ref I) v) Q E s := by
  have key : wpAny M A (do
      let (.ref r, .ref a) := ((Value.ref I, v) : Value × Value) | return
      let o ← load r
      match o.cls, o.data with
      | .type n, .fields vs =>
        if ["enumerate", "zip", "dict_itemiterator", "dict_reverseitemiterator", "odict_iterator", "itertools.zip_longest", "itertools.pairwise"].contains n && vs[0]? == some (rawInt a) then
          rule "for.unpacks-the-owned-tuple"
          updateField r 0 .none
      | _, _ => pure () : Sem Unit) Q E s := by
    cases v with
    | ref a =>
      refine wpAny_bind (wpAny_load ho ?_)
      rw [hc]
      cases o.data with
      | fields vs =>
        show wpAny _ _ (if (["enumerate", "zip", "dict_itemiterator", "dict_reverseitemiterator", "odict_iterator", "itertools.zip_longest", "itertools.pairwise"].contains T && vs[0]? == some (rawInt a)) = true then _ else _) _ _ _
        rw [hT]; exact wpAny_pure hQ
      | _ => exact wpAny_pure hQ
    | _ => exact wpAny_pure hQ
  unfold letOwnedTupleGo
  cases tgt with
  | Tuple => exact key
  | List => exact key
  | _ => exact wpAny_pure hQ
section
variable {C : Cx} {A : Around} {G : Gd} {ae : AEnv} {st : List AObj}
theorem Itr.ofWalks {tgt : Expr} {κ : Kp} {I : Addr} {fp : List Addr} {P : Nat → Value → Prop} {St : Nat → Heap → Prop} {its : List D} (W : Walks C.prog C.w A I fp [I] its.length P St) (hI : κ I = none) (hP : ∀ i v x, P i v → its[i]? = some x → R κ x v)
    (hfp : ∀ b ∈ fp, b = I ∨ ∃ o, κ b = some o) (T : String) (hT : ["enumerate", "zip", "dict_itemiterator", "dict_reverseitemiterator", "odict_iterator", "itertools.zip_longest", "itertools.pairwise"].contains T = false)
    (hex : ∀ i h, St i h → ∃ o, h.get? I = some o ∧ o.cls = .type T) : Itr C A tgt κ I [I] its (fun k h => St k h ∧ ∀ b o, κ b = some o → h.get? b = some o) where
  frame := fun k h h' st h1 h2 => ⟨W.frame k h h' st.1 fun b hb o e => by
    rcases hfp b hb with rfl | ⟨o', e'⟩
    · exact h1 b (by simp) o e
    · rw [st.2 b o' e'] at e; cases e; exact h2 b _ e', h2⟩
  ex := fun k h st b hb => by simp at hb; subst hb; obtain ⟨o, e, _⟩ := hex k h st.1; exact ⟨o, e⟩
  next := fun k x s Q E hx st hQ => by
    have hlt : k < its.length := by
      by_cases q : k < its.length
      · exact q
      · exact nope (List.getElem?_eq_none (by omega)) hx
    refine W.item k s _ E hlt st.1 fun v h' tk hp hst hk => ⟨v, rfl, ?_⟩
    obtain ⟨o, e0, hc⟩ := hex _ _ hst
    have hκ' : ∀ b o, κ b = some o → h'.get? b = some o := fun b x e => hk b x (fun hm => by simp at hm; subst hm; exact nope hI e) (st.2 b x e)
    exact letGo_plain (s := { s with heap := h', toks := tk }) e0 T hc hT (hQ v h' tk ⟨hst, hκ'⟩ hk fun κc kle hkc hown => ⟨κc, Kle.refl _, fun _ _ e => .inl e, fun b o e => hk b o (fun hm => by exact nope (hown b hm) e) (hkc b o e), (hP k v x hp hx).mono kle⟩)
  done := fun s Q E st hQ => W.done s Q E st.1 hQ
  self := fun k s Q E st hQ => W.self k s Q E st.1 hQ
inductive ItrAt (C : Cx) (A : Around) (G : Gd) (tgt : Expr) (κ : Kp) (σ : List Addr) (Q : List D → List AObj → Prop) (it : Value) (s2 : Shared) : Prop
  | mk (κ' : Kp) (σ' : List Addr) (its : List D) (st' : List AObj) (I : Addr) (own : List Addr) (St : Nat → Heap → Prop) (hit : it = .ref I) (k : Kle κ κ') (p : σ <+: σ') (X : Rel C G.φ G.κ₀ κ' σ' st' s2) (hf : ∀ b ∈ own, Free C G.φ κ' σ' b) (hI : Itr C A tgt κ' I own its St) (hst : St 0 s2.heap) (q : Q its st')
theorem ItrAt.up {tgt : Expr} {κ κ1 : Kp} {σ σ1 : List Addr} {Q : List D → List AObj → Prop} {it : Value} {s2 : Shared} (z : ItrAt C A G tgt κ1 σ1 Q it s2) (k : Kle κ κ1) (p : σ <+: σ1) : ItrAt C A G tgt κ σ Q it s2 := by
  cases z with
  | mk κ' σ' its st' I own St hit k1 p1 X hf hI hst q => exact ⟨κ', σ', its, st', I, own, St, hit, k.trans k1, p.trans p1, X, hf, hI, hst, q⟩
theorem ItrAt.go {tgt : Expr} {κ : Kp} {σ : List Addr} {its : List D} {I0 : List AObj → Prop} {it : Value} {s2 : Shared} {P : Value → Prop} (z : ItrAt C A G tgt κ σ (fun its' st' => its' = its ∧ I0 st') it s2)
    (k : ∀ κ2 σ2 st2 I own St, Kle κ κ2 → σ <+: σ2 → Rel C G.φ G.κ₀ κ2 σ2 st2 s2 → (∀ b ∈ own, Free C G.φ κ2 σ2 b) → Itr C A tgt κ2 I own its St → St 0 s2.heap → I0 st2 → P (.ref I)) : P it := by
  cases z with
  | mk κ' σ' its' st' I own St hit k1 p1 X hf hI hst q => cases hit; cases q.1; exact k κ' σ' st' I own St k1 p1 X hf hI hst q.2
theorem ItrAt.goS {tgt : Expr} {κ : Kp} {σ : List Addr} {its : List D} {st2 : List AObj} {it : Value} {s2 : Shared} {P : Prop} (z : ItrAt C A G tgt κ σ (fun its' st' => its' = its ∧ st' = st2) it s2)
    (k : ∀ κ2 σ2 I own St, it = .ref I → Kle κ κ2 → σ <+: σ2 → Rel C G.φ G.κ₀ κ2 σ2 st2 s2 → (∀ b ∈ own, Free C G.φ κ2 σ2 b) → Itr C A tgt κ2 I own its St → St 0 s2.heap → P) : P := by
  cases z with
  | mk κ' σ' its' st' I own St hit k1 p1 X hf hI hst q => cases q.1; cases q.2; exact k κ' σ' I own St hit k1 p1 X hf hI hst
theorem Itr.item {tgt : Expr} {κ : Kp} {I : Addr} {own : List Addr} {its : List D} {St : Nat → Heap → Prop} (h : Itr C A tgt κ I own its St) (N : Shared → Prop) (k : Nat) (x : D) (s : Shared) (Q : Value → Shared → Prop) (E : Value → Shared → Prop) (hx : its[k]? = some x) (hst : St k s.heap)
    (hq : ∀ v h' tk, St (k + 1) h' → (∀ b o, b ∉ own → s.heap.get? b = some o → h'.get? b = some o) →
      (∀ κc, Kle κ κc → (∀ b o, κc b = some o → s.heap.get? b = some o) → (∀ b ∈ own, κc b = none) → ∃ κ', Kle κc κ' ∧ (∀ b o, κ' b = some o → κc b = some o ∨ (s.heap.get? b = none ∧ b ∉ own)) ∧ (∀ b o, κ' b = some o → h'.get? b = some o) ∧ R κ' x v) →
      Q v { s with heap := h', toks := tk }) :
    wpAny (model C.prog C.w) A (pyNext (.ref I)) (fun r s1 => match r with | none => N s1 | some v => wpAny (model C.prog C.w) A (letOwnedTupleGo tgt (.ref I) v) (fun _ s2 => Q v s2) E s1) E s :=
  wpAny_mono (h.next k x s Q E hx hst hq) (fun r s1 hh => by
    obtain ⟨v, hr, h⟩ := hh; rw [hr]; exact h) fun _ _ z => z
noncomputable def wItr (C : Cx) (A : Around) (G : Gd) (tgt : Expr) (st : List AObj) (a : AV) (Q : List D → List AObj → Prop) : Prop :=
  ∀ κ σ s v, Rel C G.φ G.κ₀ κ σ st s → RV κ σ a v → wpAny (model C.prog C.w) A (pyIter v)
    (ItrAt C A G tgt κ σ Q) G.E s
theorem itr_list {tgt : Expr} {a : AV} {ds : List D} {Q : List D → List AObj → Prop} (h : a = .d (.list ds) ∨ ∃ i : Nat, a = .obj i ∧ st[i]? = some (.frz (.list ds))) (hh : A.handled = none) (q : Q ds st) : wItr C A G tgt st a Q := fun κ σ s v X r => by
  have r : R κ (.list ds) v := by
    rcases h with rfl | ⟨i, rfl, e⟩
    · exact r
    · refine byC fun hC1 => ?_
      obtain ⟨b, hb, rfl⟩ := r
      obtain ⟨b', hb', r⟩ := X.frz e
      refine hC1 ?_
      rw [hb] at hb'; cases hb'; exact r
  simp only [R] at r
  refine byC fun hC2 => ?_
  obtain ⟨a, o, vs, n, rfl, h2, h3, h4, h5, h6⟩ := r
  refine hC2 ?_
  have hl : s.heap.IsList a vs := ⟨o, X.keep _ _ h2, h3, n, h5⟩
  have hlt : a < s.heap.objs.size := Heap.lt_size (X.keep _ _ h2)
  have hn := fresh_none s.heap
  have hsz : vs.size = ds.length := by rw [← h6.length, Array.length_toList]
  have hF := X.free_new hn
  have W := Walks.list (prog := C.prog) (w := C.w) hh s.heap.objs.size a (Nat.ne_of_lt hlt) vs
  rw [hsz] at W
  have X' := X.keeps (s' := { s with heap := s.heap.push { cls := .type "list_iterator", data := .fields #[.ref a, .int 0 0] } }) (fun b o e => Heap.get?_push_of_some _ e) rfl rfl
  refine wpAny_pyIter_list hl ⟨κ, σ, ds, st, _, _, _, rfl, Kle.refl _, List.prefix_refl _, X', fun b hb => ?_, Itr.ofWalks W hF.1 (fun i v x hv hx => ?_) (fun b hb => ?_) "list_iterator" (by decide) (fun i h st => ?_), ⟨⟨⟨_, Heap.get?_push_size _ rfl, rfl, rfl⟩, hl.push _⟩, X'.keep⟩, q⟩
  · simp at hb; subst hb; exact hF
  · refine byC fun hC3 => ?_
    obtain ⟨u, e1, r1⟩ := h6.get hx
    refine hC3 ?_
    rw [Array.getElem?_toList, hv] at e1; cases e1; exact r1
  · simp at hb; rcases hb with rfl | rfl
    · exact .inl rfl
    · exact .inr ⟨o, h2⟩
  · obtain ⟨o, ho, hc, _⟩ := st.1; exact ⟨o, ho, hc⟩
theorem itr_tuple {tgt : Expr} {ds : List D} {Q : List D → List AObj → Prop} (hh : A.handled = none) (q : Q ds st) : wItr C A G tgt st (.d (.tuple ds)) Q := fun κ σ s v X r => by
  simp only [RV, R] at r
  refine byC fun hC1 => ?_
  obtain ⟨a, o, vs, n, rfl, h2, h3, h4, h5, h6⟩ := r
  refine hC1 ?_
  have hl : s.heap.IsTuple a vs := ⟨o, X.keep _ _ h2, h3, n, h5⟩
  have hlt : a < s.heap.objs.size := Heap.lt_size (X.keep _ _ h2)
  have hn := fresh_none s.heap
  have hsz : vs.size = ds.length := by rw [← h6.length, Array.length_toList]
  have hF := X.free_new hn
  have W := Walks.tuple (prog := C.prog) (w := C.w) hh s.heap.objs.size a (Nat.ne_of_lt hlt) vs
  rw [hsz] at W
  have X' := X.keeps (s' := { s with heap := s.heap.push { cls := .type "tuple_iterator", data := .fields #[.ref a, .int 0 0] } }) (fun b o e => Heap.get?_push_of_some _ e) rfl rfl
  refine wpAny_pyIter_tuple hl ⟨κ, σ, ds, st, _, _, _, rfl, Kle.refl _, List.prefix_refl _, X', fun b hb => ?_, Itr.ofWalks W hF.1 (fun i v x hv hx => ?_) (fun b hb => ?_) "tuple_iterator" (by decide) (fun i h st => ?_), ⟨⟨⟨_, Heap.get?_push_size _ rfl, rfl, rfl⟩, hl.push _⟩, X'.keep⟩, q⟩
  · simp at hb; subst hb; exact hF
  · refine byC fun hC2 => ?_
    obtain ⟨u, e1, r1⟩ := h6.get hx
    refine hC2 ?_
    rw [Array.getElem?_toList, hv] at e1; cases e1; exact r1
  · simp at hb; rcases hb with rfl | rfl
    · exact .inl rfl
    · exact .inr ⟨o, h2⟩
  · obtain ⟨o, ho, hc, _⟩ := st.1; exact ⟨o, ho, hc⟩
theorem itr_range {tgt : Expr} {i : Nat} {a b : Int} {Q : List D → List AObj → Prop} (hh : A.handled = none) (hi : st[i]? = some (.raw (RangeO a b))) (ha : -(2 ^ 60) ≤ a ∧ a ≤ 2 ^ 60) (hb : -(2 ^ 60) ≤ b ∧ b ≤ 2 ^ 60) (q : Q (upto a (b - a).toNat) st) : wItr C A G tgt st (.obj i) Q := fun κ σ s v X r => by
  refine byC fun hC1 => ?_
  obtain ⟨x, hx, rfl⟩ := r
  obtain ⟨x', o, hx', hκ, hφ, ho, t, u, w, rfl⟩ := X.get hi trivial
  refine hC1 ?_
  rw [hx] at hx'; cases hx'
  have hR : IsRange s.heap x a b 1 t u w := ho
  have hn := fresh_none s.heap
  have hF := X.free_new hn
  have hs : Builtin.Range.rangeSize a b 1 = ((b - a).toNat : Int) := rangeSize_nat a b
  have W := Walks.range (prog := C.prog) (w := C.w) hh s.heap.objs.size a 1 (b - a).toNat
  have hl : (upto a (b - a).toNat).length = (b - a).toNat := by simp [upto]
  rw [← hl] at W
  refine wpAny_pyIter_range hR (small_one (by omega) (by omega) (by omega) (by omega)) ⟨κ, σ, _, st, _, _, _, rfl, Kle.refl _, List.prefix_refl _, X.keeps (s' := { s with heap := s.heap.push _ }) (fun b o e => Heap.get?_push_of_some _ e) rfl rfl, fun b hb => ?_, Itr.ofWalks W hF.1 (fun i v x hv hx => ?_) (fun b hb => ?_) "range_iterator" (by decide) (fun i h st => ?_), ⟨?_, fun b o e => Heap.get?_push_of_some _ (X.keep b o e)⟩, q⟩
  · simp at hb; subst hb; exact hF
  · refine byC fun hC2 => ?_
    obtain ⟨t, rfl⟩ := hv
    obtain ⟨rfl, _⟩ := upto_get hx
    refine hC2 ?_
    exact ⟨t, by rw [Int.mul_one]⟩
  · simp at hb; exact .inl hb
  · exact ⟨_, st, rfl⟩
  · show (s.heap.push _).get? _ = _
    rw [Heap.get?_push_size _ rfl, hs, hl]
    simp [rawInt]
noncomputable def Gd.with (G : Gd) (φ : Kp) (E : Value → Shared → Prop) : Gd := { G with φ := φ, E := E }
noncomputable def wEI (C : Cx) (A : Around) (G : Gd) (ae : AEnv) (tgt : Expr) (st : List AObj) (iter : Expr) (Q : List D → List AObj → Prop) : Prop :=
  ∀ κ σ s, EnvR ae σ G.env → Rel C G.φ G.κ₀ κ σ st s → wpAny (model C.prog C.w) A (eval iter G.env) (fun v s1 => wpAny (model C.prog C.w) A (pyIter v)
    (ItrAt C A G tgt κ σ Q) G.E s1) G.E s
theorem wEI_of {tgt iter : Expr} {Q : List D → List AObj → Prop} (h : wE C A G ae st iter fun a st1 => wItr C A G tgt st1 a Q) : wEI C A G ae tgt st iter Q := fun κ σ s e X =>
  wpAny_mono (h κ σ s e X) (fun v s1 z => z.go fun κ1 σ1 a st1 k1 p1 X1 r1 q1 => wpAny_mono (q1 κ1 σ1 s1 v X1 r1) (fun it s2 z => z.up k1 p1) fun _ _ z => z) fun _ _ z => z
inductive ForInv (C : Cx) (G : Gd) (own : List Addr) (St : Nat → Heap → Prop) (I : Nat → List AObj → Prop) (len : Nat) (κ2 : Kp) (σ2 : List Addr) (m : Nat) (s' : Shared) : Prop
  | mk (k : Nat) (κ' : Kp) (st' : List AObj) (hm : m = len - k) (hk : k ≤ len) (kle : Kle κ2 κ') (X : Rel C G.φ G.κ₀ κ' σ2 st' s') (hf : ∀ b ∈ own, Free C G.φ κ' σ2 b) (hst : St k s'.heap) (hi : I k st')
theorem Itr.freeOf {tgt : Expr} {κ : Kp} {I : Addr} {own : List Addr} {its : List D} {St : Nat → Heap → Prop} {σ : List Addr} {s : Shared} (h : Itr C A tgt κ I own its St) (X : Rel C G.φ G.κ₀ κ σ st s) (hf : ∀ b ∈ own, Free C G.φ κ σ b) : (∀ b ∈ own, G.φ b = none) ∧ ∀ b ∈ own, G.κ₀ b = none :=
  ⟨fun b hb => (hf b hb).2.1, fun b hb => noneOf fun o q => nope (hf b hb).1 (X.k0 b o q)⟩
inductive ItemAt (C : Cx) (G : Gd) (own : List Addr) (st' : List AObj) (σ : List Addr) (κ' : Kp) (x : D) (v : Value) (h' : Heap) (s' : Shared) : Prop
  | mk (κc : Kp) (hkc : Kle κ' κc) (X : Rel C (apart G.φ own h') G.κ₀ κc σ st' s') (rv : R κc x v)
theorem Itr.took {κ κ' : Kp} {own : List Addr} {x : D} {v : Value} {s' : Shared} {h' : Heap} {tk : Tok} {σ : List Addr} {st' : List AObj} (X' : Rel C G.φ G.κ₀ κ' σ st' s') (hf' : ∀ b ∈ own, Free C G.φ κ' σ b) (kle : Kle κ κ') (hkeep : ∀ b o, b ∉ own → s'.heap.get? b = some o → h'.get? b = some o)
    (hR : ∀ κc, Kle κ κc → (∀ b o, κc b = some o → s'.heap.get? b = some o) → (∀ b ∈ own, κc b = none) → ∃ κ', Kle κc κ' ∧ (∀ b o, κ' b = some o → κc b = some o ∨ (s'.heap.get? b = none ∧ b ∉ own)) ∧ (∀ b o, κ' b = some o → h'.get? b = some o) ∧ R κ' x v) :
    ItemAt C G own st' σ κ' x v h' { s' with heap := h', toks := tk } := by
  obtain ⟨κc, hkc, hnew, hκh, rv⟩ := hR κ' kle X'.keep fun b hb => (hf' b hb).1
  obtain ⟨X3, hf3⟩ := X'.moved (s' := { s' with heap := h', toks := tk }) hf' hkeep rfl rfl hkc hnew hκh
  exact ⟨κc, hkc, X3.enter hf3, rv⟩
theorem ForInv.again {tgt : Expr} {own : List Addr} {St : Nat → Heap → Prop} {I : Nat → List AObj → Prop} {n k : Nat} {its : List D} {κ2 κ5 : Kp} {σ2 σ5 : List Addr} {Ia : Addr} {st5 st6 : List AObj} {s5 : Shared} {h' : Heap} (hItr : Itr C A tgt κ2 Ia own its St) (hlen : σ2.length = n) (hlt : k < its.length) (kk : Kle κ2 κ5) (p45 : σ2 <+: σ5)
    (X6 : Rel C G.φ G.κ₀ κ5 σ5 st5 s5) (hf6 : ∀ b ∈ own, Free C G.φ κ5 σ5 b) (hh6 : ∀ b ∈ own, s5.heap.get? b = h'.get? b) (hst1 : St (k + 1) h') (hsub : Sub n st5 st6) (hi6 : I (k + 1) st6) : ∃ m, m < its.length - k ∧ ForInv C G own St I its.length κ2 σ2 m s5 := by
  have Y := X6.sub hsub
  rw [← hlen, take_pre p45] at Y
  exact ⟨its.length - (k + 1), by lia, k + 1, κ5, st6, rfl, by lia, kk, Y, fun b hb => ⟨(hf6 b hb).1, (hf6 b hb).2.1, fun hm => (hf6 b hb).2.2.1 (p45.subset hm), (hf6 b hb).2.2.2⟩, hItr.frame _ _ _ hst1 (fun b hb o eo => (hh6 b hb).trans eo) (fun b o eo => X6.keep b o (kk b o eo)), hi6⟩
theorem wS_forI {target iter : Expr} {body orelse : List Stmt} {pos : Pos} {Q : AF → List AObj → Prop} (n : Nat) (its : List D) (I : Nat → List AObj → Prop)
    (hs : ∀ env x, foldedSetIterable iter env x = pure x) (hI : ∀ k st1, I k st1 → st1.length = n)
    (hiter : wEI C A G ae target st iter fun its' st2 => its' = its ∧ I 0 st2)
    (turn : ∀ φ' E' k x st1, its[k]? = some x → I k st1 → wTgt C A (G.with φ' E') ae st1 target (.d x) fun st2 => wSs C A (G.with φ' E') ae st2 body fun f st3 => match f with
      | .next | .cont => ∃ st4, Sub n st3 st4 ∧ I (k + 1) st4
      | .brk => ∃ st4, Sub n st3 st4 ∧ Q .next st4
      | .ret a => Q (.ret a) st3)
    (done : ∀ E' st1, I its.length st1 → wSs C A (G.at E') ae st1 orelse Q) : wS C A G ae st (.For target iter body orelse pos) Q := fun κ σ s e X => by
  refine wpAny_For (wpAny_mono (hiter κ σ s e X) (fun v s1 z => wpAny_mono z (fun it s2 z => z.go (P := fun it => codeAny (model C.prog C.w) A (.forLoop target it body orelse G.env) _ s2) fun κ2 σ2 st2 Ia own St k2 p2 X2 hfree hItr hst q2 => ?_) fun _ _ z => z) fun _ _ z => z) (hs _)
  have e2 : EnvR ae σ2 G.env := e.mono p2
  have hlen : σ2.length = n := X2.len.trans (hI 0 st2 q2)
  have hφκ := hItr.freeOf X2 hfree
  refine codeAny_forLoop_any (ForInv C G own St I its.length κ2 σ2) ?_ (its.length - 0) ⟨0, κ2, st2, rfl, Nat.zero_le _, Kle.refl _, X2, hfree, hst, q2⟩
  generalize (notedBy (model C.prog C.w) A G.env fun e s' => cameBackBy (model C.prog C.w) A G.env G.E e s') = EE
  rintro m s' ⟨k, κ', st', rfl, hk, kle, X', hf', hstk, hi⟩
  by_cases hlt : k < its.length
  · refine hItr.item _ k its[k] s' _ _ (List.getElem?_eq_getElem hlt) hstk fun v h' tk hst1 hkeep hR => ?_
    refine byC fun hN => ?_
    obtain ⟨κc, hkc, X4, rv⟩ := Itr.took (tk := tk) X' hf' kle hkeep hR
    refine hN ?_
    refine wpAny_mono (turn (apart G.φ own h') EE k its[k] st' (List.getElem?_eq_getElem hlt) hi κc σ2 _ v e2 X4 rv) (fun _ s4 z => z.go fun κ4 σ4 _ st4 k4 p4 X4 _ q4 => ?_) fun _ _ z => z
    refine wpAny_mono (q4 κ4 σ4 s4 (e2.mono p4) X4) (fun f s5 z => z.go fun κ5 σ5 f' st5 k5 p5 X5 r5 q5 => ?_) fun _ _ z => z
    have X6 := X5.leave hφκ.1 hφκ.2 (hItr.ex _ _ hst1)
    have p45 : σ2 <+: σ5 := p4.trans p5
    have k25 : Kle κ2 κ5 := kle.trans (hkc.trans (k4.trans k5))
    cases f' with
    | next => cases (r5 : f = .next); exact q5.elim fun st6 q => ForInv.again hItr hlen hlt k25 p45 X6.1 X6.2.1 X6.2.2 hst1 q.1 q.2
    | cont => cases (r5 : f = .cont); exact q5.elim fun st6 q => ForInv.again hItr hlen hlt k25 p45 X6.1 X6.2.1 X6.2.2 hst1 q.1 q.2
    | brk =>
      cases (r5 : f = .brk)
      obtain ⟨st6, hsub, q6⟩ := q5
      have Y := X6.1.sub hsub
      rw [← hlen, take_pre p45] at Y
      exact ⟨κ5, σ2, .next, st6, k2.trans k25, p2, Y, rfl, q6⟩
    | ret a =>
      obtain ⟨u, rfl, ru⟩ := r5
      exact ⟨κ5, σ5, .ret a, st5, k2.trans k25, p2.trans p45, X6.1, ⟨u, rfl, ru⟩, q5⟩
  · obtain rfl : k = its.length := by lia
    refine hItr.done s' _ _ hstk fun h' tk hkeep => ?_
    have X3 := X'.keepsButs (s' := { s' with heap := h', toks := tk }) hf' hkeep rfl rfl
    exact wpAny_mono (done EE st' hi κ' σ2 _ e2 X3) (fun f s4 z => z.up (k2.trans kle) p2) fun _ _ z => z
end
end Mine
end
section
open PySem PySem.Calls PyProof.Rows PySem.W PySem.SeqAt PyProof.V
namespace Mine
section
variable {C : Cx} {A : Around} {G : Gd} {ae : AEnv} {st : List AObj}
end
end Mine
end
section
open PySem PySem.Calls PyProof.Rows PySem.W PySem.SeqAt PyProof.V
namespace Mine
theorem compLoop_any {prog : Program} {w : World} {A : Around} {R : Result → Shared → Prop} {s : Shared} {elt target iter : Expr} {ifs : List Expr} {scope : Scope} {pos : Pos} {it acc : Value} {env : Env} (I : Nat → Shared → Prop)
    (turn : ∀ n s, I n s → wpAny (model prog w) A (pyNext it) (fun r s₁ => match r with
      | none => R (.ok .next) s₁
      | some v => wpAny (model prog w) A (letOwnedTupleGo target it v) (fun _ s₁' => wpAny (model prog w) A (assign target env v) (fun _ s₂ =>
          wpAny (model prog w) A (forIn ifs true fun c r => if r = true then do let ok ← isTrue c env (eval c env); pure (ForInStep.yield ok) else pure (ForInStep.yield r)) (fun ok s₃ =>
            if ok = true then wpAny (model prog w) A (eval elt env) (fun x s₄ =>
              wpAny (model prog w) A (call (.builtin "list.append") [acc, x]) (fun _ s₅ => ∃ m, m < n ∧ I m s₅) (notedBy (model prog w) A env fun e s' => R (.error e) s') s₄) (notedBy (model prog w) A env fun e s' => R (.error e) s') s₃
            else ∃ m, m < n ∧ I m s₃) (notedBy (model prog w) A env fun e s' => R (.error e) s') s₂) (notedBy (model prog w) A env fun e s' => R (.error e) s') s₁') (notedBy (model prog w) A env fun e s' => R (.error e) s') s₁) (notedBy (model prog w) A env fun e s' => R (.error e) s') s)
    (n : Nat) (h : I n s) :
    codeAny (model prog w) A (.compLoop (.ListComp elt [⟨target, iter, ifs, 0⟩] scope pos) 0 it acc env) R s := by
  refine codeAny_loop rfl I (fun n s hI => ?_) n h
  show wpAny _ A ((compTurn (.ListComp elt [⟨target, iter, ifs, 0⟩] scope pos) 0 it acc env).onRaise (fun x => do noteFrame x env; theTreesLotGoes x)) _ _ s
  refine wpAny_noted ?_
  rw [compTurn_list]
  refine wpAny_bind (wpAny_standAt (wpAny_bind (wpAny_mono (turn n s hI) (fun r s₁ h₁ => ?_) fun _ _ h' => h')))
  cases r with
  | none => exact wpAny_pure h₁
  | some v =>
    refine wpAny_bind (wpAny_mono h₁ (fun _ s₁' h₁' => ?_) fun _ _ h' => h')
    refine wpAny_bind (wpAny_mono h₁' (fun _ s₂ h₂ => wpAny_bind (wpAny_mono h₂ (fun ok s₃ h₃ => ?_) fun _ _ h' => h')) fun _ _ h' => h')
    cases ok with
    | false => exact wpAny_pure ⟨rfl, h₃⟩
    | true =>
      exact wpAny_bind (wpAny_bind (wpAny_mono h₃ (fun x s₄ h₄ => wpAny_bind (wpAny_mono h₄ (fun _ s₅ h₅ => wpAny_pure (wpAny_pure ⟨rfl, h₅⟩)) fun _ _ h' => h')) fun _ _ h' => h'))
noncomputable def caOf (cells : List (Str × Nat)) : List (Str × NameKind) → List (Str × Nat) → Option (List (Str × Nat))
  | [], acc => some acc
  | (n, k) :: r, acc => if k == .free then (match cells.lookup n with | some i => caOf cells r ((n, i) :: acc) | none => none) else caOf cells r acc
theorem lookup_get {α : Type} : ∀ {l : List (Str × α)} {x : Str} {a : α}, l.lookup x = some a → ∃ j : Nat, l[j]? = some (x, a)
  | [], _, _, h => by simp at h
  | (y, b) :: l, x, a, h => by
    rw [List.lookup_cons] at h
    cases q : x == y with
    | true => rw [q] at h; cases h; exact ⟨0, by simp [eq_of_beq q]⟩
    | false => rw [q] at h; obtain ⟨j, e⟩ := lookup_get h; exact ⟨j + 1, by simpa using e⟩
theorem closure_go {ae : AEnv} {σ : List Addr} {env : Env} (e : EnvR ae σ env) : ∀ (names : List (Str × NameKind)) (cl : List (Str × Addr)) (ca ca' : List (Str × Nat)), caOf ae.cells names ca = some ca' → CR σ cl ca →
    ∃ cl', (forIn names cl fun x cs => (if x.2 == .free then do let a ← cellOf env x.1; pure (ForInStep.yield ((x.1, a) :: cs)) else pure (ForInStep.yield cs) : Sem _)) = pure cl' ∧ CR σ cl' ca'
  | [], cl, ca, ca', h, c => by cases h; exact ⟨cl, by rw [List.forIn_nil], c⟩
  | (n, k) :: r, cl, ca, ca', h, c => by
    rw [List.forIn_cons]
    cases hk : (k == NameKind.free) with
    | false =>
      simp only [caOf, hk, Bool.false_eq_true, if_false] at h
      simp only [Bool.false_eq_true, if_false]
      exact closure_go e r cl ca ca' h c
    | true =>
      simp only [caOf, hk, if_true] at h
      cases hl : ae.cells.lookup n with
      | none => rw [hl] at h; cases h
      | some i =>
        rw [hl] at h
        refine byC fun hC1 => ?_
        obtain ⟨j, hj⟩ := lookup_get hl
        obtain ⟨a, h1, h2⟩ := e.cell hj
        obtain ⟨cl', h3, h4⟩ := closure_go e r ((n, a) :: cl) ((n, i) :: ca) ca' h (c.cons h2)
        refine hC1 ?_
        refine ⟨cl', ?_, h4⟩
        rw [← h3]
        have : cellOf env n = pure a := by unfold cellOf; rw [h1]
        simp only [if_true, this]
        rfl
theorem closureFor_go {ae : AEnv} {σ : List Addr} {env : Env} (e : EnvR ae σ env) {scope : Scope} {ca : List (Str × Nat)} (h : caOf ae.cells scope.names [] = some ca) : ∃ cl, closureFor scope env = pure cl ∧ CR σ cl ca := by
  refine byC fun hC1 => ?_
  obtain ⟨cl, h1, h2⟩ := closure_go e scope.names [] [] ca h CR.nil
  refine hC1 ?_
  refine ⟨cl, ?_, h2⟩
  unfold closureFor
  show (forIn scope.names ([] : List (Str × Addr)) (fun x cs => (if x.2 == .free then do let a ← cellOf env x.1; pure (ForInStep.yield ((x.1, a) :: cs)) else pure (ForInStep.yield cs) : Sem _)) >>= fun cs => pure cs) = _
  rw [h1]; rfl
noncomputable def relabelS (scope outer : Scope) : Scope := { scope with names := scope.names.map fun (n, k) => if (k == .free && outer.kind == .function && outer.names.lookup n == some .cell) then (n, .cell) else (n, k) }
theorem relabelS_eq (scope : Scope) (env : Env) : relabel scope env = relabelS scope env.scope := rfl
theorem relabelS_names (scope outer : Scope) : (relabelS scope outer).names.map (·.1) = scope.names.map (·.1) := by
  show (scope.names.map _).map _ = _
  rw [List.map_map]
  refine List.map_congr_left fun x _ => ?_
  show (if _ then _ else _ : Str × NameKind).1 = x.1
  split <;> rfl
theorem ScOk.relabel {scope : Scope} (h : ScOk scope) (outer : Scope) : ScOk (relabelS scope outer) where
  kind := h.kind
  nd := by rw [relabelS_names]; exact h.nd
  nodebug := fun p hp => by
    have : p.1 ∈ scope.names.map (·.1) := by rw [← relabelS_names scope outer]; exact List.mem_map_of_mem hp
    obtain ⟨q, hq, e⟩ := List.mem_map.mp this
    rw [← e]; exact h.nodebug q hq
noncomputable def AVRe (is : List Nat) : AV → AV → Prop
  | .d x, .d y => x = y
  | .obj i, .obj j => is[j]? = some i
  | .glob v, .glob w => v = w
  | _, _ => False
noncomputable def ObjRe (is : List Nat) : AObj → AObj → Prop
  | .ns names vars, .ns names' vars' => names' = names ∧ ∀ (j : Nat) (a' : AV), vars'[j]? = some (some a') → ∃ a, vars[j]? = some (some a) ∧ AVRe is a a'
  | .cell (some a), .cell (some b) => AVRe is a b
  | .cell none, .cell none => True
  | .list l, .list l' => l.length = l'.length ∧ ∀ (j : Nat) (a a' : AV), l[j]? = some a → l'[j]? = some a' → AVRe is a a'
  | .frz d, .frz d' => d = d'
  | .raw P, .raw P' => P = P'
  | _, _ => False
theorem ObjRe.live {is : List Nat} {x y : AObj} (h : ObjRe is x y) (hx : x.live) : y.live := by
  cases y with
  | frz => cases x with
    | frz => exact hx
    | cell c => cases c <;> exact h.elim
    | _ => exact h.elim
  | _ => trivial
structure Pick (is : List Nat) (st st' : List AObj) : Prop where
  len : st'.length = is.length
  nd : is.Nodup
  get : ∀ (j i : Nat) (y : AObj), is[j]? = some i → st'[j]? = some y → ∃ x, st[i]? = some x ∧ ObjRe is x y
section
variable {C : Cx} {φ κ₀ κ : Kp} {σ : List Addr} {st : List AObj} {s : Shared}
noncomputable def pickA (σ : List Addr) (is : List Nat) : List Addr := is.map fun i => σ.getD i 0
theorem pickA_get {is : List Nat} {j i : Nat} (h : is[j]? = some i) : (pickA σ is)[j]? = some (σ.getD i 0) := by simp [pickA, h]
theorem RV.re {is : List Nat} (hb : ∀ i ∈ is, i < σ.length) {a b : AV} {v : Value} (r : RV κ σ a v) (h : AVRe is a b) : RV κ (pickA σ is) b v := by
  cases a with
  | d x => cases b with
    | d y => cases (h : x = y); exact r
    | obj => exact h.elim
    | glob => exact h.elim
  | glob x => cases b with
    | glob y => cases (h : x = y); exact r
    | obj => exact h.elim
    | d => exact h.elim
  | obj i => cases b with
    | obj j =>
      obtain ⟨a, ha, rfl⟩ := r
      have h : is[j]? = some i := h
      exact ⟨a, by rw [pickA_get h, List.getD_eq_getElem?_getD, ha]; rfl, rfl⟩
    | d => exact h.elim
    | glob => exact h.elim
theorem RO.re {is : List Nat} (hb : ∀ i ∈ is, i < σ.length) {x y : AObj} {o : Obj} (r : RO κ σ x o) (h : ObjRe is x y) : RO κ (pickA σ is) y o := by
  cases x with
  | ns names vars => cases y with
    | ns names' vars' =>
      obtain ⟨rfl, h⟩ := h
      obtain ⟨h1, m, h2, h3⟩ := r
      exact ⟨h1, m, h2, fun j z a e1 e2 => let ⟨a0, h4, h5⟩ := h j a e2; let ⟨v, h6, h7⟩ := h3 j z a0 e1 h4; ⟨v, h6, h7.re hb h5⟩⟩
    | cell => exact h.elim
    | list => exact h.elim
    | frz => exact h.elim
    | raw => exact h.elim
  | cell a => cases y with
    | cell b => cases a with
      | none => cases b with
        | none => exact r
        | some => exact h.elim
      | some a => cases b with
        | none => exact h.elim
        | some b => obtain ⟨v, h1, h2⟩ := r; exact ⟨v, h1, h2.re hb h⟩
    | ns => cases a <;> exact h.elim
    | list => cases a <;> exact h.elim
    | frz => cases a <;> exact h.elim
    | raw => cases a <;> exact h.elim
  | list l => cases y with
    | list l' =>
      obtain ⟨hl, h⟩ := h
      obtain ⟨vs, n, h1, h2, h3⟩ := r
      refine ⟨vs, n, h1, h2.trans hl, fun i b e => ?_⟩
      have hi : i < l.length := by
        by_cases q : i < l.length
        · exact q
        · exact nope (List.getElem?_eq_none (by lia)) e
      obtain ⟨v, h4, h5⟩ := h3 i _ (List.getElem?_eq_getElem hi)
      exact ⟨v, h4, h5.re hb (h i _ _ (List.getElem?_eq_getElem hi) e)⟩
    | ns => exact h.elim
    | cell => exact h.elim
    | frz => exact h.elim
    | raw => exact h.elim
  | frz d => cases y with
    | frz d' => trivial
    | ns => exact h.elim
    | cell => exact h.elim
    | list => exact h.elim
    | raw => exact h.elim
  | raw P => cases y with
    | raw P' => cases (h : P = P'); exact r
    | ns => exact h.elim
    | cell => exact h.elim
    | list => exact h.elim
    | frz => exact h.elim
theorem Rel.pick (X : Rel C φ κ₀ κ σ st s) {is : List Nat} {st' : List AObj} (P : Pick is st st') : Rel C φ κ₀ κ (pickA σ is) st' s := by
  have hb : ∀ i ∈ is, i < σ.length := fun i hi => by
    obtain ⟨j, hj, e⟩ := List.getElem_of_mem hi
    have hj' : j < st'.length := by rw [P.len]; exact hj
    obtain ⟨x, h1, _⟩ := P.get j i _ (by rw [List.getElem?_eq_getElem hj, e]) (List.getElem?_eq_getElem hj')
    rw [X.len]
    by_cases q : i < st.length
    · exact q
    · exact nope (List.getElem?_eq_none (by lia)) h1
  refine ⟨X.prog, X.k0, X.new, X.keep, X.phi, by simp [pickA, P.len], ?_, fun j a y e1 e2 => ?_, fun Q hQ => ?_, X.gens, X.os⟩
  · rw [pickA, List.nodup_iff_pairwise_ne, List.pairwise_map]
    have h0 := (List.nodup_iff_pairwise_ne.mp P.nd)
    refine h0.imp_of_mem fun {i j} hi hj hne he => hne ?_
    have h1 := hb i hi
    have h2 := hb j hj
    rw [List.getD_eq_getElem?_getD, List.getD_eq_getElem?_getD, List.getElem?_eq_getElem h1, List.getElem?_eq_getElem h2] at he
    exact (List.getElem_inj X.nd).mp he
  · have hj : j < is.length := by
      by_cases q : j < is.length
      · exact q
      · rw [List.getElem?_eq_none (by simp [pickA]; lia)] at e1; cases e1
    have hi := List.getElem?_eq_getElem hj
    obtain ⟨x, hx, hr⟩ := P.get j _ y hi e2
    rw [pickA_get hi] at e1
    have hlt := hb _ (List.getElem_mem hj)
    have ha : σ[is[j]]? = some a := by
      rw [List.getD_eq_getElem?_getD, List.getElem?_eq_getElem hlt] at e1
      rw [List.getElem?_eq_getElem hlt]; exact e1
    rcases X.own _ a x ha hx with ⟨d, rfl, r, hs⟩ | ⟨hl, q1, q2, o, q3, q4⟩
    · cases y with
      | frz d' => cases (hr : d = d'); exact .frz d rfl r hs
      | _ => exact hr.elim
    · exact .own (hr.live hl) q1 q2 o q3 (q4.re hb hr)
  · obtain ⟨q1, q2, q3, q4⟩ := X.tabs Q hQ
    refine ⟨q1, q2, q3, fun hm => q4 ?_⟩
    obtain ⟨i, hi, e⟩ := List.mem_map.mp hm
    have h1 := hb i hi
    rw [List.getD_eq_getElem?_getD, List.getElem?_eq_getElem h1] at e
    subst e; exact List.getElem_mem h1
theorem pick_pre {n : Nat} {is : List Nat} (h : ∀ j, j < n → is[j]? = some j) (hn : n ≤ σ.length) : σ.take n <+: pickA σ is := by
  rw [List.prefix_iff_eq_take]
  refine List.ext_getElem? fun j => ?_
  rw [List.length_take, Nat.min_eq_left hn]
  by_cases q : j < n
  · rw [List.getElem?_take_of_lt q, List.getElem?_take_of_lt q, pickA_get (h j q), List.getElem?_eq_getElem (by lia), List.getD_eq_getElem?_getD, List.getElem?_eq_getElem (by lia)]; rfl
  · rw [List.getElem?_eq_none (by simp; lia), List.getElem?_eq_none (by simp; lia)]
end
end Mine
end
section
open PySem PySem.Calls PyProof.Rows PySem.W PySem.SeqAt PyProof.V
namespace Mine
section
variable {C : Cx} {A : Around} {G : Gd} {ae : AEnv} {st : List AObj}
noncomputable def wIfs (C : Cx) (A : Around) (G : Gd) (ae : AEnv) (st : List AObj) (ifs : List Expr) (Q : Bool → List AObj → Prop) : Prop :=
  W RB C A G ae st (forIn ifs true fun c r => if r = true then do let ok ← isTrue c G.env (eval c G.env); pure (ForInStep.yield ok) else pure (ForInStep.yield r)) Q
theorem wIfs_nil {Q : Bool → List AObj → Prop} (q : Q true st) : wIfs C A G ae st [] Q := fun κ σ s e X => wpAny_tests_nil (PA.ret (b := true) X rfl q)
theorem wIfs_one {c : Expr} {Q : Bool → List AObj → Prop} (h : wB C A G ae st c Q) : wIfs C A G ae st [c] Q := fun κ σ s e X => wpAny_tests_one (h κ σ s e X)
noncomputable def compAe (ae : AEnv) (scope : Scope) (n0 : Nat) (ca : List (Str × Nat)) : AEnv := ⟨relabelS scope ae.scope, n0 + 1, cellsFrom (n0 + 2) scope.names ca, ae.code, ae.qual⟩
inductive CompNext (J : Nat → List AObj → Prop) (st2 : List AObj) (k : Nat) (st7 : List AObj) : Prop
  | mk (tl' : List AObj) (hsub : Sub (st2.length + tl'.length) st7 (st2 ++ tl')) (hj : J (k + 1) tl')
inductive EltPost (J : Nat → List AObj → Prop) (st2 : List AObj) (k : Nat) (a : AV) (st5 : List AObj) : Prop
  | mk (l : List AV) (tl' : List AObj) (hl : st5[st2.length]? = some (.list l)) (hsz : l.length ≤ sizeLine) (hsub : Sub (st2.length + tl'.length) (st5.set st2.length (.list (l ++ [a]))) (st2 ++ tl')) (hj : J (k + 1) tl')
inductive CompInv (C : Cx) (G : Gd) (own : List Addr) (St : Nat → Heap → Prop) (J : Nat → List AObj → Prop) (st2 : List AObj) (len : Nat) (κ4 : Kp) (σ4 : List Addr) (n : Nat) (s' : Shared) : Prop
  | mk (k : Nat) (κ' : Kp) (σ' : List Addr) (tl : List AObj) (hn : n = len - k) (hk : k ≤ len) (kle : Kle κ4 κ') (ple : σ4 <+: σ') (X : Rel C G.φ G.κ₀ κ' σ' (st2 ++ tl) s') (hf : ∀ b ∈ own, Free C G.φ κ' σ' b) (hst : St k s'.heap) (hj : J k tl)
theorem comp_env {scope : Scope} {ca : List (Str × Nat)} {n : Nat} {c : Value} {q : Str} {σ2 σ4 : List Addr} {env env4 : Env} (hnf : noFree ae.scope = true) (ok : ScOk scope) (e : EnvR ae σ2 env) (p : σ2 <+: σ4) (e4 : EnvR ⟨scope, n + 1, cellsFrom (n + 2) scope.names ca, c, q⟩ σ4 env4)
    (hq : env4.qual = env.qual) (hcode : env4.code = env.code) (hfr : env4.frame = env.frame) : EnvR (compAe ae scope n ca) σ4 { env4 with scope := relabel scope env } := by
  refine ⟨?_, e4.loc, e4.cnames, e4.cnd, e4.cells, hcode.trans e.code, hq.trans e.qual, e4.globals, e4.builtins, ok.relabel _, fun _ => ?_⟩
  · show relabel scope env = relabelS scope ae.scope
    rw [relabelS_eq, e.scope]
  · obtain ⟨L, h1, h2⟩ := e.frame hnf
    exact ⟨L, hfr.trans h1, get_pre p h2⟩
theorem CompInv.next {tgt : Expr} {own : List Addr} {St : Nat → Heap → Prop} {J : Nat → List AObj → Prop} {nc k : Nat} {its : List D} {κ2 κ4 κ7 : Kp} {σ4 σ7 : List Addr} {Ia : Addr} {st2 st7 : List AObj} {s7 : Shared} {h' : Heap} (hItr : Itr C A tgt κ2 Ia own its St) (hφκ : (∀ b ∈ own, G.φ b = none) ∧ ∀ b ∈ own, G.κ₀ b = none)
    (hlen4 : σ4.length = st2.length + (2 + nc)) (hJ : ∀ k tl, J k tl → 2 + nc ≤ tl.length ∧ ∃ N V, tl[1]? = some (.ns N V)) (hlt : k < its.length) (k4 : Kle κ2 κ4) (k7 : Kle κ4 κ7) (p7 : σ4 <+: σ7) (X7 : Rel C (apart G.φ own h') G.κ₀ κ7 σ7 st7 s7) (hst1 : St (k + 1) h')
    (hn : CompNext J st2 k st7) : ∃ m, m < its.length - k ∧ CompInv C G own St J st2 its.length κ4 σ4 m s7 := by
  obtain ⟨tl', hsub, hj'⟩ := hn
  have X8 := X7.leave hφκ.1 hφκ.2 (hItr.ex _ _ hst1)
  have hl := (hJ _ _ hj').1
  exact ⟨its.length - (k + 1), by lia, k + 1, κ7, σ7.take (st2.length + tl'.length), tl', rfl, by lia, k7, List.prefix_take_iff.mpr ⟨p7, by lia⟩, X8.1.sub hsub, fun b hb => ⟨(X8.2.1 b hb).1, (X8.2.1 b hb).2.1, fun hm => (X8.2.1 b hb).2.2.1 (List.mem_of_mem_take hm), (X8.2.1 b hb).2.2.2⟩,
    hItr.frame _ _ _ hst1 (fun b hb o eo => (X8.2.2 b hb).trans eo) (fun b o eo => X8.1.keep b o (k7 b o (k4 b o eo))), hj'⟩
theorem comp_elt {J : Nat → List AObj → Prop} {st2 st8 : List AObj} {k : Nat} {elt : Expr} {ae' : AEnv} {κ8 : Kp} {σ8 : List Addr} {s8 : Shared} {acc : Addr} {N : Shared → Prop} {n : Nat} (h : wE C A G ae' st8 elt (EltPost J st2 k)) (e8 : EnvR ae' σ8 G.env) (X8 : Rel C G.φ G.κ₀ κ8 σ8 st8 s8) (hn : st2.length = n) (hacc : σ8[n]? = some acc)
    (hN : ∀ κ10 σ10 st10 s10, Kle κ8 κ10 → σ8 <+: σ10 → Rel C G.φ G.κ₀ κ10 σ10 st10 s10 → CompNext J st2 k st10 → N s10) :
    wpAny (model C.prog C.w) A (eval elt G.env) (fun x s4 => wpAny (model C.prog C.w) A (call (.builtin "list.append") [.ref acc, x]) (fun _ s5 => N s5) G.E s4) G.E s8 := by
  subst hn
  refine wpAny_mono (h κ8 σ8 s8 e8 X8) (fun xv s9 z => z.go fun κ9 σ9 a st9 k9 p9 X9 r9 q9 => ?_) fun _ _ z => z
  obtain ⟨l, tl', hl, hsz, hsub, hj'⟩ := q9
  have hap := bi_append (C := C) (A := A) (G := G) (a := a) (Q := fun _ st' => CompNext J st2 k st') hl hsz ⟨tl', hsub, hj'⟩
  exact wpAny_mono (hap κ9 σ9 s9 [.ref acc, xv] X9 (RVL.cons ⟨_, get_pre p9 hacc, rfl⟩ (RVL.cons r9 RVL.nil))) (fun _ s10 z => z.go fun κ10 σ10 _ st10 k10 p10 X10 _ q10 => hN κ10 σ10 st10 s10 (k9.trans k10) (p9.trans p10) X10 q10) fun _ _ z => z
theorem comp_frame {st2 tl : List AObj} {κ' : Kp} {σ' : List Addr} {s' : Shared} {Lc : Addr} (X : Rel C G.φ G.κ₀ κ' σ' (st2 ++ tl) s') (hns : ∃ N V, tl[1]? = some (.ns N V)) (hL : σ'[st2.length + 1]? = some Lc) : ∃ m, s'.heap.Ns Lc m := by
  obtain ⟨N, V, hns⟩ := hns
  obtain ⟨L', o, hL', _, _, ho, _, m, hm, _⟩ := X.get (i := st2.length + 1) (x := .ns N V) (by rw [List.getElem?_append_right (by lia)]; simpa using hns) trivial
  cases hL.symm.trans hL'
  exact ⟨m, hm.ns ho⟩
theorem comp_core {elt target iter : Expr} {ifs : List Expr} {scope : Scope} {pos fpos : Pos} {ca : List (Str × Nat)} {use : Option (Value → Sem Unit)} {Qf : Kp → List Addr → Value → Shared → Prop} {its : List D} {st2 : List AObj}
    (hnf : noFree ae.scope = true) (ok : ScOk scope) (hca : caOf ae.cells scope.names [] = some ca) (hcn : ((cellsFrom (st2.length + 2) scope.names ca).map (·.1)).Nodup)
    (hs : ∀ env x, foldedSetIterable iter env x = pure x) (hiter : wEI C A G ae target st iter fun its' st2' => its' = its ∧ st2' = st2)
    (J : Nat → List AObj → Prop) (hJ : ∀ k tl, J k tl → 2 + nCells scope.names ≤ tl.length ∧ ∃ N V, tl[1]? = some (.ns N V))
    (h0 : J 0 (.list [] :: .ns (scope.names.map (·.1)) (List.replicate scope.names.length none) :: List.replicate (nCells scope.names) (.cell none)))
    (turn : ∀ φ' E' env' k x tl, env'.frame = G.env.frame → its[k]? = some x → J k tl → wTgt C A ⟨φ', G.κ₀, env', E'⟩ (compAe ae scope st2.length ca) (st2 ++ tl) target (.d x) fun st3 => wIfs C A ⟨φ', G.κ₀, env', E'⟩ (compAe ae scope st2.length ca) st3 ifs fun ok st4 =>
      if ok then wE C A ⟨φ', G.κ₀, env', E'⟩ (compAe ae scope st2.length ca) st4 elt (EltPost J st2 k)
      else CompNext J st2 k st4)
    (fin : ∀ κ σ σ2 κ' σ' tl s' acc Ca m, EnvR ae σ G.env → σ <+: σ2 → σ2.length = st2.length → σ2 <+: σ' → Kle κ κ' → J its.length tl → Rel C G.φ G.κ₀ κ' σ' (st2 ++ tl) s' → σ'[st2.length]? = some acc → σ'[st2.length + 1]? = some Ca → s'.heap.Ns Ca m →
      compPost (model C.prog C.w) A G.E use (Qf κ σ) (.ref acc) Ca (.ok .next) s') :
    ∀ κ σ s, EnvR ae σ G.env → Rel C G.φ G.κ₀ κ σ st s → wpAny (model C.prog C.w) A (comprehension (.ListComp elt [⟨target, iter, ifs, 0⟩] scope pos) scope G.env fpos (newList []) false (eval iter G.env) use) (Qf κ σ) G.E s := by
  intro κ σ s e X
  refine byC fun hC1 => ?_
  obtain ⟨cl, hcl, hcr⟩ := closureFor_go e hca
  refine hC1 ?_
  refine wpAny_comprehension_free (g := ⟨target, iter, ifs, 0⟩) (gs := []) rfl (fun x => hs _ x) hcl ok.kind (fun x hx hl => ?_) ?_
  · refine byC fun hC2 => ?_
    obtain ⟨i, hi, ex⟩ := List.getElem_of_mem hx
    refine hC2 ?_
    exact lookup_at ok.nd (i := i) (by rw [List.getElem?_eq_getElem hi, ex, ← hl])
  refine wpAny_mono (hiter κ σ s e X) (fun v s1 z => wpAny_mono z (fun it s2 z => z.goS fun κ2 σ2 Ia own St hit k2 p2 X2 hfree hItr hst => ?_) fun _ _ z => z) fun _ _ z => z
  subst hit
  have e2 : EnvR ae σ2 G.env := e.mono p2
  have hlen : σ2.length = st2.length := X2.len
  have hφκ := hItr.freeOf X2 hfree
  have hex := hItr.ex _ _ hst
  refine wpAny_newList (items := []) ?_ (by simp [sizeLine_eq])
  have p3 : σ2 <+: σ2 ++ [s2.heap.objs.size] := List.prefix_append ..
  have X3 := (X2.enter hfree).alloc (s' := { s2 with heap := s2.heap.push { cls := .type "list", data := .seq ([] : List Value).toArray } }) (a := s2.heap.objs.size) (x := .list []) (fresh_none _) (fun b o e => Heap.get?_push_of_some _ e) (Heap.get?_push_size _ rfl) rfl rfl ⟨_, _, rfl, RVL.nil⟩ trivial
  have hfr2 : ∀ L0 : Addr, ∃ L, envFrame L0 (some G.env) = some L ∧ (σ2 ++ [s2.heap.objs.size] ++ [L0])[0]? = some L := fun L0 => (e2.frame hnf).elim fun L h => ⟨L, h.1, get_pre (p3.trans (List.prefix_append ..)) h.2⟩
  refine newEnv_go (bs := []) (Q' := fun _ st0 => st0 = st2 ++ [.list []] ++ [.ns (scope.names.map (·.1)) (List.replicate scope.names.length none)] ++ List.replicate (nCells scope.names) (.cell none)) X3 ((hcr.mono p2).mono p3) ok
    (by simpa using hcn) (fun _ L0 => hfr2 L0) e.globals e.builtins rfl RVL.nil (fun env => by simp only [wStores]) fun κ4 σ4 st4 env4 s4 k4 p4 e4 he4 X4 q4 => ?_
  cases q4
  have e4' : EnvR ⟨scope, st2.length + 1, cellsFrom (st2.length + 2) scope.names ca, envCode .none (some G.env), G.env.qual⟩ σ4 env4 := by simpa using e4
  have hfacts : env4.qual = G.env.qual ∧ env4.code = G.env.code ∧ env4.frame = G.env.frame := by
    obtain ⟨cells4, he4⟩ := he4
    rw [he4]; exact ⟨rfl, rfl, rfl⟩
  have e5 : EnvR (compAe ae scope st2.length ca) σ4 { env4 with scope := relabel scope G.env } := comp_env hnf ok e2 (p3.trans p4) e4' hfacts.1 hfacts.2.1 hfacts.2.2
  have hL4 : σ4[st2.length + 1]? = some env4.locals := e4'.loc
  have hacc4 : σ4[st2.length]? = some s2.heap.objs.size := get_pre p4 (by rw [← hlen]; simp)
  have hlen4 : σ4.length = st2.length + (2 + nCells scope.names) := by rw [X4.len]; simp; lia
  have hst4 : St 0 s4.heap := hItr.frame _ _ _ hst (fun b hb o eo => X4.phi b o ((apart_in hb).trans eo)) fun b o eo => X4.keep b o (k4 b o eo)
  generalize hcenv : ({ env4 with scope := relabel scope G.env } : Env) = cenv at e5
  have hcf : cenv.frame = G.env.frame := by rw [← hcenv]; exact hfacts.2.2
  have loop : codeAny (model C.prog C.w) A (.compLoop (.ListComp elt [⟨target, iter, ifs, 0⟩] scope pos) 0 (.ref Ia) (.ref s2.heap.objs.size) cenv) (compPost (model C.prog C.w) A G.E use (Qf κ σ) (.ref s2.heap.objs.size) env4.locals) s4 := by
    refine compLoop_any (CompInv C G own St J st2 its.length κ4 σ4) ?_ (its.length - 0) ⟨0, κ4, σ4, _, rfl, Nat.zero_le _, Kle.refl _, List.prefix_refl _, by simpa using (X4.leave hφκ.1 hφκ.2 hex).1, (X4.leave hφκ.1 hφκ.2 hex).2.1, hst4, h0⟩
    generalize (notedBy (model C.prog C.w) A cenv fun e s' => compPost (model C.prog C.w) A G.E use (Qf κ σ) (.ref s2.heap.objs.size) env4.locals (.error e) s') = EE
    rintro n s' ⟨k, κ', σ', tl, rfl, hk, kle, ple, X', hf', hstk, hj⟩
    by_cases hlt : k < its.length
    · refine hItr.item _ k its[k] s' _ _ (List.getElem?_eq_getElem hlt) hstk fun v h' tk hst1 hkeep hR => ?_
      refine byC fun hN => ?_
      obtain ⟨κc, hkc, X6, rv⟩ := Itr.took (tk := tk) X' hf' (k4.trans kle) hkeep hR
      refine hN ?_
      have e6 : EnvR (compAe ae scope st2.length ca) σ' cenv := e5.mono ple
      refine wpAny_mono (turn (apart G.φ own h') EE cenv k its[k] tl hcf (List.getElem?_eq_getElem hlt) hj κc σ' _ v e6 X6 rv) (fun _ s7 z => z.go fun κ7 σ7 _ st7 k7 p7 X7 _ q7 => ?_) fun _ _ z => z
      refine wpAny_mono (q7 κ7 σ7 s7 (e6.mono p7) X7) (fun okv s8 z => z.go fun κ8 σ8 okb st8 k8 p8 X8 r8 q8 => ?_) fun _ _ z => z
      cases (r8 : okv = okb)
      have k48 : Kle κ4 κ8 := kle.trans (hkc.trans (k7.trans k8))
      have p48 : σ4 <+: σ8 := ple.trans (p7.trans p8)
      cases okv with
      | false => exact CompInv.next hItr hφκ hlen4 hJ hlt k4 k48 p48 X8 hst1 q8
      | true => exact comp_elt (G := ⟨apart G.φ own h', G.κ₀, cenv, EE⟩) q8 (e6.mono (p7.trans p8)) X8 rfl (get_pre p48 hacc4) fun κ10 σ10 st10 s10 k10 p10 X10 q10 => CompInv.next hItr hφκ hlen4 hJ hlt k4 (k48.trans k10) (p48.trans p10) X10 hst1 q10
    · obtain rfl : k = its.length := by lia
      refine hItr.done s' _ _ hstk fun h' tk hkeep => ?_
      have X5 := X'.keepsButs (s' := { s' with heap := h', toks := tk }) hf' hkeep rfl rfl
      have hLk : σ'[st2.length + 1]? = some env4.locals := get_pre ple hL4
      refine (comp_frame X5 (hJ _ _ hj).2 hLk).elim fun m hm => ?_
      exact fin κ σ σ2 κ' σ' tl _ _ _ m e p2 hlen ((p3.trans p4).trans ple) (k2.trans (k4.trans kle)) hj X5 (get_pre ple hacc4) hLk hm
  exact codeAny_compStart_list loop (hItr.self 0 s4 _ _ hst4 loop)
end
end Mine
end
section
open PySem PySem.Calls PyProof.Rows PySem.W PySem.SeqAt PyProof.V
namespace Mine
section
variable {C : Cx} {A : Around} {G : Gd} {ae : AEnv} {st : List AObj}
inductive LcEnd (C : Cx) (G : Gd) (Qa : AV → List AObj → Prop) (κ : Kp) (σ : List Addr) (acc Ca : Addr) (s : Shared) : Prop
  | mk (κ' : Kp) (σ' : List Addr) (a : AV) (st' : List AObj) (k : Kle κ κ') (p : σ <+: σ') (X : Rel C G.φ G.κ₀ κ' σ' st' s) (r : RV κ' σ' a (.ref acc)) (q : Qa a st') (hf : Free C G.φ κ' σ' Ca)
theorem lc_eval {Qa : AV → List AObj → Prop} {κ : Kp} {σ : List Addr} {acc Ca : Addr} {s : Shared} {m : Str → Option Value} (h : LcEnd C G Qa κ σ acc Ca s) (hm : s.heap.Ns Ca m) :
    compPost (model C.prog C.w) A G.E none (PA RV C G.φ G.κ₀ κ σ Qa) (.ref acc) Ca (.ok .next) s := by
  refine byC fun hC1 => ?_
  obtain ⟨κ', σ', a, st', k, p, X, r, q, f⟩ := h
  refine hC1 ?_
  refine ⟨m, hm, fun h' hs => ⟨κ', σ', a, st', k, p, X.keepsButs (s' := { s with heap := h' }) (own := [Ca]) (fun b hb => by simp at hb; subst hb; exact f) (fun b o hb e => (hs.2 b (by simpa using hb)).trans e) rfl rfl, r, q⟩⟩
theorem lc_store {x : Str} {xp : Pos} {Q : AF → List AObj → Prop} {κ : Kp} {σ : List Addr} {acc Ca : Addr} {s : Shared} {m : Str → Option Value} (e : EnvR ae σ G.env)
    (h : LcEnd C G (fun a st1 => ∀ φ', wStore C A { G with φ := φ' } ae st1 x a fun st2 => Q .next st2) κ σ acc Ca s) (hm : s.heap.Ns Ca m) :
    compPost (model C.prog C.w) A G.E (some (assign (.Name x xp) G.env)) (fun _ s' => PA RF C G.φ G.κ₀ κ σ Q .next s') (.ref acc) Ca (.ok .next) s := by
  refine byC fun hC1 => ?_
  obtain ⟨κ', σ', a, st', k, p, X, r, q, f⟩ := h
  have hf : ∀ b ∈ [Ca], Free C G.φ κ' σ' b := fun b hb => by simp at hb; subst hb; exact f
  obtain ⟨o, es, ep, ho, hd⟩ := id hm
  refine hC1 ?_
  refine wpAny_assign_Name (wpAny_mono (q (apart G.φ [Ca] s.heap) κ' σ' s _ (e.mono p) (X.enter hf) r) (fun _ s2 z => z.go fun κ2 σ2 _ st2 k2 p2 X2 _ q2 => ?_) fun _ _ z => z)
  have hκ₀ : ∀ b ∈ [Ca], G.κ₀ b = none := fun b hb => by
    simp at hb; subst hb
    cases q : G.κ₀ b with
    | none => rfl
    | some o => have := X.k0 b o q; exact nope f.1 this
  refine byC fun hC2 => ?_
  obtain ⟨X3, hf3, hh3⟩ := Rel.leave (φ := G.φ) (κ₀ := G.κ₀) (own := [Ca]) (h0 := s.heap) X2 (fun b hb => (hf b hb).2.1) hκ₀ (fun b hb => by simp at hb; subst hb; exact ⟨o, ho⟩)
  refine hC2 ?_
  have hm2 : s2.heap.Ns Ca m := ⟨o, es, ep, by rw [hh3 Ca (by simp)]; exact ho, hd⟩
  refine ⟨m, hm2, fun h' hs => ⟨κ2, σ2, .next, st2, k.trans k2, p.trans p2, X3.keepsButs (s' := { s2 with heap := h' }) (own := [Ca]) hf3 (fun b o hb e => (hs.2 b (by simpa using hb)).trans e) rfl rfl, rfl, q2⟩⟩
theorem Sub.set {n i : Nat} {st5 st6 : List AObj} {y : AObj} (h : Sub n st5 st6) (hy : y.below n) (hl : ∀ N V, y ≠ .ns N V) : Sub n (st5.set i y) (st6.set i y) := by
  obtain ⟨h1, h2, h3⟩ := h
  refine ⟨by simp [h1], by simp [h2], fun j a b hj e1 e2 => ?_⟩
  by_cases q : i = j
  · subst q
    rw [List.getElem?_set_self (by lia)] at e1
    rw [List.getElem?_set_self (by lia)] at e2
    cases e1; cases e2
    cases y with
    | ns N V => exact (hl N V rfl).elim
    | cell => exact ⟨rfl, hy⟩
    | list => exact ⟨rfl, hy⟩
    | frz => exact ⟨rfl, hy⟩
    | raw => exact ⟨rfl, hy⟩
  · rw [List.getElem?_set_ne q] at e1 e2
    exact h3 j a b hj e1 e2
theorem take_filterMap_succ {α β : Type} (g : α → Option β) (l : List α) (k : Nat) (x : α) (h : l[k]? = some x) : (l.take (k + 1)).filterMap g = (l.take k).filterMap g ++ (g x).toList := by
  rw [List.take_add_one, h, List.filterMap_append]
  cases q : g x <;> simp [q]
noncomputable def lcTl (scope : Scope) (acc : List D) (cs : List (Option AV)) : List AObj := .list (acc.map .d) :: .ns (scope.names.map (·.1)) (List.replicate scope.names.length none) :: cs.map .cell
theorem lcTl_len {scope : Scope} {acc : List D} {cs : List (Option AV)} (h : cs.length = nCells scope.names) : (lcTl scope acc cs).length = 2 + nCells scope.names := by simp [lcTl, h]; lia
theorem lcTl_at {scope : Scope} {acc : List D} {cs : List (Option AV)} {st2 : List AObj} : (st2 ++ lcTl scope acc cs)[st2.length]? = some (.list (acc.map .d)) := by
  rw [List.getElem?_append_right (Nat.le_refl _), Nat.sub_self]; rfl
theorem lcTl_set {scope : Scope} {acc : List D} {cs : List (Option AV)} {st2 : List AObj} {y : AObj} : (st2 ++ lcTl scope acc cs).set st2.length y = st2 ++ y :: (lcTl scope acc cs).tail := by
  rw [List.set_append_right _ _ (Nat.le_refl _), Nat.sub_self]; rfl
noncomputable def LcJ (scope : Scope) (its : List D) (g : D → Option D) (k : Nat) (tl : List AObj) : Prop := ∃ cs : List (Option AV), cs.length = nCells scope.names ∧ tl = lcTl scope ((its.take k).filterMap g) cs
theorem lcJ_len {scope : Scope} {its : List D} {g : D → Option D} (k : Nat) (tl : List AObj) (h : LcJ scope its g k tl) : 2 + nCells scope.names ≤ tl.length ∧ ∃ N V, tl[1]? = some (.ns N V) := by
  obtain ⟨cs, hc, rfl⟩ := h
  exact ⟨Nat.le_of_eq (lcTl_len hc).symm, _, _, rfl⟩
theorem lcJ_zero {scope : Scope} {its : List D} {g : D → Option D} : LcJ scope its g 0 (.list [] :: .ns (scope.names.map (·.1)) (List.replicate scope.names.length none) :: List.replicate (nCells scope.names) (.cell none)) := ⟨List.replicate (nCells scope.names) none, by simp, by simp [lcTl]⟩
inductive LcElt (scope : Scope) (st2 : List AObj) (acc : List D) (g : D → Option D) (x : D) (a : AV) (st5 : List AObj) : Prop
  | mk (y : D) (ha : a = .d y) (hg : g x = some y) (cs' : List (Option AV)) (hc : cs'.length = nCells scope.names) (hsub : Sub (st2.length + (2 + nCells scope.names)) st5 (st2 ++ lcTl scope acc cs'))
inductive LcSkip (scope : Scope) (st2 : List AObj) (acc : List D) (g : D → Option D) (x : D) (st4 : List AObj) : Prop
  | mk (hg : g x = none) (cs' : List (Option AV)) (hc : cs'.length = nCells scope.names) (hsub : Sub (st2.length + (2 + nCells scope.names)) st4 (st2 ++ lcTl scope acc cs'))
theorem LcSkip.next {scope : Scope} {its : List D} {g : D → Option D} {k : Nat} {x : D} {st2 st4 : List AObj} (hx : its[k]? = some x) (q : LcSkip scope st2 ((its.take k).filterMap g) g x st4) : CompNext (LcJ scope its g) st2 k st4 := by
  obtain ⟨hg, cs', hc', hsub⟩ := q
  refine ⟨lcTl scope ((its.take (k + 1)).filterMap g) cs', ?_, cs', hc', rfl⟩
  rw [lcTl_len hc', take_filterMap_succ g its k x hx, hg]; simpa using hsub
theorem LcElt.post {scope : Scope} {its : List D} {g : D → Option D} {k : Nat} {x : D} {a : AV} {st2 st5 : List AObj} (hsz : its.length ≤ sizeLine) (hx : its[k]? = some x) (q : LcElt scope st2 ((its.take k).filterMap g) g x a st5) : EltPost (LcJ scope its g) st2 k a st5 := by
  obtain ⟨y, rfl, hg, cs', hc', hsub⟩ := q
  refine ⟨((its.take k).filterMap g).map .d, lcTl scope ((its.take (k + 1)).filterMap g) cs', ?_, ?_, ?_, cs', hc', rfl⟩
  · obtain ⟨h1, h2, h3⟩ := hsub
    have hlt : st2.length < st5.length := by lia
    have := h3 st2.length _ _ (by lia) (List.getElem?_eq_getElem hlt) lcTl_at
    rw [List.getElem?_eq_getElem hlt]
    generalize st5[st2.length] = z at this ⊢
    cases z with
    | list => cases this.1; rfl
    | _ => cases this.1
  · rw [List.length_map]
    exact Nat.le_trans (List.length_filterMap_le _ _) (Nat.le_trans (by rw [List.length_take]; exact Nat.min_le_right _ _) hsz)
  · rw [lcTl_len hc']
    have := hsub.set (i := st2.length) (y := .list (((its.take k).filterMap g).map AV.d ++ [.d y])) (fun a ha => by
      rcases List.mem_append.mp ha with ha | ha
      · obtain ⟨d, _, rfl⟩ := List.mem_map.mp ha; trivial
      · cases List.mem_singleton.mp ha; trivial) (fun _ _ q => nomatch q)
    rw [lcTl_set] at this
    rw [take_filterMap_succ g its k x hx, hg]
    simpa [lcTl] using this
theorem lc_end {scope : Scope} {its : List D} {g : D → Option D} {Qa : AV → List AObj → Prop} {st2 tl : List AObj} {κ κ' : Kp} {σ σ2 σ' : List Addr} {s' : Shared} {acc Ca : Addr} (hcl : Closed st2) (hq : Qa (.d (.list (its.filterMap g))) st2) (p : σ <+: σ2) (hl : σ2.length = st2.length) (p' : σ2 <+: σ') (k : Kle κ κ') (hj : LcJ scope its g its.length tl)
    (X : Rel C G.φ G.κ₀ κ' σ' (st2 ++ tl) s') (hacc : σ'[st2.length]? = some acc) (hCa : σ'[st2.length + 1]? = some Ca) : LcEnd C G Qa κ σ acc Ca s' := by
  refine byC fun hN => ?_
  obtain ⟨cs, hc, rfl⟩ := hj
  rw [List.take_length] at X
  obtain ⟨κ2, k2, X2⟩ := X.freeze lcTl_at
  obtain ⟨a', ha', r⟩ := X2.frz (i := st2.length) (d := .list (its.filterMap g)) (by rw [List.getElem?_set_self]; simp [lcTl])
  refine hN ?_
  cases hacc.symm.trans ha'
  rw [lcTl_set] at X2
  have X3 := X2.sub hcl.sub
  have hσ : σ'.take st2.length = σ2 := by rw [← hl]; exact take_pre p'
  rw [hσ] at X3
  have hown := (X2.own (st2.length + 1) Ca (.ns (scope.names.map (·.1)) (List.replicate scope.names.length none)) hCa (by
    rw [List.getElem?_append_right (Nat.le_succ _), show st2.length.succ - st2.length = 1 by lia]; rfl)).none trivial
  refine ⟨κ2, σ2, .d (.list (its.filterMap g)), st2, k.trans k2, p, X3, r, hq, hown.1, hown.2, fun hmem => ?_, fun hmem => (X.tabs Ca hmem).2.2.2 (List.mem_of_getElem? hCa)⟩
  obtain ⟨i, hi2, ei⟩ := List.getElem_of_mem hmem
  obtain ⟨hb, eb⟩ := List.getElem?_eq_some_iff.mp hCa
  obtain ⟨hb', eb'⟩ := List.getElem?_eq_some_iff.mp (get_pre p' (by rw [List.getElem?_eq_getElem hi2, ei] : σ2[i]? = some Ca))
  have := (List.getElem_inj X.nd).mp (eb'.trans eb.symm)
  lia
noncomputable def LcTurn (C : Cx) (A : Around) (G : Gd) (ae : AEnv) (scope : Scope) (ca : List (Str × Nat)) (st2 : List AObj) (target elt : Expr) (ifs : List Expr) (its : List D) (g : D → Option D) : Prop :=
  ∀ φ' E' env' x (acc : List D) (cs : List (Option AV)), x ∈ its → cs.length = nCells scope.names → env'.frame = G.env.frame → wTgt C A ⟨φ', G.κ₀, env', E'⟩ (compAe ae scope st2.length ca) (st2 ++ lcTl scope acc cs) target (.d x) fun st3 => wIfs C A ⟨φ', G.κ₀, env', E'⟩ (compAe ae scope st2.length ca) st3 ifs fun ok st4 =>
      if ok then wE C A ⟨φ', G.κ₀, env', E'⟩ (compAe ae scope st2.length ca) st4 elt (LcElt scope st2 acc g x)
      else LcSkip scope st2 acc g x st4
theorem lc_data {elt target iter : Expr} {ifs : List Expr} {scope : Scope} {pos fpos : Pos} {ca : List (Str × Nat)} {use : Option (Value → Sem Unit)} {Qf : Kp → List Addr → Value → Shared → Prop} {its : List D} {st2 : List AObj} (g : D → Option D)
    (hnf : noFree ae.scope = true) (ok : ScOk scope) (hca : caOf ae.cells scope.names [] = some ca) (hcn : ((cellsFrom (st2.length + 2) scope.names ca).map (·.1)).Nodup)
    (hs : ∀ env x, foldedSetIterable iter env x = pure x) (hiter : wEI C A G ae target st iter fun its' st2' => its' = its ∧ st2' = st2) (hsz : its.length ≤ sizeLine) (hcl : Closed st2)
    (turn : LcTurn C A G ae scope ca st2 target elt ifs its g) {Qa : AV → List AObj → Prop} (hq : Qa (.d (.list (its.filterMap g))) st2)
    (fin : ∀ κ σ s acc Ca m, EnvR ae σ G.env → LcEnd C G Qa κ σ acc Ca s → s.heap.Ns Ca m → compPost (model C.prog C.w) A G.E use (Qf κ σ) (.ref acc) Ca (.ok .next) s) :
    ∀ κ σ s, EnvR ae σ G.env → Rel C G.φ G.κ₀ κ σ st s → wpAny (model C.prog C.w) A (comprehension (.ListComp elt [⟨target, iter, ifs, 0⟩] scope pos) scope G.env fpos (newList []) false (eval iter G.env) use) (Qf κ σ) G.E s := by
  refine comp_core hnf ok hca hcn hs hiter (LcJ scope its g) lcJ_len lcJ_zero ?_ ?_
  · rintro φ' E' env' k x tl hef hx ⟨cs, hc, rfl⟩
    intro κ σ s v e X r
    refine wpAny_mono (turn φ' E' env' x _ cs (List.mem_of_getElem? hx) hc hef κ σ s v e X r) (fun _ s1 z => z.go fun κ1 σ1 _ st3 k1 p1 X1 _ q1 => ⟨κ1, σ1, (), st3, k1, p1, X1, trivial, ?_⟩) fun _ _ z => z
    refine W.mono q1 fun okb st4 q4 => ?_
    cases okb with
    | false => exact LcSkip.next hx q4
    | true => exact W.mono q4 fun a st5 q5 => LcElt.post hsz hx q5
  · exact fun κ σ σ2 κ' σ' tl s' acc Ca m e p hl p' k hj X hacc hCa hm => fin κ σ s' acc Ca m e (lc_end hcl hq p hl p' k hj X hacc hCa) hm
theorem wE_lcD {elt target iter : Expr} {ifs : List Expr} {scope : Scope} {pos : Pos} {its : List D} {st2 : List AObj} {Q : AV → List AObj → Prop} (ca : List (Str × Nat)) (g : D → Option D)
    (hnf : noFree ae.scope = true) (ok : ScOk scope) (hca : caOf ae.cells scope.names [] = some ca) (hcn : ((cellsFrom (st2.length + 2) scope.names ca).map (·.1)).Nodup)
    (hs : ∀ env x, foldedSetIterable iter env x = pure x) (hiter : wEI C A G ae target st iter fun its' st2' => its' = its ∧ st2' = st2) (hsz : its.length ≤ sizeLine) (hcl : Closed st2)
    (turn : LcTurn C A G ae scope ca st2 target elt ifs its g) (hq : Q (.d (.list (its.filterMap g))) st2) : wE C A G ae st (.ListComp elt [⟨target, iter, ifs, 0⟩] scope pos) Q := fun κ σ s e X => by
  rw [eval_ListComp]
  exact lc_data (Qf := fun κ σ v s' => PA RV C G.φ G.κ₀ κ σ Q v s') g hnf ok hca hcn hs hiter hsz hcl turn hq (fun κ σ s acc Ca m _ h hm => lc_eval h hm) κ σ s e X
theorem wS_lcD {x : Str} {xp : Pos} {elt target iter : Expr} {ifs : List Expr} {scope : Scope} {pos spos : Pos} {its : List D} {st2 : List AObj} {Q : AF → List AObj → Prop} (i : Nat) (ca : List (Str × Nat)) (g : D → Option D) (hk : ae.scope.names[i]? = some (x, .local)) (hln : (xp.line == (Expr.ListComp elt [⟨target, iter, ifs, 0⟩] scope pos).pos.line) = true) (hny : (scope.names.any fun p => p.1 == x && (p.2 == .local || p.2 == .cell)) = false)
    (hnf : noFree ae.scope = true) (ok : ScOk scope) (hca : caOf ae.cells scope.names [] = some ca) (hcn : ((cellsFrom (st2.length + 2) scope.names ca).map (·.1)).Nodup)
    (hs : ∀ env x, foldedSetIterable iter env x = pure x) (hiter : wEI C A G ae target st iter fun its' st2' => its' = its ∧ st2' = st2) (hsz : its.length ≤ sizeLine) (hcl : Closed st2)
    (turn : LcTurn C A G ae scope ca st2 target elt ifs its g) (hq : ∀ φ', wStore C A { G with φ := φ' } ae st2 x (.d (.list (its.filterMap g))) fun st3 => Q .next st3) : wS C A G ae st (.Assign [.Name x xp] (.ListComp elt [⟨target, iter, ifs, 0⟩] scope pos) spos) Q := fun κ σ s e X => by
  have hsw : swapsWith (.ListComp elt [⟨target, iter, ifs, 0⟩] scope pos) (some (.Name x xp)) spos.line G.env = pure true := by
    show (pure (G.env.blockKind == .function && G.env.kindOf x == some .local && xp.line == (Expr.ListComp elt [⟨target, iter, ifs, 0⟩] scope pos).pos.line && !(scope.names.any fun p => p.1 == x && (p.2 == .local || p.2 == .cell))) : Sem Bool) = _
    have h1 : G.env.blockKind = .function := by unfold Env.blockKind; rw [e.kind]; rfl
    rw [e.kindOf hk, h1, hln, hny]; rfl
  rw [exec_Assign_Name_used x xp _ spos hsw]
  refine wpAny_bind (wpAny_standAt (wpAny_bind ?_))
  show wpAny _ _ (comprehension _ _ _ _ _ _ _ _ >>= fun _ => pure ()) _ _ s
  refine wpAny_bind (wpAny_mono (lc_data (Qf := fun κ σ _ s' => PA RF C G.φ G.κ₀ κ σ Q .next s') g hnf ok hca hcn hs hiter hsz hcl turn (Qa := fun a st1 => ∀ φ', wStore C A { G with φ := φ' } ae st1 x a fun st2 => Q .next st2) hq (fun κ σ s acc Ca m e h hm => lc_store e h hm) κ σ s e X) (fun _ s1 h1 => wpAny_pure (wpAny_pure h1)) fun _ _ z => z)
end
end Mine
end
section
open PySem PySem.Calls PyProof.Rows PySem.W PySem.SeqAt PyProof.V
namespace Mine
theorem codeAmong_app {pos : Pos} {a b : Int} {c cv : Value} (l : List Value) (h : TriplesOk l) (e : codeAmong pos (l ++ [rawInt a, rawInt b, c]) = some cv) : codeAmong pos l = some cv ∨ ((a == pos.line) = true ∧ (b == pos.col) = true ∧ c = cv) := by
  fun_induction TriplesOk l with
  | case1 =>
    simp only [List.nil_append, codeAmong, rawInt] at e
    split at e
    · rename_i q; simp only [Bool.and_eq_true] at q; cases e; exact .inr ⟨q.1, q.2, rfl⟩
    · cases e
  | case2 a' t b' u x rest ih =>
    simp only [List.cons_append, codeAmong] at e ⊢
    split at e
    · rename_i q; rw [if_pos q]; exact .inl e
    · rename_i q; rw [if_neg q]; exact ih h e
  | case3 l h1 h2 => exact h.elim
section
variable {C : Cx} {φ κ₀ κ : Kp} {σ : List Addr} {st : List AObj} {s : Shared}
theorem Rel.tabGrow (X : Rel C φ κ₀ κ σ st s) {P : Addr} (hP : P ∈ C.tabs) {s' : Shared} {κ' : Kp} (hk : ∀ b o, b ≠ P → s.heap.get? b = some o → s'.heap.get? b = some o) (hg : s'.gens = s.gens) (ho : s'.os = s.os)
    (k : Kle κ κ') (hn : ∀ b o, κ' b = some o → κ b = some o ∨ s.heap.get? b = none) (hκ : ∀ b o, κ' b = some o → s'.heap.get? b = some o) (ht : TabOk C κ' s'.heap P) : Rel C φ κ₀ κ' σ st s' := by
  refine byC fun hC1 => ?_
  obtain ⟨⟨psP, eP, _⟩, hφP, hκP, hσP⟩ := X.tabs P hP
  refine hC1 ?_
  have gone : ∀ a o, s.heap.get? a = some o → κ a = none → κ' a = none := fun a o e1 e2 => by
    refine noneOf fun o' q => ?_
    rcases hn a o' q with h | h
    · exact nope e2 h
    · rw [e1] at h; cases h
  refine ⟨X.prog.trans k, X.k0.trans k, fun b o e => ?_, hκ, fun b o e => hk b o (fun q => ?_) (X.phi b o e), X.len, X.nd, fun i a x e1 e2 => ?_, fun P' hP' => ?_, hg.trans X.gens, ho.trans X.os⟩
  · rcases hn b o e with h | h
    · exact X.new b o h
    · right; refine noneOf fun o' q => ?_
      rw [X.phi _ _ q] at h; cases h
  · rw [q, hφP] at e; cases e
  · have hna : a ≠ P := fun q => hσP (q ▸ List.mem_of_getElem? e1)
    exact (X.own i a x e1 e2).map k (List.prefix_refl _) fun h1 h2 o h3 => ⟨gone a o h3 h1, h2, hk _ _ hna h3⟩
  · refine byC fun hC2 => ?_
    obtain ⟨⟨ps, e, r⟩, h2, h3, h4⟩ := X.tabs P' hP'
    refine hC2 ?_
    by_cases q : P' = P
    · subst q; exact ⟨ht, h2, gone P' _ e h3, h4⟩
    · exact ⟨TabOk.keeps (C := C) ⟨ps, e, r⟩ k fun o e => hk _ _ q e, h2, gone P' _ e h3, h4⟩
structure LamOk (C : Cx) (cv : Value) (P : Addr) : Prop where
  mem : P ∈ C.tabs
  code : ∃ c, cv = .ref c ∧ ∀ h : Heap, (∀ b o, C.P0 b = some o → h.get? b = some o) → CodeHd h c P
  main : ∀ h : Heap, (∀ b o, C.P0 b = some o → h.get? b = some o) → ∃ mg, h.Ns mainGlobals mg ∧ mainGlobals ≠ P ∧ h.BuiltinsAt mg P
inductive LamAt (κ : Kp) (σ : List Addr) (f : Addr) (params : Arguments) (body : Expr) (scope : Scope) (ca : List (Str × Nat)) : Prop
  | mk (o : Obj) (name qual : Str) (cl : List (Str × Addr)) (pm cdv ct : _) (h1 : κ f = some o) (h2 : o.data = .func (kla_fn name qual params body scope cl pm cdv ct)) (h3 : CR σ cl ca) (h4 : CodeK κ cdv qual)
theorem lam_go {A : Around} {E : Value → Shared → Prop} {Q : Value → Shared → Prop} {ae : AEnv} {env : Env} {P : Addr} {params : Arguments} {body : Expr} {scope : Scope} {pos : Pos} {ca : List (Str × Nat)} (X : Rel C φ κ₀ κ σ st s) (e : EnvR ae σ env) (L : LamOk C ae.code P)
    (hdef : ∀ env, defaultsOf params env = ([], [])) (hca : caOf ae.cells scope.names [] = some ca) (htq : ∀ pos' : Pos, (((pos.line : Int) == pos'.line) = true) → (((pos.col : Int) == pos'.col) = true) → C.tq pos' = ae.qual ++ "<lambda>") (htq2 : C.tq pos = ae.qual ++ "<lambda>")
    (h : ∀ f κ' s', Kle κ κ' → Rel C φ κ₀ κ' σ st s' → LamAt κ' σ f params body scope ca → Q (.ref f) s') : wpAny (model C.prog C.w) A (eval (.Lambda params body scope pos) env) Q E s := by
  refine byC fun hC1 => ?_
  obtain ⟨cl, hcl, hcr⟩ := closureFor_go e hca
  obtain ⟨c, hc, hcode⟩ := L.code
  obtain ⟨mg, hg, hgP, hb⟩ := L.main s.heap X.p0
  obtain ⟨⟨ps, hP, ht, hpc⟩, hφP, hκP, hσP⟩ := X.tabs P L.mem
  refine hC1 ?_
  refine kla_eval (hdef _) ?_
  rw [e.qual]
  cases hf : codeAmong pos ps.toList with
  | none =>
    refine kla_makeFunction (mg := mg) hcl e.globals hg (by rw [e.code, hc]) (hcode s.heap X.p0) hP ht hf hgP hb fun c' ctv h' tk hx hge hlt hrec htb => ?_
    refine byC fun hC2 => ?_
    obtain ⟨c₂, oc, vs, t, e2, hoc, hd, hv⟩ := hrec
    cases e2
    refine hC2 ?_
    generalize hfo : kla_obj (Str.ofString "<lambda>") (ae.qual ++ "<lambda>") params body scope cl ((mg "__name__").getD .none) c' ctv = fo
    have hnc : s.heap.get? c' = none := Heap.get?_none_of_le hge
    have hsz : s.heap.objs.size ≤ h'.objs.size := Nat.le_trans hge (Nat.le_of_lt hlt)
    have hnf : s.heap.get? h'.objs.size = none := Heap.get?_none_of_le hsz
    have hκc : κ c' = none := (X.free_new hnc).1
    have hκf : withOne κ c' oc h'.objs.size = none := by rw [withOne_ne (Nat.ne_of_gt hlt)]; exact (X.free_new hnf).1
    have hfd : (h'.push fo).get? h'.objs.size = some fo := Heap.get?_push_size _ (by rw [← hfo]; rfl)
    have k1 : Kle κ (withOne κ c' oc) := withOne_le hκc
    have k2 : Kle (withOne κ c' oc) (withOne (withOne κ c' oc) h'.objs.size fo) := withOne_le hκf
    have hkeep : ∀ b o, b ≠ P → s.heap.get? b = some o → (h'.push fo).get? b = some o := fun b o hb e => Heap.get?_push_of_some _ (hx b o hb e)
    have hck : CodeK (withOne (withOne κ c' oc) h'.objs.size fo) (.ref c') (ae.qual ++ "<lambda>") := ⟨c', oc, vs, t, rfl, k2 _ _ (if_pos rfl), hd, hv⟩
    refine h _ (withOne (withOne κ c' oc) h'.objs.size fo) _ (k1.trans k2) (X.tabGrow (s' := { s with heap := h'.push fo, toks := tk }) L.mem hkeep rfl rfl (k1.trans k2) (fun b o e => ?_) (fun b o e => ?_) ?_) ?_
    · by_cases q : b = h'.objs.size
      · subst q; exact .inr hnf
      · rw [withOne_ne q] at e
        by_cases q2 : b = c'
        · subst q2; exact .inr hnc
        · rw [withOne_ne q2] at e; exact .inl e
    · by_cases q : b = h'.objs.size
      · subst q; unfold withOne at e; rw [if_pos rfl] at e; cases e; exact hfd
      · rw [withOne_ne q] at e
        by_cases q2 : b = c'
        · subst q2; unfold withOne at e; rw [if_pos rfl] at e; cases e; exact Heap.get?_push_of_some _ hoc
        · rw [withOne_ne q2] at e
          exact hkeep b o (fun q => by rw [q, hκP] at e; cases e) (X.keep b o e)
    · refine ⟨_, Heap.get?_push_of_some _ htb, by simpa using TriplesOk_snoc pos.line pos.col (.ref c') ps.toList ht, fun pos' cv ec => ?_⟩
      have ec : codeAmong pos' (ps.toList ++ [rawInt pos.line, rawInt pos.col, .ref c']) = some cv := by simpa using ec
      rcases codeAmong_app _ ht ec with h1 | ⟨h1, h2, rfl⟩
      · exact (hpc pos' cv h1).mono (k1.trans k2)
      · rw [htq pos' h1 h2]; exact hck
    · exact ⟨fo, _, _, cl, _, .ref c', ctv, if_pos rfl, by rw [← hfo], hcr, hck⟩
  | some cv =>
    refine kla_makeFunctionHit (mg := mg) hcl e.globals hg (by rw [e.code, hc]) (hcode s.heap X.p0) hP ht hf hb fun ctv h' tk hk hsz => ?_
    generalize hfo : ({ cls := .type "function", data := .func (kla_fn (Str.ofString "<lambda>") (ae.qual ++ "<lambda>") params body scope cl ((mg "__name__").getD .none) cv ctv) } : Obj) = fo
    have hnf : s.heap.get? h'.objs.size = none := Heap.get?_none_of_le hsz
    have hfd : (h'.push fo).get? h'.objs.size = some fo := Heap.get?_push_size _ (by rw [← hfo]; rfl)
    refine byC fun hC3 => ?_
    obtain ⟨k1, X1⟩ := X.data (s' := { s with heap := h'.push fo, toks := tk }) hnf (fun b o e => Heap.get?_push_of_some _ (hk b o e)) hfd rfl rfl
    refine hC3 ?_
    have := hpc pos cv hf
    rw [htq2] at this
    exact h _ _ _ k1 X1 ⟨fo, _, _, cl, _, cv, ctv, if_pos rfl, by rw [← hfo], hcr, this.mono k1⟩
end
end Mine
end
section
open PySem PySem.Calls PyProof.Rows PySem.W PySem.SeqAt PyProof.V
namespace Mine
noncomputable def CellD (κf : Kp) (d : D) (o : Obj) : Prop := ∃ v, o.data = .cell (some v) ∧ R κf d v
structure CellsIn (C : Cx) (φf κf : Kp) (cl : List (Str × Addr)) (xs : List Str) (ds : List D) : Prop where
  names : cl.map (·.1) = xs
  len : ds.length = xs.length
  nd : (cl.map (·.2)).Nodup
  get : ∀ (j : Nat) (x : Str) (c : Addr) (d : D), cl[j]? = some (x, c) → ds[j]? = some d → κf c = none ∧ c ∉ C.tabs ∧ ∃ o, φf c = some o ∧ CellD κf d o
noncomputable def CellsAre (κf : Kp) (ds : List D) (Ps : List AObj) : Prop := Ps.length = ds.length ∧ ∀ (j : Nat) (d : D), ds[j]? = some d → ∃ P, Ps[j]? = some (.raw P) ∧ ∀ o, P o → CellD κf d o
noncomputable def caIdx : Nat → List Str → List (Str × Nat)
  | _, [] => []
  | i, x :: r => (x, i) :: caIdx (i + 1) r
theorem caIdx_names : ∀ (xs : List Str) (i : Nat), (caIdx i xs).map (·.1) = xs
  | [], _ => rfl
  | x :: r, i => by simp [caIdx, caIdx_names r]
theorem caIdx_get : ∀ (xs : List Str) (i j : Nat) (x : Str) (k : Nat), (caIdx i xs)[j]? = some (x, k) → xs[j]? = some x ∧ k = i + j
  | [], _, _, _, _, h => by simp [caIdx] at h
  | y :: r, i, 0, x, k, h => by simp [caIdx] at h; simp [h]
  | y :: r, i, j + 1, x, k, h => by
    simp only [caIdx, List.getElem?_cons_succ] at h
    obtain ⟨h1, h2⟩ := caIdx_get r (i + 1) j x k h
    exact ⟨by simpa using h1, by omega⟩
section
variable {C : Cx} {A : Around} {G : Gd} {ae : AEnv} {st : List AObj}
theorem wE_freeR {κf : Kp} (i j k : Nat) {x : Str} {pos : Pos} {d : D} {P : Obj → Prop} {Q : AV → List AObj → Prop} (hk : ae.scope.names[i]? = some (x, .free)) (hc : ae.cells[j]? = some (x, k)) (ho : st[k]? = some (.raw P)) (hP : ∀ o, P o → CellD κf d o) (hκ : Kle κf G.κ₀) (q : Q (.d d) st) :
    wE C A G ae st (.Name x pos) Q := fun κ σ s e X => by
  refine byC fun hC1 => ?_
  obtain ⟨c, o, hL, _, _, ho, hp⟩ := X.get ho trivial
  obtain ⟨v, hd, hr⟩ := hP o hp
  obtain ⟨c', h1, h2⟩ := e.cell hc
  obtain rfl := Option.some.inj (h2.symm.trans hL)
  refine hC1 ?_
  exact wpAny_Name (wpAny_loadName_free e.kind (e.kindOf hk) h1 ⟨o, ho, hd⟩ (PA.ret (b := .d d) X (hr.mono (hκ.trans X.k0)) q) (e.ok.nodebug _ (List.mem_of_getElem? hk)).2) (e.ok.nodebug _ (List.mem_of_getElem? hk)).1
end
noncomputable abbrev phiC (C : Cx) (cl : List (Str × Addr)) (s : Shared) : Kp := fun b => if b ∈ C.tabs ∨ b ∈ cl.map (·.2) then none else s.heap.get? b
noncomputable abbrev rawsOf (cl : List (Str × Addr)) (s : Shared) : List AObj := (cl.map (·.2)).map fun c => .raw (fun o => s.heap.get? c = some o)
inductive LamIn (C : Cx) (φf κf : Kp) (kf : Addr) (params : Arguments) (body : Expr) (scope : Scope) (xs : List Str) (ds : List D) : Prop
  | mk (o : Obj) (name qual : Str) (cl : List (Str × Addr)) (pm cdv ct : _) (h1 : κf kf = some o) (h2 : o.data = .func (kla_fn name qual params body scope cl pm cdv ct)) (h3 : CodeK κf cdv qual) (h4 : CellsIn C φf κf cl xs ds)
section
variable {C : Cx} {φf κf κ : Kp} {cl : List (Str × Addr)} {xs : List Str} {ds : List D} {s : Shared}
theorem CellsIn.clen (h : CellsIn C φf κf cl xs ds) : cl.length = ds.length := by rw [h.len, ← h.names, List.length_map]
theorem CellsIn.there (h : CellsIn C φf κf cl xs ds) (hnew : ∀ b o, κ b = some o → κf b = some o ∨ φf b = none) (hφf : ∀ b o, φf b = some o → s.heap.get? b = some o) : ∀ c ∈ cl.map (·.2), κ c = none ∧ c ∉ C.tabs ∧ ∃ o, s.heap.get? c = some o := fun c hc => by
  obtain ⟨⟨y, c'⟩, hm, rfl⟩ := List.mem_map.mp hc
  obtain ⟨j, hj, ej⟩ := List.getElem_of_mem hm
  have hj' : j < ds.length := h.clen ▸ hj
  obtain ⟨h1, h2, oc, h3, _⟩ := h.get j y c' ds[j] (by rw [List.getElem?_eq_getElem hj, ej]) (List.getElem?_eq_getElem hj')
  exact ⟨noneOf fun o' q => (hnew c' o' q).elim (nope h1) fun e => nope e h3, h2, oc, hφf _ _ h3⟩
theorem CellsIn.rel (h : CellsIn C φf κf cl xs ds) (B : Base C κ s) (hcs : ∀ c ∈ cl.map (·.2), κ c = none ∧ c ∉ C.tabs ∧ ∃ o, s.heap.get? c = some o) : Rel C (phiC C cl s) κ κ (cl.map (·.2)) (rawsOf cl s) s := by
  refine ⟨B.prog, Kle.refl _, fun b o e => .inl e, B.keep, fun b o e => ?_, by simp, h.nd, fun i a x e1 e2 => ?_, fun P hP => ⟨(B.tabs P hP).1, by simp [hP], (B.tabs P hP).2, fun hm => (hcs P hm).2.1 hP⟩, B.gens, B.os⟩
  · unfold phiC at e; split at e
    · cases e
    · exact e
  · unfold rawsOf at e2
    rw [List.getElem?_map, e1] at e2
    cases e2
    have hm := List.mem_of_getElem? e1
    obtain ⟨h1, h2, o, h3⟩ := hcs a hm
    exact .own trivial h1 (if_pos (.inr hm)) o h3 h3
theorem CellsIn.cr (h : CellsIn C φf κf cl xs ds) : CR (cl.map (·.2)) cl (caIdx 0 xs) := ⟨by rw [h.names, caIdx_names], fun j y k e => by
  obtain ⟨h1, h2⟩ := caIdx_get xs 0 j y k e
  have h3 : (cl.map (·.1))[j]? = some y := by rw [h.names]; exact h1
  rw [List.getElem?_map] at h3
  obtain ⟨z, q, rfl⟩ := Option.map_eq_some_iff.mp h3
  exact ⟨z.2, q, by rw [h2, Nat.zero_add, List.getElem?_map, q]; rfl⟩⟩
theorem CellsIn.are (h : CellsIn C φf κf cl xs ds) (hφf : ∀ b o, φf b = some o → s.heap.get? b = some o) : CellsAre κf ds (rawsOf cl s) := ⟨by simp [h.clen], fun j d e => by
  have hj : j < cl.length := h.clen ▸ (List.getElem?_eq_some_iff.mp e).1
  obtain ⟨h1, h2, oc, h3, h4⟩ := h.get j cl[j].1 cl[j].2 d (List.getElem?_eq_getElem hj) e
  refine ⟨_, by simp [hj]; rfl, fun o ho => ?_⟩
  cases (hφf _ _ h3).symm.trans ho; exact h4⟩
end
theorem lam_ok {C : Cx} {φf κf : Kp} {f : Addr} {params : Arguments} {body : Expr} {scope : Scope} {n : Nat} {x : Str} {a : AV} {xs : List Str} {ds : List D} {post : D → Prop} (hl : NoLim C) (ok : ScOk scope) (hco : scope.isCoroutine = false) (hgen : scope.isGenerator = false)
    (hcn : ((cellsFrom (ds.length + 1) scope.names (caIdx 0 xs)).map (·.1)).Nodup) (hnf : noFree scope = false ∨ ds.length = 0)
    (L : LamIn C φf κf f params body scope xs ds)
    (hbind : ∀ name qual cl pm cdv ct v, bindArgs (kla_fn name qual params body scope cl pm cdv ct) ⟨[v], []⟩ = pure [(x, v)])
    (run : ∀ A G A' Ps code qual, AOk A n → CellsAre κf ds Ps → Kle κf G.κ₀ → (∀ b o, φf b = some o → b ∉ (C.tabs) → True) → wStores C A' G ⟨scope, ds.length, cellsFrom (ds.length + 1) scope.names (caIdx 0 xs), code, qual⟩ [(x, a)] (Ps ++ [.ns (scope.names.map (·.1)) (List.replicate scope.names.length none)] ++ List.replicate (nCells scope.names) (.cell none))
      fun st0 => ∀ E, wE C A (G.at E) ⟨scope, ds.length, cellsFrom (ds.length + 1) scope.names (caIdx 0 xs), code, qual⟩ st0 body fun a st' => ∃ d, a = .d d ∧ post d ∧ ∀ j, j < ds.length → st'[j]? = Ps[j]?) :
    FnOk C φf κf (n + 1) (.ref f) [a] [] [] post := by
  intro A E κ s vs kvs hA B hκf hnew hφf ra rk
  refine byC fun hC1 => ?_
  obtain ⟨o, name, qual, cl, pm, cdv, ct, ho, hd, hcd, hcells⟩ := L
  have hs := B.keep _ _ (hκf _ _ ho)
  obtain ⟨v, rfl, rv⟩ := ra.one
  have hk0 : kvs = [] := by have := rk.1; simpa using this
  subst hk0
  refine hC1 ?_
  have hclen := hcells.clen
  refine ⟨.inr (.inr ⟨f, o, _, rfl, hs, hd⟩), wpAny_call ?_⟩
  refine kla_callFunE (by have := hA.depth; rw [recursionLimit]; omega) hs hd hco hgen rfl (hcd.rec fun b o e => B.keep b o (hκf b o e)) ?_
  refine wpAny_of_eq (hbind ..) ?_
  have hcs := hcells.there hnew hφf
  have hfr0 : noFree scope = true → ∀ L0 : Addr, ∃ L, envFrame L0 none = some L ∧ (cl.map (·.2) ++ [L0])[0]? = some L := fun h L0 => by
    have : cl = [] := by
      rcases hnf with h' | h'
      · rw [h] at h'; cases h'
      · exact List.eq_nil_of_length_eq_zero (by rw [hclen]; exact h')
    rw [this]
    exact ⟨L0, rfl, rfl⟩
  have hPl : (rawsOf cl s).length = ds.length := by simp [hclen]
  refine newEnv_go (bs := [(x, a)]) (Q' := fun env st0 => ∀ E, wE C (A.deeper env) ((⟨phiC C cl s, κ, env, fun _ _ => False⟩ : Gd).at E) ⟨scope, ds.length, cellsFrom (ds.length + 1) scope.names (caIdx 0 xs), cdv, qual ++ ".<locals>."⟩ st0 body fun a st' => ∃ d, a = .d d ∧ post d ∧ ∀ j, j < ds.length → st'[j]? = (rawsOf cl s)[j]?) (hcells.rel B hcs) hcells.cr ok (by rw [hPl]; exact hcn) hfr0 rfl rfl rfl (RVL.cons (by
      cases a with
      | d => exact rv
      | glob => exact rv
      | obj => obtain ⟨b, hb, _⟩ := rv; simp at hb) RVL.nil)
    (fun env => ?_) fun κ' σ' st' env s' k p e ⟨cells, he⟩ X q => ?_
  · have := run (A.deeper env) ⟨phiC C cl s, κ, env, E⟩ A.in1 _ cdv (qual ++ ".<locals>.") (hA.deeper env) (hcells.are hφf) hκf (fun _ _ _ _ => trivial)
    rw [hPl]
    exact this
  · rw [hPl] at e
    refine ⟨hl _ X.p0, kla_codeExpr (wpAny_mono (q _ κ' σ' s' e X) (fun rv s2 z => z.go fun κ2 σ2 a2 st2 k2 p2 X2 r2 ⟨d, ha, hp, hst⟩ => ?_) fun _ _ z => z)⟩
    subst ha
    have hfix : ∀ c ∈ cl.map (·.2), κ2 c = none ∧ s2.heap.get? c = s.heap.get? c := fun c hc => by
      refine byC fun hC6 => ?_
      obtain ⟨j, hj, ej⟩ := List.getElem_of_mem hc
      have e1 : σ2[j]? = some c := get_pre (p.trans p2) (by rw [List.getElem?_eq_getElem hj, ej])
      have hj' : j < ds.length := by rw [← hclen]; simpa using hj
      have e2 : st2[j]? = some (.raw (fun o => s.heap.get? c = some o)) := by
        rw [hst j hj']
        rw [List.getElem?_map, List.getElem?_eq_getElem hj, ej]; rfl
      obtain ⟨c', o, hc', h1, h2, h3, h4⟩ := X2.get e2 trivial
      cases e1.symm.trans hc'
      refine hC6 ?_
      have h4 : s.heap.get? c = some o := h4
      exact ⟨h1, by rw [h3, h4]⟩
    exact ⟨κ2, d, k.trans k2, X2.base, fun b o e => by
      rcases X2.new b o e with e' | e'
      · exact .inl e'
      · have e' : (if b ∈ C.tabs ∨ b ∈ cl.map (·.2) then none else s.heap.get? b) = none := e'
        split at e'
        · rename_i h
          rcases h with h | h
          · exact nope ((X2.tabs b h).2.2.1) e
          · exact nope ((hfix b h).1) e
        · exact .inr e', fun b o hb e => by
      by_cases h : b ∈ cl.map (·.2)
      · rw [(hfix b h).2]; exact e
      · exact X2.phi b o (by
          show (if b ∈ C.tabs ∨ b ∈ cl.map (·.2) then none else s.heap.get? b) = some o
          rw [if_neg (fun q => q.elim hb h)]; exact e), r2, hp⟩
end Mine
end
section
open PySem PySem.Calls PyProof.Rows PySem.W PySem.SeqAt PyProof.V
namespace Mine
section
variable {C : Cx} {A : Around} {G : Gd} {ae : AEnv} {st : List AObj} {Q : AV → List AObj → Prop}
noncomputable def DOf (st : List AObj) (a : AV) (d : D) : Prop := a = .d d ∨ ∃ i : Nat, a = .obj i ∧ st[i]? = some (.frz d)
theorem DOf.r {φ κ₀ κ : Kp} {σ : List Addr} {s : Shared} {a : AV} {d : D} {v : Value} (h : DOf st a d) (X : Rel C φ κ₀ κ σ st s) (r : RV κ σ a v) : R κ d v := by
  rcases h with rfl | ⟨i, rfl, e⟩
  · exact r
  · obtain ⟨b, hb, rfl⟩ := r
    obtain ⟨b', hb', r⟩ := X.frz e
    rw [hb] at hb'; cases hb'; exact r
theorem wE_d {x : Expr} (h : wE C A G ae st x fun a st1 => ∃ d, DOf st1 a d ∧ Q (.d d) st1) : wE C A G ae st x Q := fun κ σ s e X =>
  wpAny_mono (h κ σ s e X) (fun v s1 z => z.go fun κ1 σ1 a st1 k1 p1 X1 r1 ⟨d, hd, q⟩ => ⟨κ1, σ1, .d d, st1, k1, p1, X1, hd.r X1 r1, q⟩) fun _ _ z => z
theorem wSs_conv {xs : List Stmt} {st' : List AObj} {Q : AF → List AObj → Prop} (h : wSs C A G ae st' xs Q) (hc : ∀ {φ κ₀ κ : Kp} {σ : List Addr} {s : Shared}, Rel C φ κ₀ κ σ st s → ∃ κ', Kle κ κ' ∧ Rel C φ κ₀ κ' σ st' s) : wSs C A G ae st xs Q := fun κ σ s e X => by
  refine byC fun hC1 => ?_
  obtain ⟨κ', k, X'⟩ := hc X
  refine hC1 ?_
  exact PA.wp k (List.prefix_refl _) (h κ' σ s e X')
theorem wSs_freeze (i : Nat) {ds : List D} {xs : List Stmt} {Q : AF → List AObj → Prop} (hi : st[i]? = some (.list (ds.map .d))) (h : wSs C A G ae (st.set i (.frz (.list ds))) xs Q) : wSs C A G ae st xs Q := wSs_conv h fun X => X.freeze hi
theorem bind1 {C : Cx} {fd : FuncData} {x : Str} {a : AV} (h : ∀ v, bindArgs fd ⟨[v], []⟩ = pure [(x, v)]) (s : Shared) (vs kvs : List Value) (_ : ∀ b o, C.P0 b = some o → s.heap.get? b = some o) (hv : vs.length = [a].length) (hk : kvs.length = ([] : List AV).length) :
    ∃ binds, BindsTo s fd ⟨vs, ([] : List Str).zip kvs⟩ binds ∧ binds.map (·.1) = [(x, a)].map (·.1) ∧ ∀ κ : Kp, RVL κ [] [a] vs → RVL κ [] [] kvs → RVL κ [] ([(x, a)].map (·.2)) (binds.map (·.2)) := by
  refine byC fun hC1 => ?_
  obtain ⟨v, rfl⟩ := len1 hv
  refine hC1 ?_
  exact ⟨[(x, v)], .of_eq (h v), rfl, fun κ r _ => r⟩
theorem bind2 {C : Cx} {fd : FuncData} {x y : Str} {a b : AV} (h : ∀ v u, bindArgs fd ⟨[v, u], []⟩ = pure [(x, v), (y, u)]) (s : Shared) (vs kvs : List Value) (_ : ∀ b o, C.P0 b = some o → s.heap.get? b = some o) (hv : vs.length = [a, b].length) (hk : kvs.length = ([] : List AV).length) :
    ∃ binds, BindsTo s fd ⟨vs, ([] : List Str).zip kvs⟩ binds ∧ binds.map (·.1) = [(x, a), (y, b)].map (·.1) ∧ ∀ κ : Kp, RVL κ [] [a, b] vs → RVL κ [] [] kvs → RVL κ [] ([(x, a), (y, b)].map (·.2)) (binds.map (·.2)) := by
  refine byC fun hC1 => ?_
  obtain ⟨v, u, rfl⟩ := len2 hv
  refine hC1 ?_
  exact ⟨[(x, v), (y, u)], .of_eq (h v u), rfl, fun κ r _ => r⟩
theorem bind3 {C : Cx} {fd : FuncData} {x y z : Str} {a b c : AV} (h : ∀ v u w, bindArgs fd ⟨[v, u, w], []⟩ = pure [(x, v), (y, u), (z, w)]) (s : Shared) (vs kvs : List Value) (_ : ∀ b o, C.P0 b = some o → s.heap.get? b = some o) (hv : vs.length = [a, b, c].length) (hk : kvs.length = ([] : List AV).length) :
    ∃ binds, BindsTo s fd ⟨vs, ([] : List Str).zip kvs⟩ binds ∧ binds.map (·.1) = [(x, a), (y, b), (z, c)].map (·.1) ∧ ∀ κ : Kp, RVL κ [] [a, b, c] vs → RVL κ [] [] kvs → RVL κ [] ([(x, a), (y, b), (z, c)].map (·.2)) (binds.map (·.2)) := by
  refine byC fun hC1 => ?_
  obtain ⟨v, u, w, rfl⟩ := len3 hv
  refine hC1 ?_
  exact ⟨[(x, v), (y, u), (z, w)], .of_eq (h v u w), rfl, fun κ r _ => r⟩
end
end Mine
end
section
open PySem PySem.Calls PyProof.Rows PySem.W PySem.SeqAt PyProof.V
namespace Mine
section
variable {C : Cx} {A : Around} {G : Gd} {ae : AEnv} {st : List AObj} {Q : AV → List AObj → Prop}
noncomputable def wLamCall (C : Cx) (A : Around) (G : Gd) (st : List AObj) (f : AV) (as : List AV) (kn : Str) (params : Arguments) (body : Expr) (scope : Scope) (ca : List (Str × Nat)) (Q : AV → List AObj → Prop) : Prop :=
  ∀ κ σ s vf vs kf, Rel C G.φ G.κ₀ κ σ st s → RV κ σ f vf → RVL κ σ as vs → LamAt κ σ kf params body scope ca → CalleeOk s vf ∧ wpAny (model C.prog C.w) A (call vf vs [(kn, .ref kf)]) (PA RV C G.φ G.κ₀ κ σ Q) G.E s
theorem wE_callLam {x kn : Str} {np pos kp lpos : Pos} {args : List Expr} {params : Arguments} {body : Expr} {scope : Scope} {P : Addr} (ca : List (Str × Nat)) (hs : ∀ env, (backTo pos (starEach args env)).all (fun x => !x.1) = true) (L : LamOk C ae.code P)
    (hdef : ∀ env, defaultsOf params env = ([], [])) (hca : caOf ae.cells scope.names [] = some ca) (htq : ∀ pos' : Pos, (((lpos.line : Int) == pos'.line) = true) → (((lpos.col : Int) == pos'.col) = true) → C.tq pos' = ae.qual ++ "<lambda>") (htq2 : C.tq lpos = ae.qual ++ "<lambda>")
    (h : wE C A G ae st (.Name x np) fun f st1 => wArgs C A G ae st1 pos args fun as st2 => wLamCall C A G st2 f as kn params body scope ca Q) : wE C A G ae st (.Call (.Name x np) args [⟨some kn, .Lambda params body scope lpos, kp⟩] pos) Q := fun κ σ s e X =>
  wpAny_Call_ofName (wpAny_mono (h κ σ s e X) (fun vf s1 z => z.go fun κ1 σ1 f st1 k1 p1 X1 r1 q1 => callWith_go (hs _) rfl
    (wpAny_mono (q1 κ1 σ1 s1 (e.mono p1) X1) (fun vs s2 z => z.go fun κ2 σ2 as st2 k2 p2 X2 r2 q2 => by
      show wpAny _ _ (evalAll [do let v ← eval (.Lambda params body scope lpos) G.env; standAt pos; pure v]) _ _ s2
      rw [evalAll]
      refine wpAny_bind (wpAny_bind (lam_go X2 (e.mono (p1.trans p2)) L hdef hca htq htq2 fun kf κ3 s3 k3 X3 hl => wpAny_bind (wpAny_standAt (wpAny_pure (wpAny_bind (wpAny_holding (wpAny_evalAll_nil (wpAny_pure ?_))))))))
      have q := q2 κ3 σ2 s3 vf vs kf X3 (r1.mono (k2.trans k3) p2) (r2.mono k3 (List.prefix_refl _)) hl
      exact ⟨q.1, PA.wp ((k1.trans k2).trans k3) (p1.trans p2) q.2⟩) fun _ _ z => z)) fun _ _ z => z)
noncomputable def CellsD (st : List AObj) (ca : List (Str × Nat)) (ds : List D) : Prop := (ca.map (·.2)).Nodup ∧ ds.length = ca.length ∧ ∀ (j : Nat) (x : Str) (i : Nat) (d : D), ca[j]? = some (x, i) → ds[j]? = some d → st[i]? = some (.cell (some (.d d)))
theorem cellsIn {φ κ₀ κ : Kp} {σ : List Addr} {s : Shared} {cl : List (Str × Addr)} {ca : List (Str × Nat)} {ds : List D} (X : Rel C φ κ₀ κ σ st s) (c : CR σ cl ca) (h : CellsD st ca ds) : CellsIn C (phiS C s) κ cl (ca.map (·.1)) ds := by
  refine byC fun hC1 => ?_
  obtain ⟨h1, h2, h3⟩ := h
  refine hC1 ?_
  have hlen : cl.length = ca.length := by have := congrArg List.length c.1; simpa using this
  have at_ : ∀ (j : Nat) (hj : j < cl.length), ∃ i, ca[j]? = some (cl[j].1, i) ∧ σ[i]? = some cl[j].2 := fun j hj => by
    have hj' : j < ca.length := by lia
    obtain ⟨c', e1, e2⟩ := c.2 j ca[j].1 ca[j].2 (List.getElem?_eq_getElem hj')
    rw [List.getElem?_eq_getElem hj] at e1
    have e1 := Option.some.inj e1
    exact ⟨ca[j].2, by rw [List.getElem?_eq_getElem hj', e1], by rw [e1]; exact e2⟩
  refine ⟨c.1, by simpa using h2, ?_, fun j x a d e1 e2 => ?_⟩
  · rw [List.nodup_iff_pairwise_ne, List.pairwise_iff_getElem]
    intro i j hi hj hij he
    simp only [List.getElem_map] at he
    have hi' : i < cl.length := by simpa using hi
    have hj' : j < cl.length := by simpa using hj
    refine byC fun hC2 => ?_
    obtain ⟨p, hp1, hp2⟩ := at_ i hi'
    obtain ⟨q, hq1, hq2⟩ := at_ j hj'
    rw [he] at hp2
    obtain ⟨b1, c1⟩ := List.getElem?_eq_some_iff.mp hp2
    obtain ⟨b2, c2⟩ := List.getElem?_eq_some_iff.mp hq2
    refine hC2 ?_
    have hpq : p = q := (List.getElem_inj X.nd).mp (c1.trans c2.symm)
    rw [List.nodup_iff_pairwise_ne, List.pairwise_iff_getElem] at h1
    refine h1 i j (by simp; lia) (by simp; lia) hij ?_
    refine byC fun hC3 => ?_
    obtain ⟨b3, c3⟩ := List.getElem?_eq_some_iff.mp hp1
    obtain ⟨b4, c4⟩ := List.getElem?_eq_some_iff.mp hq1
    refine hC3 ?_
    simp [c3, c4, hpq]
  · have hj : j < cl.length := by
      by_cases q : j < cl.length
      · exact q
      · exact nope (List.getElem?_eq_none (by lia)) e1
    refine byC fun hC4 => ?_
    obtain ⟨i, g1, g2⟩ := at_ j hj
    rw [List.getElem?_eq_getElem hj] at e1
    have e1 := Option.some.inj e1
    rw [e1] at g1 g2
    obtain ⟨a', o, ha', q1, q2, ho, v, hd, hr⟩ := X.get (h3 j x i d g1 e2) trivial
    refine hC4 ?_
    rw [g2] at ha'; cases ha'
    have hnt : a ∉ C.tabs := fun hm => (X.tabs a hm).2.2.2 (List.mem_of_getElem? g2)
    exact ⟨q1, hnt, o, (if_neg hnt).trans ho, v, hd, hr⟩
theorem wLam_fn {n : Nat} {f : Value} {as : List AV} {kn : Str} {params : Arguments} {body : Expr} {scope : Scope} {ca : List (Str × Nat)} {ds : List D} {post : D → Prop} (hA : AOk A n) (hc : CellsD st ca ds) (h1 : ∀ a ∈ as, a.flat)
    (F : ∀ φf κf kf, (∀ b ∈ C.tabs, φf b = none) → LamIn C φf κf kf params body scope (ca.map (·.1)) ds → FnOk C φf κf n f as [kn] [.glob (.ref kf)] post) (q : ∀ d, post d → Q (.d d) st) : wLamCall C A G st (.glob f) as kn params body scope ca Q := fun κ σ s vf vs kf X rf ra hl => by
  cases (rf : vf = _)
  refine byC fun hC1 => ?_
  obtain ⟨o, name, qual, cl, pm, cdv, ct, hk, hd, hcr, hcd⟩ := hl
  obtain ⟨c, w⟩ := F (phiS C s) κ kf (fun b hb => by simp [hb]) ⟨o, name, qual, cl, pm, cdv, ct, hk, hd, hcd, cellsIn X hcr hc⟩ A G.E κ s vs [.ref kf] hA X.base (Kle.refl _) (fun b o e => .inl e) (fun b o e => by
    unfold phiS at e
    split at e
    · cases e
    · exact e) (ra.flat h1) (RVL.cons (show RV κ [] (.glob (.ref kf)) (.ref kf) from rfl) RVL.nil)
  refine hC1 ?_
  exact ⟨c, wpAny_mono w (fun r s' ⟨κ', d, k, B, hn, hk, hr, hp⟩ => ⟨κ', σ, .d d, st, k, List.prefix_refl _, X.behind k B hn hk, hr, q d hp⟩) fun _ _ z => z⟩
end
end Mine
end
section
open PySem PySem.Calls PyProof.Rows PySem.W PySem.SeqAt PyProof.V
open PySem.Builtin PySem.Builtin.Str
namespace Mine
section
variable {C : Cx} {A : Around} {G : Gd} {ae : AEnv} {st : List AObj} {Q : AV → List AObj → Prop}
theorem list_extendW (l b : Addr) (items : Array Value) (n : Nat) (dd2 : Option Addr) (sl2 : Array (Option Value)) (items2 : Array Value) (n2 : Nat) (hc0 : ¬(!items.isEmpty && Builtin.List.listTooLong (items.size + items2.size)) = true) (hc1 : items.size ≤ sizeLine) (hs2 : items.size + items2.size ≤ sizeLine + 1) :
    Meets (Builtin.«list.extend» ⟨[.ref l, .ref b], []⟩) (fun _ R s => s.heap.get? l = some { cls := .type "list", dict := none, data := .seq items n, slots := #[] } ∧ s.heap.get? b = some { cls := .type "list", dict := dd2, data := .seq items2 n2, slots := sl2 } ∧ R (.ok (.ret Value.none)) { s with heap := s.heap.update l (Obj.mapSeq fun x => x ++ items2), toks := s.toks }) :=
  .of_wp fun prog w A R s h => by
    obtain ⟨hp, g, d, tk, os⟩ := s; obtain ⟨hl, hb, h⟩ := h; have f1 := AutoSeq1.idx_int; have f2 := AutoSeq1.sub_tuple_tuple; have f3 := AutoSeq1.sub_list_list; have f4 := AutoSeq1.sub_tuple_list; have f5 := AutoSeq1.sub_list_tuple
    have hz' : (items ++ items2).size ≤ sizeLine + 1 := by rw [Array.size_append]; exact hs2
    wp_walk using (wpAny_updateSeq hl rfl (hz := hc1) (_hz' := hz')), AutoSeq1.wpAny_loadPart' hl, AutoSeq1.wpAny_loadPart' hb; exact ⟨_, rfl, h⟩
theorem bi_extend {i : Nat} {b : AV} {l : List AV} {m : List D} (hi : st[i]? = some (.list l)) (hb : LstOf st b m) (hne : b ≠ .obj i) (hsz : l.length + m.length ≤ 100000) (q : Q (.d .none) (st.set i (.list (l ++ m.map .d)))) : wBi C A G st (.builtin "list.extend") [.obj i, b] Q := fun κ σ s vs X r => by
  refine byC fun hC1 => ?_
  obtain ⟨v, u, rfl, ⟨a, ha, rfl⟩, rb⟩ := r.two
  obtain ⟨y, ⟨cls2, dd2, data2, sl2⟩, ws, n2, rfl, ho2, hc2, hd2, hdat2, hr2⟩ := hb.get X rb
  refine hC1 ?_
  simp only at hc2 hd2 hdat2
  subst hc2 hd2 hdat2
  refine byC fun hC2 => ?_
  obtain ⟨a', o, ha', _, _, ho, us, n, rfl, hr⟩ := X.get hi trivial
  refine hC2 ?_
  rw [ha] at ha'; cases ha'
  have h1 : us.size = l.length := by have := hr.1; rw [Array.length_toList] at this; exact this
  have h2 : ws.size = m.length := by have := hr2.length; rw [Array.length_toList] at this; exact this
  have hs := sizeLine_eq
  refine call_meets PySem.F.slot_list_extend ⟨_, ho, rfl⟩ PySem.F.entry_list_extend (PySem.F.args_list_extend_2 _ _) (list_extendW a y us n _ sl2 ws n2 ?_ (by lia) (by lia)) ⟨ho, ho2, ?_⟩
  · have : Builtin.List.listTooLong (us.size + ws.size) = false := by
      unfold Builtin.List.listTooLong
      simp only [decide_eq_false_iff_not]; lia
    rw [this]; simp
  · refine byC fun hC3 => ?_
    obtain ⟨n', hd'⟩ := Obj.data_mapSeq (o := { cls := .type "list", data := .seq us n }) rfl (fun x => x ++ ws)
    refine hC3 ?_
    have hg := Heap.get?_update_self (Obj.mapSeq fun x => x ++ ws) ho (Obj.isFreed_of_seq hd')
    refine PA.none (X.upd (s' := { s with heap := s.heap.update a (Obj.mapSeq fun x => x ++ ws) }) (y := .list (l ++ m.map .d)) hi trivial ha (fun b o hb e => (Heap.get?_update_other _ _ (Ne.symm hb)).trans e) hg rfl rfl ⟨us ++ ws, _, rfl, ?_⟩ trivial) q
    rw [Array.toList_append]
    have : RVL κ σ (m.map .d) ws.toList := RVL.ofD hr2
    refine ⟨by simp [hr.1, this.1], fun j a e => ?_⟩
    by_cases q : j < l.length
    · rw [List.getElem?_append_left q] at e
      refine byC fun hC4 => ?_
      obtain ⟨v, h3, h4⟩ := hr.2 j a e
      refine hC4 ?_
      exact ⟨v, by rw [List.getElem?_append_left (by rw [hr.1]; exact q)]; exact h3, h4⟩
    · rw [List.getElem?_append_right (by lia)] at e
      refine byC fun hC5 => ?_
      obtain ⟨v, h3, h4⟩ := this.2 _ a e
      refine hC5 ?_
      exact ⟨v, by rw [List.getElem?_append_right (by rw [hr.1]; lia), hr.1]; exact h3, h4⟩
theorem bi_int {x : Str} {n : Int} (hn : PySem.intText? x = some n) (hl : x.length ≤ 640) (q : Q (.d (.int n)) st) : wBi C A G st (.type "int") [.d (.str x)] Q := fun κ σ s vs X r => by
  obtain ⟨v, rfl, t, rfl⟩ := r.one
  exact KIN.call_text hn hl (PA.int (X.toks _ s.drawn) q)
theorem bi_listRange {i : Nat} {a b : Int} (hh : A.in1.handled = none) (hi : st[i]? = some (.raw (RangeO a b))) (ha : -(2 ^ 20) ≤ a ∧ a ≤ 2 ^ 20) (hb : -(2 ^ 20) ≤ b ∧ b ≤ 2 ^ 20) (q : Q (.d (.list (upto a (b - a).toNat))) st) : wBi C A G st (.type "list") [.obj i] Q := fun κ σ s vs X r => by
  refine byC fun hC1 => ?_
  obtain ⟨v, rfl, x, hx, rfl⟩ := r.one
  obtain ⟨x', o, hx', hκ, hφ, ho, t, u, w, rfl⟩ := X.get hi trivial
  refine hC1 ?_
  rw [hx] at hx'; cases hx'
  have hR : IsRange s.heap x a b 1 t u w := ho
  have hs : Builtin.Range.rangeSize a b 1 = ((b - a).toNat : Int) := rangeSize_nat a b
  refine call_list_range (by simpa using hh) hR (small_one (by lia) (by lia) (by lia) (by lia)) hs (by lia) fun h' tk acc' c' hk hl hit => ?_
  refine byC fun hC2 => ?_
  obtain ⟨k1, X1⟩ := X.data (s' := { s with heap := h', toks := tk }) (fresh_none _) hk hl rfl rfl
  refine hC2 ?_
  refine ⟨_, σ, .d (.list (upto a (b - a).toNat)), st, k1, List.prefix_refl _, X1, ?_, q⟩
  simp only [RV, R]
  refine ⟨_, _, acc', c', rfl, if_pos rfl, rfl, rfl, rfl, ?_⟩
  have hsz : acc'.toList.length = (upto a (b - a).toNat).length := by rw [Array.length_toList, hit.1]; simp [upto]
  refine RL.of_get hsz fun j d e => ?_
  refine byC fun hC3 => ?_
  obtain ⟨rfl, hj⟩ := upto_get e
  have hj2 : j < acc'.size := by rw [hit.1]; exact hj
  obtain ⟨t, ht⟩ := hit.2 j acc'[j] (Array.getElem?_eq_getElem hj2)
  refine hC3 ?_
  exact ⟨_, by rw [Array.getElem?_toList, Array.getElem?_eq_getElem hj2, ht], t, by rw [Int.mul_one]⟩
end
end Mine
end
section
open PySem PySem.Calls PyProof.Rows PySem.W PySem.SeqAt PyProof.V
namespace Mine
theorem pickL_value (vs : List Value) (lo hi st : Option Int) : pickL vs lo hi st = (slicePick vs.toArray lo hi st).toList := by
  unfold pickL slicePick
  simp
theorem pickL_of_value {lo hi st : Option Int} (F : List Nat → List Nat) (h : ∀ vs : List Value, pickL vs lo hi st = (F (List.range vs.length)).filterMap (vs[·]?)) {α : Type} (l : List α) : pickL l lo hi st = (F (List.range l.length)).filterMap (l[·]?) := by
  have h1 := h ((List.range l.length).map fun (i : Nat) => Value.int i 0)
  have h2 : pickL (List.range l.length) lo hi st = (F (List.range l.length)).filterMap ((List.range l.length)[·]?) := by
    rw [pickL_map] at h1
    have inj : ∀ {a b : List Nat}, a.map (fun (i : Nat) => Value.int (i : Int) 0) = b.map (fun (i : Nat) => Value.int (i : Int) 0) → a = b := fun {a b} e => by
      have := congrArg (List.map fun v => match v with | Value.int i _ => i.toNat | _ => 0) e
      simpa [List.map_map, Function.comp_def] using this
    apply inj
    rw [h1]
    simp only [List.length_map, List.length_range]
    generalize F (List.range l.length) = idx
    induction idx with
    | nil => rfl
    | cons i r ih =>
      rw [List.filterMap_cons, List.filterMap_cons, List.getElem?_map]
      cases (List.range l.length)[i]? with
      | none => exact ih
      | some x => exact congrArg (Value.int (x : Int) 0 :: ·) ih
  match l, h2 with
  | [], _ =>
    have : ∀ idx : List Nat, idx.filterMap (([] : List α)[·]?) = [] := fun idx => by
      induction idx with
      | nil => rfl
      | cons i r ih => simp
    unfold pickL
    rw [this, this]
  | d :: l', h2 =>
    have e : (d :: l') = (List.range (d :: l').length).map fun i => ((d :: l')[i]?).getD d := by
      refine List.ext_getElem (by simp) fun i h1 h2 => ?_
      simp [List.getElem?_eq_getElem h1]
    have key : pickL (d :: l') lo hi st = (pickL (List.range (d :: l').length) lo hi st).map fun i => ((d :: l')[i]?).getD d := by rw [← pickL_map, ← e]
    rw [key, h2]
    generalize F (List.range (d :: l').length) = idx
    induction idx with
    | nil => rfl
    | cons i r ih =>
      rw [List.filterMap_cons, List.filterMap_cons]
      by_cases q : i < (d :: l').length
      · rw [List.getElem?_range q, List.getElem?_eq_getElem q]
        simp only [List.map_cons]
        rw [ih, List.getElem?_eq_getElem q]; rfl
      · rw [List.getElem?_eq_none (by simpa using q), List.getElem?_eq_none (by lia)]
        exact ih
theorem filterMap_range_all {α : Type} (l : List α) : (List.range l.length).filterMap (l[·]?) = l := by
  have : (List.range l.length).filterMap (l[·]?) = l := by
    induction l with
    | nil => rfl
    | cons x l ih =>
      rw [List.length_cons, List.range_succ_eq_map, List.filterMap_cons]
      simp only [List.getElem?_cons_zero, List.filterMap_map, Function.comp_def]
      rw [show (fun x_1 => (x :: l)[Nat.succ x_1]?) = (fun i => l[i]?) from funext fun i => by simp]
      rw [ih]
  exact this
theorem fm_congr {α β : Type} {f g : α → Option β} : ∀ {l : List α}, (∀ x ∈ l, f x = g x) → l.filterMap f = l.filterMap g
  | [], _ => rfl
  | x :: l, h => by
    rw [List.filterMap_cons, List.filterMap_cons, h x List.mem_cons_self, fm_congr fun y hy => h y (List.mem_cons_of_mem _ hy)]
theorem filterMap_take {α : Type} (l : List α) (b : Nat) : ((List.range l.length).take b).filterMap (l[·]?) = l.take b := by
  have e : (List.range l.length).take b = List.range (min b l.length) := by rw [List.take_range]
  rw [e]
  have : (List.range (min b l.length)).filterMap (l[·]?) = (List.range (l.take b).length).filterMap ((l.take b)[·]?) := by
    rw [List.length_take]
    refine fm_congr fun i hi => ?_
    have : i < b := by have := List.mem_range.mp hi; lia
    rw [List.getElem?_take_of_lt this]
  rw [this, filterMap_range_all]
theorem pickL_upto {α : Type} (l : List α) (b : Nat) : pickL l none (some (b : Int)) none = l.take b := by
  rw [pickL_of_value (F := fun r => r.take b) (fun vs => by rw [pickL_value, slicePick_upto', filterMap_take]) l, filterMap_take]
end Mine
end
section
open PySem PySem.StrLaws Builtin Builtin.Str
namespace Mine
theorem occ_filter (s sub : Str) (hi limit : Nat) (hno : ∀ i j, At s sub hi i → At s sub hi j → i < j → i + sub.length ≤ j) : ∀ (l : List Nat) (acc : Array Nat) (free : Nat), l.Pairwise (· < ·) → (∀ i ∈ l, At s sub hi i → free ≤ i) → acc.size + l.length ≤ limit →
    (forIn l (acc, free) (occBody s sub hi limit)).run.fst.toList = acc.toList ++ l.filter (fun i => decide (i + sub.length ≤ hi) && subAt s sub i)
  | [], acc, free, _, _, _ => by simp
  | a :: l, acc, free, hp, hf, hl => by
    rw [List.forIn_cons]
    unfold occBody
    obtain ⟨hp1, hp2⟩ := List.pairwise_cons.mp hp
    simp only [List.length_cons] at hl
    by_cases hc : At s sub hi a
    · have c1 : ((acc.size < limit ∧ free ≤ a) ∧ a + sub.length ≤ hi) ∧ subAt s sub a = true := ⟨⟨⟨by lia, hf a List.mem_cons_self hc⟩, hc.1⟩, hc.2⟩
      rw [if_pos c1]
      have ih := occ_filter s sub hi limit hno l (acc.push a) (a + sub.length) hp2 (fun i hm ha => hno a i hc ha (hp1 i hm)) (by simp; lia)
      rw [List.filter_cons, if_pos (by simp [hc.1, hc.2])]
      refine Eq.trans ih ?_
      simp
    · have c2 : ¬ (((acc.size < limit ∧ free ≤ a) ∧ a + sub.length ≤ hi) ∧ subAt s sub a = true) := fun h => hc ⟨h.1.2, h.2⟩
      rw [if_neg c2]
      have ih := occ_filter s sub hi limit hno l acc free hp2 (fun i hm ha => hf i (List.mem_cons_of_mem _ hm) ha) (by lia)
      rw [List.filter_cons, if_neg (by intro q; simp at q; exact hc q)]
      exact ih
theorem occ_all (s sub : Str) (lo hi limit : Nat) (hlo : ∀ i, At s sub hi i → True) (hno : ∀ i j, At s sub hi i → At s sub hi j → i < j → i + sub.length ≤ j) (hl : hi + 1 - lo ≤ limit) :
    occurrences s sub lo hi limit = (List.range' lo (hi + 1 - lo)).filter (fun i => decide (i + sub.length ≤ hi) && subAt s sub i) := by
  rw [occ_eq, occ_filter s sub hi limit hno _ _ _ List.pairwise_lt_range' (fun i hm _ => by rw [List.mem_range'] at hm; lia) (by simp; lia)]
  simp
theorem occ_one (s sub : Str) (lo hi k : Nat) (hk : At s sub hi k) (hlo : lo ≤ k) (hn : ∀ i, lo ≤ i → i < k → ¬ At s sub hi i) : ∃ r, occurrences s sub lo hi 1 = k :: r := by
  have hmem : k ∈ List.range' lo (hi + 1 - lo) := by rw [List.mem_range'_1]; have := hk.1; lia
  rw [occ_eq]
  rcases occ_first s sub hi 1 (Nat.le_refl _) (List.range' lo (hi + 1 - lo)) lo (fun i hm => by rw [List.mem_range'_1] at hm; exact hm.1) with ⟨_, h⟩ | ⟨pre, a, post, e, h0, ha, hpre⟩
  · exact absurd hk (h k hmem)
  · have hak : a = k := by
      have hpw : (List.range' lo (hi + 1 - lo)).Pairwise (· < ·) := List.pairwise_lt_range'
      rw [e] at hmem hpw
      have ham : a ∈ List.range' lo (hi + 1 - lo) := by rw [e]; simp
      rw [List.mem_range'_1] at ham
      rcases Nat.lt_trichotomy a k with q | q | q
      · exact absurd ha (hn a ham.1 q)
      · exact q
      · rcases List.mem_append.mp hmem with m | m
        · exact absurd hk (hpre k m)
        · rcases List.mem_cons.mp m with m | m
          · exact m.symm
          · have := (List.pairwise_cons.mp (List.pairwise_append.mp hpw).2.1).1 k m
            lia
    subst hak
    generalize (forIn (List.range' lo (hi + 1 - lo)) ((#[] : Array Nat), lo) (occBody s sub hi 1)).run.fst = r at h0 ⊢
    obtain ⟨l⟩ := r
    cases l with
    | nil => simp at h0
    | cons b t => simp at h0; subst h0; exact ⟨t, rfl⟩
theorem occ_no (s sub : Str) (lo hi : Nat) (hn : ∀ i, lo ≤ i → ¬ At s sub hi i) : occurrences s sub lo hi 1 = [] := by
  rw [occ_eq]
  have := (occ_none s sub hi (List.range' lo (hi + 1 - lo)) lo (fun i hm => by rw [List.mem_range'_1] at hm; exact hm.1)).mpr fun i hm q => hn i (by rw [List.mem_range'_1] at hm; exact hm.1) q
  rw [this]
theorem extract_toList (a : Array Nat) (i j : Nat) : (a.extract i j).toList = (a.toList.drop i).take (j - i) := by simp
theorem subAt_iff (l m : List Nat) (i : Nat) : subAt ⟨l.toArray⟩ ⟨m.toArray⟩ i = true ↔ (l.drop i).take m.length = m := by
  unfold subAt
  rw [beq_iff_eq]
  constructor
  · intro h
    have := congrArg Array.toList h
    rw [extract_toList] at this
    simpa [Str.length] using this
  · intro h
    apply Array.toList_inj.mp
    rw [extract_toList]
    simpa [Str.length] using h
theorem at_iff (l m : List Nat) (i : Nat) : At ⟨l.toArray⟩ ⟨m.toArray⟩ l.length i ↔ i + m.length ≤ l.length ∧ (l.drop i).take m.length = m := by
  unfold At
  rw [subAt_iff]; rfl
theorem at_head {l : List Nat} {c : Nat} {m : List Nat} {i : Nat} (h : At ⟨l.toArray⟩ ⟨(c :: m).toArray⟩ l.length i) : l[i]? = some c := by
  rw [at_iff] at h
  have := congrArg (·[0]?) h.2
  simpa using this
theorem at_one {l : List Nat} {c i : Nat} : At ⟨l.toArray⟩ ⟨#[c]⟩ l.length i ↔ l[i]? = some c := by
  constructor
  · exact fun h => at_head (m := []) h
  · intro h
    refine (at_iff l [c] i).mpr ?_
    refine byC fun hC1 => ?_
    obtain ⟨h1, h2⟩ := List.getElem?_eq_some_iff.mp h
    refine hC1 ?_
    refine ⟨by simp; lia, ?_⟩
    rw [show [c].length = 1 from rfl, List.drop_eq_getElem_cons h1, h2]; rfl
noncomputable def joinL (m : List Nat) : List (List Nat) → List Nat
  | [] => []
  | [w] => w
  | w :: r => w ++ m ++ joinL m r
noncomputable def cutsOf (n : Nat) : List (List Nat) → Nat → List Nat
  | [], _ => []
  | [_], _ => []
  | w :: r, o => (o + w.length) :: cutsOf n r (o + w.length + n)
theorem joinL_cons (m w w2 : List Nat) (r : List (List Nat)) : joinL m (w :: w2 :: r) = w ++ m ++ joinL m (w2 :: r) := rfl
theorem cutsOf_cons (n : Nat) (w w2 : List Nat) (r : List (List Nat)) (o : Nat) : cutsOf n (w :: w2 :: r) o = (o + w.length) :: cutsOf n (w2 :: r) (o + w.length + n) := rfl
section
variable {c : Nat} {m : List Nat}
theorem filter_cuts (hm : c ∉ m) : ∀ (ws : List (List Nat)) (pre : List Nat), ws ≠ [] → (∀ w ∈ ws, c ∉ w) →
    (List.range' pre.length ((joinL (c :: m) ws).length + 1)).filter (fun i => decide (((pre ++ joinL (c :: m) ws).drop i).take (m.length + 1) = c :: m)) = cutsOf (m.length + 1) ws pre.length
  | [], _, h, _ => absurd rfl h
  | [w], pre, _, hw => by
    show _ = []
    rw [List.filter_eq_nil_iff]
    intro i hi q
    rw [List.mem_range'_1] at hi
    have q := of_decide_eq_true q
    have h0 := congrArg (·[0]?) q
    simp only [List.getElem?_cons_zero] at h0
    rw [List.getElem?_take_of_lt (by lia), List.getElem?_drop, Nat.add_zero, List.getElem?_append_right hi.1] at h0
    exact hw w List.mem_cons_self (List.mem_of_getElem? h0)
  | w :: w2 :: r, pre, _, hw => by
    rw [cutsOf_cons, joinL_cons]
    have ih := filter_cuts hm (w2 :: r) (pre ++ w ++ (c :: m)) (by simp) (fun x hx => hw x (List.mem_cons_of_mem _ hx))
    generalize joinL (c :: m) (w2 :: r) = l2 at ih ⊢
    have e1 : pre ++ (w ++ (c :: m) ++ l2) = pre ++ w ++ (c :: m) ++ l2 := by simp
    rw [e1]
    have e2 : (w ++ (c :: m) ++ l2).length + 1 = w.length + (1 + (m.length + (l2.length + 1))) := by simp; lia
    rw [e2, ← List.range'_append_1, List.filter_append, ← List.range'_append_1, List.filter_append, ← List.range'_append_1, List.filter_append]
    have no : ∀ i x, (pre ++ w ++ (c :: m) ++ l2)[i]? = some x → x ≠ c → (decide (((pre ++ w ++ (c :: m) ++ l2).drop i).take (m.length + 1) = c :: m)) = false := fun i x hx hne => by
      refine decide_eq_false fun q => ?_
      have h0 := congrArg (·[0]?) q
      simp only [List.getElem?_cons_zero] at h0
      rw [List.getElem?_take_of_lt (by lia), List.getElem?_drop, Nat.add_zero, hx] at h0
      exact hne (Option.some.inj h0)
    have p1 : (List.range' pre.length w.length).filter (fun i => decide (((pre ++ w ++ (c :: m) ++ l2).drop i).take (m.length + 1) = c :: m)) = [] := by
      rw [List.filter_eq_nil_iff]
      intro i hi q
      rw [List.mem_range'_1] at hi
      have hx : (pre ++ w ++ (c :: m) ++ l2)[i]? = some (w[i - pre.length]'(by lia)) := by
        rw [List.append_assoc, List.append_assoc, List.getElem?_append_right hi.1, List.getElem?_append_left (by lia), List.getElem?_eq_getElem]
      rw [no i _ hx (fun q => hw w List.mem_cons_self (q ▸ List.getElem_mem _))] at q
      cases q
    have p2 : (List.range' (pre.length + w.length) 1).filter (fun i => decide (((pre ++ w ++ (c :: m) ++ l2).drop i).take (m.length + 1) = c :: m)) = [pre.length + w.length] := by
      show List.filter _ [pre.length + w.length] = _
      rw [List.filter_cons, if_pos]
      · rfl
      · refine decide_eq_true ?_
        rw [show pre ++ w ++ (c :: m) ++ l2 = (pre ++ w) ++ ((c :: m) ++ l2) by simp, List.drop_append_of_le_length (by simp), List.drop_eq_nil_of_le (by simp), List.nil_append, List.take_append_of_le_length (by simp)]
        exact List.take_of_length_le (by simp)
    have p3 : (List.range' (pre.length + w.length + 1) m.length).filter (fun i => decide (((pre ++ w ++ (c :: m) ++ l2).drop i).take (m.length + 1) = c :: m)) = [] := by
      rw [List.filter_eq_nil_iff]
      intro i hi q
      rw [List.mem_range'_1] at hi
      have hx : (pre ++ w ++ (c :: m) ++ l2)[i]? = some (m[i - pre.length - w.length - 1]'(by lia)) := by
        rw [show pre ++ w ++ (c :: m) ++ l2 = (pre ++ w ++ [c]) ++ (m ++ l2) by simp, List.getElem?_append_right (by simp; lia), List.getElem?_append_left (by simp; lia), List.getElem?_eq_getElem (by simp; lia)]
        congr 1
        simp; congr 1; lia
      rw [no i _ hx (fun q => hm (q ▸ List.getElem_mem _))] at q
      cases q
    rw [p1, p2, p3]
    have e3 : (pre ++ w ++ (c :: m)).length = pre.length + w.length + 1 + m.length := by simp; lia
    rw [e3] at ih
    rw [show pre.length + w.length + (m.length + 1) = pre.length + w.length + 1 + m.length by lia, ← ih]
    simp
end
end Mine
end
section
open PySem PySem.StrLaws Builtin Builtin.Str
namespace Mine
theorem strSub_toList (l : List Nat) (i j : Nat) : strSub ⟨l.toArray⟩ i j = ⟨((l.drop i).take (j - i)).toArray⟩ := by
  unfold strSub
  congr 1
  apply Array.toList_inj.mp
  rw [extract_toList]
theorem cut_mid (pre w post : List Nat) : ((pre ++ w ++ post).drop pre.length).take (pre.length + w.length - pre.length) = w := by
  rw [List.append_assoc, List.drop_append_of_le_length (Nat.le_refl _), List.drop_eq_nil_of_le (Nat.le_refl _), List.nil_append, show pre.length + w.length - pre.length = w.length by lia, List.take_append_of_le_length (Nat.le_refl _)]
  exact List.take_of_length_le (Nat.le_refl _)
theorem parts_cuts (sep : List Nat) : ∀ (ws : List (List Nat)) (pre : List Nat), ws ≠ [] →
    ((pre.length :: (cutsOf sep.length ws pre.length).map (· + sep.length)).zip (cutsOf sep.length ws pre.length ++ [(pre ++ joinL sep ws).length])).map (fun p => strSub ⟨(pre ++ joinL sep ws).toArray⟩ p.1 p.2) = ws.map fun w => ⟨w.toArray⟩
  | [], _, h => absurd rfl h
  | [w], pre, _ => by
    show [strSub ⟨(pre ++ w).toArray⟩ pre.length (pre ++ w).length] = [⟨w.toArray⟩]
    rw [strSub_toList, List.length_append]
    have := cut_mid pre w []
    simp only [List.append_nil] at this
    rw [this]
  | w :: w2 :: r, pre, _ => by
    have ih := parts_cuts sep (w2 :: r) (pre ++ w ++ sep) (by simp)
    rw [cutsOf_cons, joinL_cons]
    have e1 : pre ++ (w ++ sep ++ joinL sep (w2 :: r)) = pre ++ w ++ sep ++ joinL sep (w2 :: r) := by simp
    have e2 : (pre ++ w ++ sep).length = pre.length + w.length + sep.length := by simp; lia
    rw [e1]
    rw [e2] at ih
    rw [List.map_cons, List.cons_append, List.zip_cons_cons, List.map_cons, ih, List.map_cons]
    congr 1
    rw [strSub_toList, List.append_assoc, cut_mid]
theorem Str.eta (x : Str) : (⟨x.cps.toList.toArray⟩ : Str) = x := by cases x; simp
section
variable {c : Nat} {m : List Nat}
theorem occ_join (hm : c ∉ m) {ws : List (List Nat)} (hne : ws ≠ []) (hw : ∀ w ∈ ws, c ∉ w) :
    occurrences ⟨(joinL (c :: m) ws).toArray⟩ ⟨(c :: m).toArray⟩ 0 (joinL (c :: m) ws).length ((joinL (c :: m) ws).length + 1) = cutsOf (m.length + 1) ws 0 := by
  have hno : ∀ i j, At ⟨(joinL (c :: m) ws).toArray⟩ ⟨(c :: m).toArray⟩ (joinL (c :: m) ws).length i → At ⟨(joinL (c :: m) ws).toArray⟩ ⟨(c :: m).toArray⟩ (joinL (c :: m) ws).length j → i < j → i + (⟨(c :: m).toArray⟩ : Str).length ≤ j := by
    intro i j hi hj hij
    have hl : (⟨(c :: m).toArray⟩ : Str).length = m.length + 1 := rfl
    rcases Nat.lt_or_ge j (i + (m.length + 1)) with q | q
    · exfalso
      have h1 := at_head hj
      have h2 := ((at_iff _ _ _).mp hi).2
      have h3 := congrArg (·[j - i]?) h2
      simp only [List.length_cons] at h3
      rw [List.getElem?_take_of_lt (by lia), List.getElem?_drop, show i + (j - i) = j by lia, h1] at h3
      obtain ⟨k, hk⟩ : ∃ k, j - i = k + 1 := ⟨j - i - 1, by lia⟩
      rw [hk, List.getElem?_cons_succ] at h3
      exact hm (List.mem_of_getElem? h3.symm)
    · lia
  rw [occ_all _ _ _ _ _ (fun _ _ => trivial) hno (by lia)]
  have := filter_cuts hm ws [] hne hw
  simp only [List.nil_append, List.length_nil] at this
  rw [← this, Nat.sub_zero]
  congr 1
  funext i
  have hl : (⟨(c :: m).toArray⟩ : Str).length = m.length + 1 := rfl
  rw [hl]
  apply Bool.eq_iff_iff.mpr
  rw [Bool.and_eq_true, decide_eq_true_iff, decide_eq_true_iff, subAt_iff]
  constructor
  · exact fun h => h.2
  · intro h
    refine ⟨?_, h⟩
    have := congrArg List.length h
    simp at this
    lia
theorem strKind_pos (x : Str) : 1 ≤ PySem.Builtin.Str.strKind x := by unfold PySem.Builtin.Str.strKind; split <;> (try split) <;> lia
theorem split_join (hm : c ∉ m) {ws : List (List Nat)} (hne : ws ≠ []) (hw : ∀ w ∈ ws, c ∉ w) (hs : ∀ x ∈ c :: m, x < 256) :
    Txt.split ⟨(joinL (c :: m) ws).toArray⟩ ⟨(c :: m).toArray⟩ = ws.map fun w => ⟨w.toArray⟩ := by
  have hk : PySem.Builtin.Str.strKind ⟨(c :: m).toArray⟩ = 1 := by
    unfold PySem.Builtin.Str.strKind
    rw [if_pos]
    rw [Array.all_eq_true']
    intro x hx
    exact decide_eq_true (hs x (by simpa using hx))
  have hkx := strKind_pos ⟨(joinL (c :: m) ws).toArray⟩
  have hl : (⟨(joinL (c :: m) ws).toArray⟩ : Str).length = (joinL (c :: m) ws).length := rfl
  have ho := occ_join hm hne hw
  have hp := parts_cuts (c :: m) ws [] hne
  simp only [List.nil_append, List.length_nil, List.length_cons] at hp
  unfold Txt.split
  rw [hl, ho]
  match ws, hne with
  | [w], _ =>
    show (if _ then [(⟨w.toArray⟩ : Str)] else if _ then [⟨w.toArray⟩] else _) = [⟨w.toArray⟩]
    split
    · rfl
    · exact if_pos rfl
  | w :: w2 :: r, _ =>
    rw [if_neg, if_neg]
    · exact hp
    · rw [cutsOf_cons]; simp
    · rw [hk]
      intro q
      rw [Bool.or_eq_true, decide_eq_true_iff, decide_eq_true_iff] at q
      rcases q with q | q
      · have : (⟨(c :: m).toArray⟩ : Str).length = m.length + 1 := rfl
        rw [joinL_cons] at q
        simp at q
        lia
      · lia
end
theorem find_at {pre post : List Nat} {c : Nat} (h : c ∉ pre) : Txt.find ⟨(pre ++ c :: post).toArray⟩ ⟨#[c]⟩ = (pre.length : Int) := by
  obtain ⟨r, hr⟩ := occ_one ⟨(pre ++ c :: post).toArray⟩ ⟨#[c]⟩ 0 (pre ++ c :: post).length pre.length (at_one.mpr (by simp)) (Nat.zero_le _) (fun i _ hi ha => by
    have := at_one.mp ha
    rw [List.getElem?_append_left hi] at this
    exact h (List.mem_of_getElem? this))
  unfold Txt.find
  rw [show (⟨(pre ++ c :: post).toArray⟩ : Str).length = (pre ++ c :: post).length from rfl, hr]
theorem find3_at {pre mid post : List Nat} {c : Nat} (h : c ∉ mid) : Txt.find3 ⟨(pre ++ mid ++ c :: post).toArray⟩ ⟨#[c]⟩ (pre.length : Int) = ((pre.length + mid.length : Nat) : Int) := by
  have hf : fromIndex (⟨(pre ++ mid ++ c :: post).toArray⟩ : Str).length (pre.length : Int) = pre.length := by
    unfold fromIndex; rw [if_neg (by lia)]; lia
  obtain ⟨r, hr⟩ := occ_one ⟨(pre ++ mid ++ c :: post).toArray⟩ ⟨#[c]⟩ pre.length (pre ++ mid ++ c :: post).length (pre.length + mid.length) (at_one.mpr (by rw [List.getElem?_append_right (by simp)]; simp)) (by lia) (fun i h1 hi ha => by
    have := at_one.mp ha
    rw [List.append_assoc, List.getElem?_append_right h1, List.getElem?_append_left (by lia)] at this
    exact h (List.mem_of_getElem? this))
  unfold Txt.find3
  rw [hf, show (⟨(pre ++ mid ++ c :: post).toArray⟩ : Str).length = (pre ++ mid ++ c :: post).length from rfl, hr]
theorem find3_no {pre post : List Nat} {c : Nat} (h : c ∉ post) : Txt.find3 ⟨(pre ++ post).toArray⟩ ⟨#[c]⟩ (pre.length : Int) = -1 := by
  have hf : fromIndex (⟨(pre ++ post).toArray⟩ : Str).length (pre.length : Int) = pre.length := by
    unfold fromIndex; rw [if_neg (by lia)]; lia
  unfold Txt.find3
  rw [hf, show (⟨(pre ++ post).toArray⟩ : Str).length = (pre ++ post).length from rfl, occ_no ⟨(pre ++ post).toArray⟩ ⟨#[c]⟩ pre.length (pre ++ post).length (fun i h1 ha => by
    have := at_one.mp ha
    rw [List.getElem?_append_right h1] at this
    exact h (List.mem_of_getElem? this))]
end Mine
end
local macro_rules | `(tactic| ktr_unf) => `(tactic| (repeat' (first | exact Mine.SubL.nil | refine Mine.SubL.cons ?_ ?_ | refine Mine.ObjLeS.ns ?_ | refine Mine.ObjLeS.list ?_ | refine Mine.ObjLeS.cell ?_ | exact Mine.ObjLeS.raw | exact Mine.ObjLeS.frz | exact Mine.VarsLe.nil | refine Mine.VarsLe.some ?_ ?_ | refine Mine.VarsLe.none ?_ | exact Mine.below_d | exact Mine.below_glob | exact Mine.below_obj rfl | exact Mine.below_ds | exact Mine.below_cell0 | refine Mine.below_cellS ?_ | exact Mine.BelowL.nil | refine Mine.BelowL.ns ?_ ?_ | refine Mine.BelowL.cell ?_ ?_ | refine Mine.BelowL.list ?_ ?_ | refine Mine.BelowL.raw ?_ | refine Mine.BelowL.frz ?_ | exact Mine.VarsBelow.nil | refine Mine.VarsBelow.some ?_ ?_ | refine Mine.VarsBelow.none ?_)))
section
open PySem PySem.Calls PyProof.Rows PySem.W PySem.SeqAt PyProof.V
set_option maxRecDepth 100000
namespace Mine
noncomputable abbrev hexS (i : Int) : Str := PySem.baseText "0x" 16 i
noncomputable def flagNames : List (PyData × PyData) := [(.int 1, .str "OPTIMIZED"), (.int 2, .str "NEWLOCALS"), (.int 4, .str "VARARGS"), (.int 8, .str "VARKEYWORDS"), (.int 16, .str "NESTED"), (.int 32, .str "GENERATOR"), (.int 64, .str "NOFREE"), (.int 128, .str "COROUTINE"), (.int 256, .str "ITERABLE_COROUTINE"), (.int 512, .str "ASYNC_GENERATOR")]
noncomputable def wordD (i : Nat) : D := (PySem.Spec.lookup (.int (1 * 2 ^ i)) flagNames).getD (.str (hexS (1 * 2 ^ i)))
noncomputable def wordOf (i : Nat) : Str := match wordD i with | .str x => x | _ => ""
noncomputable def pfLoop : Nat → Nat → Int → List Str → List Str
  | 0, _, x, ns => ns ++ [hexS x]
  | n + 1, i, x, ns => if Builtin.bitAnd x (1 * 2 ^ i) != 0 then (if Builtin.bitXor x (1 * 2 ^ i) != 0 then pfLoop n (i + 1) (Builtin.bitXor x (1 * 2 ^ i)) (ns ++ [wordOf i]) else ns ++ [wordOf i]) else pfLoop n (i + 1) x ns
noncomputable def pfWords (x : Int) : List Str := pfLoop 32 0 x []
theorem wordD_eq : ∀ i, i < 32 → wordD i = .str (wordOf i) ∧ (wordOf i).length ≤ 20 ∧ (hexS (1 * 2 ^ i)).length ≤ 20 := by
  intro i hi
  have : ∀ i : Fin 32, (match wordD i with | .str _ => true | _ => false) = true ∧ (wordOf i).length ≤ 20 ∧ (hexS (1 * 2 ^ (i : Nat))).length ≤ 20 := by decide +kernel
  have h := this ⟨i, hi⟩
  refine ⟨?_, h.2.1, h.2.2⟩
  have h1 := h.1
  unfold wordOf
  cases q : wordD i with
  | str x => rfl
  | _ => simp only [q] at h1; cases h1
section
variable {C : Cx} {A : Around} {G : Gd}
theorem len_map {α β : Type} (f : α → β) (l : List α) : (l.map f).length = l.length := List.length_map ..
theorem sum_room : ∀ (ns : List Str) (n m : Nat), ns.length ≤ n → (∀ w ∈ ns, w.length ≤ m) → (ns.map (·.length)).sum ≤ n * m
  | [], n, m, _, _ => by simp
  | x :: r, n, m, h, hw => by
    cases n with
    | zero => simp at h
    | succ n =>
      have := sum_room r n m (by simpa using h) fun w hm => hw w (List.mem_cons_of_mem _ hm)
      have h1 := hw x List.mem_cons_self
      simp only [List.map_cons, List.sum_cons, Nat.succ_mul]
      lia
theorem join_room (ns : List Str) (n m : Nat) (h : ns.length ≤ n) (hw : ∀ w ∈ ns, w.length ≤ m) (hb : n * m + n * 2 ≤ 16777216) : (ns.map (·.length)).sum + ns.length * (Str.ofString ", ").length ≤ 16777216 := by
  have h1 := sum_room ns n m h hw
  have h2 : (Str.ofString ", ").length = 2 := by decide +kernel
  rw [h2]
  have : ns.length * 2 ≤ n * 2 := Nat.mul_le_mul_right 2 h
  lia
set_option maxHeartbeats 4000000 in
theorem pretty_body (cd : Value) (ql : Str) (hA : AOk A 3) (g1 : GlobIs C "range" (.type "range")) (dv : Value) (g2 : GlobIs C "COMPILER_FLAG_NAMES" dv) (hd : IntDict C dv flagNames) (g3 : GlobIs C "hex" (.builtin "hex")) (x : Int)
    (hx : ∀ (y : Int) (ns : List Str), (ns ++ [hexS y] = pfWords x → (hexS y).length ≤ 1000000)) (post : D → Prop) (hp : post (.str (Txt.join ", " (pfWords x)))) :
    wSs C A G ⟨scopeOf PySem.Challenge.pw_wb0027_02 5, 0, [], cd, ql⟩ [.ns ((scopeOf PySem.Challenge.pw_wb0027_02 5).names.map (·.1)) [some (.d (.int x)), none, none, none, none, none, none]] (bodyOf PySem.Challenge.pw_wb0027_02 5) (retP post) := by
  refine wSs_cons (wS_assign (fun _ => rfl) (wE_list (wArgs_nil ⟨by decide, ?_⟩)))
  refine st_local 1 rfl rfl rfl ?_
  refine wSs_cons ?_
  refine wS_forI 3 (upto 0 32) (fun k st => k ≤ 32 ∧ ∃ (y : Int) (ns : List Str), st = [.ns ((scopeOf PySem.Challenge.pw_wb0027_02 5).names.map (·.1)) [some (.d (.int y)), some (.obj 1), none, none, none, none, none], .list ((ns.map PyData.str).map .d), .raw (RangeO 0 32)]
      ∧ pfLoop (32 - k) k y ns = pfWords x ∧ ns.length ≤ k ∧ ∀ w ∈ ns, w.length ≤ 20) (fun _ _ => rfl) ?_ ?_ ?_ ?_
  · rintro k st1 ⟨hk, y, ns, rfl, _, _, _⟩
    rfl
  · -- the range
    refine wEI_of (wE_call0 (fun _ => rfl) (wE_glob 4 g1 rfl (wArgs_cons (fun _ => rfl) (wE_int (wArgs_nil (wCall_ty (bi_range1 ?_)))))))
    exact itr_range (i := 2) hA.handled rfl (by decide) (by decide) ⟨rfl, by decide, x, [], rfl, rfl, Nat.le_refl _, fun _ h => nomatch h⟩
  · -- a turn
    rintro φ' E' k z st1 hz ⟨hk, y, ns, rfl, hy, hn, hw⟩
    obtain ⟨rfl, hk32⟩ := upto_get hz
    rw [Int.zero_add]
    refine wTgt_name (st_local 2 rfl rfl rfl ?_)
    refine wSs_cons (wS_assign (fun _ => rfl) (wE_bin (wE_int (wE_local 2 rfl rfl rfl rfl ?_))))
    refine shl_ii (by lia) (by lia) (by lia) ?_
    refine st_local 3 rfl rfl rfl ?_
    rw [Int.toNat_natCast]
    refine wSs_cons (wS_if ?_)
    refine wB_val (fun _ _ => rfl) (wE_bin (wE_local 0 rfl rfl rfl rfl (wE_local 3 rfl rfl rfl rfl (and_ii (tr_i ?_)))))
    have hstep : pfLoop (32 - k) k y ns = (if Builtin.bitAnd y (1 * 2 ^ k) != 0 then (if Builtin.bitXor y (1 * 2 ^ k) != 0 then pfLoop (32 - (k + 1)) (k + 1) (Builtin.bitXor y (1 * 2 ^ k)) (ns ++ [wordOf k]) else ns ++ [wordOf k]) else pfLoop (32 - (k + 1)) (k + 1) y ns) := by
      rw [show 32 - k = (32 - (k + 1)) + 1 by lia]; rfl
    rw [hstep] at hy
    obtain ⟨hw1, hw2, hw3⟩ := wordD_eq k hk32
    cases hb : (Builtin.bitAnd y (1 * 2 ^ k) != 0) with
    | false =>
      rw [hb] at hy
      exact wSs_nil (wSs_nil ⟨[.ns ((scopeOf PySem.Challenge.pw_wb0027_02 5).names.map (·.1)) [some (.d (.int y)), some (.obj 1), none, none, none, none, none], .list ((ns.map PyData.str).map .d), .raw (RangeO 0 32)], Sub.of rfl (by ktr_unf), by lia, y, ns, rfl, hy, by lia, hw⟩)
    | true =>
      rw [hb] at hy
      simp only [if_true] at hy
      refine wSs_cons (wS_expr (fun _ => rfl) ?_)
      refine wE_meth (fun _ => rfl) (fun _ => rfl) rfl F.plainAttrs_list slot_list_append type_list_append ?_
      refine wE_local 1 rfl rfl rfl rfl ⟨hasTy_list (l := (ns.map PyData.str).map .d) rfl, ?_⟩
      refine wArgs_cons (fun _ => rfl) ?_
      refine wE_meth (fun _ => rfl) (fun _ => rfl) rfl F.plainAttrs_dict F.slot_dict_get F.type_dict_get ?_
      refine wE_glob 5 g2 rfl ⟨hasTy_dict hd, ?_⟩
      refine wArgs_cons (fun _ => rfl) (wE_local 3 rfl rfl rfl rfl ?_)
      refine wArgs_cons (fun _ => rfl) (wE_call0 (fun _ => rfl) (wE_glob 6 g3 rfl (wArgs_cons (fun _ => rfl) (wE_local 3 rfl rfl rfl rfl (wArgs_nil (wCall_bi (bi_hex ?_ ?_))))))) 
      · exact Nat.le_trans hw3 (by rw [sizeLine_eq]; lia)
      refine wArgs_nil ?_
      refine bi_dictGet hd trivial ?_ ?_
      · show flatD (wordD k); rw [hw1]; trivial
      show wArgs _ _ _ _ _ _ _ _
      refine wArgs_nil ?_
      refine bi_append (i := 1) (l := (ns.map PyData.str).map .d) rfl (by rw [len_map, len_map, sizeLine_eq]; lia) ?_
      show wSs _ _ _ _ _ _ _
      refine wSs_cons (wS_aug 0 rfl rfl rfl rfl (wE_local 3 rfl rfl rfl rfl (ixor_ii (st_local 0 rfl rfl rfl ?_))))
      show wSs _ _ _ _ _ _ _
      refine wSs_cons (wS_if (wB_not (wB_val (fun _ _ => rfl) (wE_local 0 rfl rfl rfl rfl (tr_i ?_)))))
      have hap : (ns.map PyData.str).map AV.d ++ [.d ((PySem.Spec.lookup (.int (1 * 2 ^ k)) flagNames).getD (.str (hexS (1 * 2 ^ k))))] = (((ns ++ [wordOf k]).map PyData.str).map AV.d) := by
        have : (PySem.Spec.lookup (.int (1 * 2 ^ k)) flagNames).getD (.str (hexS (1 * 2 ^ k))) = .str (wordOf k) := hw1
        rw [this]; simp
      have hw' : ∀ w ∈ ns ++ [wordOf k], w.length ≤ 20 := fun w h => by
        rcases List.mem_append.mp h with h | h
        · exact hw w h
        · simp at h; subst h; exact hw2
      rw [hap]
      cases hb2 : (Builtin.bitXor y (1 * 2 ^ k) != 0) with
      | true =>
        rw [hb2] at hy
        exact wSs_nil (wSs_nil (wSs_nil ⟨[.ns ((scopeOf PySem.Challenge.pw_wb0027_02 5).names.map (·.1)) [some (.d (.int (Builtin.bitXor y (1 * 2 ^ k)))), some (.obj 1), none, none, none, none, none], .list (((ns ++ [wordOf k]).map PyData.str).map .d), .raw (RangeO 0 32)], Sub.of rfl (by ktr_unf), by lia, _, ns ++ [wordOf k], rfl, hy, by simp; lia, hw'⟩))
      | false =>
        rw [hb2] at hy
        refine wSs_cons (wS_brk ⟨[.ns ((scopeOf PySem.Challenge.pw_wb0027_02 5).names.map (·.1)) [none, some (.obj 1), none, none, none, none, none], .list (((ns ++ [wordOf k]).map PyData.str).map .d), .raw (RangeO 0 32)], Sub.of rfl (by ktr_unf), ?_⟩)
        show wSs _ _ _ _ _ _ _
        refine wSs_cons ?_
        refine wS_ret ?_
        refine wE_m1 F.plainAttrs_str F.slot_str_join F.type_str_join ?_ ?_ ?_ ?_
        · exact fun _ _ => rfl
        · exact fun _ => rfl
        · rfl
        refine wE_str ?_
        refine ⟨hasTy_str, ?_⟩
        refine wE_local 1 rfl rfl rfl rfl ?_
        refine bi_join (ys := ns ++ [wordOf k]) (.inl rfl) ?_ ?_
        · exact join_room _ 33 20 (by simp; lia) hw' (by decide)
        · show post _
          rw [show ns ++ [wordOf k] = pfWords x from hy]; exact hp
  · rintro E' st1 ⟨hk, y, ns, rfl, hy, hn, hw⟩
    have hy' : ns ++ [hexS y] = pfWords x := hy
    have hx' := hx y ns hy'
    refine wSs_cons (wS_expr (fun _ => rfl) ?_)
    refine wE_meth (fun _ => rfl) (fun _ => rfl) rfl F.plainAttrs_list slot_list_append type_list_append ?_
    refine wE_local 1 rfl rfl rfl rfl ⟨hasTy_list (l := (ns.map PyData.str).map .d) rfl, ?_⟩
    refine wArgs_cons (fun _ => rfl) (wE_call0 (fun _ => rfl) (wE_glob 6 g3 rfl (wArgs_cons (fun _ => rfl) (wE_local 0 rfl rfl rfl rfl (wArgs_nil (wCall_bi (bi_hex ?_ (wArgs_nil ?_))))))))
    · exact Nat.le_trans hx' (by rw [sizeLine_eq]; lia)
    refine bi_append (i := 1) (l := (ns.map PyData.str).map .d) rfl (by rw [len_map, len_map, sizeLine_eq]; lia) (wSs_nil ?_)
    show wSs _ _ _ _ _ _ _
    refine wSs_cons ?_
    refine wS_ret ?_
    refine wE_m1 F.plainAttrs_str F.slot_str_join F.type_str_join ?_ ?_ ?_ ?_
    · exact fun _ _ => rfl
    · exact fun _ => rfl
    · rfl
    refine wE_str ?_
    refine ⟨hasTy_str, ?_⟩
    refine wE_local 1 rfl rfl rfl rfl ?_
    have hap : (ns.map PyData.str).map AV.d ++ [.d (.str (hexS y))] = (((ns ++ [hexS y]).map PyData.str).map AV.d) := by simp
    refine bi_join (ys := ns ++ [hexS y]) (.inl ?_) ?_ ?_
    · rw [← hap]; rfl
    · have h2 : (Str.ofString ", ").length = 2 := by decide +kernel
      have h3 : (List.map (fun x => x.length) ns).sum ≤ 32 * 20 := sum_room ns 32 20 hn hw
      rw [h2, List.map_append, List.sum_append, List.length_append]
      simp only [List.map_cons, List.map_nil, List.sum_cons, List.sum_nil, List.length_cons, List.length_nil]
      lia
    · show post _
      rw [hy']; exact hp
end
end Mine
end
section
open PySem PySem.Calls PyProof.Rows PySem.W PySem.SeqAt PyProof.V
set_option maxRecDepth 100000
namespace Mine
noncomputable def bsL (key : Nat → Int) (x : Int) : Nat → Nat → Nat → Nat
  | 0, lo, _ => lo
  | n + 1, lo, hi => if lo < hi then (if key ((lo + hi) / 2) < x then bsL key x n ((lo + hi) / 2 + 1) hi else bsL key x n lo ((lo + hi) / 2)) else lo
noncomputable def bsR (key : Nat → Int) (x : Int) : Nat → Nat → Nat → Nat
  | 0, lo, _ => lo
  | n + 1, lo, hi => if lo < hi then (if x < key ((lo + hi) / 2) then bsR key x n lo ((lo + hi) / 2) else bsR key x n ((lo + hi) / 2 + 1) hi) else lo
noncomputable def bB (p : Nat → Bool) : Nat → Nat → Nat → Nat
  | 0, lo, _ => lo
  | n + 1, lo, hi => if lo < hi then (if p ((lo + hi) / 2) = true then bB p n ((lo + hi) / 2 + 1) hi else bB p n lo ((lo + hi) / 2)) else lo
theorem bB_done (p : Nat → Bool) : ∀ n lo hi, ¬ lo < hi → bB p n lo hi = lo
  | 0, _, _, _ => rfl
  | n + 1, lo, hi, h => by unfold bB; exact if_neg h
theorem midR {l h m n : Nat} (a : l ≤ m) (b : m < h) (k : h - l ≤ n + 1) : h - (m + 1) ≤ n := by omega
theorem midL {l h m n : Nat} (a : l ≤ m) (b : m < h) (k : h - l ≤ n + 1) : m - l ≤ n := by omega
theorem midR' {l h m : Nat} (a : l ≤ m) (b : m < h) : h - (m + 1) < h - l := by omega
theorem midL' {l h m : Nat} (a : l ≤ m) (b : m < h) : m - l < h - l := by omega
theorem midOf {l h : Nat} (k : l < h) : l ≤ (l + h) / 2 ∧ (l + h) / 2 < h := by omega
theorem subOne {l h : Nat} (k : l < h) : h - l ≤ h - l - 1 + 1 := by omega
theorem subOne' {l h : Nat} (k : l < h) : h - l = (h - l - 1) + 1 := by omega
theorem subNot {l h : Nat} (k : h - l ≤ 0) : ¬ l < h := by omega
theorem bB_fuel (p : Nat → Bool) : ∀ n m lo hi, hi - lo ≤ n → hi - lo ≤ m → bB p n lo hi = bB p m lo hi
  | 0, m, lo, hi, h, k => (bB_done p m lo hi (subNot h)).symm
  | n + 1, 0, lo, hi, h, k => bB_done p (n + 1) lo hi (subNot k)
  | n + 1, m + 1, lo, hi, h, k => by
    unfold bB
    split
    · rename_i q
      rw [bB_fuel p n m _ _ (midR (midOf q).1 (midOf q).2 h) (midR (midOf q).1 (midOf q).2 k), bB_fuel p n m _ _ (midL (midOf q).1 (midOf q).2 h) (midL (midOf q).1 (midOf q).2 k)]
    · rfl
theorem bsL_B (g : Nat → Int) (x : Int) : ∀ n lo hi, bsL g x n lo hi = bB (fun i => decide (g i < x)) n lo hi
  | 0, _, _ => rfl
  | n + 1, lo, hi => by
    unfold bsL bB
    rw [bsL_B g x n, bsL_B g x n]
    simp only [decide_eq_true_eq]
theorem bsR_B (g : Nat → Int) (x : Int) : ∀ n lo hi, bsR g x n lo hi = bB (fun i => decide (g i ≤ x)) n lo hi
  | 0, _, _ => rfl
  | n + 1, lo, hi => by
    unfold bsR bB
    rw [bsR_B g x n, bsR_B g x n]
    by_cases q : x < g ((lo + hi) / 2)
    · simp only [decide_eq_true_eq, if_pos q, if_neg (Int.not_le.mpr q)]
    · simp only [decide_eq_true_eq, if_neg q, if_pos (Int.not_lt.mp q)]
theorem mid_eq (lo hi : Nat) : Int.fdiv ((lo : Int) + (hi : Int)) 2 = (((lo + hi) / 2 : Nat) : Int) := by
  rw [Int.fdiv_eq_ediv_of_nonneg _ (by decide)]; lia
section
variable {C : Cx} {A : Around} {G : Gd}
noncomputable abbrev nsOf (k : Nat) (vars : List (Option AV)) : AObj := .ns ((scopeOf PySem.Challenge.pw_wb0027_02 k).names.map (·.1)) vars
noncomputable abbrev bisV (sc : Scope) (va vx : D) (lo hi : Nat) (kv : AV) (mid : Option AV) : List AObj := [.ns (sc.names.map (·.1)) [some (.d va), some (.d vx), some (.d (.int (lo : Int))), some (.d (.int (hi : Int))), some kv, mid, none, none]]
theorem bis_loop {sc : Scope} {cd : Value} {ql : Str} (n2 : sc.names[2]? = some (("lo" : Str), NameKind.local)) (n3 : sc.names[3]? = some (("hi" : Str), NameKind.local)) (n5 : sc.names[5]? = some (("mid" : Str), NameKind.local)) (va vx : D) (kv : AV) (hkv : ∀ n, kv.below n) (N : Nat) (P : Nat → Bool) (lo hi : Nat) (hle : hi ≤ N) (hlo : lo ≤ hi) {S : Stmt} {Q : AF → List AObj → Prop} {p1 p2 p3 p4 p5 p6 p7 p8 p9 p10 p11 : Pos}
    (turn : ∀ E' (l h m : Nat) QQ, m < N → (P m = true → QQ .next (bisV sc va vx (m + 1) h kv (some (.d (.int (m : Int)))))) → (P m = false → QQ .next (bisV sc va vx l m kv (some (.d (.int (m : Int)))))) → wS C A (G.at E') ⟨sc, 0, [], cd, ql⟩ (bisV sc va vx l h kv (some (.d (.int (m : Int))))) S QQ)
    (q : Q .next [.ns (sc.names.map (·.1)) [none, none, some (.d (.int (bB P (hi - lo) lo hi : Int))), none, none, none, none, none]]) :
    wS C A G ⟨sc, 0, [], cd, ql⟩ (bisV sc va vx lo hi kv none) (.While (.Compare (.Name "lo" p1) [.Lt] [.Name "hi" p2] p3) [.Assign [.Name "mid" p4] (.BinOp (.BinOp (.Name "lo" p5) .Add (.Name "hi" p6) p7) .FloorDiv (.Constant (.int 2) 0 p8) p9) p10, S] [] p11) Q := by
  have m2 : (sc.names.map (·.1))[2]? = some ("lo" : Str) := by rw [List.getElem?_map, n2]; rfl
  have m3 : (sc.names.map (·.1))[3]? = some ("hi" : Str) := by rw [List.getElem?_map, n3]; rfl
  have m5 : (sc.names.map (·.1))[5]? = some ("mid" : Str) := by rw [List.getElem?_map, n5]; rfl
  refine wS_while 1 (fun m st1 => ∃ (l h : Nat), m = h - l ∧ st1 = bisV sc va vx l h kv none ∧ l ≤ h ∧ h ≤ N ∧ bB P (h - l) l h = bB P (hi - lo) lo hi) ?_ (hi - lo) ⟨lo, hi, rfl, rfl, hlo, hle, rfl⟩ ?_
  · rintro m st1 ⟨_, _, _, rfl, _⟩; rfl
  rintro E' m st1 ⟨l, h, rfl, rfl, hl, hh, hb⟩
  refine wB_cmp rfl (wE_local 2 n2 rfl m2 rfl (wE_local 3 n3 rfl m3 rfl (lt_ii (tr_b ?_))))
  by_cases hlt : l < h
  · rw [show decide ((l : Int) < (h : Int)) = true from decide_eq_true (Int.ofNat_lt.mpr hlt)]
    have hb' : bB P (h - l) l h = if P ((l + h) / 2) = true then bB P (h - l - 1) ((l + h) / 2 + 1) h else bB P (h - l - 1) l ((l + h) / 2) := by
      rw [subOne' hlt]; exact if_pos hlt
    have hm := midOf hlt
    refine wSs_cons (wS_assign (fun _ => rfl) (wE_bin (wE_bin (wE_local 2 n2 rfl m2 rfl (wE_local 3 n3 rfl m3 rfl (add_ii ?_))))))
    refine wE_int (div_ii (by decide) (PyProof.noPylong_small (by decide)) ?_)
    rw [mid_eq]
    refine st_local 5 n5 rfl m5 ?_
    refine wSs_cons (turn E' l h ((l + h) / 2) _ (Nat.lt_of_lt_of_le hm.2 hh) (fun t => ?_) fun t => ?_)
    · rw [if_pos t] at hb'
      refine wSs_nil ⟨h - ((l + h) / 2 + 1), midR' hm.1 hm.2, _, Sub.of rfl ?_, (l + h) / 2 + 1, h, rfl, rfl, hm.2, hh, ?_⟩
      · exact SubL.cons (ObjLeS.ns (VarsLe.some trivial (VarsLe.some trivial (VarsLe.some trivial (VarsLe.some trivial (VarsLe.some (hkv _) (VarsLe.none (VarsLe.none (VarsLe.none VarsLe.nil))))))))) SubL.nil
      · rw [← hb, hb']; exact bB_fuel P _ _ _ _ (Nat.le_refl _) (midR hm.1 hm.2 (subOne hlt))
    · rw [if_neg (by rw [t]; decide)] at hb'
      refine wSs_nil ⟨(l + h) / 2 - l, midL' hm.1 hm.2, _, Sub.of rfl ?_, l, (l + h) / 2, rfl, rfl, hm.1, Nat.le_trans (Nat.le_of_lt hm.2) hh, ?_⟩
      · exact SubL.cons (ObjLeS.ns (VarsLe.some trivial (VarsLe.some trivial (VarsLe.some trivial (VarsLe.some trivial (VarsLe.some (hkv _) (VarsLe.none (VarsLe.none (VarsLe.none VarsLe.nil))))))))) SubL.nil
      · rw [← hb, hb']; exact bB_fuel P _ _ _ _ (Nat.le_refl _) (midL hm.1 hm.2 (subOne hlt))
  · rw [show decide ((l : Int) < (h : Int)) = false from decide_eq_false fun q => hlt (Int.ofNat_lt.mp q)]
    rw [bB_done P _ _ _ hlt] at hb
    refine ⟨[.ns (sc.names.map (·.1)) [none, none, some (.d (.int (l : Int))), none, none, none, none, none]], Sub.of rfl (SubL.cons (ObjLeS.ns ?_) SubL.nil), ?_⟩
    · exact VarsLe.none (VarsLe.none (VarsLe.some trivial (VarsLe.none (VarsLe.none (VarsLe.none (VarsLe.none (VarsLe.none VarsLe.nil)))))))
    rw [← hb] at q; exact q
set_option maxHeartbeats 4000000 in
theorem bisR_body (cd : Value) (ql : Str) {nk : Nat} (hA : AOk A nk) (as : List D) (x : Int) (lo : Nat) (hiv : D) (hi : Nat) (hhi : hiv = .int hi ∨ (hiv = .none ∧ hi = as.length)) (hle : hi ≤ as.length) (hsz : as.length < 2 ^ 40) (hlo : lo ≤ hi) (g : Nat → Int) (gl : GlobIs C "len" (.builtin "len"))
    (kv : AV) (hkey : (kv = .d .none ∧ ∀ (i : Nat) (d : D), as[i]? = some d → d = PyData.int (g i)) ∨ ∃ f φf κf, kv = .glob f ∧ (f == Value.none) = false ∧ (∀ b o, φf b = some o → G.φ b = some o) ∧ Kle κf G.κ₀ ∧ (∀ b o, G.κ₀ b = some o → κf b = some o ∨ φf b = none) ∧ ∀ (i : Nat) (d : D), as[i]? = some d → FnOk C φf κf nk f [.d d] [] [] fun r => r = PyData.int (g i))
    (post : D → Prop) (hp : post (.int (bsR g x (hi - lo) lo hi))) :
    wSs C A G ⟨scopeOf PySem.Challenge.pw_wb0027_02 1, 0, [], cd, ql⟩ [nsOf 1 [some (.d (.list as)), some (.d (.int x)), some (.d (.int lo)), some (.d hiv), some kv, none, none, none]] (bodyOf PySem.Challenge.pw_wb0027_02 1) (retP post) := by
  refine wSs_cons (wS_if ?_)
  refine wB_cmp rfl (wE_local 2 rfl rfl rfl rfl (wE_int (lt_ii (tr_b ?_))))
  rw [show decide ((lo : Int) < 0) = false from decide_eq_false (by lia)]
  refine wSs_nil ?_
  show wSs _ _ _ _ _ _ _
  refine wSs_cons (wS_if ?_)
  have step2 : ∀ G' : Gd, G'.φ = G.φ → G'.κ₀ = G.κ₀ → wSs C A G' ⟨scopeOf PySem.Challenge.pw_wb0027_02 1, 0, [], cd, ql⟩ [nsOf 1 [some (.d (.list as)), some (.d (.int x)), some (.d (.int lo)), some (.d (.int hi)), some kv, none, none, none]] ((bodyOf PySem.Challenge.pw_wb0027_02 1).drop 2) (retP post) := by
    intro G' hφ hκ
    refine wSs_cons (wS_if ?_)
    rcases hkey with ⟨rfl, hk⟩ | ⟨f, φf, κf, rfl, hf, h1, h2, h3, h4⟩
    · refine wB_cmp rfl (wE_local 4 rfl rfl rfl rfl (wE_none (is_none_none (tr_b ?_))))
      show wSs _ _ _ _ _ _ _
      refine wSs_cons ?_
      refine bis_loop rfl rfl rfl (.list as) (.int x) (.d .none) (fun _ => trivial) as.length (fun i => decide (g i ≤ x)) lo hi hle hlo ?_ ?_
      · intro E' l h m QQ hmid qt qf
        refine wS_if ?_
        refine wB_cmp rfl (wE_local 1 rfl rfl rfl rfl ?_)
        refine wE_sub (fun _ _ => ⟨_, rfl⟩) (wE_local 0 rfl rfl rfl rfl (wE_local 5 rfl rfl rfl rfl ?_))
        refine sub_list (l := as.map .d) (x := .d (.int (g m))) rfl (by lia) (by lia) ?_ ?_
        · rw [Int.toNat_natCast, List.getElem?_map, List.getElem?_eq_getElem hmid]
          rw [hk _ _ (List.getElem?_eq_getElem hmid)]; rfl
        refine lt_ii (tr_b ?_)
        by_cases hx : x < g m
        · rw [decide_eq_true hx]
          refine wSs_cons (wS_assign (fun _ => rfl) (wE_local 5 rfl rfl rfl rfl (st_local 3 rfl rfl rfl ?_)))
          exact wSs_nil (qf (decide_eq_false (Int.not_le.mpr hx)))
        · rw [decide_eq_false hx]
          refine wSs_cons (wS_assign (fun _ => rfl) (wE_bin (wE_local 5 rfl rfl rfl rfl (wE_int (add_ii (st_local 2 rfl rfl rfl ?_))))))
          exact wSs_nil (qt (decide_eq_true (Int.not_lt.mp hx)))
      · rw [bsR_B] at hp
        refine wSs_nil ?_
        refine wSs_cons (wS_ret (wE_local 2 rfl rfl rfl rfl ?_))
        exact hp
    · refine wB_cmp rfl (wE_local 4 rfl rfl rfl rfl (wE_none (is_none_glob hf (tr_b ?_))))
      show wSs _ _ _ _ _ _ _
      refine wSs_cons ?_
      refine bis_loop rfl rfl rfl (.list as) (.int x) (.glob f) (fun _ => trivial) as.length (fun i => decide (g i ≤ x)) lo hi hle hlo ?_ ?_
      · intro E' l h m QQ hmid qt qf
        refine wS_if ?_
        refine wB_cmp rfl (wE_local 1 rfl rfl rfl rfl ?_)
        refine wE_c1 (fun _ => rfl) (wE_local 4 rfl rfl rfl rfl ?_)
        refine wE_sub (fun _ _ => ⟨_, rfl⟩) (wE_local 0 rfl rfl rfl rfl (wE_local 5 rfl rfl rfl rfl ?_))
        refine sub_list (l := as.map .d) (x := .d as[m]) rfl (by lia) (by lia) ?_ ?_
        · rw [Int.toNat_natCast, List.getElem?_map, List.getElem?_eq_getElem hmid]; rfl
        refine wCall_fnG (h4 _ _ (List.getElem?_eq_getElem hmid)) hA (fun b o e => (congrFun hφ b).trans (h1 b o e)) (hκ ▸ h2) (fun b o e => h3 b o ((congrFun hκ b).symm.trans e)) (all1 trivial) (fun a ha => nomatch ha) ?_
        rintro d rfl
        refine lt_ii (tr_b ?_)
        by_cases hx : x < g m
        · rw [decide_eq_true hx]
          refine wSs_cons (wS_assign (fun _ => rfl) (wE_local 5 rfl rfl rfl rfl (st_local 3 rfl rfl rfl ?_)))
          exact wSs_nil (qf (decide_eq_false (Int.not_le.mpr hx)))
        · rw [decide_eq_false hx]
          refine wSs_cons (wS_assign (fun _ => rfl) (wE_bin (wE_local 5 rfl rfl rfl rfl (wE_int (add_ii (st_local 2 rfl rfl rfl ?_))))))
          exact wSs_nil (qt (decide_eq_true (Int.not_lt.mp hx)))
      · rw [bsR_B] at hp
        refine wSs_nil ?_
        refine wSs_cons (wS_ret (wE_local 2 rfl rfl rfl rfl ?_))
        exact hp
  refine wB_cmp rfl (wE_local 3 rfl rfl rfl rfl (wE_none ?_))
  rcases hhi with rfl | ⟨rfl, rfl⟩
  · refine is_none_int (tr_b ?_)
    exact wSs_nil (step2 G rfl rfl)
  · refine is_none_none (tr_b ?_)
    show wSs _ _ _ _ _ _ _
    refine wSs_cons (wS_assign (fun _ => rfl) (wE_c1 (fun _ => rfl) (wE_glob 7 gl rfl (wE_local 0 rfl rfl rfl rfl (wCall_bi (bi_len (l := as.map .d) rfl ?_ ?_))))))
    · rw [List.length_map]; lia
    refine st_local 3 rfl rfl rfl ?_
    rw [List.length_map]
    exact wSs_nil (step2 G rfl rfl)
set_option maxHeartbeats 4000000 in
theorem bisL_body (cd : Value) (ql : Str) {nk : Nat} (hA : AOk A nk) (as : List D) (x : Int) (lo : Nat) (hiv : D) (hi : Nat) (hhi : hiv = .int hi ∨ (hiv = .none ∧ hi = as.length)) (hle : hi ≤ as.length) (hsz : as.length < 2 ^ 40) (hlo : lo ≤ hi) (g : Nat → Int) (gl : GlobIs C "len" (.builtin "len"))
    (kv : AV) (hkey : (kv = .d .none ∧ ∀ (i : Nat) (d : D), as[i]? = some d → d = PyData.int (g i)) ∨ ∃ f φf κf, kv = .glob f ∧ (f == Value.none) = false ∧ (∀ b o, φf b = some o → G.φ b = some o) ∧ Kle κf G.κ₀ ∧ (∀ b o, G.κ₀ b = some o → κf b = some o ∨ φf b = none) ∧ ∀ (i : Nat) (d : D), as[i]? = some d → FnOk C φf κf nk f [.d d] [] [] fun r => r = PyData.int (g i))
    (post : D → Prop) (hp : post (.int (bsL g x (hi - lo) lo hi))) :
    wSs C A G ⟨scopeOf PySem.Challenge.pw_wb0027_02 2, 0, [], cd, ql⟩ [nsOf 2 [some (.d (.list as)), some (.d (.int x)), some (.d (.int lo)), some (.d hiv), some kv, none, none, none]] (bodyOf PySem.Challenge.pw_wb0027_02 2) (retP post) := by
  refine wSs_cons (wS_if ?_)
  refine wB_cmp rfl (wE_local 2 rfl rfl rfl rfl (wE_int (lt_ii (tr_b ?_))))
  rw [show decide ((lo : Int) < 0) = false from decide_eq_false (by lia)]
  refine wSs_nil ?_
  show wSs _ _ _ _ _ _ _
  refine wSs_cons (wS_if ?_)
  have step2 : ∀ G' : Gd, G'.φ = G.φ → G'.κ₀ = G.κ₀ → wSs C A G' ⟨scopeOf PySem.Challenge.pw_wb0027_02 2, 0, [], cd, ql⟩ [nsOf 2 [some (.d (.list as)), some (.d (.int x)), some (.d (.int lo)), some (.d (.int hi)), some kv, none, none, none]] ((bodyOf PySem.Challenge.pw_wb0027_02 2).drop 2) (retP post) := by
    intro G' hφ hκ
    refine wSs_cons (wS_if ?_)
    rcases hkey with ⟨rfl, hk⟩ | ⟨f, φf, κf, rfl, hf, h1, h2, h3, h4⟩
    · refine wB_cmp rfl (wE_local 4 rfl rfl rfl rfl (wE_none (is_none_none (tr_b ?_))))
      show wSs _ _ _ _ _ _ _
      refine wSs_cons ?_
      refine bis_loop rfl rfl rfl (.list as) (.int x) (.d .none) (fun _ => trivial) as.length (fun i => decide (g i < x)) lo hi hle hlo ?_ ?_
      · intro E' l h m QQ hmid qt qf
        refine wS_if ?_
        refine wB_cmp rfl ?_
        refine wE_sub (fun _ _ => ⟨_, rfl⟩) (wE_local 0 rfl rfl rfl rfl (wE_local 5 rfl rfl rfl rfl ?_))
        refine sub_list (l := as.map .d) (x := .d (.int (g m))) rfl (by lia) (by lia) ?_ ?_
        · rw [Int.toNat_natCast, List.getElem?_map, List.getElem?_eq_getElem hmid]
          rw [hk _ _ (List.getElem?_eq_getElem hmid)]; rfl
        refine wE_local 1 rfl rfl rfl rfl (lt_ii (tr_b ?_))
        by_cases hx : g m < x
        · rw [decide_eq_true hx]
          refine wSs_cons (wS_assign (fun _ => rfl) (wE_bin (wE_local 5 rfl rfl rfl rfl (wE_int (add_ii (st_local 2 rfl rfl rfl ?_))))))
          exact wSs_nil (qt (decide_eq_true hx))
        · rw [decide_eq_false hx]
          refine wSs_cons (wS_assign (fun _ => rfl) (wE_local 5 rfl rfl rfl rfl (st_local 3 rfl rfl rfl ?_)))
          exact wSs_nil (qf (decide_eq_false hx))
      · rw [bsL_B] at hp
        refine wSs_nil ?_
        refine wSs_cons (wS_ret (wE_local 2 rfl rfl rfl rfl ?_))
        exact hp
    · refine wB_cmp rfl (wE_local 4 rfl rfl rfl rfl (wE_none (is_none_glob hf (tr_b ?_))))
      show wSs _ _ _ _ _ _ _
      refine wSs_cons ?_
      refine bis_loop rfl rfl rfl (.list as) (.int x) (.glob f) (fun _ => trivial) as.length (fun i => decide (g i < x)) lo hi hle hlo ?_ ?_
      · intro E' l h m QQ hmid qt qf
        refine wS_if ?_
        refine wB_cmp rfl ?_
        refine wE_c1 (fun _ => rfl) (wE_local 4 rfl rfl rfl rfl ?_)
        refine wE_sub (fun _ _ => ⟨_, rfl⟩) (wE_local 0 rfl rfl rfl rfl (wE_local 5 rfl rfl rfl rfl ?_))
        refine sub_list (l := as.map .d) (x := .d as[m]) rfl (by lia) (by lia) ?_ ?_
        · rw [Int.toNat_natCast, List.getElem?_map, List.getElem?_eq_getElem hmid]; rfl
        refine wCall_fnG (h4 _ _ (List.getElem?_eq_getElem hmid)) hA (fun b o e => (congrFun hφ b).trans (h1 b o e)) (hκ ▸ h2) (fun b o e => h3 b o ((congrFun hκ b).symm.trans e)) (all1 trivial) (fun a ha => nomatch ha) ?_
        rintro d rfl
        refine wE_local 1 rfl rfl rfl rfl (lt_ii (tr_b ?_))
        by_cases hx : g m < x
        · rw [decide_eq_true hx]
          refine wSs_cons (wS_assign (fun _ => rfl) (wE_bin (wE_local 5 rfl rfl rfl rfl (wE_int (add_ii (st_local 2 rfl rfl rfl ?_))))))
          exact wSs_nil (qt (decide_eq_true hx))
        · rw [decide_eq_false hx]
          refine wSs_cons (wS_assign (fun _ => rfl) (wE_local 5 rfl rfl rfl rfl (st_local 3 rfl rfl rfl ?_)))
          exact wSs_nil (qf (decide_eq_false hx))
      · rw [bsL_B] at hp
        refine wSs_nil ?_
        refine wSs_cons (wS_ret (wE_local 2 rfl rfl rfl rfl ?_))
        exact hp
  refine wB_cmp rfl (wE_local 3 rfl rfl rfl rfl (wE_none ?_))
  rcases hhi with rfl | ⟨rfl, rfl⟩
  · refine is_none_int (tr_b ?_)
    exact wSs_nil (step2 G rfl rfl)
  · refine is_none_none (tr_b ?_)
    show wSs _ _ _ _ _ _ _
    refine wSs_cons (wS_assign (fun _ => rfl) (wE_c1 (fun _ => rfl) (wE_glob 7 gl rfl (wE_local 0 rfl rfl rfl rfl (wCall_bi (bi_len (l := as.map .d) rfl ?_ ?_))))))
    · rw [List.length_map]; lia
    refine st_local 3 rfl rfl rfl ?_
    rw [List.length_map]
    exact wSs_nil (step2 G rfl rfl)
end
end Mine
end
section
open PySem PySem.Calls PyProof.Rows PySem.W PySem.SeqAt PyProof.V
set_option maxRecDepth 100000
namespace Mine
theorem ite_f {M : Model} {A : Around} {E : Value → Shared → Prop} {s : Shared} {α : Type} {c : Bool} {x y : Sem α} {Q : α → Shared → Prop} (hc : c = false) (h : wpAny M A y Q E s) : wpAny M A (if c = true then x else y) Q E s := by subst hc; exact h
theorem ite_t {M : Model} {A : Around} {E : Value → Shared → Prop} {s : Shared} {α : Type} {c : Bool} {x y : Sem α} {Q : α → Shared → Prop} (hc : c = true) (h : wpAny M A x Q E s) : wpAny M A (if c = true then x else y) Q E s := by subst hc; exact h
structure BisG (C : Cx) (k : Nat) (f : Value) (fd : FuncData) : Prop where
  at_ : FnAt C f fd (bodyOf PySem.Challenge.pw_wb0027_02 k)
  scope : fd.scope = scopeOf PySem.Challenge.pw_wb0027_02 k
  params : fd.params = paramsOf PySem.Challenge.pw_wb0027_02 k
  dflt : ∃ T, fd.defaults = .ref T ∧ ∀ h : Heap, (∀ b o, C.P0 b = some o → h.get? b = some o) → ∃ o n t, h.get? T = some o ∧ o.data = .seq #[.int 0 t, .none] n
  kwd : ∃ W, fd.kwdefaults = .ref W ∧ ∀ h : Heap, (∀ b o, C.P0 b = some o → h.get? b = some o) → ∃ m, h.Ns W m ∧ m "key" = some .none
noncomputable abbrev bisP (p1 p2 p3 p4 p5 : Pos) (n1 n2 n3 n4 n5 : Option Expr) (kd : List (Option Expr)) (df : List Expr) : Arguments := ⟨[], [⟨"a", n1, p1⟩, ⟨"x", n2, p2⟩, ⟨"lo", n3, p3⟩, ⟨"hi", n4, p4⟩], none, [⟨"key", n5, p5⟩], kd, none, df⟩
theorem bis_bind2 {C : Cx} {fd : FuncData} {f : Value} {k : Nat} (B : BisG C k f fd) {p1 p2 p3 p4 p5 : Pos} {n1 n2 n3 n4 n5 : Option Expr} {kd : List (Option Expr)} {df : List Expr} (hP : paramsOf PySem.Challenge.pw_wb0027_02 k = bisP p1 p2 p3 p4 p5 n1 n2 n3 n4 n5 kd df) (v u : Value) (s : Shared) (hp : ∀ b o, C.P0 b = some o → s.heap.get? b = some o) : ∃ t : Tok, BindsTo s fd ⟨[v, u], []⟩ [(("a" : Str), v), (("x" : Str), u), (("lo" : Str), .int 0 t), (("hi" : Str), .none), ("key", .none)] := by
  obtain ⟨T, hT, hd⟩ := B.dflt
  obtain ⟨W, hW, hk⟩ := B.kwd
  obtain ⟨o, n, t, ho, hdat⟩ := hd s.heap hp
  obtain ⟨m, hm, hkey⟩ := hk s.heap hp
  refine ⟨t, fun M A E Q hq => ?_⟩
  have hpar := B.params.trans hP
  unfold bindArgs
  rw [hpar, hT, hW]
  refine wpAny_bind (wpAny_pure ?_)
  refine wpAny_bind (wpAny_seqItems ho hdat ?_)
  refine ite_f rfl ?_
  refine ite_f rfl ?_
  refine wpAny_bind (wpAny_pure (a := [(("a" : Str), v), (("x" : Str), u), (("lo" : Str), .int 0 t), (("hi" : Str), .none)]) ?_)
  refine wpAny_bind ?_
  rw [show (List.map (fun x => x.arg) (bisP p1 p2 p3 p4 p5 n1 n2 n3 n4 n5 kd df).kwonlyargs) = [("key" : Str)] from rfl, List.forIn_cons]
  refine wpAny_bind ?_
  refine ite_t rfl ?_
  refine wpAny_bind (wpAny_nsGet hm ?_)
  rw [hkey]
  refine wpAny_pure ?_
  refine wpAny_pure ?_
  refine ite_f rfl ?_
  exact wpAny_pure hq
theorem bis_bind2k {C : Cx} {fd : FuncData} {f : Value} {k : Nat} (B : BisG C k f fd) {p1 p2 p3 p4 p5 : Pos} {n1 n2 n3 n4 n5 : Option Expr} {kd : List (Option Expr)} {df : List Expr} (hP : paramsOf PySem.Challenge.pw_wb0027_02 k = bisP p1 p2 p3 p4 p5 n1 n2 n3 n4 n5 kd df) (v u f1 : Value) (s : Shared) (hp : ∀ b o, C.P0 b = some o → s.heap.get? b = some o) : ∃ t : Tok, BindsTo s fd ⟨[v, u], [("key", f1)]⟩ [(("a" : Str), v), (("x" : Str), u), (("lo" : Str), .int 0 t), (("hi" : Str), .none), ("key", f1)] := by
  obtain ⟨T, hT, hd⟩ := B.dflt
  obtain ⟨W, hW, hk⟩ := B.kwd
  obtain ⟨o, n, t, ho, hdat⟩ := hd s.heap hp
  obtain ⟨m, hm, hkey⟩ := hk s.heap hp
  refine ⟨t, fun M A E Q hq => ?_⟩
  have hpar := B.params.trans hP
  unfold bindArgs
  rw [hpar, hT, hW]
  refine wpAny_bind (wpAny_pure (a := ([(("a" : Str), v), (("x" : Str), u), ("key", f1)], ([] : List (Str × Value)))) ?_)
  refine wpAny_bind (wpAny_seqItems ho hdat ?_)
  refine ite_f rfl ?_
  refine ite_f rfl ?_
  refine wpAny_bind (wpAny_pure (a := [(("a" : Str), v), (("x" : Str), u), ("key", f1), (("lo" : Str), .int 0 t), (("hi" : Str), .none)]) ?_)
  refine wpAny_bind ?_
  refine wpAny_pure (a := ([(("a" : Str), v), (("x" : Str), u), ("key", f1), (("lo" : Str), .int 0 t), (("hi" : Str), .none)], ([] : List Str))) ?_
  refine ite_f rfl ?_
  exact wpAny_pure hq
theorem bis_bind3 {C : Cx} {fd : FuncData} {f : Value} {k : Nat} (B : BisG C k f fd) {p1 p2 p3 p4 p5 : Pos} {n1 n2 n3 n4 n5 : Option Expr} {kd : List (Option Expr)} {df : List Expr} (hP : paramsOf PySem.Challenge.pw_wb0027_02 k = bisP p1 p2 p3 p4 p5 n1 n2 n3 n4 n5 kd df) (v u w : Value) (s : Shared) (hp : ∀ b o, C.P0 b = some o → s.heap.get? b = some o) : ∃ t : Tok, BindsTo s fd ⟨[v, u, w], []⟩ [(("a" : Str), v), (("x" : Str), u), (("lo" : Str), w), (("hi" : Str), .none), ("key", .none)] := by
  obtain ⟨T, hT, hd⟩ := B.dflt
  obtain ⟨W, hW, hk⟩ := B.kwd
  obtain ⟨o, n, t, ho, hdat⟩ := hd s.heap hp
  obtain ⟨m, hm, hkey⟩ := hk s.heap hp
  refine ⟨t, fun M A E Q hq => ?_⟩
  have hpar := B.params.trans hP
  unfold bindArgs
  rw [hpar, hT, hW]
  refine wpAny_bind (wpAny_pure ?_)
  refine wpAny_bind (wpAny_seqItems ho hdat ?_)
  refine ite_f rfl ?_
  refine ite_f rfl ?_
  refine wpAny_bind (wpAny_pure (a := [(("a" : Str), v), (("x" : Str), u), (("lo" : Str), w), (("hi" : Str), .none)]) ?_)
  refine wpAny_bind ?_
  rw [show (List.map (fun x => x.arg) (bisP p1 p2 p3 p4 p5 n1 n2 n3 n4 n5 kd df).kwonlyargs) = [("key" : Str)] from rfl, List.forIn_cons]
  refine wpAny_bind ?_
  refine ite_t rfl ?_
  refine wpAny_bind (wpAny_nsGet hm ?_)
  rw [hkey]
  refine wpAny_pure ?_
  refine wpAny_pure ?_
  refine ite_f rfl ?_
  exact wpAny_pure hq
theorem bis_bind4 {C : Cx} {fd : FuncData} {f : Value} {k : Nat} (B : BisG C k f fd) {p1 p2 p3 p4 p5 : Pos} {n1 n2 n3 n4 n5 : Option Expr} {kd : List (Option Expr)} {df : List Expr} (hP : paramsOf PySem.Challenge.pw_wb0027_02 k = bisP p1 p2 p3 p4 p5 n1 n2 n3 n4 n5 kd df) (v u w z : Value) (s : Shared) (hp : ∀ b o, C.P0 b = some o → s.heap.get? b = some o) : ∃ t : Tok, BindsTo s fd ⟨[v, u, w, z], []⟩ [(("a" : Str), v), (("x" : Str), u), (("lo" : Str), w), (("hi" : Str), z), ("key", .none)] := by
  obtain ⟨T, hT, hd⟩ := B.dflt
  obtain ⟨W, hW, hk⟩ := B.kwd
  obtain ⟨o, n, t, ho, hdat⟩ := hd s.heap hp
  obtain ⟨m, hm, hkey⟩ := hk s.heap hp
  refine ⟨t, fun M A E Q hq => ?_⟩
  have hpar := B.params.trans hP
  unfold bindArgs
  rw [hpar, hT, hW]
  refine wpAny_bind (wpAny_pure ?_)
  refine wpAny_bind (wpAny_seqItems ho hdat ?_)
  refine ite_f rfl ?_
  refine ite_f rfl ?_
  refine wpAny_bind (wpAny_pure (a := [(("a" : Str), v), (("x" : Str), u), (("lo" : Str), w), (("hi" : Str), z)]) ?_)
  refine wpAny_bind ?_
  rw [show (List.map (fun x => x.arg) (bisP p1 p2 p3 p4 p5 n1 n2 n3 n4 n5 kd df).kwonlyargs) = [("key" : Str)] from rfl, List.forIn_cons]
  refine wpAny_bind ?_
  refine ite_t rfl ?_
  refine wpAny_bind (wpAny_nsGet hm ?_)
  rw [hkey]
  refine wpAny_pure ?_
  refine wpAny_pure ?_
  refine ite_f rfl ?_
  exact wpAny_pure hq
end Mine
end
section
open PySem PySem.Calls PyProof.Rows PySem.W PySem.SeqAt PyProof.V
set_option maxRecDepth 100000
namespace Mine
theorem scok4 : ScOk (scopeOf PySem.Challenge.pw_wb0027_02 1) := ⟨rfl, by decide +kernel, by decide +kernel⟩
theorem scok5 : ScOk (scopeOf PySem.Challenge.pw_wb0027_02 2) := ⟨rfl, by decide +kernel, by decide +kernel⟩
noncomputable def KeyOk (C : Cx) (nk : Nat) (φf κf : Kp) (as : List D) (g : Nat → Int) (kv : AV) : Prop :=
  (kv = .d .none ∧ ∀ (i : Nat) (d : D), as[i]? = some d → d = PyData.int (g i)) ∨ ∃ f, kv = .glob f ∧ (f == Value.none) = false ∧ ∀ (i : Nat) (d : D), as[i]? = some d → FnOk C φf κf nk f [.d d] [] [] fun r => r = PyData.int (g i)
theorem bisR_ok {C : Cx} {φf κf : Kp} {f : Value} {fd : FuncData} {nk : Nat} (hl : NoLim C) (gl : GlobIs C "len" (.builtin "len")) (B : BisG C 1 f fd) (hφt : ∀ b ∈ C.tabs, φf b = none) (as : List D) (x : Int) (lo : Nat) (hiv : D) (hi : Nat) (hhi : hiv = .int hi ∨ (hiv = .none ∧ hi = as.length)) (hle : hi ≤ as.length) (hsz : as.length < 2 ^ 40) (hlo : lo ≤ hi) (g : Nat → Int)
    (kv : AV) (hkey : KeyOk C nk φf κf as g kv) (args : List AV) (names : List Str) (ks : List AV)
    (hb : ∀ (s : Shared) (vs kvs : List Value), (∀ b o, C.P0 b = some o → s.heap.get? b = some o) → vs.length = args.length → kvs.length = ks.length → ∃ binds, BindsTo s fd ⟨vs, names.zip kvs⟩ binds ∧ binds.map (·.1) = [("a" : Str), "x", "lo", "hi", "key"] ∧
      ∀ κ : Kp, RVL κ [] args vs → RVL κ [] ks kvs → RVL κ [] [.d (.list as), .d (.int x), .d (.int lo), .d hiv, kv] (binds.map (·.2))) :
    FnOk C φf κf (nk + 1) f args names ks fun r => r = PyData.int (bsR g x (hi - lo) lo hi) := by
  have hat := B.at_
  have hsc := B.scope
  refine fn_okG (bs := [(("a" : Str), .d (.list as)), ("x", .d (.int x)), ("lo", .d (.int lo)), ("hi", .d hiv), ("key", kv)]) hat hφt hl (by rw [hsc]; exact scok4) (by rw [hsc]; decide +kernel) hb ?_
  intro A G A' hA h1 h2 h3
  rw [hsc]
  simp only [wStores]
  refine st_local 0 rfl rfl rfl ?_
  refine st_local 1 rfl rfl rfl ?_
  refine st_local 2 rfl rfl rfl ?_
  refine st_local 3 rfl rfl rfl ?_
  refine st_local 4 rfl rfl rfl ?_
  intro E
  refine bisR_body (G := G.at E) _ _ hA as x lo hiv hi hhi hle hsz hlo g gl kv ?_ _ rfl
  rcases hkey with h | ⟨f, q1, q2, q3⟩
  · exact .inl h
  · exact .inr ⟨f, φf, κf, q1, q2, h1, h2, h3, q3⟩
theorem bisL_ok {C : Cx} {φf κf : Kp} {f : Value} {fd : FuncData} {nk : Nat} (hl : NoLim C) (gl : GlobIs C "len" (.builtin "len")) (B : BisG C 2 f fd) (hφt : ∀ b ∈ C.tabs, φf b = none) (as : List D) (x : Int) (lo : Nat) (hiv : D) (hi : Nat) (hhi : hiv = .int hi ∨ (hiv = .none ∧ hi = as.length)) (hle : hi ≤ as.length) (hsz : as.length < 2 ^ 40) (hlo : lo ≤ hi) (g : Nat → Int)
    (kv : AV) (hkey : KeyOk C nk φf κf as g kv) (args : List AV) (names : List Str) (ks : List AV)
    (hb : ∀ (s : Shared) (vs kvs : List Value), (∀ b o, C.P0 b = some o → s.heap.get? b = some o) → vs.length = args.length → kvs.length = ks.length → ∃ binds, BindsTo s fd ⟨vs, names.zip kvs⟩ binds ∧ binds.map (·.1) = [("a" : Str), "x", "lo", "hi", "key"] ∧
      ∀ κ : Kp, RVL κ [] args vs → RVL κ [] ks kvs → RVL κ [] [.d (.list as), .d (.int x), .d (.int lo), .d hiv, kv] (binds.map (·.2))) :
    FnOk C φf κf (nk + 1) f args names ks fun r => r = PyData.int (bsL g x (hi - lo) lo hi) := by
  have hat := B.at_
  have hsc := B.scope
  refine fn_okG (bs := [(("a" : Str), .d (.list as)), ("x", .d (.int x)), ("lo", .d (.int lo)), ("hi", .d hiv), ("key", kv)]) hat hφt hl (by rw [hsc]; exact scok5) (by rw [hsc]; decide +kernel) hb ?_
  intro A G A' hA h1 h2 h3
  rw [hsc]
  simp only [wStores]
  refine st_local 0 rfl rfl rfl ?_
  refine st_local 1 rfl rfl rfl ?_
  refine st_local 2 rfl rfl rfl ?_
  refine st_local 3 rfl rfl rfl ?_
  refine st_local 4 rfl rfl rfl ?_
  intro E
  refine bisL_body (G := G.at E) _ _ hA as x lo hiv hi hhi hle hsz hlo g gl kv ?_ _ rfl
  rcases hkey with h | ⟨f, q1, q2, q3⟩
  · exact .inl h
  · exact .inr ⟨f, φf, κf, q1, q2, h1, h2, h3, q3⟩
theorem RV.int {κ : Kp} {σ : List Addr} {i : Int} {t : Tok} : RV κ σ (.d (.int i)) (.int i t) := show R κ (.int i) _ from ⟨t, rfl⟩
theorem RV.none {κ : Kp} {σ : List Addr} : RV κ σ (.d .none) .none := show R κ .none _ from rfl
theorem bisR_2 {C : Cx} {φf κf : Kp} {f : Value} {fd : FuncData} {nk : Nat} (hl : NoLim C) (gl : GlobIs C "len" (.builtin "len")) (B : BisG C 1 f fd) (hφt : ∀ b ∈ C.tabs, φf b = none) (as : List D) (x : Int) (hsz : as.length < 2 ^ 40) (g : Nat → Int) (hk : ∀ (i : Nat) (d : D), as[i]? = some d → d = PyData.int (g i)) :
    FnOk C φf κf (nk + 1) f [.d (.list as), .d (.int x)] [] [] fun r => r = PyData.int (bsR g x as.length 0 as.length) :=
  bisR_ok hl gl B hφt as x 0 .none as.length (.inr ⟨rfl, rfl⟩) (Nat.le_refl _) hsz (Nat.zero_le _) g (.d .none) (.inl ⟨rfl, hk⟩) _ _ _ fun s vs kvs hp hv hkv => by
    obtain ⟨v, u, rfl⟩ := len2 hv
    obtain ⟨t, hb⟩ := bis_bind2 B rfl v u s hp
    exact ⟨_, hb, rfl, fun κ r _ => by
      obtain ⟨r1, r2⟩ := r.two'
      exact .cons r1 (.cons r2 (.cons RV.int (.cons RV.none (.cons RV.none .nil))))⟩
theorem bisL_2 {C : Cx} {φf κf : Kp} {f : Value} {fd : FuncData} {nk : Nat} (hl : NoLim C) (gl : GlobIs C "len" (.builtin "len")) (B : BisG C 2 f fd) (hφt : ∀ b ∈ C.tabs, φf b = none) (as : List D) (x : Int) (hsz : as.length < 2 ^ 40) (g : Nat → Int) (hk : ∀ (i : Nat) (d : D), as[i]? = some d → d = PyData.int (g i)) :
    FnOk C φf κf (nk + 1) f [.d (.list as), .d (.int x)] [] [] fun r => r = PyData.int (bsL g x as.length 0 as.length) :=
  bisL_ok hl gl B hφt as x 0 .none as.length (.inr ⟨rfl, rfl⟩) (Nat.le_refl _) hsz (Nat.zero_le _) g (.d .none) (.inl ⟨rfl, hk⟩) _ _ _ fun s vs kvs hp hv hkv => by
    obtain ⟨v, u, rfl⟩ := len2 hv
    obtain ⟨t, hb⟩ := bis_bind2 B rfl v u s hp
    exact ⟨_, hb, rfl, fun κ r _ => by
      obtain ⟨r1, r2⟩ := r.two'
      exact .cons r1 (.cons r2 (.cons RV.int (.cons RV.none (.cons RV.none .nil))))⟩
theorem bisR_2k {C : Cx} {φf κf : Kp} {f kf : Value} {fd : FuncData} {nk : Nat} (hl : NoLim C) (gl : GlobIs C "len" (.builtin "len")) (B : BisG C 1 f fd) (hφt : ∀ b ∈ C.tabs, φf b = none) (as : List D) (x : Int) (hsz : as.length < 2 ^ 40) (g : Nat → Int) (hkn : (kf == Value.none) = false)
    (hk : ∀ (i : Nat) (d : D), as[i]? = some d → FnOk C φf κf nk kf [.d d] [] [] fun r => r = PyData.int (g i)) :
    FnOk C φf κf (nk + 1) f [.d (.list as), .d (.int x)] ["key"] [.glob kf] fun r => r = PyData.int (bsR g x as.length 0 as.length) :=
  bisR_ok hl gl B hφt as x 0 .none as.length (.inr ⟨rfl, rfl⟩) (Nat.le_refl _) hsz (Nat.zero_le _) g (.glob kf) (.inr ⟨kf, rfl, hkn, hk⟩) _ _ _ fun s vs kvs hp hv hkv => by
    obtain ⟨v, u, rfl⟩ := len2 hv
    obtain ⟨f1, rfl⟩ := len1 hkv
    obtain ⟨t, hb⟩ := bis_bind2k B rfl v u f1 s hp
    exact ⟨_, hb, rfl, fun κ r rk => by
      obtain ⟨r1, r2⟩ := r.two'
      have r3 := rk.one'
      exact .cons r1 (.cons r2 (.cons RV.int (.cons RV.none (.cons r3 .nil))))⟩
theorem bisL_2k {C : Cx} {φf κf : Kp} {f kf : Value} {fd : FuncData} {nk : Nat} (hl : NoLim C) (gl : GlobIs C "len" (.builtin "len")) (B : BisG C 2 f fd) (hφt : ∀ b ∈ C.tabs, φf b = none) (as : List D) (x : Int) (hsz : as.length < 2 ^ 40) (g : Nat → Int) (hkn : (kf == Value.none) = false)
    (hk : ∀ (i : Nat) (d : D), as[i]? = some d → FnOk C φf κf nk kf [.d d] [] [] fun r => r = PyData.int (g i)) :
    FnOk C φf κf (nk + 1) f [.d (.list as), .d (.int x)] ["key"] [.glob kf] fun r => r = PyData.int (bsL g x as.length 0 as.length) :=
  bisL_ok hl gl B hφt as x 0 .none as.length (.inr ⟨rfl, rfl⟩) (Nat.le_refl _) hsz (Nat.zero_le _) g (.glob kf) (.inr ⟨kf, rfl, hkn, hk⟩) _ _ _ fun s vs kvs hp hv hkv => by
    obtain ⟨v, u, rfl⟩ := len2 hv
    obtain ⟨f1, rfl⟩ := len1 hkv
    obtain ⟨t, hb⟩ := bis_bind2k B rfl v u f1 s hp
    exact ⟨_, hb, rfl, fun κ r rk => by
      obtain ⟨r1, r2⟩ := r.two'
      have r3 := rk.one'
      exact .cons r1 (.cons r2 (.cons RV.int (.cons RV.none (.cons r3 .nil))))⟩
end Mine
end
section
open PySem PySem.Calls PyProof.Rows PySem.W PySem.SeqAt PyProof.V
set_option maxRecDepth 100000
namespace Mine
structure PlainG (C : Cx) (k : Nat) (f : Value) (fd : FuncData) : Prop where
  at_ : FnAt C f fd (bodyOf PySem.Challenge.pw_wb0027_02 k)
  scope : fd.scope = scopeOf PySem.Challenge.pw_wb0027_02 k
  params : fd.params = paramsOf PySem.Challenge.pw_wb0027_02 k
  dflt : fd.defaults = .none
  kwd : fd.kwdefaults = .none
theorem PlainG.bind {C : Cx} {k : Nat} {f : Value} {fd : FuncData} (B : PlainG C k f fd) {a : Args} {r : Sem (List (Str × Value))} (h : bindArgs { fd with params := paramsOf PySem.Challenge.pw_wb0027_02 k, defaults := .none, kwdefaults := .none } a = r) : bindArgs fd a = r := by
  obtain ⟨name, qual, params, body, scope, globals, closure, defaults, kwdefaults, doc, pm, ann, code, ct, bi⟩ := fd
  obtain ⟨_, hs, hp, hd, hk⟩ := B
  cases hp; cases hd; cases hk
  exact h
theorem pretty_bind {C : Cx} {f : Value} {fd : FuncData} (B : PlainG C 5 f fd) (v : Value) : bindArgs fd ⟨[v], []⟩ = (pure [(("flags" : Str), v)] : Sem (List (Str × Value))) := B.bind rfl
theorem scok2 : ScOk (scopeOf PySem.Challenge.pw_wb0027_02 5) := ⟨rfl, by decide +kernel, by decide +kernel⟩
noncomputable def PfShort (x : Int) : Prop := ∀ (y : Int) (ns : List Str), (ns ++ [hexS y] = pfWords x → (hexS y).length ≤ 1000000)
theorem pretty_ok {C : Cx} {f : Value} {fd : FuncData} (hl : NoLim C) (B : PlainG C 5 f fd) (g1 : GlobIs C "range" (.type "range")) (dv : Value) (g2 : GlobIs C "COMPILER_FLAG_NAMES" dv) (hd : IntDict C dv flagNames) (g3 : GlobIs C "hex" (.builtin "hex")) (x : Int) (hx : PfShort x) :
    FnOk C (fun _ => none) C.P0 4 f [.d (.int x)] [] [] fun r => r = PyData.str (Txt.join ", " (pfWords x)) := by
  have hsc := B.scope
  refine fn_ok (bs := [(("flags" : Str), .d (.int x))]) B.at_ hl (by rw [hsc]; exact scok2) (by rw [hsc]; decide +kernel) (bind1 (pretty_bind B)) ?_
  intro A G A' hA
  rw [hsc]
  simp only [wStores]
  refine st_local 0 rfl rfl rfl ?_
  intro E
  exact pretty_body (G := G.at E) _ _ hA g1 dv g2 hd g3 x hx _ rfl
end Mine
end
section
open PySem PySem.Calls PyProof.Rows PySem.W PySem.SeqAt PyProof.V
set_option maxRecDepth 100000
namespace Mine
noncomputable def toldOf (x : Int) : List Str := Txt.split (Txt.join ", " (pfWords x)) ", "
structure PrettyG (C : Cx) (f : Value) : Prop where
  glob : GlobIs C "pretty_flags" f
  ok : ∀ x, PfShort x → FnOk C (fun _ => none) C.P0 4 f [.d (.int x)] [] [] fun r => r = PyData.str (Txt.join ", " (pfWords x))
end Mine
end
section
open PySem PySem.Calls PyProof.Rows PySem.W PySem.SeqAt PyProof.V
set_option maxRecDepth 100000
namespace Mine
noncomputable def markC (n : Int) : Nat := ([124, 33, 58, 47, 36] : List Nat).getD (n.fmod 5).toNat 0
noncomputable def markOf (n : Int) : Str := ⟨#[markC n]⟩
noncomputable def rep (x : Str) (n : Int) : Str := ⟨(List.replicate n.toNat x.cps).foldl (· ++ ·) #[]⟩
noncomputable def numS (n : Int) : Str := Str.ofString (toString n)
theorem mark_at (n : Int) : (seqIndex? (n.fmod 5) (Str.ofString "|!:/$").length).bind ((Str.ofString "|!:/$").cps[·]?) = some (markC n) := by
  have key : ∀ r : Fin 5, (seqIndex? ((r : Nat) : Int) (Str.ofString "|!:/$").length).bind ((Str.ofString "|!:/$").cps[·]?) = some (([124, 33, 58, 47, 36] : List Nat).getD r 0) := by decide +kernel
  have h0 : 0 ≤ n.fmod 5 := Int.fmod_nonneg_of_pos n (by decide)
  have h1 : n.fmod 5 < 5 := Int.fmod_lt_of_pos n (by decide)
  have := key ⟨(n.fmod 5).toNat, by lia⟩
  simp only [Int.toNat_of_nonneg h0] at this
  exact this
theorem rep_len (c : Nat) (n : Int) (h : n.natAbs ≤ 1000) : (rep ⟨#[c]⟩ n).length ≤ 1000 := by
  have fold : ∀ (k : Nat) (a : Array Nat), ((List.replicate k (#[c] : Array Nat)).foldl (· ++ ·) a).size = a.size + k := by
    intro k
    induction k with
    | zero => intro a; simp
    | succ k ih => intro a; rw [List.replicate_succ, List.foldl_cons, ih, Array.size_append]; simp; lia
  show ((List.replicate n.toNat (#[c] : Array Nat)).foldl (· ++ ·) #[]).size ≤ 1000
  rw [fold]; simp; lia
theorem log2_small {n : Nat} (h : n ≤ 2 ^ 60) : n.log2 < 1920 := by
  by_cases h0 : n = 0
  · subst h0; decide
  · have : n.log2 < 61 := (Nat.log2_lt h0).mpr (by lia)
    lia
end Mine
end
section
open PySem PySem.Calls PyProof.Rows PySem.W PySem.SeqAt PyProof.V
set_option maxRecDepth 100000
namespace Mine
noncomputable def chAt (x : Str) (i : Int) : Option Nat := (seqIndex? i x.length).bind (x.cps[·]?)
structure ParseOk (x : Str) (n : Int) : Prop where
  size : x.length ≤ 1000000
  code : Txt.slice x none (some 3) = "229"
  left : 0 ≤ Txt.find x "("
  lfit : Txt.find x "(" < 2 ^ 60
  right : 0 ≤ Txt.find3 x ")" (Txt.find x "(" + 1)
  rfit : Txt.find3 x ")" (Txt.find x "(" + 1) < 2 ^ 60
  mark : ∃ c, chAt x (Txt.find x "(" + 1) = some c ∧ chAt x (Txt.find3 x ")" (Txt.find x "(" + 1) - 1) = some c ∧
    ∃ a b d p e, Txt.split (Txt.slice x (some (Txt.find x "(" + 1)) (some (Txt.find3 x ")" (Txt.find x "(" + 1)))) ⟨#[c]⟩ = [a, b, d, p, e] ∧ PySem.intText? p = some n ∧ p.length ≤ 640
set_option maxHeartbeats 4000000 in
theorem parse_body {C : Cx} {A : Around} {G : Gd} (cd : Value) (ql : Str) (gl : GlobIs C "len" (.builtin "len")) (gi : GlobIs C "int" (.type "int")) (x : Str) (n : Int) (h : ParseOk x n) (host : D) (port0 : D) (post : D → Prop) (hp : post (.tuple [host, .int n])) :
    wSs C A G ⟨scopeOf PySem.Challenge.pw_wb0027_02 10, 0, [], cd, ql⟩ [nsOf 10 [some (.d (.str x)), some (.d (.tuple [host, port0])), none, none, none, none, none, none, none, none, none]] (bodyOf PySem.Challenge.pw_wb0027_02 10) (retP post) := by
  refine byC fun hC1 => ?_
  obtain ⟨hsz, hcode, hl, hlf, hr, hrf, c, hc1, hc2, a, b, d, p, e, hs, hi, hpl⟩ := h
  refine hC1 ?_
  generalize hL : Txt.find x "(" = L at *
  generalize hR : Txt.find3 x ")" (L + 1) = Rr at *
  have hS := sizeLine_eq
  refine wSs_cons (wS_if ?_)
  refine wB_cmp rfl ?_
  refine wE_cut (wE_local 0 rfl rfl rfl rfl (wP_none (wP_some (wE_int ⟨3, rfl, wP_none ?_⟩))))
  refine cut_str (by lia) ?_
  refine wE_str (ne_ss (tr_b ?_))
  rw [hcode]
  rw [show ((Str.ofString "229" != Str.ofString "229") = false) by simp]
  refine wSs_nil ?_
  refine (?_ : wSs _ _ _ _ _ _ _)
  refine wSs_cons (wS_assign (fun _ => rfl) ?_)
  refine wE_m1 F.plainAttrs_str F.slot_str_find F.type_str_find ?_ ?_ ?_ ?_
  · exact fun _ _ => rfl
  · exact fun _ => rfl
  · rfl
  refine wE_local 0 rfl rfl rfl rfl ⟨hasTy_str, ?_⟩
  refine wE_str (bi_find ?_)
  rw [hL]
  refine st_local 2 rfl rfl rfl ?_
  refine (?_ : wSs _ _ _ _ _ _ _)
  refine wSs_cons (wS_if ?_)
  refine wB_cmp rfl (wE_local 2 rfl rfl rfl rfl (wE_int (lt_ii (tr_b ?_))))
  rw [show decide (L < 0) = false from decide_eq_false (by lia)]
  refine wSs_nil ?_
  refine (?_ : wSs _ _ _ _ _ _ _)
  refine wSs_cons (wS_assign (fun _ => rfl) ?_)
  refine wE_m2 F.plainAttrs_str F.slot_str_find F.type_str_find ?_ ?_ ?_ ?_ ?_
  · exact fun _ _ => rfl
  · exact fun _ => rfl
  · exact fun _ => rfl
  · rfl
  refine wE_local 0 rfl rfl rfl rfl ⟨hasTy_str, ?_⟩
  refine wE_str (wE_bin (wE_local 2 rfl rfl rfl rfl (wE_int (add_ii ?_))))
  refine bi_find3 ?_
  rw [hR]
  refine st_local 3 rfl rfl rfl ?_
  refine (?_ : wSs _ _ _ _ _ _ _)
  refine wSs_cons (wS_if ?_)
  refine wB_cmp rfl (wE_local 3 rfl rfl rfl rfl (wE_int (lt_ii (tr_b ?_))))
  rw [show decide (Rr < 0) = false from decide_eq_false (by lia)]
  refine wSs_nil ?_
  refine (?_ : wSs _ _ _ _ _ _ _)
  refine wSs_cons (wS_if ?_)
  refine wB_cmp rfl ?_
  refine wE_sub (fun _ _ => ⟨_, rfl⟩) (wE_local 0 rfl rfl rfl rfl (wE_bin (wE_local 2 rfl rfl rfl rfl (wE_int (add_ii ?_)))))
  refine sub_str (by lia) (by lia) hc1 ?_
  refine wE_sub (fun _ _ => ⟨_, rfl⟩) (wE_local 0 rfl rfl rfl rfl (wE_bin (wE_local 3 rfl rfl rfl rfl (wE_int (sub_ii ?_)))))
  refine sub_str (by lia) (by lia) hc2 ?_
  refine ne_ss (tr_b ?_)
  rw [show (((⟨#[c]⟩ : Str) != (⟨#[c]⟩ : Str)) = false) by simp]
  refine wSs_nil ?_
  refine (?_ : wSs _ _ _ _ _ _ _)
  refine wSs_cons (wS_assign (fun _ => rfl) ?_)
  refine wE_m1 F.plainAttrs_str F.slot_str_split F.type_str_split ?_ ?_ ?_ ?_
  · exact fun _ _ => rfl
  · exact fun _ => rfl
  · rfl
  refine wE_cut (wE_local 0 rfl rfl rfl rfl ?_)
  refine wP_some (wE_bin (wE_local 2 rfl rfl rfl rfl (wE_int (add_ii ⟨L + 1, rfl, ?_⟩))))
  refine wP_some (wE_local 3 rfl rfl rfl rfl ⟨Rr, rfl, wP_none ?_⟩)
  refine cut_str (by lia) ⟨hasTy_str, ?_⟩
  refine wE_sub (fun _ _ => ⟨_, rfl⟩) (wE_local 0 rfl rfl rfl rfl (wE_bin (wE_local 2 rfl rfl rfl rfl (wE_int (add_ii ?_)))))
  refine sub_str (by lia) (by lia) hc1 ?_
  refine bi_split rfl (by have := Txt.slice_le x (some (L + 1)) (some Rr); lia) ?_
  rw [hs]
  refine st_local 4 rfl rfl rfl ?_
  refine (?_ : wSs _ _ _ _ _ _ _)
  refine wSs_cons (wS_if ?_)
  refine wB_cmp rfl (wE_c1 (fun _ => rfl) (wE_glob 9 gl rfl (wE_local 4 rfl rfl rfl rfl (wCall_bi (bi_len (l := [.d (.str a), .d (.str b), .d (.str d), .d (.str p), .d (.str e)]) rfl (Nat.le_of_ble_eq_true rfl) ?_)))))
  refine wE_int (ne_ii (tr_b ?_))
  refine wSs_nil ?_
  refine (?_ : wSs _ _ _ _ _ _ _)
  refine wSs_cons (wS_assign (fun _ => rfl) ?_)
  refine wE_sub (fun _ _ => ⟨_, rfl⟩) (wE_local 1 rfl rfl rfl rfl (wE_int ?_))
  refine sub_tuple (x := host) (by decide) (by decide) rfl ?_
  refine st_local 5 rfl rfl rfl ?_
  refine (?_ : wSs _ _ _ _ _ _ _)
  refine wSs_cons (wS_assign (fun _ => rfl) ?_)
  refine wE_c1 (fun _ => rfl) (wE_glob 10 gi rfl ?_)
  refine wE_sub (fun _ _ => ⟨_, rfl⟩) (wE_local 4 rfl rfl rfl rfl (wE_int ?_))
  refine sub_list (l := [.d (.str a), .d (.str b), .d (.str d), .d (.str p), .d (.str e)]) (x := .d (.str p)) rfl (by decide) (by decide) rfl ?_
  refine wCall_ty (bi_int hi hpl ?_)
  refine st_local 6 rfl rfl rfl ?_
  refine (?_ : wSs _ _ _ _ _ _ _)
  refine wSs_cons ?_
  refine wS_ret ?_
  refine wE_tupD ?_
  refine wArgs_cons (fun _ => rfl) (wE_local 5 rfl rfl rfl rfl ?_)
  refine wArgs_cons (fun _ => rfl) (wE_local 6 rfl rfl rfl rfl ?_)
  exact wArgs_nil ⟨[host, .int n], rfl, by rw [sizeLine_eq]; exact Nat.le_of_ble_eq_true rfl, hp⟩
theorem scok10 : ScOk (scopeOf PySem.Challenge.pw_wb0027_02 10) := ⟨rfl, by decide +kernel, by decide +kernel⟩
theorem parse_bind {C : Cx} {f : Value} {fd : FuncData} (B : PlainG C 10 f fd) (v u : Value) : bindArgs fd ⟨[v, u], []⟩ = (pure [(("resp" : Str), v), ("peer", u)] : Sem (List (Str × Value))) := B.bind rfl
theorem parse_ok {C : Cx} {f : Value} {fd : FuncData} (hl : NoLim C) (B : PlainG C 10 f fd) (gl : GlobIs C "len" (.builtin "len")) (gi : GlobIs C "int" (.type "int")) (x : Str) (n : Int) (h : ParseOk x n) (host port0 : D) :
    FnOk C (fun _ => none) C.P0 1 f [.d (.str x), .d (.tuple [host, port0])] [] [] fun r => r = PyData.tuple [host, .int n] := by
  have hsc := B.scope
  refine fn_ok (bs := [(("resp" : Str), .d (.str x)), ("peer", .d (.tuple [host, port0]))]) B.at_ hl (by rw [hsc]; exact scok10) (by rw [hsc]; decide +kernel) (bind2 (parse_bind B)) ?_
  intro A G A' hA
  rw [hsc]
  simp only [wStores]
  refine st_local 0 rfl rfl rfl ?_
  refine st_local 1 rfl rfl rfl ?_
  intro E
  exact parse_body (G := G.at E) _ _ gl gi x n h host port0 _ rfl
structure ParseG (C : Cx) (f : Value) : Prop where
  glob : GlobIs C "parse229" f
  ok : ∀ x n, ParseOk x n → ∀ host port0, FnOk C (fun _ => none) C.P0 1 f [.d (.str x), .d (.tuple [host, port0])] [] [] fun r => r = PyData.tuple [host, .int n]
end Mine
end
section
open PySem PySem.Calls PyProof.Rows PySem.W PySem.SeqAt PyProof.V
open PySem.Sem (wp)
namespace Mine
noncomputable def HasB (Γ : Ctx) : Prop := (Γ.below.map (·.1)).any Code.isCaller = true
noncomputable def HasC (Γ : Ctx) : Prop := ((Γ.code :: Γ.below.map (·.1)).any Code.isCaller) = true
theorem HasB.c {Γ : Ctx} (h : HasB Γ) : HasC Γ := by
  unfold HasC; rw [List.any_cons, show (Γ.below.map (·.1)).any Code.isCaller = true from h, Bool.or_true]
theorem HasC.enter {Γ : Ctx} (h : HasC Γ) (c : Code) (hd : Option Value) (p : Pos) : HasB (Γ.enter c hd p) := h
noncomputable def wpK {α : Type} (M : Model) (A : Around) (t : Sem α) (Q : α → Shared → Prop) (E : Value → Shared → Prop) (s : Shared) : Prop :=
  ∀ Γ p, Γ.In A → HasC Γ → wp M Γ t (fun a _ s' => Q a s') (fun e _ s' => E e s') p s
noncomputable def codeK (M : Model) (A : Around) (c : Code) (R : Result → Shared → Prop) (s : Shared) : Prop :=
  ∀ Γ p, Γ.code = c → Γ.Below A → HasB Γ → wpCode M Γ R p s
section
variable {α β : Type} {M : Model} {A : Around} {E : Value → Shared → Prop} {s : Shared}
theorem K.of {t : Sem α} {Q : α → Shared → Prop} (h : wpAny M A t Q E s) : wpK M A t Q E s := fun Γ p hΓ _ => h Γ p hΓ
theorem K.mono {t : Sem α} {Q Q' : α → Shared → Prop} {E' : Value → Shared → Prop} (h : wpK M A t Q E s) (hQ : ∀ a s, Q a s → Q' a s) (hE : ∀ e s, E e s → E' e s) : wpK M A t Q' E' s :=
  fun Γ p hΓ hk => Sem.wp_mono M Γ t (fun a _ s => hQ a s) (fun e _ s => hE e s) p s (h Γ p hΓ hk)
theorem K.go {t : Sem α} {Q Q' : α → Shared → Prop} {E' : Value → Shared → Prop} (h : wpAny M A t Q E s) (hQ : ∀ a s, Q a s → Q' a s) (hE : ∀ e s, E e s → E' e s) : wpK M A t Q' E' s := K.mono (K.of h) hQ hE
theorem K.pure {a : α} {Q : α → Shared → Prop} (h : Q a s) : wpK M A (Pure.pure a) Q E s := K.of (wpAny_pure h)
theorem K.bind {m : Sem α} {f : α → Sem β} {Q : β → Shared → Prop} (h : wpK M A m (fun a s' => wpK M A (f a) Q E s') E s) : wpK M A (m >>= f) Q E s := fun Γ p hΓ hk => by
  rw [Sem.wp_bind']
  exact Sem.wp_mono M Γ m (fun a p' s' h' => h' Γ p' hΓ hk) (fun _ _ _ h' => h') p s (h Γ p hΓ hk)
theorem K.onRaise {m : Sem α} {k : Value → Sem Unit} {Q : α → Shared → Prop} (h : wpK M A m Q (fun e s' => wpK M A (k e) (fun _ s'' => E e s'') E s') s) : wpK M A (m.onRaise k) Q E s := fun Γ p hΓ hk => by
  rw [Sem.wp_onRaise]
  exact Sem.wp_mono M Γ m (fun _ _ _ h' => h') (fun e p' s' h' => h' Γ p' hΓ hk) p s (h Γ p hΓ hk)
theorem K.attempt {m : Sem α} {Q : Except Value α → Shared → Prop} (h : wpK M A m (fun a => Q (.ok a)) (fun e => Q (.error e)) s) : wpK M A m.attempt Q E s := fun Γ p hΓ hk => by rw [Sem.wp_attempt]; exact h Γ p hΓ hk
theorem K.holding {vs : List Value} {m : Sem α} {Q : α → Shared → Prop} (h : wpK M A m Q E s) : wpK M A (holding vs m) Q E s := fun Γ p hΓ hk => by rw [Sem.wp_holding]; exact h Γ p hΓ hk
theorem K.standAt {pos : Pos} {Q : Unit → Shared → Prop} (h : Q () s) : wpK M A (standAt pos) Q E s := K.of (wpAny_standAt h)
theorem K.point {Q : Unit → Shared → Prop} (h : Q () s) : wpK M A point Q E s := K.of (wpAny_point h)
theorem K.run {c : Code} {h : Option Value} {Q : Flow → Shared → Prop} (hc : codeK M (A.mark h) c (fun r s' => match r with | .ok f => Q f s' | .error e => E e s') s) (hnb : h ≠ some byPass) : wpK M A (run c h) Q E s :=
  fun Γ p hΓ hk => by rw [Sem.wp_run]; exact hc _ p rfl (hΓ.enter c h p hnb) (hk.enter c h p)
theorem K.call {f : Value} {pos : List Value} {kw : List (Str × Value)} {Q : Value → Shared → Prop}
    (hc : codeK M A (.call f ⟨pos, kw⟩) (fun r s' => match r with | .ok (.ret v) => Q v s' | .ok _ => False | .error e => E e s') s) : wpK M A (call f pos kw) Q E s :=
  fun Γ p hΓ hk => by
    show wp M Γ (runValue _) _ _ p s
    rw [Sem.wp_runValue]; exact hc _ p rfl (hΓ.enter _ none p (by intro x; cases x)) (hk.enter _ none p)
theorem codeK_mono {c : Code} {R R' : Result → Shared → Prop} (h : codeK M A c R s) (hR : ∀ r s, R r s → R' r s) : codeK M A c R' s := fun Γ p hc hΓ hk => wpCode_mono hR (h Γ p hc hΓ hk)
theorem codeK_of_tree {c : Code} {R : Result → Shared → Prop}
    (h : wpK M (A.under c) (M.den c) (fun fin s' => match fin with | .done f => R (.ok f) s' | .again c' => c'.quiet = true ∧ codeK M A c' R s') (fun e s' => R (.error e) s') s) : codeK M A c R s := fun Γ p hc hΓ hk => by
  rw [wpCode_iff_wp, hc]
  refine Sem.wp_mono M Γ _ (fun fin p' s' h' => ?_) (fun _ _ _ h' => h') p s (h Γ p (hc ▸ hΓ.in) hk.c)
  cases fin with
  | done f => exact h'
  | again c' => exact ⟨h'.1, h'.2 (Γ.goto c') p' rfl (hΓ.goto c') hk⟩
theorem codeK_loop {c : Code} {R : Result → Shared → Prop} (hq : c.quiet = true) (I : Nat → Shared → Prop)
    (turn : ∀ n s, I n s → wpK M (A.under c) (M.den c) (fun fin s' => match fin with | .done f => R (.ok f) s' | .again c' => c' = c ∧ ∃ m, m < n ∧ I m s') (fun e s' => R (.error e) s') s)
    (n : Nat) (h : I n s) : codeK M A c R s := by
  induction n using Nat.strongRecOn generalizing s with
  | ind n ih =>
    refine codeK_of_tree (K.mono (turn n s h) (fun fin s' hf => ?_) fun _ _ h' => h')
    cases fin with
    | done f => exact hf
    | again c' => obtain ⟨rfl, m, hm, hI⟩ := hf; exact ⟨hq, ih m hm hI⟩
theorem K.markRefusal {own : List String} {e : Value} {Q : Unit → Shared → Prop} (h : Q () s) : wpK M A (markTheRefusal own e) Q E s := fun Γ p hΓ hk => by
  have hcal : (((Γ.code, p) :: Γ.below).map (·.1)).any Code.isCaller = true := hk
  have hno : pythonCodeMadeTheCall own (((Γ.code, p) :: Γ.below).map (·.1)) = false := by
    unfold pythonCodeMadeTheCall
    refine Bool.and_eq_false_iff.mpr (.inl (Bool.and_eq_false_iff.mpr (.inl ?_)))
    show (!((((Γ.code, p) :: Γ.below).map (·.1)).any Code.isCaller)) = false
    rw [hcal]; rfl
  show wp M Γ (if pythonCodeMadeTheCall own (((Γ.code, p) :: Γ.below).map (·.1)) = true then _ else _) _ _ p s
  rw [if_neg (by rw [hno]; exact Bool.false_ne_true)]
  exact h
end
section
variable {M : Model} {A : Around} {E : Value → Shared → Prop} {s : Shared}
theorem kCallWith_go {pos : Pos} {f : Value} {first : List Value} {args : List (Bool × Sem Value)} {keywords : List (Option Str × Sem Value)} {Q : Value → Shared → Prop} (hs : args.all (fun x => !x.1) = true) (hk : keywords.all (·.1.isSome) = true)
    (h : wpAny M A (spliced args) (fun vs s1 => wpAny M A (evalAll (keywords.map (·.2))) (fun ks s2 => CalleeOk s2 f ∧ wpK M A (call f (first ++ vs) ((keywords.filterMap (·.1)).zip ks)) Q E s2) E s1) E s) :
    wpK M A (callWith pos f first args keywords) Q E s := by
  unfold callWith
  refine K.bind (K.holding (K.go (evalArgs_go (Q := fun x s2 => CalleeOk s2 f ∧ wpK M A (call f (first ++ x.pos) x.kw) Q E s2) hs hk h) (fun x s1 h1 => K.bind (K.standAt ?_)) fun _ _ z => z))
  have e1 : args.any (·.1) = false := by
    rw [List.any_eq_false]
    intro x hx
    have := List.all_eq_true.mp hs x hx
    simpa using this
  have e2 : keywords.any (·.1.isNone) = false := by
    rw [List.any_eq_false]
    intro x hx
    have := List.all_eq_true.mp hk x hx
    rw [Option.isSome_iff_ne_none] at this
    simpa using this
  have tail : ∀ {t : Sem Value}, wpK M A t Q E s1 → wpK M A (t >>= fun r => holding [r] point >>= fun _ => pure r) Q E s1 :=
    fun ht => K.bind (K.mono ht (fun r s2 hr => K.bind (K.holding (K.point (K.pure hr)))) fun _ _ z => z)
  simp only [e1, e2, Bool.or_false]
  rcases h1 with ⟨⟨id, rfl⟩ | ⟨T, rfl⟩ | ⟨a, o, fd, rfl, ho, hd⟩, h1⟩
  · exact K.bind (K.pure (tail h1))
  · exact K.bind (K.pure (tail h1))
  · refine K.bind (m := keeperOf (.ref a)) ?_
    have hkp : ∀ {Q' : Keeper → Shared → Prop}, Q' .frame s1 → wpAny M A (keeperOf (.ref a)) Q' E s1 := fun hq => by
      unfold keeperOf
      refine wpAny_bind (wpAny_load ho ?_)
      rw [hd]
      exact wpAny_pure hq
    refine K.of (hkp ?_)
    dsimp only
    split
    · exact tail h1
    · exact tail (by
        unfold callMarked
        intro Γ p hΓ hc
        rw [Sem.wp_keep]; exact h1 Γ p hΓ hc)
theorem kCall_ofName {env : Env} {x : Str} {np pos : Pos} {args : List Expr} {keywords : List Keyword} {Q : Value → Shared → Prop}
    (h : wpAny M A (eval (.Name x np) env) (fun f s₁ => wpK M A (callWith pos f [] (backTo pos (starEach args env)) (backToKw pos (keywordEach keywords env))) Q E s₁) E s) :
    wpK M A (eval (.Call (.Name x np) args keywords pos) env) Q E s := by
  show wpK M A (do callWith pos (← eval (.Name x np) env) [] (backTo pos (starEach args env)) (backToKw pos (keywordEach keywords env))) Q E s
  exact K.bind (K.of h)
theorem kExecs_cons {env : Env} {st rest} {Q : Flow → Shared → Prop} (h : wpK M A (exec st env) (fun f s' => match f with | .next => wpK M A (execs rest env) Q E s' | f => Q f s') E s) : wpK M A (execs (st :: rest) env) Q E s := by
  rw [execs_cons]
  refine K.bind (K.mono h (fun f s' h' => ?_) fun _ _ z => z)
  cases f with
  | next => exact h'
  | brk => exact K.pure h'
  | cont => exact K.pure h'
  | ret v => exact K.pure h'
end
section
variable {prog : Program} {w : World} {A : Around} {E : Value → Shared → Prop} {s : Shared} {R : Result → Shared → Prop}
theorem codeK_call_function {a : Addr} {args : Args} {o : Obj} {fd : FuncData} {body : List Stmt} (hroom : A.depth < recursionLimit)
    (ho : s.heap.get? a = some o) (hd' : o.data = .func fd) (hco : fd.scope.isCoroutine = false) (hgen : fd.scope.isGenerator = false) (hbody : fd.body = .stmts body) (hcd : s.heap.CodeRec fd.code fd.qualname)
    (h : wpAny (model prog w) A.in1 (bindArgs fd args) (fun binds s₁ => wpAny (model prog w) A.in1 (newFunctionEnv fd.scope fd.globals fd.closure binds (fd.qualname ++ ".<locals>.") (some a) fd.code none fd.builtins)
        (fun env s₂ => s₂.heap.NoLimit ∧ codeK (model prog w) A (.func body env) R s₂) (fun e s' => R (.error e) s') s₁) (fun e s' => R (.error e) s') s) :
    codeK (model prog w) A (.call (.ref a) args) R s := by
  refine byC fun hC1 => ?_
  obtain ⟨c, oc, vs, tq, hc, hoc, hdc, hq⟩ := hcd
  refine hC1 ?_
  refine codeK_of_tree ?_
  have hload : ∀ {Q : Obj → Shared → Prop}, Q o s → wpK (model prog w) A.in1 (load a) Q (fun e s' => R (.error e) s') s := fun q => K.of (wpAny_load ho q)
  show wpK _ A.in1 (callAny (.ref a) args) _ _ s
  simp only [callAny]
  refine K.bind (hload ?_)
  simp only [hd', callFunction, hco, hgen, hbody, hc]
  rw [hc] at h
  refine K.bind (m := field (.ref c) 1) (K.of (wpAny_field hoc hdc hq (K.bind (K.pure ?_))))
  exact K.bind (K.go h (fun binds s₁ h₁ => K.bind (K.go h₁ (fun env s₂ h₂ => K.bind (K.of (wpAny_enterFrame h₂.1 hroom (K.pure (And.intro rfl h₂.2))))) fun _ _ h' => h')) fun _ _ h' => h')
theorem codeK_func {body : List Stmt} {env : Env}
    (h : wpK (model prog w) (A.deeper env) (execs body env) (fun f s' => R (.ok (.ret (match f with | .ret v => v | _ => .none))) s')
      (fun e s' => wpAny (model prog w) (A.deeper env) (leaving env e) (fun _ s'' => R (.error e) s'') (fun e' s'' => R (.error e') s'') s') s) :
    codeK (model prog w) A (.func body env) R s := by
  refine codeK_of_tree ?_
  show wpK _ (A.deeper env) (do point; match ← (execs body env).onRaise (leaving env) with | .ret v => ret v | _ => ret .none) _ _ s
  refine K.bind (K.point (K.bind (K.onRaise (K.mono h (fun f s' h' => ?_) fun e s' h' => K.of h'))))
  cases f <;> exact K.pure h'
theorem kTry_except {env : Env} {body orelse : List Stmt} {h₀ : ExceptHandler} {hs : List ExceptHandler} {pos : Pos} {Q : Flow → Shared → Prop}
    (h : wpK (model prog w) A (execs body env) (fun f s₁ => match f with | .next => wpAny (model prog w) A (execs orelse env) Q E s₁ | f => Q f s₁)
      (fun e s₁ => wpAny (model prog w) A (noteFrame e env) (fun _ s₂ => wpAny (model prog w) A (setFlight e none) (fun _ s₃ => wpAny (model prog w) A (handleBy e env (h₀ :: hs)) Q E s₃) E s₂) E s₁) s) :
    wpK (model prog w) A (exec (.Try body (h₀ :: hs) orelse [] pos) env) Q E s := by
  rw [arm_exec_Try]
  refine K.bind (K.standAt ?_)
  unfold tryStmt
  simp only [List.isEmpty_nil, if_true, List.isEmpty_cons, Bool.false_and, Bool.false_eq_true, if_false]
  refine K.bind (K.attempt (K.mono h (fun f s₁ h₁ => ?_) fun e s₁ h₁ => ?_))
  · cases f <;> first | exact K.of h₁ | exact K.pure h₁
  · exact K.of (wpAny_bind (wpAny_mono h₁ (fun _ _ h₂ => wpAny_bind h₂) fun _ _ z => z))
theorem kExpr {env : Env} {e : Expr} {pos : Pos} {Q : Flow → Shared → Prop} (h : wpK (model prog w) A (eval e env) (fun _ => Q .next) E s) (hi : interactive env = false) (hs : swapsWith e none pos.line env = pure false) : wpK (model prog w) A (exec (.Expr e pos) env) Q E s := by
  rw [exec_Expr env e pos hi hs]
  exact K.bind (K.standAt (K.bind (K.mono h (fun v s' h' => K.of (wpAny_dropValue h')) fun _ _ z => z)))
theorem kAssign_raise {env : Env} {x : Str} {pos' pos : Pos} {value : Expr} {Q : Flow → Shared → Prop} (h : wpK (model prog w) A (eval value env) (fun _ _ => False) E s) (hs : swapsWith value (some (.Name x pos')) pos.line env = pure false) : wpK (model prog w) A (exec (.Assign [.Name x pos'] value pos) env) Q E s := by
  rw [exec_Assign_Name env x pos' value pos hs]
  exact K.bind (K.standAt (K.bind (K.mono h (fun _ _ z => z.elim) fun _ _ z => z)))
end
noncomputable def WK {α β : Type} (rel : Kp → List Addr → β → α → Prop) (C : Cx) (A : Around) (G : Gd) (ae : AEnv) (st : List AObj) (t : Sem α) (Q : β → List AObj → Prop) : Prop :=
  ∀ κ σ s, EnvR ae σ G.env → Rel C G.φ G.κ₀ κ σ st s → wpK (model C.prog C.w) A t (PA rel C G.φ G.κ₀ κ σ Q) G.E s
theorem PA.wpK {α β : Type} {C : Cx} {rel : Kp → List Addr → β → α → Prop} {φ κ₀ κ κ' : Kp} {σ σ' : List Addr} {Q : β → List AObj → Prop} {s : Shared} {M : Model} {A : Around} {E : Value → Shared → Prop} {t : Sem α} (k : Kle κ κ') (p : σ <+: σ')
    (h : Mine.wpK M A t (PA rel C φ κ₀ κ' σ' Q) E s) : Mine.wpK M A t (PA rel C φ κ₀ κ σ Q) E s := K.mono h (fun _ _ z => z.up k p) fun _ _ z => z
section
variable {C : Cx} {A : Around} {G : Gd} {ae : AEnv} {st : List AObj}
theorem WK.of {α β : Type} {rel : Kp → List Addr → β → α → Prop} {t : Sem α} {Q : β → List AObj → Prop} (h : W rel C A G ae st t Q) : WK rel C A G ae st t Q := fun κ σ s e X => K.of (h κ σ s e X)
noncomputable abbrev wEK (C : Cx) (A : Around) (G : Gd) (ae : AEnv) (st : List AObj) (e : Expr) (Q : AV → List AObj → Prop) : Prop := WK RV C A G ae st (eval e G.env) Q
noncomputable abbrev wBK (C : Cx) (A : Around) (G : Gd) (ae : AEnv) (st : List AObj) (e : Expr) (Q : Bool → List AObj → Prop) : Prop := WK RB C A G ae st (isTrue e G.env (eval e G.env)) Q
noncomputable abbrev wSK (C : Cx) (A : Around) (G : Gd) (ae : AEnv) (st : List AObj) (x : Stmt) (Q : AF → List AObj → Prop) : Prop := WK RF C A G ae st (exec x G.env) Q
noncomputable abbrev wSsK (C : Cx) (A : Around) (G : Gd) (ae : AEnv) (st : List AObj) (x : List Stmt) (Q : AF → List AObj → Prop) : Prop := WK RF C A G ae st (execs x G.env) Q
noncomputable def thenSsK (C : Cx) (A : Around) (G : Gd) (ae : AEnv) (r : List Stmt) (Q : AF → List AObj → Prop) (f : AF) (st1 : List AObj) : Prop := match f with | .next => wSsK C A G ae st1 r Q | f => Q f st1
theorem wSsK_consK {x : Stmt} {r : List Stmt} {Q : AF → List AObj → Prop} (h : wSK C A G ae st x (thenSsK C A G ae r Q)) : wSsK C A G ae st (x :: r) Q := fun κ σ s e X =>
  kExecs_cons (K.mono (h κ σ s e X) (fun f s1 z => z.go fun κ' σ' f' st' k1 p1 X' rr q => by
    cases f' with
    | next => cases (rr : f = .next); exact K.mono (q κ' σ' s1 (e.mono p1) X') (fun _ _ z => z.up k1 p1) fun _ _ z => z
    | brk => cases (rr : f = .brk); exact ⟨κ', σ', .brk, st', k1, p1, X', rfl, q⟩
    | cont => cases (rr : f = .cont); exact ⟨κ', σ', .cont, st', k1, p1, X', rfl, q⟩
    | ret a => obtain ⟨v, rfl, rv⟩ := rr; exact ⟨κ', σ', .ret a, st', k1, p1, X', ⟨v, rfl, rv⟩, q⟩) fun _ _ z => z)
theorem wSsK_cons {x : Stmt} {r : List Stmt} {Q : AF → List AObj → Prop} (h : wS C A G ae st x (thenSsK C A G ae r Q)) : wSsK C A G ae st (x :: r) Q := wSsK_consK (WK.of h)
theorem wSK_expr {x : Expr} {pos : Pos} {Q : AF → List AObj → Prop} (hs : ∀ env, swapsWith x none pos.line env = pure false) (h : wEK C A G ae st x fun _ st1 => Q .next st1) : wSK C A G ae st (.Expr x pos) Q := fun κ σ s e X =>
  kExpr (K.mono (h κ σ s e X) (fun v s1 z => z.go fun κ1 σ1 a st1 k1 p1 X1 r1 q1 => ⟨κ1, σ1, .next, st1, k1, p1, X1, rfl, q1⟩) fun _ _ z => z) (by unfold interactive; rw [e.kind]; rfl) (hs _)
theorem wSK_assignRaise {x : Str} {p pos : Pos} {value : Expr} {Q : AF → List AObj → Prop} (hs : ∀ env, swapsWith value (some (.Name x p)) pos.line env = pure false)
    (h : wEK C A G ae st value fun _ _ => False) : wSK C A G ae st (.Assign [.Name x p] value pos) Q := fun κ σ s e X =>
  kAssign_raise (K.mono (h κ σ s e X) (fun v s1 ⟨_, _, _, _, _, _, _, _, q⟩ => q) fun _ _ z => z) (hs _)
end
end Mine
end
section
open PySem PySem.Calls PyProof.Rows PySem.W PySem.SeqAt PyProof.V PySem.NumText
open PySem.Sem (wp)
set_option maxRecDepth 100000
namespace Mine
theorem specialNone {x : PySem.Str} {u : Tok} {n : PySem.Str} (h : typeLookup (.type "str") n = pure none) : specialOf (.str x u) n = pure none := by
  unfold specialOf
  have f6 : typeOf (.str x u) = pure (.type "str") := rfl
  simp only [f6, pure_bind, h]
theorem callSpecialNone {x : PySem.Str} {u : Tok} {n : PySem.Str} (h : typeLookup (.type "str") n = pure none) : callSpecial? (.str x u) n = pure none := by
  unfold callSpecial?
  rw [specialNone h]; rfl
set_option maxHeartbeats 1000000 in
theorem int_obj_eq (x : PySem.Str) (u : Tok) : (int_private% "intFromObject") (.str x u) = (int_private% "intFromText") (.str x u) (numTextOf x) 10 := by
  show (callSpecial? (.str x u) "__int__" >>= _) = _
  rw [callSpecialNone KIN.str_int, pure_bind]
  show (specialOf (.str x u) "__index__" >>= _) = _
  rw [specialNone KIN.str_idx, pure_bind]
  show (specialOf (.str x u) "__trunc__" >>= _) = _
  rw [specialNone KIN.str_trunc, pure_bind]
  rfl
set_option maxHeartbeats 1000000 in
theorem int_new_eq (x : PySem.Str) (u : Tok) : Builtin.«int.__new__» ⟨[.type "int", .str x u], []⟩ = ((int_private% "intFromText") (.str x u) (numTextOf x) 10 >>= fun v => ret v) := by
  have f1 := F.conv_sub_int
  have f2 := F.madeHere_int
  unfold Builtin.«int.__new__»
  simp only [f1, f2, pure_bind, isType]
  rw [← int_obj_eq]
  rfl
theorem int_text_eq {x : PySem.Str} {u : Tok} (hs : (numSeenOf x).length ≤ 640) (hr : (int_private% "readNumeral") 0 10 (numSeenOf x) = int_private% "Numeral.invalid") :
    (int_private% "intFromText") (.str x u) (numTextOf x) 10 = (rule "int.__new__.invalid-literal" >>= fun _ => pyRepr (.str x u) >>= fun shown =>
      mkStr (((s!"invalid literal for int() with base {10}: " : String) ++ ⟨shown.cps.extract 0 200⟩ : PySem.Str)) >>= fun m => newExc (.type "ValueError") [m] >>= fun refusal => markTheRefusal ["int.__new__"] refusal >>= fun _ => raiseNew refusal) := by
  show (if (numSeenOf x).length ≤ 640 then _ else _) = _
  rw [if_pos hs, pure_bind]
  dsimp only
  rw [hr]
  rfl
theorem shown_len (y : PySem.Str) : ((((s!"invalid literal for int() with base {10}: " : String) : PySem.Str) ++ ⟨y.cps.extract 0 200⟩ : PySem.Str)).length ≤ sizeLine := by
  have h0 : (s!"invalid literal for int() with base {10}: " : String) = "invalid literal for int() with base 10: " := by decide +kernel
  have h1 : (PySem.Str.ofString (s!"invalid literal for int() with base {10}: " : String)).length ≤ 60 := by rw [h0]; decide +kernel
  rw [PySem.Str.length_append]
  have h2 : (⟨y.cps.extract 0 200⟩ : PySem.Str).length ≤ 200 := by
    show (y.cps.extract 0 200).size ≤ 200
    rw [Array.size_extract]; lia
  rw [sizeLine_eq]
  have h3 : (((s!"invalid literal for int() with base {10}: " : String) : PySem.Str)).length ≤ 60 := h1
  lia
theorem kInt_raise {prog : Program} {w : World} {A : Around} {E : Value → Shared → Prop} {s : Shared} {x : PySem.Str} {u : Tok} {Q : Value → Shared → Prop} (hh : A.handled = none) (hs : (numSeenOf x).length ≤ 640) (hx : (reprText x).length ≤ sizeLine) (hr : (int_private% "readNumeral") 0 10 (numSeenOf x) = int_private% "Numeral.invalid")
    (h : ∀ h' tk e, Heap.NewExc s.heap h' e "ValueError" → E (.ref e) { s with heap := h', toks := tk }) : wpK (model prog w) A ((int_private% "intFromText") (.str x u) (numTextOf x) 10) Q E s := by
  rw [int_text_eq hs hr]
  refine K.bind (K.of (wpAny_rule ?_))
  refine K.bind (K.of (wpAny_pyRepr_str ?_ hx))
  refine K.bind (K.of (wpAny_mkStr ?_ (shown_len _)))
  have hp := plainExc_ValueError
  refine K.bind (K.of ?_)
  unfold newExc newTuple
  refine wpAny_bind (wpAny_newObj_type ?_)
  refine wpAny_bind (m := firstArgMember _ _) (wpAny_of_eq (a := Value.none) (by simp only [firstArgMember, hp.first]; rfl) ?_)
  rw [hp.own]
  refine wpAny_newObj_type ?_
  refine K.bind (K.markRefusal (K.of ?_))
  unfold raiseNew
  refine wpAny_bind (wpAny_handled ?_)
  rw [hh]
  first
    | refine wpAny_throw ?_
    | refine wpAny_bind (wpAny_pure (wpAny_throw ?_))
  exact h _ _ _ ⟨fun b o hb => Heap.get?_push_of_some _ (Heap.get?_push_of_some _ hb), Heap.get?_none_of_le (by simp), _, .ref s.heap.objs.size, Heap.get?_push_size _ rfl, rfl, by simp⟩
theorem codeK_builtin {prog : Program} {w : World} {A : Around} {R : Result → Shared → Prop} {s : Shared} {id : String} {args : Args} {b : Builtin} (hb : entryFor table id = some b)
    (h : wpK (model prog w) (A.under (.builtin id args)) (b args) (fun fin s' => match fin with | .done f => R (.ok f) s' | .again c' => c'.quiet = true ∧ codeK (model prog w) A c' R s') (fun e s' => R (.error e) s') s) :
    codeK (model prog w) A (.builtin id args) R s := by
  refine codeK_of_tree ?_
  show wpK _ _ (match entryFor table id with | some b => b args | none => unsupported ((withoutEnding? id "#data").getD id)) _ _ s
  rw [hb]; exact h
theorem kCall_int_raise {prog : Program} {w : World} {A : Around} {E : Value → Shared → Prop} {s : Shared} {x : PySem.Str} {u : Tok} {Q : Value → Shared → Prop} (hh : A.handled = none) (hs : (numSeenOf x).length ≤ 640) (hx : (reprText x).length ≤ sizeLine) (hr : (int_private% "readNumeral") 0 10 (numSeenOf x) = int_private% "Numeral.invalid")
    (h : ∀ h' tk e, Heap.NewExc s.heap h' e "ValueError" → E (.ref e) { s with heap := h', toks := tk }) : wpK (model prog w) A (call (.type "int") [.str x u]) Q E s := by
  have ft := F.called_int
  refine K.call (codeK_of_tree ?_)
  show wpK _ _ (callAny (.type "int") _) _ _ _
  refine K.pure ⟨Code.quiet_builtin _ (by decide +kernel), codeK_builtin F.entry_type_call ?_⟩
  rw [Around.under_plain (weight_type_call_type "int" _ []) (units_type_call_type "int" _ [])]
  have h2 := ft.canCreate
  refine byC fun hC1 => ?_
  obtain ⟨c, tl, hmro⟩ := ft.mro
  have e : ∃ k, Builtin.«type.__call__» ⟨[.type "int", .str x u], []⟩ = (holding [.builtin "int.__new__"] (call (.builtin "int.__new__") [.type "int", .str x u]) >>= k) := by
    refine ⟨?_, ?_⟩
    rotate_left
    · unfold Builtin.«type.__call__»
      simp only [ft.notType, h2, F.typeCall_int_1, hmro, ft.made, pure_bind, Bool.false_eq_true, if_false]
      exact rfl
  obtain ⟨k, e⟩ := e
  refine hC1 ?_
  rw [e]
  refine K.bind (K.holding (K.mono (Q := fun _ _ => False) ?_ (fun _ _ q => q.elim) fun _ _ z => z))
  refine K.call (codeK_of_tree ?_)
  show wpK _ A.in1.in1 (do checkBuiltinCall "int.__new__" ⟨[.type "int", .str x u], []⟩; again (.builtin "int.__new__" _)) _ _ _
  refine K.bind (K.of (wpAny_of_eq (F.newCall_int_1 _) (show _ from ?_)))
  refine K.pure ⟨plainId_quiet ft.plain _, codeK_builtin F.entry_int_new ?_⟩
  rw [Around.under_plainId ft.plain, int_new_eq]
  exact K.bind (K.mono (Q := fun _ _ => False) (kInt_raise hh hs hx hr h) (fun _ _ q => q.elim) fun _ _ z => z)
end Mine
end
section
open PySem PySem.Calls PyProof.Rows PySem.W PySem.SeqAt PyProof.V
namespace Mine
noncomputable def frs (outer : List Env) : List Addr := outer.filterMap (·.frame)
structure FrOk (C : Cx) (A : Around) (κ : Kp) (s : Shared) (outer : List Env) : Prop where
  frames : A.frames = some outer
  each : ∀ env ∈ outer, env.scope.kind ≠ .module ∧ ∃ L o, env.frame = some L ∧ κ L = none ∧ L ∉ C.tabs ∧ s.heap.get? L = some o ∧ ∀ vs, o.data ≠ .fields vs
inductive FrAt (C : Cx) (κ : Kp) (s : Shared) (env : Env) (L : Addr) : Prop
  | mk (hk : env.scope.kind ≠ .module) (o : Obj) (h3 : κ L = none) (h4 : L ∉ C.tabs) (h5 : s.heap.get? L = some o) (h6 : ∀ vs, o.data ≠ .fields vs)
theorem FrOk.eachL {C : Cx} {A : Around} {κ : Kp} {s : Shared} {outer : List Env} (h : FrOk C A κ s outer) {env : Env} (hm : env ∈ outer) {L : Addr} (hL : env.frame = some L) : FrAt C κ s env L := by
  obtain ⟨h1, L', o, h2, h3, h4, h5, h6⟩ := h.each env hm
  cases hL.symm.trans h2
  exact ⟨h1, o, h3, h4, h5, h6⟩
structure ExSay where
  cls : Value
  msg : Option Str
noncomputable def ExSay.at (x : ExSay) (h h' : Heap) (a0 : Value) : Prop := match x.msg with
  | none => True
  | some m => ∃ t tk, a0 = .ref t ∧ h'.get? t = some { cls := .type "tuple", data := .seq [.str m tk].toArray } ∧ h.get? t = none
inductive MadeX (x : ExSay) (s : Shared) (e : Addr) (s' : Shared) : Prop
  | mk (he : ∃ h' tk, s' = { s with heap := h', toks := tk }) (hkeep : ∀ b o, s.heap.get? b = some o → s'.heap.get? b = some o) (hnew : s.heap.get? e = none) (oe : Obj) (ws : Array Value) (a0 : Value) (h1 : s'.heap.get? e = some oe) (h2 : oe.cls = x.cls) (h3 : oe.data = .fields ws) (h4 : ws[1]? = some .none) (h5 : ws[0]? = some a0) (h6 : x.at s.heap s'.heap a0)
theorem MadeX.ofMade {x : ExSay} {s : Shared} {e : Addr} {h' : Heap} {ms : Str} {tk : Tok} (m : Heap.MadeExcOf s.heap h' e x.cls [.str ms tk]) (hx : x.msg = some ms) : MadeX x s e { s with heap := h' } := by
  refine byC fun hC1 => ?_
  obtain ⟨t, he, htn, ht⟩ := m.there
  refine hC1 ?_
  refine ⟨⟨h', s.toks, rfl⟩, m.keeps, m.new, _, _, .ref t, he, rfl, rfl, rfl, rfl, ?_⟩
  unfold ExSay.at; rw [hx]; exact ⟨t, tk, rfl, ht, htn⟩
theorem MadeX.ofNew {cls : String} {s : Shared} {e : Addr} {h' : Heap} {tk : Tok} (m : Heap.NewExc s.heap h' e cls) : MadeX ⟨.type cls, none⟩ s e { s with heap := h', toks := tk } := by
  refine byC fun hC1 => ?_
  obtain ⟨ob, t, he, hc, hd⟩ := m.there
  refine hC1 ?_
  exact ⟨⟨h', tk, rfl⟩, m.keeps, m.new, ob, _, t, he, hc, hd, rfl, rfl, trivial⟩
inductive Fly (C : Cx) (κ : Kp) (s : Shared) (outer : List Env) (x : ExSay) (e : Addr) (s' : Shared) : Prop
  | mk (base : Heap) (κ' : Kp) (a0 : Value) (k : Kle κ κ') (B : Base C κ' s') (hn : ∀ b o, κ' b = some o → κ b = some o ∨ s.heap.get? b = none) (hb : ∀ b o, b ∉ C.tabs → b ∉ frs outer → s.heap.get? b = some o → base.get? b = some o)
    (hsl : ∀ b ∈ frs outer, ∀ o, s.heap.get? b = some o → ∃ sl, s'.heap.get? b = some { o with slots := sl }) (hκb : ∀ b o, κ' b = some o → base.get? b = some o) (htb : ∀ P ∈ C.tabs, ∃ o, base.get? P = some o) (hfl : Heap.FlyingW base outer e x.cls a0 s'.heap)
    (hmsg : match x.msg with | none => True | some m => ∃ t tk, a0 = .ref t ∧ s'.heap.TupAt t [.str m tk] ∧ base.get? t = none)
noncomputable def FnRaise (C : Cx) (n : Nat) (f : Value) (as : List AV) (names : List Str) (ks : List AV) (x : ExSay) : Prop :=
  ∀ A E κ s vs kvs outer, AOk A n → Base C κ s → FrOk C A κ s outer → RVL κ [] as vs → RVL κ [] ks kvs → (∀ e s', Fly C κ s outer x e s' → E (.ref e) s') →
    CalleeOk s f ∧ wpK (model C.prog C.w) A (call f vs (names.zip kvs)) (fun _ _ => False) E s
noncomputable def RaiseE (C : Cx) (G : Gd) (x : ExSay) (N : List Str) : Prop := ∀ κ σ st V s e s', Rel C G.φ G.κ₀ κ σ (.ns N V :: st) s → σ[0]? = some G.env.locals → MadeX x s e s' → G.E (.ref e) s'
theorem funFrames_of {h base : Heap} : ∀ {l : List Env}, (∀ env ∈ l, env.scope.kind ≠ .module ∧ ∃ L o, env.frame = some L ∧ base.get? L = none ∧ h.get? L = some o ∧ ∀ vs, o.data ≠ .fields vs) → h.FunFrames base l
  | [], _ => trivial
  | env :: r, h => ⟨(h env List.mem_cons_self).1, (h env List.mem_cons_self).2, funFrames_of fun e he => h e (List.mem_cons_of_mem _ he)⟩
theorem FrOk.ofMem {C : Cx} {A : Around} {κ : Kp} {s : Shared} {outer : List Env} (h : FrOk C A κ s outer) {b : Addr} (hb : b ∈ frs outer) : ∃ env, FrAt C κ s env b := by
  obtain ⟨env, hm, hf⟩ := List.mem_filterMap.mp hb
  exact ⟨env, h.eachL hm hf⟩
inductive HideOf (h : Heap) (l : List Addr) : Prop
  | mk (base : Heap) (h1 : ∀ b o, base.get? b = some o → h.get? b = some o) (h2 : ∀ b ∈ l, base.get? b = none) (h3 : ∀ b o, b ∉ l → h.get? b = some o → base.get? b = some o)
theorem hideOf (h : Heap) (l : List Addr) : HideOf h l := ⟨hideAll h l, fun _ _ e => of_hideAll _ e, fun _ hb => hideAll_none _ hb, fun _ _ hb e => hideAll_get _ e hb⟩
theorem fn_raise {C : Cx} {f : Value} {fd : FuncData} {body : List Stmt} {n : Nat} {as : List AV} {names : List Str} {ks : List AV} {bs : List (Str × AV)} {x : ExSay} (F : FnAt C f fd body) (hl : NoLim C) (ok : ScOk fd.scope)
    (hcn : ((cellsFrom 1 fd.scope.names []).map (·.1)).Nodup)
    (hbind : ∀ (s : Shared) (vs kvs : List Value), (∀ b o, C.P0 b = some o → s.heap.get? b = some o) → vs.length = as.length → kvs.length = ks.length → ∃ binds, BindsTo s fd ⟨vs, names.zip kvs⟩ binds ∧ binds.map (·.1) = bs.map (·.1) ∧
      ∀ κ : Kp, RVL κ [] as vs → RVL κ [] ks kvs → RVL κ [] (bs.map (·.2)) (binds.map (·.2)))
    (run : ∀ A G A', AOk A n → wStores C A' G ⟨fd.scope, 0, cellsFrom 1 fd.scope.names [], fd.code, fd.qualname ++ ".<locals>."⟩ bs ([.ns (fd.scope.names.map (·.1)) (List.replicate fd.scope.names.length none)] ++ List.replicate (nCells fd.scope.names) (.cell none))
      fun st0 => ∀ E, RaiseE C (G.at E) x (fd.scope.names.map (·.1)) → wSsK C A (G.at E) ⟨fd.scope, 0, cellsFrom 1 fd.scope.names [], fd.code, fd.qualname ++ ".<locals>."⟩ st0 body (fun _ _ => False)) :
    FnRaise C (n + 1) f as names ks x := by
  intro A E κ s vs kvs outer hA B hFr ra rk hE
  refine byC fun hC1 => ?_
  obtain ⟨a, o, hf, ha, hd⟩ := F.at_
  refine hC1 ?_
  have hp0 : ∀ b o, C.P0 b = some o → s.heap.get? b = some o := fun b o e => B.keep _ _ (B.prog _ _ e)
  have hs := hp0 _ _ ha
  refine ⟨.inr (.inr ⟨a, o, fd, hf, hs, hd⟩), K.call ?_⟩
  rw [hf]
  refine byC fun hC2 => ?_
  obtain ⟨binds, hB, hn, hr⟩ := hbind s vs kvs hp0 ra.1 rk.1
  refine hC2 ?_
  refine codeK_call_function (by have := hA.depth; rw [recursionLimit]; omega) hs hd F.co F.gen F.body (F.code.rec hp0) (hB _ _ _ _ ?_)
  rw [F.closure]
  refine newEnv_go (bs := bs) (Q' := fun env st0 => ∀ E, RaiseE C ((⟨(phiS C s), κ, env, fun _ _ => False⟩ : Gd).at E) x (fd.scope.names.map (·.1)) → wSsK C (A.deeper env) ((⟨(phiS C s), κ, env, fun _ _ => False⟩ : Gd).at E) ⟨fd.scope, 0, cellsFrom 1 fd.scope.names [], fd.code, fd.qualname ++ ".<locals>."⟩ st0 body (fun _ _ => False)) (Rel.start B) CR.nil ok hcn (fun _ L0 => ⟨L0, rfl, rfl⟩) F.globals F.builtins hn (hr κ ra rk)
    (fun env => ?_) fun κ' σ' st' env s' k p e ⟨cells, he⟩ X q => ?_
  · exact run (A.deeper env) ⟨_, κ, env, _⟩ A.in1 (hA.deeper env)
  · refine ⟨hl _ X.p0, codeK_func ?_⟩
    refine K.mono (q _ ?_ κ' σ' s' e X) (fun fl s2 ⟨_, _, _, _, _, _, _, _, q2⟩ => q2.elim) fun _ _ z => z
    intro κ1 σ1 st1 V s1 ex s2 X1 hσ1' hm
    replace X1 : Rel C (phiS C s) κ κ1 σ1 (.ns (fd.scope.names.map (·.1)) V :: st1) s1 := X1
    have hframe : env.frame = some s.heap.objs.size := by rw [he]; rfl
    have hσ1 : σ1[0]? = some s.heap.objs.size := by
      have : σ1[0]? = some env.locals := hσ1'
      rw [this, he]; rfl
    have hfr2 : (A.deeper env).frames = some (env :: outer) := Around.frames_deeper hFr.frames
    have hkind : env.scope.kind ≠ .module := by rw [show env.scope = fd.scope from e.scope, ok.kind]; decide
    show wpAny _ (A.deeper env) (leaving env (.ref ex)) _ _ _
    refine byC fun hC3 => ?_
    obtain ⟨⟨h', tk, rfl⟩, hkeep, hnew, oe, ws, a0, hoe, hcls, hdat, h1, h0, hat⟩ := hm
    obtain ⟨L, oL, hL, hκL, hφL, hoL, _, mL, ⟨es, ep, hdL, _⟩, _⟩ := X1.get (i := 0) (x := .ns (fd.scope.names.map (·.1)) V) rfl trivial
    cases hσ1.symm.trans hL
    obtain ⟨base, hb1, hb2, hb3⟩ := hideOf s1.heap (s.heap.objs.size :: frs outer)
    refine hC3 ?_
    have old : ∀ b o, b ∉ C.tabs → s.heap.get? b = some o → s1.heap.get? b = some o := fun b o hb eo => X1.phi b o ((if_neg hb).trans eo)
    have hff : h'.FunFrames base (env :: outer) := funFrames_of fun env' hm => by
      rcases List.mem_cons.mp hm with rfl | hm
      · exact ⟨hkind, _, oL, hframe, hb2 _ (.head _), hkeep _ _ hoL, fun vs q => by rw [hdL] at q; cases q⟩
      · obtain ⟨h1, L', o', h2, h3, h4, h5, h6⟩ := hFr.each env' hm
        exact ⟨h1, L', o', h2, hb2 _ (.tail _ (List.mem_filterMap.mpr ⟨env', hm, h2⟩)), hkeep _ _ (old _ _ h4 h5), h6⟩
    have hκfr : ∀ b ∈ s.heap.objs.size :: frs outer, κ1 b = none := fun b hb => by
      rcases List.mem_cons.mp hb with rfl | hb
      · exact hκL
      · obtain ⟨env', _, o', h3, h4, h5, _⟩ := hFr.ofMem hb
        exact noneOf fun o q => (X1.new b o q).elim (fun h => nope h3 h) fun h => nope h ((if_neg h4).trans h5)
    have hκb : ∀ b o, κ1 b = some o → base.get? b = some o := fun b o eo => hb3 b o (fun hm => nope (hκfr b hm) eo) (X1.keep b o eo)
    have notab : ∀ b ∈ s.heap.objs.size :: frs outer, b ∉ C.tabs := fun b hb hT => by
      rcases List.mem_cons.mp hb with rfl | hb
      · exact (X1.tabs _ hT).2.2.2 (List.mem_of_getElem? hσ1)
      · obtain ⟨env', _, o', h3, h4, h5, _⟩ := hFr.ofMem hb
        exact h4 hT
    refine wpAny_leaving_firstW hfr2 hff hframe hoe (fun b o eo => hkeep b o (hb1 b o eo)) (noneOf fun o q => nope hnew (hb1 _ _ q)) hdat h1 h0 fun h'' hL => ?_
    refine byC fun hC8 => ?_
    obtain ⟨k1, ⟨_, _, k2⟩, k3, k4⟩ := hL
    refine hC8 ?_
    refine hE ex _ ⟨base, κ1, a0, X1.k0, ⟨X1.prog, fun b o eo => k1 b o (hκb b o eo), fun P hP => ?_, X1.gens, X1.os⟩, fun b o eo => ?_, fun b o hb hb2 eo => ?_, fun b hb o eo => ?_, hκb, fun P hP => ?_, ⟨k1, noneOf fun o q => nope hnew (hb1 _ _ q), k2, by rw [← hcls]; exact k3⟩, ?_⟩
    · exact ⟨(X1.tabs P hP).1.keeps (Kle.refl _) fun o' e' => k1 _ _ (hb3 P o' (fun hm => notab P hm hP) e'), (X1.tabs P hP).2.2.1⟩
    · exact (X1.new b o eo).elim .inl fun h => .inr ((if_neg fun hb => nope (X1.tabs b hb).2.2.1 eo).symm.trans h)
    · refine hb3 b o (fun hm => ?_) (old b o hb eo)
      rcases List.mem_cons.mp hm with rfl | hm
      · exact absurd (Heap.lt_size eo) (Nat.lt_irrefl _)
      · exact hb2 hm
    · obtain ⟨env', _, o', h3, h4, h5, h6⟩ := hFr.ofMem hb
      cases h5.symm.trans eo
      exact k4 _ _ (hkeep _ _ (old _ _ h4 h5)) h6
    · obtain ⟨⟨ps, eP, _⟩, _⟩ := X1.tabs P hP
      exact ⟨_, hb3 P _ (fun hm => notab P hm hP) eP⟩
    · unfold ExSay.at at hat
      cases q : x.msg with
      | none => trivial
      | some us =>
        rw [q] at hat
        refine byC fun hC12 => ?_
        obtain ⟨t, tk', ht1, ht2, ht3⟩ := hat
        refine hC12 ?_
        exact ⟨t, tk', ht1, Heap.TupAt.of_slots ⟨_, _, ht2, rfl, rfl⟩ k4, noneOf fun o q => nope ht3 (hb1 _ _ q)⟩
end Mine
end
section
open PySem PySem.Calls PyProof.Rows PySem.W PySem.SeqAt PyProof.V
namespace Mine
inductive OwnExc (C : Cx) (Cl : Addr) : Prop
  | mk (nm q N bs bm hdct sn sub ab col dd k0 k1 k2 k3 k5 newId mN bmB Bn inN bmN B nid initId : _) (h1 : mN "__init__" = none) (h2 : bm.contains (.type "BaseException") = true) (h3 : ExcBaseFacts Bn newId inN bmN) (h4 : bmB.contains (.type Bn) = true) (h5 : ExcBaseFacts B nid initId bmB)
    (h6 : ∀ h : Heap, (∀ b o, C.P0 b = some o → h.get? b = some o) → h.get? Cl = some (excClassObj nm q Cl N bs bm hdct sn sub ab col dd k0 k1 k2 k3 k5 newId) ∧ h.Ns N mN ∧ OwnTail h bmB bm)
section
variable {C : Cx} {A : Around} {G : Gd} {ae : AEnv} {st : List AObj}
theorem wS_raiseOwn {x m : Str} {np cpos pos : Pos} {arg : Expr} {Cl : Addr} {N : List Str} {Q : AF → List AObj → Prop} (i : Nat) (O : OwnExc C Cl) (g : GlobIs C x (.ref Cl)) (hk : ae.scope.names[i]? = some (x, .globalImplicit)) (hh : A.handled = none) (hL : ae.L = 0)
    (he : ∀ env, starEach [arg] env = [(false, eval arg env)]) (hE : RaiseE C G ⟨.ref Cl, some m⟩ N) (h : wE C A G ae st arg fun a st1 => a = .d (.str m) ∧ ∃ V st', st1 = .ns N V :: st') :
    wS C A G ae st (.Raise (some (.Call (.Name x np) [arg] [] cpos)) none pos) Q := fun κ σ s e X => by
  refine byC fun hC1 => ?_
  obtain ⟨nm, q, Nn, bs, bm, hdct, sn, sub, ab, col, dd, k0, k1, k2, k3, k5, newId, mN, bmB, Bn, inN, bmN, B, nid, initId, hni, hbase, Fn, hBn, F, hall⟩ := O
  refine hC1 ?_
  refine wpAny_Raise_call_subU (nm := nm) (q := q) (N := Nn) (bs := bs) (bm := bm) (hdct := hdct) (sn := sn) (sub := sub) (ab := ab) (col := col) (dd := dd) (k0 := k0) (k1 := k1) (k2 := k2) (k3 := k3) (k5 := k5) (C := Cl) (mN := mN) Fn hBn F hbase hh (by rw [he]; rfl) hni ?_
  refine wpAny_mono (wE_glob i (Q := fun a st1 => a = .glob (.ref Cl) ∧ st1 = st) g hk ⟨rfl, rfl⟩ κ σ s e X) (fun vf s1 z => z.go fun κ1 σ1 f st1 k1' p1 X1 r1 q1 => ?_) fun _ _ z => z
  cases q1.1; cases q1.2
  refine ⟨r1, evalArgs_go (by rw [he]; rfl) rfl (wpAny_mono (wArgs_cons (Q := fun as st2 => as = [.d (.str m)] ∧ ∃ V st', st2 = .ns N V :: st') (fun env => by rw [he]; rfl) (W.mono h fun a st2 q => wArgs_nil ⟨by rw [q.1], q.2⟩) κ1 σ1 s1 (e.mono p1) X1) (fun vs s2 z => z.go fun κ2 σ2 as st2 k2' p2 X2 r2 q2 => wpAny_evalAll_nil ?_) fun _ _ z => z)⟩
  refine byC fun hC3 => ?_
  obtain ⟨rfl, V, st', rfl⟩ := q2
  obtain ⟨v, rfl, t, rfl⟩ := r2.one
  obtain ⟨c1, c2, c3⟩ := hall s2.heap X2.p0
  refine hC3 ?_
  refine ⟨rfl, by rw [sizeLine_eq]; exact Nat.le_of_ble_eq_true rfl, c1, c2, c3, fun h' ex hm => ?_⟩
  exact hE κ2 σ2 st' V s2 ex _ X2 (by have := (e.mono (p1.trans p2)).loc; rw [hL] at this; exact this) (MadeX.ofMade (x := ⟨.ref Cl, some m⟩) hm rfl)
theorem wS_raiseBi {x m : Str} {np cpos pos : Pos} {arg : Expr} {cls newId initId : String} {N : List Str} {Q : AF → List AObj → Prop} (F : ExcCallFacts cls newId initId) (Gf : ExcRaiseFacts cls) (i : Nat) (g : GlobIs C x (.type cls)) (hk : ae.scope.names[i]? = some (x, .globalImplicit)) (hh : A.handled = none) (hL : ae.L = 0)
    (he : ∀ env, starEach [arg] env = [(false, eval arg env)]) (hE : RaiseE C G ⟨.type cls, some m⟩ N) (h : wE C A G ae st arg fun a st1 => a = .d (.str m) ∧ ∃ V st', st1 = .ns N V :: st') :
    wS C A G ae st (.Raise (some (.Call (.Name x np) [arg] [] cpos)) none pos) Q := fun κ σ s e X => by
  refine wpAny_Raise_call F Gf hh (by rw [he]; rfl) ?_
  refine wpAny_mono (wE_glob i (Q := fun a st1 => a = .glob (.type cls) ∧ st1 = st) g hk ⟨rfl, rfl⟩ κ σ s e X) (fun vf s1 z => z.go fun κ1 σ1 f st1 k1' p1 X1 r1 q1 => ?_) fun _ _ z => z
  cases q1.1; cases q1.2
  refine ⟨r1, evalArgs_go (by rw [he]; rfl) rfl (wpAny_mono (wArgs_cons (Q := fun as st2 => as = [.d (.str m)] ∧ ∃ V st', st2 = .ns N V :: st') (fun env => by rw [he]; rfl) (W.mono h fun a st2 q => wArgs_nil ⟨by rw [q.1], q.2⟩) κ1 σ1 s1 (e.mono p1) X1) (fun vs s2 z => z.go fun κ2 σ2 as st2 k2' p2 X2 r2 q2 => wpAny_evalAll_nil ?_) fun _ _ z => z)⟩
  refine byC fun hC2 => ?_
  obtain ⟨rfl, V, st', rfl⟩ := q2
  obtain ⟨v, rfl, t, rfl⟩ := r2.one
  refine hC2 ?_
  refine ⟨rfl, by rw [sizeLine_eq]; exact Nat.le_of_ble_eq_true rfl, fun h' ex hm => ?_⟩
  exact hE κ2 σ2 st' V s2 ex _ X2 (by have := (e.mono (p1.trans p2)).loc; rw [hL] at this; exact this) (MadeX.ofMade (x := ⟨.type cls, some m⟩) (Heap.MadeExc.of hm) rfl)
end
end Mine
end
section
open PySem PySem.Calls PyProof.Rows PySem.W PySem.SeqAt PyProof.V
set_option maxRecDepth 100000
namespace Mine
noncomputable def ParseReply (x : Str) : Prop := x.length ≤ 1000000 ∧ Txt.slice x none (some 3) ≠ "229"
noncomputable def ParseProto (x : Str) : Prop := x.length ≤ 1000000 ∧ Txt.slice x none (some 3) = "229" ∧ Txt.find x "(" < 2 ^ 60 ∧ Txt.find3 x ")" (Txt.find x "(" + 1) < 2 ^ 60 ∧
  (Txt.find x "(" < 0 ∨ (0 ≤ Txt.find x "(" ∧ (Txt.find3 x ")" (Txt.find x "(" + 1) < 0 ∨ (0 ≤ Txt.find3 x ")" (Txt.find x "(" + 1) ∧ ∃ c d, chAt x (Txt.find x "(" + 1) = some c ∧ chAt x (Txt.find3 x ")" (Txt.find x "(" + 1) - 1) = some d ∧
    (c ≠ d ∨ (c = d ∧ (Txt.split (Txt.slice x (some (Txt.find x "(" + 1)) (some (Txt.find3 x ")" (Txt.find x "(" + 1)))) ⟨#[c]⟩).length ≠ 5 ∧ (Txt.split (Txt.slice x (some (Txt.find x "(" + 1)) (some (Txt.find3 x ")" (Txt.find x "(" + 1)))) ⟨#[c]⟩).length < 2 ^ 60))))))
noncomputable abbrev names10 : List Str := (scopeOf PySem.Challenge.pw_wb0027_02 10).names.map (·.1)
theorem parse_reply {C : Cx} {A : Around} {G : Gd} {n : Nat} (hA : AOk A n) (cd : Value) (ql : Str) {R : Addr} (O : OwnExc C R) (gr : GlobIs C "error_reply" (.ref R)) (x : Str) (h : ParseReply x) (peer : D) (hE : RaiseE C G ⟨.ref R, some x⟩ names10) :
    wSs C A G ⟨scopeOf PySem.Challenge.pw_wb0027_02 10, 0, [], cd, ql⟩ [nsOf 10 [some (.d (.str x)), some (.d peer), none, none, none, none, none, none, none, none, none]] (bodyOf PySem.Challenge.pw_wb0027_02 10) (fun _ _ => False) := by
  have hS := sizeLine_eq
  obtain ⟨hsz, hc⟩ := h
  refine wSs_cons (wS_if ?_)
  refine wB_cmp rfl ?_
  refine wE_cut (wE_local 0 rfl rfl rfl rfl (wP_none (wP_some (wE_int ⟨3, rfl, wP_none ?_⟩))))
  refine cut_str (by lia) ?_
  refine wE_str (ne_ss (tr_b ?_))
  rw [show ((Txt.slice x none (some 3) != Str.ofString "229") = true) from bne_iff_ne.mpr hc]
  refine wSs_cons ?_
  exact wS_raiseOwn 7 O gr rfl hA.handled rfl (fun _ => rfl) hE (wE_local 0 rfl rfl rfl rfl ⟨rfl, _, _, rfl⟩)
set_option maxHeartbeats 4000000 in
theorem parse_proto {C : Cx} {A : Around} {G : Gd} {n : Nat} (hA : AOk A n) (cd : Value) (ql : Str) {R : Addr} (O : OwnExc C R) (gr : GlobIs C "error_proto" (.ref R)) (gl : GlobIs C "len" (.builtin "len")) (x : Str) (h : ParseProto x) (peer : D) (hE : RaiseE C G ⟨.ref R, some x⟩ names10) :
    wSs C A G ⟨scopeOf PySem.Challenge.pw_wb0027_02 10, 0, [], cd, ql⟩ [nsOf 10 [some (.d (.str x)), some (.d peer), none, none, none, none, none, none, none, none, none]] (bodyOf PySem.Challenge.pw_wb0027_02 10) (fun _ _ => False) := by
  have hS := sizeLine_eq
  refine byC fun hC1 => ?_
  obtain ⟨hsz, hcode, hlf, hrf, hcase⟩ := h
  refine hC1 ?_
  generalize hL : Txt.find x "(" = L at *
  generalize hR : Txt.find3 x ")" (L + 1) = Rr at *
  refine wSs_cons (wS_if ?_)
  refine wB_cmp rfl ?_
  refine wE_cut (wE_local 0 rfl rfl rfl rfl (wP_none (wP_some (wE_int ⟨3, rfl, wP_none ?_⟩))))
  refine cut_str (by lia) ?_
  refine wE_str (ne_ss (tr_b ?_))
  rw [hcode]
  rw [show ((Str.ofString "229" != Str.ofString "229") = false) by simp]
  refine wSs_nil ?_
  show wSs _ _ _ _ _ _ _
  refine wSs_cons (wS_assign (fun _ => rfl) ?_)
  refine wE_m1 F.plainAttrs_str F.slot_str_find F.type_str_find ?_ ?_ ?_ ?_
  · exact fun _ _ => rfl
  · exact fun _ => rfl
  · rfl
  refine wE_local 0 rfl rfl rfl rfl ⟨hasTy_str, ?_⟩
  refine wE_str (bi_find ?_)
  rw [hL]
  refine st_local 2 rfl rfl rfl ?_
  show wSs _ _ _ _ _ _ _
  refine wSs_cons (wS_if ?_)
  refine wB_cmp rfl (wE_local 2 rfl rfl rfl rfl (wE_int (lt_ii (tr_b ?_))))
  rcases hcase with hl | ⟨hl, hcase⟩
  · rw [show decide (L < 0) = true from decide_eq_true hl]
    refine wSs_cons ?_
    exact wS_raiseOwn 8 O gr rfl hA.handled rfl (fun _ => rfl) hE (wE_local 0 rfl rfl rfl rfl ⟨rfl, _, _, rfl⟩)
  rw [show decide (L < 0) = false from decide_eq_false (by lia)]
  refine wSs_nil ?_
  show wSs _ _ _ _ _ _ _
  refine wSs_cons (wS_assign (fun _ => rfl) ?_)
  refine wE_m2 F.plainAttrs_str F.slot_str_find F.type_str_find ?_ ?_ ?_ ?_ ?_
  · exact fun _ _ => rfl
  · exact fun _ => rfl
  · exact fun _ => rfl
  · rfl
  refine wE_local 0 rfl rfl rfl rfl ⟨hasTy_str, ?_⟩
  refine wE_str (wE_bin (wE_local 2 rfl rfl rfl rfl (wE_int (add_ii ?_))))
  refine bi_find3 ?_
  rw [hR]
  refine st_local 3 rfl rfl rfl ?_
  show wSs _ _ _ _ _ _ _
  refine wSs_cons (wS_if ?_)
  refine wB_cmp rfl (wE_local 3 rfl rfl rfl rfl (wE_int (lt_ii (tr_b ?_))))
  rcases hcase with hr | ⟨hr, c, d, hc, hd, hcase⟩
  · rw [show decide (Rr < 0) = true from decide_eq_true hr]
    refine wSs_cons ?_
    exact wS_raiseOwn 8 O gr rfl hA.handled rfl (fun _ => rfl) hE (wE_local 0 rfl rfl rfl rfl ⟨rfl, _, _, rfl⟩)
  rw [show decide (Rr < 0) = false from decide_eq_false (by lia)]
  refine wSs_nil ?_
  show wSs _ _ _ _ _ _ _
  refine wSs_cons (wS_if ?_)
  refine wB_cmp rfl ?_
  refine wE_sub (fun _ _ => ⟨_, rfl⟩) (wE_local 0 rfl rfl rfl rfl (wE_bin (wE_local 2 rfl rfl rfl rfl (wE_int (add_ii ?_)))))
  refine sub_str (by lia) (by lia) hc ?_
  refine wE_sub (fun _ _ => ⟨_, rfl⟩) (wE_local 0 rfl rfl rfl rfl (wE_bin (wE_local 3 rfl rfl rfl rfl (wE_int (sub_ii ?_)))))
  refine sub_str (by lia) (by lia) hd ?_
  refine ne_ss (tr_b ?_)
  rcases hcase with hcd | ⟨rfl, hp5, hpf⟩
  · rw [show (((⟨#[c]⟩ : Str) != (⟨#[d]⟩ : Str)) = true) from bne_iff_ne.mpr (fun q => hcd (by injection q with q; simpa using q))]
    refine wSs_cons ?_
    exact wS_raiseOwn 8 O gr rfl hA.handled rfl (fun _ => rfl) hE (wE_local 0 rfl rfl rfl rfl ⟨rfl, _, _, rfl⟩)
  rw [show (((⟨#[c]⟩ : Str) != (⟨#[c]⟩ : Str)) = false) by simp]
  refine wSs_nil ?_
  show wSs _ _ _ _ _ _ _
  refine wSs_cons (wS_assign (fun _ => rfl) ?_)
  refine wE_m1 F.plainAttrs_str F.slot_str_split F.type_str_split ?_ ?_ ?_ ?_
  · exact fun _ _ => rfl
  · exact fun _ => rfl
  · rfl
  refine wE_cut (wE_local 0 rfl rfl rfl rfl ?_)
  refine wP_some (wE_bin (wE_local 2 rfl rfl rfl rfl (wE_int (add_ii ⟨L + 1, rfl, ?_⟩))))
  refine wP_some (wE_local 3 rfl rfl rfl rfl ⟨Rr, rfl, wP_none ?_⟩)
  refine cut_str (by lia) ⟨hasTy_str, ?_⟩
  refine wE_sub (fun _ _ => ⟨_, rfl⟩) (wE_local 0 rfl rfl rfl rfl (wE_bin (wE_local 2 rfl rfl rfl rfl (wE_int (add_ii ?_)))))
  refine sub_str (by lia) (by lia) hc ?_
  refine bi_split rfl (by have := Txt.slice_le x (some (L + 1)) (some Rr); lia) ?_
  generalize Txt.split (Txt.slice x (some (L + 1)) (some Rr)) ⟨#[c]⟩ = parts at hp5 hpf
  refine st_local 4 rfl rfl rfl ?_
  show wSs _ _ _ _ _ _ _
  refine wSs_cons (wS_if ?_)
  refine wB_cmp rfl (wE_c1 (fun _ => rfl) (wE_glob 9 gl rfl (wE_local 4 rfl rfl rfl rfl (wCall_bi (bi_len (l := (parts.map PyData.str).map .d) rfl (by rw [List.length_map, List.length_map]; lia) ?_)))))
  refine wE_int (ne_ii (tr_b ?_))
  rw [List.length_map, List.length_map, show (((parts.length : Int) != 5) = true) from bne_iff_ne.mpr (by lia)]
  refine wSs_cons ?_
  exact wS_raiseOwn 8 O gr rfl hA.handled rfl (fun _ => rfl) hE (wE_local 0 rfl rfl rfl rfl ⟨rfl, _, _, rfl⟩)
theorem bisR_low {C : Cx} {A : Around} {G : Gd} {n : Nat} (hA : AOk A n) (cd : Value) (ql : Str) (gv : GlobIs C "ValueError" (.type "ValueError")) (a x hi kv : AV) (lo : Int) (hlo : lo < 0) (hE : RaiseE C G ⟨.type "ValueError", some "lo must be non-negative"⟩ ((scopeOf PySem.Challenge.pw_wb0027_02 1).names.map (·.1))) :
    wSs C A G ⟨scopeOf PySem.Challenge.pw_wb0027_02 1, 0, [], cd, ql⟩ [nsOf 1 [some a, some x, some (.d (.int lo)), some hi, some kv, none, none, none]] (bodyOf PySem.Challenge.pw_wb0027_02 1) (fun _ _ => False) := by
  refine wSs_cons (wS_if ?_)
  refine wB_cmp rfl (wE_local 2 rfl rfl rfl rfl (wE_int (lt_ii (tr_b ?_))))
  rw [show decide (lo < 0) = true from decide_eq_true hlo]
  refine wSs_cons ?_
  exact wS_raiseBi PySem.F.excCall_ValueError PySem.F.excRaise_ValueError 6 gv rfl hA.handled rfl (fun _ => rfl) hE (wE_str ⟨rfl, _, _, rfl⟩)
theorem bisL_low {C : Cx} {A : Around} {G : Gd} {n : Nat} (hA : AOk A n) (cd : Value) (ql : Str) (gv : GlobIs C "ValueError" (.type "ValueError")) (a x hi kv : AV) (lo : Int) (hlo : lo < 0) (hE : RaiseE C G ⟨.type "ValueError", some "lo must be non-negative"⟩ ((scopeOf PySem.Challenge.pw_wb0027_02 2).names.map (·.1))) :
    wSs C A G ⟨scopeOf PySem.Challenge.pw_wb0027_02 2, 0, [], cd, ql⟩ [nsOf 2 [some a, some x, some (.d (.int lo)), some hi, some kv, none, none, none]] (bodyOf PySem.Challenge.pw_wb0027_02 2) (fun _ _ => False) := by
  refine wSs_cons (wS_if ?_)
  refine wB_cmp rfl (wE_local 2 rfl rfl rfl rfl (wE_int (lt_ii (tr_b ?_))))
  rw [show decide (lo < 0) = true from decide_eq_true hlo]
  refine wSs_cons ?_
  exact wS_raiseBi PySem.F.excCall_ValueError PySem.F.excRaise_ValueError 6 gv rfl hA.handled rfl (fun _ => rfl) hE (wE_str ⟨rfl, _, _, rfl⟩)
end Mine
end
section
open PySem PySem.Calls PyProof.Rows PySem.W PySem.SeqAt PyProof.V
namespace Mine
noncomputable def UpFr (C : Cx) (L : Addr) (s s' : Shared) : Prop := (∀ b o, b ∉ C.tabs → b ≠ L → s.heap.get? b = some o → s'.heap.get? b = some o) ∧ ∀ o, s.heap.get? L = some o → ∃ sl, s'.heap.get? L = some { o with slots := sl }
inductive FnPostX (C : Cx) (κ : Kp) (s : Shared) (L : Addr) (post : D → Prop) (r : Value) (s' : Shared) : Prop
  | mk (κ' : Kp) (d : D) (k : Kle κ κ') (B : Base C κ' s') (hn : ∀ b o, κ' b = some o → κ b = some o ∨ s.heap.get? b = none) (hk : UpFr C L s s') (hr : R κ' d r) (hp : post d)
noncomputable def FnOkX (C : Cx) (n : Nat) (f : Value) (as : List AV) (names : List Str) (ks : List AV) (post : D → Prop) : Prop :=
  ∀ A E κ s vs kvs envL L, AOk A n → Base C κ s → FrOk C A κ s [envL] → envL.frame = some L → RVL κ [] as vs → RVL κ [] ks kvs → CalleeOk s f ∧ wpK (model C.prog C.w) A (call f vs (names.zip kvs)) (FnPostX C κ s L post) E s
theorem NsO.slots {o : Obj} {m : Str → Option Value} (h : NsO o m) (sl : Array (Option Value)) : NsO { o with slots := sl } m := let ⟨es, ep, h1, h2, h3⟩ := h; ⟨es, ep, h1, h2, h3⟩
theorem RO.slotsNs {κ : Kp} {σ : List Addr} {N : List Str} {V : List (Option AV)} {o : Obj} (h : RO κ σ (.ns N V) o) (sl : Array (Option Value)) : RO κ σ (.ns N V) { o with slots := sl } := let ⟨h1, m, h2, h3⟩ := h; ⟨h1, m, h2.slots sl, h3⟩
theorem Rel.behindX {C : Cx} {φ κ₀ κ κ' : Kp} {σ : List Addr} {N : List Str} {V : List (Option AV)} {st : List AObj} {s s' : Shared} {L : Addr} (X : Rel C φ κ₀ κ σ (.ns N V :: st) s) (hL : σ[0]? = some L) (k : Kle κ κ') (B : Base C κ' s') (hn : ∀ b o, κ' b = some o → κ b = some o ∨ s.heap.get? b = none) (hk : UpFr C L s s') : Rel C φ κ₀ κ' σ (.ns N V :: st) s' := by
  have hφT : ∀ P ∈ C.tabs, φ P = none := fun P hP => (X.tabs P hP).2.1
  have notab : ∀ a, a ∈ σ → a ∉ C.tabs := fun a ha hT => (X.tabs a hT).2.2.2 ha
  obtain ⟨L', oL, hL', hκL, hφL, hoL, hrL⟩ := X.get (i := 0) (x := .ns N V) rfl trivial
  rw [hL] at hL'; cases hL'
  refine ⟨X.prog.trans k, X.k0.trans k, fun b o e => ?_, B.keep, fun b o e => hk.1 b o (fun hT => by exact nope (hφT b hT) e) (fun q => by rw [q, hφL] at e; cases e) (X.phi b o e), X.len, X.nd, fun i a x e1 e2 => ?_, fun P hP => ?_, B.gens, B.os⟩
  · rcases hn b o e with e | e
    · exact X.new b o e
    · right
      refine noneOf fun o' q => ?_
      rw [X.phi _ _ q] at e; cases e
  · have ha := notab a (List.mem_of_getElem? e1)
    have hκ' : ∀ o, s.heap.get? a = some o → κ a = none → κ' a = none := fun o h1 h2 => by
      refine noneOf fun o' q => ?_
      rcases hn a o' q with e | e
      · exact nope h2 e
      · rw [h1] at e; cases e
    by_cases h0 : i = 0
    · subst h0
      rw [hL] at e1; cases e1
      simp at e2; subst e2
      obtain ⟨sl, hs⟩ := hk.2 oL hoL
      exact .own trivial (hκ' oL hoL hκL) hφL _ hs ((RO.slotsNs hrL sl).mono k (List.prefix_refl _))
    · have hne : a ≠ L := fun q => by
        subst q
        obtain ⟨b1, c1⟩ := List.getElem?_eq_some_iff.mp e1
        obtain ⟨b2, c2⟩ := List.getElem?_eq_some_iff.mp hL
        exact h0 ((List.getElem_inj X.nd).mp (c1.trans c2.symm))
      exact (X.own i a x e1 e2).map k (List.prefix_refl _) fun h1 h2 o h3 => ⟨hκ' o h3 h1, h2, hk.1 _ _ ha hne h3⟩
  · exact ⟨(B.tabs P hP).1, hφT P hP, (B.tabs P hP).2, (X.tabs P hP).2.2.2⟩
section
variable {C : Cx} {A : Around} {G : Gd} {ae : AEnv} {st : List AObj} {Q : AV → List AObj → Prop}
theorem wE_callX {x : Str} {np pos : Pos} {args : List Expr} {n : Nat} {f : Value} (i : Nat) (hs : ∀ env, (backTo pos (starEach args env)).all (fun x => !x.1) = true) (g : GlobIs C x f) (hk : ae.scope.names[i]? = some (x, .globalImplicit)) (hA : AOk A n)
    (hF : ∃ envL, A.frames = some [envL] ∧ envL.scope.kind ≠ .module ∧ envL.frame = G.env.frame) (hnf : noFree ae.scope = true)
    (h : wArgs C A G ae st pos args fun as st2 => ∃ post, FnOkX C n f as [] [] post ∧ (∀ a ∈ as, a.flat) ∧ (∃ N V r, st2 = .ns N V :: r) ∧ ∀ d, post d → Q (.d d) st2) : wEK C A G ae st (.Call (.Name x np) args [] pos) Q := fun κ σ s e X =>
  kCall_ofName (wpAny_mono (wE_glob i (Q := fun a st1 => a = .glob f ∧ st1 = st) g hk ⟨rfl, rfl⟩ κ σ s e X) (fun vf s1 z => z.go fun κ1 σ1 fa st1 k1 p1 X1 r1 q1 => by
    refine byC fun hC1 => ?_
    obtain ⟨rfl, rfl⟩ := q1
    cases (r1 : vf = _)
    refine hC1 ?_
    refine kCallWith_go (hs _) rfl (wpAny_mono (h κ1 σ1 s1 (e.mono p1) X1) (fun vs s2 z => z.go fun κ2 σ2 as st2 k2 p2 X2 r2 q2 => ?_) fun _ _ z => z)
    refine byC fun hC2 => ?_
    obtain ⟨post, hok, hflat, ⟨N, V, r, rfl⟩, hq⟩ := q2
    obtain ⟨envL, f1, f2, f3⟩ := hF
    obtain ⟨L, h1, h2⟩ := (e.mono (p1.trans p2)).frame hnf
    obtain ⟨L', oL, hL', hκL, hφL, hoL, hrL⟩ := X2.get (i := 0) (x := .ns N V) rfl trivial
    refine hC2 ?_
    rw [h2] at hL'; cases hL'
    have hFr : FrOk C A κ2 s2 [envL] := ⟨f1, fun env he => by
      simp at he; subst he
      refine byC fun hC3 => ?_
      obtain ⟨_, m, ⟨es, ep, hd, _⟩, _⟩ := hrL
      refine hC3 ?_
      exact ⟨f2, L, oL, f3.trans h1, hκL, fun hT => (X2.tabs L hT).2.2.2 (List.mem_of_getElem? h2), hoL, fun vs q => by rw [hd] at q; cases q⟩⟩
    refine byC fun hC4 => ?_
    obtain ⟨c, w⟩ := hok A G.E κ2 s2 vs [] envL L hA X2.base hFr (f3.trans h1) (r2.flat hflat) RVL.nil
    refine hC4 ?_
    exact wpAny_evalAll_nil ⟨c, K.mono w (fun rv s' ⟨κ', d, k, B, hn, hup, hr, hp⟩ => ⟨κ', σ2, .d d, _, (k1.trans k2).trans k, p1.trans p2, X2.behindX h2 k B hn hup, hr, hq d hp⟩) fun _ _ z => z⟩) fun _ _ z => z)
end
end Mine
end
section
open PySem PySem.Calls PyProof.Rows PySem.W PySem.SeqAt PyProof.V
set_option maxRecDepth 100000
namespace Mine
section
variable {M : Model} {A : Around} {E : Value → Shared → Prop}
theorem exm_own {h : Heap} {g : Array GenState} {d : Drawn} {t : Nat} {os : OsState} {e : Addr} {oe : Obj} {Q : Bool → Shared → Prop}
    {nm q : Str} {C N : Addr} {bs bm : List Value} {hdct : Bool} {sn : List Str} {sub : List Value} {ab : Bool} {col : Option Bool} {dd : Option Addr} {k0 k1 k2 k3 k5 : Option Value} {newId : String}
    {nm' q' : Str} {C' N' : Addr} {bs' bm' : List Value} {hdct' : Bool} {sn' : List Str} {sub' : List Value} {ab' : Bool} {col' : Option Bool} {dd' : Option Addr} {k0' k1' k2' k3' k5' : Option Value} {newId' : String}
    (hC : h.get? C = some (excClassObj nm q C N bs bm hdct sn sub ab col dd k0 k1 k2 k3 k5 newId)) (hC' : h.get? C' = some (excClassObj nm' q' C' N' bs' bm' hdct' sn' sub' ab' col' dd' k0' k1' k2' k3' k5' newId'))
    (he : h.get? e = some oe) (hcls : oe.cls = .ref C) (hbase : bm'.contains (.type "BaseException") = true)
    (hq : Q ((Value.ref C :: bm).contains (.ref C')) ⟨h, g, d, t, os⟩) : wpAny M A (excMatches (.ref e) (.ref C')) Q E ⟨h, g, d, t, os⟩ := by
  have hcB : (Value.ref C' :: bm').contains (.type "BaseException") = true := by rw [List.contains_cons, hbase, Bool.or_true]
  have f := tc_notTuple
  unfold excMatches
  repeat (first | (with_reducible refine wpAny_loadPart_at he ?_; rw [hcls]) | with_reducible refine wpAny_loadPart_at hC' ?_ | (with_reducible refine wpAny_isSubtype_exc hC' ?_; rw [hcB]) | (with_reducible refine wpAny_isSubtype_exc hC ?_) | wp_step)
  cases hb : (Value.ref C :: bm).contains (.ref C') <;> (rw [hb] at hq; wp_walk; exact hq)
theorem exm_ownOfBi {h : Heap} {g : Array GenState} {d : Drawn} {t : Nat} {os : OsState} {e : Addr} {oe : Obj} {X : String} {Q : Bool → Shared → Prop}
    {nm' q' : Str} {C' N' : Addr} {bs' bm' : List Value} {hdct' : Bool} {sn' : List Str} {sub' : List Value} {ab' : Bool} {col' : Option Bool} {dd' : Option Addr} {k0' k1' k2' k3' k5' : Option Value} {newId' : String}
    (hC' : h.get? C' = some (excClassObj nm' q' C' N' bs' bm' hdct' sn' sub' ab' col' dd' k0' k1' k2' k3' k5' newId'))
    (he : h.get? e = some oe) (hcls : oe.cls = .type X) (hbase : bm'.contains (.type "BaseException") = true) (hsub : isSubtype (.type X) (.ref C') = pure false)
    (hq : Q false ⟨h, g, d, t, os⟩) : wpAny M A (excMatches (.ref e) (.ref C')) Q E ⟨h, g, d, t, os⟩ := by
  have hcB : (Value.ref C' :: bm').contains (.type "BaseException") = true := by rw [List.contains_cons, hbase, Bool.or_true]
  have f := tc_notTuple
  unfold excMatches
  repeat (first | (with_reducible refine wpAny_loadPart_at he ?_; rw [hcls]) | with_reducible refine wpAny_loadPart_at hC' ?_ | (with_reducible refine wpAny_isSubtype_exc hC' ?_; rw [hcB]) | with_reducible refine wpAny_of_eq hsub ?_ | wp_step)
  all_goals (first | exact hq | skip)
end
end Mine
end
section
open PySem PySem.Calls PyProof.Rows PySem.W PySem.SeqAt PyProof.V
open PySem.Sem (wp)
set_option maxRecDepth 100000
namespace Mine
theorem execs_app_wp {M : Model} {Γ : Ctx} {env : Env} {b : List Stmt} {Q : Flow → Pos → Shared → Prop} {E : Value → Pos → Shared → Prop} : ∀ (a : List Stmt) (p : Pos) (s : Shared),
    wp M Γ (execs a env) (fun f p1 s1 => match f with | .next => wp M Γ (execs b env) Q E p1 s1 | f => Q f p1 s1) E p s → wp M Γ (execs (a ++ b) env) Q E p s
  | [], p, s, h => by
    have : execs [] env = pure .next := rfl
    rw [this, Sem.wp_pure'] at h
    exact h
  | x :: r, p, s, h => by
    rw [List.cons_append, execs_cons, Sem.wp_bind']
    rw [execs_cons, Sem.wp_bind'] at h
    refine Sem.wp_mono M Γ _ (fun f p' s' h' => ?_) (fun _ _ _ h' => h') _ _ h
    cases f with
    | next => exact execs_app_wp r p' s' h'
    | brk => rw [Sem.wp_pure'] at h' ⊢; exact h'
    | cont => rw [Sem.wp_pure'] at h' ⊢; exact h'
    | ret v => rw [Sem.wp_pure'] at h' ⊢; exact h'
theorem kExecs_app {M : Model} {A : Around} {E : Value → Shared → Prop} {s : Shared} {env : Env} {a b : List Stmt} {Q : Flow → Shared → Prop} (h : wpK M A (execs a env) (fun f s1 => match f with | .next => wpK M A (execs b env) Q E s1 | f => Q f s1) E s) : wpK M A (execs (a ++ b) env) Q E s := fun Γ p hΓ hc => by
  refine execs_app_wp a p s (Sem.wp_mono M Γ _ (fun f p' s' h' => ?_) (fun _ _ _ h' => h') _ _ (h Γ p hΓ hc))
  cases f with
  | next => exact h' Γ p' hΓ hc
  | _ => exact h'
noncomputable def RaiseF (C : Cx) (G : Gd) (ae : AEnv) (envS envL : Env) (x : ExSay) (N : List Str) (V : List (Option AV)) (stT : List AObj) : Prop := ∀ κ σ r s e s', Rel C G.φ G.κ₀ κ σ (.ns N V :: stT ++ r) s → EnvR ae σ G.env → Fly C κ s [envS, envL] x e s' → G.E (.ref e) s'
structure Two (C : Cx) (A : Around) (G : Gd) (envS envL : Env) (L : Addr) : Prop where
  frames : A.frames = some [envS, envL]
  kS : envS.scope.kind ≠ .module
  fS : envS.frame = G.env.frame
  lS : G.env.frame = some G.env.locals
  kL : envL.scope.kind ≠ .module
  fL : envL.frame = some L
  oL : ∃ o, G.φ L = some o ∧ ∀ vs, o.data ≠ .fields vs
  κL : G.κ₀ L = none
  tL : L ∉ C.tabs
section
variable {C : Cx} {A : Around} {G : Gd} {ae : AEnv} {st : List AObj} {Q : AV → List AObj → Prop}
theorem wE_callRaise {x : Str} {np pos : Pos} {args : List Expr} {kws : List Keyword} {n : Nat} {f : Value} {ex : ExSay} {envS envL : Env} {L : Addr} (i : Nat) (names : List Str) (hs : ∀ env, (backTo pos (starEach args env)).all (fun x => !x.1) = true) (hkw : ∀ env, (backToKw pos (keywordEach kws env)).all (·.1.isSome) = true) (hn : ∀ env, (backToKw pos (keywordEach kws env)).filterMap (·.1) = names)
    (g : GlobIs C x f) (hk : ae.scope.names[i]? = some (x, .globalImplicit)) (hA : AOk A n) (hL0 : ae.L = 0) (T : Two C A G envS envL L) {N : List Str} {V : List (Option AV)} {stT : List AObj} (hE : RaiseF C G ae envS envL ex N V stT)
    (h : wArgs C A G ae st pos args fun as st2 => wKws C A G ae st2 pos kws fun ks st3 => FnRaise C n f as names ks ex ∧ (∀ a ∈ as, a.flat) ∧ (∀ a ∈ ks, a.flat) ∧ ∃ r, st3 = .ns N V :: stT ++ r) : wEK C A G ae st (.Call (.Name x np) args kws pos) Q := fun κ σ s e X =>
  kCall_ofName (wpAny_mono (wE_glob i (Q := fun a st1 => a = .glob f ∧ st1 = st) g hk ⟨rfl, rfl⟩ κ σ s e X) (fun vf s1 z => z.go fun κ1 σ1 fa st1 k1 p1 X1 r1 q1 => by
    refine byC fun hC1 => ?_
    obtain ⟨rfl, rfl⟩ := q1
    cases (r1 : vf = _)
    refine hC1 ?_
    refine kCallWith_go (hs _) (hkw _) (wpAny_mono (h κ1 σ1 s1 (e.mono p1) X1) (fun vs s2 z => z.go fun κ2 σ2 as st2 k2 p2 X2 r2 q2 => wpAny_mono (q2 κ2 σ2 s2 (e.mono (p1.trans p2)) X2) (fun kvs s3 z => z.go fun κ3 σ3 ks st3 k3 p3 X3 r3 q3 => ?_) fun _ _ z => z) fun _ _ z => z)
    refine byC fun hC2 => ?_
    obtain ⟨hraise, hf1, hf2, r, rfl⟩ := q3
    have e3 : EnvR ae σ3 G.env := e.mono ((p1.trans p2).trans p3)
    have h0 : σ3[0]? = some G.env.locals := by have := e3.loc; rw [hL0] at this; exact this
    obtain ⟨L', oL', hL', hκL', hφL', hoL', _, m, ⟨es, ep, hd, _⟩, _⟩ := X3.get (i := 0) (x := .ns N V) rfl trivial
    refine hC2 ?_
    rw [h0] at hL'; cases hL'
    have hFr : FrOk C A κ3 s3 [envS, envL] := ⟨T.frames, fun env he => by
      simp at he
      rcases he with rfl | rfl
      · exact ⟨T.kS, _, oL', T.fS.trans T.lS, hκL', fun hT => (X3.tabs _ hT).2.2.2 (List.mem_of_getElem? h0), hoL', fun vs q => by rw [hd] at q; cases q⟩
      · refine byC fun hC3 => ?_
        obtain ⟨o, ho, hnf⟩ := T.oL
        refine hC3 ?_
        refine ⟨T.kL, L, o, T.fL, ?_, T.tL, X3.phi _ _ ho, hnf⟩
        cases q : κ3 L with
        | none => rfl
        | some o' => rcases X3.new L o' q with h | h
                     · exact nope T.κL h
                     · rw [ho] at h; cases h⟩
    refine byC fun hC4 => ?_
    obtain ⟨c, w⟩ := hraise A G.E κ3 s3 vs kvs [envS, envL] hA X3.base hFr ((r2.mono k3 p3).flat hf1) (r3.flat hf2) fun ee s' hfly => hE κ3 σ3 r s3 ee s' X3 e3 hfly
    refine hC4 ?_
    exact ⟨c, by rw [hn, List.nil_append]; exact K.mono w (fun _ _ q => q.elim) fun _ _ z => z⟩) fun _ _ z => z)
end
end Mine
end
section
open PySem PySem.Calls PyProof.Rows PySem.W PySem.SeqAt PyProof.V
open PySem.Sem (wp)
set_option maxRecDepth 100000
namespace Mine
noncomputable def minus (φ : Kp) (L : Addr) : Kp := fun b => if b = L then none else φ b
theorem frs_two {envS envL : Env} {L0 L : Addr} (h1 : envS.frame = some L0) (h2 : envL.frame = some L) : frs [envS, envL] = [L0, L] := by
  unfold frs; simp [h1, h2]
theorem Rel.risen {C : Cx} {φ κ₀ κ κ' : Kp} {σ : List Addr} {N : List Str} {V : List (Option AV)} {st : List AObj} {s s' : Shared} {H base : Heap} {envS envL : Env} {L0 L : Addr} {oL : Obj} (X : Rel C φ κ₀ κ σ (.ns N V :: st) s) (h0 : σ[0]? = some L0)
    (hS : envS.frame = some L0) (hLf : envL.frame = some L) (hφL : φ L = some oL) (hκL : κ₀ L = none) (htL : L ∉ C.tabs) (k : Kle κ κ') (B : Base C κ' s') (hn : ∀ b o, κ' b = some o → κ b = some o ∨ s.heap.get? b = none)
    (hb : ∀ b o, b ∉ C.tabs → b ∉ frs [envS, envL] → s.heap.get? b = some o → base.get? b = some o) (hsl : ∀ b ∈ frs [envS, envL], ∀ o, s.heap.get? b = some o → ∃ sl, s'.heap.get? b = some { o with slots := sl }) (hκb : ∀ b o, κ' b = some o → base.get? b = some o) (htb : ∀ P ∈ C.tabs, ∃ o, base.get? P = some o)
    (hbs : base.StaysIn s'.heap) (hbH : base.StaysIn H) (hup : s'.heap.UpToSlots H) :
    Rel C (minus φ L) κ₀ κ' σ (.ns N V :: st) { s' with heap := H } ∧ Free C (minus φ L) κ' σ L ∧ (∃ sl, H.get? L = some { oL with slots := sl } ∨ ∃ ws, oL.data = .fields ws) ∧
      ∀ a, base.get? a = none → (∀ o, H.get? a = some o → ∀ es ep, o.data ≠ .dict es ep) → (H.get? a).isSome → Free C (minus φ L) κ' σ a := by
  have hfr := frs_two hS hLf
  rw [hfr] at hb hsl
  have sL : s.heap.get? L = some oL := X.phi _ _ hφL
  refine byC fun hC1 => ?_
  obtain ⟨L', o0, hL', hκ0, hφ0, ho0, hN, m, ⟨es, ep, hd0, hm0, hm1⟩, hr0⟩ := X.get (i := 0) (x := .ns N V) rfl trivial
  refine hC1 ?_
  rw [h0] at hL'; cases hL'
  have κL : κ L = none := by
    refine noneOf fun o q => ?_
    rcases X.new L o q with h | h
    · exact nope hκL h
    · rw [hφL] at h; cases h
  have gone : ∀ a o, s.heap.get? a = some o → κ a = none → κ' a = none := fun a o e1 e2 => by
    refine noneOf fun o' q => ?_
    rcases hn a o' q with h | h
    · exact nope e2 h
    · rw [e1] at h; cases h
  have hL0L : L0 ≠ L := fun q => by rw [q, hφL] at hφ0; cases hφ0
  have notσ : L ∉ σ := fun hm => X.mem hm (fun o e => nope κL e) fun _ h2 _ _ => nope h2 hφL
  have at_ : ∀ a o, a ∈ σ → a ≠ L0 → s.heap.get? a = some o → base.get? a = some o := fun a o ha hne e =>
    hb a o (fun hT => (X.tabs a hT).2.2.2 ha) (fun hm => by
      simp at hm; rcases hm with q | q
      · exact hne q
      · exact notσ (q ▸ ha)) e
  have nsH : ∃ sl, H.get? L0 = some { o0 with slots := sl } := by
    refine byC fun hC3 => ?_
    obtain ⟨sl, h1⟩ := hsl L0 (by simp) o0 ho0
    obtain ⟨sl2, h2⟩ := hup L0 _ h1 fun ws q => by
      have q : o0.data = .fields ws := q
      rw [hd0] at q; cases q
    refine hC3 ?_
    exact ⟨sl2, h2⟩
  have idx : ∀ (i : Nat) (a : Addr), σ[i]? = some a → i ≠ 0 → a ≠ L0 := fun i a e1 hi q => by
    subst q
    refine byC fun hC4 => ?_
    obtain ⟨b1, c1⟩ := List.getElem?_eq_some_iff.mp e1
    obtain ⟨b2, c2⟩ := List.getElem?_eq_some_iff.mp h0
    refine hC4 ?_
    exact hi ((List.getElem_inj X.nd).mp (c1.trans c2.symm))
  refine ⟨⟨X.prog.trans k, X.k0.trans k, fun b o eo => ?_, fun b o eo => hbH b o (hκb b o eo), fun b o eo => ?_, X.len, X.nd, fun i a x e1 e2 => ?_, fun P hP => ?_, B.gens, B.os⟩, ⟨gone L _ sL κL, if_pos rfl, notσ, htL⟩, ?_, fun a ha hnd hsome => ⟨?_, ?_, fun hm => ?_, fun hm => ?_⟩⟩
  · rcases hn b o eo with h | h
    · rcases X.new b o h with h | h
      · exact .inl h
      · right; unfold minus; split
        · rfl
        · exact h
    · right; unfold minus; split
      · rfl
      · refine noneOf fun o' q => ?_
        rw [X.phi _ _ q] at h; cases h
  · unfold minus at eo
    split at eo
    · cases eo
    · rename_i hne
      refine hbH b o (hb b o (fun hT => by exact nope ((X.tabs b hT).2.1) eo) (fun hm => ?_) (X.phi b o eo))
      simp at hm; rcases hm with q | q
      · rw [q, hφ0] at eo; cases eo
      · exact hne q
  · have hmin : ∀ a, φ a = none → minus φ L a = none := fun a h => by unfold minus; split; rfl; exact h
    by_cases hi : i = 0
    · subst hi
      rw [h0] at e1; cases e1
      simp at e2; subst e2
      refine byC fun hC5 => ?_
      obtain ⟨sl, h1⟩ := nsH
      refine hC5 ?_
      exact .own trivial (gone L0 _ ho0 hκ0) (hmin _ hφ0) _ h1 ((RO.slotsNs (show RO κ σ (.ns N V) o0 from ⟨hN, m, ⟨es, ep, hd0, hm0, hm1⟩, hr0⟩) sl).mono k (List.prefix_refl _))
    · have hne := idx i a e1 hi
      have hmem := List.mem_of_getElem? e1
      exact (X.own i a x e1 e2).map k (List.prefix_refl _) fun h1 h2 o h3 => ⟨gone a o h3 h1, hmin _ h2, hbH _ _ (at_ a o hmem hne h3)⟩
  · refine byC fun hC6 => ?_
    obtain ⟨o, h1⟩ := htb P hP
    obtain ⟨⟨ps, h2, r⟩, h3⟩ := B.tabs P hP
    refine hC6 ?_
    have h4 := hbs P o h1
    rw [h2] at h4; cases h4
    have hφP := (X.tabs P hP).2.1
    exact ⟨⟨ps, hbH _ _ h1, r⟩, by unfold minus; split; rfl; exact hφP, h3, (X.tabs P hP).2.2.2⟩
  · refine byC fun hC7 => ?_
    obtain ⟨sl, h1⟩ := hsl L (by simp) oL sL
    refine hC7 ?_
    by_cases hw : ∃ ws, oL.data = .fields ws
    · exact ⟨sl, .inr hw⟩
    · refine byC fun hC8 => ?_
      obtain ⟨sl2, h2⟩ := hup L _ h1 fun ws q => hw ⟨ws, q⟩
      refine hC8 ?_
      exact ⟨sl2, .inl h2⟩
  · refine noneOf fun o q => ?_
    rw [hκb a o q] at ha; cases ha
  · unfold minus
    split
    · rfl
    · rename_i hne
      refine noneOf fun o q => ?_
      · have := hb a o (fun hT => by exact nope ((X.tabs a hT).2.1) q) (fun hm => by
          simp at hm; rcases hm with q' | q'
          · rw [q', hφ0] at q; cases q
          · exact hne q') (X.phi a o q)
        exact nope ha this
  · by_cases h00 : a = L0
    · exact nsH.elim fun sl h1 => hnd { o0 with slots := sl } (by rw [h00]; exact h1) es ep hd0
    · exact X.mem hm (fun o' e => nope ha (hκb a o' (k _ _ e))) fun _ _ o' h3 => nope ha (at_ a o' hm h00 h3)
  · exact (htb a hm).elim fun o h1 => nope ha h1
end Mine
end
section
open PySem PySem.Calls PyProof.Rows PySem.W PySem.SeqAt PyProof.V
open PySem.Sem (wp)
set_option maxRecDepth 100000
namespace Mine
theorem glob_raw {C : Cx} {ae : AEnv} {σ : List Addr} {env : Env} {A : Around} {E : Value → Shared → Prop} {s : Shared} {x : Str} {v : Value} {pos : Pos} {Q : Value → Shared → Prop} (e : EnvR ae σ env) (i : Nat) (g : GlobIs C x v) (hk : ae.scope.names[i]? = some (x, .globalImplicit))
    (hp0 : ∀ b o, C.P0 b = some o → s.heap.get? b = some o) (q : Q v s) : wpAny (model C.prog C.w) A (eval (.Name x pos) env) Q E s := by
  refine Name_function_global e.kind (e.kindOf hk) ?_ (e.ok.nodebug _ (List.mem_of_getElem? hk)).1
  rcases g s.heap hp0 with ⟨mg, h1, h2⟩ | ⟨mg, mb, h1, h2, h3, h4⟩
  · exact loadGlobal_global (by rw [e.globals]; exact h1) h2 q
  · exact loadGlobal_builtin (by rw [e.globals]; exact h1) h2 (by rw [e.builtins]; exact h3) h4 q
noncomputable def MatchR (C : Cx) (x : ExSay) (cv : Value) (b : Bool) : Prop := ∀ (A : Around) (E : Value → Shared → Prop) (s : Shared) (e : Addr) (oe : Obj) (ws : Array Value) (Q : Bool → Shared → Prop), (∀ b o, C.P0 b = some o → s.heap.get? b = some o) → s.heap.get? e = some oe → oe.cls = x.cls → oe.data = .fields ws → Q b s → wpAny (model C.prog C.w) A (excMatches (.ref e) cv) Q E s
inductive HSel (C : Cx) (ae : AEnv) (x : ExSay) : List ExceptHandler → Option Str → List Stmt → Pos → Prop
  | here {y : Str} {np pos : Pos} {nm : Option Str} {suite : List Stmt} {rest : List ExceptHandler} {cv : Value} (i : Nat) : ae.scope.names[i]? = some (y, .globalImplicit) → GlobIs C y cv → MatchR C x cv true → HSel C ae x (.ExceptHandler (some (.Name y np)) nm suite pos :: rest) nm suite pos
  | skip {y : Str} {np pos pos' : Pos} {nm nm' : Option Str} {suite suite' : List Stmt} {rest : List ExceptHandler} {cv : Value} (i : Nat) : ae.scope.names[i]? = some (y, .globalImplicit) → GlobIs C y cv → MatchR C x cv false → HSel C ae x rest nm suite pos → HSel C ae x (.ExceptHandler (some (.Name y np)) nm' suite' pos' :: rest) nm suite pos
noncomputable def afterAs (C : Cx) (A : Around) (E : Value → Shared → Prop) (env : Env) (Q : Flow → Shared → Prop) (pos : Pos) : Option Str → Flow → Shared → Prop
  | none, f, s => Q f s
  | some n, f, s => wpAny (model C.prog C.w) A (do bindName env n .none; unbindBehindTheSuite env n pos) (fun _ s₃ => Q f s₃) E s
noncomputable def handR (C : Cx) (A : Around) (E : Value → Shared → Prop) (env : Env) (Q : Flow → Shared → Prop) (pos : Pos) (nm : Option Str) : Result → Shared → Prop
  | .ok f, s => afterAs C A E env Q pos nm f s
  | .error x, s => cameBackBy (model C.prog C.w) A env E x s
theorem handle_go {C : Cx} {ae : AEnv} {σ : List Addr} {env : Env} {A : Around} {E : Value → Shared → Prop} {x : ExSay} {hs : List ExceptHandler} {nm : Option Str} {suite : List Stmt} {pos : Pos} {Q : Flow → Shared → Prop} {e : Addr} (en : EnvR ae σ env) (H : HSel C ae x hs nm suite pos) :
    ∀ s : Shared, (∀ b o, C.P0 b = some o → s.heap.get? b = some o) → (∃ oe ws, s.heap.get? e = some oe ∧ oe.cls = x.cls ∧ oe.data = .fields ws) →
    codeAny (model C.prog C.w) (A.mark (some (.ref e))) (.handlers (.ref e) [.ExceptHandler none nm suite pos] env) (handR C A E env Q pos nm) s →
    wpAny (model C.prog C.w) A (handleBy (.ref e) env hs) Q E s := by
  induction H with
  | here i hk g hm =>
    intro s hp0 ⟨oe, ws, h1, h2, h3⟩ cont
    refine wpAny_handleBy_cons (codeAny_handlers_test (glob_raw en i g hk hp0 ?_)) (by intro q; cases q)
    refine hm _ _ s e oe ws _ hp0 h1 h2 h3 ?_
    refine codeAny_mono cont fun r s₂ h => ?_
    cases r with
    | error x => exact h
    | ok f => rename_i nm' _ _ _; cases nm' <;> exact h
  | skip i hk g hm _ ih =>
    intro s hp0 hex cont
    refine byC fun hC1 => ?_
    obtain ⟨oe, ws, h1, h2, h3⟩ := id hex
    refine hC1 ?_
    refine wpAny_handleBy_cons (codeAny_handlers_test (glob_raw en i g hk hp0 ?_)) (by intro q; cases q)
    exact hm _ _ s e oe ws _ hp0 h1 h2 h3 (ih s hp0 hex cont)
inductive ExIn (φ : Kp) (x : ExSay) (e : Addr) : Prop
  | mk (oe : Obj) (ws : Array Value) (a0 : Value) (h1 : φ e = some oe) (h2 : oe.cls = x.cls) (h3 : oe.data = .fields ws) (h4 : ws[0]? = some a0) (h5 : match x.msg with
    | none => True
    | some m => ∃ t ot tk n, a0 = .ref t ∧ φ t = some ot ∧ ot.cls = .type "tuple" ∧ ot.data = .seq [.str m tk].toArray n)
end Mine
end
section
open PySem PySem.Calls PyProof.Rows PySem.W PySem.SeqAt PyProof.V
open PySem.Sem (wp)
set_option maxRecDepth 100000
namespace Mine
noncomputable abbrev aeOf (fd : FuncData) : AEnv := ⟨fd.scope, 0, cellsFrom 1 fd.scope.names [], fd.code, fd.qualname ++ ".<locals>."⟩
theorem K.hide {M : Model} {A : Around} {t : Sem Flow} {P : Value → Shared → Prop} {Q0 : Flow → Shared → Prop} {E0 : Value → Shared → Prop} {s : Shared} (h0 : ∀ v s, P v s → Q0 (.ret v) s)
    (h : ∀ Q E, (∀ v s, P v s → Q (.ret v) s) → wpK M A t Q E s) : wpK M A t Q0 E0 s := h Q0 E0 h0
theorem PA.next {C : Cx} {φ κ₀ κ : Kp} {σ : List Addr} {S : List AObj} {fl : Flow} {s : Shared} {N : Prop} {Q : Flow → Prop} (h : PA RF C φ κ₀ κ σ (fun fl st' => fl = .next ∧ st' = S) fl s)
    (k : ∀ κ' σ', Kle κ κ' → σ <+: σ' → Rel C φ κ₀ κ' σ' S s → N) : (match (generalizing := false) fl with | .next => N | f => Q f) := by
  cases h with
  | mk κ' σ' b st' k1 p1 X r q => cases q.1; cases q.2; cases (r : fl = .next); exact k κ' σ' k1 p1 X
inductive Ground7 (C : Cx) (φ κ₀ κ4 : Kp) (σ : List Addr) (st : List AObj) (s : Shared) (h7 : Heap) (x : ExSay) (ex L : Addr) (oL : Obj) : Prop
  | mk (own : List Addr) (sl : Array (Option Value)) (hfr : ∀ b ∈ own, Free C (minus φ L) κ4 σ b) (X7 : Rel C (minus φ L) κ₀ κ4 σ st { s with heap := h7 }) (hLo : L ∈ own) (hex7 : ∀ b ∈ own, ∃ o, h7.get? b = some o) (hin : ExIn (apart (minus φ L) own h7) x ex) (hL7 : h7.get? L = some { oL with slots := sl })
inductive RetAt (C : Cx) (φ κ₀ κ : Kp) (σ : List Addr) (N : List Str) (post : D → Prop) (f : Flow) (s : Shared) : Prop
  | mk (κ' : Kp) (σ' : List Addr) (d : D) (V2 : List (Option AV)) (r2 : List AObj) (v : Value) (hf : f = .ret v) (p : σ <+: σ') (X : Rel C φ κ₀ κ' σ' (.ns N V2 :: r2) s) (r : R κ' d v) (hp : post d)
theorem PA.retAt {C : Cx} {φ κ₀ κ : Kp} {σ : List Addr} {N : List Str} {post : D → Prop} {f : Flow} {s : Shared} (h : PA RF C φ κ₀ κ σ (fun fl st' => ∃ d, fl = .ret (.d d) ∧ post d ∧ ∃ V2 r2, st' = .ns N V2 :: r2) f s) : RetAt C φ κ₀ κ σ N post f s := by
  cases h with
  | mk κ' σ' b st' k p X r q =>
    obtain ⟨d, rfl, hp, V2, r2, rfl⟩ := q
    obtain ⟨v, hf, r⟩ := r
    exact ⟨κ', σ', d, V2, r2, v, hf, p, X, r, hp⟩
theorem fn_tryX {C : Cx} {f : Value} {fd : FuncData} {body pre tb rest : List Stmt} {h0 : ExceptHandler} {hds : List ExceptHandler} {tpos : Pos} {n : Nat} {as : List AV} {names : List Str} {ks : List AV} {bs : List (Str × AV)} {post : D → Prop} {x : ExSay}
    {nm : Option Str} {b0 : Stmt} {suite : List Stmt} {hpos : Pos} {V : List (Option AV)} {stT : List AObj}
    (F : FnAt C f fd body) (hbody : body = pre ++ (.Try tb (h0 :: hds) [] [] tpos :: rest)) (hl : NoLim C) (ok : ScOk fd.scope) (hnf : noFree fd.scope = true)
    (hcn : ((cellsFrom 1 fd.scope.names []).map (·.1)).Nodup)
    (hbind : ∀ (s : Shared) (vs kvs : List Value), (∀ b o, C.P0 b = some o → s.heap.get? b = some o) → vs.length = as.length → kvs.length = ks.length → ∃ binds, BindsTo s fd ⟨vs, names.zip kvs⟩ binds ∧ binds.map (·.1) = bs.map (·.1) ∧
      ∀ κ : Kp, RVL κ [] as vs → RVL κ [] ks kvs → RVL κ [] (bs.map (·.2)) (binds.map (·.2)))
    (run : ∀ A G A', AOk A n → wStores C A' G (aeOf fd) bs ([.ns (nmz fd) (List.replicate fd.scope.names.length none)] ++ List.replicate (nCells fd.scope.names) (.cell none))
      fun st0 => ∀ E, wSs C A (G.at E) (aeOf fd) st0 pre (fun fl st' => fl = .next ∧ st' = .ns (nmz fd) V :: stT))
    (tbrun : ∀ A G envS envL L, AOk A n → Two C A G envS envL L → RaiseF C G (aeOf fd) envS envL x (nmz fd) V stT → wSsK C A G (aeOf fd) (.ns (nmz fd) V :: stT) tb (fun _ _ => False))
    (sel : HSel C (aeOf fd) x (h0 :: hds) nm (b0 :: suite) hpos) (iN : Nat) (hnm : ∀ m, nm = some m → fd.scope.names[iN]? = some (m, .local))
    (suiterun : ∀ A G ex r, A.units + 100 ≤ 9100 → ExIn G.φ x ex → wSs C A G (aeOf fd) (.ns (nmz fd) (if nm.isSome then V.set iN (some (.glob (.ref ex))) else V) :: stT ++ r) (b0 :: suite) (fun fl st' => ∃ d, fl = .ret (.d d) ∧ post d ∧ ∃ V2 r2, st' = .ns (nmz fd) V2 :: r2)) :
    FnOkX C (n + 1) f as names ks post := by
  intro A E κ s vs kvs envL L hA B hFr hLf ra rk
  refine byC fun hC1 => ?_
  obtain ⟨a, o, hf, ha, hd⟩ := F.at_
  refine hC1 ?_
  have hp0 : ∀ b o, C.P0 b = some o → s.heap.get? b = some o := fun b o e => B.keep _ _ (B.prog _ _ e)
  have hs' := hp0 _ _ ha
  refine ⟨.inr (.inr ⟨a, o, fd, hf, hs', hd⟩), K.call ?_⟩
  rw [hf]
  refine byC fun hC2 => ?_
  obtain ⟨binds, hB, hn, hr⟩ := hbind s vs kvs hp0 ra.1 rk.1
  refine hC2 ?_
  refine codeK_call_function (by have := hA.depth; rw [recursionLimit]; omega) hs' hd F.co F.gen F.body (F.code.rec hp0) (hB _ _ _ _ ?_)
  rw [F.closure]
  refine newEnv_go (bs := bs) (Q' := fun env st0 => ∀ E, wSs C (A.deeper env) ((⟨(phiS C s), κ, env, fun _ _ => False⟩ : Gd).at E) (aeOf fd) st0 pre (fun fl st' => fl = .next ∧ st' = .ns (nmz fd) V :: stT)) (Rel.start B) CR.nil ok hcn (fun _ L0 => ⟨L0, rfl, rfl⟩) F.globals F.builtins hn (hr κ ra rk)
    (fun env => ?_) fun κ' σ' st' env s' k p e ⟨cells, he⟩ X q => ?_
  · exact run (A.deeper env) ⟨_, κ, env, _⟩ A.in1 (hA.deeper env)
  · refine ⟨hl _ X.p0, codeK_func (K.hide (P := FnPostX C κ s L post) (fun _ _ z => z) fun Q E hQ => ?_)⟩
    rw [hbody]
    refine kExecs_app (K.go (q _ κ' σ' s' e X) (fun fl s2 z => z.next fun κ2 σ2 k2 p2 X2 => ?_) fun _ _ z => z)
    have e2 := e.mono p2
    have hframe : env.frame = some s.heap.objs.size := by rw [he]; rfl
    have hloc : env.locals = s.heap.objs.size := by rw [he]; rfl
    refine byC fun hC3 => ?_
    obtain ⟨hk1, oL, hκL, htL, hoL, hnfl⟩ := hFr.eachL (.head _) hLf
    refine hC3 ?_
    have hfr2 : (A.deeper env).frames = some [env, envL] := Around.frames_deeper hFr.frames
    have hkind : env.scope.kind ≠ .module := by rw [show env.scope = fd.scope from e.scope, ok.kind]; decide
    have hφL : (if L ∈ C.tabs then none else s.heap.get? L) = some oL := by rw [if_neg htL]; exact hoL
    refine kExecs_cons (K.hide hQ fun Q E hQ => kTry_except ?_)
    have key : ∀ (EE : Value → Shared → Prop), RaiseF C ⟨(phiS C s), κ, env, EE⟩ (aeOf fd) env envL x (nmz fd) V stT → wpK (model C.prog C.w) (A.deeper env) (execs tb env) (fun _ _ => False) EE s2 := fun EE hEE =>
      K.mono (tbrun (A.deeper env) ⟨(phiS C s), κ, env, EE⟩ env envL L (hA.deeper env) ⟨hfr2, hkind, rfl, by rw [hframe, hloc], hk1, hLf, ⟨oL, hφL, hnfl⟩, hκL, htL⟩ hEE κ2 σ2 s2 e2 X2) (fun _ _ ⟨_, _, _, _, _, _, _, _, q⟩ => q.elim) fun _ _ z => z
    refine K.mono (key _ ?_) (fun _ _ q => q.elim) fun _ _ z => z
    intro κ3 σ3 r3 s3 ex s4 X3 e3 hfly
    replace e3 : EnvR (aeOf fd) σ3 env := e3
    replace X3 : Rel C (phiS C s) κ κ3 σ3 (.ns (nmz fd) V :: (stT ++ r3)) s3 := X3
    refine byC fun hC4 => ?_
    obtain ⟨base, κ4, a0, k4, B4, hn4, hb4, hsl4, hκb4, htb4, hfl4, hmsg4⟩ := hfly
    refine hC4 ?_
    show wpAny _ (A.deeper env) (noteFrame (.ref ex) env) _ _ s4
    refine wpAny_looks_onW hfr2 hframe hfl4 fun h5 hheld5 hup5 => ?_
    refine wpAny_landsW hheld5 fun h6 hfl6 hup6 => ?_
    have h00 : σ3[0]? = some s.heap.objs.size := by rw [← hloc]; exact e3.loc
    refine handle_go e3 sel _ (fun b o eo => hfl6.1 b o (hκb4 b o (B4.prog b o eo))) (let ⟨oe, ws, q1, q2, q3, _⟩ := hfl6.first; ⟨oe, ws, q1, q2, q3⟩) ?_
    have ground : ∀ h7, Heap.FlyingW base [env, envL] ex x.cls a0 h7 → h6.UpToSlots h7 → Ground7 C (phiS C s) κ κ4 σ3 (.ns (nmz fd) V :: (stT ++ r3)) s4 h7 x ex L oL := by
      intro h7 hfl7 hup7
      refine byC fun hC5 => ?_
      obtain ⟨X7, hFL, ⟨sl, hsl⟩, hfree⟩ := Rel.risen (V := V) (N := nmz fd) (st := stT ++ r3) X3 h00 hframe hLf hφL hκL htL k4 B4 hn4 hb4 hsl4 hκb4 htb4 hfl4.1 hfl7.1 ((hup5.trans hup6).trans hup7)
      have hL7 : h7.get? L = some { oL with slots := sl } := by
        rcases hsl with h | ⟨ws, h⟩
        · exact h
        · exact absurd h (hnfl ws)
      obtain ⟨oe, ws, q1, q2, q3, q4⟩ := hfl7.first
      refine hC5 ?_
      have fe := hfree ex hfl7.2.1 (fun o eo es ep q => by rw [q1] at eo; cases eo; rw [q3] at q; cases q) (by rw [q1]; rfl)
      cases hmx : x.msg with
      | none => exact ⟨[ex, L], sl, all2 fe hFL, X7, .tail _ (.head _), all2 ⟨_, q1⟩ ⟨_, hL7⟩, ⟨oe, ws, a0, (apart_in (.head _)).trans q1, q2, q3, q4, by rw [hmx]; trivial⟩, hL7⟩
      | some m =>
        rw [hmx] at hmsg4
        refine byC fun hC6 => ?_
        obtain ⟨t, tk, rfl, htup, htn⟩ := hmsg4
        obtain ⟨ot, nt, t1, t2, t3⟩ := ((htup.of_slots hup5).of_slots hup6).of_slots hup7
        refine hC6 ?_
        have ft := hfree t htn (fun o eo es ep q => by rw [t1] at eo; cases eo; rw [t3] at q; cases q) (by rw [t1]; rfl)
        exact ⟨[ex, t, L], sl, all3 fe ft hFL, X7, .tail _ (.tail _ (.head _)), all3 ⟨_, q1⟩ ⟨_, t1⟩ ⟨_, hL7⟩, ⟨oe, ws, .ref t, (apart_in (.head _)).trans q1, q2, q3, q4, by rw [hmx]; exact ⟨t, ot, tk, nt, rfl, (apart_in (.tail _ (.head _))).trans t1, t2, t3⟩⟩, hL7⟩
    have fin : ∀ {own : List Addr} {h7 : Heap} {κ8 : Kp} {σ8 : List Addr} {V2 : List (Option AV)} {r2 : List AObj} {s8 : Shared} {v : Value} {d : D} {sl : Array (Option Value)}, (∀ b ∈ own, Free C (minus (phiS C s) L) κ4 σ3 b) → L ∈ own → (∀ b ∈ own, ∃ o, h7.get? b = some o) → h7.get? L = some { oL with slots := sl } →
        Rel C (apart (minus (phiS C s) L) own h7) κ κ8 σ8 (.ns (nmz fd) V2 :: r2) s8 → R κ8 d v → post d → FnPostX C κ s L post v s8 := by
      intro own h7 κ8 σ8 V2 r2 s8 v d sl hfr hLo hex7 hL7 X8 hr8 hp8
      refine byC fun hC7 => ?_
      obtain ⟨X9, hf9, hh9⟩ := X8.leave (fun b hb => (hfr b hb).2.1) (fun b hb => by
        refine noneOf fun o q => ?_
        have := k4 b o (X3.k0 b o q); rw [(hfr b hb).1] at this; cases this) hex7
      refine hC7 ?_
      refine ⟨κ8, d, X9.k0, X9.base, fun b o eo => ?_, ⟨fun b o hb hbL eo => X9.phi b o (by unfold minus; rw [if_neg hbL]; show (if b ∈ C.tabs then none else s.heap.get? b) = some o; rw [if_neg hb]; exact eo), fun o eo => ⟨sl, by rw [hh9 L hLo, hL7]; rw [hoL] at eo; cases eo; rfl⟩⟩, hr8, hp8⟩
      rcases X9.new b o eo with h | h
      · exact .inl h
      · by_cases hbL : b = L
        · rw [hbL, (hf9 L hLo).1] at eo; cases eo
        · unfold minus at h
          rw [if_neg hbL] at h
          have h : (if b ∈ C.tabs then none else s.heap.get? b) = none := h
          by_cases hbt : b ∈ C.tabs
          · rw [(X9.tabs b hbt).2.2.1] at eo; cases eo
          · rw [if_neg hbt] at h; exact .inr h
    have hun : ((A.deeper env).mark (some (.ref ex))).units + 100 ≤ 9100 := by
      have := (hA.deeper env).units
      show (A.deeper env).units + 100 ≤ 9100
      omega
    cases nm with
    | none =>
      refine codeAny_handlers_suite (lands_againW hfl6 fun h7 hfl7 hup7 => ?_)
      refine byC fun hC8 => ?_
      obtain ⟨own, sl, hfr, X7, hLo, hex7, hin, hL7⟩ := ground h7 hfl7 hup7
      refine hC8 ?_
      have key2 : ∀ (EE : Value → Shared → Prop), wpAny (model C.prog C.w) ((A.deeper env).mark (some (.ref ex))) (execs (b0 :: suite) env) (fun f s8 => Q f s8) EE { s4 with heap := h7 } := fun EE =>
        wpAny_mono (suiterun _ ⟨apart (minus (phiS C s) L) own h7, κ, env, EE⟩ ex r3 hun hin κ4 σ3 _ e3 (X7.enter hfr)) (fun fl s8 z => by
          obtain ⟨κ8, σ8, d, V2, r2, v, hf, p8, X8, r8, hp⟩ := z.retAt
          rw [hf]; exact hQ v s8 (fin hfr hLo hex7 hL7 X8 r8 hp)) fun _ _ z => z
      exact key2 _
    | some m =>
      refine codeAny_handlers_suite_as (lands_againW hfl6 fun h7 hfl7 hup7 => ?_)
      refine byC fun hC9 => ?_
      obtain ⟨own, sl, hfr, X7, hLo, hex7, hin, hL7⟩ := ground h7 hfl7 hup7
      refine hC9 ?_
      have hN : (nmz fd)[iN]? = some m := by rw [List.getElem?_map, hnm m rfl]; rfl
      have key1 : ∀ (EE : Value → Shared → Prop), wpAny (model C.prog C.w) ((A.deeper env).mark (some (.ref ex))) (storeName env m (.ref ex)) (PA RU C (apart (minus (phiS C s) L) own h7) κ κ4 σ3 fun _ st' => st' = .ns (nmz fd) (V.set iN (some (.glob (.ref ex)))) :: (stT ++ r3)) EE { s4 with heap := h7 } := fun EE =>
        st_local (C := C) (A := (A.deeper env).mark (some (.ref ex))) (G := ⟨apart (minus (phiS C s) L) own h7, κ, env, EE⟩) (ae := aeOf fd) (st := .ns (nmz fd) V :: (stT ++ r3)) (a := .glob (.ref ex)) (Q := fun st' => st' = .ns (nmz fd) (V.set iN (some (.glob (.ref ex)))) :: (stT ++ r3)) iN (hnm m rfl) rfl hN rfl κ4 σ3 _ _ e3 (X7.enter hfr) rfl
      refine wpAny_mono (key1 _) (fun _ s7 z => z.go fun κ7 σ7 _ st7 k7 p7 X7' _ hst7 => ?_) fun _ _ z => z
      subst hst7
      have key2 : ∀ (EE : Value → Shared → Prop), wpAny (model C.prog C.w) ((A.deeper env).mark (some (.ref ex))) (execs (b0 :: suite) env) (RetAt C (apart (minus (phiS C s) L) own h7) κ κ7 σ7 (nmz fd) post) EE s7 := fun EE =>
        wpAny_mono (suiterun _ ⟨apart (minus (phiS C s) L) own h7, κ, env, EE⟩ ex r3 hun hin κ7 σ7 _ (e3.mono p7) X7') (fun fl s8 z => z.retAt) fun _ _ z => z
      refine wpAny_mono (key2 _) (fun f s8 z => ?_) fun _ _ z => z
      obtain ⟨κ8, σ8, d, V2, r2, v, hf, p8, X8, rv, hpost⟩ := z
      rw [hf]
      have hσ8 : σ8[0]? = some env.locals := get_pre (p7.trans p8) e3.loc
      refine byC fun hC11 => ?_
      obtain ⟨L', o8, hL', _, _, ho8, hN8, m8, hm8, _⟩ := X8.get (i := 0) (x := .ns (nmz fd) V2) rfl trivial
      refine hC11 ?_
      rw [hσ8] at hL'; cases hL'
      show wpAny _ _ (do bindName env m .none; unbindBehindTheSuite env m hpos) _ _ s8
      refine wpAny_nameGoes (e3.kindOf (hnm m rfl)) (hm8.ns ho8) (by rw [e3.kind]; rfl) fun h9 m9 hn9 hs9 => ?_
      refine byC fun hC12 => ?_
      obtain ⟨o9, es9, ep9, ho9, hd9, hs91, hs92⟩ := hn9
      refine hC12 ?_
      have X9 := X8.upd (s' := { s8 with heap := h9, toks := s8.toks + 1 }) (i := 0) (a := env.locals) (o := o9) (y := .ns (nmz fd) (List.replicate fd.scope.names.length none)) rfl trivial hσ8 (fun b o hb eo => (hs9.2 b hb).trans eo) ho9 rfl rfl ⟨ok.nd, m9, ⟨es9, ep9, hd9, hs91, hs92⟩, fun i z a e1 e2 => by
        rw [List.getElem?_replicate] at e2
        split at e2 <;> cases e2⟩ trivial
      exact hQ _ _ (fin hfr hLo hex7 hL7 X9 rv hpost)
end Mine
end
section
open PySem PySem.Calls PyProof.Rows PySem.W PySem.SeqAt PyProof.V PySem.NumText
set_option maxRecDepth 100000
namespace Mine
structure IntBad (p : Str) : Prop where
  seen : (numSeenOf p).length ≤ 640
  rep : (reprText p).length ≤ sizeLine
  bad : (int_private% "readNumeral") 0 10 (numSeenOf p) = int_private% "Numeral.invalid"
structure ParseVE (x : Str) : Prop where
  size : x.length ≤ 1000000
  code : Txt.slice x none (some 3) = "229"
  left : 0 ≤ Txt.find x "("
  lfit : Txt.find x "(" < 2 ^ 60
  right : 0 ≤ Txt.find3 x ")" (Txt.find x "(" + 1)
  rfit : Txt.find3 x ")" (Txt.find x "(" + 1) < 2 ^ 60
  mark : ∃ c, chAt x (Txt.find x "(" + 1) = some c ∧ chAt x (Txt.find3 x ")" (Txt.find x "(" + 1) - 1) = some c ∧
    ∃ a b d p e, Txt.split (Txt.slice x (some (Txt.find x "(" + 1)) (some (Txt.find3 x ")" (Txt.find x "(" + 1)))) ⟨#[c]⟩ = [a, b, d, p, e] ∧ IntBad p
section
variable {C : Cx} {A : Around} {G : Gd} {ae : AEnv} {st : List AObj}
theorem wEK_intRaise {x p : Str} {np pos : Pos} {arg : Expr} {N : List Str} {Q : AV → List AObj → Prop} (i : Nat) (gi : GlobIs C x (.type "int")) (hk : ae.scope.names[i]? = some (x, .globalImplicit)) (hh : A.handled = none) (hL : ae.L = 0)
    (he : ∀ env, starEach [arg] env = [(false, eval arg env)]) (hE : RaiseE C G ⟨.type "ValueError", none⟩ N) (hp : IntBad p) (h : wE C A G ae st arg fun a st1 => a = .d (.str p) ∧ ∃ V st', st1 = .ns N V :: st') :
    wEK C A G ae st (.Call (.Name x np) [arg] [] pos) Q := fun κ σ s e X =>
  kCall_ofName (wpAny_mono (wE_glob i (Q := fun a st1 => a = .glob (.type "int") ∧ st1 = st) gi hk ⟨rfl, rfl⟩ κ σ s e X) (fun vf s1 z => z.go fun κ1 σ1 fa st1 k1 p1 X1 r1 q1 => by
    refine byC fun hC1 => ?_
    obtain ⟨rfl, rfl⟩ := q1
    cases (r1 : vf = _)
    refine hC1 ?_
    refine kCallWith_go (by rw [he]; rfl) rfl (wpAny_mono (wArgs_cons (Q := fun as st2 => as = [.d (.str p)] ∧ ∃ V st', st2 = .ns N V :: st') (fun env => by rw [he]; rfl) (W.mono h fun a st2 q => wArgs_nil ⟨by rw [q.1], q.2⟩) κ1 σ1 s1 (e.mono p1) X1) (fun vs s2 z => z.go fun κ2 σ2 as st2 k2' p2 X2 r2 q2 => wpAny_evalAll_nil ?_) fun _ _ z => z)
    refine byC fun hC2 => ?_
    obtain ⟨rfl, V, st', rfl⟩ := q2
    obtain ⟨v, rfl, t, rfl⟩ := r2.one
    refine hC2 ?_
    refine ⟨.inr (.inl ⟨_, rfl⟩), kCall_int_raise hh hp.seen hp.rep hp.bad fun h' tk ex hm => ?_⟩
    exact hE κ2 σ2 st' V s2 ex _ X2 (by have := (e.mono (p1.trans p2)).loc; rw [hL] at this; exact this) (MadeX.ofNew hm)) fun _ _ z => z)
end
set_option maxHeartbeats 4000000 in
theorem parse_ve {C : Cx} {A : Around} {G : Gd} {k : Nat} (hA : AOk A k) (cd : Value) (ql : Str) (gl : GlobIs C "len" (.builtin "len")) (gi : GlobIs C "int" (.type "int")) (x : Str) (h : ParseVE x) (host port0 : D) (hE : RaiseE C G ⟨.type "ValueError", none⟩ names10) :
    wSsK C A G ⟨scopeOf PySem.Challenge.pw_wb0027_02 10, 0, [], cd, ql⟩ [nsOf 10 [some (.d (.str x)), some (.d (.tuple [host, port0])), none, none, none, none, none, none, none, none, none]] (bodyOf PySem.Challenge.pw_wb0027_02 10) (fun _ _ => False) := by
  refine byC fun hC1 => ?_
  obtain ⟨hsz, hcode, hl, hlf, hr, hrf, c, hc1, hc2, a, b, d, p, e, hs, hbad⟩ := h
  refine hC1 ?_
  generalize hL : Txt.find x "(" = L at *
  generalize hR : Txt.find3 x ")" (L + 1) = Rr at *
  have hS := sizeLine_eq
  refine wSsK_cons (wS_if ?_)
  refine wB_cmp rfl ?_
  refine wE_cut (wE_local 0 rfl rfl rfl rfl (wP_none (wP_some (wE_int ⟨3, rfl, wP_none ?_⟩))))
  refine cut_str (by lia) ?_
  refine wE_str (ne_ss (tr_b ?_))
  rw [hcode]
  rw [show ((Str.ofString "229" != Str.ofString "229") = false) by simp]
  refine wSs_nil ?_
  refine (?_ : wSsK _ _ _ _ _ _ _)
  refine wSsK_cons (wS_assign (fun _ => rfl) ?_)
  refine wE_m1 F.plainAttrs_str F.slot_str_find F.type_str_find ?_ ?_ ?_ ?_
  · exact fun _ _ => rfl
  · exact fun _ => rfl
  · rfl
  refine wE_local 0 rfl rfl rfl rfl ⟨hasTy_str, ?_⟩
  refine wE_str (bi_find ?_)
  rw [hL]
  refine st_local 2 rfl rfl rfl ?_
  refine (?_ : wSsK _ _ _ _ _ _ _)
  refine wSsK_cons (wS_if ?_)
  refine wB_cmp rfl (wE_local 2 rfl rfl rfl rfl (wE_int (lt_ii (tr_b ?_))))
  rw [show decide (L < 0) = false from decide_eq_false (by lia)]
  refine wSs_nil ?_
  refine (?_ : wSsK _ _ _ _ _ _ _)
  refine wSsK_cons (wS_assign (fun _ => rfl) ?_)
  refine wE_m2 F.plainAttrs_str F.slot_str_find F.type_str_find ?_ ?_ ?_ ?_ ?_
  · exact fun _ _ => rfl
  · exact fun _ => rfl
  · exact fun _ => rfl
  · rfl
  refine wE_local 0 rfl rfl rfl rfl ⟨hasTy_str, ?_⟩
  refine wE_str (wE_bin (wE_local 2 rfl rfl rfl rfl (wE_int (add_ii ?_))))
  refine bi_find3 ?_
  rw [hR]
  refine st_local 3 rfl rfl rfl ?_
  refine (?_ : wSsK _ _ _ _ _ _ _)
  refine wSsK_cons (wS_if ?_)
  refine wB_cmp rfl (wE_local 3 rfl rfl rfl rfl (wE_int (lt_ii (tr_b ?_))))
  rw [show decide (Rr < 0) = false from decide_eq_false (by lia)]
  refine wSs_nil ?_
  refine (?_ : wSsK _ _ _ _ _ _ _)
  refine wSsK_cons (wS_if ?_)
  refine wB_cmp rfl ?_
  refine wE_sub (fun _ _ => ⟨_, rfl⟩) (wE_local 0 rfl rfl rfl rfl (wE_bin (wE_local 2 rfl rfl rfl rfl (wE_int (add_ii ?_)))))
  refine sub_str (by lia) (by lia) hc1 ?_
  refine wE_sub (fun _ _ => ⟨_, rfl⟩) (wE_local 0 rfl rfl rfl rfl (wE_bin (wE_local 3 rfl rfl rfl rfl (wE_int (sub_ii ?_)))))
  refine sub_str (by lia) (by lia) hc2 ?_
  refine ne_ss (tr_b ?_)
  rw [show (((⟨#[c]⟩ : Str) != (⟨#[c]⟩ : Str)) = false) by simp]
  refine wSs_nil ?_
  refine (?_ : wSsK _ _ _ _ _ _ _)
  refine wSsK_cons (wS_assign (fun _ => rfl) ?_)
  refine wE_m1 F.plainAttrs_str F.slot_str_split F.type_str_split ?_ ?_ ?_ ?_
  · exact fun _ _ => rfl
  · exact fun _ => rfl
  · rfl
  refine wE_cut (wE_local 0 rfl rfl rfl rfl ?_)
  refine wP_some (wE_bin (wE_local 2 rfl rfl rfl rfl (wE_int (add_ii ⟨L + 1, rfl, ?_⟩))))
  refine wP_some (wE_local 3 rfl rfl rfl rfl ⟨Rr, rfl, wP_none ?_⟩)
  refine cut_str (by lia) ⟨hasTy_str, ?_⟩
  refine wE_sub (fun _ _ => ⟨_, rfl⟩) (wE_local 0 rfl rfl rfl rfl (wE_bin (wE_local 2 rfl rfl rfl rfl (wE_int (add_ii ?_)))))
  refine sub_str (by lia) (by lia) hc1 ?_
  refine bi_split rfl (by have := Txt.slice_le x (some (L + 1)) (some Rr); lia) ?_
  rw [hs]
  refine st_local 4 rfl rfl rfl ?_
  refine (?_ : wSsK _ _ _ _ _ _ _)
  refine wSsK_cons (wS_if ?_)
  refine wB_cmp rfl (wE_c1 (fun _ => rfl) (wE_glob 9 gl rfl (wE_local 4 rfl rfl rfl rfl (wCall_bi (bi_len (l := [.d (.str a), .d (.str b), .d (.str d), .d (.str p), .d (.str e)]) rfl (Nat.le_of_ble_eq_true rfl) ?_)))))
  refine wE_int (ne_ii (tr_b ?_))
  refine wSs_nil ?_
  refine (?_ : wSsK _ _ _ _ _ _ _)
  refine wSsK_cons (wS_assign (fun _ => rfl) ?_)
  refine wE_sub (fun _ _ => ⟨_, rfl⟩) (wE_local 1 rfl rfl rfl rfl (wE_int ?_))
  refine sub_tuple (x := host) (by decide) (by decide) rfl ?_
  refine st_local 5 rfl rfl rfl ?_
  refine (?_ : wSsK _ _ _ _ _ _ _)
  refine wSsK_consK (wSK_assignRaise (fun _ => rfl) ?_)
  refine wEK_intRaise (p := p) (N := names10) 10 gi rfl hA.handled rfl (fun _ => rfl) hE hbad ?_
  refine wE_sub (fun _ _ => ⟨_, rfl⟩) (wE_local 4 rfl rfl rfl rfl (wE_int ?_))
  refine sub_list (l := [.d (.str a), .d (.str b), .d (.str d), .d (.str p), .d (.str e)]) (x := .d (.str p)) rfl (by decide) (by decide) rfl ?_
  exact ⟨rfl, _, _, rfl⟩
structure ParseR (C : Cx) (f : Value) (R1 R2 : Addr) : Prop where
  glob : GlobIs C "parse229" f
  reply : ∀ x, ParseReply x → ∀ peer, FnRaise C 2 f [.d (.str x), .d peer] [] [] ⟨.ref R1, some x⟩
  proto : ∀ x, ParseProto x → ∀ peer, FnRaise C 2 f [.d (.str x), .d peer] [] [] ⟨.ref R2, some x⟩
  ve : ∀ x, ParseVE x → ∀ host port0, FnRaise C 2 f [.d (.str x), .d (.tuple [host, port0])] [] [] ⟨.type "ValueError", none⟩
theorem parse_raises {C : Cx} {f : Value} {fd : FuncData} {R1 R2 : Addr} (hl : NoLim C) (B : PlainG C 10 f fd) (gp : GlobIs C "parse229" f) (O1 : OwnExc C R1) (g1 : GlobIs C "error_reply" (.ref R1)) (O2 : OwnExc C R2) (g2 : GlobIs C "error_proto" (.ref R2)) (gl : GlobIs C "len" (.builtin "len")) (gi : GlobIs C "int" (.type "int")) : ParseR C f R1 R2 := by
  have hsc := B.scope
  refine ⟨gp, fun x h peer => ?_, fun x h peer => ?_, fun x h host port0 => ?_⟩
  · refine fn_raise (bs := [(("resp" : Str), .d (.str x)), ("peer", .d peer)]) B.at_ hl (by rw [hsc]; exact scok10) (by rw [hsc]; decide +kernel) (bind2 (parse_bind B)) ?_
    intro A G A' hA
    rw [hsc]
    simp only [wStores]
    refine st_local 0 rfl rfl rfl ?_
    refine st_local 1 rfl rfl rfl ?_
    intro E hE
    exact WK.of (parse_reply (G := G.at E) hA _ _ O1 g1 x h peer hE)
  · refine fn_raise (bs := [(("resp" : Str), .d (.str x)), ("peer", .d peer)]) B.at_ hl (by rw [hsc]; exact scok10) (by rw [hsc]; decide +kernel) (bind2 (parse_bind B)) ?_
    intro A G A' hA
    rw [hsc]
    simp only [wStores]
    refine st_local 0 rfl rfl rfl ?_
    refine st_local 1 rfl rfl rfl ?_
    intro E hE
    exact WK.of (parse_proto (G := G.at E) hA _ _ O2 g2 gl x h peer hE)
  · refine fn_raise (bs := [(("resp" : Str), .d (.str x)), ("peer", .d (.tuple [host, port0]))]) B.at_ hl (by rw [hsc]; exact scok10) (by rw [hsc]; decide +kernel) (bind2 (parse_bind B)) ?_
    intro A G A' hA
    rw [hsc]
    simp only [wStores]
    refine st_local 0 rfl rfl rfl ?_
    refine st_local 1 rfl rfl rfl ?_
    intro E hE
    exact parse_ve (G := G.at E) hA _ _ gl gi x h host port0 hE
end Mine
end
section
set_option maxRecDepth 100000
set_option maxHeartbeats 1000000
open PySem
open Sem (wp)
namespace Mine
noncomputable def OwnMro (C : Cx) (R : Addr) (bm : List Value) : Prop := bm.contains (.type "BaseException") = true ∧
  ∀ h : Heap, (∀ b o, C.P0 b = some o → h.get? b = some o) → ∃ nm q N bs hdct sn sub ab col dd k0 k1 k2 k3 k5 newId, h.get? R = some (excClassObj nm q R N bs bm hdct sn sub ab col dd k0 k1 k2 k3 k5 newId)
theorem match_own {C : Cx} {R R' : Addr} {bm bm' : List Value} {m : Option Str} (h1 : OwnMro C R bm) (h2 : OwnMro C R' bm') : MatchR C ⟨.ref R, m⟩ (.ref R') ((Value.ref R :: bm).contains (.ref R')) := by
  intro A E s e oe ws Q hp0 he hcls _ hq
  obtain ⟨hb, k⟩ := h1
  obtain ⟨hb', k'⟩ := h2
  obtain ⟨h, g, d, t, os⟩ := s
  obtain ⟨_, _, _, _, _, _, _, _, _, _, _, _, _, _, _, _, hC⟩ := k h hp0
  obtain ⟨_, _, _, _, _, _, _, _, _, _, _, _, _, _, _, _, hC'⟩ := k' h hp0
  exact exm_own hC hC' he hcls hb' hq
theorem match_biOwn {C : Cx} {X : String} {R' : Addr} {bm' : List Value} {m : Option Str} (h2 : OwnMro C R' bm') (hsub : isSubtype (.type X) (.ref R') = pure false) : MatchR C ⟨.type X, m⟩ (.ref R') false := by
  intro A E s e oe ws Q hp0 he hcls _ hq
  obtain ⟨hb', k'⟩ := h2
  obtain ⟨h, g, d, t, os⟩ := s
  obtain ⟨_, _, _, _, _, _, _, _, _, _, _, _, _, _, _, _, hC'⟩ := k' h hp0
  exact exm_ownOfBi hC' he hcls hb' hsub hq
theorem match_bi {C : Cx} {X T : String} {b : Bool} {m : Option Str} (hexc : isSubtype (.type T) (.type "BaseException") = pure true) (hnt : isSubtype (.type ((Manifest.find? T).elim "type" fun x => x.metatype)) (.type "tuple") = pure false)
    (hsub : isSubtype (.type X) (.type T) = pure b) : MatchR C ⟨.type X, m⟩ (.type T) b := by
  intro A E s e oe ws Q hp0 he hcls _ hq
  exact wpAny_excMatches_type ⟨oe, he, hcls⟩ hexc hnt hsub hq
theorem sub_VE_VE : isSubtype (.type "ValueError") (.type "ValueError") = pure true := by rw [isSubtype_type]; kernel_rfl
theorem match_VE {C : Cx} {m : Option Str} : MatchR C ⟨.type "ValueError", m⟩ (.type "ValueError") true := match_bi PySem.F.isExc_ValueError PySem.F.notTuple_ValueError sub_VE_VE
theorem sub_VE_ref (a : Addr) : isSubtype (.type "ValueError") (.ref a) = pure false := by rw [isSubtype_type]; kernel_rfl
end Mine
end
section
set_option maxRecDepth 100000
set_option maxHeartbeats 1000000
open PySem
open Sem (wp)
open Builtin Builtin.Str
namespace Mine
inductive NoName (h : Heap) (n : Str) (bmB : List Value) : List Value → Prop
  | base : NoName h n bmB bmB
  | own {a : Addr} {c0 : Value} {dd : Option Addr} {cd : ClassData} {sl : Array (Option Value)} {mA : Str → Option Value} {tl : List Value} :
      h.get? a = some { cls := c0, dict := dd, data := .cls cd, slots := sl } → h.Ns cd.ns mA → mA n = none → NoName h n bmB tl → NoName h n bmB (.ref a :: tl)
theorem NoName.has {h : Heap} {n : Str} {bmB tl : List Value} (T : NoName h n bmB tl) {X : String} (hb : bmB.contains (.type X) = true) : tl.contains (.type X) = true := by
  induction T with
  | base => exact hb
  | own _ _ _ _ ih => rw [List.contains_cons, ih, Bool.or_true]
noncomputable abbrev excMro : List Value := [.type "Exception", .type "BaseException", .type "object"]
section
variable {M : Model} {A : Around} {E : Value → Shared → Prop} {h : Heap} {g : Array GenState} {d : Drawn} {t : Nat} {os : OsState}
theorem lookupNo {bmB tl : List Value} {n : Str} {y : Option Value} {Q : Option Value → Shared → Prop} (T : NoName h n bmB tl) (hrest : lookupAlong bmB n = pure y) (hq : Q y ⟨h, g, d, t, os⟩) : wpAny M A (lookupAlong tl n) Q E ⟨h, g, d, t, os⟩ := by
  induction T with
  | base => rw [hrest]; exact wpAny_pure hq
  | own hA hN hni _ ih =>
    rw [lookupAlong_cons]
    refine wpAny_bind (wpAny_classOwn_cls hA hN ?_)
    rw [hni]
    exact ih
theorem excMro_eq : mroOf (.type "Exception") = pure excMro := by kernel_rfl
theorem strRest : lookupAlong excMro "__str__" = pure (some (.builtin "BaseException.__str__")) := by
  have h := F.excStr_Exception.str.lookup
  rw [typeLookup_eq, excMro_eq] at h
  exact h
variable {nm q : Str} {C N : Addr} {bs bm bmB : List Value} {hdct : Bool} {sn : List Str} {sub : List Value} {ab : Bool} {col : Option Bool} {dd : Option Addr} {k0 k1 k2 k3 k5 : Option Value} {newId : String} {e t0 : Addr} {o : Obj}
theorem specialNo {n : Str} {y : Option Value} {Q : Option Value → Shared → Prop} (hx : h.get? e = some o) (hc : o.cls = .ref C) (hC : h.get? C = some (excClassObj nm q C N bs bm hdct sn sub ab col dd k0 k1 k2 k3 k5 newId)) (T : NoName h n bmB (.ref C :: bm))
    (hrest : lookupAlong bmB n = pure y) (hq : Q y ⟨h, g, d, t, os⟩) : wpAny M A (specialOf (.ref e) n) Q E ⟨h, g, d, t, os⟩ := by
  unfold specialOf
  refine wpAny_bind ?_
  repeat (first | (with_reducible refine wpAny_loadPart_at hx ?_; rw [hc]) | wp_step)
  rw [typeLookup_eq]
  exact wpAny_bind (wpAny_mroOf_exc hC (lookupNo T hrest hq))
end
section
variable {prog : Program} {w : World} {A : Around} {E : Value → Shared → Prop} {h : Heap} {g : Array GenState} {d : Drawn} {tk : Nat} {os : OsState}
variable {nm q : Str} {C N : Addr} {bs bm bmB : List Value} {hdct : Bool} {sn : List Str} {sub : List Value} {ab : Bool} {col : Option Bool} {dd : Option Addr} {k0 k1 k2 k3 k5 : Option Value} {newId : String} {e t0 : Addr} {o : Obj} {vs : Array Value}
theorem checkStrOwn {M : Model} {Q : Unit → Shared → Prop} (hC : h.get? C = some (excClassObj nm q C N bs bm hdct sn sub ab col dd k0 k1 k2 k3 k5 newId)) (T : NoName h "__str__" excMro (.ref C :: bm))
    (hx : h.get? e = some o) (hc : o.cls = .ref C) (hq : Q () ⟨h, g, d, tk, os⟩) : wpAny M A (checkBuiltinCall "BaseException.__str__" ⟨[.ref e], []⟩) Q E ⟨h, g, d, tk, os⟩ := by
  have hk : builtinKind "BaseException.__str__" = some .slot := by decide +kernel
  have hsplit : splitId "BaseException.__str__" = some ("BaseException", "__str__") := by decide +kernel
  have hcB : (Value.ref C :: bm).contains (.type "BaseException") = true := T.has (by decide)
  have ha := F.args_bexc_str (.ref e)
  simp only [checkBuiltinCall, hk, hsplit]
  refine wpAny_bind ?_
  · unfold isInstance
    repeat (first | (with_reducible refine wpAny_loadPart_at hx ?_; rw [hc]) | (with_reducible refine wpAny_isSubtype_exc hC ?_; rw [hcB]) | wp_step)
    exact hq
theorem argsOwn {M : Model} {items : List Value} {Q : Value × List Value → Shared → Prop} (hx : h.get? e = some o) (hd : o.data = .fields vs) (h0 : vs[0]? = some (.ref t0)) (ht : h.TupAt t0 items) (hq : Q (.ref t0, items) ⟨h, g, d, tk, os⟩) :
    wpAny M A (Builtin.BaseException.bexcArgs (.ref e)) Q E ⟨h, g, d, tk, os⟩ := by
  refine byC fun hC1 => ?_
  obtain ⟨ot, k, hto, _, htd⟩ := ht
  refine hC1 ?_
  unfold Builtin.BaseException.bexcArgs
  refine wpAny_bind (wpAny_field hx hd h0 (wpAny_bind (wpAny_seqItems hto htd ?_)))
  have : items.toArray.toList = items := by simp
  show wpAny M A (pure (Value.ref t0, items.toArray.toList)) Q E _
  rw [this]; exact wpAny_pure hq
theorem callStrOwn {m : Str} {mt : Tok} {Q : Value → Shared → Prop} (hC : h.get? C = some (excClassObj nm q C N bs bm hdct sn sub ab col dd k0 k1 k2 k3 k5 newId)) (T : NoName h "__str__" excMro (.ref C :: bm))
    (hx : h.get? e = some o) (hc : o.cls = .ref C) (hd : o.data = .fields vs) (h0 : vs[0]? = some (.ref t0)) (ht : h.TupAt t0 [.str m mt]) (hq : Q (.str m mt) ⟨h, g, d, tk, os⟩) :
    wpAny (model prog w) A (call (.builtin "BaseException.__str__") [.ref e]) Q E ⟨h, g, d, tk, os⟩ := by
  refine wpAny_call (codeAny_call_builtin F.excStr_Exception.str.plain F.entry_bexc_str (checkStrOwn hC T hx hc ?_))
  show wpAny (model prog w) A.in1 (Builtin.«BaseException.__str__» ⟨[.ref e], []⟩) _ _ _
  unfold Builtin.«BaseException.__str__»
  repeat (first | with_reducible refine argsOwn hx hd h0 ht ?_ | wp_step)
  exact hq
theorem strOfOwn (hu : A.units < cLine) {m : Str} {mt : Tok} {Q : Value → Shared → Prop} (hC : h.get? C = some (excClassObj nm q C N bs bm hdct sn sub ab col dd k0 k1 k2 k3 k5 newId)) (T : NoName h "__str__" excMro (.ref C :: bm))
    (hx : h.get? e = some o) (hc : o.cls = .ref C) (hd : o.data = .fields vs) (h0 : vs[0]? = some (.ref t0)) (ht : h.TupAt t0 [.str m mt]) (hq : Q (.str m mt) ⟨h, g, d, tk, os⟩) :
    wpAny (model prog w) A (Builtin.Str.strOf (.ref e)) Q E ⟨h, g, d, tk, os⟩ := by
  unfold Builtin.Str.strOf
  have key : ∀ {Q : Option Value → Shared → Prop}, Q (some (.str m mt)) ⟨h, g, d, tk, os⟩ → wpAny (model prog w) A (callSpecial? (.ref e) "__str__") Q E ⟨h, g, d, tk, os⟩ := fun {Q} hq => by
    simp only [callSpecial?]
    refine wpAny_bind (specialNo hx hc hC T strRest ?_)
    simp only [F.excStr_Exception.str.bind]
    exact wpAny_holding (wpAny_bind (wpAny_pure (wpAny_bind (callStrOwn hC T hx hc hd h0 ht (wpAny_pure hq)))))
  repeat (first | with_reducible refine wpAny_cRoomFor hu ?_ | with_reducible refine key ?_ | wp_step)
  exact hq
theorem strOwn (hu : A.units + 2 < cLine) {m : Str} {mt : Tok} {Q : Value → Shared → Prop} (hC : h.get? C = some (excClassObj nm q C N bs bm hdct sn sub ab col dd k0 k1 k2 k3 k5 newId)) (T : NoName h "__str__" excMro (.ref C :: bm))
    (hx : h.get? e = some o) (hc : o.cls = .ref C) (hd : o.data = .fields vs) (h0 : vs[0]? = some (.ref t0)) (ht : h.TupAt t0 [.str m mt]) (hq : Q (.str m mt) ⟨h, g, d, tk, os⟩) :
    wpAny (model prog w) A (call (.type "str") [.ref e]) Q E ⟨h, g, d, tk, os⟩ :=
  callType_new F.called_str (by decide) (F.typeCall_str_1 _) (F.newCall_str_1 _) (fun obj => F.args_object_init_2 obj _) F.entry_str_new
    (meets_str_new (S := fun A' R s' => A'.units + 1 < cLine ∧ s' = ⟨h, g, d, tk, os⟩ ∧ R (.ok (.ret (.str m mt))) s')
      fun _ _ A' _ s' hq => by obtain ⟨h1, rfl, h3⟩ := hq; exact strOfOwn (A := A'.in1) h1 hC T hx hc hd h0 ht h3)
    ⟨(show A.units + 1 + 1 < cLine from hu), rfl, typeIs_str _ _ _, hq⟩
end
end Mine
end
section
set_option maxRecDepth 100000
set_option maxHeartbeats 1000000
open PySem
open Sem (wp)
namespace Mine
noncomputable def SayOk (C : Cx) (cls : Value) : Prop := ∀ (A : Around) (E : Value → Shared → Prop) (s : Shared) (e t : Addr) (oe ot : Obj) (ws : Array Value) (n : Nat) (m : Str) (mt : Tok) (Q : Value → Shared → Prop), (∀ b o, C.P0 b = some o → s.heap.get? b = some o) → A.units + 2 < cLine →
  s.heap.get? e = some oe → oe.cls = cls → oe.data = .fields ws → ws[0]? = some (.ref t) → s.heap.get? t = some ot → ot.cls = .type "tuple" → ot.data = .seq [.str m mt].toArray n → Q (.str m mt) s → wpAny (model C.prog C.w) A (call (.type "str") [.ref e]) Q E s
theorem say_bi {C : Cx} {X n : String} (FX : ExcStrFacts X n) : SayOk C (.type X) := fun A E s e t oe ot ws n m mt Q _ hu h1 h2 h3 h4 h5 h6 h7 hq =>
  P.str_of_exc_one FX hu ⟨oe, ws, h1, h2, h3, h4⟩ ⟨ot, n, h5, h6, h7⟩ hq
noncomputable def OwnSay (C : Cx) (R : Addr) : Prop := ∀ h : Heap, (∀ b o, C.P0 b = some o → h.get? b = some o) → ∃ nm q N bs bm hdct sn sub ab col dd k0 k1 k2 k3 k5 newId, h.get? R = some (excClassObj nm q R N bs bm hdct sn sub ab col dd k0 k1 k2 k3 k5 newId) ∧ NoName h "__str__" excMro (.ref R :: bm)
theorem say_own {C : Cx} {R : Addr} (O : OwnSay C R) : SayOk C (.ref R) := fun A E s e t oe ot ws n m mt Q hp0 hu h1 h2 h3 h4 h5 h6 h7 hq => by
  refine byC fun hC1 => ?_
  obtain ⟨h, g, d, tk, os⟩ := s
  obtain ⟨_, _, _, _, _, _, _, _, _, _, _, _, _, _, _, _, _, hC, T⟩ := O h hp0
  refine hC1 ?_
  exact strOwn hu hC T h1 h2 h3 h4 ⟨ot, n, h5, h6, h7⟩ hq
theorem bi_strEx {C : Cx} {A : Around} {G : Gd} {st : List AObj} {Q : AV → List AObj → Prop} {x : ExSay} {ex : Addr} {m : Str} (h : ExIn G.φ x ex) (hm : x.msg = some m) (S : SayOk C x.cls) (hu : A.units + 100 ≤ 9100) (q : Q (.d (.str m)) st) :
    wBi C A G st (.type "str") [.glob (.ref ex)] Q := fun κ σ s vs X r => by
  refine byC fun hC1 => ?_
  obtain ⟨v, rfl, e⟩ := r.one
  cases (e : v = _)
  obtain ⟨oe, ws, a0, h1, h2, h3, h4, h5⟩ := h
  rw [hm] at h5
  obtain ⟨t, ot, mt, n, rfl, h6, h7, h8⟩ := h5
  refine hC1 ?_
  exact S A G.E s ex t oe ot ws n m mt _ X.p0 (by have : (cLine : Nat) > 9064 := by decide
                                                  lia) (X.phi _ _ h1) h2 h3 h4 (X.phi _ _ h6) h7 h8 (PA.str X q)
end Mine
end
section
open PySem PySem.Calls PyProof.Rows PySem.W PySem.SeqAt PyProof.V
namespace Mine
section
variable {C : Cx} {A : Around} {G : Gd} {ae : AEnv} {st : List AObj}
noncomputable def wCh (C : Cx) (A : Around) (G : Gd) (ae : AEnv) (st : List AObj) (pos : Pos) (a : AV) (ops : List CmpOp) (rs : List Expr) (Q : AV → List AObj → Prop) : Prop :=
  ∀ κ σ s va, EnvR ae σ G.env → Rel C G.φ G.κ₀ κ σ st s → RV κ σ a va → wpAny (model C.prog C.w) A (compareChain pos va ops (evalEach rs G.env)) (PA RV C G.φ G.κ₀ κ σ Q) G.E s
noncomputable def wTc (C : Cx) (A : Around) (G : Gd) (ae : AEnv) (st : List AObj) (pos : Pos) (a : AV) (ops : List CmpOp) (rs : List Expr) (Q : Bool → List AObj → Prop) : Prop :=
  ∀ κ σ s va, EnvR ae σ G.env → Rel C G.φ G.κ₀ κ σ st s → RV κ σ a va → wpAny (model C.prog C.w) A (testChain pos va ops (evalEach rs G.env)) (PA RB C G.φ G.κ₀ κ σ Q) G.E s
theorem wE_chain {l r1 r2 : Expr} {op1 op2 : CmpOp} {ops : List CmpOp} {rs : List Expr} {pos : Pos} {Q : AV → List AObj → Prop} (hm : lastMarks (op1 :: op2 :: ops) (r1 :: r2 :: rs) = false)
    (h : wE C A G ae st l fun a st1 => wCh C A G ae st1 pos a (op1 :: op2 :: ops) (r1 :: r2 :: rs) Q) : wE C A G ae st (.Compare l (op1 :: op2 :: ops) (r1 :: r2 :: rs) pos) Q := fun κ σ s e X =>
  Compare_chain (wpAny_mono (h κ σ s e X) (fun va s1 z => z.go fun κ1 σ1 a st1 k1 p1 X1 r1 q1 => PA.wp k1 p1 (q1 κ1 σ1 s1 va (e.mono p1) X1 r1)) fun _ _ z => z) hm
theorem wB_chain {l r1 r2 : Expr} {op1 op2 : CmpOp} {ops : List CmpOp} {rs : List Expr} {pos : Pos} {Q : Bool → List AObj → Prop} (hm : lastMarks (op1 :: op2 :: ops) (r1 :: r2 :: rs) = false)
    (h : wE C A G ae st l fun a st1 => wTc C A G ae st1 pos a (op1 :: op2 :: ops) (r1 :: r2 :: rs) Q) : wB C A G ae st (.Compare l (op1 :: op2 :: ops) (r1 :: r2 :: rs) pos) Q := fun κ σ s e X =>
  isTrue_chain (wpAny_mono (h κ σ s e X) (fun va s1 z => z.go fun κ1 σ1 a st1 k1 p1 X1 r1 q1 => PA.wp k1 p1 (q1 κ1 σ1 s1 va (e.mono p1) X1 r1)) fun _ _ z => z) hm
theorem wCh_last {pos : Pos} {a : AV} {op : CmpOp} {r : Expr} {Q : AV → List AObj → Prop} (h : wE C A G ae st r fun b st1 => wCmp C A G st1 op a b Q) : wCh C A G ae st pos a [op] [r] Q := fun κ σ s va e X ra =>
  chain_last (wpAny_mono (h κ σ s e X) (fun vb s1 z => z.go fun κ1 σ1 b st1 k1 p1 X1 rb q1 => PA.wp k1 p1 (q1 κ1 σ1 s1 va vb X1 (ra.mono k1 p1) rb)) fun _ _ z => z)
theorem wCh_link {pos : Pos} {a : AV} {op op' : CmpOp} {ops : List CmpOp} {r r' : Expr} {rs : List Expr} {Q : AV → List AObj → Prop}
    (h : wE C A G ae st r fun b st1 => wCmp C A G st1 op a b fun c st2 => wTr C A G st2 c fun t st3 => if t then wCh C A G ae st3 pos b (op' :: ops) (r' :: rs) Q else Q c st3) : wCh C A G ae st pos a (op :: op' :: ops) (r :: r' :: rs) Q := fun κ σ s va e X ra =>
  chain_link (wpAny_mono (h κ σ s e X) (fun vb s1 z => z.go fun κ1 σ1 b st1 k1 p1 X1 rb q1 => wpAny_mono (q1 κ1 σ1 s1 va vb X1 (ra.mono k1 p1) rb) (fun vc s2 z => z.go fun κ2 σ2 c st2 k2 p2 X2 rc q2 =>
    wpAny_mono (q2 κ2 σ2 s2 vc X2 rc) (fun t s3 z => z.go fun κ3 σ3 t' st3 k3 p3 X3 rt q3 => by
      cases (rt : t = t')
      cases t with
      | false => exact ⟨κ3, σ3, c, st3, (k1.trans k2).trans k3, (p1.trans p2).trans p3, X3, rc.mono k3 p3, q3⟩
      | true =>
        exact PA.wp ((k1.trans k2).trans k3) ((p1.trans p2).trans p3) (q3 κ3 σ3 s3 vb (e.mono ((p1.trans p2).trans p3)) X3 (rb.mono (k2.trans k3) (p2.trans p3)))) fun _ _ z => z) fun _ _ z => z) fun _ _ z => z)
theorem wTc_last {pos : Pos} {a : AV} {op : CmpOp} {r : Expr} {Q : Bool → List AObj → Prop} (h : wE C A G ae st r fun b st1 => wCmp C A G st1 op a b fun c st2 => wTr C A G st2 c Q) : wTc C A G ae st pos a [op] [r] Q := fun κ σ s va e X ra =>
  test_last (wpAny_mono (h κ σ s e X) (fun vb s1 z => z.go fun κ1 σ1 b st1 k1 p1 X1 rb q1 => wpAny_mono (q1 κ1 σ1 s1 va vb X1 (ra.mono k1 p1) rb) (fun vc s2 z => z.go fun κ2 σ2 c st2 k2 p2 X2 rc q2 =>
    PA.wp (k1.trans k2) (p1.trans p2) (q2 κ2 σ2 s2 vc X2 rc)) fun _ _ z => z) fun _ _ z => z)
theorem wTc_link {pos : Pos} {a : AV} {op op' : CmpOp} {ops : List CmpOp} {r r' : Expr} {rs : List Expr} {Q : Bool → List AObj → Prop}
    (h : wE C A G ae st r fun b st1 => wCmp C A G st1 op a b fun c st2 => wTr C A G st2 c fun t st3 => if t then wTc C A G ae st3 pos b (op' :: ops) (r' :: rs) Q else Q false st3) : wTc C A G ae st pos a (op :: op' :: ops) (r :: r' :: rs) Q := fun κ σ s va e X ra =>
  test_link (wpAny_mono (h κ σ s e X) (fun vb s1 z => z.go fun κ1 σ1 b st1 k1 p1 X1 rb q1 => wpAny_mono (q1 κ1 σ1 s1 va vb X1 (ra.mono k1 p1) rb) (fun vc s2 z => z.go fun κ2 σ2 c st2 k2 p2 X2 rc q2 =>
    wpAny_mono (q2 κ2 σ2 s2 vc X2 rc) (fun t s3 z => z.go fun κ3 σ3 t' st3 k3 p3 X3 rt q3 => by
      cases (rt : t = t')
      cases t with
      | false => exact ⟨κ3, σ3, false, st3, (k1.trans k2).trans k3, (p1.trans p2).trans p3, X3, rfl, q3⟩
      | true => exact PA.wp ((k1.trans k2).trans k3) ((p1.trans p2).trans p3) (q3 κ3 σ3 s3 vb (e.mono ((p1.trans p2).trans p3)) X3 (rb.mono (k2.trans k3) (p2.trans p3)))) fun _ _ z => z) fun _ _ z => z) fun _ _ z => z)
end
end Mine
end
section
open PySem PySem.Calls PyProof.Rows PySem.W PySem.SeqAt PyProof.V
set_option maxRecDepth 100000
namespace Mine
noncomputable def refBody (m : Str) (p : Int) : Str := (rep m 3 ++ numS p) ++ m
noncomputable def spoiled (m : Str) (p : Int) : List Str :=
  [("228 (" ++ refBody m p) ++ ")", ("129 (" ++ refBody m p) ++ ")", "229 272)", ("229 (" ++ refBody m p) ++ "]", ("229 (" ++ refBody m p) ++ "=)",
   ("229 (" ++ Txt.slice (refBody m p) (some 1) none) ++ ")", (("229 (" ++ m) ++ refBody m p) ++ ")", ("229 (" ++ rep m 4) ++ ")", ((("229 (" ++ rep m 3) ++ "x") ++ m) ++ ")"]
theorem rep1_len {m : Str} (hm : m.length = 1) (n : Int) (h : n.natAbs ≤ 1000) : (rep m n).length ≤ 1000 := by
  obtain ⟨cs⟩ := m
  obtain ⟨c, rfl⟩ : ∃ c, cs = #[c] := by
    have h1 : cs.size = 1 := hm
    exact Array.size_eq_one_iff.mp h1
  exact rep_len c n h
noncomputable abbrev st14 (m : Str) (p k : Int) : List AObj := [nsOf 13 [some (.d (.str m)), some (.d (.int p)), some (.d (.int k)), some (.d (.str (refBody m p))), some (.obj 1), none, none, none, none, none, none], .list (((spoiled m p).map PyData.str).map .d)]
set_option maxHeartbeats 4000000 in
theorem refused_pre {C : Cx} {A : Around} {G : Gd} (cd : Value) (ql : Str) (gs : GlobIs C "str" (.type "str")) (m : Str) (hm : m.length = 1) (p : Int) (hp : p.natAbs ≤ 2 ^ 60) (hn : (numS p).length ≤ 1000) (k : Int) :
    wSs C A G ⟨scopeOf PySem.Challenge.pw_wb0027_02 13, 0, [], cd, ql⟩ [nsOf 13 [some (.d (.str m)), some (.d (.int p)), some (.d (.int k)), none, none, none, none, none, none, none, none]] ((bodyOf PySem.Challenge.pw_wb0027_02 13).take 4) (fun fl st' => fl = .next ∧ st' = st14 m p k) := by
  have hS := sizeLine_eq
  have l3 := rep1_len hm 3 (by decide)
  have l4 := rep1_len hm 4 (by decide)
  have la := fun a b : Str => PySem.Str.length_append a b
  have lB : (refBody m p).length ≤ 2001 := by unfold refBody; rw [la, la]; lia
  have lC : (Txt.slice (refBody m p) (some 1) none).length ≤ 2001 := Nat.le_trans (Txt.slice_le ..) lB
  have t1 : (Str.ofString "228 (").length = 5 := by decide +kernel
  have t2 : (Str.ofString "129 (").length = 5 := by decide +kernel
  have t3 : (Str.ofString "229 (").length = 5 := by decide +kernel
  have t4 : (Str.ofString ")").length = 1 := by decide +kernel
  have t5 : (Str.ofString "]").length = 1 := by decide +kernel
  have t6 : (Str.ofString "=)").length = 2 := by decide +kernel
  have t7 : (Str.ofString "x").length = 1 := by decide +kernel
  refine wSs_cons (wS_assign (fun _ => rfl) ?_)
  refine wE_bin (wE_bin (wE_bin (wE_local 0 rfl rfl rfl rfl (wE_int ?_))))
  refine mul_si (by decide) (by decide) (by lia) (by lia) ?_
  refine wE_c1 (fun _ => rfl) (wE_glob 6 gs rfl (wE_local 1 rfl rfl rfl rfl (wCall_ty (bi_str (log2_small hp) ?_))))
  refine add_ss (by show (rep m 3).length + (numS p).length ≤ _; lia) ?_
  refine wE_local 0 rfl rfl rfl rfl ?_
  refine add_ss (by show (rep m 3 ++ numS p).length + m.length ≤ _; rw [la]; lia) ?_
  refine st_local 3 rfl rfl rfl ?_
  show wSs _ _ _ _ _ _ _
  generalize hB : (⟨(List.replicate (3 : Int).toNat m.cps).foldl (· ++ ·) #[]⟩ ++ Str.ofString (toString p) ++ m : Str) = B
  have hB' : B = refBody m p := hB.symm
  subst hB'
  clear hB
  refine wSs_cons (wS_assign (fun _ => rfl) ?_)
  refine wE_list ?_
  refine wArgs_cons (fun _ => rfl) (wE_bin (wE_bin (wE_str (wE_local 3 rfl rfl rfl rfl (add_ss (by lia) (wE_str (add_ss (by rw [la]; lia) ?_)))))))
  refine wArgs_cons (fun _ => rfl) (wE_bin (wE_bin (wE_str (wE_local 3 rfl rfl rfl rfl (add_ss (by lia) (wE_str (add_ss (by rw [la]; lia) ?_)))))))
  refine wArgs_cons (fun _ => rfl) (wE_str ?_)
  refine wArgs_cons (fun _ => rfl) (wE_bin (wE_bin (wE_str (wE_local 3 rfl rfl rfl rfl (add_ss (by lia) (wE_str (add_ss (by rw [la]; lia) ?_)))))))
  refine wArgs_cons (fun _ => rfl) (wE_bin (wE_bin (wE_str (wE_local 3 rfl rfl rfl rfl (add_ss (by lia) (wE_str (add_ss (by rw [la]; lia) ?_)))))))
  refine wArgs_nil ⟨by rw [sizeLine_eq]; exact Nat.le_of_ble_eq_true rfl, ?_⟩
  refine st_local 4 rfl rfl rfl ?_
  show wSs _ _ _ _ _ _ _
  refine wSs_cons (wS_expr (fun _ => rfl) ?_)
  refine wE_m1 F.plainAttrs_list F.slot_list_extend F.type_list_extend ?_ ?_ ?_ ?_
  · exact fun _ _ => rfl
  · exact fun _ => rfl
  · rfl
  refine wE_local 4 rfl rfl rfl rfl ⟨hasTy_list rfl, ?_⟩
  refine wE_listD ?_
  refine wArgs_cons (fun _ => rfl) (wE_bin (wE_bin (wE_str (wE_cut (wE_local 3 rfl rfl rfl rfl (wP_some (wE_int ⟨1, rfl, wP_none (wP_none ?_)⟩)))))))
  refine cut_str (by lia) (add_ss (by lia) (wE_str (add_ss (by rw [la]; lia) ?_)))
  refine wArgs_cons (fun _ => rfl) (wE_bin (wE_bin (wE_bin (wE_str (wE_local 0 rfl rfl rfl rfl (add_ss (by lia) (wE_local 3 rfl rfl rfl rfl (add_ss (by rw [la]; lia) (wE_str (add_ss (by rw [la, la]; lia) ?_)))))))))) 
  refine wArgs_nil ⟨[.str _, .str _], rfl, by rw [sizeLine_eq]; exact Nat.le_of_ble_eq_true rfl, ?_⟩
  refine bi_extend (l := [.d (.str _), .d (.str _), .d (.str _), .d (.str _), .d (.str _)]) (m := [.str _, .str _]) rfl rfl (fun h => nomatch h) (Nat.le_of_ble_eq_true rfl) ?_
  show wSs _ _ _ _ _ _ _
  refine wSs_cons (wS_expr (fun _ => rfl) ?_)
  refine wE_m1 F.plainAttrs_list F.slot_list_extend F.type_list_extend ?_ ?_ ?_ ?_
  · exact fun _ _ => rfl
  · exact fun _ => rfl
  · rfl
  refine wE_local 4 rfl rfl rfl rfl ⟨hasTy_list rfl, ?_⟩
  refine wE_listD ?_
  refine wArgs_cons (fun _ => rfl) (wE_bin (wE_bin (wE_str (wE_bin (wE_local 0 rfl rfl rfl rfl (wE_int ?_))))))
  refine mul_si (by decide) (by decide) (by lia) (by lia) (add_ss (by show 5 + (rep m 4).length ≤ _; lia) (wE_str (add_ss (by rw [la]; show 5 + (rep m 4).length + 1 ≤ _; lia) ?_)))
  refine wArgs_cons (fun _ => rfl) (wE_bin (wE_bin (wE_bin (wE_bin (wE_str (wE_bin (wE_local 0 rfl rfl rfl rfl (wE_int ?_))))))))
  refine mul_si (by decide) (by decide) (by lia) (by lia) (add_ss (by show 5 + (rep m 3).length ≤ _; lia) (wE_str (add_ss (by rw [la]; show 5 + (rep m 3).length + 1 ≤ _; lia) (wE_local 0 rfl rfl rfl rfl (add_ss (by rw [la, la]; show 5 + (rep m 3).length + 1 + m.length ≤ _; lia) (wE_str (add_ss (by rw [la, la, la]; show 5 + (rep m 3).length + 1 + m.length + 1 ≤ _; lia) ?_)))))))
  refine wArgs_nil ⟨[.str _, .str _], rfl, by rw [sizeLine_eq]; exact Nat.le_of_ble_eq_true rfl, ?_⟩
  refine bi_extend (l := [.d (.str _), .d (.str _), .d (.str _), .d (.str _), .d (.str _), .d (.str _), .d (.str _)]) (m := [.str _, .str _]) rfl rfl (fun h => nomatch h) (Nat.le_of_ble_eq_true rfl) ?_
  show wSs _ _ _ _ _ _ _
  exact wSs_nil ⟨rfl, rfl⟩
end Mine
end
section
open PySem PySem.Calls PyProof.Rows PySem.W PySem.SeqAt PyProof.V
set_option maxRecDepth 100000
namespace Mine
structure ExcG (C : Cx) (R1 R2 : Addr) : Prop where
  g1 : GlobIs C "error_reply" (.ref R1)
  g2 : GlobIs C "error_proto" (.ref R2)
  gv : GlobIs C "ValueError" (.type "ValueError")
  m11 : ∀ m, MatchR C ⟨.ref R1, m⟩ (.ref R1) true
  m21 : ∀ m, MatchR C ⟨.ref R2, m⟩ (.ref R1) false
  m22 : ∀ m, MatchR C ⟨.ref R2, m⟩ (.ref R2) true
  mv1 : ∀ m, MatchR C ⟨.type "ValueError", m⟩ (.ref R1) false
  mv2 : ∀ m, MatchR C ⟨.type "ValueError", m⟩ (.ref R2) false
  s1 : SayOk C (.ref R1)
  s2 : SayOk C (.ref R2)
structure RefOk (m : Str) (p : Int) : Prop where
  r : ∀ k : Nat, k < 2 → ∃ x, (spoiled m p)[k]? = some x ∧ ParseReply x
  pr : ∀ k : Nat, 2 ≤ k → k < 7 → ∃ x, (spoiled m p)[k]? = some x ∧ ParseProto x
  ve : ∀ k : Nat, 7 ≤ k → k < 9 → ∃ x, (spoiled m p)[k]? = some x ∧ ParseVE x
theorem scok14 : ScOk (scopeOf PySem.Challenge.pw_wb0027_02 13) := ⟨rfl, by decide +kernel, by decide +kernel⟩
theorem cn14 : ((cellsFrom 1 (scopeOf PySem.Challenge.pw_wb0027_02 13).names []).map (·.1)).Nodup := by decide +kernel
theorem refused_bind {C : Cx} {f : Value} {fd : FuncData} (B : PlainG C 13 f fd) (v u w : Value) : bindArgs fd ⟨[v, u, w], []⟩ = (pure [(("mark" : Str), v), ("port", u), ("kind", w)] : Sem (List (Str × Value))) := B.bind rfl
noncomputable abbrev names14 : List Str := (scopeOf PySem.Challenge.pw_wb0027_02 13).names.map (·.1)
noncomputable abbrev V14 (m : Str) (p k : Int) : List (Option AV) := [some (.d (.str m)), some (.d (.int p)), some (.d (.int k)), some (.d (.str (refBody m p))), some (.obj 1), none, none, none, none, none, none]
noncomputable abbrev T14 (m : Str) (p : Int) : List AObj := [.list (((spoiled m p).map PyData.str).map .d)]
theorem refused_tb {C : Cx} {A : Around} {G : Gd} {ae : AEnv} {n : Nat} {envS envL : Env} {L : Addr} {pf : Value} {es : ExSay} (hae : ae.scope = scopeOf PySem.Challenge.pw_wb0027_02 13) (hL0 : ae.L = 0) (hA : AOk A n) (T : Two C A G envS envL L) (gp : GlobIs C "parse229" pf) (m : Str) (p : Int) (k : Nat) (x : Str) (hx : (spoiled m p)[k]? = some x)
    (hE : RaiseF C G ae envS envL es names14 (V14 m p k) (T14 m p)) (hr : FnRaise C n pf [.d (.str x), .d (.tuple [.str "peer", .int 21])] [] [] es) (e1 e2 : Pos) (p1 p2 p3 p4 p5 p6 p7 : Pos) :
    wSsK C A G ae (.ns names14 (V14 m p k) :: T14 m p) [.Expr (.Call (.Name "parse229" p1) [.Subscript (.Name "spoiled" p2) (.Name "kind" p3) p4, .Tuple [.Constant (.str "peer") 0 p5, .Constant (.int 21) 0 p6] 0 p7] [] e1) e2] (fun _ _ => False) := by
  have hk9 : k < 2 ^ 60 := by
    have : k < (spoiled m p).length := by
      rcases Nat.lt_or_ge k (spoiled m p).length with h | h
      · exact h
      · rw [List.getElem?_eq_none h] at hx; cases hx
    have : (spoiled m p).length = 9 := rfl
    lia
  have h2 : ae.scope.names[2]? = some (("kind" : Str), NameKind.local) := by rw [hae]; rfl
  have h4 : ae.scope.names[4]? = some (("spoiled" : Str), NameKind.local) := by rw [hae]; rfl
  have hns : (.ns names14 (V14 m p k) :: T14 m p : List AObj)[ae.L]? = some (.ns names14 (V14 m p k)) := by rw [hL0]; rfl
  refine wSsK_consK (wSK_expr (fun _ => rfl) ?_)
  refine wE_callRaise 7 [] (fun _ => rfl) (fun _ => rfl) (fun _ => rfl) gp (by rw [hae]; rfl) hA hL0 T hE ?_
  refine wArgs_cons (fun _ => rfl) (wE_sub (fun _ _ => ⟨_, rfl⟩) (wE_local 4 h4 hns rfl rfl (wE_local 2 h2 hns rfl rfl ?_)))
  refine sub_list (l := (((spoiled m p).map PyData.str).map .d)) (x := .d (.str x)) (.inl rfl) (by lia) (by lia) (by rw [Int.toNat_natCast, List.getElem?_map, List.getElem?_map, hx]; rfl) ?_
  refine wArgs_cons (fun _ => rfl) (wE_tupD ?_)
  refine wArgs_cons (fun _ => rfl) (wE_str ?_)
  refine wArgs_cons (fun _ => rfl) (wE_int ?_)
  refine wArgs_nil ⟨[.str "peer", .int 21], rfl, by rw [sizeLine_eq]; exact Nat.le_of_ble_eq_true rfl, ?_⟩
  exact wArgs_nil (wKws_nil ⟨hr, all2 trivial trivial, (fun a ha => nomatch ha), [], rfl⟩)
theorem refused_eq {C : Cx} {A : Around} {G : Gd} {ae : AEnv} {ex : Addr} {es : ExSay} {r : List AObj} {Q : AV → List AObj → Prop} (hae : ae.scope = scopeOf PySem.Challenge.pw_wb0027_02 13) (hL0 : ae.L = 0) (hu : A.units + 100 ≤ 9100) (gs : GlobIs C "str" (.type "str")) (hin : ExIn G.φ es ex) (m : Str) (p : Int) (k : Nat) (x : Str) (hx : (spoiled m p)[k]? = some x) (hm : es.msg = some x) (S : SayOk C es.cls)
    (p1 p2 p3 p4 p5 p6 p7 : Pos) (q : Q (.d (.bool true)) (.ns names14 ((V14 m p k).set 5 (some (.glob (.ref ex)))) :: T14 m p ++ r)) :
    wE C A G ae (.ns names14 ((V14 m p k).set 5 (some (.glob (.ref ex)))) :: T14 m p ++ r) (.Compare (.Call (.Name "str" p1) [.Name "error" p2] [] p3) [.Eq] [.Subscript (.Name "spoiled" p4) (.Name "kind" p5) p6] p7) Q := by
  have hk9 : k < 2 ^ 60 := by
    have : k < (spoiled m p).length := by
      rcases Nat.lt_or_ge k (spoiled m p).length with h | h
      · exact h
      · rw [List.getElem?_eq_none h] at hx; cases hx
    have : (spoiled m p).length = 9 := rfl
    lia
  have h2 : ae.scope.names[2]? = some (("kind" : Str), NameKind.local) := by rw [hae]; rfl
  have h4 : ae.scope.names[4]? = some (("spoiled" : Str), NameKind.local) := by rw [hae]; rfl
  have h5 : ae.scope.names[5]? = some (("error" : Str), NameKind.local) := by rw [hae]; rfl
  have h6 : ae.scope.names[6]? = some (("str" : Str), NameKind.globalImplicit) := by rw [hae]; rfl
  have hns : (.ns names14 ((V14 m p k).set 5 (some (.glob (.ref ex)))) :: T14 m p ++ r : List AObj)[ae.L]? = some (.ns names14 ((V14 m p k).set 5 (some (.glob (.ref ex))))) := by rw [hL0]; rfl
  refine wE_cmp rfl (wE_c1 (fun _ => rfl) (wE_glob 6 gs h6 (wE_local 5 h5 hns rfl rfl (wCall_ty (bi_strEx hin hm S hu ?_)))))
  refine wE_sub (fun _ _ => ⟨_, rfl⟩) (wE_local 4 h4 hns rfl rfl (wE_local 2 h2 hns rfl rfl ?_))
  refine sub_list (l := (((spoiled m p).map PyData.str).map .d)) (x := .d (.str x)) (.inl rfl) (by lia) (by lia) (by rw [Int.toNat_natCast, List.getElem?_map, List.getElem?_map, hx]; rfl) ?_
  refine eq_ss ?_
  rw [show (x == x) = true from beq_self_eq_true x]
  exact q
set_option maxHeartbeats 4000000 in
theorem refused_ok {C : Cx} {f pf : Value} {fd : FuncData} {R1 R2 : Addr} (hl : NoLim C) (B : PlainG C 13 f fd) (gs : GlobIs C "str" (.type "str")) (P : ParseR C pf R1 R2) (X : ExcG C R1 R2) (m : Str) (hm : m.length = 1) (p : Int) (hp : p.natAbs ≤ 2 ^ 60) (hn : (numS p).length ≤ 1000) (H : RefOk m p) (k : Nat) (hk : k < 9) :
    FnOkX C 3 f [.d (.str m), .d (.int p), .d (.int k)] [] [] fun r => r = PyData.bool true := by
  have hbind := bind3 (C := C) (a := .d (.str m)) (b := .d (.int p)) (c := .d (.int k)) (refused_bind B)
  refine byC fun hC1 => ?_
  obtain ⟨name, qual, params, fbody, scope, globals, closure, defaults, kwdefaults, doc, pm, ann, code, ct, bi⟩ := fd
  obtain ⟨hat, hs, hpar, hd, hkw⟩ := B
  cases hs
  refine hC1 ?_
  have run : ∀ A G A', AOk A 2 → wStores C A' G (aeOf ⟨name, qual, params, fbody, scopeOf PySem.Challenge.pw_wb0027_02 13, globals, closure, defaults, kwdefaults, doc, pm, ann, code, ct, bi⟩) [(("mark" : Str), .d (.str m)), ("port", .d (.int p)), ("kind", .d (.int k))] ([.ns names14 (List.replicate (scopeOf PySem.Challenge.pw_wb0027_02 13).names.length none)] ++ List.replicate (nCells (scopeOf PySem.Challenge.pw_wb0027_02 13).names) (.cell none))
      fun st0 => ∀ E, wSs C A (G.at E) (aeOf ⟨name, qual, params, fbody, scopeOf PySem.Challenge.pw_wb0027_02 13, globals, closure, defaults, kwdefaults, doc, pm, ann, code, ct, bi⟩) st0 ((bodyOf PySem.Challenge.pw_wb0027_02 13).take 4) (fun fl st' => fl = .next ∧ st' = .ns names14 (V14 m p k) :: T14 m p) := by
    intro A G A' hA
    simp only [wStores]
    refine st_local 0 rfl rfl rfl ?_
    refine st_local 1 rfl rfl rfl ?_
    refine st_local 2 rfl rfl rfl ?_
    intro E
    exact refused_pre (G := G.at E) _ _ gs m hm p hp hn k
  by_cases h2 : k < 2
  · refine byC fun hC2 => ?_
    obtain ⟨x, hx, hpx⟩ := H.r k h2
    refine hC2 ?_
    refine fn_tryX (pre := (bodyOf PySem.Challenge.pw_wb0027_02 13).take 4) (V := V14 m p k) (stT := T14 m p) (x := ⟨.ref R1, some x⟩) (nm := some "error") hat rfl hl scok14 rfl cn14 hbind run ?_ (.here 8 rfl X.g1 (X.m11 _)) 5 (fun m' h => by cases h; rfl) ?_
    · intro A G envS envL L hA T hE
      exact refused_tb rfl rfl hA T P.glob m p k x hx hE (P.reply x hpx _) _ _ _ _ _ _ _ _ _
    · intro A G ex r hu hin
      refine wSs_cons (wS_ret (wE_and (wE_cmp rfl (wE_local 2 rfl rfl rfl rfl (wE_int (lt_ii (tr_b ?_)))))))
      rw [show decide ((k : Int) < 2) = true from decide_eq_true (by lia)]
      exact refused_eq rfl rfl hu gs hin m p k x hx rfl X.s1 _ _ _ _ _ _ _ ⟨_, rfl, rfl, _, _, rfl⟩
  by_cases h7 : k < 7
  · refine byC fun hC3 => ?_
    obtain ⟨x, hx, hpx⟩ := H.pr k (by lia) h7
    refine hC3 ?_
    refine fn_tryX (pre := (bodyOf PySem.Challenge.pw_wb0027_02 13).take 4) (V := V14 m p k) (stT := T14 m p) (x := ⟨.ref R2, some x⟩) (nm := some "error") hat rfl hl scok14 rfl cn14 hbind run ?_ (.skip 8 rfl X.g1 (X.m21 _) (.here 9 rfl X.g2 (X.m22 _))) 5 (fun m' h => by cases h; rfl) ?_
    · intro A G envS envL L hA T hE
      exact refused_tb rfl rfl hA T P.glob m p k x hx hE (P.proto x hpx _) _ _ _ _ _ _ _ _ _
    · intro A G ex r hu hin
      refine wSs_cons (wS_ret (wE_and (wE_chain rfl (wE_int (wCh_link (wE_local 2 rfl rfl rfl rfl (lt_ii (tr_b ?_))))))))
      rw [show decide ((1 : Int) < (k : Int)) = true from decide_eq_true (by lia)]
      refine wCh_last (wE_int (lt_ii (tr_b ?_)))
      rw [show decide ((k : Int) < 7) = true from decide_eq_true (by lia)]
      exact refused_eq rfl rfl hu gs hin m p k x hx rfl X.s2 _ _ _ _ _ _ _ ⟨_, rfl, rfl, _, _, rfl⟩
  · refine byC fun hC4 => ?_
    obtain ⟨x, hx, hpx⟩ := H.ve k (by lia) hk
    refine hC4 ?_
    refine fn_tryX (pre := (bodyOf PySem.Challenge.pw_wb0027_02 13).take 4) (V := V14 m p k) (stT := T14 m p) (x := ⟨.type "ValueError", none⟩) (nm := none) hat rfl hl scok14 rfl cn14 hbind run ?_ (.skip 8 rfl X.g1 (X.mv1 _) (.skip 9 rfl X.g2 (X.mv2 _) (.here 10 rfl X.gv match_VE))) 5 (fun m' h => by cases h) ?_
    · intro A G envS envL L hA T hE
      exact refused_tb rfl rfl hA T P.glob m p k x hx hE (P.ve x hpx _ _) _ _ _ _ _ _ _ _ _
    · intro A G ex r hu hin
      refine wSs_cons (wS_ret (wE_cmp rfl (wE_local 2 rfl rfl rfl rfl (wE_int (gt_ii ?_)))))
      rw [show decide ((6 : Int) < (k : Int)) = true from decide_eq_true (by lia)]
      exact ⟨_, rfl, rfl, _, _, rfl⟩
end Mine
end
section
open PySem PySem.Calls PyProof.Rows PySem.W PySem.SeqAt PyProof.V
set_option maxRecDepth 100000
namespace Mine
section
variable {C : Cx} {A : Around} {G : Gd} {ae : AEnv} {st : List AObj}
theorem wSK_if {t : Expr} {b o : List Stmt} {pos : Pos} {Q : AF → List AObj → Prop} (h : wB C A G ae st t fun c st1 => if c then wSsK C A G ae st1 b Q else wSsK C A G ae st1 o Q) : wSK C A G ae st (.If t b o pos) Q := fun κ σ s e X => by
  show wpK _ A (exec (.If t b o pos) G.env) _ _ s
  rw [exec_If]
  refine K.bind (K.standAt (K.bind (K.go (h κ σ s e X) (fun c s1 z => z.go fun κ' σ' c' st' k1 p1 X' r q => ?_) fun _ _ z => z)))
  cases (r : c = c')
  cases c with
  | true => exact PA.wpK k1 p1 (q κ' σ' s1 (e.mono p1) X')
  | false => exact PA.wpK k1 p1 (q κ' σ' s1 (e.mono p1) X')
end
noncomputable def lowText : Str := "lo must be non-negative"
noncomputable abbrev lowSay : ExSay := ⟨.type "ValueError", some lowText⟩
theorem bisR_low3 {C : Cx} {f : Value} {fd : FuncData} (hl : NoLim C) (B : BisG C 1 f fd) (gv : GlobIs C "ValueError" (.type "ValueError")) (a x : AV) (lo : Int) (hlo : lo < 0) : FnRaise C 2 f [a, x, .d (.int lo)] [] [] lowSay := by
  have hsc := B.scope
  refine fn_raise (bs := [(("a" : Str), a), ("x", x), ("lo", .d (.int lo)), ("hi", .d .none), ("key", .d .none)]) B.at_ hl (by rw [hsc]; exact scok4) (by rw [hsc]; decide +kernel) (fun s vs kvs hp hv hkv => ?_) ?_
  · obtain ⟨v, u, w, rfl⟩ := len3 hv
    obtain ⟨t, hb⟩ := bis_bind3 B rfl v u w s hp
    exact ⟨_, hb, rfl, fun κ r rk => by
      obtain ⟨r1, r2, r3⟩ := r.three'
      exact .cons r1 (.cons r2 (.cons r3 (.cons RV.none (.cons RV.none .nil))))⟩
  · intro A G A' hA
    rw [hsc]
    simp only [wStores]
    refine st_local 0 rfl rfl rfl ?_
    refine st_local 1 rfl rfl rfl ?_
    refine st_local 2 rfl rfl rfl ?_
    refine st_local 3 rfl rfl rfl ?_
    refine st_local 4 rfl rfl rfl ?_
    intro E hE
    exact WK.of (bisR_low (G := G.at E) hA _ _ gv a x (.d .none) (.d .none) lo hlo hE)
theorem bisL_low3 {C : Cx} {f : Value} {fd : FuncData} (hl : NoLim C) (B : BisG C 2 f fd) (gv : GlobIs C "ValueError" (.type "ValueError")) (a x : AV) (lo : Int) (hlo : lo < 0) : FnRaise C 2 f [a, x, .d (.int lo)] [] [] lowSay := by
  have hsc := B.scope
  refine fn_raise (bs := [(("a" : Str), a), ("x", x), ("lo", .d (.int lo)), ("hi", .d .none), ("key", .d .none)]) B.at_ hl (by rw [hsc]; exact scok5) (by rw [hsc]; decide +kernel) (fun s vs kvs hp hv hkv => ?_) ?_
  · obtain ⟨v, u, w, rfl⟩ := len3 hv
    obtain ⟨t, hb⟩ := bis_bind3 B rfl v u w s hp
    exact ⟨_, hb, rfl, fun κ r rk => by
      obtain ⟨r1, r2, r3⟩ := r.three'
      exact .cons r1 (.cons r2 (.cons r3 (.cons RV.none (.cons RV.none .nil))))⟩
  · intro A G A' hA
    rw [hsc]
    simp only [wStores]
    refine st_local 0 rfl rfl rfl ?_
    refine st_local 1 rfl rfl rfl ?_
    refine st_local 2 rfl rfl rfl ?_
    refine st_local 3 rfl rfl rfl ?_
    refine st_local 4 rfl rfl rfl ?_
    intro E hE
    exact WK.of (bisL_low (G := G.at E) hA _ _ gv a x (.d .none) (.d .none) lo hlo hE)
theorem scok15 : ScOk (scopeOf PySem.Challenge.pw_wb0027_02 14) := ⟨rfl, by decide +kernel, by decide +kernel⟩
theorem cn15 : ((cellsFrom 1 (scopeOf PySem.Challenge.pw_wb0027_02 14).names []).map (·.1)).Nodup := by decide +kernel
theorem low_bind {C : Cx} {f : Value} {fd : FuncData} (B : PlainG C 14 f fd) (v : Value) : bindArgs fd ⟨[v], []⟩ = (pure [(("kind" : Str), v)] : Sem (List (Str × Value))) := B.bind rfl
noncomputable abbrev V15 (k : Int) : List (Option AV) := [some (.d (.int k)), none, none, none, none, none]
set_option maxHeartbeats 4000000 in
theorem low_ok {C : Cx} {f bl br : Value} {fd : FuncData} (hl : NoLim C) (B : PlainG C 14 f fd) (gs : GlobIs C "str" (.type "str")) (gl : GlobIs C "bisect_left" bl) (gr : GlobIs C "bisect_right" br) (gv : GlobIs C "ValueError" (.type "ValueError"))
    (SV : SayOk C (.type "ValueError")) (hL : ∀ a x, FnRaise C 2 bl [a, x, .d (.int (-1))] [] [] lowSay) (hR : ∀ a x, FnRaise C 2 br [a, x, .d (.int (-1))] [] [] lowSay) (k : Int) :
    FnOkX C 3 f [.d (.int k)] [] [] fun r => r = PyData.bool true := by
  have hbind := bind1 (C := C) (a := .d (.int k)) (low_bind B)
  obtain ⟨name, qual, params, fbody, scope, globals, closure, defaults, kwdefaults, doc, pm, ann, code, ct, bi⟩ := fd
  obtain ⟨hat, hs, hpar, hd, hkw⟩ := B
  cases hs
  refine fn_tryX (pre := []) (V := V15 k) (stT := []) (x := lowSay) (nm := some "error") hat rfl hl scok15 rfl cn15 hbind ?_ ?_ (.here 4 rfl gv match_VE) 1 (fun m' h => by cases h; rfl) ?_
  · intro A G A' hA
    simp only [wStores]
    refine st_local 0 rfl rfl rfl ?_
    intro E
    exact wSs_nil ⟨rfl, rfl⟩
  · intro A G envS envL L hA T hE
    refine wSsK_consK (wSK_if (wB_cmp rfl (wE_local 0 rfl rfl rfl rfl (wE_int (eq_ii (tr_b ?_))))))
    cases (k == 0) with
    | true =>
      refine wSsK_consK (wSK_expr (fun _ => rfl) ?_)
      refine wE_callRaise 2 [] (fun _ => rfl) (fun _ => rfl) (fun _ => rfl) gl rfl hA rfl T hE ?_
      refine wArgs_cons (fun _ => rfl) (wE_listD (wArgs_nil ⟨[], rfl, Nat.zero_le _, wArgs_cons (fun _ => rfl) (wE_local 0 rfl rfl rfl rfl (wArgs_cons (fun _ => rfl) (wE_un (wE_int (neg_i (wArgs_nil ?_))))))⟩))
      refine wKws_nil ⟨hL _ _, ?_, (fun a ha => nomatch ha), [], rfl⟩
      intro a ha; simp at ha; rcases ha with rfl | rfl | rfl <;> trivial
    | false =>
      refine wSsK_consK (wSK_expr (fun _ => rfl) ?_)
      refine wE_callRaise 3 [] (fun _ => rfl) (fun _ => rfl) (fun _ => rfl) gr rfl hA rfl T hE ?_
      refine wArgs_cons (fun _ => rfl) (wE_listD (wArgs_nil ⟨[], rfl, Nat.zero_le _, wArgs_cons (fun _ => rfl) (wE_local 0 rfl rfl rfl rfl (wArgs_cons (fun _ => rfl) (wE_un (wE_int (neg_i (wArgs_nil ?_))))))⟩))
      refine wKws_nil ⟨hR _ _, ?_, (fun a ha => nomatch ha), [], rfl⟩
      intro a ha; simp at ha; rcases ha with rfl | rfl | rfl <;> trivial
  · intro A G ex r hu hin
    refine wSs_cons (wS_ret (wE_cmp rfl (wE_c1 (fun _ => rfl) (wE_glob 5 gs rfl (wE_local 1 rfl rfl rfl rfl (wCall_ty (bi_strEx hin rfl SV hu ?_))))) ))
    refine wE_str (eq_ss ?_)
    rw [show (lowText == Str.ofString "lo must be non-negative") = true from beq_self_eq_true _]
    exact ⟨_, rfl, rfl, _, _, rfl⟩
end Mine
end
section
open PySem PySem.Calls PyProof.Rows PySem.W PySem.SeqAt PyProof.V
set_option maxRecDepth 100000
namespace Mine
noncomputable def absI (p : Int) : Int := if p < 0 then -p else p
noncomputable def signOf (p : Int) : Str := if decide (p < 0) = true then "-" else "+"
theorem wE_ifStr {C : Cx} {A : Around} {G : Gd} {ae : AEnv} {st : List AObj} {b : Bool} {x y : Str} {k k' : Nat} {pos pos' : Pos} {Q : AV → List AObj → Prop} (q : Q (.d (.str (if b = true then x else y))) st) :
    if b = true then wE C A G ae st (.Constant (.str x) k pos) Q else wE C A G ae st (.Constant (.str y) k' pos') Q := by
  cases b <;> exact wE_str q
noncomputable def dressOf (p : Int) : List Str := [numS p, (signOf p ++ "00") ++ numS (absI p), (Txt.stripChars (signOf p) "+" ++ "0") ++ numS (absI p)]
noncomputable def dressAt (p n : Int) : Str := (dressOf p).getD (n.fmod 3).toNat ""
noncomputable def replyOf (p n : Int) : Str := ((("229 (" ++ rep (markOf n) 3) ++ dressAt p n) ++ markOf n) ++ ") (so)"
theorem dress_get (p n : Int) : (dressOf p)[(n.fmod 3).toNat]? = some (dressAt p n) := by
  have h0 : 0 ≤ n.fmod 3 := Int.fmod_nonneg_of_pos n (by decide)
  have h1 : n.fmod 3 < 3 := Int.fmod_lt_of_pos n (by decide)
  have : (n.fmod 3).toNat < (dressOf p).length := by show (n.fmod 3).toNat < 3; lia
  unfold dressAt
  rw [List.getD_eq_getElem?_getD, List.getElem?_eq_getElem this]; rfl
theorem signOf_len (p : Int) : (signOf p).length = 1 := by unfold signOf; split <;> decide +kernel
theorem strip_len (p : Int) : (Txt.stripChars (signOf p) "+").length ≤ 1 := by unfold signOf; split <;> decide +kernel
set_option maxHeartbeats 4000000 in
theorem reply_body {C : Cx} {A : Around} {G : Gd} (cd : Value) (ql : Str) (gs : GlobIs C "str" (.type "str")) (ga : GlobIs C "abs" (.builtin "abs")) (p n : Int) (hp : p.natAbs ≤ 2 ^ 60) (hl1 : (numS p).length ≤ 1000) (hl2 : (numS (absI p)).length ≤ 1000) (post : D → Prop) (hpo : post (.str (replyOf p n))) :
    wSs C A G ⟨scopeOf PySem.Challenge.pw_wb0027_02 12, 0, [], cd, ql⟩ [nsOf 12 [some (.d (.int p)), some (.d (.int n)), none, none, none, none, none]] (bodyOf PySem.Challenge.pw_wb0027_02 12) (retP post) := by
  have hS := sizeLine_eq
  have la := fun a b : Str => PySem.Str.length_append a b
  have l3 := rep_len (markC n) 3 (by decide)
  have hm : (markOf n).length = 1 := rfl
  have hsg := signOf_len p
  have hst := strip_len p
  have hpa : (absI p).natAbs ≤ 2 ^ 60 := by unfold absI; split <;> lia
  have t1 : (Str.ofString "229 (").length = 5 := by decide +kernel
  have t2 : (Str.ofString "00").length = 2 := by decide +kernel
  have t3 : (Str.ofString "0").length = 1 := by decide +kernel
  have t4 : (Str.ofString ") (so)").length = 6 := by decide +kernel
  have ld : (dressAt p n).length ≤ 1003 := by
    have h := dress_get p n
    have := List.mem_of_getElem? h
    simp only [dressOf, List.mem_cons, List.not_mem_nil, or_false] at this
    rcases this with e | e | e <;> rw [e]
    · lia
    · rw [la, la]; show (signOf p).length + (Str.ofString "00").length + _ ≤ _; lia
    · rw [la, la]; show (Txt.stripChars (signOf p) "+").length + (Str.ofString "0").length + _ ≤ _; lia
  refine wSs_cons (wS_assign (fun _ => rfl) ?_)
  refine wE_sub (fun _ _ => ⟨_, rfl⟩) (wE_str (wE_bin (wE_local 1 rfl rfl rfl rfl (wE_int (mod_ii (by decide) ?_)))))
  refine sub_str (c := markC n) ?_ ?_ (mark_at n) ?_
  · have := Int.fmod_nonneg_of_pos n (b := 5) (by decide); lia
  · have := Int.fmod_lt_of_pos n (b := 5) (by decide); lia
  refine st_local 2 rfl rfl rfl ?_
  show wSs _ _ _ _ _ _ _
  refine wSs_cons (wS_assign (fun _ => rfl) ?_)
  refine wE_if (wB_cmp rfl (wE_local 0 rfl rfl rfl rfl (wE_int (lt_ii (tr_b (wE_ifStr ?_))))))
  show wStore _ _ _ _ _ _ (.d (.str (signOf p))) _
  refine st_local 3 rfl rfl rfl ?_
  show wSs _ _ _ _ _ _ _
  refine wSs_cons (wS_assign (fun _ => rfl) ?_)
  have habs : (if p < 0 then -p else p) = absI p := rfl
  refine wE_listD ?_
  refine wArgs_cons (fun _ => rfl) (wE_c1 (fun _ => rfl) (wE_glob 5 gs rfl (wE_local 0 rfl rfl rfl rfl (wCall_ty (bi_str (log2_small hp) ?_)))))
  refine wArgs_cons (fun _ => rfl) (wE_bin (wE_bin (wE_local 3 rfl rfl rfl rfl (wE_str (add_ss (by lia) ?_)))))
  refine wE_c1 (fun _ => rfl) (wE_glob 5 gs rfl (wE_c1 (fun _ => rfl) (wE_glob 6 ga rfl (wE_local 0 rfl rfl rfl rfl (wCall_bi (bi_abs ?_))))))
  rw [habs]
  refine wCall_ty (bi_str (log2_small hpa) (add_ss (by rw [la]; show (signOf p).length + (Str.ofString "00").length + (numS (absI p)).length ≤ _; lia) ?_))
  refine wArgs_cons (fun _ => rfl) (wE_bin (wE_bin ?_))
  refine wE_m1 F.plainAttrs_str F.slot_str_strip F.type_str_strip ?_ ?_ ?_ ?_
  · exact fun _ _ => rfl
  · exact fun _ => rfl
  · rfl
  refine wE_local 3 rfl rfl rfl rfl ⟨hasTy_str, wE_str (bi_stripc (by lia) (wE_str (add_ss (by lia) ?_)))⟩
  refine wE_c1 (fun _ => rfl) (wE_glob 5 gs rfl (wE_c1 (fun _ => rfl) (wE_glob 6 ga rfl (wE_local 0 rfl rfl rfl rfl (wCall_bi (bi_abs ?_))))))
  rw [habs]
  refine wCall_ty (bi_str (log2_small hpa) (add_ss (by rw [la]; show (Txt.stripChars (signOf p) "+").length + (Str.ofString "0").length + (numS (absI p)).length ≤ _; lia) ?_))
  refine wArgs_nil ⟨(dressOf p).map PyData.str, rfl, by rw [sizeLine_eq]; exact Nat.le_of_ble_eq_true rfl, ?_⟩
  refine st_local 4 rfl rfl rfl ?_
  show wSs _ _ _ _ _ _ _
  refine wSs_cons (wS_ret ?_)
  refine wE_bin (wE_bin (wE_bin (wE_bin (wE_str (wE_bin (wE_local 2 rfl rfl rfl rfl (wE_int ?_)))))))
  refine mul_si (by decide) (by decide) (by show 1 ≤ 1000; decide) (by show 1 ≠ 0; decide) ?_
  refine add_ss (by show 5 + (rep (markOf n) 3).length ≤ _; unfold markOf; lia) ?_
  refine wE_sub (fun _ _ => ⟨_, rfl⟩) (wE_local 4 rfl rfl rfl rfl (wE_bin (wE_local 1 rfl rfl rfl rfl (wE_int (mod_ii (by decide) ?_)))))
  have h30 : 0 ≤ n.fmod 3 := Int.fmod_nonneg_of_pos n (by decide)
  have h31 : n.fmod 3 < 3 := Int.fmod_lt_of_pos n (by decide)
  refine sub_list (l := ((dressOf p).map PyData.str).map .d) (x := .d (.str (dressAt p n))) rfl h30 (by lia) (by rw [List.getElem?_map, List.getElem?_map, dress_get]; rfl) ?_
  refine add_ss (by rw [la]; show 5 + (rep (markOf n) 3).length + (dressAt p n).length ≤ _; unfold markOf; lia) ?_
  refine wE_local 2 rfl rfl rfl rfl ?_
  refine add_ss (by rw [la, la]; show 5 + (rep (markOf n) 3).length + (dressAt p n).length + 1 ≤ _; unfold markOf; lia) ?_
  refine wE_str ?_
  refine add_ss (by rw [la, la, la]; show 5 + (rep (markOf n) 3).length + (dressAt p n).length + 1 + (Str.ofString ") (so)").length ≤ _; unfold markOf; lia) ?_
  exact hpo
theorem scok12 : ScOk (scopeOf PySem.Challenge.pw_wb0027_02 12) := ⟨rfl, by decide +kernel, by decide +kernel⟩
theorem reply_bind {C : Cx} {f : Value} {fd : FuncData} (B : PlainG C 12 f fd) (v u : Value) : bindArgs fd ⟨[v, u], []⟩ = (pure [(("port" : Str), v), ("place", u)] : Sem (List (Str × Value))) := B.bind rfl
theorem reply_ok {C : Cx} {f : Value} {fd : FuncData} (hl : NoLim C) (B : PlainG C 12 f fd) (gs : GlobIs C "str" (.type "str")) (ga : GlobIs C "abs" (.builtin "abs")) (p n : Int) (hp : p.natAbs ≤ 2 ^ 60) (hl1 : (numS p).length ≤ 1000) (hl2 : (numS (absI p)).length ≤ 1000) :
    FnOk C (fun _ => none) C.P0 1 f [.d (.int p), .d (.int n)] [] [] fun r => r = PyData.str (replyOf p n) := by
  have hsc := B.scope
  refine fn_ok (bs := [(("port" : Str), .d (.int p)), ("place", .d (.int n))]) B.at_ hl (by rw [hsc]; exact scok12) (by rw [hsc]; decide +kernel) (bind2 (reply_bind B)) ?_
  intro A G A' hA
  rw [hsc]
  simp only [wStores]
  refine st_local 0 rfl rfl rfl ?_
  refine st_local 1 rfl rfl rfl ?_
  intro E
  exact reply_body (G := G.at E) _ _ gs ga p n hp hl1 hl2 _ rfl
end Mine
end
section
open PySem PySem.NumText
namespace Mine
noncomputable def dl (m : Nat) : List Nat := (Nat.toDigits 10 m).map Char.toNat
noncomputable def numL (p : Int) : List Nat := if p < 0 then 45 :: dl p.natAbs else dl p.natAbs
theorem dl_digits (m : Nat) : AllDigits (dl m) := by
  intro c hc
  obtain ⟨ch, hch, e⟩ := List.mem_map.mp hc
  have h := Nat.isDigit_of_mem_toDigits (by decide) (by decide) hch
  rw [← e]
  unfold Char.isDigit at h
  rw [Bool.and_eq_true, decide_eq_true_iff, decide_eq_true_iff] at h
  exact ⟨h.1, h.2⟩
theorem dl_ne (m : Nat) : dl m ≠ [] := by unfold dl; simp
theorem dl_len {m : Nat} (h : m < 10 ^ 16) : (dl m).length ≤ 16 := by
  unfold dl; rw [List.length_map]; exact (Nat.length_toDigits_le_iff (by decide) (by decide)).mpr h
theorem dl_val (m : Nat) : digitsVal (dl m) = m := PySem.W.KIN.val_back m
theorem numS_list (p : Int) : numS p = ⟨(numL p).toArray⟩ := by
  have key : (numS p).cps.toList = numL p := by
    unfold numS
    rw [PyProof.Rows.signs_ofString]
    unfold numL dl
    cases p with
    | ofNat m =>
      rw [if_neg (by simp)]
      show (Nat.repr m).toList.map Char.toNat = _
      rw [Nat.toList_repr]
      try rfl
    | negSucc m =>
      rw [if_pos (Int.negSucc_lt_zero m)]
      show (("-" ++ Nat.repr (m + 1)).toList).map Char.toNat = _
      rw [String.toList_append, List.map_append, Nat.toList_repr]
      try rfl
  rw [← key]
  first | done | exact (Str.eta _).symm
theorem numS_len_le {p : Int} (h : p.natAbs ≤ 10 ^ 15) : (numS p).length ≤ 17 := by
  rw [numS_list]
  show (numL p).length ≤ 17
  have := dl_len (m := p.natAbs) (by lia)
  unfold numL; split <;> simp <;> lia
theorem intText_plus {x : Str} {cs : List Nat} (hx : x.cps.toList = 43 :: cs) (h : AllDigits cs) (h1 : cs ≠ []) (h2 : x.length ≤ 4300) : intText? x = some ((digitsVal cs : Nat) : Int) := by
  have hs : ∀ c ∈ x.cps.toList, c = 43 ∨ (48 ≤ c ∧ c ≤ 57) := by
    rw [hx]
    intro c hc
    rcases List.mem_cons.mp hc with e | hc
    · exact Or.inl e
    · exact Or.inr (h c hc)
  have e1 : numTextOf x = x.cps.toList := by
    refine if_pos ?_
    rw [← Array.all_toList, List.all_eq_true]
    intro c hc
    have := hs c hc
    exact decide_eq_true (by lia)
  have e2 : numSeenOf x = x.cps.toList := by
    show (numTextOf x).takeWhile _ = _
    rw [e1]
    refine takeWhile_all fun c hc => ?_
    have := hs c hc
    exact bne_iff_ne.mpr (by lia)
  have hl : x.cps.toList.length = x.length := Array.length_toList
  unfold intText?
  rw [e1, e2]
  rw [if_pos (beq_self_eq_true _), hx]
  rw [hx, List.length_cons] at hl
  have es : sign ((43 :: cs).dropWhile blank) = (false, cs) := by rw [dropWhile_of (by decide)]; rfl
  have ec : core (43 :: cs) = cs := by
    unfold core
    rw [es]
    show (cs.reverse.dropWhile blank).reverse = cs
    rw [dropWhile_digits h.reverse, List.reverse_reverse]
  rw [ec, es, digits_of h h1]
  have hsz := push_size cs #[]
  have hv := push_foldl cs #[]
  show (if _ ≤ 4300 then some (worth false _) else none) = _
  rw [if_pos (by rw [hsz]; simp only [Array.size_empty]; lia)]
  unfold worth digitsVal
  rw [hv]
  rfl
noncomputable def dressL (p : Int) (k : Nat) : List Nat := match k with
  | 0 => numL p
  | 1 => (if p < 0 then 45 else 43) :: 48 :: 48 :: dl p.natAbs
  | _ => (if p < 0 then [45] else []) ++ 48 :: dl p.natAbs
theorem dressL_chars (p : Int) (k : Nat) : ∀ c ∈ dressL p k, c = 43 ∨ c = 45 ∨ (48 ≤ c ∧ c ≤ 57) := by
  have hd := dl_digits p.natAbs
  intro c hc
  match k with
  | 0 =>
    have hc : c ∈ numL p := hc
    unfold numL at hc
    by_cases q : p < 0
    · rw [if_pos q] at hc
      rcases List.mem_cons.mp hc with rfl | h
      · lia
      · have := hd c h; lia
    · rw [if_neg q] at hc
      have := hd c hc; lia
  | 1 =>
    have hc : c ∈ (if p < 0 then 45 else 43) :: 48 :: 48 :: dl p.natAbs := hc
    simp only [List.mem_cons] at hc
    rcases hc with rfl | rfl | rfl | h
    · split <;> lia
    · lia
    · lia
    · have := hd c h; lia
  | n + 2 =>
    have hc : c ∈ (if p < 0 then [45] else []) ++ 48 :: dl p.natAbs := hc
    simp only [List.mem_append, List.mem_cons] at hc
    rcases hc with h | rfl | h
    · split at h
      · simp at h; lia
      · cases h
    · lia
    · have := hd c h; lia
theorem zeros_val (cs : List Nat) : digitsVal (48 :: cs) = digitsVal cs := rfl
theorem dressL_int {p : Int} (hp : p.natAbs ≤ 10 ^ 15) (k : Nat) : intText? ⟨(dressL p k).toArray⟩ = some p ∧ (dressL p k).length ≤ 20 := by
  have hd := dl_digits p.natAbs
  have hl := dl_len (m := p.natAbs) (by lia)
  have hn := dl_ne p.natAbs
  have hv := dl_val p.natAbs
  have h48 : ∀ cs, AllDigits cs → AllDigits (48 :: cs) := fun cs h c hc => by
    rcases List.mem_cons.mp hc with rfl | hc
    · lia
    · exact h c hc
  have hlen : ∀ l : List Nat, (⟨l.toArray⟩ : Str).length = l.length := fun _ => rfl
  match k with
  | 0 =>
    unfold dressL numL
    by_cases q : p < 0
    · simp only [q, if_true]
      refine ⟨?_, by simp; lia⟩
      rw [intText_neg (cs := dl p.natAbs) rfl hd hn (by rw [hlen]; simp; lia), hv]
      congr 1; lia
    · simp only [q, if_false]
      refine ⟨?_, by lia⟩
      rw [intText_digits (x := ⟨(dl p.natAbs).toArray⟩) hd hn (by rw [hlen]; lia)]
      show some ((digitsVal (dl p.natAbs) : Nat) : Int) = _
      rw [hv]; congr 1; lia
  | 1 =>
    unfold dressL
    by_cases q : p < 0
    · simp only [q, if_true]
      refine ⟨?_, by simp; lia⟩
      rw [intText_neg (cs := 48 :: 48 :: dl p.natAbs) rfl (h48 _ (h48 _ hd)) (by simp) (by rw [hlen]; simp; lia), zeros_val, zeros_val, hv]
      congr 1; lia
    · simp only [q, if_false]
      refine ⟨?_, by simp; lia⟩
      rw [intText_plus (cs := 48 :: 48 :: dl p.natAbs) rfl (h48 _ (h48 _ hd)) (by simp) (by rw [hlen]; simp; lia), zeros_val, zeros_val, hv]
      congr 1; lia
  | n + 2 =>
    unfold dressL
    by_cases q : p < 0
    · simp only [q, if_true]
      refine ⟨?_, by simp; lia⟩
      rw [intText_neg (cs := 48 :: dl p.natAbs) rfl (h48 _ hd) (by simp) (by rw [hlen]; simp; lia), zeros_val, hv]
      congr 1; lia
    · simp only [q, if_false]
      refine ⟨?_, by simp; lia⟩
      show intText? ⟨(48 :: dl p.natAbs).toArray⟩ = some p
      rw [intText_digits (x := ⟨(48 :: dl p.natAbs).toArray⟩) (h48 _ hd) (by simp) (by rw [hlen]; simp; lia)]
      show some ((digitsVal (48 :: dl p.natAbs) : Nat) : Int) = _
      rw [zeros_val, hv]; congr 1; lia
end Mine
end
section
open PySem
namespace Mine
theorem fm_range (l : List Nat) (a : Nat) : ∀ k, a + k ≤ l.length → ((List.range k).map fun j => a + j).filterMap (l[·]?) = (l.drop a).take k := by
  intro k
  induction k with
  | zero => intro _; simp
  | succ k ih =>
    intro h
    rw [List.range_succ, List.map_append, List.filterMap_append, ih (by lia)]
    have : (l.drop a).take (k + 1) = (l.drop a).take k ++ [l[a + k]] := by
      rw [List.take_add_one, List.getElem?_drop, List.getElem?_eq_getElem (by lia)]; rfl
    rw [this]
    simp [List.getElem?_eq_getElem (show a + k < l.length by lia)]
theorem range_ab (a b : Nat) (h : a ≤ b) : sliceRange (a : Int) (b : Int) 1 = (List.range (b - a)).map fun j => a + j := by
  unfold sliceRange
  simp only [show (1 : Int) > 0 by decide, if_true]
  have e : (if (a : Int) < b then ((b : Int) - a + 1 - 1) / 1 else 0).toNat = b - a := by split <;> lia
  rw [e]
  refine List.map_congr_left fun j _ => ?_
  lia
theorem slice_core (l : List Nat) (lo hi : Option Int) (a b : Nat) (h1 : a ≤ b) (h2 : b ≤ l.length) (e : Builtin.Str.strSliceIndices lo hi 1 l.length = sliceRange (a : Int) (b : Int) 1) : Txt.slice ⟨l.toArray⟩ lo hi = ⟨((l.drop a).take (b - a)).toArray⟩ := by
  unfold Txt.slice
  rw [show (⟨l.toArray⟩ : Str).length = l.length from rfl, e, range_ab a b h1]
  have hf := fm_range l a (b - a) (by lia)
  by_cases q : ((1 : Int) == 1 && ((List.range (b - a)).map fun j => a + j).length == l.length) = true
  · rw [if_pos q]
    simp at q
    obtain rfl : a = 0 := by lia
    congr 1
    rw [List.drop_zero, List.take_of_length_le (by lia)]
  · rw [if_neg q]
    congr 2
    rw [← hf]
    congr 1
    funext i
    simp
theorem slice_ab (l : List Nat) (a b : Nat) (h1 : a ≤ b) (h2 : b ≤ l.length) : Txt.slice ⟨l.toArray⟩ (some (a : Int)) (some (b : Int)) = ⟨((l.drop a).take (b - a)).toArray⟩ := by
  refine slice_core l _ _ a b h1 h2 ?_
  unfold Builtin.Str.strSliceIndices
  simp only [show (1 : Int) > 0 by decide, if_true]
  rw [if_neg (by lia), if_neg (by lia)]
  congr 1 <;> lia
theorem slice_to (l : List Nat) (b : Nat) (h2 : b ≤ l.length) : Txt.slice ⟨l.toArray⟩ none (some (b : Int)) = ⟨(l.take b).toArray⟩ := by
  rw [slice_core l none (some (b : Int)) 0 b (Nat.zero_le _) h2 (by
    unfold Builtin.Str.strSliceIndices
    simp only [show (1 : Int) > 0 by decide, if_true]
    rw [if_neg (by lia)]
    congr 1; lia)]
  simp
theorem slice_from (l : List Nat) (a : Nat) (h2 : a ≤ l.length) : Txt.slice ⟨l.toArray⟩ (some (a : Int)) none = ⟨(l.drop a).toArray⟩ := by
  rw [slice_core l (some (a : Int)) none a l.length h2 (Nat.le_refl _) (by
    unfold Builtin.Str.strSliceIndices
    simp only [show (1 : Int) > 0 by decide, if_true]
    rw [if_neg (by lia)]
    congr 1; lia)]
  rw [List.take_of_length_le (by simp)]
theorem ch_at (l : List Nat) (i : Nat) (c : Nat) (h : l[i]? = some c) : chAt ⟨l.toArray⟩ (i : Int) = some c := by
  obtain ⟨hi, _⟩ := List.getElem?_eq_some_iff.mp h
  unfold chAt
  rw [show (⟨l.toArray⟩ : Str).length = l.length from rfl]
  have : seqIndex? (i : Int) l.length = some i := by
    unfold seqIndex?
    simp; lia
  rw [this]
  simpa using h
end Mine
end
section
open PySem PySem.Calls PyProof.Rows PySem.W PySem.SeqAt PyProof.V
namespace Mine
section
variable {C : Cx} {A : Around} {G : Gd} {ae : AEnv} {st : List AObj}
structure LcG (C : Cx) (A : Around) (G : Gd) (ae : AEnv) (st : List AObj) (elt target iter : Expr) (ifs : List Expr) (scope : Scope) (ca : List (Str × Nat)) (its : List D) (st2 : List AObj) (Qa : AV → List AObj → Prop) : Prop where
  hnf : noFree ae.scope = true
  ok : ScOk scope
  hca : caOf ae.cells scope.names [] = some ca
  hcn : ((cellsFrom (st2.length + 2) scope.names ca).map (·.1)).Nodup
  hs : ∀ env x, foldedSetIterable iter env x = pure x
  hiter : wEI C A G ae target st iter fun its' st2' => its' = its ∧ st2' = st2
  core : ∃ J : Nat → List AObj → Prop, (∀ k tl, J k tl → 2 + nCells scope.names ≤ tl.length ∧ ∃ N V, tl[1]? = some (.ns N V)) ∧
    J 0 (.list [] :: .ns (scope.names.map (·.1)) (List.replicate scope.names.length none) :: List.replicate (nCells scope.names) (.cell none)) ∧
    (∀ φ' E' env' k x tl, env'.frame = G.env.frame → its[k]? = some x → J k tl → wTgt C A ⟨φ', G.κ₀, env', E'⟩ (compAe ae scope st2.length ca) (st2 ++ tl) target (.d x) fun st3 => wIfs C A ⟨φ', G.κ₀, env', E'⟩ (compAe ae scope st2.length ca) st3 ifs fun ok st4 =>
      if ok then wE C A ⟨φ', G.κ₀, env', E'⟩ (compAe ae scope st2.length ca) st4 elt (EltPost J st2 k)
      else CompNext J st2 k st4) ∧
    ∀ tl, J its.length tl → ∃ is st3, Pick is (st2 ++ tl) st3 ∧ (∀ j, j < st2.length + 1 → is[j]? = some j) ∧ (st2.length + 1) ∉ is ∧ Qa (.obj st2.length) st3
theorem lc_gen {elt target iter : Expr} {ifs : List Expr} {scope : Scope} {pos fpos : Pos} {ca : List (Str × Nat)} {use : Option (Value → Sem Unit)} {Qf : Kp → List Addr → Value → Shared → Prop} {its : List D} {st2 : List AObj} {Qa : AV → List AObj → Prop}
    (L : LcG C A G ae st elt target iter ifs scope ca its st2 Qa)
    (fin : ∀ κ σ s acc Ca m, EnvR ae σ G.env → LcEnd C G Qa κ σ acc Ca s → s.heap.Ns Ca m → compPost (model C.prog C.w) A G.E use (Qf κ σ) (.ref acc) Ca (.ok .next) s) :
    ∀ κ σ s, EnvR ae σ G.env → Rel C G.φ G.κ₀ κ σ st s → wpAny (model C.prog C.w) A (comprehension (.ListComp elt [⟨target, iter, ifs, 0⟩] scope pos) scope G.env fpos (newList []) false (eval iter G.env) use) (Qf κ σ) G.E s := by
  refine byC fun hC1 => ?_
  obtain ⟨J, hJ, h0, turn, hfin⟩ := L.core
  refine hC1 ?_
  refine comp_core L.hnf L.ok L.hca L.hcn L.hs L.hiter J hJ h0 turn ?_
  intro κ σ σ2 κ' σ' tl s' acc Ca m e p hl p' k hj X hacc hCa hm
  refine fin κ σ s' acc Ca m e ?_ hm
  refine byC fun hC2 => ?_
  obtain ⟨is, st3, P, his, hno, hq⟩ := hfin tl hj
  obtain ⟨hl1, N, V, hns⟩ := hJ _ _ hj
  refine hC2 ?_
  have hlt : st2.length < σ'.length := (List.getElem?_eq_some_iff.mp hacc).1
  have hown := (X.own (st2.length + 1) Ca (.ns N V) hCa (by rw [List.getElem?_append_right (by lia)]; simpa using hns)).none trivial
  have hσ2 : σ'.take st2.length = σ2 := by rw [← hl]; exact take_pre p'
  refine ⟨κ', pickA σ' is, .obj st2.length, st3, k, ?_, X.pick P, ⟨acc, ?_, rfl⟩, hq, hown.1, hown.2, ?_, fun hmem => (X.tabs Ca hmem).2.2.2 (List.mem_of_getElem? hCa)⟩
  · refine p.trans ?_
    rw [← hσ2]
    exact pick_pre (fun j hj => his j (by lia)) (by lia)
  · rw [pickA_get (his st2.length (by lia)), List.getD_eq_getElem?_getD, hacc]; rfl
  · intro hmem
    unfold pickA at hmem
    refine byC fun hC3 => ?_
    obtain ⟨i, hi, ei⟩ := List.mem_map.mp hmem
    have hib : i < σ'.length := by
      obtain ⟨j, hj, ej⟩ := List.getElem_of_mem hi
      have h1 : is[j]? = some i := by rw [List.getElem?_eq_getElem hj, ej]
      have h2 : j < st3.length := by rw [P.len]; exact hj
      obtain ⟨x, hx, _⟩ := P.get j i _ h1 (List.getElem?_eq_getElem h2)
      rw [X.len]
      exact (List.getElem?_eq_some_iff.mp hx).1
    rw [List.getD_eq_getElem?_getD, List.getElem?_eq_getElem hib] at ei
    obtain ⟨hb, eb⟩ := List.getElem?_eq_some_iff.mp hCa
    have := (List.getElem_inj X.nd).mp (show σ'[i] = σ'[st2.length + 1] from ei.trans eb.symm)
    subst this
    refine hC3 ?_
    exact hno hi
theorem wE_lcG {elt target iter : Expr} {ifs : List Expr} {scope : Scope} {pos : Pos} {its : List D} {st2 : List AObj} {Q : AV → List AObj → Prop} (ca : List (Str × Nat)) (L : LcG C A G ae st elt target iter ifs scope ca its st2 Q) : wE C A G ae st (.ListComp elt [⟨target, iter, ifs, 0⟩] scope pos) Q := fun κ σ s e X => by
  rw [eval_ListComp]
  exact lc_gen (Qf := fun κ σ v s' => PA RV C G.φ G.κ₀ κ σ Q v s') L (fun κ σ s acc Ca m _ h hm => lc_eval h hm) κ σ s e X
theorem wS_lcG {x : Str} {xp : Pos} {elt target iter : Expr} {ifs : List Expr} {scope : Scope} {pos spos : Pos} {its : List D} {st2 : List AObj} {Q : AF → List AObj → Prop} (i : Nat) (ca : List (Str × Nat)) (hk : ae.scope.names[i]? = some (x, .local)) (hln : (xp.line == (Expr.ListComp elt [⟨target, iter, ifs, 0⟩] scope pos).pos.line) = true) (hny : (scope.names.any fun p => p.1 == x && (p.2 == .local || p.2 == .cell)) = false)
    (L : LcG C A G ae st elt target iter ifs scope ca its st2 fun a st1 => ∀ φ', wStore C A { G with φ := φ' } ae st1 x a fun st3 => Q .next st3) : wS C A G ae st (.Assign [.Name x xp] (.ListComp elt [⟨target, iter, ifs, 0⟩] scope pos) spos) Q := fun κ σ s e X => by
  have hsw : swapsWith (.ListComp elt [⟨target, iter, ifs, 0⟩] scope pos) (some (.Name x xp)) spos.line G.env = pure true := by
    show (pure (G.env.blockKind == .function && G.env.kindOf x == some .local && xp.line == (Expr.ListComp elt [⟨target, iter, ifs, 0⟩] scope pos).pos.line && !(scope.names.any fun p => p.1 == x && (p.2 == .local || p.2 == .cell))) : Sem Bool) = _
    have h1 : G.env.blockKind = .function := by unfold Env.blockKind; rw [e.kind]; rfl
    rw [e.kindOf hk, h1, hln, hny]; rfl
  rw [exec_Assign_Name_used x xp _ spos hsw]
  refine wpAny_bind (wpAny_standAt (wpAny_bind ?_))
  show wpAny _ _ (comprehension _ _ _ _ _ _ _ _ >>= fun _ => pure ()) _ _ s
  refine wpAny_bind (wpAny_mono (lc_gen (Qf := fun κ σ _ s' => PA RF C G.φ G.κ₀ κ σ Q .next s') L (fun κ σ s acc Ca m e h hm => lc_store e h hm) κ σ s e X) (fun _ s1 h1 => wpAny_pure (wpAny_pure h1)) fun _ _ z => z)
theorem RVL.set {κ : Kp} {σ : List Addr} {as : List AV} {vs : List Value} {a : AV} {v : Value} (h : RVL κ σ as vs) (r : RV κ σ a v) (k : Nat) : RVL κ σ (as.set k a) (vs.set k v) := by
  refine ⟨by simp [h.1], fun i x e => ?_⟩
  by_cases q : k = i
  · subst q
    have hk : k < as.length := by
      have := (List.getElem?_eq_some_iff.mp e).1; simpa using this
    rw [List.getElem?_set_self hk] at e; cases e
    exact ⟨v, by rw [List.getElem?_set_self (by rw [h.1]; exact hk)], r⟩
  · rw [List.getElem?_set_ne q] at e
    refine byC fun hC1 => ?_
    obtain ⟨u, h1, h2⟩ := h.2 i x e
    refine hC1 ?_
    exact ⟨u, by rw [List.getElem?_set_ne q]; exact h1, h2⟩
theorem si_list {i : Nat} {l : List AV} {v : AV} {k : Int} {Q : Unit → List AObj → Prop} (hi : st[i]? = some (.list l)) (h0 : 0 ≤ k) (hk : k < l.length) (hf : k < 2 ^ 63) (q : Q () (st.set i (.list (l.set k.toNat v)))) :
    ∀ κ σ s va vi vv, Rel C G.φ G.κ₀ κ σ st s → RV κ σ (.obj i) va → RV κ σ (.d (.int k)) vi → RV κ σ v vv → wpAny (model C.prog C.w) A (setItem va vi vv) (PA RU C G.φ G.κ₀ κ σ Q) G.E s := by
  rintro κ σ s va vi vv X ⟨a, ha, rfl⟩ ⟨t, rfl⟩ rv
  refine byC fun hC1 => ?_
  obtain ⟨a', o, ha', _, _, ho, us, n, rfl, hr⟩ := X.get hi trivial
  refine hC1 ?_
  rw [ha] at ha'; cases ha'
  have h1 : us.size = l.length := by have := hr.1; rw [Array.length_toList] at this; exact this
  refine ki_setAt ho h0 hf (by lia) ?_
  have hg := PySem.IsL.update ho (·.setIfInBounds k.toNat vv)
  exact ⟨κ, σ, (), _, Kle.refl _, List.prefix_refl _, X.upd (s' := { s with heap := s.heap.update a (Obj.mapSeq (·.setIfInBounds k.toNat vv)) }) (y := .list (l.set k.toNat v)) hi trivial ha (fun b o hb e => (Heap.get?_update_other _ _ (Ne.symm hb)).trans e) hg rfl rfl ⟨_, _, rfl, by rw [Array.toList_setIfInBounds]; exact hr.set rv _⟩ trivial, trivial, q⟩
theorem wS_setSub {o i value : Expr} {p' pos : Pos} {Q : AF → List AObj → Prop} (hs : ∀ env, swapsWith value (some (.Subscript o i p')) pos.line env = pure false)
    (h : wE C A G ae st value fun v st1 => wE C A G ae st1 o fun a st2 => wE C A G ae st2 i fun b st3 => ∃ (j : Nat) (l : List AV) (k : Int), a = .obj j ∧ st3[j]? = some (.list l) ∧ b = .d (.int k) ∧ 0 ≤ k ∧ k < l.length ∧ k < 2 ^ 63 ∧ Q .next (st3.set j (.list (l.set k.toNat v)))) :
    wS C A G ae st (.Assign [.Subscript o i p'] value pos) Q := fun κ σ s e X =>
  wpAny_Assign_Subscript (wpAny_mono (h κ σ s e X) (fun v s1 z => z.go fun κ1 σ1 av st1 k1 p1 X1 r1 q1 => wpAny_mono (q1 κ1 σ1 s1 (e.mono p1) X1) (fun ov s2 z => z.go fun κ2 σ2 a st2 k2 p2 X2 r2 q2 =>
    wpAny_mono (q2 κ2 σ2 s2 (e.mono (p1.trans p2)) X2) (fun iv s3 z => z.go fun κ3 σ3 b st3 k3 p3 X3 r3 q3 => by
      refine byC fun hC1 => ?_
      obtain ⟨j, l, k, rfl, hj, rfl, h0, hk, hf, hq⟩ := q3
      refine hC1 ?_
      exact wpAny_mono (si_list (v := av) (Q := fun _ st' => st' = st3.set j (.list (l.set k.toNat av))) hj h0 hk hf rfl κ3 σ3 s3 ov iv v X3 (r2.mono k3 p3) r3 (r1.mono (k2.trans k3) (p2.trans p3)))
        (fun _ s4 z => z.go fun κ4 σ4 _ st4 k4 p4 X4 _ q4 => by subst q4; exact ⟨κ4, σ4, .next, _, ((k1.trans k2).trans k3).trans k4, ((p1.trans p2).trans p3).trans p4, X4, rfl, hq⟩) fun _ _ z => z) fun _ _ z => z) fun _ _ z => z) fun _ _ z => z) (hs _)
end
end Mine
end
section
open PySem PySem.Calls PyProof.Rows PySem.W PySem.SeqAt PyProof.V
namespace Mine
theorem AVRe.self {is : List Nat} {n : Nat} (h : ∀ j, j < n → is[j]? = some j) {a : AV} (hb : a.below n) : AVRe is a a := by
  cases a with
  | d => rfl
  | obj i => exact h i hb
  | glob => rfl
theorem ObjRe.self {is : List Nat} {n : Nat} (h : ∀ j, j < n → is[j]? = some j) {x : AObj} (hb : x.below n) : ObjRe is x x := by
  cases x with
  | ns names vars => exact ⟨rfl, fun j a e => ⟨a, e, AVRe.self h (hb j a e)⟩⟩
  | cell a => cases a with
    | none => trivial
    | some a => exact AVRe.self h hb
  | list l => exact ⟨rfl, fun j a a' e e' => by rw [e] at e'; cases e'; exact AVRe.self h (hb a (List.mem_of_getElem? e))⟩
  | frz => rfl
  | raw => rfl
section
variable {C : Cx} {A : Around} {G : Gd} {ae : AEnv} {st : List AObj}
theorem LcG.data {elt target iter : Expr} {ifs : List Expr} {scope : Scope} {ca : List (Str × Nat)} {its : List D} {st2 : List AObj} (g : D → Option D)
    (hnf : noFree ae.scope = true) (ok : ScOk scope) (hca : caOf ae.cells scope.names [] = some ca) (hcn : ((cellsFrom (st2.length + 2) scope.names ca).map (·.1)).Nodup)
    (hs : ∀ env x, foldedSetIterable iter env x = pure x) (hiter : wEI C A G ae target st iter fun its' st2' => its' = its ∧ st2' = st2) (hsz : its.length ≤ sizeLine) (hcl : Closed st2)
    (turn : LcTurn C A G ae scope ca st2 target elt ifs its g) {Qa : AV → List AObj → Prop} (hq : Qa (.obj st2.length) (st2 ++ [.list ((its.filterMap g).map .d)])) : LcG C A G ae st elt target iter ifs scope ca its st2 Qa := by
  have hlen : ∀ (acc : List D) (cs : List (Option AV)), cs.length = nCells scope.names → (lcTl scope acc cs).length = 2 + nCells scope.names := fun acc cs h => by simp [lcTl, h]; lia
  refine ⟨hnf, ok, hca, hcn, hs, hiter, fun k tl => ∃ cs : List (Option AV), cs.length = nCells scope.names ∧ tl = lcTl scope ((its.take k).filterMap g) cs, ?_, ⟨List.replicate (nCells scope.names) none, by simp, by simp [lcTl]⟩, ?_, ?_⟩
  · rintro k tl ⟨cs, hc, rfl⟩
    exact ⟨by rw [hlen _ _ hc]; exact Nat.le_refl _, _, _, rfl⟩
  · rintro φ' E' env' k x tl hef hx ⟨cs, hc, rfl⟩
    have hk : k < its.length := by
      by_cases q : k < its.length
      · exact q
      · rw [List.getElem?_eq_none (by lia)] at hx; cases hx
    have ht := take_filterMap_succ g its k x hx
    intro κ σ s v e X r
    refine wpAny_mono (turn φ' E' env' x _ cs (List.mem_of_getElem? hx) hc hef κ σ s v e X r) (fun _ s1 z => z.go fun κ1 σ1 _ st3 k1 p1 X1 _ q1 => ⟨κ1, σ1, (), st3, k1, p1, X1, trivial, ?_⟩) fun _ _ z => z
    refine W.mono q1 fun okb st4 q4 => ?_
    cases okb with
    | false =>
      refine byC fun hC1 => ?_
      obtain ⟨hg, cs', hc', hsub⟩ := q4
      refine hC1 ?_
      refine ⟨lcTl scope ((its.take (k + 1)).filterMap g) cs', ?_, cs', hc', rfl⟩
      rw [hlen _ _ hc', ht, hg]; simpa using hsub
    | true =>
      simp only [if_true] at q4 ⊢
      refine W.mono q4 fun a st5 q5 => ?_
      refine byC fun hC2 => ?_
      obtain ⟨y, rfl, hg, cs', hc', hsub⟩ := q5
      obtain ⟨h1, h2, h3⟩ := id hsub
      refine hC2 ?_
      refine ⟨((its.take k).filterMap g).map .d, lcTl scope ((its.take (k + 1)).filterMap g) cs', ?_, ?_, ?_, cs', hc', rfl⟩
      · have hlt : st2.length < st5.length := by lia
        have e6 : (st2 ++ lcTl scope ((its.take k).filterMap g) cs')[st2.length]? = some (.list (((its.take k).filterMap g).map .d)) := by
          rw [List.getElem?_append_right (Nat.le_refl _)]; simp [lcTl]
        have := h3 st2.length _ _ (by lia) (List.getElem?_eq_getElem hlt) e6
        rw [List.getElem?_eq_getElem hlt]
        generalize st5[st2.length] = z at this ⊢
        cases z with
        | ns => cases this.1
        | list => cases this.1; rfl
        | cell => cases this.1
        | frz => cases this.1
        | raw => cases this.1
      · rw [List.length_map]
        exact Nat.le_trans (List.length_filterMap_le _ _) (by simp; lia)
      · rw [hlen _ _ hc']
        have := hsub.set (i := st2.length) (y := .list (((its.take k).filterMap g).map AV.d ++ [.d y])) (fun a ha => by
          rcases List.mem_append.mp ha with ha | ha
          · obtain ⟨d, _, rfl⟩ := List.mem_map.mp ha; trivial
          · simp at ha; subst ha; trivial) (fun _ _ q => nomatch q)
        rw [List.set_append_right _ _ (Nat.le_refl _)] at this
        rw [ht, hg]
        simpa [lcTl] using this
  · rintro tl ⟨cs, hc, rfl⟩
    rw [List.take_length]
    have hr : ∀ j, j < st2.length + 1 → (List.range (st2.length + 1))[j]? = some j := fun j hj => by rw [List.getElem?_range hj]
    refine ⟨List.range (st2.length + 1), _, ⟨by simp, List.nodup_range, fun j i y hi hy => ?_⟩, hr, by simp, hq⟩
    have hij : i = j ∧ j < st2.length + 1 := by
      have hj : j < st2.length + 1 := by have := (List.getElem?_eq_some_iff.mp hi).1; simpa using this
      rw [hr j hj] at hi; exact ⟨(Option.some.inj hi).symm, hj⟩
    refine byC fun hC3 => ?_
    obtain ⟨rfl, hj⟩ := hij
    refine hC3 ?_
    by_cases q : i < st2.length
    · rw [List.getElem?_append_left q] at hy
      refine ⟨y, by rw [List.getElem?_append_left q]; exact hy, ObjRe.self (n := st2.length) (fun j hj => hr j (by lia)) (hcl i y hy)⟩
    · have : i = st2.length := by lia
      subst this
      rw [List.getElem?_append_right (Nat.le_refl _)] at hy
      simp at hy; subst hy
      refine ⟨.list ((its.filterMap g).map .d), by rw [List.getElem?_append_right (Nat.le_refl _)]; simp [lcTl], ?_⟩
      exact ⟨rfl, fun j a a' e e' => by rw [e] at e'; cases e'; obtain ⟨d, _, rfl⟩ := List.mem_map.mp (List.mem_of_getElem? e); rfl⟩
end
end Mine
end
section
open PySem PySem.Calls PyProof.Rows PySem.W PySem.SeqAt PyProof.V
set_option maxRecDepth 100000
namespace Mine
noncomputable def bitQ (n : Int) (f : Nat) : Bool := Builtin.bitAnd (n.fdiv (2 ^ f)) 1 != 0
noncomputable def wordsG (ws : List Str) (n : Int) : D → Option D
  | .int f => if bitQ n f.toNat then some (.str (ws.getD f.toNat "")) else none
  | _ => none
noncomputable def lawBits (ws : List Str) (n : Int) : List Str := (List.range 32).filterMap fun f => if bitQ n f then some (ws.getD f "") else none
noncomputable def lawWords (ws : List Str) (n : Int) : List Str := lawBits ws n ++ (if n < 0 then [("-0x100000000" : Str)] else [])
theorem wordsG_all (ws : List Str) (n : Int) : (upto 0 32).filterMap (wordsG ws n) = (lawBits ws n).map PyData.str := by
  unfold upto lawBits
  rw [List.filterMap_map, List.map_filterMap]
  congr 1
  funext f
  simp only [Function.comp_apply, wordsG, Int.zero_add, Int.toNat_natCast]
  cases bitQ n f <;> rfl
set_option maxHeartbeats 4000000 in
theorem words_body {C : Cx} {A : Around} {G : Gd} (cd : Value) (ql : Str) (hA : AOk A 3) (gr : GlobIs C "range" (.type "range")) (n : Int) (ws : List Str) (hws : ws.length = 32) (post : D → Prop) (hp : post (.list ((lawWords ws n).map .str))) :
    wSs C A G ⟨scopeOf PySem.Challenge.pw_wb0027_02 15, 0, [("words", 2), ("number", 1)], cd, ql⟩ [nsOf 15 [none, none, none, none], .cell (some (.d (.int n))), .cell (some (.d (.list (ws.map .str))))] (bodyOf PySem.Challenge.pw_wb0027_02 15) (retP post) := by
  have hS := sizeLine_eq
  refine wSs_cons ?_
  refine wS_lcG (its := upto 0 32) (st2 := [nsOf 15 [none, none, none, none], .cell (some (.d (.int n))), .cell (some (.d (.list (ws.map .str)))), .raw (RangeO 0 32)]) 2 [("words", 2), ("number", 1)] rfl rfl rfl
    (LcG.data (wordsG ws n) rfl ⟨rfl, by decide +kernel, by decide +kernel⟩ rfl (by show ((cellsFrom 6 _ _).map (·.1)).Nodup; decide +kernel) (fun _ _ => rfl) ?_ ?_ (Closed.of (by ktr_unf)) ?_ ?_)
  · refine wEI_of (wE_c1 (fun _ => rfl) (wE_glob 3 gr rfl (wE_int (wCall_ty (bi_range1 ?_)))))
    exact itr_range (i := 3) (a := 0) (b := 32) hA.handled rfl (by decide) (by decide) ⟨rfl, rfl⟩
  · show 32 ≤ _; rw [hS]; decide
  · intro φ' E' env' x acc cs hx hcs hef
    obtain ⟨f, hf, rfl⟩ := List.mem_map.mp hx
    have hf32 : f < 32 := by simpa using hf
    have hcs0 : cs = [] := List.eq_nil_of_length_eq_zero hcs
    subst hcs0
    refine wTgt_name (st_local 1 rfl rfl rfl ?_)
    refine wIfs_one ?_
    refine wB_val (fun _ _ => rfl) ?_
    refine wE_bin (wE_bin (wE_cell 2 1 1 rfl rfl rfl (wE_local 1 rfl rfl rfl rfl (shr_ii (by lia) (wE_int (and_ii (tr_i ?_)))))))
    rw [show (0 + (f : Int)).toNat = f by lia]
    show if bitQ n f = true then _ else _
    cases hb : bitQ n f with
    | false => exact ⟨by show (if bitQ n (0 + (f : Int)).toNat = true then _ else _) = _; rw [show (0 + (f : Int)).toNat = f by lia, hb]; rfl, [], rfl, Sub.of rfl (by ktr_unf)⟩
    | true =>
      refine wE_sub (fun _ _ => ⟨_, rfl⟩) (wE_cell 3 0 2 rfl rfl rfl (wE_local 1 rfl rfl rfl rfl ?_))
      have hget : ws[f]? = some (ws.getD f "") := by rw [List.getD_eq_getElem?_getD, List.getElem?_eq_getElem (by lia)]; rfl
      refine sub_list (l := (ws.map PyData.str).map .d) (x := .d (.str (ws.getD f ""))) rfl (by lia) (by lia) (by rw [show (0 + (f : Int)).toNat = f by lia, List.getElem?_map, List.getElem?_map, hget]; rfl) ?_
      exact ⟨_, rfl, by show (if bitQ n (0 + (f : Int)).toNat = true then _ else _) = _; rw [show (0 + (f : Int)).toNat = f by lia, hb]; rfl, [], rfl, Sub.of rfl (by ktr_unf)⟩
  · intro φ'
    rw [wordsG_all]
    refine st_local 2 rfl rfl rfl ?_
    show wSs _ _ _ _ _ _ _
    refine wSs_cons (wS_if (wB_cmp rfl (wE_cell 0 1 1 rfl rfl rfl (wE_int (lt_ii (tr_b ?_))))))
    have hlen : (lawBits ws n).length ≤ 32 := Nat.le_trans (List.length_filterMap_le ..) (by simp)
    by_cases h : n < 0
    · rw [show decide (n < 0) = true from decide_eq_true h]
      refine wSs_cons (wS_expr (fun _ => rfl) ?_)
      refine wE_m1 F.plainAttrs_list F.slot_list_append F.type_list_append ?_ ?_ ?_ ?_
      · exact fun _ _ => rfl
      · exact fun _ => rfl
      · rfl
      refine wE_local 2 rfl rfl rfl rfl ⟨hasTy_list rfl, wE_str (bi_append (i := 4) rfl (by simp; lia) ?_)⟩
      refine wSs_nil ?_
      show wSs _ _ _ _ _ _ _
      refine wSs_cons (wS_ret (wE_local 2 rfl rfl rfl rfl (.inl ⟨(lawWords ws n).map .str, ?_, hp⟩)))
      simp [lawWords, h]
    · rw [show decide (n < 0) = false from decide_eq_false h]
      refine wSs_nil ?_
      show wSs _ _ _ _ _ _ _
      refine wSs_cons (wS_ret (wE_local 2 rfl rfl rfl rfl (.inl ⟨(lawWords ws n).map .str, ?_, hp⟩)))
      simp [lawWords, h]
theorem scokW : ScOk (scopeOf PySem.Challenge.pw_wb0027_02 15) := ⟨rfl, by decide +kernel, by decide +kernel⟩
theorem words_bind {C : Cx} {f : Value} {fd : FuncData} (B : PlainG C 15 f fd) (v u : Value) : bindArgs fd ⟨[v, u], []⟩ = (pure [(("number" : Str), v), ("words", u)] : Sem (List (Str × Value))) := B.bind rfl
theorem words_ok {C : Cx} {f : Value} {fd : FuncData} (hl : NoLim C) (B : PlainG C 15 f fd) (gr : GlobIs C "range" (.type "range")) (n : Int) (ws : List Str) (hws : ws.length = 32) :
    FnOk C (fun _ => none) C.P0 4 f [.d (.int n), .d (.list (ws.map .str))] [] [] fun r => r = PyData.list ((lawWords ws n).map .str) := by
  have hsc := B.scope
  refine fn_ok (bs := [(("number" : Str), .d (.int n)), ("words", .d (.list (ws.map .str)))]) B.at_ hl (by rw [hsc]; exact scokW) (by rw [hsc]; decide +kernel) (bind2 (words_bind B)) ?_
  intro A G A' hA
  rw [hsc]
  simp only [wStores]
  refine st_cell 0 1 1 rfl rfl rfl ?_
  refine st_cell 1 0 2 rfl rfl rfl ?_
  intro E
  exact words_body (G := G.at E) _ _ hA gr n ws hws _ rfl
end Mine
end
section
open PySem PySem.Calls PyProof.Rows PySem.W PySem.SeqAt PyProof.V
set_option maxRecDepth 100000
namespace Mine
theorem varsLe_self {n : Nat} : ∀ {v : List (Option AV)}, (∀ (j : Nat) (a : AV), v[j]? = Option.some (Option.some a) → a.below n) → VarsLe n v v
  | [], _ => trivial
  | Option.none :: r, h => varsLe_self (v := r) fun j a e => h (j + 1) a (by simpa using e)
  | Option.some a :: r, h => ⟨rfl, h 0 a rfl, varsLe_self (v := r) fun j a e => h (j + 1) a (by simpa using e)⟩
theorem ObjLeS.self {n : Nat} {x : AObj} (h : x.below n) : ObjLeS n x x := by
  cases x with
  | ns N V => exact ⟨rfl, varsLe_self h⟩
  | cell a => exact ⟨rfl, h⟩
  | list l => exact ⟨rfl, h⟩
  | frz => exact ⟨rfl, trivial⟩
  | raw => exact ⟨rfl, trivial⟩
theorem SubL.base {n : Nat} {r r' : List AObj} (h : SubL n r r') : ∀ {base : List AObj}, (∀ x ∈ base, x.below n) → SubL n (base ++ r) (base ++ r')
  | [], _ => h
  | x :: b, hb => ⟨ObjLeS.self (hb x List.mem_cons_self), SubL.base h fun y hy => hb y (List.mem_cons_of_mem _ hy)⟩
noncomputable def ent (T : List (List Int)) (odd : Int) (one two : Nat) : Int := 2 * (T.getD one []).getD two 0 - (if (one : Int) == (two : Int) then odd else 0)
noncomputable def tabD (T : List (List Int)) : D := .list (T.map fun r => .list (r.map .int))
noncomputable def ordD (ord : List Nat) : D := .list (ord.map fun (i : Nat) => .int (i : Int))
noncomputable def mrowD (T : List (List Int)) (odd : Int) (ord : List Nat) (one : Nat) : AObj := .list ((ord.map fun two => PyData.int (ent T odd one two)).map .d)
noncomputable abbrev h0st (T : List (List Int)) (odd : Int) (ord : List Nat) (v5 v6 : Option AV) : List AObj := [nsOf 16 [none, none, none, none, none, v5, v6, none, none, none], .cell (some (.d (tabD T))), .cell (some (.d (ordD ord))), .cell (some (.d (.int odd)))]
noncomputable def nsO : AObj := .ns [".0", "one", "odd", "order", "table"] (List.replicate 5 none)
noncomputable def tlO (T : List (List Int)) (odd : Int) (ord : List Nat) (c : Option AV) (k : Nat) : List AObj := .list ((List.range k).map fun i => .obj (7 + i)) :: nsO :: .cell c :: (ord.take k).map (mrowD T odd ord)
noncomputable def entG (T : List (List Int)) (odd : Int) (one : Nat) : D → Option D
  | .int two => some (.int (ent T odd one two.toNat))
  | _ => none
theorem wE_ifNameInt {C : Cx} {A : Around} {G : Gd} {ae : AEnv} {st : List AObj} {b : Bool} {x : Expr} {i odd : Int} {k' : Nat} {pos' : Pos} {Q : AV → List AObj → Prop} (hx : ∀ {Q : AV → List AObj → Prop}, Q (.d (.int odd)) st → wE C A G ae st x Q) (q : Q (.d (.int (if b = true then odd else i))) st) :
    if b = true then wE C A G ae st x Q else wE C A G ae st (.Constant (.int i) k' pos') Q := by
  cases b
  · exact wE_int q
  · exact hx q
structure TabOk3 (T : List (List Int)) : Prop where
  len : T.length = 3
  each : ∀ r ∈ T, r.length = 3
  small : ∀ r ∈ T, ∀ x ∈ r, x.natAbs ≤ 1000
theorem mulSmall {a b : Int} (ha : a.natAbs < 2 ^ 64) : IntMulOk a b := IntMulOk.of_left (intBits_le_iff.mpr ha)
theorem TabOk3.get {T : List (List Int)} (h : TabOk3 T) {i : Nat} (hi : i < 3) : ∃ r, T[i]? = some r ∧ T.getD i [] = r ∧ r.length = 3 ∧ ∀ j, j < 3 → r[j]? = some (r.getD j 0) ∧ (r.getD j 0).natAbs ≤ 1000 := by
  have hl : i < T.length := by rw [h.len]; exact hi
  have hm : T[i] ∈ T := List.getElem_mem hl
  refine ⟨T[i], List.getElem?_eq_getElem hl, by rw [List.getD_eq_getElem?_getD, List.getElem?_eq_getElem hl]; rfl, h.each _ hm, fun j hj => ?_⟩
  have hj' : j < T[i].length := by rw [h.each _ hm]; exact hj
  rw [List.getD_eq_getElem?_getD, List.getElem?_eq_getElem hj']
  exact ⟨rfl, h.small _ hm _ (List.getElem_mem hj')⟩
theorem ord_get {ord : List Nat} {x : D} (h : x ∈ ord.map fun (i : Nat) => PyData.int (i : Int)) : ∃ i ∈ ord, x = .int (i : Int) := by
  obtain ⟨i, hi, rfl⟩ := List.mem_map.mp h
  exact ⟨i, hi, rfl⟩
noncomputable abbrev baseO (T : List (List Int)) (odd : Int) (ord : List Nat) (one k : Nat) : List AObj := h0st T odd ord none none ++ tlO T odd ord (some (.d (.int (one : Int)))) k
theorem baseO_len {T : List (List Int)} {odd : Int} {ord : List Nat} {one k : Nat} (hk : k ≤ ord.length) : (baseO T odd ord one k).length = 7 + k := by
  simp [baseO, h0st, tlO, Nat.min_eq_left hk]; lia
theorem mrowD_below {T : List (List Int)} {odd : Int} {ord : List Nat} {one n : Nat} : (mrowD T odd ord one).below n := below_ds
theorem rows_below {T : List (List Int)} {odd : Int} {ord : List Nat} {k n : Nat} : ∀ x ∈ (ord.take k).map (mrowD T odd ord), x.below n := fun x hx => by
  obtain ⟨i, _, rfl⟩ := List.mem_map.mp hx; exact mrowD_below
theorem objs_below {m k n : Nat} (h : m + k ≤ n) : (AObj.list ((List.range k).map fun i => .obj (m + i))).below n := fun a ha => by
  obtain ⟨i, hi, rfl⟩ := List.mem_map.mp ha
  have : i < k := by simpa using hi
  show m + i < n; lia
theorem h0st_below {T : List (List Int)} {odd : Int} {ord : List Nat} {n : Nat} : ∀ x ∈ h0st T odd ord none none, x.below n :=
  all4 (nsBelow <| allC OptB.none <| allC OptB.none <| allC OptB.none <| allC OptB.none <| allC OptB.none <| allC OptB.none <| allC OptB.none <| allC OptB.none <| allC OptB.none <| all1 OptB.none) trivial trivial trivial
theorem baseO_below {T : List (List Int)} {odd : Int} {ord : List Nat} {one k n : Nat} (hn : 7 + k ≤ n) : ∀ x ∈ baseO T odd ord one k, x.below n := fun x hx => by
  rcases List.mem_append.mp hx with hx | hx
  · exact h0st_below x hx
  · exact (show ∀ x ∈ AObj.list _ :: nsO :: .cell (some (.d (.int (one : Int)))) :: (ord.take k).map (mrowD T odd ord), x.below n from allC (objs_below hn) (allC (nsBelow <| allC OptB.none <| allC OptB.none <| allC OptB.none <| allC OptB.none <| all1 OptB.none) (allC trivial rows_below))) x hx
set_option maxHeartbeats 4000000 in
theorem inner_turn {C : Cx} {A : Around} {G : Gd} {cd : Value} {ql : Str} {L : Nat} {sc : Scope} {cells : List (Str × Nat)} (T : List (List Int)) (hT : TabOk3 T) (odd : Int) (hodd : odd.natAbs ≤ 1000) (ord : List Nat) (hord : ∀ i ∈ ord, i < 3) (one : Nat) (h1 : one < 3) (two : Nat) (h2 : two < 3) (base : List AObj)
    (hc1 : base[1]? = some (.cell (some (.d (tabD T))))) (hc3 : base[3]? = some (.cell (some (.d (.int odd))))) (hc6 : base[6]? = some (.cell (some (.d (.int (one : Int)))))) {st : List AObj} (hst : ∃ r, st = base ++ r)
    (hns : ∃ N V, st[L]? = some (.ns N V) ∧ N[1]? = some (("two" : Str)) ∧ V[1]? = some (some (.d (.int (two : Int))))) (hk1 : sc.names[1]? = some (("two" : Str), NameKind.local)) (hk2 : sc.names[2]? = some (("odd" : Str), NameKind.cell)) (hk3 : sc.names[3]? = some (("one" : Str), NameKind.cell)) (hk4 : sc.names[4]? = some (("table" : Str), NameKind.cell))
    (hcl : cells = [(("table" : Str), 1), ("one", 6), ("odd", 3)]) {Q : AV → List AObj → Prop} (p1 p2 p3 p4 p5 p6 p7 p8 p9 p10 p11 p12 p13 p14 : Pos) (q : Q (.d (.int (ent T odd one two))) st) :
    wE C A G ⟨sc, L, cells, cd, ql⟩ st (.BinOp (.BinOp (.Constant (.int 2) 0 p1) .Mult (.Subscript (.Subscript (.Name "table" p2) (.Name "one" p3) p4) (.Name "two" p5) p6) p7) .Sub (.IfExp (.Compare (.Name "one" p8) [.Eq] [.Name "two" p9] p10) (.Name "odd" p11) (.Constant (.int 0) 0 p12) p13) p14) Q := by
  subst hcl
  refine byC fun hC1 => ?_
  obtain ⟨r, rfl⟩ := hst
  obtain ⟨N, V, hL, hN, hV⟩ := hns
  have g1 := get_pre (List.prefix_append base r) hc1
  have g3 := get_pre (List.prefix_append base r) hc3
  have g6 := get_pre (List.prefix_append base r) hc6
  obtain ⟨row, r1, r2, r3, r4⟩ := hT.get h1
  obtain ⟨r5, r6⟩ := r4 two h2
  refine hC1 ?_
  refine wE_bin (wE_bin (wE_int (wE_sub (fun _ _ => ⟨_, rfl⟩) (wE_sub (fun _ _ => ⟨_, rfl⟩) (wE_cell 4 0 1 hk4 rfl g1 (wE_cell 3 1 6 hk3 rfl g6 ?_))))))
  refine sub_list (l := (T.map fun r : List Int => PyData.list (r.map PyData.int)).map .d) (x := .d (.list (row.map .int))) rfl (by lia) (by lia) (by rw [Int.toNat_natCast, List.getElem?_map, List.getElem?_map, r1]; rfl) ?_
  refine wE_local 1 hk1 hL hN hV ?_
  refine sub_list (l := (row.map PyData.int).map .d) (x := .d (.int (row.getD two 0))) rfl (by lia) (by lia) (by rw [Int.toNat_natCast, List.getElem?_map, List.getElem?_map, r5]; rfl) ?_
  refine mul_ii (mulSmall (by decide)) ?_
  refine wE_if (wB_cmp rfl (wE_cell 3 1 6 hk3 rfl g6 (wE_local 1 hk1 hL hN hV (eq_ii (tr_b ?_)))))
  refine wE_ifNameInt (odd := odd) (fun q => wE_cell 2 2 3 hk2 rfl g3 q) (sub_ii ?_)
  have : ent T odd one two = 2 * row.getD two 0 - (if ((one : Int) == (two : Int)) = true then odd else 0) := by unfold ent; rw [r2]
  rw [← this]
  exact q
noncomputable abbrev rowsAt (T : List (List Int)) (odd : Int) (ord : List Nat) (m : Nat) : List AObj := .list ((List.range ord.length).map fun i => .obj (m + i)) :: ord.map (mrowD T odd ord)
theorem set_base {base : List AObj} {a b y : AObj} {r : List AObj} : (base ++ a :: b :: r).set (base.length + 1) y = base ++ a :: y :: r := by
  rw [List.set_append_right _ _ (by lia), show base.length + 1 - base.length = 1 by lia]; rfl
theorem get_base {base : List AObj} {a b : AObj} {r : List AObj} : (base ++ a :: b :: r)[base.length + 1]? = some b := by
  rw [List.getElem?_append_right (by lia), show base.length + 1 - base.length = 1 by lia]; rfl
noncomputable def stmtRows : Stmt := (bodyOf PySem.Challenge.pw_wb0027_02 16).headD (.Pass ⟨0, 0, 0, 0⟩)
theorem getMap {α β : Type} {f : α → β} {l : List α} {k : Nat} {x : β} (h : (l.map f)[k]? = some x) : ∃ a, l[k]? = some a ∧ x = f a := by
  rw [List.getElem?_map] at h
  obtain ⟨a, h1, h2⟩ := Option.map_eq_some_iff.mp h
  exact ⟨a, h1, h2.symm⟩
noncomputable def pickI (n : Nat) : List Nat := List.range 5 ++ (List.range n).map (7 + ·)
theorem pickI_lo {n j : Nat} (hj : j < 5) : (pickI n)[j]? = some j := by
  unfold pickI
  rw [List.getElem?_append_left (by simpa using hj), List.getElem?_range hj]
theorem pickI_hi {n m : Nat} (hm : m < n) : (pickI n)[5 + m]? = some (7 + m) := by
  unfold pickI
  rw [List.getElem?_append_right (by simp), List.length_range, Nat.add_sub_cancel_left, List.getElem?_map, List.getElem?_range hm]; rfl
theorem pickI_five {n : Nat} : 5 ∉ pickI n := fun hm => by
  rcases List.mem_append.mp hm with hm | hm
  · exact absurd (List.mem_range.mp hm) (Nat.lt_irrefl 5)
  · obtain ⟨m, _, hm⟩ := List.mem_map.mp hm
    lia
theorem pickI_nd {n : Nat} : (pickI n).Nodup := by
  unfold pickI
  rw [List.nodup_append]
  refine ⟨List.nodup_range, List.Pairwise.map _ (fun a b h e => h (Nat.add_left_cancel e)) List.nodup_range, fun a ha b hb => ?_⟩
  obtain ⟨m, hm, rfl⟩ := List.mem_map.mp hb
  have : a < 5 := List.mem_range.mp ha
  lia
theorem heads_pick {T : List (List Int)} {odd : Int} {ord : List Nat} {c : Option AV} : Pick (pickI ord.length) (h0st T odd ord none none ++ tlO T odd ord c ord.length) (h0st T odd ord none none ++ rowsAt T odd ord 5) := by
  refine ⟨by simp [rowsAt, h0st, pickI]; lia, pickI_nd, fun j i y hi hy => ?_⟩
  by_cases hj : j < 4
  · cases (pickI_lo (Nat.lt_succ_of_lt hj)).symm.trans hi
    rw [List.getElem?_append_left (by exact hj)] at hy
    exact ⟨y, (List.getElem?_append_left (by exact hj)).trans hy, ObjRe.self (n := 4) (fun j hj => pickI_lo (Nat.lt_succ_of_lt hj)) (h0st_below y (List.mem_of_getElem? hy))⟩
  · obtain ⟨m, rfl⟩ : ∃ m, j = 4 + m := ⟨j - 4, by lia⟩
    rw [List.getElem?_append_right (by exact Nat.le_add_right 4 m), show 4 + m - (h0st T odd ord none none).length = m from Nat.add_sub_cancel_left ..] at hy
    cases m with
    | zero =>
      cases (pickI_lo (show 4 < 5 by decide)).symm.trans hi
      cases (show some (AObj.list ((List.range ord.length).map fun i => .obj (5 + i))) = some y from hy)
      refine ⟨.list ((List.range ord.length).map fun i => .obj (7 + i)), rfl, by simp, fun m a a' e e' => ?_⟩
      obtain ⟨z, q, rfl⟩ := getMap e
      obtain ⟨z', q', rfl⟩ := getMap e'
      cases q.symm.trans q'
      obtain ⟨hl, rfl⟩ := List.getElem?_eq_some_iff.mp q
      rw [List.getElem_range]
      exact pickI_hi (by simpa using hl)
    | succ m =>
      have hy : (ord.map (mrowD T odd ord))[m]? = some y := hy
      obtain ⟨one, hone, rfl⟩ := getMap hy
      have hm : m < ord.length := (List.getElem?_eq_some_iff.mp hone).1
      rw [show 4 + (m + 1) = 5 + m by lia] at hi
      cases (pickI_hi hm).symm.trans hi
      refine ⟨mrowD T odd ord one, ?_, rfl, fun z a a' e e' => ?_⟩
      · rw [List.getElem?_append_right (by show 4 ≤ 7 + m; lia), show 7 + m - (h0st T odd ord none none).length = m + 3 by show 7 + m - 4 = m + 3; lia]
        show ((ord.take ord.length).map (mrowD T odd ord))[m]? = _
        rw [List.take_length]; exact hy
      · cases e.symm.trans e'
        obtain ⟨d, _, rfl⟩ := List.mem_map.mp (List.mem_of_getElem? e); rfl
set_option maxHeartbeats 4000000 in
theorem heads_rows {C : Cx} {A : Around} {G : Gd} (cd : Value) (ql : Str) (hA : AOk A 3) (T : List (List Int)) (hT : TabOk3 T) (odd : Int) (hodd : odd.natAbs ≤ 1000) (ord : List Nat) (hord : ∀ i ∈ ord, i < 3) (hlen : ord.length ≤ 3) (Q : AF → List AObj → Prop)
    (q : Q .next ([nsOf 16 [none, none, none, none, none, some (.obj 4), none, none, none, none], .cell (some (.d (tabD T))), .cell (some (.d (ordD ord))), .cell (some (.d (.int odd)))] ++ rowsAt T odd ord 5)) :
    wS C A G ⟨scopeOf PySem.Challenge.pw_wb0027_02 16, 0, [("odd", 3), ("order", 2), ("table", 1)], cd, ql⟩ (h0st T odd ord none none) stmtRows Q := by
  have hS := sizeLine_eq
  show wS _ _ _ _ _ (.Assign _ (.ListComp (.ListComp _ _ _ _) _ _ _) _) _
  refine wS_lcG (its := ord.map fun (i : Nat) => PyData.int (i : Int)) (st2 := h0st T odd ord none none) 5 [("table", 1), ("order", 2), ("odd", 3)] rfl rfl rfl
    ⟨rfl, ⟨rfl, by decide +kernel, by decide +kernel⟩, rfl, by show ((cellsFrom 6 _ _).map (·.1)).Nodup; decide +kernel, fun _ _ => rfl, wEI_of (wE_cell 1 1 2 rfl rfl rfl (itr_list (.inl rfl) hA.handled ⟨rfl, rfl⟩)),
      fun k tl => k ≤ ord.length ∧ ∃ c, (∃ z : Option Nat, c = z.map fun (o : Nat) => AV.d (.int (o : Int))) ∧ tl = tlO T odd ord c k, ?_, ⟨Nat.zero_le _, none, ⟨none, rfl⟩, rfl⟩, ?_, ?_⟩
  · rintro k tl ⟨hk, c, _, rfl⟩
    exact ⟨by show 2 + 1 ≤ _; simp [tlO], _, _, rfl⟩
  · rintro φ' E' env' k x tl hef hx ⟨hk, c, _, rfl⟩
    obtain ⟨one, hone⟩ : ∃ one, ord[k]? = some one ∧ x = .int (one : Int) := by
      exact getMap hx
    obtain ⟨ho, rfl⟩ := hone
    have hkl : k < ord.length := (List.getElem?_eq_some_iff.mp ho).1
    have h1 : one < 3 := hord _ (List.mem_of_getElem? ho)
    refine wTgt_name (st_cell 1 0 6 rfl rfl rfl ?_)
    show wIfs _ _ _ _ (baseO T odd ord one k) _ _
    refine wIfs_nil ?_
    simp only [if_true]
    have hbl := baseO_len (T := T) (odd := odd) (one := one) hk
    refine wE_lcG (its := ord.map fun (i : Nat) => PyData.int (i : Int)) (st2 := baseO T odd ord one k) [("table", 1), ("one", 6), ("odd", 3)]
      (LcG.data (entG T odd one) rfl ⟨rfl, by decide +kernel, by decide +kernel⟩ rfl (by show ((([("table", 1), ("one", 6), ("odd", 3)] : List (Str × Nat))).map (·.1)).Nodup; decide +kernel) (fun _ _ => rfl)
        (wEI_of (wE_cell 3 2 2 rfl rfl rfl (itr_list (.inl rfl) hA.handled ⟨rfl, rfl⟩))) (by rw [List.length_map, hS]; lia) (fun i y hy => baseO_below (by rw [hbl]; exact Nat.le_refl _) y (List.mem_of_getElem? hy)) ?_ ?_)
    · intro φ2 E2 env2 x2 acc cs hx2 hcs hef2
      obtain ⟨two, htwo, rfl⟩ := ord_get hx2
      have h2 : two < 3 := hord _ htwo
      have hcs0 : cs = [] := List.eq_nil_of_length_eq_zero hcs
      subst hcs0
      refine wTgt_name (st_local 1 rfl get_base rfl ?_)
      rw [show (baseO T odd ord one k ++ lcTl _ acc []) = baseO T odd ord one k ++ AObj.list (acc.map .d) :: _ :: [] from rfl, show (compAe _ _ _ _).L = (baseO T odd ord one k).length + 1 from rfl, set_base]
      refine wIfs_nil ?_
      simp only [if_true]
      refine inner_turn T hT odd hodd ord hord one h1 two h2 (baseO T odd ord one k) rfl rfl rfl ⟨_, rfl⟩ ⟨_, _, get_base, rfl, rfl⟩ rfl rfl rfl rfl rfl _ _ _ _ _ _ _ _ _ _ _ _ _ _ ?_
      refine ⟨_, rfl, by simp [entG], [], rfl, ?_⟩
      have hlt : (baseO T odd ord one k ++ lcTl ⟨.function, [((".0" : Str), .local), ("two", .local), ("odd", .free), ("one", .free), ("table", .free)], false, false, []⟩ acc []).length = (baseO T odd ord one k).length + 2 := by simp [lcTl]
      refine Sub.of ?_ (SubL.base ?_ (baseO_below (by rw [hbl]; lia)))
      · rw [List.length_append]; rfl
      · unfold lcTl; ktr_unf
    · have hfm : (ord.map fun (i : Nat) => PyData.int (i : Int)).filterMap (entG T odd one) = ord.map fun two => PyData.int (ent T odd one two) := by
        rw [List.filterMap_map]
        rw [show (entG T odd one ∘ fun (i : Nat) => PyData.int (i : Int)) = fun two => some (PyData.int (ent T odd one two)) from by funext i; simp [entG]]
        exact congrFun (List.filterMap_eq_map' ..) ord
      rw [hfm]
      refine ⟨(List.range k).map fun i => .obj (7 + i), tlO T odd ord (some (.d (.int (one : Int)))) (k + 1), rfl, by simp; lia, ?_, hkl, _, ⟨some one, rfl⟩, rfl⟩
      have e1 : (baseO T odd ord one k ++ [mrowD T odd ord one]).set (h0st T odd ord none none).length (.list (((List.range k).map fun i => AV.obj (7 + i)) ++ [.obj (baseO T odd ord one k).length])) = h0st T odd ord none none ++ tlO T odd ord (some (.d (.int (one : Int)))) (k + 1) := by
        rw [hbl]
        have e2 : ord.take (k + 1) = ord.take k ++ [one] := by rw [List.take_add_one, ho]; rfl
        simp only [baseO, h0st, tlO, e2, List.range_succ, List.map_append, List.map_cons, List.map_nil]
        rfl
      show Sub _ ((baseO T odd ord one k ++ [mrowD T odd ord one]).set (h0st T odd ord none none).length (.list (((List.range k).map fun i => AV.obj (7 + i)) ++ [.obj (baseO T odd ord one k).length]))) _
      rw [e1]
      have hl2 : (h0st T odd ord none none ++ tlO T odd ord (some (.d (.int (one : Int)))) (k + 1)).length = 7 + (k + 1) := baseO_len (T := T) (odd := odd) (one := one) hkl
      refine Sub.of (by rw [List.length_append]) ?_
      have := SubL.base (n := (h0st T odd ord none none).length + (tlO T odd ord (some (.d (.int (one : Int)))) (k + 1)).length) (r := []) (r' := []) SubL.nil (base := h0st T odd ord none none ++ tlO T odd ord (some (.d (.int (one : Int)))) (k + 1)) (baseO_below (T := T) (odd := odd) (one := one) (k := k + 1) (by rw [← List.length_append, hl2]; exact Nat.le_refl _))
      simpa using this
  · rintro tl ⟨hk, c, _, rfl⟩
    have hil : (ord.map fun (i : Nat) => PyData.int (i : Int)).length = ord.length := List.length_map ..
    rw [hil]
    refine ⟨pickI ord.length, h0st T odd ord none none ++ rowsAt T odd ord 5, heads_pick, fun j hj => pickI_lo hj, pickI_five, ?_⟩
    · intro φ'
      exact st_local 5 rfl rfl rfl q
end Mine
end
section
open PySem PySem.Calls PyProof.Rows PySem.W PySem.SeqAt PyProof.V
set_option maxRecDepth 100000
namespace Mine
theorem pylong_small {x y : Int} (hy : y.natAbs < 2 ^ 60) : Builtin.divisionGoesByPylong x y = false := by
  unfold Builtin.divisionGoesByPylong
  have : (if y == 0 then 0 else y.natAbs.log2 / 30 + 1) ≤ 300 := by
    split
    · lia
    · by_cases h0 : y.natAbs = 0
      · rw [h0]; decide
      · have : y.natAbs.log2 < 60 := (Nat.log2_lt h0).mpr hy
        lia
  simp only [Bool.and_eq_false_iff]
  left
  exact decide_eq_false (by lia)
theorem map_getD {α β : Type} (l : List α) (f : α → β) (d : α) : l.map f = (List.range l.length).map fun i => f (l.getD i d) := by
  apply List.ext_getElem?
  intro i
  rw [List.getElem?_map, List.getElem?_map]
  by_cases h : i < l.length
  · rw [List.getElem?_range h]
    show _ = some (f (l.getD i d))
    rw [List.getD_eq_getElem?_getD, List.getElem?_eq_getElem h]; rfl
  · rw [List.getElem?_eq_none (by lia), List.getElem?_eq_none (by simp; lia)]; rfl
theorem range_set {α : Type} (n k : Nat) (f : Nat → α) (v : α) : ((List.range n).map f).set k v = (List.range n).map fun j => if j = k then v else f j := by
  apply List.ext_getElem?
  intro i
  by_cases h : i < n
  · by_cases q : k = i
    · subst q
      rw [List.getElem?_set_self (by simpa using h), List.getElem?_map, List.getElem?_range h]; simp
    · rw [List.getElem?_set_ne q, List.getElem?_map, List.getElem?_map, List.getElem?_range h]
      simp [Ne.symm q]
  · rw [List.getElem?_eq_none (by simp; lia), List.getElem?_eq_none (by simp; lia)]
noncomputable abbrev mrowF (n : Nat) (r : Nat → Int) : AObj := .list ((List.range n).map fun j => .d (.int (r j)))
noncomputable abbrev vI (z : Option Int) : Option AV := z.map fun i => AV.d (.int i)
noncomputable abbrev nsH (n : Nat) (z3 z4 z7 : Option Int) : AObj := nsOf 16 [none, none, none, vI z3, vI z4, some (.obj 4), some (.obj (5 + n)), vI z7, none, none]
noncomputable abbrev hst (n : Nat) (T : D) (od : D) (odd : Int) (z3 z4 z7 : Option Int) (R : Nat → Nat → Int) (H : List Int) (ext : List AObj) : List AObj :=
  nsH n z3 z4 z7 :: .cell (some (.d T)) :: .cell (some (.d od)) :: .cell (some (.d (.int odd))) :: .list ((List.range n).map fun i => .obj (5 + i)) :: ((List.range n).map (fun i => mrowF n (R i)) ++ .list (H.map fun h => .d (.int h)) :: ext)
section
variable {n : Nat} {T od : D} {odd : Int} {z3 z4 z7 : Option Int} {R : Nat → Nat → Int} {H : List Int} {ext : List AObj}
theorem hst_len : (hst n T od odd z3 z4 z7 R H ext).length = 6 + n + ext.length := by simp [hst]; lia
theorem hst_row {i : Nat} (h : i < n) : (hst n T od odd z3 z4 z7 R H ext)[5 + i]? = some (mrowF n (R i)) := by
  rw [show 5 + i = i + 5 by lia]
  simp only [hst, List.getElem?_cons_succ]
  rw [List.getElem?_append_left (by simpa using h), List.getElem?_map, List.getElem?_range h]; rfl
theorem hst_heads : (hst n T od odd z3 z4 z7 R H ext)[5 + n]? = some (.list (H.map fun h => .d (.int h))) := by
  rw [show 5 + n = n + 5 by lia]
  simp only [hst, List.getElem?_cons_succ]
  rw [List.getElem?_append_right (by simp)]; simp
theorem hst_setRow {i : Nat} (h : i < n) (r : Nat → Int) : (hst n T od odd z3 z4 z7 R H ext).set (5 + i) (mrowF n r) = hst n T od odd z3 z4 z7 (fun i' => if i' = i then r else R i') H ext := by
  rw [show 5 + i = i + 5 by lia]
  simp only [hst, List.set_cons_succ]
  rw [List.set_append_left _ _ (by simpa using h), range_set]
  congr 6
  congr 1
  funext j
  by_cases q : j = i <;> simp [q]
theorem hst_setHeads (H' : List Int) : (hst n T od odd z3 z4 z7 R H ext).set (5 + n) (.list (H'.map fun h => .d (.int h))) = hst n T od odd z3 z4 z7 R H' ext := by
  rw [show 5 + n = n + 5 by lia]
  simp only [hst, List.set_cons_succ]
  rw [List.set_append_right _ _ (by simp)]; simp
theorem hst_congr {R' : Nat → Nat → Int} (h : ∀ i j, i < n → j < n → R i j = R' i j) : hst n T od odd z3 z4 z7 R H ext = hst n T od odd z3 z4 z7 R' H ext := by
  have : ((List.range n).map fun i => mrowF n (R i)) = (List.range n).map fun i => mrowF n (R' i) := by
    apply List.map_congr_left
    intro i hi
    have hi : i < n := by simpa using hi
    show AObj.list _ = AObj.list _
    congr 1
    apply List.map_congr_left
    intro j hj
    rw [h i j hi (by simpa using hj)]
  simp only [hst, this]
theorem vI_below {z : Option Int} {a : AV} {n : Nat} (e : vI z = some a) : a.below n := by
  cases z with
  | none => cases e
  | some i => cases e; trivial
theorem below_ds' {α : Type} {f : α → D} {n : Nat} (l : List α) : (AObj.list (l.map fun x => .d (f x))).below n := fun a ha => by
  obtain ⟨_, _, rfl⟩ := List.mem_map.mp ha; trivial
theorem hst_closed (hext : ∀ x ∈ ext, x.below (6 + n + ext.length)) : Closed (hst n T od odd z3 z4 z7 R H ext) := by
  have hv : ∀ {z : Option Int}, OptB (6 + n + ext.length) (vI z) := fun _ e => vI_below e
  have h4 : 4 < 6 + n + ext.length := by lia
  have h5 : 5 + n < 6 + n + ext.length := by lia
  refine closedOf hst_len <| allC (nsBelow <| allC OptB.none <| allC OptB.none <| allC OptB.none <| allC hv <| allC hv <| allC (OptB.obj h4) <| allC (OptB.obj h5) <| allC hv <| allC OptB.none <| all1 OptB.none) <| allC trivial <| allC trivial <| allC trivial <| allC (fun a ha => ?_) fun x hm => ?_
  · obtain ⟨i, hi, rfl⟩ := List.mem_map.mp ha
    have : i < n := List.mem_range.mp hi
    show 5 + i < _; lia
  · rcases List.mem_append.mp hm with hm | hm
    · obtain ⟨i, _, rfl⟩ := List.mem_map.mp hm
      exact below_ds' _
    · exact allC (below_ds' _) hext x hm
theorem hst_app {more : List AObj} : hst n T od odd z3 z4 z7 R H (ext ++ more) = hst n T od odd z3 z4 z7 R H ext ++ more := by simp [hst]
theorem hst_sub {more : List AObj} (hext : ∀ x ∈ ext, x.below (6 + n + ext.length)) : Sub (6 + n + ext.length) (hst n T od odd z3 z4 z7 R H (ext ++ more)) (hst n T od odd z3 z4 z7 R H ext) := by
  rw [hst_app, ← hst_len (T := T) (od := od) (odd := odd) (z3 := z3) (z4 := z4) (z7 := z7) (R := R) (H := H)]
  exact Closed.sub (hst_closed hext)
theorem hst_subM {more : List AObj} {m : Nat} (hm : m = 6 + n + ext.length) (hext : ∀ x ∈ ext, ∀ m, x.below m) : Sub m (hst n T od odd z3 z4 z7 R H (ext ++ more)) (hst n T od odd z3 z4 z7 R H ext) := by
  subst hm
  exact hst_sub fun x hx => hext x hx _
theorem hst_sub0 {m : Nat} (hm : m = 6 + n + ext.length) (hext : ∀ x ∈ ext, ∀ m, x.below m) : Sub m (hst n T od odd z3 z4 z7 R H ext) (hst n T od odd z3 z4 z7 R H ext) := by
  subst hm
  have := hst_sub (n := n) (T := T) (od := od) (odd := odd) (z3 := z3) (z4 := z4) (z7 := z7) (R := R) (H := H) (ext := ext) (more := []) fun x hx => hext x hx _
  rwa [List.append_nil] at this
end
noncomputable def updF (R : Nat → Nat → Int) (t : Nat) (h : Int) (i j : Nat) : Int := (R i j * R t t - R i t * R t j).fdiv h
noncomputable def hS (R0 : Nat → Nat → Int) : Nat → List Int × (Nat → Nat → Int)
  | 0 => ([1], R0)
  | t + 1 => ((hS R0 t).1 ++ [(hS R0 t).2 t t], fun i j => if t < i ∧ t < j then updF (hS R0 t).2 t ((hS R0 t).1.getLastD 1) i j else (hS R0 t).2 i j)
theorem hS_len (R0 : Nat → Nat → Int) : ∀ t, (hS R0 t).1.length = t + 1
  | 0 => rfl
  | t + 1 => by simp [hS, hS_len R0 t]
structure HeadsOk (n : Nat) (R0 : Nat → Nat → Int) : Prop where
  small : ∀ t i j, t < n → i < n → j < n → ((hS R0 t).2 i j).natAbs < 2 ^ 60
  last : ∀ t, t < n → (hS R0 t).1.getLastD 1 ≠ 0 ∧ ((hS R0 t).1.getLastD 1).natAbs < 2 ^ 60
noncomputable def forBody : Stmt → List Stmt
  | .For _ _ b _ _ => b
  | _ => []
noncomputable def stmtTurn : Stmt := ((bodyOf PySem.Challenge.pw_wb0027_02 16)[2]?).getD (.Pass ⟨0, 0, 0, 0⟩)
noncomputable def stmtOne : Stmt := ((forBody stmtTurn)[1]?).getD (.Pass ⟨0, 0, 0, 0⟩)
noncomputable def stmtTwo : Stmt := ((forBody stmtOne)[0]?).getD (.Pass ⟨0, 0, 0, 0⟩)
noncomputable abbrev ae16 (cd : Value) (ql : Str) : AEnv := ⟨scopeOf PySem.Challenge.pw_wb0027_02 16, 0, [("odd", 3), ("order", 2), ("table", 1)], cd, ql⟩
section
variable {C : Cx} {A : Around} {G : Gd} {cd : Value} {ql : Str} {n : Nat} {T od : D} {odd : Int} {z3 z4 z7 : Option Int} {R : Nat → Nat → Int} {H : List Int} {ext : List AObj} {Q : AV → List AObj → Prop}
theorem wE_rows {x y : Str} {p1 p2 p3 p4 p5 : Pos} {i j : Nat} (kx ky : Nat) (hx : (scopeOf PySem.Challenge.pw_wb0027_02 16).names[kx]? = some (x, .local)) (hy : (scopeOf PySem.Challenge.pw_wb0027_02 16).names[ky]? = some (y, .local))
    (vx : ([none, none, none, vI z3, vI z4, some (.obj 4), some (.obj (5 + n)), vI z7, none, none] : List (Option AV))[kx]? = some (some (.d (.int (i : Int))))) (vy : ([none, none, none, vI z3, vI z4, some (.obj 4), some (.obj (5 + n)), vI z7, none, none] : List (Option AV))[ky]? = some (some (.d (.int (j : Int)))))
    (hi : i < n) (hj : j < n) (hn : n ≤ 3) (q : Q (.d (.int (R i j))) (hst n T od odd z3 z4 z7 R H ext)) :
    wE C A G (ae16 cd ql) (hst n T od odd z3 z4 z7 R H ext) (.Subscript (.Subscript (.Name "rows" p1) (.Name x p2) p3) (.Name y p4) p5) Q := by
  have nx : ((scopeOf PySem.Challenge.pw_wb0027_02 16).names.map (·.1))[kx]? = some x := by rw [List.getElem?_map, hx]; rfl
  have ny : ((scopeOf PySem.Challenge.pw_wb0027_02 16).names.map (·.1))[ky]? = some y := by rw [List.getElem?_map, hy]; rfl
  refine wE_sub (fun _ _ => ⟨_, rfl⟩) (wE_sub (fun _ _ => ⟨_, rfl⟩) (wE_local 5 rfl rfl rfl rfl (wE_local kx hx rfl nx vx ?_)))
  refine sub_list (a := .obj 4) (l := (List.range n).map fun i => .obj (5 + i)) (x := .obj (5 + i)) (.inl rfl) (by lia) (by lia) (by rw [Int.toNat_natCast, List.getElem?_map, List.getElem?_range hi]; rfl) ?_
  refine wE_local ky hy rfl ny vy ?_
  exact sub_list (a := .obj (5 + i)) (l := (List.range n).map fun j => .d (.int (R i j))) (x := .d (.int (R i j))) (.inl (hst_row hi)) (by lia) (by lia) (by rw [Int.toNat_natCast, List.getElem?_map, List.getElem?_range hj]; rfl) q
theorem wE_head {p1 p2 p3 p4 : Pos} {k : Nat} {h : Int} (hk : 1 ≤ k) (hkl : k ≤ H.length) (hl : H.length ≤ 10) (hh : H[H.length - k]? = some h) (q : Q (.d (.int h)) (hst n T od odd z3 z4 z7 R H ext)) :
    wE C A G (ae16 cd ql) (hst n T od odd z3 z4 z7 R H ext) (.Subscript (.Name "heads" p1) (.UnaryOp .USub (.Constant (.int (k : Int)) 0 p2) p3) p4) Q := by
  refine wE_sub (fun _ _ => ⟨_, rfl⟩) (wE_local 6 rfl rfl rfl rfl (wE_un (wE_int (neg_i ?_))))
  refine sub_list_neg (a := .obj (5 + n)) (l := H.map fun h => .d (.int h)) (x := .d (.int h)) (.inl hst_heads) (by lia) (by simp; lia) (by lia) ?_ q
  rw [List.length_map, show (-(k : Int) + (H.length : Int)).toNat = H.length - k by lia, List.getElem?_map, hh]; rfl
end
set_option maxHeartbeats 4000000 in
theorem two_loop {C : Cx} {A : Around} {G : Gd} (cd : Value) (ql : Str) (hA : AOk A 3) (gr : GlobIs C "range" (.type "range")) (gl : GlobIs C "len" (.builtin "len")) (ord : List Nat) (hord : ord.length ≤ 3) (T : D) (odd : Int) (z4 : Option Int) (t one : Nat) (hto : t < one) (ho : one < ord.length)
    (R : Nat → Nat → Int) (H : List Int) (hlast : H.length ≠ 0) (hHl : H.length ≤ 5) (h0 : H.getLastD 1 ≠ 0) (h1 : (H.getLastD 1).natAbs < 2 ^ 60) (hR : ∀ i j, i < ord.length → j < ord.length → (R i j).natAbs < 2 ^ 60) (ext : List AObj) (hext : ∀ x ∈ ext, ∀ m, x.below m) (Q : AF → List AObj → Prop)
    (q : ∀ z4' R', (∀ i j, i < ord.length → j < ord.length → R' i j = if i = one ∧ t < j then updF R t (H.getLastD 1) i j else R i j) → Q .next (hst ord.length T (ordD ord) odd (some one) z4' (some t) R' (H ++ [R t t]) (ext ++ [.raw (RangeO (t + 1) ord.length)]))) :
    wS C A G (ae16 cd ql) (hst ord.length T (ordD ord) odd (some one) z4 (some t) R (H ++ [R t t]) ext) stmtTwo Q := by
  generalize hn : ord.length = n at *
  show wS _ _ _ _ _ (.For _ _ _ _ _) _
  refine wS_forI (6 + n + (ext.length + 1)) (upto (t + 1) (n - (t + 1))) (fun l st => l ≤ n - (t + 1) ∧ ∃ z4' R', (∀ i j, i < n → j < n → R' i j = if i = one ∧ t < j ∧ j < t + 1 + l then updF R t (H.getLastD 1) i j else R i j) ∧ st = hst n T (ordD ord) odd (some one) z4' (some t) R' (H ++ [R t t]) (ext ++ [.raw (RangeO (t + 1) n)])) (fun _ _ => rfl) ?_ ?_ ?_ ?_
  · rintro k st1 ⟨_, z, R', _, rfl⟩
    rw [hst_len]; simp
  · refine wEI_of ?_
    refine wE_c2 (fun _ => rfl) (fun _ => rfl) (wE_glob 8 gr rfl (wE_bin (wE_local 7 rfl rfl rfl rfl (wE_int (add_ii (wE_c1 (fun _ => rfl) (wE_glob 9 gl rfl (wE_cell 1 1 2 rfl rfl rfl (wCall_bi (bi_len (l := (ord.map fun (i : Nat) => PyData.int (i : Int)).map .d) rfl (by simp; lia) ?_))))))))))
    rw [List.length_map, List.length_map, hn]
    refine wCall_ty (bi_range2 ?_)
    refine itr_range (i := (hst n T (ordD ord) odd (some ↑one) z4 (some ↑t) R (H ++ [R t t]) ext).length) (a := (t : Int) + 1) (b := n) hA.handled (by simp) (by lia) (by lia) ⟨by congr 1; lia, Nat.zero_le _, z4, R, fun i j _ _ => ?_, ?_⟩
    · rw [if_neg (by lia)]
    · simp [hst]
  · rintro φ' E' k x st1 hx ⟨hk, z, R', hR', rfl⟩
    obtain ⟨rfl, hkl⟩ := upto_get hx
    have h2n : t + 1 + k < n := by lia
    refine wTgt_name (st_local 4 rfl rfl rfl ?_)
    show wSs _ _ _ _ (hst n T (ordD ord) odd (some ↑one) (some ((t : Int) + 1 + k)) (some ↑t) R' (H ++ [R t t]) (ext ++ [.raw (RangeO (↑t + 1) ↑n)])) _ _
    have hk1 : one < n := ho
    have e1 : R' one (t + 1 + k) = R one (t + 1 + k) := by rw [hR' _ _ hk1 h2n, if_neg (by lia)]
    have e2 : R' one t = R one t := by rw [hR' _ _ hk1 (by lia), if_neg (by lia)]
    have e3 : R' t (t + 1 + k) = R t (t + 1 + k) := by rw [hR' _ _ (by lia) h2n, if_neg (by lia)]
    have hcast : ((t : Int) + 1 + k) = ((t + 1 + k : Nat) : Int) := by lia
    rw [hcast]
    refine wSs_cons (wS_setSub (fun _ => rfl) ?_)
    refine wE_bin (wE_bin (wE_bin ?_))
    refine wE_rows (i := one) (j := t + 1 + k) 3 4 rfl rfl rfl rfl hk1 h2n hord ?_
    refine wE_head (k := 1) (h := R t t) (by lia) (by simp) (by simp; lia) (by simp) ?_
    rw [e1]
    refine mul_ii (mulSmall (by have := hR one (t + 1 + k) hk1 h2n; lia)) ?_
    refine wE_bin (wE_rows (i := one) (j := t) 3 7 rfl rfl rfl rfl hk1 (by lia) hord ?_)
    refine wE_rows (i := t) (j := t + 1 + k) 7 4 rfl rfl rfl rfl (by lia) h2n hord ?_
    rw [e2, e3]
    refine mul_ii (mulSmall (by have := hR one t hk1 (by lia); lia)) (sub_ii ?_)
    refine wE_head (k := 2) (h := H.getLastD 1) (by lia) (by simp; lia) (by simp; lia) ?_ ?_
    · rw [List.length_append, show H.length + [R t t].length - 2 = H.length - 1 from rfl, List.getElem?_append_left (by lia), List.getLastD_eq_getLast?, ← List.getLast?_eq_getElem?]
      cases q : H.getLast? with
      | none => rw [List.getLast?_eq_none_iff] at q; subst q; simp at hlast
      | some z => rfl
    refine div_ii h0 (pylong_small h1) ?_
    refine wE_sub (fun _ _ => ⟨_, rfl⟩) (wE_local 5 rfl rfl rfl rfl (wE_local 3 rfl rfl rfl rfl ?_))
    refine sub_list (a := .obj 4) (l := (List.range n).map fun i => .obj (5 + i)) (x := .obj (5 + one)) (.inl rfl) (by lia) (by lia) (by rw [Int.toNat_natCast, List.getElem?_map, List.getElem?_range hk1]; rfl) ?_
    refine wE_local 4 rfl rfl rfl rfl ?_
    refine ⟨5 + one, (List.range n).map fun j => .d (.int (R' one j)), ((t + 1 + k : Nat) : Int), rfl, hst_row hk1, rfl, by lia, by simp; lia, by lia, ?_⟩
    rw [Int.toNat_natCast, range_set, show (.list ((List.range n).map fun j => if j = t + 1 + k then AV.d (.int ((R one (t + 1 + k) * R t t - R one t * R t (t + 1 + k)).fdiv (H.getLastD 1))) else .d (.int (R' one j)))) = mrowF n (fun j => if j = t + 1 + k then updF R t (H.getLastD 1) one j else R' one j) from ?_, hst_setRow hk1]
    · refine wSs_nil ⟨_, hst_sub0 (by simp) fun x hx m => ?_, by lia, some ((t + 1 + k : Nat) : Int), _, fun i j hi hj => ?_, rfl⟩
      · rcases List.mem_append.mp hx with hx | hx
        · exact hext x hx _
        · simp at hx; subst hx; trivial
      · show (if i = one then fun j => if j = t + 1 + k then updF R t (H.getLastD 1) one j else R' one j else R' i) j = _
        by_cases hio : i = one
        · subst hio
          rw [if_pos rfl]
          by_cases hj2 : j = t + 1 + k
          · rw [if_pos hj2, if_pos ⟨rfl, by lia, by lia⟩]
          · rw [if_neg hj2, hR' i j hi hj]
            by_cases hc : t < j ∧ j < t + 1 + k
            · rw [if_pos ⟨rfl, hc.1, hc.2⟩, if_pos ⟨rfl, hc.1, by lia⟩]
            · rw [if_neg (fun q => hc q.2), if_neg (fun q => hc ⟨q.2.1, by lia⟩)]
        · rw [if_neg hio, hR' i j hi hj, if_neg (fun q => hio q.1), if_neg (fun q => hio q.1)]
    · show AObj.list _ = AObj.list _
      congr 1
      apply List.map_congr_left
      intro j _
      by_cases hj2 : j = t + 1 + k
      · subst hj2; simp [updF]
      · simp [hj2]
  · rintro E' st1 ⟨_, z, R', hR', rfl⟩
    refine wSs_nil (q z R' fun i j hi hj => ?_)
    rw [hR' i j hi hj]
    have : (upto ((t : Int) + 1) (n - (t + 1))).length = n - (t + 1) := by simp [upto]
    rw [this]
    by_cases h : i = one ∧ t < j
    · rw [if_pos ⟨h.1, h.2, by lia⟩, if_pos h]
    · rw [if_neg (fun q => h ⟨q.1, q.2.1⟩), if_neg h]
end Mine
end
section
open PySem PySem.Calls PyProof.Rows PySem.W PySem.SeqAt PyProof.V
set_option maxRecDepth 100000
namespace Mine
set_option maxHeartbeats 4000000 in
theorem one_loop {C : Cx} {A : Around} {G : Gd} (cd : Value) (ql : Str) (hA : AOk A 3) (gr : GlobIs C "range" (.type "range")) (gl : GlobIs C "len" (.builtin "len")) (ord : List Nat) (hord : ord.length ≤ 3) (T : D) (odd : Int) (z3 z4 : Option Int) (t : Nat) (ht : t < ord.length)
    (R : Nat → Nat → Int) (H : List Int) (hlast : H.length ≠ 0) (hHl : H.length ≤ 5) (h0 : H.getLastD 1 ≠ 0) (h1 : (H.getLastD 1).natAbs < 2 ^ 60) (hR : ∀ i j, i < ord.length → j < ord.length → (R i j).natAbs < 2 ^ 60) (hU : ∀ i j, t < i → i < ord.length → t < j → j < ord.length → (updF R t (H.getLastD 1) i j).natAbs < 2 ^ 60) (ext : List AObj) (hext : ∀ x ∈ ext, ∀ m, x.below m) (Q : AF → List AObj → Prop)
    (q : ∀ z3' z4' R', (∀ i j, i < ord.length → j < ord.length → R' i j = if t < i ∧ t < j then updF R t (H.getLastD 1) i j else R i j) → Q .next (hst ord.length T (ordD ord) odd z3' z4' (some t) R' (H ++ [R t t]) (ext ++ [.raw (RangeO (t + 1) ord.length)]))) :
    wS C A G (ae16 cd ql) (hst ord.length T (ordD ord) odd z3 z4 (some t) R (H ++ [R t t]) ext) stmtOne Q := by
  have hext2 : ∀ x ∈ ext ++ [AObj.raw (RangeO (t + 1) ord.length)], ∀ m, x.below m := fun x hx m => by
    rcases List.mem_append.mp hx with hx | hx
    · exact hext x hx _
    · simp at hx; subst hx; trivial
  show wS _ _ _ _ _ (.For _ _ _ _ _) _
  refine wS_forI (6 + ord.length + (ext.length + 1)) (upto (t + 1) (ord.length - (t + 1))) (fun l st => l ≤ ord.length - (t + 1) ∧ ∃ z3' z4' R', (∀ i j, i < ord.length → j < ord.length → R' i j = if t < i ∧ i < t + 1 + l ∧ t < j then updF R t (H.getLastD 1) i j else R i j) ∧ st = hst ord.length T (ordD ord) odd z3' z4' (some t) R' (H ++ [R t t]) (ext ++ [.raw (RangeO (t + 1) ord.length)])) (fun _ _ => rfl) ?_ ?_ ?_ ?_
  · rintro k st1 ⟨_, z3', z, R', _, rfl⟩
    rw [hst_len]; simp
  · refine wEI_of ?_
    refine wE_c2 (fun _ => rfl) (fun _ => rfl) (wE_glob 8 gr rfl (wE_bin (wE_local 7 rfl rfl rfl rfl (wE_int (add_ii (wE_c1 (fun _ => rfl) (wE_glob 9 gl rfl (wE_cell 1 1 2 rfl rfl rfl (wCall_bi (bi_len (l := (ord.map fun (i : Nat) => PyData.int (i : Int)).map .d) rfl (by simp; lia) ?_))))))))))
    rw [List.length_map, List.length_map]
    refine wCall_ty (bi_range2 ?_)
    refine itr_range (i := (hst ord.length T (ordD ord) odd z3 z4 (some ↑t) R (H ++ [R t t]) ext).length) (a := (t : Int) + 1) (b := ord.length) hA.handled (by simp) (by lia) (by lia) ⟨by congr 1; lia, Nat.zero_le _, z3, z4, R, fun i j _ _ => ?_, ?_⟩
    · rw [if_neg (by lia)]
    · simp [hst]
  · rintro φ' E' k x st1 hx ⟨hk, z3', z, R', hR', rfl⟩
    obtain ⟨rfl, hkl⟩ := upto_get hx
    have h2n : t + 1 + k < ord.length := by lia
    refine wTgt_name (st_local 3 rfl rfl rfl ?_)
    have hcast : ((t : Int) + 1 + k) = ((t + 1 + k : Nat) : Int) := by lia
    rw [hcast]
    show wSs _ _ _ _ (hst ord.length T (ordD ord) odd (some ((t + 1 + k : Nat) : Int)) z (some ↑t) R' (H ++ [R t t]) (ext ++ [.raw (RangeO (↑t + 1) ↑ord.length)])) [stmtTwo] _
    refine wSs_cons ?_
    have hRt : R' t t = R t t := by rw [hR' _ _ ht ht, if_neg (by lia)]
    rw [← hRt]
    refine two_loop cd ql hA gr gl ord hord T odd z t (t + 1 + k) (by lia) h2n R' H hlast hHl h0 h1 (fun i j hi hj => ?_) _ hext2 _ fun z4' R2 hR2 => ?_
    · rw [hR' i j hi hj]
      split
      · rename_i hc; exact hU i j hc.1 hi hc.2.2 hj
      · exact hR i j hi hj
    · refine wSs_nil ⟨_, hst_subM (more := [.raw (RangeO (t + 1) ord.length)]) (by simp) hext2, by lia, some ((t + 1 + k : Nat) : Int), z4', R2, fun i j hi hj => ?_, by rw [hRt]⟩
      rw [hR2 i j hi hj]
      by_cases hi2 : i = t + 1 + k
      · by_cases hj2 : t < j
        · rw [if_pos ⟨hi2, hj2⟩, if_pos ⟨by lia, by lia, hj2⟩]
          unfold updF
          rw [hR' i j hi hj, hR' t t ht ht, hR' i t hi ht, hR' t j ht hj, if_neg (by lia), if_neg (by lia), if_neg (by lia), if_neg (by lia)]
        · rw [if_neg (fun q => hj2 q.2), hR' i j hi hj, if_neg (fun q => hj2 q.2.2), if_neg (fun q => hj2 q.2.2)]
      · rw [if_neg (fun q => hi2 q.1), hR' i j hi hj]
        by_cases hc : t < i ∧ i < t + 1 + k ∧ t < j
        · rw [if_pos hc, if_pos ⟨hc.1, by lia, hc.2.2⟩]
        · rw [if_neg hc, if_neg (fun q => hc ⟨q.1, by lia, q.2.2⟩)]
  · rintro E' st1 ⟨_, z3', z, R', hR', rfl⟩
    refine wSs_nil (q z3' z R' fun i j hi hj => ?_)
    rw [hR' i j hi hj]
    have : (upto ((t : Int) + 1) (ord.length - (t + 1))).length = ord.length - (t + 1) := by simp [upto]
    rw [this]
    by_cases h : t < i ∧ t < j
    · rw [if_pos ⟨h.1, by lia, h.2⟩, if_pos h]
    · rw [if_neg (fun q => h ⟨q.1, q.2.2⟩), if_neg h]
end Mine
end
section
open PySem PySem.Calls PyProof.Rows PySem.W PySem.SeqAt PyProof.V
set_option maxRecDepth 100000
namespace Mine
noncomputable def R0of (T : List (List Int)) (odd : Int) (ord : List Nat) (i j : Nat) : Int := ent T odd (ord.getD i 0) (ord.getD j 0)
noncomputable def headsOf (T : List (List Int)) (ord : List Nat) (odd : Int) : List Int := (hS (R0of T odd ord) ord.length).1
theorem rows_hst (T : List (List Int)) (odd : Int) (ord : List Nat) : ord.map (mrowD T odd ord) = (List.range ord.length).map fun i => mrowF ord.length (R0of T odd ord i) := by
  rw [map_getD ord (mrowD T odd ord) 0]
  congr 1
  funext i
  unfold mrowD
  show AObj.list _ = AObj.list _
  congr 1
  rw [List.map_map, map_getD ord _ 0]
  rfl
set_option maxHeartbeats 4000000 in
theorem heads_body {C : Cx} {A : Around} {G : Gd} (cd : Value) (ql : Str) (hA : AOk A 3) (gr : GlobIs C "range" (.type "range")) (gl : GlobIs C "len" (.builtin "len")) (T : List (List Int)) (hT : TabOk3 T) (odd : Int) (hodd : odd.natAbs ≤ 1000) (ord : List Nat) (hord : ∀ i ∈ ord, i < 3) (hlen : ord.length ≤ 3)
    (hH : HeadsOk ord.length (R0of T odd ord)) (post : D → Prop) (hp : post (.list ((headsOf T ord odd).map .int))) :
    wSs C A G (ae16 cd ql) (h0st T odd ord none none) (bodyOf PySem.Challenge.pw_wb0027_02 16) (retP post) := by
  show wSs _ _ _ _ _ [stmtRows, .Assign _ _ _, stmtTurn, .Return _ _] _
  refine wSs_cons (heads_rows cd ql hA T hT odd hodd ord hord hlen _ ?_)
  show wSs _ _ _ _ _ _ _
  refine wSs_cons (wS_assign (fun _ => rfl) (wE_list ?_))
  refine wArgs_cons (fun _ => rfl) (wE_int (wArgs_nil ⟨by rw [sizeLine_eq]; exact Nat.le_of_ble_eq_true rfl, ?_⟩))
  refine st_local 6 rfl rfl rfl ?_
  have e0 : (([nsOf 16 [none, none, none, none, none, some (.obj 4), none, none, none, none], .cell (some (.d (tabD T))), .cell (some (.d (ordD ord))), .cell (some (.d (.int odd)))] ++ rowsAt T odd ord 5 ++ [AObj.list [AV.d (.int 1)]]).set 0 (nsOf 16 [none, none, none, none, none, some (.obj 4), some (.obj ([nsOf 16 [none, none, none, none, none, some (.obj 4), none, none, none, none], .cell (some (.d (tabD T))), .cell (some (.d (ordD ord))), .cell (some (.d (.int odd)))] ++ rowsAt T odd ord 5).length), none, none, none]) : List AObj)
      = hst ord.length (tabD T) (ordD ord) odd none none none (R0of T odd ord) [1] [] := by
    have hl : ([nsOf 16 [none, none, none, none, none, some (.obj 4), none, none, none, none], .cell (some (.d (tabD T))), .cell (some (.d (ordD ord))), .cell (some (.d (.int odd)))] ++ rowsAt T odd ord 5).length = 5 + ord.length := by simp [rowsAt]; lia
    rw [hl]
    unfold rowsAt
    rw [rows_hst]
    rfl
  show wSs _ _ _ _ (([nsOf 16 [none, none, none, none, none, some (.obj 4), none, none, none, none], .cell (some (.d (tabD T))), .cell (some (.d (ordD ord))), .cell (some (.d (.int odd)))] ++ rowsAt T odd ord 5 ++ [AObj.list [AV.d (.int 1)]]).set 0 (nsOf 16 [none, none, none, none, none, some (.obj 4), some (.obj ([nsOf 16 [none, none, none, none, none, some (.obj 4), none, none, none, none], .cell (some (.d (tabD T))), .cell (some (.d (ordD ord))), .cell (some (.d (.int odd)))] ++ rowsAt T odd ord 5).length), none, none, none])) _ _
  rw [e0]
  have hx0 : ∀ x ∈ [AObj.raw (RangeO 0 (ord.length : Int))], ∀ m, x.below m := fun x hx m => by simp at hx; subst hx; trivial
  refine wSs_cons ?_
  show wS _ _ _ _ _ (.For _ _ _ _ _) _
  refine wS_forI (6 + ord.length + 1) (upto 0 ord.length) (fun k st => k ≤ ord.length ∧ ∃ z3 z4 z7, st = hst ord.length (tabD T) (ordD ord) odd z3 z4 z7 (hS (R0of T odd ord) k).2 (hS (R0of T odd ord) k).1 [.raw (RangeO 0 ord.length)]) (fun _ _ => rfl) ?_ ?_ ?_ ?_
  · rintro k st1 ⟨_, z3, z4, z7, rfl⟩
    rw [hst_len]; rfl
  · refine wEI_of ?_
    refine wE_c1 (fun _ => rfl) (wE_glob 8 gr rfl (wE_c1 (fun _ => rfl) (wE_glob 9 gl rfl (wE_cell 1 1 2 rfl rfl rfl (wCall_bi (bi_len (l := (ord.map fun (i : Nat) => PyData.int (i : Int)).map .d) rfl (by simp; lia) ?_))))))
    rw [List.length_map, List.length_map]
    refine wCall_ty (bi_range1 ?_)
    refine itr_range (i := (hst ord.length (tabD T) (ordD ord) odd none none none (R0of T odd ord) [1] []).length) (a := 0) (b := ord.length) hA.handled (by simp) (by lia) (by lia) ⟨by simp, Nat.zero_le _, none, none, none, by simp [hst, hS]⟩
  · rintro φ' E' k x st1 hx ⟨hk, z3, z4, z7, rfl⟩
    obtain ⟨rfl, hkl⟩ := upto_get hx
    refine wTgt_name (st_local 7 rfl rfl rfl ?_)
    rw [show ((0 : Int) + (k : Int)) = ((k : Nat) : Int) by lia]
    show wSs _ _ _ _ (hst ord.length (tabD T) (ordD ord) odd z3 z4 (some (k : Int)) (hS (R0of T odd ord) k).2 (hS (R0of T odd ord) k).1 [.raw (RangeO 0 ord.length)]) [.Expr (.Call (.Attribute _ _ _) _ _ _) _, stmtOne] _
    have hl := hS_len (R0of T odd ord) k
    refine wSs_cons (wS_expr (fun _ => rfl) ?_)
    refine wE_m1 F.plainAttrs_list F.slot_list_append F.type_list_append ?_ ?_ ?_ ?_
    · exact fun _ _ => rfl
    · exact fun _ => rfl
    · rfl
    refine wE_local 6 rfl rfl rfl rfl ⟨hasTy_list hst_heads, ?_⟩
    refine wE_rows (i := k) (j := k) 7 7 rfl rfl rfl rfl hkl hkl hlen ?_
    refine bi_append hst_heads (by rw [List.length_map, hl, sizeLine_eq]; lia) ?_
    have e2 : ((hS (R0of T odd ord) k).1.map fun h => AV.d (.int h)) ++ [.d (.int ((hS (R0of T odd ord) k).2 k k))] = ((hS (R0of T odd ord) k).1 ++ [(hS (R0of T odd ord) k).2 k k]).map fun h => AV.d (.int h) := by simp
    rw [e2, hst_setHeads]
    show wSs _ _ _ _ _ _ _
    refine wSs_cons (one_loop cd ql hA gr gl ord hlen (tabD T) odd z3 z4 k hkl _ _ (by lia) (by lia) (hH.last k hkl).1 (hH.last k hkl).2 (hH.small k · · hkl) (fun i j hi hi2 hj hj2 => ?_) _ hx0 _ fun z3' z4' R2 hR2 => ?_)
    · have := hH.small (k + 1) i j (by lia) hi2 hj2
      simp only [hS, if_pos (And.intro hi hj)] at this
      exact this
    · refine wSs_nil ⟨_, hst_subM (more := [.raw (RangeO (k + 1) ord.length)]) rfl hx0, by lia, z3', z4', some (k : Int), hst_congr fun i j hi hj => ?_⟩
      rw [hR2 i j hi hj]; rfl
  · rintro E' st1 ⟨_, z3, z4, z7, rfl⟩
    refine wSs_nil ?_
    show wSs _ _ _ _ _ _ _
    rw [show (upto 0 ord.length).length = ord.length by simp [upto]]
    refine wSs_cons (wS_ret (wE_local 6 rfl rfl rfl rfl (.inl ⟨(headsOf T ord odd).map .int, ?_, hp⟩)))
    rw [hst_heads]
    simp [headsOf]
theorem scokH : ScOk (scopeOf PySem.Challenge.pw_wb0027_02 16) := ⟨rfl, by decide +kernel, by decide +kernel⟩
theorem heads_bind {C : Cx} {f : Value} {fd : FuncData} (B : PlainG C 16 f fd) (v u w : Value) : bindArgs fd ⟨[v, u, w], []⟩ = (pure [(("table" : Str), v), ("order", u), ("odd", w)] : Sem (List (Str × Value))) := B.bind rfl
theorem heads_ok {C : Cx} {f : Value} {fd : FuncData} (hl : NoLim C) (B : PlainG C 16 f fd) (gr : GlobIs C "range" (.type "range")) (gl : GlobIs C "len" (.builtin "len")) (T : List (List Int)) (hT : TabOk3 T) (odd : Int) (hodd : odd.natAbs ≤ 1000) (ord : List Nat) (hord : ∀ i ∈ ord, i < 3) (hlen : ord.length ≤ 3) (hH : HeadsOk ord.length (R0of T odd ord)) :
    FnOk C (fun _ => none) C.P0 4 f [.d (tabD T), .d (ordD ord), .d (.int odd)] [] [] fun r => r = PyData.list ((headsOf T ord odd).map .int) := by
  have hsc := B.scope
  refine fn_ok (bs := [(("table" : Str), .d (tabD T)), ("order", .d (ordD ord)), ("odd", .d (.int odd))]) B.at_ hl (by rw [hsc]; exact scokH) (by rw [hsc]; decide +kernel) (bind3 (heads_bind B)) ?_
  intro A G A' hA
  rw [hsc]
  simp only [wStores]
  refine st_cell 0 2 1 rfl rfl rfl ?_
  refine st_cell 1 1 2 rfl rfl rfl ?_
  refine st_cell 2 0 3 rfl rfl rfl ?_
  intro E
  exact heads_body (G := G.at E) _ _ hA gr gl T hT odd hodd ord hord hlen hH _ rfl
end Mine
end
section
open PySem PySem.Calls PyProof.Rows PySem.W PySem.SeqAt PyProof.V
set_option maxRecDepth 100000
namespace Mine
noncomputable def chg (H : List Int) (t : Nat) : Bool := decide (H.getD t 0 < 0) != decide (H.getD (t + 1) 0 < 0)
noncomputable def chgCount (H : List Int) (n : Nat) : Nat := ((List.range n).filter (chg H)).length
noncomputable def chG (H : List Int) : D → Option D
  | .int t => if chg H t.toNat then some (.int t) else none
  | _ => none
theorem chG_len (H : List Int) (n : Nat) : ((upto 0 n).filterMap (chG H)).length = chgCount H n := by
  unfold upto chgCount
  rw [List.filterMap_map]
  have e : (chG H ∘ fun (i : Nat) => PyData.int (0 + (i : Int))) = fun i => if chg H i = true then some (PyData.int (i : Int)) else none := by
    funext i; simp [chG]
  rw [e]
  generalize List.range n = l
  induction l with
  | nil => rfl
  | cons t r ih =>
    rw [List.filterMap_cons, List.filter_cons]
    by_cases hb : chg H t = true
    · simp only [if_pos hb, List.length_cons, ih]
    · simp only [if_neg hb, ih]
noncomputable def countOf (T : List (List Int)) (ord : List Nat) (odd : Int) : Nat := chgCount (headsOf T ord odd) ord.length
structure HeadsG (C : Cx) (f : Value) : Prop where
  glob : GlobIs C "_law_heads" f
  ok : ∀ T, TabOk3 T → ∀ odd : Int, odd.natAbs ≤ 1000 → ∀ ord : List Nat, (∀ i ∈ ord, i < 3) → ord.length ≤ 3 → HeadsOk ord.length (R0of T odd ord) → FnOk C (fun _ => none) C.P0 4 f [.d (tabD T), .d (ordD ord), .d (.int odd)] [] [] fun r => r = PyData.list ((headsOf T ord odd).map .int)
theorem scokC : ScOk (scopeOf PySem.Challenge.pw_wb0027_02 17) := ⟨rfl, by decide +kernel, by decide +kernel⟩
theorem count_bind {C : Cx} {f : Value} {fd : FuncData} (B : PlainG C 17 f fd) (v u w : Value) : bindArgs fd ⟨[v, u, w], []⟩ = (pure [(("table" : Str), v), ("order", u), ("odd", w)] : Sem (List (Str × Value))) := B.bind rfl
set_option maxHeartbeats 4000000 in
theorem count_body {C : Cx} {A : Around} {G : Gd} (cd : Value) (ql : Str) (hA : AOk A 4) {hf : Value} (hh : HeadsG C hf) (gr : GlobIs C "range" (.type "range")) (gl : GlobIs C "len" (.builtin "len")) (T : List (List Int)) (hT : TabOk3 T) (odd : Int) (hodd : odd.natAbs ≤ 1000) (ord : List Nat) (hord : ∀ i ∈ ord, i < 3) (hlen : ord.length ≤ 3)
    (hH : HeadsOk ord.length (R0of T odd ord)) (post : D → Prop) (hp : post (.int (countOf T ord odd))) :
    wSs C A G ⟨scopeOf PySem.Challenge.pw_wb0027_02 17, 0, [("heads", 1)], cd, ql⟩ [nsOf 17 [some (.d (tabD T)), some (.d (ordD ord)), some (.d (.int odd)), none, none, none, none], .cell none] (bodyOf PySem.Challenge.pw_wb0027_02 17) (retP post) := by
  have hS := sizeLine_eq
  have hHl : (headsOf T ord odd).length = ord.length + 1 := hS_len _ _
  have hget : ∀ t, t < ord.length + 1 → (headsOf T ord odd)[t]? = some ((headsOf T ord odd).getD t 0) := fun t ht => by
    rw [List.getD_eq_getElem?_getD, List.getElem?_eq_getElem (by lia)]; rfl
  refine wSs_cons (wS_assign (fun _ => rfl) ?_)
  refine wE_c3 (fun _ => rfl) (fun _ => rfl) (fun _ => rfl) (wE_glob 4 hh.glob rfl (wE_local 0 rfl rfl rfl rfl (wE_local 1 rfl rfl rfl rfl (wE_local 2 rfl rfl rfl rfl ?_))))
  refine wCall_fn (hh.ok T hT odd hodd ord hord hlen hH) hA (all3 trivial trivial trivial) (fun a ha => nomatch ha) ?_
  rintro d rfl
  refine st_cell 3 0 1 rfl rfl rfl ?_
  show wSs _ _ _ _ _ _ _
  refine wSs_cons (wS_ret ?_)
  refine wE_c1 (fun _ => rfl) (wE_glob 5 gl rfl ?_)
  refine wE_lcD (its := upto 0 ord.length) (st2 := [nsOf 17 [some (.d (tabD T)), some (.d (ordD ord)), some (.d (.int odd)), none, none, none, none], .cell (some (.d (.list ((headsOf T ord odd).map .int)))), .raw (RangeO 0 ord.length)])
    [("heads", 1)] (chG (headsOf T ord odd)) rfl ⟨rfl, by decide +kernel, by decide +kernel⟩ rfl (by show ((cellsFrom 5 _ _).map (·.1)).Nodup; decide +kernel) (fun _ _ => rfl) ?_ ?_ (Closed.of (by ktr_unf)) ?_ ?_
  · refine wEI_of (wE_c1 (fun _ => rfl) (wE_glob 6 gr rfl (wE_c1 (fun _ => rfl) (wE_glob 5 gl rfl (wE_local 1 rfl rfl rfl rfl (wCall_bi (bi_len (l := (ord.map fun (i : Nat) => PyData.int (i : Int)).map .d) rfl (by simp; lia) ?_)))))))
    rw [List.length_map, List.length_map]
    refine wCall_ty (bi_range1 ?_)
    exact itr_range (i := 2) (a := 0) (b := ord.length) hA.handled rfl (by lia) (by lia) ⟨by simp, rfl⟩
  · rw [show (upto 0 ord.length).length = ord.length by simp [upto], hS]; lia
  · intro φ' E' env' x acc cs hx hcs hef
    obtain ⟨t, ht, rfl⟩ := List.mem_map.mp hx
    have htl : t < ord.length := by simpa using ht
    have hcs0 : cs = [] := List.eq_nil_of_length_eq_zero hcs
    subst hcs0
    rw [show ((0 : Int) + (t : Int)) = ((t : Nat) : Int) by lia]
    refine wTgt_name (st_local 1 rfl rfl rfl ?_)
    refine wIfs_one ?_
    refine wB_cmp rfl ?_
    refine wE_cmp rfl (wE_sub (fun _ _ => ⟨_, rfl⟩) (wE_cell 2 0 1 rfl rfl rfl (wE_local 1 rfl rfl rfl rfl ?_)))
    refine sub_list (l := ((headsOf T ord odd).map PyData.int).map .d) (x := .d (.int ((headsOf T ord odd).getD t 0))) rfl (by lia) (by lia) (by rw [Int.toNat_natCast, List.getElem?_map, List.getElem?_map, hget t (by lia)]; rfl) ?_
    refine wE_int (lt_ii ?_)
    refine wE_cmp rfl (wE_sub (fun _ _ => ⟨_, rfl⟩) (wE_cell 2 0 1 rfl rfl rfl (wE_bin (wE_local 1 rfl rfl rfl rfl (wE_int (add_ii ?_))))))
    refine sub_list (l := ((headsOf T ord odd).map PyData.int).map .d) (x := .d (.int ((headsOf T ord odd).getD (t + 1) 0))) rfl (by lia) (by lia) (by rw [show ((t : Int) + 1).toNat = t + 1 by lia, List.getElem?_map, List.getElem?_map, hget (t + 1) (by lia)]; rfl) ?_
    refine wE_int (lt_ii ?_)
    refine ne_bb (tr_b ?_)
    show if chg (headsOf T ord odd) t = true then _ else _
    cases hb : chg (headsOf T ord odd) t with
    | false => exact ⟨by simp [chG, hb], [], rfl, Sub.of rfl (by ktr_unf)⟩
    | true => exact wE_local 1 rfl rfl rfl rfl ⟨_, rfl, by simp [chG, hb], [], rfl, Sub.of rfl (by ktr_unf)⟩
  · refine wCall_bi (bi_len (l := ((upto 0 ord.length).filterMap (chG (headsOf T ord odd))).map .d) rfl ?_ ?_)
    · rw [List.length_map]
      refine Nat.lt_of_le_of_lt (List.length_filterMap_le _ _) ?_
      rw [show (upto 0 ord.length).length = ord.length by simp [upto]]; lia
    · rw [List.length_map, chG_len]
      exact hp
theorem count_ok {C : Cx} {f : Value} {fd : FuncData} (hl : NoLim C) (B : PlainG C 17 f fd) {hf : Value} (hh : HeadsG C hf) (gr : GlobIs C "range" (.type "range")) (gl : GlobIs C "len" (.builtin "len")) (T : List (List Int)) (hT : TabOk3 T) (odd : Int) (hodd : odd.natAbs ≤ 1000) (ord : List Nat) (hord : ∀ i ∈ ord, i < 3) (hlen : ord.length ≤ 3) (hH : HeadsOk ord.length (R0of T odd ord)) :
    FnOk C (fun _ => none) C.P0 5 f [.d (tabD T), .d (ordD ord), .d (.int odd)] [] [] fun r => r = PyData.int (countOf T ord odd) := by
  have hsc := B.scope
  refine fn_ok (bs := [(("table" : Str), .d (tabD T)), ("order", .d (ordD ord)), ("odd", .d (.int odd))]) B.at_ hl (by rw [hsc]; exact scokC) (by rw [hsc]; decide +kernel) (bind3 (count_bind B)) ?_
  intro A G A' hA
  rw [hsc]
  simp only [wStores]
  refine st_local 0 rfl rfl rfl ?_
  refine st_local 1 rfl rfl rfl ?_
  refine st_local 2 rfl rfl rfl ?_
  intro E
  exact count_body (G := G.at E) _ _ hA hh gr gl T hT odd hodd ord hord hlen hH _ rfl
end Mine
end
section
open PySem PySem.Calls PyProof.Rows PySem.W PySem.SeqAt PyProof.V
set_option maxRecDepth 100000
namespace Mine
structure CountG (C : Cx) (f : Value) : Prop where
  glob : GlobIs C "_law_count" f
  ok : ∀ T, TabOk3 T → ∀ odd : Int, odd.natAbs ≤ 1000 → ∀ ord : List Nat, (∀ i ∈ ord, i < 3) → ord.length ≤ 3 → HeadsOk ord.length (R0of T odd ord) → FnOk C (fun _ => none) C.P0 5 f [.d (tabD T), .d (ordD ord), .d (.int odd)] [] [] fun r => r = PyData.int (countOf T ord odd)
noncomputable def mParams (p : Pos) : Arguments := { posonlyargs := [], args := [{ arg := "m", annotation := none, pos := p }], vararg := none, kwonlyargs := [], kw_defaults := [], kwarg := none, defaults := [] }
noncomputable def mBody (p1 p2 p3 p4 p5 p6 p7 p8 p9 : Pos) : Expr := .Call (.Name "_law_count" p1) [.Name "table" p2, .Name "order" p3, .BinOp (.BinOp (.Constant (.int 2) 0 p4) .Mult (.Name "m" p5) p6) .Add (.Constant (.int 1) 0 p7) p8] [] p9
noncomputable def mScope : Scope := { kind := .function, names := [(("m" : Str), .local), ("order", .free), ("table", .free), ("_law_count", .globalImplicit)], isGenerator := false, isCoroutine := false, more := [] }
theorem optB_d {n : Nat} {d : D} : OptB n (some (.d d)) := fun a e => by cases e; trivial
theorem lamCount_ok {C : Cx} {φf κf : Kp} {kf : Addr} {cf : Value} (hl : NoLim C) (hc : CountG C cf) (T : List (List Int)) (hT : TabOk3 T) (ord : List Nat) (hord : ∀ i ∈ ord, i < 3) (hlen : ord.length ≤ 3) (m : Int) (hm : m.natAbs ≤ 100) (hH : HeadsOk ord.length (R0of T (2 * m + 1) ord)) (p0 p1 p2 p3 p4 p5 p6 p7 p8 p9 : Pos)
    (L : LamIn C φf κf kf (mParams p0) (mBody p1 p2 p3 p4 p5 p6 p7 p8 p9) mScope ["table", "order"] [tabD T, ordD ord]) :
    FnOk C φf κf 6 (.ref kf) [.d (.int m)] [] [] fun r => r = PyData.int (countOf T ord (2 * m + 1)) := by
  refine lam_ok (x := "m") (xs := ["table", "order"]) (ds := [tabD T, ordD ord]) hl ⟨rfl, by decide +kernel, by decide +kernel⟩ rfl rfl (by show ((cellsFrom 3 _ _).map (·.1)).Nodup; decide +kernel) (.inl rfl) L (fun name qual cl pm cdv ct v => rfl) ?_
  intro A G A' Ps code qual hA hPs hκ _
  obtain ⟨hl2, hg⟩ := hPs
  obtain ⟨P1, e1, d1⟩ := hg 0 _ rfl
  obtain ⟨P2, e2, d2⟩ := hg 1 _ rfl
  obtain rfl : Ps = [.raw P1, .raw P2] := by
    obtain ⟨a, b, rfl⟩ := len2 hl2
    cases e1; cases e2; rfl
  simp only [wStores]
  refine st_local 0 rfl rfl rfl ?_
  intro E
  refine wE_c3 (fun _ => rfl) (fun _ => rfl) (fun _ => rfl) (wE_glob 3 hc.glob rfl ?_)
  refine wE_freeR 2 0 0 rfl rfl rfl d1 hκ ?_
  refine wE_freeR 1 1 1 rfl rfl rfl d2 hκ ?_
  refine wE_bin (wE_bin (wE_int (wE_local 0 rfl rfl rfl rfl (mul_ii (mulSmall (by decide)) (wE_int (add_ii ?_))))))
  refine wCall_fn (hc.ok T hT (2 * m + 1) (by lia) ord hord hlen hH) hA (all3 trivial trivial trivial) (fun a ha => nomatch ha) ?_
  rintro d rfl
  refine ⟨_, rfl, rfl, fun j hj => ?_⟩
  match j, hj with
  | 0, _ => rfl
  | 1, _ => rfl
noncomputable def placesD : D := .list (upto (-28) 57)
noncomputable def keyOf (T : List (List Int)) (ord : List Nat) (i : Nat) : Int := (countOf T ord (2 * (-28 + (i : Int)) + 1) : Int)
noncomputable def firstAt (T : List (List Int)) (ord : List Nat) (c : Int) : Nat := bsL (keyOf T ord) c 57 0 57
noncomputable def firstsOf (T : List (List Int)) (ord : List Nat) : List Int := (List.range ord.length).map fun (c : Nat) => -28 + (firstAt T ord ((c : Int) + 1) : Int)
theorem upto_len (a : Int) (n : Nat) : (upto a n).length = n := by simp [upto]
theorem upto_at {a : Int} {n k : Nat} (h : k < n) : (upto a n)[k]? = some (.int (a + k)) := by
  unfold upto; rw [List.getElem?_map, List.getElem?_range h]; rfl
structure FirstsOk (T : List (List Int)) (ord : List Nat) : Prop where
  tab : TabOk3 T
  ord3 : ∀ i ∈ ord, i < 3
  len : ord.length ≤ 3
  heads : ∀ i : Nat, i < 57 → HeadsOk ord.length (R0of T (2 * (-28 + (i : Int)) + 1) ord)
  found : ∀ c : Nat, c < ord.length → firstAt T ord ((c : Int) + 1) < 57
noncomputable abbrev st18 (T : List (List Int)) (ord : List Nat) (z4 z5 : Option Int) (fs : List Int) : List AObj :=
  [nsOf 18 [none, none, some (.d placesD), some (.obj 3), vI z4, vI z5, none, none, none], .cell (some (.d (tabD T))), .cell (some (.d (ordD ord))), .list (fs.map fun z => .d (.int z)), .raw (RangeO 1 ((ord.length : Int) + 1))]
set_option maxHeartbeats 4000000 in
theorem firsts_body {C : Cx} {A : Around} {G : Gd} (cd : Value) (ql : Str) (hl : NoLim C) (hA : AOk A 7) {cf bf : Value} {bfd : FuncData} (hc : CountG C cf) (B : BisG C 2 bf bfd) (gb : GlobIs C "bisect_left" bf) (gr : GlobIs C "range" (.type "range")) (gl : GlobIs C "len" (.builtin "len"))
    (P : Addr) (L : LamOk C cd P) (htq : ∀ pos' : Pos, ((((129 : Nat) : Int) == pos'.line) = true) → ((((47 : Nat) : Int) == pos'.col) = true) → C.tq pos' = ql ++ "<lambda>")
    (T : List (List Int)) (ord : List Nat) (hF : FirstsOk T ord) (post : D → Prop) (hp : post (.list ((firstsOf T ord).map .int))) :
    wSs C A G ⟨scopeOf PySem.Challenge.pw_wb0027_02 18, 0, [("order", 2), ("table", 1)], cd, ql⟩ [nsOf 18 [none, none, some (.d placesD), none, none, none, none, none, none], .cell (some (.d (tabD T))), .cell (some (.d (ordD ord)))] (bodyOf PySem.Challenge.pw_wb0027_02 18) (retP post) := by
  have hS := sizeLine_eq
  have hlen3 := hF.len
  have hfl : (firstsOf T ord).length = ord.length := by simp [firstsOf]
  refine wSs_cons (wS_assign (fun _ => rfl) (wE_list (wArgs_nil ⟨by decide, ?_⟩)))
  refine st_local 3 rfl rfl rfl ?_
  show wSs _ _ _ _ _ _ _
  refine wSs_cons ?_
  refine wS_forI 5 (upto 1 ord.length) (fun k st => k ≤ ord.length ∧ ∃ z4 z5, st = st18 T ord z4 z5 ((firstsOf T ord).take k)) (fun _ _ => rfl) ?_ ?_ ?_ ?_
  · rintro k st1 ⟨_, z4, z5, rfl⟩; rfl
  · refine wEI_of (wE_c2 (fun _ => rfl) (fun _ => rfl) (wE_glob 6 gr rfl (wE_int (wE_bin (wE_c1 (fun _ => rfl) (wE_glob 7 gl rfl (wE_cell 1 0 2 rfl rfl rfl (wCall_bi (bi_len (l := (ord.map fun (i : Nat) => PyData.int (i : Int)).map .d) rfl (by simp; lia) ?_)))))))))
    rw [List.length_map, List.length_map]
    refine wE_int (add_ii (wCall_ty (bi_range2 ?_)))
    exact itr_range (i := 4) (a := 1) (b := (ord.length : Int) + 1) hA.handled rfl (by lia) (by lia) ⟨by congr 1; lia, Nat.zero_le _, none, none, rfl⟩
  · rintro φ' E' k x st1 hx ⟨hk, z4, z5, rfl⟩
    obtain ⟨rfl, hkl⟩ := upto_get hx
    refine wTgt_name (st_local 4 rfl rfl rfl ?_)
    rw [show ((1 : Int) + (k : Int)) = ((k : Int) + 1) by lia]
    show wSs _ _ _ _ (st18 T ord (some ((k : Int) + 1)) z5 ((firstsOf T ord).take k)) _ _
    refine wSs_cons (wS_assign (fun _ => rfl) ?_)
    refine wE_callLam (P := P) [("table", 1), ("order", 2)] (fun _ => rfl) L (fun _ => rfl) rfl htq (htq _ rfl rfl) ?_
    refine wE_glob 8 gb rfl ?_
    refine wArgs_cons (fun _ => rfl) (wE_local 2 rfl rfl rfl rfl (wArgs_cons (fun _ => rfl) (wE_local 4 rfl rfl rfl rfl (wArgs_nil ?_))))
    refine wLam_fn (ds := [tabD T, ordD ord]) hA ⟨by decide, rfl, fun j x i d e1 e2 => ?_⟩ (all2 trivial trivial) (fun φf κf kf hφt hL => bisL_2k (g := keyOf T ord) hl gl B hφt (upto (-28) 57) ((k : Int) + 1) (by rw [upto_len]; decide) rfl (fun i d hd => ?_)) ?_
    · match j, e1, e2 with
      | 0, e1, e2 => cases e1; cases e2; rfl
      | 1, e1, e2 => cases e1; cases e2; rfl
    · obtain ⟨rfl, hi⟩ := upto_get hd
      exact lamCount_ok hl hc T hF.tab ord hF.ord3 hF.len (-28 + (i : Int)) (by lia) (hF.heads i hi) _ _ _ _ _ _ _ _ _ _ hL
    · rintro d rfl
      have hfk := hF.found k hkl
      rw [upto_len]
      show wStore _ _ _ _ _ _ (.d (.int (firstAt T ord ((k : Int) + 1) : Int))) _
      refine st_local 5 rfl rfl rfl ?_
      show wSs _ _ _ _ (st18 T ord (some ((k : Int) + 1)) (some (firstAt T ord ((k : Int) + 1) : Int)) ((firstsOf T ord).take k)) _ _
      refine wSs_cons (wS_expr (fun _ => rfl) ?_)
      refine wE_m1 F.plainAttrs_list F.slot_list_append F.type_list_append ?_ ?_ ?_ ?_
      · exact fun _ _ => rfl
      · exact fun _ => rfl
      · rfl
      refine wE_local 3 rfl rfl rfl rfl ⟨hasTy_list rfl, ?_⟩
      refine wE_sub (fun _ _ => ⟨_, rfl⟩) (wE_local 2 rfl rfl rfl rfl (wE_local 5 rfl rfl rfl rfl ?_))
      refine sub_list (l := (upto (-28) 57).map .d) (x := .d (.int (-28 + (firstAt T ord ((k : Int) + 1) : Int)))) rfl (by lia) (by lia) (by rw [Int.toNat_natCast, List.getElem?_map, upto_at hfk]; rfl) ?_
      refine bi_append (i := 3) rfl (by simp [hS]; lia) ?_
      refine wSs_nil ⟨_, ?_, by lia, some ((k : Int) + 1), some (firstAt T ord ((k : Int) + 1) : Int), rfl⟩
      have e3 : (firstsOf T ord).take (k + 1) = (firstsOf T ord).take k ++ [-28 + (firstAt T ord ((k : Int) + 1) : Int)] := by
        rw [List.take_add_one]
        congr 1
        unfold firstsOf
        rw [List.getElem?_map, List.getElem?_range hkl]; rfl
      rw [e3]
      refine Sub.of rfl ?_
      unfold st18
      rw [List.map_append]
      refine SubL.cons (ObjLeS.self ?_) (SubL.cons (ObjLeS.self trivial) (SubL.cons (ObjLeS.self trivial) (SubL.cons (ObjLeS.list fun a ha => ?_) (SubL.cons ObjLeS.raw SubL.nil))))
      · exact nsBelow (allC OptB.none <| allC OptB.none <| allC optB_d <| allC (OptB.obj (Nat.le_of_ble_eq_true rfl)) <| allC optB_d <| allC optB_d <| allC OptB.none <| allC OptB.none <| all1 OptB.none)
      · rcases List.mem_append.mp ha with ha | ha
        · obtain ⟨_, _, rfl⟩ := List.mem_map.mp ha; trivial
        · simp at ha; subst ha; trivial
  · rintro E' st1 ⟨_, z4, z5, rfl⟩
    rw [upto_len]
    refine wSs_nil ?_
    show wSs _ _ _ _ _ _ _
    refine wSs_cons (wS_ret (wE_local 3 rfl rfl rfl rfl (.inl ⟨(firstsOf T ord).map .int, ?_, hp⟩)))
    rw [← hfl, List.take_length]
    simp [st18]
theorem scokF : ScOk (scopeOf PySem.Challenge.pw_wb0027_02 18) := ⟨rfl, by decide +kernel, by decide +kernel⟩
theorem firsts_bind {C : Cx} {f : Value} {fd : FuncData} (B : PlainG C 18 f fd) (v u w : Value) : bindArgs fd ⟨[v, u, w], []⟩ = (pure [(("table" : Str), v), ("order", u), ("places", w)] : Sem (List (Str × Value))) := B.bind rfl
theorem firsts_ok {C : Cx} {f : Value} {fd : FuncData} (hl : NoLim C) (BF : PlainG C 18 f fd) {cf bf : Value} {bfd : FuncData} (hc : CountG C cf) (B : BisG C 2 bf bfd) (gb : GlobIs C "bisect_left" bf) (gr : GlobIs C "range" (.type "range")) (gl : GlobIs C "len" (.builtin "len"))
    (P : Addr) (L : LamOk C fd.code P) (htq : ∀ pos' : Pos, ((((129 : Nat) : Int) == pos'.line) = true) → ((((47 : Nat) : Int) == pos'.col) = true) → C.tq pos' = fd.qualname ++ ".<locals>." ++ "<lambda>") (T : List (List Int)) (ord : List Nat) (hF : FirstsOk T ord) :
    FnOk C (fun _ => none) C.P0 8 f [.d (tabD T), .d (ordD ord), .d placesD] [] [] fun r => r = PyData.list ((firstsOf T ord).map .int) := by
  have hsc := BF.scope
  refine fn_ok (bs := [(("table" : Str), .d (tabD T)), ("order", .d (ordD ord)), ("places", .d placesD)]) BF.at_ hl (by rw [hsc]; exact scokF) (by rw [hsc]; decide +kernel) (bind3 (firsts_bind BF)) ?_
  intro A G A' hA
  rw [hsc]
  simp only [wStores]
  refine st_cell 0 1 1 rfl rfl rfl ?_
  refine st_cell 1 0 2 rfl rfl rfl ?_
  refine st_local 2 rfl rfl rfl ?_
  intro E
  exact firsts_body (G := G.at E) _ _ hl hA hc B gb gr gl P L htq T ord hF _ rfl
end Mine
end
section
open PySem PySem.Calls PyProof.Rows PySem.W PySem.SeqAt PyProof.V
namespace Mine
section
variable {C : Cx} {A : Around} {G : Gd} {ae : AEnv} {st : List AObj}
theorem R.tupAt {κ : Kp} {ds : List D} {v : Value} {h : Heap} (r : R κ (.tuple ds) v) (hk : ∀ b o, κ b = some o → h.get? b = some o) : ∃ a items, v = .ref a ∧ h.IsTuple a items ∧ RL κ ds items.toList := by
  simp only [R] at r
  refine byC fun hC1 => ?_
  obtain ⟨a, o, vs, n, rfl, h2, h3, h4, h5, h6⟩ := r
  refine hC1 ?_
  exact ⟨a, vs, rfl, ⟨o, hk _ _ h2, h3, n, h5⟩, h6⟩
theorem extKeeps {h h' : Heap} (he : Heap.ExtBut h.objs.size h h') : ∀ b o, h.get? b = some o → h'.get? b = some o := fun b o e => he b o (Nat.ne_of_lt (Heap.lt_size e)) e
theorem wTgt_tup2 {x y : Str} {px py pos : Pos} {k : Nat} {a b : D} {Q : List AObj → Prop} (hh : A.handled = none) (h : wStore C A G ae st x (.d a) fun st1 => wStore C A G ae st1 y (.d b) Q) :
    wTgt C A G ae st (.Tuple [.Name x px, .Name y py] k pos) (.d (.tuple [a, b])) Q := fun κ σ s v e X r => by
  refine byC fun hC1 => ?_
  obtain ⟨t, items, rfl, ht, hr⟩ := R.tupAt r X.keep
  refine hC1 ?_
  have hl := hr.length
  refine wpAny_assign_Tuple hh ht (by rw [← Array.length_toList, hl]; rfl) rfl fun h' he => ?_
  have X' := X.keeps (s' := { s with heap := h' }) (extKeeps he) rfl rfl
  refine byC fun hC2 => ?_
  obtain ⟨v1, h1, r1⟩ := hr.get (i := 0) rfl
  obtain ⟨v2, h2, r2⟩ := hr.get (i := 1) rfl
  refine hC2 ?_
  have e1 : items.toList = [v1, v2] := by
    obtain ⟨u1, u2, q⟩ := len2 hl
    rw [q] at h1 h2 ⊢; cases h1; cases h2; rfl
  rw [e1]
  show wpAny _ _ (assignInOrder [assign (.Name x px) G.env, assign (.Name y py) G.env] [v1, v2]) _ _ _
  refine assignInOrder_cons (assign_Name (wpAny_mono (h κ σ _ v1 e X' r1) (fun _ s1 z => z.go fun κ1 σ1 _ st1 k1 p1 X1 _ q1 => ?_) fun _ _ z => z))
  refine assignInOrder_cons (assign_Name (wpAny_mono (q1 κ1 σ1 s1 v2 (e.mono p1) X1 (r2.mono k1)) (fun _ s2 z => z.go fun κ2 σ2 _ st2 k2 p2 X2 _ q2 => ?_) fun _ _ z => z))
  exact assignInOrder_nil ⟨κ2, σ2, (), st2, k1.trans k2, p1.trans p2, X2, trivial, q2⟩
theorem wS_tup2s {x y : Str} {px py tpos vpos pos : Pos} {e1 e2 : Expr} {k k' : Nat} {Q : AF → List AObj → Prop} (ix iy : Nat) (hh : A.handled = none) (hx : ae.scope.names[ix]? = some (x, .local)) (hy : ae.scope.names[iy]? = some (y, .local)) (hne : (x == y) = false) (hln : (py.line == px.line) = true)
    (hv : ([e1, e2].any fun | .Starred .. => true | _ => false) = false) (hf : [e1, e2].all (foldedForSure 8) = false) (hc : [e1, e2].all (constantsAlone 8) = false)
    (h : wE C A G ae st (.Tuple [e1, e2] k' vpos) fun a st1 => ∃ d1 d2, a = .d (.tuple [d1, d2]) ∧ wStore C A G ae st1 y (.d d2) fun st2 => wStore C A G ae st2 x (.d d1) fun st3 => Q .next st3) :
    wS C A G ae st (.Assign [.Tuple [.Name x px, .Name y py] k tpos] (.Tuple [e1, e2] k' vpos) pos) Q := fun κ σ s e X => by
  have hsw : swappedStores [.Tuple [.Name x px, .Name y py] k tpos] (.Tuple [e1, e2] k' vpos) G.env = pure (some [x, y]) := by
    have h1 : G.env.blockKind = .function := by unfold Env.blockKind; rw [e.kind]; rfl
    have hk1 := e.kindOf hx
    have hk2 := e.kindOf hy
    have a2 : (py.line == px.line) = true := hln
    have hdup : ([x, y] : List Str).eraseDups = [x, y] := by
      rw [List.eraseDups_cons]
      have : (y == x) = false := by
        cases q : y == x with
        | false => rfl
        | true => rw [eq_of_beq q, beq_self_eq_true] at hne; cases hne
      simp [List.filter_cons, this, List.eraseDups_cons]
    unfold swappedStores
    have b1 : ([Expr.Name x px, Expr.Name y py].head?.map (·.pos.line)).getD 0 = px.line := rfl
    simp only [h1, hv, hf, hc, b1, List.filterMap_cons, List.filterMap_nil, hk1, hk2, a2, beq_self_eq_true, Bool.and_self, if_true, hdup, List.length_cons, List.length_nil]
    exact (if_neg (by decide)).trans ((if_neg (fun q => Bool.false_ne_true (hv.symm.trans q))).trans rfl)
  refine Assign_Tuple_swapped (names := [x, y]) (wpAny_mono (h κ σ s e X) (fun v s1 z => z.go fun κ1 σ1 a st1 k1 p1 X1 r1 ⟨d1, d2, ha, q1⟩ => ?_) fun _ _ z => z) rfl hsw
  subst ha
  refine byC fun hC1 => ?_
  obtain ⟨t, items, rfl, ht, hr⟩ := R.tupAt r1 X1.keep
  have hl := hr.length
  obtain ⟨v1, h1, r1⟩ := hr.get (i := 0) rfl
  obtain ⟨v2, h2, r2⟩ := hr.get (i := 1) rfl
  refine hC1 ?_
  have e1 : items.toList = [v1, v2] := by
    obtain ⟨u1, u2, q⟩ := len2 hl
    rw [q] at h1 h2 ⊢; cases h1; cases h2; rfl
  rw [show ([x, y] : List Str).length = items.size by rw [← Array.length_toList, hl]; rfl]
  refine wpAny_unpackItems_tuple hh ht fun h' he => ?_
  rw [e1]
  have X' := X1.keeps (s' := { s1 with heap := h' }) (extKeeps he) rfl rfl
  show wpAny _ _ (assignInOrder [bindName G.env y, bindName G.env x] [v2, v1]) _ _ _
  refine assignInOrder_cons (bindName_ (wpAny_mono (q1 κ1 σ1 _ v2 (e.mono p1) X' r2) (fun _ s2 z => z.go fun κ2 σ2 _ st2 k2 p2 X2 _ q2 => ?_) fun _ _ z => z))
  refine assignInOrder_cons (bindName_ (wpAny_mono (q2 κ2 σ2 s2 v1 (e.mono (p1.trans p2)) X2 (r1.mono k2)) (fun _ s3 z => z.go fun κ3 σ3 _ st3 k3 p3 X3 _ q3 => ?_) fun _ _ z => z))
  exact assignInOrder_nil ⟨κ3, σ3, .next, st3, (k1.trans k2).trans k3, (p1.trans p2).trans p3, X3, rfl, q3⟩
theorem wS_assignCell {x : Str} {xp pos cpos : Pos} {elt : Expr} {gens : List Comprehension} {scope : Scope} {Q : AF → List AObj → Prop} (i : Nat) (hk : ae.scope.names[i]? = some (x, .cell))
    (h : wE C A G ae st (.ListComp elt gens scope cpos) fun a st1 => wStore C A G ae st1 x a fun st2 => Q .next st2) : wS C A G ae st (.Assign [.Name x xp] (.ListComp elt gens scope cpos) pos) Q := fun κ σ s e X => by
  have hsw : swapsWith (.ListComp elt gens scope cpos) (some (.Name x xp)) pos.line G.env = pure false := by
    show (pure (G.env.blockKind == .function && G.env.kindOf x == some .local && xp.line == (Expr.ListComp elt gens scope cpos).pos.line && !(scope.names.any fun p => p.1 == x && (p.2 == .local || p.2 == .cell))) : Sem Bool) = _
    rw [e.kindOf hk]
    have : ((some NameKind.cell : Option NameKind) == some NameKind.local) = false := rfl
    rw [this, Bool.and_false, Bool.false_and, Bool.false_and]
  exact wpAny_Assign_Name (wpAny_mono (h κ σ s e X) (fun v s1 z => z.go fun κ1 σ1 a st1 k1 p1 X1 r1 q1 =>
    wpAny_mono (q1 κ1 σ1 s1 v (e.mono p1) X1 r1) (fun _ s2 z => z.go fun κ2 σ2 _ st2 k2 p2 X2 _ q2 => ⟨κ2, σ2, .next, st2, k1.trans k2, p1.trans p2, X2, rfl, q2⟩) fun _ _ z => z) fun _ _ z => z) hsw
theorem bi_max2 {a b : Int} {Q : AV → List AObj → Prop} (hh : A.handled = none) (q : Q (.d (.int (if b > a then b else a))) st) : wBi C A G st (.builtin "max") [.d (.int a), .d (.int b)] Q := fun κ σ s vs X r => by
  obtain ⟨v, u, rfl, ⟨t, rfl⟩, ⟨t', rfl⟩⟩ := r.two
  refine max_two_ints hh fun h' tk hk => ?_
  have X' := X.keeps (s' := { s with heap := h', toks := tk }) hk rfl rfl
  by_cases c : b > a
  · rw [if_pos c] at q ⊢; exact PA.int X' q
  · rw [if_neg c] at q ⊢; exact PA.int X' q
theorem bi_min2 {a b : Int} {Q : AV → List AObj → Prop} (hh : A.handled = none) (q : Q (.d (.int (if b < a then b else a))) st) : wBi C A G st (.builtin "min") [.d (.int a), .d (.int b)] Q := fun κ σ s vs X r => by
  refine byC fun hC1 => ?_
  obtain ⟨v, u, rfl, ⟨t, rfl⟩, ⟨t', rfl⟩⟩ := r.two
  refine hC1 ?_
  refine min_two_ints hh fun h' tk hk => ?_
  have X' := X.keeps (s' := { s with heap := h', toks := tk }) hk rfl rfl
  by_cases c : b < a
  · rw [if_pos c] at q ⊢; exact PA.int X' q
  · rw [if_neg c] at q ⊢; exact PA.int X' q
end
end Mine
end
section
open PySem PySem.Calls PyProof.Rows PySem.W PySem.SeqAt PyProof.V
namespace Mine
theorem vLe_self {n : Nat} : ∀ {v : List (Option AV)}, (∀ (j : Nat) (a : AV), v[j]? = Option.some (Option.some a) → a.below n) → VarsLe n v v
  | [], _ => trivial
  | Option.none :: r, h => vLe_self (v := r) fun j a e => h (j + 1) a (by simpa using e)
  | Option.some a :: r, h => ⟨rfl, h 0 a rfl, vLe_self (v := r) fun j a e => h (j + 1) a (by simpa using e)⟩
theorem oLe_self {n : Nat} {x : AObj} (h : x.below n) : ObjLeS n x x := by
  cases x with
  | ns N V => exact ⟨rfl, vLe_self h⟩
  | cell a => exact ⟨rfl, h⟩
  | list l => exact ⟨rfl, h⟩
  | frz => exact ⟨rfl, trivial⟩
  | raw => exact ⟨rfl, trivial⟩
theorem sub_base {n : Nat} {r r' : List AObj} (h : SubL n r r') : ∀ {base : List AObj}, (∀ x ∈ base, x.below n) → SubL n (base ++ r) (base ++ r')
  | [], _ => h
  | x :: b, hb => ⟨oLe_self (hb x List.mem_cons_self), sub_base h fun y hy => hb y (List.mem_cons_of_mem _ hy)⟩
theorem av_mono {a : AV} {n m : Nat} (h : a.below n) (hm : n ≤ m) : a.below m := by
  cases a with
  | obj i => exact Nat.lt_of_lt_of_le h hm
  | _ => trivial
theorem ao_mono {x : AObj} {n m : Nat} (h : x.below n) (hm : n ≤ m) : x.below m := by
  cases x with
  | ns N V => exact fun j a e => av_mono (h j a e) hm
  | cell a => cases a with
    | none => trivial
    | some a => exact av_mono h hm
  | list l => exact fun a ha => av_mono (h a ha) hm
  | _ => trivial
theorem bset {base : List AObj} {a b y : AObj} {r : List AObj} : (base ++ a :: b :: r).set (base.length + 1) y = base ++ a :: y :: r := by
  rw [List.set_append_right _ _ (by lia), show base.length + 1 - base.length = 1 by lia]; rfl
theorem bget {base : List AObj} {a b : AObj} {r : List AObj} : (base ++ a :: b :: r)[base.length + 1]? = some b := by
  rw [List.getElem?_append_right (by lia), show base.length + 1 - base.length = 1 by lia]; rfl
noncomputable abbrev cst (st2 : List AObj) (scope : Scope) (acc : List D) (d : D) : List AObj := st2 ++ .list (acc.map .d) :: .ns (scope.names.map (·.1)) ((List.replicate scope.names.length none).set 1 (some (.d d))) :: []
theorem varsLe_none {n : Nat} : ∀ (k : Nat) (v : List (Option AV)), VarsLe n v (List.replicate k none)
  | 0, _ => VarsLe.nil
  | k + 1, [] => varsLe_none k []
  | k + 1, a :: v => VarsLe.none (varsLe_none k v)
theorem cst_sub {scope : Scope} {st2 r : List AObj} {acc : List D} {vars : List (Option AV)} (hnc : nCells scope.names = 0) (hcl : Closed st2) : Sub (st2.length + (2 + nCells scope.names)) (st2 ++ .list (acc.map .d) :: .ns (scope.names.map (·.1)) vars :: r) (st2 ++ lcTl scope acc []) := by
  rw [hnc]
  refine Sub.of (by simp [lcTl]) (sub_base (base := st2) (SubL.cons (ObjLeS.list below_ds) (SubL.cons (ObjLeS.ns (varsLe_none _ _)) SubL.nil)) fun y hy => ?_)
  obtain ⟨i, hi, e⟩ := List.getElem_of_mem hy
  exact ao_mono (hcl i y (by rw [List.getElem?_eq_getElem hi, e])) (Nat.le_add_right _ _)
theorem cst_skip {scope : Scope} {st2 st4 : List AObj} {acc : List D} {vars : List (Option AV)} {g : D → Option D} {d : D} (hnc : nCells scope.names = 0) (hcl : Closed st2) (q : g d = none ∧ ∃ r, st4 = st2 ++ .list (acc.map .d) :: .ns (scope.names.map (·.1)) vars :: [] ++ r) : LcSkip scope st2 acc g d st4 := by
  obtain ⟨hg, r, rfl⟩ := q
  refine ⟨hg, [], hnc.symm, ?_⟩
  rw [List.append_assoc]; exact cst_sub hnc hcl
theorem cst_elt {scope : Scope} {st2 st5 : List AObj} {acc : List D} {vars : List (Option AV)} {g : D → Option D} {d : D} {a : AV} (hnc : nCells scope.names = 0) (hcl : Closed st2) (q : ∃ y, a = .d y ∧ g d = some y ∧ ∃ r, st5 = st2 ++ .list (acc.map .d) :: .ns (scope.names.map (·.1)) vars :: [] ++ r) : LcElt scope st2 acc g d a st5 := by
  obtain ⟨y, ha, hg, r, rfl⟩ := q
  refine ⟨y, ha, hg, [], hnc.symm, ?_⟩
  rw [List.append_assoc]; exact cst_sub hnc hcl
section
variable {C : Cx} {A : Around} {G : Gd} {ae : AEnv} {st : List AObj}
theorem LcTurn.of {scope : Scope} {ca : List (Str × Nat)} {st2 : List AObj} {x : Str} {p : Pos} {elt : Expr} {ifs : List Expr} {its : List D} {g : D → Option D} (hnc : nCells scope.names = 0) (h1 : (relabelS scope ae.scope).names[1]? = some (x, .local)) (h1' : (scope.names.map (·.1))[1]? = some x) (hcl : Closed st2)
    (h : ∀ φ' E' env' d (acc : List D), d ∈ its → env'.frame = G.env.frame → wIfs C A ⟨φ', G.κ₀, env', E'⟩ (compAe ae scope st2.length ca) (cst st2 scope acc d) ifs fun ok st4 =>
      if ok then wE C A ⟨φ', G.κ₀, env', E'⟩ (compAe ae scope st2.length ca) st4 elt fun a st5 => ∃ y, a = .d y ∧ g d = some y ∧ ∃ r, st5 = cst st2 scope acc d ++ r
      else g d = none ∧ ∃ r, st4 = cst st2 scope acc d ++ r) : LcTurn C A G ae scope ca st2 (.Name x p) elt ifs its g := by
  intro φ' E' env' d acc cs hd hcs hef
  have hcs0 : cs = [] := List.eq_nil_of_length_eq_zero (by rw [hcs, hnc])
  subst hcs0
  refine wTgt_name (st_local 1 h1 bget h1' ?_)
  rw [show (st2 ++ lcTl scope acc []) = st2 ++ AObj.list (acc.map .d) :: .ns (scope.names.map (·.1)) (List.replicate scope.names.length none) :: [] from rfl, show (compAe ae scope st2.length ca).L = st2.length + 1 from rfl, bset]
  refine W.mono (h φ' E' env' d acc hd hef) fun ok st4 q => ?_
  cases ok with
  | false => exact cst_skip hnc hcl q
  | true => exact W.mono q fun a st5 q => cst_elt hnc hcl q
theorem wEI_rangeC {x : Str} {np pos cp : Pos} {n : Nat} {k : Nat} {tgt : Expr} (i : Nat) (gr : GlobIs C x (.type "range")) (hk : ae.scope.names[i]? = some (x, .globalImplicit)) (hh : A.handled = none) (hn : n ≤ 1000) :
    wEI C A G ae tgt st (.Call (.Name x np) [.Constant (.int (n : Int)) k cp] [] pos) fun its' st2 => its' = upto 0 n ∧ st2 = st ++ [.raw (RangeO 0 n)] := by
  refine wEI_of (wE_c1 (fun _ => rfl) (wE_glob i gr hk (wE_int (wCall_ty (bi_range1 ?_)))))
  exact itr_range (i := st.length) (a := 0) (b := (n : Int)) hh (by simp) (by lia) (by lia) ⟨by simp, rfl⟩
theorem wEI_range2C {x : Str} {np pos cp cp' : Pos} {a n : Nat} {k k' : Nat} {tgt : Expr} (i : Nat) (gr : GlobIs C x (.type "range")) (hk : ae.scope.names[i]? = some (x, .globalImplicit)) (hh : A.handled = none) (ha : a ≤ 1000) (hn : n ≤ 1000) :
    wEI C A G ae tgt st (.Call (.Name x np) [.Constant (.int (a : Int)) k cp, .Constant (.int (n : Int)) k' cp'] [] pos) fun its' st2 => its' = upto a (n - a) ∧ st2 = st ++ [.raw (RangeO a n)] := by
  refine wEI_of (wE_c2 (fun _ => rfl) (fun _ => rfl) (wE_glob i gr hk (wE_int (wE_int (wCall_ty (bi_range2 ?_))))))
  exact itr_range (i := st.length) (a := (a : Int)) (b := (n : Int)) hh (by simp) (by lia) (by lia) ⟨by congr 1; lia, rfl⟩
theorem wEI_list {tgt x : Expr} {ds : List D} (hh : A.handled = none) (h : wE C A G ae st x fun a st1 => (a = .d (.list ds)) ∧ st1 = st) : wEI C A G ae tgt st x fun its' st2 => its' = ds ∧ st2 = st :=
  wEI_of (W.mono h fun a st1 ⟨ha, hs⟩ => by subst ha; subst hs; exact itr_list (.inl rfl) hh ⟨rfl, rfl⟩)
end
theorem varGet {o : Option D} {x : D} (h : o = some x) : some (o.map AV.d) = some (some (AV.d x)) := by rw [h]; rfl
theorem cellGet {o : Option D} {x : D} (h : o = some x) : some (AObj.cell (o.map AV.d)) = some (AObj.cell (some (AV.d x))) := by rw [h]; rfl
end Mine
end
section
open PySem PySem.Calls PyProof.Rows PySem.W PySem.SeqAt PyProof.V
namespace Mine
noncomputable def ShD (n : Nat) (d : D) : Prop := d.canLay0 = true ∧ d.depth ≤ n
theorem shInt {i : Int} {n : Nat} : ShD n (.int i) := ⟨rfl, Nat.zero_le _⟩
theorem shStr {x : Str} {n : Nat} (h : (PyData.str x).canLay0 = true) : ShD n (.str x) := ⟨h, Nat.zero_le _⟩
theorem shAll {n : Nat} : ∀ {l : List D}, (∀ x ∈ l, ShD n x) → PyData.canLayAll0 l = true ∧ PyData.depthAll l ≤ n
  | [], _ => ⟨rfl, Nat.zero_le _⟩
  | x :: r, h => by
    obtain ⟨a, b⟩ := shAll (l := r) fun y hy => h y (List.mem_cons_of_mem _ hy)
    obtain ⟨c, d⟩ := h x List.mem_cons_self
    refine ⟨?_, ?_⟩
    · show (x.canLay0 && PyData.canLayAll0 r) = true
      rw [a, c]; rfl
    · show max x.depth (PyData.depthAll r) ≤ n
      lia
theorem shList {n : Nat} {l : List D} (h : ∀ x ∈ l, ShD n x) : ShD (n + 1) (.list l) := ⟨(shAll h).1, Nat.succ_le_succ (shAll h).2⟩
theorem shTuple {n : Nat} {l : List D} (h : ∀ x ∈ l, ShD n x) : ShD (n + 1) (.tuple l) := ⟨(shAll h).1, Nat.succ_le_succ (shAll h).2⟩
theorem ShD.shaped {n : Nat} {d : D} (h : ShD n d) (hn : n ≤ 64) : SeqAt.shaped d = true := by
  unfold SeqAt.shaped
  rw [h.1, decide_eq_true (Nat.le_trans h.2 hn)]; rfl
theorem ShD.self {n : Nat} {d : D} (h : ShD n d) : PyData.eqv d d = true := eqv_refl d h.1
section
variable {C : Cx} {A : Around} {G : Gd} {ae : AEnv} {st : List AObj} {Q : AV → List AObj → Prop}
theorem ne_same {n m : Nat} (hA : AOk A m) {x : D} (h : ShD n x) (hn : n ≤ 64) (q : Q (.d (.bool false)) st) : wCmp C A G st .NotEq (.d x) (.d x) Q :=
  ne_dd hA.room (h.shaped hn) (h.shaped hn) (by rw [h.self]; exact q)
end
noncomputable def mapG (f : Int → D) : D → Option D
  | .int t => some (f t)
  | _ => none
theorem mapG_ints (f : Int → D) (l : List Int) : (l.map PyData.int).filterMap (mapG f) = l.map f := by
  rw [List.filterMap_map]
  exact congrFun (List.filterMap_eq_map' ..) l
theorem mapG_upto (f : Int → D) (a : Int) (n : Nat) : (upto a n).filterMap (mapG f) = (List.range n).map fun (i : Nat) => f (a + (i : Int)) := by
  unfold upto
  rw [List.filterMap_map]
  exact congrFun (List.filterMap_eq_map' ..) (List.range n)
end Mine
end
section
open PySem PySem.Calls PyProof.Rows PySem.W PySem.SeqAt PyProof.V
set_option maxRecDepth 100000
namespace Mine
set_option genInjectivity false in
set_option genSizeOf false in
structure LV where
  place : Option D := none
  told : Option D := none
  values : Option D := none
  places : Option D := none
  orders : Option D := none
  firsts : Option D := none
  count : Option D := none
  fewer : Option D := none
  ahead : Option D := none
  through : Option D := none
  odd : Option D := none
  heads : Option D := none
  script : Option D := none
  bases : Option D := none
  drawn : Option D := none
  due : Option D := none
  left : Option D := none
  first : Option D := none
  lines : Option D := none
  order : Option D := none
  table : Option D := none
  found : Option Nat := none
  changes : Option Nat := none
  words : Option Nat := none
noncomputable abbrev dv (o : Option D) : Option AV := o.map AV.d
noncomputable abbrev ov (o : Option Nat) : Option AV := o.map AV.obj
noncomputable abbrev varsL (v : LV) : List (Option AV) := [none, none, none, none, dv v.place, dv v.told, dv v.values, dv v.places, dv v.orders, dv v.firsts, dv v.count, none, dv v.fewer, none, dv v.ahead, dv v.through, ov v.found, none, ov v.changes, dv v.odd, dv v.heads, none, none, none, none, none, none, none, none, none, none, none, none, none, none, none]
noncomputable abbrev lst (v : LV) (ext : List AObj) : List AObj := nsOf 19 (varsL v) :: .cell (dv v.script) :: .cell (dv v.bases) :: .cell (dv v.drawn) :: .cell (dv v.due) :: .cell (dv v.left) :: .cell (dv v.first) :: .cell (ov v.words) :: .cell (dv v.lines) :: .cell (dv v.order) :: .cell (dv v.table) :: ext
noncomputable abbrev lae (cd : Value) (ql : Str) : AEnv := ⟨scopeOf PySem.Challenge.pw_wb0027_02 19, 0, [("table", 10), ("order", 9), ("lines", 8), ("words", 7), ("first", 6), ("left", 5), ("due", 4), ("drawn", 3), ("bases", 2), ("script", 1)], cd, ql⟩
noncomputable def stm (k : Nat) : Stmt := ((bodyOf PySem.Challenge.pw_wb0027_02 19)[k]?).getD (.Pass ⟨0, 0, 0, 0⟩)
structure LVok (v : LV) (ext : List AObj) : Prop where
  found : ∀ i, v.found = some i → i < 11 + ext.length
  changes : ∀ i, v.changes = some i → i < 11 + ext.length
  words : ∀ i, v.words = some i → i < 11 + ext.length
  ext : ∀ x ∈ ext, x.below (11 + ext.length)
theorem dv_below {o : Option D} {a : AV} {n : Nat} (e : dv o = some a) : a.below n := by
  cases o with
  | none => cases e
  | some d => cases e; trivial
theorem lst_len (v : LV) (ext : List AObj) : (lst v ext).length = 11 + ext.length := by simp [lst]; lia
theorem dvB {o : Option D} {n : Nat} : OptB n (dv o) := fun _ e => dv_below e
theorem ovB {o : Option Nat} {n : Nat} (h : ∀ i, o = some i → i < n) : OptB n (ov o) := fun a e => by
  cases o with
  | none => cases e
  | some i => cases e; exact h i rfl
theorem cB {o : Option Nat} {n : Nat} (h : ∀ i, o = some i → i < n) : (AObj.cell (ov o)).below n := by
  cases o with
  | none => trivial
  | some i => exact h i rfl
theorem cellB {o : Option D} {n : Nat} : (AObj.cell (dv o)).below n := by cases o <;> trivial
theorem lst_closed {v : LV} {ext : List AObj} (h : LVok v ext) : Closed (lst v ext) :=
  closedOf (lst_len v ext) <| allC (nsBelow <| allC OptB.none <| allC OptB.none <| allC OptB.none <| allC OptB.none <| allC dvB <| allC dvB <| allC dvB <| allC dvB <| allC dvB <| allC dvB <| allC dvB <| allC OptB.none <| allC dvB <| allC OptB.none <| allC dvB <| allC dvB <| allC (ovB h.found) <| allC OptB.none <| allC (ovB h.changes) <| allC dvB <| allC dvB <| allC OptB.none <| allC OptB.none <| allC OptB.none <| allC OptB.none <| allC OptB.none <| allC OptB.none <| allC OptB.none <| allC OptB.none <| allC OptB.none <| allC OptB.none <| allC OptB.none <| allC OptB.none <| allC OptB.none <| allC OptB.none <| all1 OptB.none) <| allC cellB <| allC cellB <| allC cellB <| allC cellB <| allC cellB <| allC cellB <| allC (cB h.words) <| allC cellB <| allC cellB <| allC cellB <| h.ext
theorem LVok.more {v : LV} {ext : List AObj} (h : LVok v ext) {x : AObj} (hx : x.below (11 + ext.length)) : LVok v (ext ++ [x]) := by
  refine ⟨fun i e => ?_, fun i e => ?_, fun i e => ?_, fun y hy => ?_⟩
  · have := h.found i e; simp; lia
  · have := h.changes i e; simp; lia
  · have := h.words i e; simp; lia
  · rw [List.length_append]
    rcases List.mem_append.mp hy with hy | hy
    · exact ao_mono (h.ext y hy) (by lia)
    · simp at hy; subst hy; exact ao_mono hx (by lia)
noncomputable def bases0 : List Int := [2, -3, 1, 4, 7, -5, 13]
noncomputable def drawnAt (S : List Int) (t : Int) : Int := bases0.getD t.toNat 0 + (pickL S (some t) (some 60) (some 7)).sum
noncomputable def drawnOf (S : List Int) : List Int := (List.range 7).map fun (t : Nat) => drawnAt S (t : Int)
noncomputable def dueAt (n : Int) : Int := (n + 10 ^ 15).fmod (2 * 10 ^ 15) - 10 ^ 15
noncomputable def dueOf (S : List Int) : List Int := ((drawnOf S).take 6).map dueAt
noncomputable def toldOf1 (p : Int) : D := .tuple [.str "peer", .int p]
noncomputable def valAt (p : Int) : Int := (p + 9).fmod 19 - 9
noncomputable def valuesOf (S : List Int) : List Int := (dueOf S).map valAt
noncomputable def vAt (S : List Int) (i : Nat) : Int := (valuesOf S).getD i 0
noncomputable def tableOf (S : List Int) : List (List Int) := [[vAt S 0, vAt S 1, vAt S 2], [vAt S 1, vAt S 3, vAt S 4], [vAt S 2, vAt S 4, vAt S 5]]
noncomputable def ordersOf : List (List Nat) := [[0, 2, 1], [1, 0, 2], [1, 2, 0], [2, 0, 1], [2, 1, 0]]
noncomputable def intD (l : List Int) : D := .list (l.map .int)
theorem drawn_len (S : List Int) : (drawnOf S).length = 7 := by simp [drawnOf]
theorem due_len (S : List Int) : (dueOf S).length = 6 := by simp [dueOf, drawn_len]
theorem values_len (S : List Int) : (valuesOf S).length = 6 := by simp [valuesOf, due_len]
theorem getD_at {l : List Int} {i : Nat} (h : i < l.length) : l[i]? = some (l.getD i 0) := by
  rw [List.getD_eq_getElem?_getD, List.getElem?_eq_getElem h]; rfl
theorem intsAt_ {l : List Int} {i : Nat} (h : i < l.length) : ((l.map PyData.int).map AV.d)[i]? = some (.d (.int (l.getD i 0))) := by
  rw [List.getElem?_map, List.getElem?_map, getD_at h]; rfl
section
variable {C : Cx} {A : Around} {G : Gd} {cd : Value} {ql : Str} {v : LV} {ext : List AObj} {S : List Int} {Q : AF → List AObj → Prop}
theorem s0 (q : Q .next (lst { v with bases := some (intD bases0) } ext)) : wS C A G (lae cd ql) (lst v ext) (stm 0) Q := by
  refine wS_assign (fun _ => rfl) (wE_listD ?_)
  refine wArgs_cons (fun _ => rfl) (wE_int ?_)
  refine wArgs_cons (fun _ => rfl) (wE_un (wE_int (neg_i ?_)))
  refine wArgs_cons (fun _ => rfl) (wE_int ?_)
  refine wArgs_cons (fun _ => rfl) (wE_int ?_)
  refine wArgs_cons (fun _ => rfl) (wE_int ?_)
  refine wArgs_cons (fun _ => rfl) (wE_un (wE_int (neg_i ?_)))
  refine wArgs_cons (fun _ => rfl) (wE_int ?_)
  refine wArgs_nil ⟨bases0.map .int, rfl, by rw [sizeLine_eq]; exact Nat.le_of_ble_eq_true rfl, ?_⟩
  exact st_cell 1 8 2 rfl rfl rfl q
set_option maxHeartbeats 4000000 in
theorem s1 {n : Nat} (hA : AOk A n) (gr : GlobIs C "range" (.type "range")) (gs : GlobIs C "sum" (.builtin "sum")) (hv : LVok v ext) (hb : v.bases = some (intD bases0)) (hs : v.script = some (intD S)) (hS : S.length ≤ 1000)
    (q : Q .next (lst { v with drawn := some (intD (drawnOf S)) } (ext ++ [.raw (RangeO 0 7)]))) : wS C A G (lae cd ql) (lst v ext) (stm 1) Q := by
  have hsz := sizeLine_eq
  refine wS_assignCell 2 rfl ?_
  refine wE_lcD (its := upto 0 7) (st2 := lst v (ext ++ [.raw (RangeO 0 7)])) [("script", 1), ("bases", 2)] (mapG fun t => .int (drawnAt S t)) rfl ⟨rfl, by decide +kernel, by decide +kernel⟩ rfl (by show (([("script", 1), ("bases", 2)] : List (Str × Nat)).map (·.1)).Nodup; decide +kernel) (fun _ _ => rfl)
    (wEI_rangeC 24 gr rfl hA.handled (by decide)) (by rw [upto_len, hsz]; decide) (lst_closed (hv.more below_raw)) (LcTurn.of rfl rfl rfl (lst_closed (hv.more below_raw)) ?_) ?_
  · intro φ' E' env' d acc hd hef
    obtain ⟨t, ht, rfl⟩ := List.mem_map.mp hd
    have ht7 : t < 7 := by simpa using ht
    rw [show ((0 : Int) + (t : Int)) = (t : Int) by lia]
    refine wIfs_nil ?_
    simp only [if_true]
    refine wE_bin (wE_sub (fun _ _ => ⟨_, rfl⟩) (wE_cell 3 1 2 rfl rfl (cellGet hb) (wE_local 1 rfl bget rfl rfl ?_)))
    refine sub_list (l := (bases0.map PyData.int).map .d) (x := .d (.int (bases0.getD t 0))) rfl (by lia) (by lia) (by rw [Int.toNat_natCast]; exact intsAt_ (by show t < 7; lia)) ?_
    refine wE_c1 (fun _ => rfl) (wE_glob 2 gs rfl ?_)
    refine wE_cut (wE_cell 4 0 1 rfl rfl (cellGet hs) (wP_some (wE_local 1 rfl bget rfl rfl ⟨(t : Int), rfl, wP_some (wE_int ⟨60, rfl, wP_some (wE_int ⟨7, rfl, ?_⟩)⟩)⟩)))
    refine cut_list (l := S.map .int) rfl (fun h => nomatch h) (by rw [List.length_map, hsz]; lia) ?_
    rw [pickL_map]
    refine wCall_bi (bi_sum (ns := pickL S (some (t : Int)) (some 60) (some 7)) rfl hA.in1n (add_ii ?_))
    exact ⟨_, rfl, by simp [mapG, drawnAt], [], by simp⟩
  · rw [mapG_upto]
    have e : ((List.range 7).map fun (i : Nat) => PyData.int (drawnAt S (0 + (i : Int)))) = (drawnOf S).map .int := by
      unfold drawnOf; rw [List.map_map]; congr 1; funext i; simp
    rw [e]
    exact st_cell 2 7 3 rfl rfl rfl q
set_option maxHeartbeats 4000000 in
theorem s2 {n : Nat} (hA : AOk A n) (hv : LVok v ext) (hd : v.drawn = some (intD (drawnOf S)))
    (q : Q .next (lst { v with due := some (intD (dueOf S)) } ext)) : wS C A G (lae cd ql) (lst v ext) (stm 2) Q := by
  have hsz := sizeLine_eq
  have hl := drawn_len S
  refine wS_assignCell 3 rfl ?_
  refine wE_lcD (its := ((drawnOf S).take 6).map .int) (st2 := lst v ext) [] (mapG fun t => .int (dueAt t)) rfl ⟨rfl, by decide +kernel, by decide +kernel⟩ rfl (by show (([] : List (Str × Nat)).map (·.1)).Nodup; decide +kernel) (fun _ _ => rfl)
    (wEI_list hA.handled ?_) (by rw [hsz]; simp; lia) (lst_closed hv) (LcTurn.of rfl rfl rfl (lst_closed hv) ?_) ?_
  · refine wE_cut (wE_cell 2 7 3 rfl rfl (cellGet hd) (wP_none (wP_some (wE_int ⟨6, rfl, wP_none ?_⟩))))
    refine cut_list (l := (drawnOf S).map .int) rfl (fun h => nomatch h) (by rw [List.length_map, hsz]; lia) ⟨?_, rfl⟩
    rw [show (some 6 : Option Int) = some ((6 : Nat) : Int) from rfl, pickL_upto, ← List.map_take]
  · intro φ' E' env' d acc hd hef
    obtain ⟨t, ht, rfl⟩ := List.mem_map.mp hd
    refine wIfs_nil ?_
    simp only [if_true]
    have h10 : (Builtin.Int.intBits 10 : Int) * 15 ≤ 2 ^ 27 := by decide
    refine wE_bin (wE_bin (wE_bin (wE_local 1 rfl bget rfl rfl (wE_bin (wE_int (wE_int (pow_ii (by decide) h10 (add_ii ?_))))))))
    refine wE_bin (wE_int (wE_bin (wE_int (wE_int (pow_ii (by decide) h10 (mul_ii (mulSmall (by decide)) (mod_ii (by decide) ?_)))))))
    refine wE_bin (wE_int (wE_int (pow_ii (by decide) h10 (sub_ii ?_))))
    exact ⟨_, rfl, rfl, [], by simp⟩
  · rw [mapG_ints]
    have e : ((drawnOf S).take 6).map (fun t => PyData.int (dueAt t)) = (dueOf S).map .int := by unfold dueOf; rw [List.map_map]; rfl
    rw [e]
    exact st_cell 3 6 4 rfl rfl rfl q
end
end Mine
end
section
open PySem PySem.Calls PyProof.Rows PySem.W PySem.SeqAt PyProof.V
set_option maxRecDepth 100000
namespace Mine
structure ReplyG (C : Cx) (f : Value) : Prop where
  glob : GlobIs C "_law_reply" f
  ok : ∀ p n : Int, p.natAbs ≤ 2 ^ 60 → (numS p).length ≤ 1000 → (numS (absI p)).length ≤ 1000 → FnOk C (fun _ => none) C.P0 1 f [.d (.int p), .d (.int n)] [] [] fun r => r = PyData.str (replyOf p n)
structure FirstsG (C : Cx) (f : Value) : Prop where
  glob : GlobIs C "_law_firsts" f
  ok : ∀ T ord, FirstsOk T ord → FnOk C (fun _ => none) C.P0 8 f [.d (tabD T), .d (ordD ord), .d placesD] [] [] fun r => r = PyData.list ((firstsOf T ord).map .int)
structure DueOk (S : List Int) : Prop where
  small : ∀ i, i < 6 → ((dueOf S).getD i 0).natAbs ≤ 2 ^ 60 ∧ (numS ((dueOf S).getD i 0)).length ≤ 1000 ∧ (numS (absI ((dueOf S).getD i 0))).length ≤ 1000
  parse : ∀ i : Nat, i < 6 → ParseOk (replyOf ((dueOf S).getD i 0) (i : Int)) ((dueOf S).getD i 0)
noncomputable def toldL (S : List Int) : D := .list ((dueOf S).map toldOf1)
theorem told_sh (S : List Int) : ShD 2 (toldL S) := shList fun x hx => by
  obtain ⟨p, _, rfl⟩ := List.mem_map.mp hx
  refine shTuple fun y hy => ?_
  simp only [List.mem_cons, List.not_mem_nil, or_false] at hy
  rcases hy with rfl | rfl
  · exact shStr (by decide +kernel)
  · exact shInt
theorem due_range (S : List Int) (f : Int → D) : ((List.range 6).map fun (i : Nat) => f ((dueOf S).getD i 0)) = (dueOf S).map f := by
  rw [map_getD (dueOf S) f 0, due_len]
section
variable {C : Cx} {A : Around} {G : Gd} {cd : Value} {ql : Str} {v : LV} {ext : List AObj} {S : List Int} {Q : AF → List AObj → Prop}
set_option maxHeartbeats 4000000 in
theorem s3 {n : Nat} (hA : AOk A (n + 1)) {rf pf : Value} (gr : GlobIs C "range" (.type "range")) (R : ReplyG C rf) (P : ParseG C pf) (hv : LVok v ext) (hd : v.due = some (intD (dueOf S))) (H : DueOk S)
    (q : Q .next (lst { v with told := some (toldL S) } (ext ++ [.raw (RangeO 0 6)]))) : wS C A G (lae cd ql) (lst v ext) (stm 3) Q := by
  have hsz := sizeLine_eq
  have hl := due_len S
  refine wS_lcD (its := upto 0 6) (st2 := lst v (ext ++ [.raw (RangeO 0 6)])) 5 [("due", 4)] (mapG fun t => toldOf1 ((dueOf S).getD t.toNat 0)) rfl rfl rfl rfl ⟨rfl, by decide +kernel, by decide +kernel⟩ rfl (by show (([("due", 4)] : List (Str × Nat)).map (·.1)).Nodup; decide +kernel) (fun _ _ => rfl)
    (wEI_rangeC 24 gr rfl hA.handled (by decide)) (by rw [upto_len, hsz]; decide) (lst_closed (hv.more below_raw)) (LcTurn.of rfl rfl rfl (lst_closed (hv.more below_raw)) ?_) ?_
  · intro φ' E' env' d acc hdd hef
    refine byC fun hC1 => ?_
    obtain ⟨t, ht, rfl⟩ := List.mem_map.mp hdd
    refine hC1 ?_
    have ht6 : t < 6 := by simpa using ht
    rw [show ((0 : Int) + (t : Int)) = (t : Int) by lia]
    refine wIfs_nil ?_
    simp only [if_true]
    refine wE_c2 (fun _ => rfl) (fun _ => rfl) (wE_glob 2 P.glob rfl ?_)
    refine wE_c2 (fun _ => rfl) (fun _ => rfl) (wE_glob 3 R.glob rfl (wE_sub (fun _ _ => ⟨_, rfl⟩) (wE_cell 4 0 4 rfl rfl (cellGet hd) (wE_local 1 rfl bget rfl rfl ?_))))
    refine sub_list (l := ((dueOf S).map PyData.int).map .d) (x := .d (.int ((dueOf S).getD t 0))) rfl (by lia) (by lia) (by rw [Int.toNat_natCast]; exact intsAt_ (by lia)) ?_
    refine wE_local 1 rfl bget rfl rfl ?_
    refine byC fun hC2 => ?_
    obtain ⟨k1, k2, k3⟩ := H.small t ht6
    refine hC2 ?_
    refine wCall_fn (R.ok _ (t : Int) k1 k2 k3) (hA.mono (by lia)) (all2 trivial trivial) (fun a ha => nomatch ha) ?_
    rintro d rfl
    refine wE_tupD ?_
    refine wArgs_cons (fun _ => rfl) (wE_str (wArgs_cons (fun _ => rfl) (wE_int (wArgs_nil ⟨[.str "peer", .int 21], rfl, by rw [sizeLine_eq]; exact Nat.le_of_ble_eq_true rfl, ?_⟩))))
    refine wCall_fn (P.ok _ _ (H.parse t ht6) (.str "peer") (.int 21)) (hA.mono (by lia)) (all2 trivial trivial) (fun a ha => nomatch ha) ?_
    rintro d rfl
    exact ⟨_, rfl, by simp [mapG, toldOf1], [], by simp⟩
  · intro φ'
    rw [mapG_upto]
    have e : ((List.range 6).map fun (i : Nat) => toldOf1 ((dueOf S).getD ((0 : Int) + (i : Int)).toNat 0)) = (dueOf S).map toldOf1 := by
      rw [← due_range]; congr 1; funext i; simp
    rw [e]
    exact st_local 5 rfl rfl rfl q
set_option maxHeartbeats 4000000 in
theorem s4 {n : Nat} (hA : AOk A n) (hv : LVok v ext) (hd : v.due = some (intD (dueOf S))) (ht : v.told = some (toldL S))
    (q : Q .next (lst v ext)) : wS C A G (lae cd ql) (lst v ext) (stm 4) Q := by
  have hsz := sizeLine_eq
  have hl := due_len S
  refine wS_if (wB_cmp rfl (wE_local 5 rfl rfl rfl (varGet ht) ?_))
  refine wE_lcD (its := (dueOf S).map .int) (st2 := lst v ext) [] (mapG fun t => toldOf1 t) rfl ⟨rfl, by decide +kernel, by decide +kernel⟩ rfl (by show (([] : List (Str × Nat)).map (·.1)).Nodup; decide +kernel) (fun _ _ => rfl)
    (wEI_list hA.handled (wE_cell 3 6 4 rfl rfl (cellGet hd) ⟨rfl, rfl⟩)) (by rw [hsz, List.length_map]; lia) (lst_closed hv) (LcTurn.of rfl rfl rfl (lst_closed hv) ?_) ?_
  · intro φ' E' env' d acc hdd hef
    refine byC fun hC1 => ?_
    obtain ⟨t, _, rfl⟩ := List.mem_map.mp hdd
    refine hC1 ?_
    refine wIfs_nil ?_
    simp only [if_true]
    refine wE_tupD ?_
    refine wArgs_cons (fun _ => rfl) (wE_str (wArgs_cons (fun _ => rfl) (wE_local 1 rfl bget rfl rfl (wArgs_nil ⟨[.str "peer", .int t], rfl, by rw [sizeLine_eq]; exact Nat.le_of_ble_eq_true rfl, ?_⟩))))
    exact ⟨_, rfl, rfl, [], by simp⟩
  · rw [mapG_ints]
    exact ne_same hA (told_sh S) (by decide) (tr_b (wSs_nil q))
noncomputable abbrev cst2 (st2 : List AObj) (scope : Scope) (acc : List D) (d1 d2 : D) : List AObj := st2 ++ .list (acc.map .d) :: .ns (scope.names.map (·.1)) (((List.replicate scope.names.length none).set 1 (some (.d d1))).set 2 (some (.d d2))) :: []
theorem LcTurn.of2 {ae : AEnv} {scope : Scope} {ca : List (Str × Nat)} {st2 : List AObj} {x y : Str} {px py p : Pos} {k : Nat} {elt : Expr} {ifs : List Expr} {its : List D} {g : D → Option D} (hh : A.handled = none) (hnc : nCells scope.names = 0) (h1 : (relabelS scope ae.scope).names[1]? = some (x, .local)) (h1' : (scope.names.map (·.1))[1]? = some x)
    (h2 : (relabelS scope ae.scope).names[2]? = some (y, .local)) (h2' : (scope.names.map (·.1))[2]? = some y) (hcl : Closed st2) (hp : ∀ d ∈ its, ∃ d1 d2, d = .tuple [d1, d2])
    (h : ∀ φ' E' env' d1 d2 (acc : List D), (.tuple [d1, d2]) ∈ its → env'.frame = G.env.frame → wIfs C A ⟨φ', G.κ₀, env', E'⟩ (compAe ae scope st2.length ca) (cst2 st2 scope acc d1 d2) ifs fun ok st4 =>
      if ok then wE C A ⟨φ', G.κ₀, env', E'⟩ (compAe ae scope st2.length ca) st4 elt fun a st5 => ∃ y, a = .d y ∧ g (.tuple [d1, d2]) = some y ∧ ∃ r, st5 = cst2 st2 scope acc d1 d2 ++ r
      else g (.tuple [d1, d2]) = none ∧ ∃ r, st4 = cst2 st2 scope acc d1 d2 ++ r) : LcTurn C A G ae scope ca st2 (.Tuple [.Name x px, .Name y py] k p) elt ifs its g := by
  intro φ' E' env' d acc cs hd hcs hef
  obtain ⟨d1, d2, rfl⟩ := hp d hd
  have hcs0 : cs = [] := List.eq_nil_of_length_eq_zero (by rw [hcs, hnc])
  subst hcs0
  refine wTgt_tup2 hh (st_local 1 h1 bget h1' ?_)
  rw [show (st2 ++ lcTl scope acc []) = st2 ++ AObj.list (acc.map .d) :: .ns (scope.names.map (·.1)) (List.replicate scope.names.length none) :: [] from rfl, show (compAe ae scope st2.length ca).L = st2.length + 1 from rfl, bset]
  refine st_local 2 h2 bget h2' ?_
  rw [show (compAe ae scope st2.length ca).L = st2.length + 1 from rfl, bset]
  refine W.mono (h φ' E' env' d1 d2 acc hd hef) fun ok st4 q => ?_
  cases ok with
  | false => exact cst_skip hnc hcl q
  | true => exact W.mono q fun a st5 q => cst_elt hnc hcl q
noncomputable def valG : D → Option D
  | .tuple [_, .int p] => some (.int (valAt p))
  | _ => none
set_option maxHeartbeats 4000000 in
theorem s5 {n : Nat} (hA : AOk A n) (hv : LVok v ext) (ht : v.told = some (toldL S))
    (q : Q .next (lst { v with values := some (intD (valuesOf S)) } ext)) : wS C A G (lae cd ql) (lst v ext) (stm 5) Q := by
  have hsz := sizeLine_eq
  have hl := due_len S
  refine wS_lcD (its := (dueOf S).map toldOf1) (st2 := lst v ext) 6 [] valG rfl rfl rfl rfl ⟨rfl, by decide +kernel, by decide +kernel⟩ rfl (by show (([] : List (Str × Nat)).map (·.1)).Nodup; decide +kernel) (fun _ _ => rfl)
    (wEI_list hA.handled (wE_local 5 rfl rfl rfl (varGet ht) ⟨rfl, rfl⟩)) (by rw [hsz, List.length_map]; lia) (lst_closed hv) (LcTurn.of2 hA.handled rfl rfl rfl rfl rfl (lst_closed hv) (fun d hd => ?_) ?_) ?_
  · obtain ⟨p, _, rfl⟩ := List.mem_map.mp hd
    exact ⟨_, _, rfl⟩
  · intro φ' E' env' d1 d2 acc hdd hef
    obtain ⟨p, _, hp⟩ := List.mem_map.mp hdd
    unfold toldOf1 at hp
    injection hp with hp
    injection hp with e1 hp
    injection hp with e2 _
    subst e1; subst e2
    refine wIfs_nil ?_
    simp only [if_true]
    refine wE_bin (wE_bin (wE_bin (wE_local 2 rfl bget rfl rfl (wE_int (add_ii (wE_int (mod_ii (by decide) (wE_int (sub_ii ?_)))))))))
    exact ⟨_, rfl, rfl, [], by simp⟩
  · intro φ'
    have e : ((dueOf S).map toldOf1).filterMap valG = (valuesOf S).map .int := by
      unfold valuesOf
      rw [List.filterMap_map, List.map_map]
      exact congrFun (List.filterMap_eq_map' (f := fun p => PyData.int (valAt p))) (dueOf S)
    rw [e]
    exact st_local 6 rfl rfl rfl q
theorem values_six (S : List Int) : valuesOf S = [vAt S 0, vAt S 1, vAt S 2, vAt S 3, vAt S 4, vAt S 5] := by
  have hl := values_len S
  apply List.ext_getElem?
  intro i
  by_cases h : i < 6
  · rw [getD_at (by lia)]
    match i, h with
    | 0, _ | 1, _ | 2, _ | 3, _ | 4, _ | 5, _ => rfl
  · rw [List.getElem?_eq_none (by lia), List.getElem?_eq_none (by simp; lia)]
set_option maxHeartbeats 4000000 in
theorem s6 (ht : v.values = some (intD (valuesOf S)))
    (q : Q .next (lst { v with table := some (tabD (tableOf S)) } ext)) : wS C A G (lae cd ql) (lst v ext) (stm 6) Q := by
  have hsz := sizeLine_eq
  have hl := values_len S
  have hat : ∀ i, i < 6 → ((((valuesOf S).map PyData.int).map AV.d)[i]?) = some (.d (.int (vAt S i))) := fun i hi => intsAt_ (by lia)
  refine wS_assign (fun _ => rfl) (wE_listD ?_)
  refine wArgs_cons (fun _ => rfl) (wE_cut (wE_local 6 rfl rfl rfl (varGet ht) (wP_some (wE_int ⟨0, rfl, wP_some (wE_int ⟨3, rfl, wP_none ?_⟩)⟩))))
  refine cut_list (l := (valuesOf S).map .int) rfl (fun h => nomatch h) (by rw [List.length_map, hsz]; lia) ?_
  rw [values_six]
  rw [show pickL ([vAt S 0, vAt S 1, vAt S 2, vAt S 3, vAt S 4, vAt S 5].map PyData.int) (some 0) (some 3) none = [.int (vAt S 0), .int (vAt S 1), .int (vAt S 2)] from rfl]
  refine wArgs_cons (fun _ => rfl) (wE_listD ?_)
  refine wArgs_cons (fun _ => rfl) (wE_sub (fun _ _ => ⟨_, rfl⟩) (wE_local 6 rfl rfl rfl (varGet ht) (wE_int (sub_list (l := ((valuesOf S).map PyData.int).map .d) rfl (by decide) (by decide) (hat 1 (by decide)) ?_))))
  refine wArgs_cons (fun _ => rfl) (wE_sub (fun _ _ => ⟨_, rfl⟩) (wE_local 6 rfl rfl rfl (varGet ht) (wE_int (sub_list (l := ((valuesOf S).map PyData.int).map .d) rfl (by decide) (by decide) (hat 3 (by decide)) ?_))))
  refine wArgs_cons (fun _ => rfl) (wE_sub (fun _ _ => ⟨_, rfl⟩) (wE_local 6 rfl rfl rfl (varGet ht) (wE_int (sub_list (l := ((valuesOf S).map PyData.int).map .d) rfl (by decide) (by decide) (hat 4 (by decide)) ?_))))
  refine wArgs_nil ⟨[.int (vAt S 1), .int (vAt S 3), .int (vAt S 4)], rfl, by rw [sizeLine_eq]; exact Nat.le_of_ble_eq_true rfl, ?_⟩
  refine wArgs_cons (fun _ => rfl) (wE_listD ?_)
  refine wArgs_cons (fun _ => rfl) (wE_sub (fun _ _ => ⟨_, rfl⟩) (wE_local 6 rfl rfl rfl (varGet ht) (wE_int (sub_list (l := ((valuesOf S).map PyData.int).map .d) rfl (by decide) (by decide) (hat 2 (by decide)) ?_))))
  refine wArgs_cons (fun _ => rfl) (wE_sub (fun _ _ => ⟨_, rfl⟩) (wE_local 6 rfl rfl rfl (varGet ht) (wE_int (sub_list (l := ((valuesOf S).map PyData.int).map .d) rfl (by decide) (by decide) (hat 4 (by decide)) ?_))))
  refine wArgs_cons (fun _ => rfl) (wE_sub (fun _ _ => ⟨_, rfl⟩) (wE_local 6 rfl rfl rfl (varGet ht) (wE_int (sub_list (l := ((valuesOf S).map PyData.int).map .d) rfl (by decide) (by decide) (hat 5 (by decide)) ?_))))
  refine wArgs_nil ⟨[.int (vAt S 2), .int (vAt S 4), .int (vAt S 5)], rfl, by rw [sizeLine_eq]; exact Nat.le_of_ble_eq_true rfl, ?_⟩
  refine wArgs_nil ⟨(tableOf S).map fun r => .list (r.map .int), rfl, by rw [sizeLine_eq]; exact Nat.le_of_ble_eq_true rfl, ?_⟩
  exact st_cell 23 0 10 rfl rfl rfl q
theorem s7 {n : Nat} (hA : AOk A n) (gr : GlobIs C "range" (.type "range")) (gl : GlobIs C "list" (.type "list")) (q : Q .next (lst { v with places := some placesD } (ext ++ [.raw (RangeO (-28) 29)]))) : wS C A G (lae cd ql) (lst v ext) (stm 7) Q := by
  refine wS_assign (fun _ => rfl) ?_
  refine wE_c1 (fun _ => rfl) (wE_glob 25 gl rfl ?_)
  refine wE_c2 (fun _ => rfl) (fun _ => rfl) (wE_glob 24 gr rfl (wE_un (wE_int (neg_i (wE_int ?_)))))
  refine wCall_ty (bi_range2 ?_)
  refine wCall_ty (bi_listRange (i := (lst v ext).length) (a := -28) (b := 29) hA.in1n ?_ (by decide) (by decide) ?_)
  · rw [List.getElem?_append_right (Nat.le_refl _), Nat.sub_self]; rfl
  exact st_local 7 rfl rfl rfl q
theorem three_ints {a b c : Int} {pos p1 p2 p3 : Pos} {Q : AV → List AObj → Prop} {ae : AEnv} {st : List AObj} (q : Q (.d (intD [a, b, c])) st) : wE C A G ae st (.List [.Constant (.int a) 0 p1, .Constant (.int b) 0 p2, .Constant (.int c) 0 p3] pos) Q := by
  refine wE_listD ?_
  refine wArgs_cons (fun _ => rfl) (wE_int (wArgs_cons (fun _ => rfl) (wE_int (wArgs_cons (fun _ => rfl) (wE_int (wArgs_nil ⟨[.int a, .int b, .int c], rfl, by rw [sizeLine_eq]; exact Nat.le_of_ble_eq_true rfl, q⟩))))))
end
end Mine
end
section
open PySem
namespace Mine
noncomputable def replyL (c : Nat) (d : List Nat) : List Nat := [50, 50, 57, 32, 40] ++ ([c, c, c] ++ d ++ [c]) ++ 41 :: [32, 40, 115, 111, 41]
theorem lpar : (Str.ofString "(") = ⟨#[40]⟩ := by decide +kernel
theorem rpar : (Str.ofString ")") = ⟨#[41]⟩ := by decide +kernel
theorem t229 : (Str.ofString "229") = ⟨[50, 50, 57].toArray⟩ := by decide +kernel
theorem parse_of {c : Nat} {d : List Nat} {p : Int} (hc : c ∉ d) (h41 : 41 ∉ d) (c41 : c ≠ 41) (c256 : c < 256) (hl : d.length ≤ 100) (hp : intText? ⟨d.toArray⟩ = some p) : ParseOk ⟨(replyL c d).toArray⟩ p := by
  have hlen : (replyL c d).length = 15 + d.length := by simp [replyL]; lia
  have hf : Txt.find ⟨(replyL c d).toArray⟩ "(" = 4 := by
    refine (?_ : Txt.find ⟨(replyL c d).toArray⟩ (Str.ofString "(") = 4)
    rw [lpar]
    have h := find_at (pre := [50, 50, 57, 32]) (c := 40) (post := ([c, c, c] ++ d ++ [c]) ++ 41 :: [32, 40, 115, 111, 41]) (by decide)
    rw [show replyL c d = [50, 50, 57, 32] ++ 40 :: (([c, c, c] ++ d ++ [c]) ++ 41 :: [32, 40, 115, 111, 41]) by simp [replyL]]
    exact h
  have hm : ([c, c, c] ++ d ++ [c]).length = d.length + 4 := by simp
  have hf3 : Txt.find3 ⟨(replyL c d).toArray⟩ ")" (4 + 1) = ((9 + d.length : Nat) : Int) := by
    refine (?_ : Txt.find3 ⟨(replyL c d).toArray⟩ (Str.ofString ")") 5 = _)
    rw [rpar]
    have h := find3_at (pre := [50, 50, 57, 32, 40]) (mid := [c, c, c] ++ d ++ [c]) (c := 41) (post := [32, 40, 115, 111, 41]) (by
      intro q
      simp only [List.mem_append, List.mem_cons, List.not_mem_nil, or_false] at q
      rcases q with (q | q) | q
      · lia
      · exact h41 q
      · lia)
    rw [hm] at h
    refine Eq.trans h ?_
    congr 1
    refine (?_ : 5 + (d.length + 4) = _)
    lia
  refine ⟨by show (replyL c d).length ≤ _; lia, ?_, by rw [hf]; decide, by rw [hf]; decide, by rw [hf, hf3]; lia, by rw [hf, hf3]; lia, c, ?_, ?_, ?_⟩
  · refine (?_ : Txt.slice _ none (some ((3 : Nat) : Int)) = Str.ofString "229")
    rw [slice_to _ _ (by lia), t229]
    rfl
  · rw [hf]
    exact ch_at _ 5 c rfl
  · rw [hf, hf3]
    rw [show ((9 + d.length : Nat) : Int) - 1 = ((8 + d.length : Nat) : Int) by lia]
    refine ch_at _ _ c ?_
    rw [show replyL c d = ([50, 50, 57, 32, 40] ++ [c, c, c] ++ d) ++ c :: 41 :: [32, 40, 115, 111, 41] by simp [replyL]]
    have hpl : ([50, 50, 57, 32, 40] ++ [c, c, c] ++ d).length = 8 + d.length := by simp; lia
    rw [List.getElem?_append_right (by lia), hpl, Nat.sub_self]; rfl
  · rw [hf, hf3]
    have hs := slice_ab (replyL c d) 5 (9 + d.length) (by lia) (by lia)
    have e5 : (4 : Int) + 1 = ((5 : Nat) : Int) := rfl
    rw [e5, hs]
    have ed : ((replyL c d).drop 5).take (9 + d.length - 5) = joinL [c] [[], [], [], d, []] := by
      rw [show 9 + d.length - 5 = ([c, c, c] ++ d ++ [c]).length by rw [hm]; lia]
      refine (?_ : List.take _ (([c, c, c] ++ d ++ [c]) ++ 41 :: [32, 40, 115, 111, 41]) = _)
      rw [List.take_append_of_le_length (Nat.le_refl _), List.take_of_length_le (Nat.le_refl _)]
      simp [joinL]
    rw [ed]
    have hsp := split_join (c := c) (m := []) (by simp) (ws := [[], [], [], d, []]) (by simp) (by
      intro w hw
      simp only [List.mem_cons, List.not_mem_nil, or_false] at hw
      rcases hw with rfl | rfl | rfl | rfl | rfl <;> first | exact hc | simp) (by simpa using c256)
    exact ⟨_, _, _, _, _, hsp, hp, by show d.length ≤ 640; lia⟩
theorem numL_nn (m : Nat) : numL (m : Int) = dl m := by
  unfold numL
  rw [if_neg (by lia)]; simp
theorem absI_eq (p : Int) : absI p = ((p.natAbs : Nat) : Int) := by unfold absI; split <;> lia
theorem app_list (a b : Str) : (a ++ b).cps.toList = a.cps.toList ++ b.cps.toList := by
  refine (?_ : (a.cps ++ b.cps).toList = _)
  simp
theorem dress_list (p n : Int) : (dressAt p n).cps.toList = dressL p (n.fmod 3).toNat := by
  have h0 : 0 ≤ n.fmod 3 := Int.fmod_nonneg_of_pos n (by decide)
  have h1 : n.fmod 3 < 3 := Int.fmod_lt_of_pos n (by decide)
  have hk : (n.fmod 3).toNat < 3 := by lia
  unfold dressAt
  generalize (n.fmod 3).toNat = k at hk
  have ha : (numS (absI p)).cps.toList = dl p.natAbs := by rw [numS_list, absI_eq, numL_nn]
  match k, hk with
  | 0, _ => show (numS p).cps.toList = numL p; rw [numS_list]
  | 1, _ =>
    refine (?_ : ((signOf p ++ Str.ofString "00") ++ numS (absI p)).cps.toList = (if p < 0 then 45 else 43) :: 48 :: 48 :: dl p.natAbs)
    rw [app_list, app_list, ha]
    unfold signOf
    by_cases q : p < 0
    · simp only [q, decide_true, if_true]
      rw [show (Str.ofString "-").cps.toList = [45] by decide +kernel, show (Str.ofString "00").cps.toList = [48, 48] by decide +kernel]; rfl
    · simp only [q, decide_false, if_false, Bool.false_eq_true]
      rw [show (Str.ofString "+").cps.toList = [43] by decide +kernel, show (Str.ofString "00").cps.toList = [48, 48] by decide +kernel]; rfl
  | 2, _ =>
    refine (?_ : ((Txt.stripChars (signOf p) (Str.ofString "+") ++ Str.ofString "0") ++ numS (absI p)).cps.toList = (if p < 0 then [45] else []) ++ 48 :: dl p.natAbs)
    rw [app_list, app_list, ha]
    unfold signOf
    by_cases q : p < 0
    · simp only [q, decide_true, if_true]
      rw [show (Txt.stripChars (Str.ofString "-") (Str.ofString "+")).cps.toList = [45] by decide +kernel, show (Str.ofString "0").cps.toList = [48] by decide +kernel]; rfl
    · simp only [q, decide_false, if_false, Bool.false_eq_true]
      rw [show (Txt.stripChars (Str.ofString "+") (Str.ofString "+")).cps.toList = [] by decide +kernel, show (Str.ofString "0").cps.toList = [48] by decide +kernel]; rfl
theorem rep_list (c : Nat) : (rep ⟨#[c]⟩ 3).cps.toList = [c, c, c] := by
  refine (?_ : ((List.replicate 3 #[c]).foldl (· ++ ·) #[]).toList = _)
  simp [List.replicate]
theorem reply_list (p n : Int) : replyOf p n = ⟨(replyL (markC n) (dressL p (n.fmod 3).toNat)).toArray⟩ := by
  have key : (replyOf p n).cps.toList = replyL (markC n) (dressL p (n.fmod 3).toNat) := by
    unfold replyOf
    rw [app_list, app_list, app_list, app_list, dress_list]
    unfold markOf
    rw [rep_list, show (Str.ofString "229 (").cps.toList = [50, 50, 57, 32, 40] by decide +kernel, show (Str.ofString ") (so)").cps.toList = 41 :: [32, 40, 115, 111, 41] by decide +kernel]
    simp [replyL]
  rw [← key]
  first | done | exact (Str.eta _).symm
theorem mark_cases (n : Int) : markC n = 124 ∨ markC n = 33 ∨ markC n = 58 ∨ markC n = 47 ∨ markC n = 36 := by
  have h0 : 0 ≤ n.fmod 5 := Int.fmod_nonneg_of_pos n (by decide)
  have h1 : n.fmod 5 < 5 := Int.fmod_lt_of_pos n (by decide)
  have hk : (n.fmod 5).toNat < 5 := by lia
  unfold markC
  generalize (n.fmod 5).toNat = k at hk
  match k, hk with
  | 0, _ | 1, _ | 2, _ | 3, _ | 4, _ => decide
theorem parse_reply_ok {p : Int} (hp : p.natAbs ≤ 10 ^ 15) (n : Int) : ParseOk (replyOf p n) p := by
  rw [reply_list]
  obtain ⟨h1, h2⟩ := dressL_int hp (n.fmod 3).toNat
  have hch := dressL_chars p (n.fmod 3).toNat
  have hm := mark_cases n
  exact parse_of (fun q => by have := hch _ q; lia) (fun q => by have := hch _ q; lia) (by lia) (by lia) (by lia) h1
theorem due_small (S : List Int) (i : Nat) : ((dueOf S).getD i 0).natAbs ≤ 10 ^ 15 := by
  unfold dueOf
  rw [List.getD_eq_getElem?_getD, List.getElem?_map]
  cases ((drawnOf S).take 6)[i]? with
  | none => decide
  | some x =>
    refine (?_ : (dueAt x).natAbs ≤ 10 ^ 15)
    unfold dueAt
    have h1 := Int.fmod_nonneg_of_pos (x + 10 ^ 15) (b := 2 * 10 ^ 15) (by decide)
    have h2 := Int.fmod_lt_of_pos (x + 10 ^ 15) (b := 2 * 10 ^ 15) (by decide)
    lia
theorem dueOk (S : List Int) : DueOk S where
  small := fun i _ => by
    have h := due_small S i
    have h2 : (absI ((dueOf S).getD i 0)).natAbs ≤ 10 ^ 15 := by rw [absI_eq]; lia
    have := numS_len_le h; have := numS_len_le h2
    lia
  parse := fun i _ => parse_reply_ok (due_small S i) _
end Mine
end
section
open PySem PySem.W PyProof.Rows PySem.Calls
open PySem.Sem (wp)
namespace Mine
noncomputable def hasCaller (st : List (Code × Pos)) : Bool := (st.map (·.1)).any Code.isCaller
noncomputable def guardV (t : Sem Value) : Sem Value := .stack fun st => if hasCaller st then t else pure (.bool true)
noncomputable def guardT (t : Sem PySem.Fin) : Sem PySem.Fin := .stack fun st => if hasCaller st then t else pure (.done (.ret (.bool true)))
theorem guard_step {den : Code → Sem PySem.Fin} {p : Program} {w : World} {s : Shared} {t : Sem PySem.Fin} (hz : s.asleep) :
    sstep den p w (.single s ⟨guardT t, .builtin "claim.caller" {}, default, []⟩) = .go (.single s ⟨t, .builtin "claim.caller" {}, default, []⟩) := by
  have hs : step den p w s ⟨guardT t, .builtin "claim.caller" {}, default, []⟩ = .go s ⟨t, .builtin "claim.caller" {}, default, []⟩ := by
    show Step.go s ⟨(if hasCaller [(.builtin "claim.caller" {}, default)] then t else _), _, _, _⟩ = _
    rfl
  rcases sstep_single den p w s ⟨guardT t, .builtin "claim.caller" {}, default, []⟩ rfl hz with h | h
  · rw [h, hs]; rfl
  · rw [hs] at h; cases h
theorem exStep {α β γ δ : Type} {A : α → β → Prop} {B B' : α → β → Nat → γ → δ → Prop} {R : α → β → γ → δ → Prop} (h : ∃ vs s₁, A vs s₁ ∧ ∃ n o s', B vs s₁ n o s' ∧ R vs s₁ o s') (k : ∀ vs s₁ n o s', A vs s₁ → B vs s₁ n o s' → ∃ n', B' vs s₁ n' o s') :
    ∃ vs s₁, A vs s₁ ∧ ∃ n o s', B' vs s₁ n o s' ∧ R vs s₁ o s' := by
  obtain ⟨vs, s₁, hA, n, o, s', hB, hR⟩ := h
  obtain ⟨n', hB'⟩ := k _ _ _ _ _ hA hB
  exact ⟨vs, s₁, hA, n', o, s', hB', hR⟩
theorem callFrom_guard {c : ClaimW} {tree : List Value → Sem PySem.Fin} {w : World} {free : Addr → Prop} {gens : Prop} {kept : Heap → Prop} {s : Shared} (hz : s.asleep)
    (h : c.CallFrom (fun vs => ⟨guardT (tree vs), .builtin "claim.caller" {}, default, []⟩) w free gens kept s) : c.CallFrom (fun vs => ⟨tree vs, .builtin "claim.caller" {}, default, []⟩) w free gens kept s := fun args hpre hlay ord hord => by
  refine exStep (h args hpre hlay ord hord) fun vs s₁ n o s' hlaid hn => ?_
  have hz1 : s₁.asleep := Shared.asleep_of_life (layAllW_rest _ _ _ hlaid).2.2.2 hz
  cases n with
  | zero => cases hn
  | succ n =>
    simp only [schedN, guard_step hz1] at hn
    exact ⟨n, hn⟩
theorem exLast {α β : Type} {P1 P2 : α → Prop} {T A3 A4 A5 A6 A6' : α → β → Prop} (h : ∃ s₀, P1 s₀ ∧ P2 s₀ ∧ ∃ s₁, T s₀ s₁ ∧ A3 s₀ s₁ ∧ A4 s₀ s₁ ∧ A5 s₀ s₁ ∧ A6 s₀ s₁) (k : ∀ s₀ s₁, P1 s₀ → T s₀ s₁ → A6 s₀ s₁ → A6' s₀ s₁) :
    ∃ s₀, P1 s₀ ∧ P2 s₀ ∧ ∃ s₁, T s₀ s₁ ∧ A3 s₀ s₁ ∧ A4 s₀ s₁ ∧ A5 s₀ s₁ ∧ A6' s₀ s₁ := by
  obtain ⟨s₀, a1, a2, s₁, T, a3, a4, a5, a6⟩ := h
  exact ⟨s₀, a1, a2, s₁, T, a3, a4, a5, k _ _ a1 T a6⟩
theorem holdsOpen_guard {c : ClaimW} {tree : List Value → Sem PySem.Fin} {defs kps : List Str} {writes : Bool} (h : c.HoldsOpenBy (fun vs => ⟨guardT (tree vs), .builtin "claim.caller" {}, default, []⟩) defs kps writes) :
    c.HoldsOpenBy (fun vs => ⟨tree vs, .builtin "claim.caller" {}, default, []⟩) defs kps writes :=
  ⟨h.1, h.2.1, fun w => ⟨(h.2.2 w).1, fun s hs => exLast ((h.2.2 w).2 s hs) fun s₀ s₁ a1 T a6 =>
    callFrom_guard (Shared.asleep_of_life T.2.1 (Shared.asleep_of_life (fence_lifeW a1) (AfterImport.life hs))) a6⟩⟩
noncomputable abbrev WalkOK (q : Program) (loose : List Str) (XP : (Str → Option Value) → Heap → Prop) (YP : World → Heap → Prop) (r : RowW) (d : DefRec) (kwd : List (Str × Expr)) : Prop :=
  ∀ (w : World) (s₀ s₁ : Shared) (mg mb : Str → Option Value), Ground q loose r.records XP w s₀ mg mb s₁.heap → YP w s₁.heap → ∀ (a : Addr) (o : Obj) (pm cd doc dV kV : Value), s₁.heap.get? a = some o →
    o.data = .func { docDef d.name d.params d.body d.scope pm cd doc with defaults := dV, kwdefaults := kV } → s₁.heap.CodeRec cd d.name → Dflts mg s₁.heap d.params kwd dV kV → mg d.name = some (.ref a) → s₁.gens = #[] →
    ∀ (args : List WData) (vals : List Value) (as : List Addr), r.claim.pre args = true → WData.layableAll args = true → ReadsAllW r.records (classAt s₀.heap) s₁.heap vals args as → WellAll w.params s₁.heap vals args → (∀ a ∈ as, (a == sysModules) = false) →
      GoodWG r.claim (classAt s₀.heap) (ExcName.means s₀.heap) args s₁ (.ok (.ret (.bool true))) s₁ ∧
      wpK (model r.prog w) callerA (PySem.call (.ref a) vals) (fun v s' => GoodWG r.claim (classAt s₀.heap) (ExcName.means s₀.heap) args s₁ (.ok (.ret v)) s')
        (fun e s' => GoodWG r.claim (classAt s₀.heap) (ExcName.means s₀.heap) args s₁ (.error e) s') s₁
theorem holdsOpenK {r : OpenRow} {q : Program} {loose : List Str} {Xt : Shared → Bool} {XP : (Str → Option Value) → Heap → Prop} {α : Type} {Yf : Shared → α} {Ya : World → α} {YP : World → Heap → Prop} {d : DefRec} {kwd : List (Str × Expr)} {N : Nat}
    (left : LeftO r.prog q loose Xt Yf Ya N) (hY : ∀ w s, Yf s = Ya w → YP w s.heap) (hYk : ∀ w h h', YP w h → (∀ b o, h.get? b = some o → h'.get? b = some o) → YP w h')
    (hX : ∀ s, Xt s = true → XP (s.heap.nsMap mainGlobals) s.heap) (hXk : ∀ mg h h', XP mg h → (∀ b o, h.get? b = some o → h'.get? b = some o) → XP mg h')
    (hdef : defOf q r.name = some (d, kwd)) (hp : r.prog.theDef r.name = some (d.params, d.body, d.scope)) (hk : kwWritten? d.params.kwonlyargs d.params.kw_defaults = some kwd) (hRf : ∀ s, Xt s = true → RecFacts r.records s.heap) (hwr : (!r.writes || r.records.isEmpty) = true)
    (k1 : r.wellSaid = true) (ok : (chainsOk q && opensWell r.prog && (frees r.toRowW && r.within.isEmpty)) = true) (hb : r.prog.bare) (hw : r.toRowW.promised)
    (call : WalkOK q loose XP YP r.toRowW d kwd) : r.Holds := by
  refine ⟨k1, hw, holdsOpen_guard (open_anyG (r := r.toRowW) (run := fun f vs => guardV (PySem.call f vs)) (tree := fun vs => guardT (do match ← nsGet mainNs r.name with
      | some f => do ret (← PySem.call f vs)
      | none => unsupported "claim.caller:no-such-global")) left hY hYk hX hXk hRf hwr ok hb hw
    (fun vs w s mg f Q E hg hf h Γ p hΓ => ?_) (fun w s hg G n hn => ?_) fun w s₀ s₁ mg mb G Y args vs as hpre hlay L low => ?_)⟩
  · have h' := h Γ p hΓ
    have e1 : wp (model r.prog w) Γ (if hasCaller ((Γ.code, p) :: Γ.below) then PySem.call f vs else pure (.bool true)) (fun v _ s' => Q (.done (.ret v)) s') (fun e _ s' => E e s') p s := h'
    show wp (model r.prog w) Γ (if hasCaller ((Γ.code, p) :: Γ.below) then _ else _) _ _ p s
    cases hc : hasCaller ((Γ.code, p) :: Γ.below) with
    | false => rw [hc] at e1; exact e1
    | true =>
      rw [hc] at e1
      simp only [if_true] at e1 ⊢
      rw [Sem.wp_bind']
      show wp (model r.prog w) Γ (nsGet mainGlobals r.name) _ _ p s
      rw [Sem.wp_nsGet _ Γ _ p s hg, hf]
      show wp (model r.prog w) Γ (PySem.call f vs >>= fun v => ret v) _ _ p s
      rw [Sem.wp_bind']
      exact Sem.wp_mono _ Γ _ (fun _ _ _ z => z) (fun _ _ _ z => z) p s e1
  · obtain rfl : n = r.name := by split at hn <;> simp_all
    exact pinned_of_view hg G hdef hp hk
  · refine byC fun hC1 => ?_
    obtain ⟨a, o, pm, cd, doc, dV, kV, h1, h2, h3, h4, h5⟩ := G.fn hdef
    obtain ⟨c1, c2⟩ := call w s₀ s₁ mg mb G Y a o pm cd doc dV kV h2 h3 h4 h5 (defOf_name hdef ▸ h1) L.gens args vs as hpre hlay L.reads L.well (L.low low)
    refine hC1 ?_
    refine ⟨.ref a, h1, fun Γ p hΓ => ?_⟩
    show wp (model r.prog w) Γ (if hasCaller ((Γ.code, p) :: Γ.below) then _ else _) _ _ p s₁
    cases hc : hasCaller ((Γ.code, p) :: Γ.below) with
    | false => exact c1
    | true => exact c2 Γ p hΓ hc
end Mine
end
section
open PySem PySem.Calls PyProof.Rows PySem.W PySem.SeqAt PyProof.V
open PySem.Sem (wp)
set_option maxRecDepth 100000
namespace Mine
section
variable {M : Model} {A : Around} {E : Value → Shared → Prop} {s : Shared} {env : Env} {α : Type}
theorem K.eq {t t' : Sem α} {Q : α → Shared → Prop} (e : t = t') (h : wpK M A t' Q E s) : wpK M A t Q E s := by rw [e]; exact h
theorem K.noted {m : Sem α} {Q : α → Shared → Prop} (h : wpK M A m Q (notedBy M A env E) s) : wpK M A (m.onRaise fun x => do noteFrame x env; theTreesLotGoes x) Q E s :=
  K.onRaise (K.mono h (fun _ _ q => q) fun _ _ hx => K.of (wpAny_bind (wpAny_mono hx (fun _ _ e => wpAny_theTreesLotGoes e) fun _ _ e => e)))
theorem kComprehension_free {e : Expr} {scope : Scope} {pos : Pos} {newAcc first : Sem Value} {g : Comprehension} {gs : List Comprehension} {cl : List (Str × Addr)}
    {Q : Value → Shared → Prop}
    (hcl : clausesOf e = g :: gs) (hs : ∀ x, foldedSetIterable g.iter env x = pure x) (hclos : closureFor scope env = pure cl)
    (hkind : scope.kind = .function) (hnames : ∀ x ∈ scope.names, x.2 = .local → scope.names.lookup x.1 = some .local)
    (h : wpAny M A first (fun x s₁ => wpAny M A (pyIter x) (fun it s₂ => wpAny M A newAcc (fun acc s₃ =>
      wpAny M A (newFunctionEnv scope env.globals cl [] env.qual none .none (some env)) (fun cenv s₄ =>
        codeK M A (.compStart e 0 it acc { cenv with scope := relabel scope env }) (compPost M A E none Q acc cenv.locals) s₄) E s₃) E s₂) E s₁) E s) :
    wpK M A (comprehension e scope env pos newAcc false first none) Q E s := by
  unfold comprehension
  rw [hclos, hcl]
  refine K.bind (K.go h (fun x s₁ h₁ => ?_) fun _ _ h' => h')
  refine K.bind (K.standAt ?_)
  refine K.bind (K.eq (hs x) (K.pure ?_))
  refine K.bind (K.holding (K.go h₁ (fun it s₂ h₂ => ?_) fun _ _ h' => h'))
  simp only [Option.isSome_none, Bool.false_eq_true, if_false]
  refine K.bind (K.go h₂ (fun acc s₃ h₃ => ?_) fun _ _ h' => h')
  refine K.bind (K.pure ?_)
  refine K.bind (K.go h₃ (fun cenv s₄ h₄ => ?_) fun _ _ h' => h')
  have hv : ∀ x ∈ (scope.names.filter fun x => (x.2 == .local || x.2 == .cell) && x.1 != (".0" : Str)).reverse, x.2 = .local →
      Env.kindOf { cenv with scope := relabel scope env } x.1 = some .local := fun x hx hl => lookup_relabel_local (hnames x (List.mem_filter.mp (List.mem_reverse.mp hx)).1 hl)
  refine K.holding (K.bind (K.attempt (K.holding (K.run (codeK_mono h₄ fun r s' hr => ?_) (by intro x; cases x)))))
  cases r with
  | ok f =>
    obtain ⟨m, hn, hr⟩ := hr
    exact K.of (wpAny_bind (wpAny_holding (wpAny_comp_letGo (cenv := { cenv with scope := relabel scope env }) hkind _ s' m hv hn fun h' m' _ hs' => wpAny_pure (hr h' hs'))))
  | error x =>
    obtain ⟨m, hn, hr⟩ := hr
    exact K.of (wpAny_bind (wpAny_holding (wpAny_comp_letGo (cenv := { cenv with scope := relabel scope env }) hkind _ s' m hv hn fun h' m' _ hs' => wpAny_mono (hr h' hs' _ rfl) (fun _ _ f => f.elim) fun _ _ y => y)))
end
section
variable {prog : Program} {w : World} {A : Around} {E : Value → Shared → Prop} {R : Result → Shared → Prop} {s : Shared}
theorem kCompStart_list {elt target iter ifs rest scope pos it acc env}
    (h0 : codeK (model prog w) A (.compLoop (.ListComp elt (⟨target, iter, ifs, 0⟩ :: rest) scope pos) 0 it acc env) R s)
    (h : wpAny (model prog w) A (pyIter it) (fun it' s' => codeK (model prog w) A (.compLoop (.ListComp elt (⟨target, iter, ifs, 0⟩ :: rest) scope pos) 0 it' acc env) R s')
      (notedBy (model prog w) A env fun x s' => R (.error x) s') s) :
    codeK (model prog w) A (.compStart (.ListComp elt (⟨target, iter, ifs, 0⟩ :: rest) scope pos) 0 it acc env) R s := by
  refine codeK_of_tree (K.of ?_)
  show wpAny _ _ ((compStart (.ListComp elt (⟨target, iter, ifs, 0⟩ :: rest) scope pos) 0 it acc env).onRaise (fun x => do noteFrame x env; standAt theWindowsPlace)) _ _ s
  refine wpAny_notedAt ?_
  unfold compStart
  show wpAny _ _ (ask >>= _) _ _ s
  refine wpAny_bind (wpAny_askSetting (wpAny_ite ?_))
  split
  · first
      | exact wpAny_bind (wpAny_pure (wpAny_pure (And.intro rfl h0)))
      | exact wpAny_pure (And.intro rfl h0)
  · first
      | exact wpAny_bind (wpAny_rule (wpAny_bind (wpAny_standAt (wpAny_bind (wpAny_mono h (fun it' s' h' => wpAny_pure (And.intro rfl h')) fun _ _ x => x)))))
      | (refine wpAny_bind (wpAny_rule ?_); show wpAny _ _ (standAt iter.pos >>= _) _ _ s; exact wpAny_bind (wpAny_standAt (wpAny_bind (wpAny_mono h (fun it' s' h' => wpAny_pure (And.intro rfl h')) fun _ _ x => x))))
theorem kCompLoop {elt target iter : Expr} {ifs : List Expr} {scope : Scope} {pos : Pos} {it acc : Value} {env : Env} (I : Nat → Shared → Prop)
    (turn : ∀ n s, I n s → wpAny (model prog w) A (pyNext it) (fun r s₁ => match r with
      | none => R (.ok .next) s₁
      | some v => wpAny (model prog w) A (letOwnedTupleGo target it v) (fun _ s₁' => wpAny (model prog w) A (assign target env v) (fun _ s₂ =>
          wpK (model prog w) A (forIn ifs true fun c r => if r = true then do let ok ← isTrue c env (eval c env); pure (ForInStep.yield ok) else pure (ForInStep.yield r)) (fun ok s₃ =>
            if ok = true then wpAny (model prog w) A (eval elt env) (fun x s₄ =>
              wpAny (model prog w) A (call (.builtin "list.append") [acc, x]) (fun _ s₅ => ∃ m, m < n ∧ I m s₅) (notedBy (model prog w) A env fun e s' => R (.error e) s') s₄) (notedBy (model prog w) A env fun e s' => R (.error e) s') s₃
            else ∃ m, m < n ∧ I m s₃) (notedBy (model prog w) A env fun e s' => R (.error e) s') s₂) (notedBy (model prog w) A env fun e s' => R (.error e) s') s₁') (notedBy (model prog w) A env fun e s' => R (.error e) s') s₁) (notedBy (model prog w) A env fun e s' => R (.error e) s') s)
    (n : Nat) (h : I n s) :
    codeK (model prog w) A (.compLoop (.ListComp elt [⟨target, iter, ifs, 0⟩] scope pos) 0 it acc env) R s := by
  refine codeK_loop rfl I (fun n s hI => ?_) n h
  show wpK _ A ((compTurn (.ListComp elt [⟨target, iter, ifs, 0⟩] scope pos) 0 it acc env).onRaise (fun x => do noteFrame x env; theTreesLotGoes x)) _ _ s
  refine K.noted ?_
  rw [compTurn_list]
  refine K.bind (K.standAt (K.bind (K.go (turn n s hI) (fun r s₁ h₁ => ?_) fun _ _ h' => h')))
  cases r with
  | none => exact K.pure h₁
  | some v =>
    refine K.bind (K.go h₁ (fun _ s₁' h₁' => ?_) fun _ _ h' => h')
    refine K.bind (K.go h₁' (fun _ s₂ h₂ => K.bind (K.mono h₂ (fun ok s₃ h₃ => ?_) fun _ _ h' => h')) fun _ _ h' => h')
    cases ok with
    | false => exact K.pure ⟨rfl, h₃⟩
    | true =>
      exact K.of (wpAny_bind (wpAny_bind (wpAny_mono h₃ (fun x s₄ h₄ => wpAny_bind (wpAny_mono h₄ (fun _ s₅ h₅ => wpAny_pure (wpAny_pure ⟨rfl, h₅⟩)) fun _ _ h' => h')) fun _ _ h' => h')))
theorem kTests_one {env : Env} {c : Expr} {Q : Bool → Shared → Prop} (h : wpK (model prog w) A (isTrue c env (eval c env)) Q E s) :
    wpK (model prog w) A (forIn [c] true fun c r => if r = true then do let ok ← isTrue c env (eval c env); pure (ForInStep.yield ok) else pure (ForInStep.yield r)) Q E s := by
  simp only [List.forIn_cons, List.forIn_nil, if_true]
  exact K.bind (K.bind (K.mono h (fun b s' hb => K.pure (K.pure hb)) fun _ _ x => x))
theorem kNot {env : Env} {x : Expr} {pos : Pos} {whole : Sem Value} {Q : Bool → Shared → Prop} (h : wpK (model prog w) A (isTrue x env (eval x env)) (fun b s₁ => Q (!b) s₁) E s) :
    wpK (model prog w) A (isTrue (.UnaryOp .Not x pos) env whole) Q E s := by
  rw [arm_isTrue_UnaryOp]
  exact K.bind (K.mono h (fun b s₁ h₁ => K.pure h₁) fun _ _ x => x)
theorem kCompare1 {env : Env} {l r : Expr} {op : CmpOp} {pos : Pos} {whole : Sem Value} {Q : Bool → Shared → Prop}
    (h : wpK (model prog w) A (eval l env) (fun a s₁ => wpAny (model prog w) A (eval r env) (fun b s₂ => wpAny (model prog w) A (compareOp op a b)
      (fun c s₃ => wpAny (model prog w) A (truthy c) Q E s₃) E s₂) E s₁) E s)
    (hm : behindInMarks op r = false) : wpK (model prog w) A (isTrue (.Compare l [op] [r] pos) env whole) Q E s := fun Γ p hΓ hc => by
  simp only [isTrue_Compare1, markedBehindIn_of_false hm, Sem.wp_bind', Sem.wp_holding, Sem.wp_cmd_standAt, Sem.wp_operate]
  exact Sem.wp_mono _ Γ _ (fun a p₁ s₁ h₁ => Sem.wp_mono _ Γ _ (fun b _ s₂ h₂ => Sem.wp_mono _ Γ _ (fun c p₃ s₃ h₃ => h₃ Γ p₃ hΓ)
    (fun _ _ _ h' => h') _ _ (h₂ Γ _ hΓ)) (fun _ _ _ h' => h') _ _ (h₁ Γ p₁ hΓ)) (fun _ _ _ h' => h') _ _ (h Γ p hΓ hc)
end
end Mine
end
section
open PySem PySem.Calls PyProof.Rows PySem.W PySem.SeqAt PyProof.V
namespace Mine
section
variable {C : Cx} {A : Around} {G : Gd} {ae : AEnv} {st : List AObj}
noncomputable def wIfsK (C : Cx) (A : Around) (G : Gd) (ae : AEnv) (st : List AObj) (ifs : List Expr) (Q : Bool → List AObj → Prop) : Prop :=
  WK RB C A G ae st (forIn ifs true fun c r => if r = true then do let ok ← isTrue c G.env (eval c G.env); pure (ForInStep.yield ok) else pure (ForInStep.yield r)) Q
theorem wIfsK_one {c : Expr} {Q : Bool → List AObj → Prop} (h : wBK C A G ae st c Q) : wIfsK C A G ae st [c] Q := fun κ σ s e X => kTests_one (h κ σ s e X)
theorem WK.mono {α β : Type} {rel : Kp → List Addr → β → α → Prop} {t : Sem α} {Q Q' : β → List AObj → Prop} (h : WK rel C A G ae st t Q) (hq : ∀ a st, Q a st → Q' a st) : WK rel C A G ae st t Q' := fun κ σ s e X =>
  K.mono (h κ σ s e X) (fun _ _ z => z.go fun κ' σ' b st' k p X' r q => ⟨κ', σ', b, st', k, p, X', r, hq _ _ q⟩) fun _ _ z => z
theorem wBK_not {x : Expr} {pos : Pos} {Q : Bool → List AObj → Prop} (h : wBK C A G ae st x fun b st1 => Q (!b) st1) : wBK C A G ae st (.UnaryOp .Not x pos) Q := fun κ σ s e X =>
  kNot (K.mono (h κ σ s e X) (fun _ _ z => z.go fun κ' σ' b st' k p X' r q => ⟨κ', σ', !b, st', k, p, X', by cases r; rfl, q⟩) fun _ _ z => z)
theorem wBK_val {x : Expr} {Q : Bool → List AObj → Prop} (he : ∀ env whole, isTrue x env whole = (do let v ← whole; standAt x.pos; holding [v] (truthy v))) (h : wEK C A G ae st x fun a st1 => wTr C A G st1 a Q) : wBK C A G ae st x Q := fun κ σ s e X => by
  show wpK _ A (isTrue x G.env _) _ _ s
  rw [he]
  exact K.bind (K.mono (h κ σ s e X) (fun v s1 z => z.go fun κ1 σ1 a st1 k1 p1 X1 r1 q1 => K.bind (K.standAt (K.holding (K.of (wpAny_mono (q1 κ1 σ1 s1 v X1 r1) (fun _ _ z => z.up k1 p1) fun _ _ z => z))))) fun _ _ z => z)
theorem wBK_cmp {l r : Expr} {op : CmpOp} {pos : Pos} {Q : Bool → List AObj → Prop} (hm : behindInMarks op r = false)
    (h : wEK C A G ae st l fun a st1 => wE C A G ae st1 r fun b st2 => wCmp C A G st2 op a b fun c st3 => wTr C A G st3 c Q) : wBK C A G ae st (.Compare l [op] [r] pos) Q := fun κ σ s e X =>
  kCompare1 (K.mono (h κ σ s e X) (fun va s1 z => z.go fun κ1 σ1 a st1 k1 p1 X1 r1 q1 => wpAny_mono (q1 κ1 σ1 s1 (e.mono p1) X1) (fun vb s2 z => z.go fun κ2 σ2 b st2 k2 p2 X2 r2 q2 =>
    wpAny_mono (q2 κ2 σ2 s2 va vb X2 (r1.mono k2 p2) r2) (fun vc s3 z => z.go fun κ3 σ3 c st3 k3 p3 X3 r3 q3 => wpAny_mono (q3 κ3 σ3 s3 vc X3 r3) (fun _ _ z => z.up ((k1.trans k2).trans k3) ((p1.trans p2).trans p3)) fun _ _ z => z) fun _ _ z => z) fun _ _ z => z) fun _ _ z => z) hm
theorem wSK_ifK {t : Expr} {b o : List Stmt} {pos : Pos} {Q : AF → List AObj → Prop} (h : wBK C A G ae st t fun c st1 => if c then wSsK C A G ae st1 b Q else wSsK C A G ae st1 o Q) : wSK C A G ae st (.If t b o pos) Q := fun κ σ s e X => by
  show wpK _ A (exec (.If t b o pos) G.env) _ _ s
  rw [exec_If]
  refine K.bind (K.standAt (K.bind (K.mono (h κ σ s e X) (fun c s1 z => z.go fun κ' σ' c' st' k1 p1 X' r q => ?_) fun _ _ z => z)))
  cases (r : c = c')
  cases c with
  | true => exact PA.wpK k1 p1 (q κ' σ' s1 (e.mono p1) X')
  | false => exact PA.wpK k1 p1 (q κ' σ' s1 (e.mono p1) X')
theorem comp_coreK {elt target iter : Expr} {ifs : List Expr} {scope : Scope} {pos fpos : Pos} {ca : List (Str × Nat)} {Qf : Kp → List Addr → Value → Shared → Prop} {its : List D} {st2 : List AObj}
    (hnf : noFree ae.scope = true) (ok : ScOk scope) (hca : caOf ae.cells scope.names [] = some ca) (hcn : ((cellsFrom (st2.length + 2) scope.names ca).map (·.1)).Nodup)
    (hs : ∀ env x, foldedSetIterable iter env x = pure x) (hiter : wEI C A G ae target st iter fun its' st2' => its' = its ∧ st2' = st2)
    (J : Nat → List AObj → Prop) (hJ : ∀ k tl, J k tl → 2 + nCells scope.names ≤ tl.length ∧ ∃ N V, tl[1]? = some (.ns N V))
    (h0 : J 0 (.list [] :: .ns (scope.names.map (·.1)) (List.replicate scope.names.length none) :: List.replicate (nCells scope.names) (.cell none)))
    (turn : ∀ φ' E' env' k x tl, env'.frame = G.env.frame → its[k]? = some x → J k tl → wTgt C A ⟨φ', G.κ₀, env', E'⟩ (compAe ae scope st2.length ca) (st2 ++ tl) target (.d x) fun st3 => wIfsK C A ⟨φ', G.κ₀, env', E'⟩ (compAe ae scope st2.length ca) st3 ifs fun ok st4 =>
      if ok then wE C A ⟨φ', G.κ₀, env', E'⟩ (compAe ae scope st2.length ca) st4 elt (EltPost J st2 k)
      else CompNext J st2 k st4)
    (fin : ∀ κ σ σ2 κ' σ' tl s' acc Ca m, EnvR ae σ G.env → σ <+: σ2 → σ2.length = st2.length → σ2 <+: σ' → Kle κ κ' → J its.length tl → Rel C G.φ G.κ₀ κ' σ' (st2 ++ tl) s' → σ'[st2.length]? = some acc → σ'[st2.length + 1]? = some Ca → s'.heap.Ns Ca m →
      compPost (model C.prog C.w) A G.E none (Qf κ σ) (.ref acc) Ca (.ok .next) s') :
    ∀ κ σ s, EnvR ae σ G.env → Rel C G.φ G.κ₀ κ σ st s → wpK (model C.prog C.w) A (comprehension (.ListComp elt [⟨target, iter, ifs, 0⟩] scope pos) scope G.env fpos (newList []) false (eval iter G.env) none) (Qf κ σ) G.E s := by
  intro κ σ s e X
  refine byC fun hC1 => ?_
  obtain ⟨cl, hcl, hcr⟩ := closureFor_go e hca
  refine hC1 ?_
  refine kComprehension_free (g := ⟨target, iter, ifs, 0⟩) (gs := []) rfl (fun x => hs _ x) hcl ok.kind (fun x hx hl => ?_) ?_
  · refine byC fun hC2 => ?_
    obtain ⟨i, hi, ex⟩ := List.getElem_of_mem hx
    refine hC2 ?_
    exact lookup_at ok.nd (i := i) (by rw [List.getElem?_eq_getElem hi, ex, ← hl])
  refine wpAny_mono (hiter κ σ s e X) (fun v s1 z => wpAny_mono z (fun it s2 z => z.goS fun κ2 σ2 Ia own St hit k2 p2 X2 hfree hItr hst => ?_) fun _ _ z => z) fun _ _ z => z
  subst hit
  have e2 : EnvR ae σ2 G.env := e.mono p2
  have hlen : σ2.length = st2.length := X2.len
  have hφκ := hItr.freeOf X2 hfree
  have hex := hItr.ex _ _ hst
  refine wpAny_newList (items := []) ?_ (by simp [sizeLine_eq])
  have p3 : σ2 <+: σ2 ++ [s2.heap.objs.size] := List.prefix_append ..
  have X3 := (X2.enter hfree).alloc (s' := { s2 with heap := s2.heap.push { cls := .type "list", data := .seq ([] : List Value).toArray } }) (a := s2.heap.objs.size) (x := .list []) (fresh_none _) (fun b o e => Heap.get?_push_of_some _ e) (Heap.get?_push_size _ rfl) rfl rfl ⟨_, _, rfl, RVL.nil⟩ trivial
  have hfr2 : ∀ L0 : Addr, ∃ L, envFrame L0 (some G.env) = some L ∧ (σ2 ++ [s2.heap.objs.size] ++ [L0])[0]? = some L := fun L0 => (e2.frame hnf).elim fun L h => ⟨L, h.1, get_pre (p3.trans (List.prefix_append ..)) h.2⟩
  refine newEnv_go (bs := []) (Q' := fun _ st0 => st0 = st2 ++ [.list []] ++ [.ns (scope.names.map (·.1)) (List.replicate scope.names.length none)] ++ List.replicate (nCells scope.names) (.cell none)) X3 ((hcr.mono p2).mono p3) ok
    (by simpa using hcn) (fun _ L0 => hfr2 L0) e.globals e.builtins rfl RVL.nil (fun env => by simp only [wStores]) fun κ4 σ4 st4 env4 s4 k4 p4 e4 he4 X4 q4 => ?_
  cases q4
  have e4' : EnvR ⟨scope, st2.length + 1, cellsFrom (st2.length + 2) scope.names ca, envCode .none (some G.env), G.env.qual⟩ σ4 env4 := by simpa using e4
  have hfacts : env4.qual = G.env.qual ∧ env4.code = G.env.code ∧ env4.frame = G.env.frame := by
    obtain ⟨cells4, he4⟩ := he4
    rw [he4]; exact ⟨rfl, rfl, rfl⟩
  have e5 : EnvR (compAe ae scope st2.length ca) σ4 { env4 with scope := relabel scope G.env } := comp_env hnf ok e2 (p3.trans p4) e4' hfacts.1 hfacts.2.1 hfacts.2.2
  have hL4 : σ4[st2.length + 1]? = some env4.locals := e4'.loc
  have hacc4 : σ4[st2.length]? = some s2.heap.objs.size := get_pre p4 (by rw [← hlen]; simp)
  have hlen4 : σ4.length = st2.length + (2 + nCells scope.names) := by rw [X4.len]; simp; lia
  have hst4 : St 0 s4.heap := hItr.frame _ _ _ hst (fun b hb o eo => X4.phi b o ((apart_in hb).trans eo)) fun b o eo => X4.keep b o (k4 b o eo)
  generalize hcenv : ({ env4 with scope := relabel scope G.env } : Env) = cenv at e5
  have hcf : cenv.frame = G.env.frame := by rw [← hcenv]; exact hfacts.2.2
  have loop : codeK (model C.prog C.w) A (.compLoop (.ListComp elt [⟨target, iter, ifs, 0⟩] scope pos) 0 (.ref Ia) (.ref s2.heap.objs.size) cenv) (compPost (model C.prog C.w) A G.E none (Qf κ σ) (.ref s2.heap.objs.size) env4.locals) s4 := by
    refine kCompLoop (CompInv C G own St J st2 its.length κ4 σ4) ?_ (its.length - 0) ⟨0, κ4, σ4, _, rfl, Nat.zero_le _, Kle.refl _, List.prefix_refl _, by simpa using (X4.leave hφκ.1 hφκ.2 hex).1, (X4.leave hφκ.1 hφκ.2 hex).2.1, hst4, h0⟩
    generalize (notedBy (model C.prog C.w) A cenv fun e s' => compPost (model C.prog C.w) A G.E none (Qf κ σ) (.ref s2.heap.objs.size) env4.locals (.error e) s') = EE
    rintro n s' ⟨k, κ', σ', tl, rfl, hk, kle, ple, X', hf', hstk, hj⟩
    by_cases hlt : k < its.length
    · refine hItr.item _ k its[k] s' _ _ (List.getElem?_eq_getElem hlt) hstk fun v h' tk hst1 hkeep hR => ?_
      refine byC fun hN => ?_
      obtain ⟨κc, hkc, X6, rv⟩ := Itr.took (tk := tk) X' hf' (k4.trans kle) hkeep hR
      refine hN ?_
      have e6 : EnvR (compAe ae scope st2.length ca) σ' cenv := e5.mono ple
      refine wpAny_mono (turn (apart G.φ own h') EE cenv k its[k] tl hcf (List.getElem?_eq_getElem hlt) hj κc σ' _ v e6 X6 rv) (fun _ s7 z => z.go fun κ7 σ7 _ st7 k7 p7 X7 _ q7 => ?_) fun _ _ z => z
      refine K.mono (q7 κ7 σ7 s7 (e6.mono p7) X7) (fun okv s8 z => z.go fun κ8 σ8 okb st8 k8 p8 X8 r8 q8 => ?_) fun _ _ z => z
      cases (r8 : okv = okb)
      have k48 : Kle κ4 κ8 := kle.trans (hkc.trans (k7.trans k8))
      have p48 : σ4 <+: σ8 := ple.trans (p7.trans p8)
      cases okv with
      | false => exact CompInv.next hItr hφκ hlen4 hJ hlt k4 k48 p48 X8 hst1 q8
      | true => exact comp_elt (G := ⟨apart G.φ own h', G.κ₀, cenv, EE⟩) q8 (e6.mono (p7.trans p8)) X8 rfl (get_pre p48 hacc4) fun κ10 σ10 st10 s10 k10 p10 X10 q10 => CompInv.next hItr hφκ hlen4 hJ hlt k4 (k48.trans k10) (p48.trans p10) X10 hst1 q10
    · obtain rfl : k = its.length := by lia
      refine hItr.done s' _ _ hstk fun h' tk hkeep => ?_
      have X5 := X'.keepsButs (s' := { s' with heap := h', toks := tk }) hf' hkeep rfl rfl
      have hLk : σ'[st2.length + 1]? = some env4.locals := get_pre ple hL4
      refine (comp_frame X5 (hJ _ _ hj).2 hLk).elim fun m hm => ?_
      exact fin κ σ σ2 κ' σ' tl _ _ _ m e p2 hlen ((p3.trans p4).trans ple) (k2.trans (k4.trans kle)) hj X5 (get_pre ple hacc4) hLk hm
  exact kCompStart_list loop (hItr.self 0 s4 _ _ hst4 loop)
noncomputable def LcTurnK (C : Cx) (A : Around) (G : Gd) (ae : AEnv) (scope : Scope) (ca : List (Str × Nat)) (st2 : List AObj) (target elt : Expr) (ifs : List Expr) (its : List D) (g : D → Option D) : Prop :=
  ∀ φ' E' env' x (acc : List D) (cs : List (Option AV)), x ∈ its → cs.length = nCells scope.names → env'.frame = G.env.frame → wTgt C A ⟨φ', G.κ₀, env', E'⟩ (compAe ae scope st2.length ca) (st2 ++ lcTl scope acc cs) target (.d x) fun st3 => wIfsK C A ⟨φ', G.κ₀, env', E'⟩ (compAe ae scope st2.length ca) st3 ifs fun ok st4 =>
      if ok then wE C A ⟨φ', G.κ₀, env', E'⟩ (compAe ae scope st2.length ca) st4 elt (LcElt scope st2 acc g x)
      else LcSkip scope st2 acc g x st4
theorem lc_dataK {elt target iter : Expr} {ifs : List Expr} {scope : Scope} {pos fpos : Pos} {ca : List (Str × Nat)} {Qf : Kp → List Addr → Value → Shared → Prop} {its : List D} {st2 : List AObj} (g : D → Option D)
    (hnf : noFree ae.scope = true) (ok : ScOk scope) (hca : caOf ae.cells scope.names [] = some ca) (hcn : ((cellsFrom (st2.length + 2) scope.names ca).map (·.1)).Nodup)
    (hs : ∀ env x, foldedSetIterable iter env x = pure x) (hiter : wEI C A G ae target st iter fun its' st2' => its' = its ∧ st2' = st2) (hsz : its.length ≤ sizeLine) (hcl : Closed st2)
    (turn : LcTurnK C A G ae scope ca st2 target elt ifs its g) {Qa : AV → List AObj → Prop} (hq : Qa (.d (.list (its.filterMap g))) st2)
    (fin : ∀ κ σ s acc Ca m, EnvR ae σ G.env → LcEnd C G Qa κ σ acc Ca s → s.heap.Ns Ca m → compPost (model C.prog C.w) A G.E none (Qf κ σ) (.ref acc) Ca (.ok .next) s) :
    ∀ κ σ s, EnvR ae σ G.env → Rel C G.φ G.κ₀ κ σ st s → wpK (model C.prog C.w) A (comprehension (.ListComp elt [⟨target, iter, ifs, 0⟩] scope pos) scope G.env fpos (newList []) false (eval iter G.env) none) (Qf κ σ) G.E s := by
  refine comp_coreK hnf ok hca hcn hs hiter (LcJ scope its g) lcJ_len lcJ_zero ?_ ?_
  · rintro φ' E' env' k x tl hef hx ⟨cs, hc, rfl⟩
    intro κ σ s v e X r
    refine wpAny_mono (turn φ' E' env' x _ cs (List.mem_of_getElem? hx) hc hef κ σ s v e X r) (fun _ s1 z => z.go fun κ1 σ1 _ st3 k1 p1 X1 _ q1 => ⟨κ1, σ1, (), st3, k1, p1, X1, trivial, ?_⟩) fun _ _ z => z
    refine WK.mono q1 fun okb st4 q4 => ?_
    cases okb with
    | false => exact LcSkip.next hx q4
    | true => exact W.mono q4 fun a st5 q5 => LcElt.post hsz hx q5
  · exact fun κ σ σ2 κ' σ' tl s' acc Ca m e p hl p' k hj X hacc hCa hm => fin κ σ s' acc Ca m e (lc_end hcl hq p hl p' k hj X hacc hCa) hm
theorem wEK_lcD {elt target iter : Expr} {ifs : List Expr} {scope : Scope} {pos : Pos} {its : List D} {st2 : List AObj} {Q : AV → List AObj → Prop} (ca : List (Str × Nat)) (g : D → Option D)
    (hnf : noFree ae.scope = true) (ok : ScOk scope) (hca : caOf ae.cells scope.names [] = some ca) (hcn : ((cellsFrom (st2.length + 2) scope.names ca).map (·.1)).Nodup)
    (hs : ∀ env x, foldedSetIterable iter env x = pure x) (hiter : wEI C A G ae target st iter fun its' st2' => its' = its ∧ st2' = st2) (hsz : its.length ≤ sizeLine) (hcl : Closed st2)
    (turn : LcTurnK C A G ae scope ca st2 target elt ifs its g) (hq : Q (.d (.list (its.filterMap g))) st2) : wEK C A G ae st (.ListComp elt [⟨target, iter, ifs, 0⟩] scope pos) Q := fun κ σ s e X => by
  rw [eval_ListComp]
  exact lc_dataK (Qf := fun κ σ v s' => PA RV C G.φ G.κ₀ κ σ Q v s') g hnf ok hca hcn hs hiter hsz hcl turn hq (fun κ σ s acc Ca m _ h hm => lc_eval h hm) κ σ s e X
theorem LcTurnK.of {scope : Scope} {ca : List (Str × Nat)} {st2 : List AObj} {x : Str} {p : Pos} {elt : Expr} {ifs : List Expr} {its : List D} {g : D → Option D} (hnc : nCells scope.names = 0) (h1 : (relabelS scope ae.scope).names[1]? = some (x, .local)) (h1' : (scope.names.map (·.1))[1]? = some x) (hcl : Closed st2)
    (h : ∀ φ' E' env' d (acc : List D), d ∈ its → env'.frame = G.env.frame → wIfsK C A ⟨φ', G.κ₀, env', E'⟩ (compAe ae scope st2.length ca) (cst st2 scope acc d) ifs fun ok st4 =>
      if ok then wE C A ⟨φ', G.κ₀, env', E'⟩ (compAe ae scope st2.length ca) st4 elt fun a st5 => ∃ y, a = .d y ∧ g d = some y ∧ ∃ r, st5 = cst st2 scope acc d ++ r
      else g d = none ∧ ∃ r, st4 = cst st2 scope acc d ++ r) : LcTurnK C A G ae scope ca st2 (.Name x p) elt ifs its g := by
  intro φ' E' env' d acc cs hd hcs hef
  have hcs0 : cs = [] := List.eq_nil_of_length_eq_zero (by rw [hcs, hnc])
  subst hcs0
  refine wTgt_name (st_local 1 h1 bget h1' ?_)
  rw [show (st2 ++ lcTl scope acc []) = st2 ++ AObj.list (acc.map .d) :: .ns (scope.names.map (·.1)) (List.replicate scope.names.length none) :: [] from rfl, show (compAe ae scope st2.length ca).L = st2.length + 1 from rfl, bset]
  refine WK.mono (h φ' E' env' d acc hd hef) fun ok st4 q => ?_
  cases ok with
  | false => exact cst_skip hnc hcl q
  | true => exact W.mono q fun a st5 q => cst_elt hnc hcl q
end
end Mine
end
section
set_option maxRecDepth 100000
open PySem PySem.W PySem.Calls PyProof.Rows PyProof.V PySem.SeqAt
open PySem.Sem (wp)
namespace Mine
noncomputable def mkC (p : Program) (w : World) (s : Shared) (tabs : List (Addr × Addr)) (tq : Pos → Str) : Cx := ⟨p, w, fun b => if b ∈ tabs.map (·.2) then none else s.heap.get? b, tabs.map (·.2), tq, s.os⟩
noncomputable def oAt (K : Frag) (a : Addr) : Obj := match K.lookup a with | some o => o | none => { cls := .none, data := .plain }
noncomputable def fdAt (K : Frag) (a : Addr) : FuncData := match (oAt K a).data with | .func fd => fd | _ => default
noncomputable def vsAt (K : Frag) (a : Addr) : Array Value := match (oAt K a).data with | .fields vs => vs | _ => #[]
noncomputable def tokAt (K : Frag) (a : Addr) : Tok := match ((vsAt K a)[1]? : Option Value) with | some (.str _ t) => t | _ => default
structure KIn (C : Cx) (K : Frag) : Prop where
  at_ : ∀ a o, K.lookup a = some o → C.P0 a = some o
theorem mem_keys {K : Frag} : ∀ {a : Addr} {o : Obj}, K.lookup a = some o → a ∈ K.map (·.1) := by
  induction K with
  | nil => intro a o h; cases h
  | cons p r ih =>
    intro a o h
    obtain ⟨b, q⟩ := p
    rw [List.lookup_cons] at h
    cases e : a == b with
    | true => rw [eq_of_beq e]; exact List.mem_cons_self
    | false => rw [e] at h; exact List.mem_cons_of_mem _ (ih h)
theorem kin_of {p : Program} {w : World} {s : Shared} {tabs : List (Addr × Addr)} {tq : Pos → Str} {K : Frag} (X : K.In s.heap) (h : (K.map (·.1)).all (fun a => !(tabs.map (·.2)).contains a) = true) : KIn (mkC p w s tabs tq) K := ⟨fun a o e => by
  have hm := List.all_eq_true.mp h a (mem_keys e)
  have hn : a ∉ tabs.map (·.2) := fun q => by
    rw [List.contains_iff_mem.mpr q] at hm; cases hm
  show (if _ then _ else _) = _
  rw [if_neg hn]; exact X a o e⟩
section
variable {C : Cx} {K : Frag}
theorem KIn.o (X : KIn C K) {a : Addr} (h : (K.lookup a).isSome = true) : C.P0 a = some (oAt K a) := by
  unfold oAt
  cases q : K.lookup a with
  | none => rw [q] at h; cases h
  | some o => exact X.at_ a o q
theorem KIn.in_ (X : KIn C K) {h : Heap} (k : ∀ b o, C.P0 b = some o → h.get? b = some o) : K.In h := fun a o e => k _ _ (X.at_ a o e)
theorem fnAt_of (X : KIn C K) (a c : Addr) (body : List Stmt) (h0 : (K.lookup a).isSome = true) (h1 : (oAt K a).data = .func (fdAt K a)) (hb : (fdAt K a).body = .stmts body) (hcl : (fdAt K a).closure = []) (hg : (fdAt K a).globals = mainGlobals) (hbi : (fdAt K a).builtins = builtinsNs)
    (hco : (fdAt K a).scope.isCoroutine = false) (hge : (fdAt K a).scope.isGenerator = false) (hc : (fdAt K a).code = .ref c) (h2 : (K.lookup c).isSome = true) (h3 : (oAt K c).data = .fields (vsAt K c)) (h4 : (vsAt K c)[1]? = some (.str (fdAt K a).qualname (tokAt K c))) : FnAt C (.ref a) (fdAt K a) body :=
  ⟨⟨a, _, rfl, X.o h0, h1⟩, hb, hcl, hg, hbi, ⟨c, _, _, _, hc, X.o h2, h3, h4⟩, hco, hge⟩
end
structure NsG (C : Cx) (K : Frag) (mg mb : Str → Option Value) : Prop where
  g : ∀ h : Heap, (∀ b o, C.P0 b = some o → h.get? b = some o) → h.Ns mainGlobals mg
  b : ∀ h : Heap, (∀ b o, C.P0 b = some o → h.get? b = some o) → h.Ns builtinsNs mb
  builtins : ∀ x : Str, x ≠ "__name__" → mb x = bootBuiltins x
  get : ∀ x v, nsIn K mainGlobals x = some (some v) → mg x = some v
  no : ∀ x, nsIn K mainGlobals x = some none → mg x = none
section
variable {C : Cx} {K : Frag} {mg mb : Str → Option Value}
theorem NsG.user (N : NsG C K mg mb) {x : Str} {v : Value} (e : nsIn K mainGlobals x = some (some v)) : GlobIs C x v := fun h k => .inl ⟨mg, N.g h k, N.get x v e⟩
theorem NsG.boot (N : NsG C K mg mb) {x : Str} {v : Value} (e : nsIn K mainGlobals x = some none) (hn : x ≠ "__name__") (hv : bootBuiltins x = some v) : GlobIs C x v := fun h k => .inr ⟨mg, mb, N.g h k, N.no x e, N.b h k, (N.builtins x hn).trans hv⟩
end
theorem ns_keep {h h' : Heap} {a : Addr} {m : Str → Option Value} (n : h.Ns a m) (k : ∀ o, h.get? a = some o → h'.get? a = some o) : h'.Ns a m := let ⟨o, es, ep, e, r⟩ := n; ⟨o, es, ep, k o e, r⟩
theorem p0_keep {p : Program} {w : World} {s : Shared} {tabs : List (Addr × Addr)} {tq : Pos → Str} {h : Heap} {a : Addr} {o : Obj} (hn : a ∉ tabs.map (·.2)) (k : ∀ b o, (mkC p w s tabs tq).P0 b = some o → h.get? b = some o) (e : s.heap.get? a = some o) : h.get? a = some o := k a o (by
  show (if _ then _ else _) = _
  rw [if_neg hn]; exact e)
theorem nsG_of {p q : Program} {loose : List Str} {mean : ExcName → Option Value} {w : World} {s : Shared} {tabs : List (Addr × Addr)} {tq : Pos → Str} {K : Frag} {mg mb : Str → Option Value} (X : K.In s.heap) (T : Top q loose mean mg mb s.heap)
    (h3 : mainGlobals ∉ tabs.map (·.2)) (h0 : builtinsNs ∉ tabs.map (·.2)) : NsG (mkC p w s tabs tq) K mg mb where
  g := fun h k => ns_keep T.g fun o e => p0_keep h3 k e
  b := fun h k => ns_keep T.b fun o e => p0_keep h0 k e
  builtins := T.builtins
  get := fun x v e => mg_of X T.g e
  no := fun x e => mg_none_of X T.g e
theorem noLim_of {p q : Program} {loose : List Str} {mean : ExcName → Option Value} {w : World} {s : Shared} {tabs : List (Addr × Addr)} {tq : Pos → Str} {mg mb : Str → Option Value} (T : Top q loose mean mg mb s.heap) (h3 : cStatics ∉ tabs.map (·.2)) : NoLim (mkC p w s tabs tq) := fun h k =>
  T.nolimit.at fun o e => p0_keep h3 k e
theorem lamOk_of {p q : Program} {loose : List Str} {mean : ExcName → Option Value} {w : World} {s : Shared} {tabs : List (Addr × Addr)} {tq : Pos → Str} {K : Frag} {mg mb : Str → Option Value} (X : K.In s.heap) (XC : KIn (mkC p w s tabs tq) K) (T : Top q loose mean mg mb s.heap) {c P bm : Addr} (hm : (c, P) ∈ tabs)
    (h3 : mainGlobals ∉ tabs.map (·.2)) (hcd : codeHdIn K c P = true) (hbm : nsIn K mainGlobals "__builtins__" = some (some (.ref bm))) (hb : bm ∉ tabs.map (·.2)) (hb3 : bm ≠ mainGlobals) : LamOk (mkC p w s tabs tq) (.ref c) P where
  mem := List.mem_map_of_mem hm
  code := ⟨c, rfl, fun h k => codeHd_of_K (XC.in_ k) hcd⟩
  main := fun h k => by
    refine byC fun hC1 => ?_
    obtain ⟨bm', ob, e1, e2, e3, e4, e5, e6⟩ := T.bmain
    refine hC1 ?_
    have e := mg_of X T.g hbm
    rw [e] at e1; cases e1
    have hP : ∀ a, a ∉ tabs.map (·.2) → a ≠ P := fun a ha q => ha (q ▸ List.mem_map_of_mem hm)
    exact ⟨mg, ns_keep T.g fun o e => p0_keep h3 k e, hP _ h3, bm, ob, e, e2, hb3, hP _ hb, p0_keep hb k e3, e4, e5, e6⟩
theorem base_of {p : Program} {w : World} {s : Shared} {tabs : List (Addr × Addr)} {tq : Pos → Str} (hT : TabsAt tabs s.heap) (hg : s.gens = #[]) : Base (mkC p w s tabs tq) (mkC p w s tabs tq).P0 s where
  prog := Kle.refl _
  keep := fun b o e => by
    have e : (if b ∈ tabs.map (·.2) then none else s.heap.get? b) = some o := e
    split at e
    · cases e
    · exact e
  tabs := fun P hP => by
    refine byC fun hC1 => ?_
    obtain ⟨q, hq, rfl⟩ := List.mem_map.mp hP
    refine hC1 ?_
    refine ⟨⟨#[], (hT q hq).2, ?_, fun pos cv e => ?_⟩, ?_⟩
    · trivial
    · cases e
    · show (if _ then _ else _) = _
      exact if_pos hP
  gens := hg
  os := rfl
theorem goodWG_true {cw : ClaimW} {cl : Str → Option Addr} {mean : ExcName → Option Value} {args : List WData} {s₁ s' : Shared} {tabs : List (Addr × Addr)} (hT : TabsAt tabs s₁.heap) (hr : ∀ a x, cw.raises a x = false) (hp : cw.post args (.bool true) args = true)
    (keep : ∀ b o, b ∉ tabs.map (·.2) → s₁.heap.get? b = some o → s'.heap.get? b = some o) (hgr : ∀ q ∈ tabs, GrownAt q.2 s'.heap) (hos : s'.os = s₁.os) (hg : s'.gens = #[]) : GoodWG cw cl mean args s₁ (.ok (.ret (.bool true))) s' := by
  have grown : ∀ b o, b ∈ tabs.map (·.2) → s₁.heap.get? b = some o → isCodeTable s₁.heap b ∧ o = tabObj #[] ∧ ∃ ps, s'.heap.get? b = some (tabObj ps) := fun b o hb e => by
    obtain ⟨q, hq, rfl⟩ := List.mem_map.mp hb
    have e2 := (hT q hq).2
    rw [e] at e2
    exact ⟨((hT q hq).1.tab (hT q hq).2).isCodeTable, Option.some.inj e2, hgr q hq⟩
  refine ⟨.inl ⟨.bool true, .bool true, [], rfl, hr args, .bool true, hp, fun _ => ⟨.nil, fun _ ha => nomatch ha⟩⟩, ⟨fun b o e => ?_, fun b o e => ?_⟩, hos, .of_eq hg⟩
  · by_cases hb : b ∈ tabs.map (·.2)
    · obtain ⟨ht, rfl, ps, hP⟩ := grown b o hb e
      exact .inr (.inl ⟨ht, rfl, #[], ps, rfl, by rw [Array.empty_append]; exact hP⟩)
    · exact .inl (keep b o hb e)
  · by_cases hb : b ∈ tabs.map (·.2)
    · obtain ⟨_, _, ps, hP⟩ := grown b o hb e
      exact ⟨_, hP⟩
    · exact ⟨o, keep b o hb e⟩
theorem law_callK {C : Cx} {A : Around} {E : Value → Shared → Prop} {κ : Kp} {s : Shared} {f : Value} {fd : FuncData} {body : List Stmt} {n : Nat} {x : Str} {a : AV} {v : Value} (F : FnAt C f fd body) (hl : NoLim C) (ok : ScOk fd.scope) (hcn : ((cellsFrom 1 fd.scope.names []).map (·.1)).Nodup)
    (hbind : ∀ v, bindArgs fd ⟨[v], []⟩ = pure [(x, v)])
    (run : ∀ G A', wStores C A' G ⟨fd.scope, 0, cellsFrom 1 fd.scope.names [], fd.code, fd.qualname ++ ".<locals>."⟩ [(x, a)] ([.ns (fd.scope.names.map (·.1)) (List.replicate fd.scope.names.length none)] ++ List.replicate (nCells fd.scope.names) (.cell none))
      fun st0 => ∀ E, G.env.scope.kind = .function → wSsK C (A.deeper G.env) (G.at E) ⟨fd.scope, 0, cellsFrom 1 fd.scope.names [], fd.code, fd.qualname ++ ".<locals>."⟩ st0 body (retP fun d => d = .bool true))
    (hA : AOk A (n + 1)) (B : Base C κ s) (ra : RVL κ [] [a] [v]) : wpK (model C.prog C.w) A (call f [v]) (FnPost C κ s fun d => d = .bool true) E s := by
  refine byC fun hC1 => ?_
  obtain ⟨b, o, rfl, ha, hd⟩ := F.at_
  refine hC1 ?_
  have hp0 : ∀ b o, C.P0 b = some o → s.heap.get? b = some o := fun b o e => B.keep _ _ (B.prog _ _ e)
  have hs := hp0 _ _ ha
  refine K.call (codeK_call_function (by have := hA.depth; rw [recursionLimit]; omega) hs hd F.co F.gen F.body (F.code.rec hp0) ?_)
  rw [hbind]
  refine wpAny_pure ?_
  rw [F.closure]
  refine newEnv_go (bs := [(x, a)]) (Q' := fun env st0 => ∀ E, env.scope.kind = .function → wSsK C (A.deeper env) ((⟨(phiS C s), κ, env, fun _ _ => False⟩ : Gd).at E) ⟨fd.scope, 0, cellsFrom 1 fd.scope.names [], fd.code, fd.qualname ++ ".<locals>."⟩ st0 body (retP fun d => d = .bool true)) (Rel.start B) CR.nil ok hcn (fun _ L0 => ⟨L0, rfl, rfl⟩) F.globals F.builtins rfl ra
    (fun env => ?_) fun κ' σ' st' env s' k p e ⟨cells, he⟩ X q => ?_
  · exact run ⟨_, κ, env, _⟩ A.in1
  · refine ⟨hl _ X.p0, codeK_func ?_⟩
    refine K.mono (q (fun _ _ => False) e.kind κ' σ' s' e X) (fun fl s2 z => z.go fun κ2 σ2 f st2 k2 p2 X2 r2 q2 => ?_) fun _ _ z => z.elim
    have := Rel.finish (k.trans k2) X2 r2 q2
    cases fl <;> exact this
end Mine
end
section
open PySem PySem.Calls PyProof.Rows PySem.W PySem.SeqAt PyProof.V
set_option maxRecDepth 100000
namespace Mine
noncomputable def ordersD : D := .list (ordersOf.map ordD)
noncomputable abbrev L3 (a b c : Int) (p q r s : Pos) : Expr := .List [.Constant (.int a) 0 p, .Constant (.int b) 0 q, .Constant (.int c) 0 r] s
theorem stm8 : ∃ p0 p1 p2 a1 a2 a3 a4 b1 b2 b3 b4 c1 c2 c3 c4 d1 d2 d3 d4 e1 e2 e3 e4, stm 8 = .Assign [.Name "orders" p0] (.List [L3 0 2 1 a1 a2 a3 a4, L3 1 0 2 b1 b2 b3 b4, L3 1 2 0 c1 c2 c3 c4, L3 2 0 1 d1 d2 d3 d4, L3 2 1 0 e1 e2 e3 e4] p1) p2 := ⟨_, _, _, _, _, _, _, _, _, _, _, _, _, _, _, _, _, _, _, _, _, _, _, rfl⟩
theorem starList {es : List Expr} {p : Pos} {r : List Expr} (env : Env) : starEach (.List es p :: r) env = (false, eval (.List es p) env) :: starEach r env := rfl
theorem wS_assignList {C : Cx} {A : Around} {G : Gd} {ae : AEnv} {st : List AObj} {x : Str} {p q pos : Pos} {es : List Expr} {Q : AF → List AObj → Prop} (h : wArgs C A G ae st q es fun as st1 => ∃ ds : List D, as = ds.map .d ∧ ds.length ≤ sizeLine ∧ wStore C A G ae st1 x (.d (.list ds)) fun st2 => Q .next st2) : wS C A G ae st (.Assign [.Name x p] (.List es q) pos) Q :=
  wS_assign (fun _ => rfl) (wE_listD h)
section
variable {C : Cx} {A : Around} {G : Gd} {ae : AEnv} {st : List AObj}
theorem wArgs_three {a b c : Int} {pos pos' p1 p2 p3 : Pos} {r : List Expr} {Q : List AV → List AObj → Prop} (h : wArgs C A G ae st pos' r fun as st2 => Q (.d (intD [a, b, c]) :: as) st2) : wArgs C A G ae st pos' (L3 a b c p1 p2 p3 pos :: r) Q :=
  wArgs_cons starList (three_ints h)
theorem wS_five {x : Str} {p0 p1 p2 : Pos} {i1 i2 i3 j1 j2 j3 k1 k2 k3 l1 l2 l3 m1 m2 m3 : Int} {a1 a2 a3 a4 b1 b2 b3 b4 c1 c2 c3 c4 d1 d2 d3 d4 e1 e2 e3 e4 : Pos} {Q : AF → List AObj → Prop}
    (h : wStore C A G ae st x (.d (.list [intD [i1, i2, i3], intD [j1, j2, j3], intD [k1, k2, k3], intD [l1, l2, l3], intD [m1, m2, m3]])) fun st2 => Q .next st2) :
    wS C A G ae st (.Assign [.Name x p0] (.List [L3 i1 i2 i3 a1 a2 a3 a4, L3 j1 j2 j3 b1 b2 b3 b4, L3 k1 k2 k3 c1 c2 c3 c4, L3 l1 l2 l3 d1 d2 d3 d4, L3 m1 m2 m3 e1 e2 e3 e4] p1) p2) Q := by
  refine wS_assignList ?_
  refine wArgs_three ?_
  refine wArgs_three ?_
  refine wArgs_three ?_
  refine wArgs_three ?_
  refine wArgs_three ?_
  refine wArgs_nil ⟨[intD [i1, i2, i3], intD [j1, j2, j3], intD [k1, k2, k3], intD [l1, l2, l3], intD [m1, m2, m3]], rfl, by rw [sizeLine_eq]; exact Nat.le_of_ble_eq_true rfl, h⟩
end
section
variable {C : Cx} {A : Around} {G : Gd} {cd : Value} {ql : Str} {v : LV} {ext : List AObj} {S : List Int} {Q : AF → List AObj → Prop}
theorem s8 (q : Q .next (lst { v with orders := some ordersD } ext)) : wS C A G (lae cd ql) (lst v ext) (stm 8) Q := by
  obtain ⟨p0, p1, p2, a1, a2, a3, a4, b1, b2, b3, b4, c1, c2, c3, c4, d1, d2, d3, d4, e1, e2, e3, e4, e⟩ := stm8
  rw [e]
  with_reducible refine wS_five (C := C) (A := A) (G := G) (ae := lae cd ql) (st := lst v ext) (Q := Q) (x := "orders") ?_
  exact st_local 8 rfl rfl rfl q
set_option maxHeartbeats 1000000 in
theorem s9 {n : Nat} (hA : AOk A (n + 8)) {ff : Value} (Fg : FirstsG C ff) {T : List (List Int)} (hF : FirstsOk T [0, 1, 2]) (ht : v.table = some (tabD T)) (hp : v.places = some placesD) (q : Q .next (lst { v with firsts := some (intD (firstsOf T [0, 1, 2])) } ext)) : wS C A G (lae cd ql) (lst v ext) (stm 9) Q := by
  refine wS_assign (fun _ => rfl) (wE_c3 (fun _ => rfl) (fun _ => rfl) (fun _ => rfl) (wE_glob 26 Fg.glob rfl (wE_cell 23 0 10 rfl rfl (cellGet ht) (three_ints (wE_local 7 rfl rfl rfl (varGet hp) ?_)))))
  refine wCall_fn (Fg.ok T [0, 1, 2] hF) (hA.mono (by lia)) (all3 trivial trivial trivial) (fun a ha => nomatch ha) ?_
  rintro d rfl
  exact st_local 9 rfl rfl rfl q
end
end Mine
end
section
open PySem PySem.Calls PyProof.Rows PySem.W PySem.SeqAt PyProof.V
set_option maxRecDepth 100000
namespace Mine
noncomputable def d6 (S : List Int) : Int := (drawnOf S).getD 6 0
noncomputable def orderAt (S : List Int) (c : Nat) : List Nat := ordersOf.getD ((d6 S + (c : Int)).fmod 5).toNat []
theorem mod5 (x : Int) : (x.fmod 5).toNat < 5 ∧ 0 ≤ x.fmod 5 := by
  have h1 := Int.fmod_nonneg_of_pos x (b := 5) (by decide)
  have h2 := Int.fmod_lt_of_pos x (b := 5) (by decide)
  lia
theorem orders_at {k : Nat} (h : k < 5) : (ordersOf.map ordD)[k]? = some (ordD (ordersOf.getD k [])) := by
  match k, h with
  | 0, _ | 1, _ | 2, _ | 3, _ | 4, _ => rfl
theorem firsts_len (T : List (List Int)) (ord : List Nat) : (firstsOf T ord).length = ord.length := by simp [firstsOf]
theorem firsts_at {T : List (List Int)} {ord : List Nat} {c : Nat} (h : c < ord.length) : (firstsOf T ord).getD c 0 = -28 + (firstAt T ord ((c : Int) + 1) : Int) := by
  unfold firstsOf
  rw [List.getD_eq_getElem?_getD, List.getElem?_map, List.getElem?_range h]; rfl
structure TurnsOk (S : List Int) (T : List (List Int)) : Prop where
  ok : ∀ c : Nat, c < 3 → FirstsOk T (orderAt S c)
  same : ∀ c : Nat, c < 3 → bsR (keyOf T (orderAt S c)) c 57 0 57 = firstAt T [0, 1, 2] ((c : Int) + 1)
section
variable {C : Cx} {A : Around} {G : Gd} {cd : Value} {ql : Str} {v : LV} {ext : List AObj} {S : List Int} {Q : AF → List AObj → Prop}
theorem lst_sub {w w' : LV} {ext ext' : List AObj} (h : LVok w' ext) (e : w = w') (hx : ext' = ext) : Sub (lst w' ext).length (lst w ext') (lst w' ext) := by
  subst e; subst hx
  exact Sub.of rfl (by
    have : ∀ (l : List AObj) n, (∀ x ∈ l, x.below n) → SubL n l l := by
      intro l n hl
      induction l with
      | nil => exact SubL.nil
      | cons a r ih => exact SubL.cons (oLe_self (hl a List.mem_cons_self)) (ih fun y hy => hl y (List.mem_cons_of_mem _ hy))
    refine this _ _ fun x hx => ?_
    obtain ⟨i, hi, e⟩ := List.getElem_of_mem hx
    exact lst_closed h i x (by rw [List.getElem?_eq_getElem hi, e]))
noncomputable abbrev lv10 (v : LV) (a b c : Option D) : LV := { v with count := a, order := b, place := c }
set_option maxHeartbeats 4000000 in
theorem s10 {n : Nat} (hA : AOk A (n + 7)) (hl : NoLim C) {cf bf : Value} {bfd : FuncData} (hc : CountG C cf) (B : BisG C 1 bf bfd) (gb : GlobIs C "bisect_right" bf) (gr : GlobIs C "range" (.type "range")) (gl : GlobIs C "len" (.builtin "len"))
    (P : Addr) (L : LamOk C cd P) (htq : ∀ pos' : Pos, ((((146 : Nat) : Int) == pos'.line) = true) → ((((48 : Nat) : Int) == pos'.col) = true) → C.tq pos' = ql ++ "<lambda>")
    {T : List (List Int)} (hF : FirstsOk T [0, 1, 2]) (hT : TurnsOk S T) (hv : LVok v ext) (hd : v.drawn = some (intD (drawnOf S))) (ht : v.table = some (tabD T)) (hp : v.places = some placesD) (ho : v.orders = some ordersD) (hf : v.firsts = some (intD (firstsOf T [0, 1, 2])))
    (q : ∀ a b c, Q .next (lst (lv10 v a b c) (ext ++ [.raw (RangeO 0 3)]))) : wS C A G (lae cd ql) (lst v ext) (stm 10) Q := by
  have hsz := sizeLine_eq
  refine wS_forI (lst v (ext ++ [.raw (RangeO 0 3)])).length (upto 0 3) (fun k st => ∃ a b c, st = lst (lv10 v a b c) (ext ++ [.raw (RangeO 0 3)])) (fun _ _ => rfl) ?_ ?_ ?_ ?_
  · rintro k st1 ⟨a, b, c, rfl⟩; rfl
  · refine wEI_of (wE_c1 (fun _ => rfl) (wE_glob 24 gr rfl (wE_int (wCall_ty (bi_range1 ?_)))))
    exact itr_range (i := (lst v ext).length) (a := 0) (b := 3) hA.handled (by simp) (by lia) (by lia) ⟨rfl, _, _, _, rfl⟩
  · rintro φ' E' k x st1 hx ⟨a, b, c, rfl⟩
    obtain ⟨rfl, hkl⟩ := upto_get hx
    have m5 := mod5 (d6 S + (k : Int))
    have hO := hT.ok k hkl
    have hsm := hT.same k hkl
    refine wTgt_name (st_local 10 rfl rfl rfl ?_)
    rw [show ((0 : Int) + (k : Int)) = (k : Int) by lia]
    show wSs _ _ _ _ (lst (lv10 v (some (.int (k : Int))) b c) (ext ++ [.raw (RangeO 0 3)])) _ _
    refine wSs_cons (wS_assign (fun _ => rfl) (wE_sub (fun _ _ => ⟨_, rfl⟩) (wE_local 8 rfl rfl rfl (varGet ho) (wE_bin (wE_bin (wE_sub (fun _ _ => ⟨_, rfl⟩) (wE_cell 2 7 3 rfl rfl (cellGet hd) (wE_int ?_))))))))
    refine sub_list (l := ((drawnOf S).map PyData.int).map .d) (x := .d (.int (d6 S))) rfl (by decide) (by decide) (intsAt_ (by rw [drawn_len]; decide)) ?_
    refine wE_local 10 rfl rfl rfl rfl (add_ii (wE_int (mod_ii (by decide) ?_)))
    refine sub_list (l := (ordersOf.map ordD).map .d) (x := .d (ordD (orderAt S k))) rfl m5.2 (by lia) (by rw [List.getElem?_map, orders_at m5.1]; rfl) ?_
    refine st_cell 22 1 9 rfl rfl rfl ?_
    show wSs _ _ _ _ (lst (lv10 v (some (.int (k : Int))) (some (ordD (orderAt S k))) c) (ext ++ [.raw (RangeO 0 3)])) _ _
    refine wSs_cons (wS_assign (fun _ => rfl) ?_)
    refine wE_callLam (P := P) [("table", 10), ("order", 9)] (fun _ => rfl) L (fun _ => rfl) rfl htq (htq _ rfl rfl) ?_
    refine wE_glob 27 gb rfl ?_
    refine wArgs_cons (fun _ => rfl) (wE_local 7 rfl rfl rfl (varGet hp) (wArgs_cons (fun _ => rfl) (wE_local 10 rfl rfl rfl rfl (wArgs_nil ?_))))
    refine wLam_fn (n := 7) (ds := [tabD T, ordD (orderAt S k)]) (hA.mono (by lia)) ⟨by decide, rfl, fun j x i d e1 e2 => ?_⟩ (all2 trivial trivial) (fun φf κf kf hφt hL => bisR_2k (g := keyOf T (orderAt S k)) hl gl B hφt (upto (-28) 57) (k : Int) (by rw [upto_len]; decide) rfl (fun i d hd => ?_)) ?_
    · match j, e1, e2 with
      | 0, e1, e2 => cases e1; cases e2; exact cellGet ht
      | 1, e1, e2 => cases e1; cases e2; rfl
    · obtain ⟨rfl, hi⟩ := upto_get hd
      exact lamCount_ok hl hc T hO.tab _ hO.ord3 hO.len (-28 + (i : Int)) (by lia) (hO.heads i hi) _ _ _ _ _ _ _ _ _ _ hL
    · rintro d rfl
      rw [upto_len, hsm]
      have hfk := hF.found k (by simpa using hkl)
      refine st_local 4 rfl rfl rfl ?_
      show wSs _ _ _ _ (lst (lv10 v (some (.int (k : Int))) (some (ordD (orderAt S k))) (some (.int (firstAt T [0, 1, 2] ((k : Int) + 1) : Int)))) (ext ++ [.raw (RangeO 0 3)])) _ _
      refine wSs_cons (wS_if (wB_cmp rfl (wE_sub (fun _ _ => ⟨_, rfl⟩) (wE_local 7 rfl rfl rfl (varGet hp) (wE_local 4 rfl rfl rfl rfl ?_)))))
      refine sub_list (l := (upto (-28) 57).map .d) (x := .d (.int (-28 + (firstAt T [0, 1, 2] ((k : Int) + 1) : Int)))) rfl (by lia) (by lia) (by rw [Int.toNat_natCast, List.getElem?_map, upto_at hfk]; rfl) ?_
      refine wE_sub (fun _ _ => ⟨_, rfl⟩) (wE_local 9 rfl rfl rfl (varGet hf) (wE_local 10 rfl rfl rfl rfl ?_))
      refine sub_list (l := ((firstsOf T [0, 1, 2]).map PyData.int).map .d) (x := .d (.int (-28 + (firstAt T [0, 1, 2] ((k : Int) + 1) : Int)))) rfl (by lia) (by lia) (by rw [Int.toNat_natCast, intsAt_ (by rw [firsts_len]; exact hkl), firsts_at (by simpa using hkl)]) ?_
      refine ne_same hA (shInt (n := 0)) (by decide) (tr_b (wSs_nil (wSs_nil ⟨_, lst_sub (w' := lv10 v (some (.int (k : Int))) (some (ordD (orderAt S k))) (some (.int (firstAt T [0, 1, 2] ((k : Int) + 1) : Int)))) ?_ rfl rfl, _, _, _, rfl⟩)))
      exact ⟨(hv.more below_raw).found, (hv.more below_raw).changes, (hv.more below_raw).words, (hv.more below_raw).ext⟩
  · rintro E' st1 ⟨a, b, c, rfl⟩
    exact wSs_nil (q a b c)
end
end Mine
end
section
open PySem PySem.Calls PyProof.Rows PySem.W PySem.SeqAt PyProof.V
set_option maxRecDepth 100000
namespace Mine
theorem RVL.four {κ : Kp} {σ : List Addr} {a b c d : AV} {v u w z : Value} (h : RVL κ σ [a, b, c, d] [v, u, w, z]) : RV κ σ a v ∧ RV κ σ b u ∧ RV κ σ c w ∧ RV κ σ d z := by
  obtain ⟨v', e0, r0⟩ := h.2 0 a rfl
  obtain ⟨u', e1, r1⟩ := h.2 1 b rfl
  obtain ⟨w', e2, r2⟩ := h.2 2 c rfl
  obtain ⟨z', e3, r3⟩ := h.2 3 d rfl
  cases e0; cases e1; cases e2; cases e3
  exact ⟨r0, r1, r2, r3⟩
section
variable {C : Cx} {φf κf : Kp} {f : Value} {fd : FuncData} {nk : Nat}
theorem bisR_3 (hl : NoLim C) (gl : GlobIs C "len" (.builtin "len")) (B : BisG C 1 f fd) (hφt : ∀ b ∈ C.tabs, φf b = none) (as : List D) (x : Int) (lo : Nat) (hlo : lo ≤ as.length) (hsz : as.length < 2 ^ 40) (g : Nat → Int) (hk : ∀ (i : Nat) (d : D), as[i]? = some d → d = PyData.int (g i)) :
    FnOk C φf κf (nk + 1) f [.d (.list as), .d (.int x), .d (.int (lo : Int))] [] [] fun r => r = PyData.int (bsR g x (as.length - lo) lo as.length) :=
  bisR_ok hl gl B hφt as x lo .none as.length (.inr ⟨rfl, rfl⟩) (Nat.le_refl _) hsz hlo g (.d .none) (.inl ⟨rfl, hk⟩) _ _ _ fun s vs kvs hp hv hkv => by
    obtain ⟨v, u, w, rfl⟩ := len3 hv
    obtain ⟨t, hb⟩ := bis_bind3 B rfl v u w s hp
    exact ⟨_, hb, rfl, fun κ r _ => by
      obtain ⟨r1, r2, r3⟩ := r.three'
      exact .cons r1 (.cons r2 (.cons r3 (.cons RV.none (.cons RV.none .nil))))⟩
theorem bisL_3 (hl : NoLim C) (gl : GlobIs C "len" (.builtin "len")) (B : BisG C 2 f fd) (hφt : ∀ b ∈ C.tabs, φf b = none) (as : List D) (x : Int) (lo : Nat) (hlo : lo ≤ as.length) (hsz : as.length < 2 ^ 40) (g : Nat → Int) (hk : ∀ (i : Nat) (d : D), as[i]? = some d → d = PyData.int (g i)) :
    FnOk C φf κf (nk + 1) f [.d (.list as), .d (.int x), .d (.int (lo : Int))] [] [] fun r => r = PyData.int (bsL g x (as.length - lo) lo as.length) :=
  bisL_ok hl gl B hφt as x lo .none as.length (.inr ⟨rfl, rfl⟩) (Nat.le_refl _) hsz hlo g (.d .none) (.inl ⟨rfl, hk⟩) _ _ _ fun s vs kvs hp hv hkv => by
    obtain ⟨v, u, w, rfl⟩ := len3 hv
    obtain ⟨t, hb⟩ := bis_bind3 B rfl v u w s hp
    exact ⟨_, hb, rfl, fun κ r _ => by
      obtain ⟨r1, r2, r3⟩ := r.three'
      exact .cons r1 (.cons r2 (.cons r3 (.cons RV.none (.cons RV.none .nil))))⟩
theorem bisR_4 (hl : NoLim C) (gl : GlobIs C "len" (.builtin "len")) (B : BisG C 1 f fd) (hφt : ∀ b ∈ C.tabs, φf b = none) (as : List D) (x : Int) (lo hi : Nat) (hlo : lo ≤ hi) (hhi : hi ≤ as.length) (hsz : as.length < 2 ^ 40) (g : Nat → Int) (hk : ∀ (i : Nat) (d : D), as[i]? = some d → d = PyData.int (g i)) :
    FnOk C φf κf (nk + 1) f [.d (.list as), .d (.int x), .d (.int (lo : Int)), .d (.int (hi : Int))] [] [] fun r => r = PyData.int (bsR g x (hi - lo) lo hi) :=
  bisR_ok hl gl B hφt as x lo (.int hi) hi (.inl rfl) hhi hsz hlo g (.d .none) (.inl ⟨rfl, hk⟩) _ _ _ fun s vs kvs hp hv hkv => by
    obtain ⟨v, u, w, z, rfl⟩ := len4 hv
    obtain ⟨t, hb⟩ := bis_bind4 B rfl v u w z s hp
    exact ⟨_, hb, rfl, fun κ r _ => by
      obtain ⟨r1, r2, r3, r4⟩ := RVL.four r
      exact .cons r1 (.cons r2 (.cons r3 (.cons r4 (.cons RV.none .nil))))⟩
theorem bisL_4 (hl : NoLim C) (gl : GlobIs C "len" (.builtin "len")) (B : BisG C 2 f fd) (hφt : ∀ b ∈ C.tabs, φf b = none) (as : List D) (x : Int) (lo hi : Nat) (hlo : lo ≤ hi) (hhi : hi ≤ as.length) (hsz : as.length < 2 ^ 40) (g : Nat → Int) (hk : ∀ (i : Nat) (d : D), as[i]? = some d → d = PyData.int (g i)) :
    FnOk C φf κf (nk + 1) f [.d (.list as), .d (.int x), .d (.int (lo : Int)), .d (.int (hi : Int))] [] [] fun r => r = PyData.int (bsL g x (hi - lo) lo hi) :=
  bisL_ok hl gl B hφt as x lo (.int hi) hi (.inl rfl) hhi hsz hlo g (.d .none) (.inl ⟨rfl, hk⟩) _ _ _ fun s vs kvs hp hv hkv => by
    obtain ⟨v, u, w, z, rfl⟩ := len4 hv
    obtain ⟨t, hb⟩ := bis_bind4 B rfl v u w z s hp
    exact ⟨_, hb, rfl, fun κ r _ => by
      obtain ⟨r1, r2, r3, r4⟩ := RVL.four r
      exact .cons r1 (.cons r2 (.cons r3 (.cons r4 (.cons RV.none .nil))))⟩
end
noncomputable def gOf (l : List Int) (i : Nat) : Int := l.getD i 0
noncomputable def lessN (l : List Int) (x : Int) : Nat := (l.filter fun a => decide (a < x)).length
noncomputable def lessE (l : List Int) (x : Int) : Nat := (l.filter fun a => decide (a ≤ x)).length
noncomputable def maxN (a b : Int) : Int := if b > a then b else a
noncomputable def minN (a b : Int) : Int := if b < a then b else a
theorem bool3 (p : Nat → Bool) (h1 : p 1 = true → p 0 = true) (h2 : p 2 = true → p 1 = true) (N : Nat) (hN : N = (if p 2 = true then 1 else 0) + (if p 1 = true then 1 else 0) + (if p 0 = true then 1 else 0)) :
    (bB p 3 0 3 : Int) = N ∧ (bB p 2 1 3 : Int) = maxN N 1 ∧ (bB p 1 0 1 : Int) = minN N 1 := by
  subst hN
  have e1 : bB p 3 0 3 = if p 1 = true then (if p 2 = true then 3 else 2) else (if p 0 = true then 1 else 0) := rfl
  have e2 : bB p 2 1 3 = if p 2 = true then 3 else (if p 1 = true then 2 else 1) := rfl
  have e3 : bB p 1 0 1 = if p 0 = true then 1 else 0 := rfl
  rw [e1, e2, e3]
  generalize p 0 = a at *; generalize p 1 = b at *; generalize p 2 = c at *
  clear e1 e2 e3
  revert a b c; decide
theorem filt3 (f : Int → Bool) (a b c : Int) : ([a, b, c].filter f).length = (if f c = true then 1 else 0) + (if f b = true then 1 else 0) + (if f a = true then 1 else 0) := by
  rw [← List.countP_eq_length_filter, List.countP_cons, List.countP_cons, List.countP_cons, List.countP_nil, Nat.zero_add]
theorem bs_three (a b c x : Int) (h1 : a ≤ b) (h2 : b ≤ c) :
    (bsL (gOf [a, b, c]) x 3 0 3 : Int) = lessN [a, b, c] x ∧ (bsL (gOf [a, b, c]) x 2 1 3 : Int) = maxN (lessN [a, b, c] x) 1 ∧ (bsL (gOf [a, b, c]) x 1 0 1 : Int) = minN (lessN [a, b, c] x) 1 ∧
    (bsR (gOf [a, b, c]) x 3 0 3 : Int) = lessE [a, b, c] x ∧ (bsR (gOf [a, b, c]) x 2 1 3 : Int) = maxN (lessE [a, b, c] x) 1 ∧ (bsR (gOf [a, b, c]) x 1 0 1 : Int) = minN (lessE [a, b, c] x) 1 := by
  rw [bsL_B, bsL_B, bsL_B, bsR_B, bsR_B, bsR_B]
  have m1 : ∀ u v : Int, u ≤ v → decide (v < x) = true → decide (u < x) = true := fun u v h k => decide_eq_true (Int.lt_of_le_of_lt h (of_decide_eq_true k))
  have m2 : ∀ u v : Int, u ≤ v → decide (v ≤ x) = true → decide (u ≤ x) = true := fun u v h k => decide_eq_true (Int.le_trans h (of_decide_eq_true k))
  obtain ⟨k1, k2, k3⟩ := bool3 (fun i => decide (gOf [a, b, c] i < x)) (m1 a b h1) (m1 b c h2) (lessN [a, b, c] x) (filt3 _ a b c)
  obtain ⟨k4, k5, k6⟩ := bool3 (fun i => decide (gOf [a, b, c] i ≤ x)) (m2 a b h1) (m2 b c h2) (lessE [a, b, c] x) (filt3 _ a b c)
  exact ⟨k1, k2, k3, k4, k5, k6⟩
end Mine
end
section
open PySem PySem.Calls PyProof.Rows PySem.W PySem.SeqAt PyProof.V
set_option maxRecDepth 100000
namespace Mine
section
variable {C : Cx} {A : Around} {G : Gd} {cd : Value} {ql : Str} {v : LV} {ext : List AObj} {S : List Int} {Q : AF → List AObj → Prop}
set_option maxHeartbeats 4000000 in
theorem s11 {n : Nat} (hA : AOk A n) (ga : GlobIs C "abs" (.builtin "abs")) (gs : GlobIs C "sum" (.builtin "sum")) {fs : List Int} (hfl : fs.length ≤ 3) (hf : v.firsts = some (intD fs)) (hvl : v.values = some (intD (valuesOf S)))
    (hb : absI (fs.sum - vAt S 0 - vAt S 3 - vAt S 5) ≤ 1) (q : Q .next (lst v ext)) : wS C A G (lae cd ql) (lst v ext) (stm 11) Q := by
  have hat : ∀ i, i < 6 → ((((valuesOf S).map PyData.int).map AV.d)[i]?) = some (.d (.int (vAt S i))) := fun i hi => intsAt_ (by rw [values_len]; omega)
  refine wS_if (wB_cmp rfl (wE_c1 (fun _ => rfl) (wE_glob 28 ga rfl ?_)))
  refine wE_bin (wE_bin (wE_bin (wE_c1 (fun _ => rfl) (wE_glob 29 gs rfl (wE_local 9 rfl rfl rfl (varGet hf) (wCall_bi (bi_sum (ns := fs) rfl hA.in1n ?_)))))))
  refine wE_sub (fun _ _ => ⟨_, rfl⟩) (wE_local 6 rfl rfl rfl (varGet hvl) (wE_int (sub_list (l := ((valuesOf S).map PyData.int).map .d) rfl (by decide) (by decide) (hat 0 (by decide)) (sub_ii ?_))))
  refine wE_sub (fun _ _ => ⟨_, rfl⟩) (wE_local 6 rfl rfl rfl (varGet hvl) (wE_int (sub_list (l := ((valuesOf S).map PyData.int).map .d) rfl (by decide) (by decide) (hat 3 (by decide)) (sub_ii ?_))))
  refine wE_sub (fun _ _ => ⟨_, rfl⟩) (wE_local 6 rfl rfl rfl (varGet hvl) (wE_int (sub_list (l := ((valuesOf S).map PyData.int).map .d) rfl (by decide) (by decide) (hat 5 (by decide)) (sub_ii ?_))))
  refine wCall_bi (bi_abs (wE_int (gt_ii (tr_b ?_))))
  have : decide (1 < (if fs.sum - vAt S 0 - vAt S 3 - vAt S 5 < 0 then -(fs.sum - vAt S 0 - vAt S 3 - vAt S 5) else fs.sum - vAt S 0 - vAt S 3 - vAt S 5)) = false := by
    refine decide_eq_false ?_
    unfold absI at hb
    omega
  rw [this]
  exact wSs_nil q
end
end Mine
end
section
open PySem PySem.Calls PyProof.Rows PySem.W PySem.SeqAt PyProof.V
set_option maxRecDepth 100000
namespace Mine
noncomputable def body12 : List Stmt := match stm 12 with | .For _ _ b _ _ => b | _ => []
noncomputable def forIn : Stmt := (body12[2]?).getD (.Pass ⟨0, 0, 0, 0⟩)
noncomputable def bodyIn : List Stmt := match forIn with | .For _ _ b _ _ => b | _ => []
noncomputable def inS (k : Nat) : Stmt := (bodyIn[k]?).getD (.Pass ⟨0, 0, 0, 0⟩)
noncomputable def keepG (p : Int → Bool) : D → Option D
  | .int t => if p t then some (.int t) else none
  | _ => none
theorem keepG_ints (p : Int → Bool) (l : List Int) : (l.map PyData.int).filterMap (keepG p) = (l.filter p).map .int := by
  induction l with
  | nil => rfl
  | cons a r ih =>
    rw [List.map_cons, List.filterMap_cons, List.filter_cons]
    cases q : p a <;> simp [keepG, q, ih]
section
variable {C : Cx} {A : Around} {G : Gd} {cd : Value} {ql : Str} {v : LV} {ext : List AObj} {S : List Int} {Q : AF → List AObj → Prop}
set_option maxHeartbeats 4000000 in
theorem in0 {n : Nat} (hA : AOk A n) (gl : GlobIs C "len" (.builtin "len")) (hv : LVok v ext) {fs : List Int} {x : Int} (hfl : fs.length ≤ 3) (hf : v.firsts = some (intD fs)) (hx : v.first = some (.int x))
    (q : Q .next (lst { v with ahead := some (.int (lessN fs x : Int)), through := some (.int (lessE fs x : Int)) } ext)) : wS C A G (lae cd ql) (lst v ext) (inS 0) Q := by
  have hsz := sizeLine_eq
  refine wS_tup2s 14 15 hA.handled rfl rfl rfl rfl rfl rfl rfl ?_
  refine wE_tupD (wArgs_cons (fun _ => rfl) (wE_c1 (fun _ => rfl) (wE_glob 30 gl rfl ?_)))
  refine wE_lcD (its := fs.map .int) (st2 := lst v ext) [("first", 6)] (keepG fun t => decide (t < x)) rfl ⟨rfl, by decide +kernel, by decide +kernel⟩ rfl (by show (([("first", 6)] : List (Str × Nat)).map (·.1)).Nodup; decide +kernel) (fun _ _ => rfl)
    (wEI_list hA.handled (wE_local 9 rfl rfl rfl (varGet hf) ⟨rfl, rfl⟩)) (by rw [hsz, List.length_map]; omega) (lst_closed hv) (LcTurn.of rfl rfl rfl (lst_closed hv) ?_) ?_
  · intro φ' E' env' d acc hd hef
    refine byC fun hC1 => ?_
    obtain ⟨t, _, rfl⟩ := List.mem_map.mp hd
    refine hC1 ?_
    refine wIfs_one (wB_cmp rfl (wE_local 1 rfl bget rfl rfl (wE_cell 2 0 6 rfl rfl (cellGet hx) (lt_ii (tr_b ?_)))))
    by_cases c : t < x
    · rw [decide_eq_true c, if_pos rfl]
      exact wE_local 1 rfl bget rfl rfl ⟨_, rfl, by simp [keepG, c], [], by simp⟩
    · rw [decide_eq_false c, if_neg (by decide)]
      exact ⟨by simp [keepG, c], [], by simp⟩
  rw [keepG_ints]
  refine wCall_bi (bi_len (l := ((fs.filter fun t => decide (t < x)).map PyData.int).map .d) rfl (by have := List.length_filter_le (fun t => decide (t < x)) fs; simp; omega) ?_)
  refine wArgs_cons (fun _ => rfl) (wE_c1 (fun _ => rfl) (wE_glob 30 gl rfl ?_))
  refine wE_lcD (its := fs.map .int) (st2 := lst v ext) [("first", 6)] (keepG fun t => decide (t ≤ x)) rfl ⟨rfl, by decide +kernel, by decide +kernel⟩ rfl (by show (([("first", 6)] : List (Str × Nat)).map (·.1)).Nodup; decide +kernel) (fun _ _ => rfl)
    (wEI_list hA.handled (wE_local 9 rfl rfl rfl (varGet hf) ⟨rfl, rfl⟩)) (by rw [hsz, List.length_map]; omega) (lst_closed hv) (LcTurn.of rfl rfl rfl (lst_closed hv) ?_) ?_
  · intro φ' E' env' d acc hd hef
    refine byC fun hC2 => ?_
    obtain ⟨t, _, rfl⟩ := List.mem_map.mp hd
    refine hC2 ?_
    refine wIfs_one (wB_cmp rfl (wE_local 1 rfl bget rfl rfl (wE_cell 2 0 6 rfl rfl (cellGet hx) (le_ii (tr_b ?_)))))
    by_cases c : t ≤ x
    · rw [decide_eq_true c, if_pos rfl]
      exact wE_local 1 rfl bget rfl rfl ⟨_, rfl, by simp [keepG, c], [], by simp⟩
    · rw [decide_eq_false c, if_neg (by decide)]
      exact ⟨by simp [keepG, c], [], by simp⟩
  rw [keepG_ints]
  refine wCall_bi (bi_len (l := ((fs.filter fun t => decide (t ≤ x)).map PyData.int).map .d) rfl (by have := List.length_filter_le (fun t => decide (t ≤ x)) fs; simp; omega) ?_)
  rw [List.length_map, List.length_map, List.length_map, List.length_map]
  refine wArgs_nil ⟨[.int (lessN fs x : Int), .int (lessE fs x : Int)], rfl, by rw [sizeLine_eq]; exact Nat.le_of_ble_eq_true rfl, _, _, rfl, ?_⟩
  refine st_local 15 rfl rfl rfl ?_
  exact st_local 14 rfl rfl rfl q
end
end Mine
end
section
open PySem PySem.Calls PyProof.Rows PySem.W PySem.SeqAt PyProof.V
set_option maxRecDepth 100000
namespace Mine
theorem gOf_at (fs : List Int) (i : Nat) (d : D) (h : (fs.map PyData.int)[i]? = some d) : d = .int (gOf fs i) := by
  rw [List.getElem?_map] at h
  unfold gOf
  rw [List.getD_eq_getElem?_getD]
  cases q : fs[i]? with
  | none => rw [q] at h; cases h
  | some a => rw [q] at h; cases h; rfl
theorem objGet {o : Option Nat} {x : Nat} (h : o = some x) : some (o.map AV.obj) = some (some (AV.obj x)) := by rw [h]; rfl
section
variable {C : Cx} {A : Around} {G : Gd} {cd : Value} {ql : Str} {v : LV} {ext : List AObj} {S : List Int} {Q : AF → List AObj → Prop}
set_option maxHeartbeats 4000000 in
theorem in1 {n : Nat} (hA : AOk A (n + 1)) (hl : NoLim C) (gl : GlobIs C "len" (.builtin "len")) {bf : Value} {bfd : FuncData} (B : BisG C 2 bf bfd) (gb : GlobIs C "bisect_left" bf) {fs : List Int} {x : Int} (hfl : fs.length = 3) (hf : v.firsts = some (intD fs)) (hx : v.first = some (.int x))
    (q : Q .next (lst { v with found := some (11 + ext.length) } (ext ++ [.list ([(bsL (gOf fs) x 3 0 3 : Int), (bsL (gOf fs) x 2 1 3 : Int), (bsL (gOf fs) x 1 0 1 : Int)].map fun i => .d (.int i))]))) : wS C A G (lae cd ql) (lst v ext) (inS 1) Q := by
  have hsz := sizeLine_eq
  have hml : (fs.map PyData.int).length = 3 := by rw [List.length_map, hfl]
  refine wS_assign (fun _ => rfl) (wE_list ?_)
  refine wArgs_cons (fun _ => rfl) (wE_c2 (fun _ => rfl) (fun _ => rfl) (wE_glob 31 gb rfl (wE_local 9 rfl rfl rfl (varGet hf) (wE_cell 13 4 6 rfl rfl (cellGet hx) ?_))))
  refine wCall_fn (n := 1) (bisL_2 (nk := 0) hl gl B (fun _ _ => rfl) (fs.map .int) x (by lia) (gOf fs) (gOf_at fs)) (hA.mono (by lia)) (all2 trivial trivial) (fun a ha => nomatch ha) ?_
  rintro d rfl
  refine wArgs_cons (fun _ => rfl) (wE_c3 (fun _ => rfl) (fun _ => rfl) (fun _ => rfl) (wE_glob 31 gb rfl (wE_local 9 rfl rfl rfl (varGet hf) (wE_cell 13 4 6 rfl rfl (cellGet hx) (wE_int ?_)))))
  refine wCall_fn (n := 1) (bisL_3 (nk := 0) hl gl B (fun _ _ => rfl) (fs.map .int) x 1 (by lia) (by lia) (gOf fs) (gOf_at fs)) (hA.mono (by lia)) (all3 trivial trivial trivial) (fun a ha => nomatch ha) ?_
  rintro d rfl
  refine wArgs_cons (fun _ => rfl) (wE_call0 (fun _ => rfl) (wE_glob 31 gb rfl ?_))
  refine wArgs_cons (fun _ => rfl) (wE_local 9 rfl rfl rfl (varGet hf) (wArgs_cons (fun _ => rfl) (wE_cell 13 4 6 rfl rfl (cellGet hx) (wArgs_cons (fun _ => rfl) (wE_int (wArgs_cons (fun _ => rfl) (wE_int (wArgs_nil ?_))))))))
  refine wCall_fn (n := 1) (bisL_4 (nk := 0) hl gl B (fun _ _ => rfl) (fs.map .int) x 0 1 (by lia) (by lia) (by lia) (gOf fs) (gOf_at fs)) (hA.mono (by lia)) (all4 trivial trivial trivial trivial) (fun a ha => nomatch ha) ?_
  rintro d rfl
  rw [hml]
  refine wArgs_nil ⟨by rw [hsz]; exact Nat.le_of_ble_eq_true rfl, ?_⟩
  rw [lst_len]
  exact st_local 16 rfl rfl rfl q
theorem lst_found {w : LV} {ext : List AObj} {r : List AObj} : (lst w (ext ++ r))[11 + ext.length]? = r[0]? := by
  rw [show lst w (ext ++ r) = lst w ext ++ r by simp [lst]]
  rw [List.getElem?_append_right (by rw [lst_len]; lia), lst_len, Nat.sub_self]
theorem lst_setFound {w : LV} {ext : List AObj} {a b : AObj} : (lst w (ext ++ [a])).set (11 + ext.length) b = lst w (ext ++ [b]) := by
  rw [show lst w (ext ++ [a]) = lst w ext ++ [a] by simp [lst], show lst w (ext ++ [b]) = lst w ext ++ [b] by simp [lst], List.set_append_right _ _ (by rw [lst_len]; lia), lst_len, Nat.sub_self]; rfl
set_option maxHeartbeats 4000000 in
theorem in2 {n : Nat} (hA : AOk A (n + 1)) (hl : NoLim C) (gl : GlobIs C "len" (.builtin "len")) {bf : Value} {bfd : FuncData} (B : BisG C 1 bf bfd) (gb : GlobIs C "bisect_right" bf) {fs : List Int} {x : Int} {l : List Int} (hll : l.length ≤ 10) (hfl : fs.length = 3) (hf : v.firsts = some (intD fs)) (hx : v.first = some (.int x)) (hfo : v.found = some (11 + ext.length))
    (q : Q .next (lst v (ext ++ [.list ((l ++ [(bsR (gOf fs) x 3 0 3 : Int), (bsR (gOf fs) x 2 1 3 : Int), (bsR (gOf fs) x 1 0 1 : Int)]).map fun i => .d (.int i))]))) : wS C A G (lae cd ql) (lst v (ext ++ [.list (l.map fun i => .d (.int i))])) (inS 2) Q := by
  have hsz := sizeLine_eq
  have hml : (fs.map PyData.int).length = 3 := by rw [List.length_map, hfl]
  refine wS_expr (fun _ => rfl) ?_
  refine wE_m1 F.plainAttrs_list F.slot_list_extend F.type_list_extend ?_ ?_ ?_ ?_
  · exact fun _ _ => rfl
  · exact fun _ => rfl
  · rfl
  refine wE_local 16 rfl rfl rfl (objGet hfo) ⟨hasTy_list lst_found, ?_⟩
  refine wE_listD ?_
  refine wArgs_cons (fun _ => rfl) (wE_c2 (fun _ => rfl) (fun _ => rfl) (wE_glob 27 gb rfl (wE_local 9 rfl rfl rfl (varGet hf) (wE_cell 13 4 6 rfl rfl (cellGet hx) ?_))))
  refine wCall_fn (n := 1) (bisR_2 (nk := 0) hl gl B (fun _ _ => rfl) (fs.map .int) x (by lia) (gOf fs) (gOf_at fs)) (hA.mono (by lia)) (all2 trivial trivial) (fun a ha => nomatch ha) ?_
  rintro d rfl
  refine wArgs_cons (fun _ => rfl) (wE_c3 (fun _ => rfl) (fun _ => rfl) (fun _ => rfl) (wE_glob 27 gb rfl (wE_local 9 rfl rfl rfl (varGet hf) (wE_cell 13 4 6 rfl rfl (cellGet hx) (wE_int ?_)))))
  refine wCall_fn (n := 1) (bisR_3 (nk := 0) hl gl B (fun _ _ => rfl) (fs.map .int) x 1 (by lia) (by lia) (gOf fs) (gOf_at fs)) (hA.mono (by lia)) (all3 trivial trivial trivial) (fun a ha => nomatch ha) ?_
  rintro d rfl
  refine wArgs_cons (fun _ => rfl) (wE_call0 (fun _ => rfl) (wE_glob 27 gb rfl ?_))
  refine wArgs_cons (fun _ => rfl) (wE_local 9 rfl rfl rfl (varGet hf) (wArgs_cons (fun _ => rfl) (wE_cell 13 4 6 rfl rfl (cellGet hx) (wArgs_cons (fun _ => rfl) (wE_int (wArgs_cons (fun _ => rfl) (wE_int (wArgs_nil ?_))))))))
  refine wCall_fn (n := 1) (bisR_4 (nk := 0) hl gl B (fun _ _ => rfl) (fs.map .int) x 0 1 (by lia) (by lia) (by lia) (gOf fs) (gOf_at fs)) (hA.mono (by lia)) (all4 trivial trivial trivial trivial) (fun a ha => nomatch ha) ?_
  rintro d rfl
  rw [hml]
  refine wArgs_nil ⟨[(bsR (gOf fs) x 3 0 3 : Int), (bsR (gOf fs) x 2 1 3 : Int), (bsR (gOf fs) x 1 0 1 : Int)].map .int, rfl, by rw [hsz]; exact Nat.le_of_ble_eq_true rfl, ?_⟩
  refine bi_extend (l := l.map fun i => .d (.int i)) (m := [(bsR (gOf fs) x 3 0 3 : Int), (bsR (gOf fs) x 2 1 3 : Int), (bsR (gOf fs) x 1 0 1 : Int)].map .int) (lst_found (r := [_])) rfl (by intro h; cases h) (by simp; lia) ?_
  rw [lst_setFound, show (l.map fun i => AV.d (.int i)) ++ ([(bsR (gOf fs) x 3 0 3 : Int), (bsR (gOf fs) x 2 1 3 : Int), (bsR (gOf fs) x 1 0 1 : Int)].map PyData.int).map .d = (l ++ [(bsR (gOf fs) x 3 0 3 : Int), (bsR (gOf fs) x 2 1 3 : Int), (bsR (gOf fs) x 1 0 1 : Int)]).map fun i => .d (.int i) by rw [List.map_append]; rfl]
  exact q
end
end Mine
end
section
open PySem PySem.Calls PyProof.Rows PySem.W PySem.SeqAt PyProof.V
set_option maxRecDepth 100000
namespace Mine
noncomputable def sixOf (fs : List Int) (x : Int) : List Int := [(lessN fs x : Int), maxN (lessN fs x) 1, minN (lessN fs x) 1, (lessE fs x : Int), maxN (lessE fs x) 1, minN (lessE fs x) 1]
section
variable {C : Cx} {A : Around} {G : Gd} {cd : Value} {ql : Str} {v : LV} {ext : List AObj} {S : List Int} {Q : AF → List AObj → Prop}
set_option maxHeartbeats 4000000 in
theorem in3 {n : Nat} (hA : AOk A n) (gmx : GlobIs C "max" (.builtin "max")) (gmn : GlobIs C "min" (.builtin "min")) {fs : List Int} {x : Int} (ha : v.ahead = some (.int (lessN fs x : Int))) (ht : v.through = some (.int (lessE fs x : Int))) (hfo : v.found = some (11 + ext.length))
    (q : Q .next (lst v (ext ++ [.frz (.list ((sixOf fs x).map .int))]))) : wS C A G (lae cd ql) (lst v (ext ++ [.frz (.list ((sixOf fs x).map .int))])) (inS 3) Q := by
  have hsz := sizeLine_eq
  refine wS_if (wB_cmp rfl (wE_d (wE_local 16 rfl rfl rfl (objGet hfo) ⟨_, .inr ⟨_, rfl, lst_found (r := [_])⟩, ?_⟩)))
  refine wE_listD ?_
  refine wArgs_cons (fun _ => rfl) (wE_local 14 rfl rfl rfl (varGet ha) ?_)
  refine wArgs_cons (fun _ => rfl) (wE_c2 (fun _ => rfl) (fun _ => rfl) (wE_glob 32 gmx rfl (wE_local 14 rfl rfl rfl (varGet ha) (wE_int (wCall_bi (bi_max2 hA.handled ?_))))))
  refine wArgs_cons (fun _ => rfl) (wE_c2 (fun _ => rfl) (fun _ => rfl) (wE_glob 33 gmn rfl (wE_local 14 rfl rfl rfl (varGet ha) (wE_int (wCall_bi (bi_min2 hA.handled ?_))))))
  refine wArgs_cons (fun _ => rfl) (wE_local 15 rfl rfl rfl (varGet ht) ?_)
  refine wArgs_cons (fun _ => rfl) (wE_c2 (fun _ => rfl) (fun _ => rfl) (wE_glob 32 gmx rfl (wE_local 15 rfl rfl rfl (varGet ht) (wE_int (wCall_bi (bi_max2 hA.handled ?_))))))
  refine wArgs_cons (fun _ => rfl) (wE_c2 (fun _ => rfl) (fun _ => rfl) (wE_glob 33 gmn rfl (wE_local 15 rfl rfl rfl (varGet ht) (wE_int (wCall_bi (bi_min2 hA.handled ?_))))))
  refine wArgs_nil ⟨(sixOf fs x).map .int, rfl, by rw [hsz]; exact Nat.le_of_ble_eq_true rfl, ?_⟩
  exact ne_same hA (shList (n := 0) fun y hy => by obtain ⟨z, _, rfl⟩ := List.mem_map.mp hy; exact shInt) (by decide) (tr_b (wSs_nil q))
noncomputable abbrev lvIn (v : LV) (a b : Option D) (f : Option Nat) : LV := { v with ahead := a, through := b, found := f }
theorem bodyIn_eq : bodyIn = [inS 0, inS 1, inS 2, inS 3] := rfl
set_option maxHeartbeats 4000000 in
theorem in_turn {n : Nat} (hA : AOk A (n + 1)) (hl : NoLim C) (gl : GlobIs C "len" (.builtin "len")) (gmx : GlobIs C "max" (.builtin "max")) (gmn : GlobIs C "min" (.builtin "min")) {rf bf : Value} {rfd bfd : FuncData} (BR : BisG C 1 rf rfd) (gbr : GlobIs C "bisect_right" rf) (BL : BisG C 2 bf bfd) (gbl : GlobIs C "bisect_left" bf)
    (hv : LVok v ext) {a b c x : Int} (h1 : a ≤ b) (h2 : b ≤ c) (hf : v.firsts = some (intD [a, b, c])) (hx : v.first = some (.int x))
    (q : ∀ s t r, Q .next (lst (lvIn v s t (some (11 + ext.length))) (ext ++ [r]))) : wSs C A G (lae cd ql) (lst v ext) bodyIn Q := by
  refine byC fun hC1 => ?_
  obtain ⟨f1, f2, f3, f4, f5, f6⟩ := bs_three a b c x h1 h2
  refine hC1 ?_
  rw [bodyIn_eq]
  refine wSs_cons (in0 hA gl hv (fs := [a, b, c]) (by simp) hf hx ?_)
  refine wSs_cons (in1 (v := { v with ahead := _, through := _ }) hA hl gl BL gbl (fs := [a, b, c]) rfl hf hx ?_)
  rw [f1, f2, f3]
  refine wSs_cons (in2 (v := { v with ahead := _, through := _, found := _ }) (l := [_, _, _]) hA hl gl BR gbr (fs := [a, b, c]) (by simp) rfl hf hx rfl ?_)
  rw [f4, f5, f6]
  refine wSs_freeze (11 + ext.length) (ds := (sixOf [a, b, c] x).map .int) (lst_found (r := [_])) ?_
  rw [lst_setFound]
  exact wSs_cons (in3 (v := { v with ahead := _, through := _, found := _ }) hA gmx gmn (fs := [a, b, c]) (x := x) rfl rfl rfl (wSs_nil (q _ _ _)))
end
end Mine
end
section
open PySem PySem.Calls PyProof.Rows PySem.W PySem.SeqAt PyProof.V
set_option maxRecDepth 100000
namespace Mine
theorem lst_tail (w : LV) (ext : List AObj) : lst w ext = nsOf 19 (varsL w) :: ((lst w []).tail ++ ext) := by simp [lst]
theorem dropSet {l : List (Option AV)} {k j : Nat} {a : AV} (e : (l.set k none)[j]? = some (some a)) : l[j]? = some (some a) := by
  rw [List.getElem?_set] at e
  split at e
  · split at e <;> cases e
  · exact e
theorem lst_drop {w w0 : LV} {ext r : List AObj} (h : LVok w0 ext) (hc : (lst w []).tail = (lst w0 []).tail) (hvar : ∀ (j : Nat) (a : AV), (varsL w0)[j]? = some (some a) → (varsL w)[j]? = some (some a)) : Sub (lst w0 ext).length (lst w (ext ++ r)) (lst w0 ext) := by
  refine ⟨rfl, by simp, fun i x y hi e1 e2 => ?_⟩
  have hb := lst_closed h i y e2
  rw [lst_tail w, hc] at e1
  rw [lst_tail w0] at e2
  match i, e1, e2, hb with
  | 0, e1, e2, hb =>
    cases e1; cases e2
    exact ⟨rfl, fun j a e => ⟨hvar j a e, hb j a e⟩⟩
  | i + 1, e1, e2, hb =>
    rw [List.getElem?_cons_succ] at e1 e2
    rw [← List.append_assoc, List.getElem?_append_left (by have := (List.getElem?_eq_some_iff.mp e2).1; exact this), e2] at e1
    cases e1
    exact (oLe_self hb).le
section
variable {C : Cx} {A : Around} {G : Gd} {cd : Value} {ql : Str} {v : LV} {ext : List AObj} {S : List Int} {Q : AF → List AObj → Prop}
noncomputable abbrev lvF (v : LV) (x a b : Option D) (f : Option Nat) : LV := { v with first := x, ahead := a, through := b, found := f }
theorem lvF_ok (hv : LVok v ext) (x a b : Option D) : LVok (lvF v x a b none) ext := ⟨fun i e => (nomatch e), hv.changes, hv.words, hv.ext⟩
set_option maxHeartbeats 4000000 in
theorem in_for {n : Nat} (hA : AOk A (n + 1)) (hl : NoLim C) (gl : GlobIs C "len" (.builtin "len")) (gmx : GlobIs C "max" (.builtin "max")) (gmn : GlobIs C "min" (.builtin "min")) {rf bf : Value} {rfd bfd : FuncData} (BR : BisG C 1 rf rfd) (gbr : GlobIs C "bisect_right" rf) (BL : BisG C 2 bf bfd) (gbl : GlobIs C "bisect_left" bf)
    (hv : LVok v ext) (hno : v.found = none) {a b c : Int} {fw : List Int} (hfw : fw.length ≤ 3) (h1 : a ≤ b) (h2 : b ≤ c) (hf : v.firsts = some (intD [a, b, c])) (hw : v.fewer = some (intD fw))
    (q : ∀ x s t, Q .next (lst (lvF v x s t none) ext)) : wS C A G (lae cd ql) (lst v ext) forIn Q := by
  have hsz := sizeLine_eq
  refine wS_forI (lst v ext).length ([.int (-28)] ++ fw.map .int ++ [.int 28]) (fun k st => ∃ x s t, st = lst (lvF v x s t none) ext) (fun _ _ => rfl) ?_ ?_ ?_ ?_
  · rintro k st1 ⟨x, s, t, rfl⟩; rfl
  · refine wEI_of (wE_bin (wE_bin (wE_listD (wArgs_cons (fun _ => rfl) (wE_un (wE_int (neg_i (wArgs_nil ⟨[.int (-28)], rfl, by rw [hsz]; exact Nat.le_of_ble_eq_true rfl, ?_⟩))))))))
    refine wE_local 12 rfl rfl rfl (varGet hw) (add_ll (l := [PyData.int (-28)]) (m := fw.map PyData.int) rfl rfl (by simp; lia) ?_)
    refine wE_listD (wArgs_cons (fun _ => rfl) (wE_int (wArgs_nil ⟨[.int 28], rfl, by rw [hsz]; exact Nat.le_of_ble_eq_true rfl, ?_⟩)))
    refine add_ll (l := [PyData.int (-28)] ++ fw.map PyData.int) (m := [PyData.int 28]) rfl rfl (by simp; lia) ?_
    refine itr_list (.inl rfl) hA.handled ⟨rfl, v.first, v.ahead, v.through, ?_⟩
    obtain ⟨⟩ := v
    cases hno
    rfl
  · rintro φ' E' k x st1 hx ⟨x0, s, t, rfl⟩
    obtain ⟨z, rfl⟩ : ∃ z, x = .int z := by
      have hm := List.mem_of_getElem? hx
      simp only [List.mem_append, List.mem_singleton, List.mem_map] at hm
      rcases hm with (rfl | ⟨z, _, rfl⟩) | rfl <;> exact ⟨_, rfl⟩
    refine wTgt_name (st_cell 13 4 6 rfl rfl rfl ?_)
    refine in_turn (v := lvF v (some (.int z)) s t none) hA hl gl gmx gmn BR gbr BL gbl (lvF_ok hv _ _ _) h1 h2 hf rfl fun s' t' r => ?_
    refine ⟨_, lst_drop (w0 := lvF v (some (.int z)) s' t' none) (lvF_ok hv _ _ _) rfl (fun j a e => dropSet (k := 16) e), _, _, _, rfl⟩
  · rintro E' st1 ⟨x, s, t, rfl⟩
    exact wSs_nil (q x s t)
end
end Mine
end
section
open PySem PySem.Calls PyProof.Rows PySem.W PySem.SeqAt PyProof.V
set_option maxRecDepth 100000
namespace Mine
noncomputable def ordL : Nat → List Nat
  | 0 => [1, 2]
  | 1 => [0, 2]
  | _ => [0, 1]
theorem ordL_keep {l : Nat} (h : l < 3) : (PyData.list ((upto 0 3).filterMap (keepG fun t => t != (l : Int)))) = ordD (ordL l) := by
  match l, h with
  | 0, _ | 1, _ | 2, _ => rfl
theorem ordL_len (l : Nat) : (ordL l).length = 2 := by
  match l with
  | 0 | 1 | n + 2 => rfl
structure LeftOk (T : List (List Int)) : Prop where
  ok : ∀ l : Nat, l < 3 → FirstsOk T (ordL l)
  lace : ∀ l : Nat, l < 3 → (firstsOf T [0, 1, 2]).getD 0 0 ≤ (firstsOf T (ordL l)).getD 0 0 ∧ (firstsOf T (ordL l)).getD 0 0 ≤ (firstsOf T [0, 1, 2]).getD 1 0 ∧ (firstsOf T [0, 1, 2]).getD 1 0 ≤ (firstsOf T (ordL l)).getD 1 0 ∧ (firstsOf T (ordL l)).getD 1 0 ≤ (firstsOf T [0, 1, 2]).getD 2 0
noncomputable def outS (k : Nat) : Stmt := (body12[k]?).getD (.Pass ⟨0, 0, 0, 0⟩)
theorem body12_eq : body12 = [outS 0, outS 1, forIn] := rfl
section
variable {C : Cx} {A : Around} {G : Gd} {cd : Value} {ql : Str} {v : LV} {ext : List AObj} {S : List Int} {Q : AF → List AObj → Prop}
set_option maxHeartbeats 4000000 in
theorem out0 {n : Nat} (hA : AOk A (n + 8)) (gr : GlobIs C "range" (.type "range")) {ff : Value} (Fg : FirstsG C ff) {T : List (List Int)} {l : Nat} (hl3 : l < 3) (hF : FirstsOk T (ordL l)) (hv : LVok v ext) (ht : v.table = some (tabD T)) (hp : v.places = some placesD) (hlf : v.left = some (.int (l : Int)))
    (q : Q .next (lst { v with fewer := some (intD (firstsOf T (ordL l))) } (ext ++ [.raw (RangeO 0 3)]))) : wS C A G (lae cd ql) (lst v ext) (outS 0) Q := by
  have hsz := sizeLine_eq
  refine wS_assign (fun _ => rfl) (wE_c3 (fun _ => rfl) (fun _ => rfl) (fun _ => rfl) (wE_glob 26 Fg.glob rfl (wE_cell 23 0 10 rfl rfl (cellGet ht) ?_)))
  refine wE_lcD (its := upto 0 3) (st2 := lst v (ext ++ [.raw (RangeO 0 3)])) [("left", 5)] (keepG fun t => t != (l : Int)) rfl ⟨rfl, by decide +kernel, by decide +kernel⟩ rfl (by show (([("left", 5)] : List (Str × Nat)).map (·.1)).Nodup; decide +kernel) (fun _ _ => rfl)
    (wEI_rangeC 24 gr rfl hA.handled (by decide)) (by rw [upto_len, hsz]; decide) (lst_closed (hv.more below_raw)) (LcTurn.of rfl rfl rfl (lst_closed (hv.more below_raw)) ?_) ?_
  · intro φ' E' env' d acc hd hef
    refine byC fun hC1 => ?_
    obtain ⟨t, _, rfl⟩ := List.mem_map.mp hd
    refine hC1 ?_
    refine wIfs_one (wB_cmp rfl (wE_local 1 rfl bget rfl rfl (wE_cell 2 0 5 rfl rfl (cellGet hlf) (ne_ii (tr_b ?_)))))
    by_cases c : (0 : Int) + (t : Int) = (l : Int)
    · rw [show ((0 : Int) + (t : Int) != (l : Int)) = false by simp [c], if_neg (by decide)]
      exact ⟨by simp [keepG, c], [], by simp⟩
    · rw [show ((0 : Int) + (t : Int) != (l : Int)) = true by simpa using c, if_pos rfl]
      exact wE_local 1 rfl bget rfl rfl ⟨_, rfl, by simpa [keepG] using c, [], by simp⟩
  rw [ordL_keep hl3]
  refine wE_local 7 rfl rfl rfl (varGet hp) ?_
  refine wCall_fn (n := 8) (Fg.ok T (ordL l) hF) (hA.mono (by lia)) (all3 trivial trivial trivial) (fun a ha => nomatch ha) ?_
  rintro d rfl
  exact st_local 12 rfl rfl rfl q
set_option maxHeartbeats 4000000 in
theorem out1 {n : Nat} (hA : AOk A n) {a b c f g : Int} (hf : v.firsts = some (intD [a, b, c])) (hw : v.fewer = some (intD [f, g])) (h1 : a ≤ f) (h2 : f ≤ b) (h3 : b ≤ g) (h4 : g ≤ c) (q : Q .next (lst v ext)) : wS C A G (lae cd ql) (lst v ext) (outS 1) Q := by
  refine wS_if (wB_not (wB_chain rfl ?_))
  refine wE_sub (fun _ _ => ⟨_, rfl⟩) (wE_local 9 rfl rfl rfl (varGet hf) (wE_int (sub_list (l := ([a, b, c].map PyData.int).map .d) (x := .d (.int a)) rfl (by decide) (by simp) rfl ?_)))
  refine wTc_link (wE_sub (fun _ _ => ⟨_, rfl⟩) (wE_local 12 rfl rfl rfl (varGet hw) (wE_int (sub_list (l := ([f, g].map PyData.int).map .d) (x := .d (.int f)) rfl (by decide) (by simp) rfl (le_ii (tr_b ?_))))))
  rw [decide_eq_true h1, if_pos rfl]
  refine wTc_link (wE_sub (fun _ _ => ⟨_, rfl⟩) (wE_local 9 rfl rfl rfl (varGet hf) (wE_int (sub_list (l := ([a, b, c].map PyData.int).map .d) (x := .d (.int b)) rfl (by decide) (by simp) rfl (le_ii (tr_b ?_))))))
  rw [decide_eq_true h2, if_pos rfl]
  refine wTc_link (wE_sub (fun _ _ => ⟨_, rfl⟩) (wE_local 12 rfl rfl rfl (varGet hw) (wE_int (sub_list (l := ([f, g].map PyData.int).map .d) (x := .d (.int g)) rfl (by decide) (by simp) rfl (le_ii (tr_b ?_))))))
  rw [decide_eq_true h3, if_pos rfl]
  refine wTc_last (wE_sub (fun _ _ => ⟨_, rfl⟩) (wE_local 9 rfl rfl rfl (varGet hf) (wE_int (sub_list (l := ([a, b, c].map PyData.int).map .d) (x := .d (.int c)) rfl (by decide) (by simp) rfl (le_ii (tr_b ?_))))))
  rw [decide_eq_true h4]
  exact wSs_nil q
noncomputable abbrev lvO (v : LV) (l f x s t : Option D) : LV := { v with left := l, fewer := f, first := x, ahead := s, through := t, found := none }
theorem lvO_ok (hv : LVok v ext) (l f x a b : Option D) : LVok (lvO v l f x a b) ext := ⟨fun i e => (nomatch e), hv.changes, hv.words, hv.ext⟩
set_option maxHeartbeats 4000000 in
theorem s12 {n : Nat} (hA : AOk A (n + 8)) (hl : NoLim C) (gr : GlobIs C "range" (.type "range")) (gl : GlobIs C "len" (.builtin "len")) (gmx : GlobIs C "max" (.builtin "max")) (gmn : GlobIs C "min" (.builtin "min")) {rf bf : Value} {rfd bfd : FuncData} (BR : BisG C 1 rf rfd) (gbr : GlobIs C "bisect_right" rf) (BL : BisG C 2 bf bfd) (gbl : GlobIs C "bisect_left" bf)
    {ff : Value} (Fg : FirstsG C ff) {T : List (List Int)} (hL : LeftOk T) (hv : LVok v ext) (hno : v.found = none) (ht : v.table = some (tabD T)) (hp : v.places = some placesD) (hf : v.firsts = some (intD (firstsOf T [0, 1, 2])))
    (q : ∀ l f x s t, Q .next (lst (lvO v l f x s t) (ext ++ [.raw (RangeO 0 3)]))) : wS C A G (lae cd ql) (lst v ext) (stm 12) Q := by
  have hsz := sizeLine_eq
  have hv1 := hv.more (x := .raw (RangeO 0 3)) below_raw
  refine wS_forI (lst v (ext ++ [.raw (RangeO 0 3)])).length (upto 0 3) (fun k st => ∃ l f x s t, st = lst (lvO v l f x s t) (ext ++ [.raw (RangeO 0 3)])) (fun _ _ => rfl) ?_ ?_ ?_ ?_
  · rintro k st1 ⟨l, f, x, s, t, rfl⟩; rfl
  · refine wEI_of (wE_c1 (fun _ => rfl) (wE_glob 24 gr rfl (wE_int (wCall_ty (bi_range1 ?_)))))
    refine itr_range (i := (lst v ext).length) (a := 0) (b := 3) hA.handled (by simp) (by lia) (by lia) ⟨rfl, v.left, v.fewer, v.first, v.ahead, v.through, ?_⟩
    obtain ⟨⟩ := v
    cases hno
    rfl
  · rintro φ' E' k x st1 hx ⟨l0, f0, x0, s0, t0, rfl⟩
    obtain ⟨rfl, hkl⟩ := upto_get hx
    rw [show ((0 : Int) + (k : Int)) = (k : Int) by lia]
    refine wTgt_name (st_cell 11 5 5 rfl rfl rfl ?_)
    show wSs _ _ _ _ (lst (lvO v (some (.int (k : Int))) f0 x0 s0 t0) (ext ++ [.raw (RangeO 0 3)])) body12 _
    rw [body12_eq]
    refine wSs_cons (out0 (v := lvO v (some (.int (k : Int))) f0 x0 s0 t0) hA gr Fg hkl (hL.ok k hkl) (lvO_ok hv1 _ _ _ _ _) ht hp rfl ?_)
    obtain ⟨l1, l2, l3, l4⟩ := hL.lace k hkl
    obtain ⟨a, b, c, hfs⟩ : ∃ a b c, firstsOf T [0, 1, 2] = [a, b, c] := ⟨_, _, _, rfl⟩
    obtain ⟨f, g, hfw⟩ : ∃ f g, firstsOf T (ordL k) = [f, g] := by
      match k, hkl with
      | 0, _ | 1, _ | 2, _ => exact ⟨_, _, rfl⟩
    rw [hfs, hfw] at l1 l2 l3 l4
    rw [hfs] at hf
    rw [hfw]
    have l1 : a ≤ f := l1
    have l2 : f ≤ b := l2
    have l3 : b ≤ g := l3
    have l4 : g ≤ c := l4
    refine wSs_cons (out1 (v := lvO v (some (.int (k : Int))) (some (intD [f, g])) x0 s0 t0) hA hf rfl l1 l2 l3 l4 ?_)
    refine wSs_cons (in_for (n := n + 7) (v := lvO v (some (.int (k : Int))) (some (intD [f, g])) x0 s0 t0) hA hl gl gmx gmn BR gbr BL gbl ((lvO_ok hv1 _ _ _ _ _).more below_raw) rfl (by simp) (by lia) (by lia) hf rfl fun x s t => wSs_nil ?_)
    exact ⟨_, lst_drop (w0 := lvO v (some (.int (k : Int))) (some (intD [f, g])) x s t) (lvO_ok hv1 _ _ _ _ _) rfl (fun j a e => e), _, _, _, _, _, rfl⟩
  · rintro E' st1 ⟨l, f, x, s, t, rfl⟩
    exact wSs_nil (q l f x s t)
end
end Mine
end
section
open PySem PySem.Calls PyProof.Rows PySem.W PySem.SeqAt PyProof.V
set_option maxRecDepth 100000
namespace Mine
theorem lst_at {w : LV} {e1 e2 : List AObj} {x : AObj} : (lst w (e1 ++ x :: e2))[11 + e1.length]? = some x := lst_found (r := x :: e2)
theorem lst_set {w : LV} {e1 e2 : List AObj} {x y : AObj} : (lst w (e1 ++ x :: e2)).set (11 + e1.length) y = lst w (e1 ++ y :: e2) := by
  rw [show lst w (e1 ++ x :: e2) = lst w e1 ++ x :: e2 by simp [lst], show lst w (e1 ++ y :: e2) = lst w e1 ++ y :: e2 by simp [lst], List.set_append_right _ _ (by rw [lst_len]; lia), lst_len, Nat.sub_self]; rfl
theorem cellObj {o : Option Nat} {x : Nat} (h : o = some x) : some (AObj.cell (o.map AV.obj)) = some (AObj.cell (some (AV.obj x))) := by rw [h]; rfl
noncomputable def lowWords : List D := (List.range 10).map fun i => .str (wordOf i)
noncomputable def highWords : List D := (List.range 22).map fun i => .str (wordOf (10 + i))
noncomputable def allWords : List Str := (List.range 32).map wordOf
theorem low_look : ∀ t : Nat, t < 10 → PySem.Spec.lookup (.int (1 * 2 ^ t)) flagNames = some (.str (wordOf t)) := by
  intro t ht
  match t, ht with
  | 0, _ | 1, _ | 2, _ | 3, _ | 4, _ | 5, _ | 6, _ | 7, _ | 8, _ | 9, _ => rfl
noncomputable def digC (t : Nat) : Nat := ([52, 56, 49, 50] : List Nat).getD (t % 4) 0
theorem dig_at : ∀ t : Fin 22, (seqIndex? (((10 : Int) + ((t : Nat) : Int)).fmod 4) (Str.ofString "1248").length).bind ((Str.ofString "1248").cps[·]?) = some (digC t) := by decide +kernel
theorem high_eq : ∀ t : Fin 22, ((Str.ofString "0x" ++ (⟨#[digC t]⟩ : Str)) ++ rep (Str.ofString "0") (((10 : Int) + ((t : Nat) : Int)).fdiv 4)) = wordOf (10 + t) ∧ (rep (Str.ofString "0") (((10 : Int) + ((t : Nat) : Int)).fdiv 4)).length ≤ 100 ∧ 1 ≤ ((10 : Int) + ((t : Nat) : Int)).fdiv 4 ∧ ((10 : Int) + ((t : Nat) : Int)).fdiv 4 ≤ 1000 := by decide +kernel
theorem words_split : lowWords ++ highWords = allWords.map .str := by
  unfold lowWords highWords allWords
  rw [List.map_map]
  rfl
section
variable {C : Cx} {A : Around} {G : Gd} {cd : Value} {ql : Str} {v : LV} {ext : List AObj} {S : List Int} {Q : AF → List AObj → Prop}
set_option maxHeartbeats 4000000 in
theorem s13 {n : Nat} (hA : AOk A n) (gr : GlobIs C "range" (.type "range")) {dv : Value} (gd : GlobIs C "COMPILER_FLAG_NAMES" dv) (hd : IntDict C dv flagNames) (hv : LVok v ext)
    (q : Q .next (lst { v with words := some (11 + (ext ++ [AObj.raw (RangeO 0 10)]).length) } ((ext ++ [AObj.raw (RangeO 0 10)]) ++ [.list (lowWords.map .d)]))) : wS C A G (lae cd ql) (lst v ext) (stm 13) Q := by
  have hsz := sizeLine_eq
  refine wS_assignCell 17 rfl ?_
  refine wE_lcG (its := upto 0 10) (st2 := lst v (ext ++ [.raw (RangeO 0 10)])) []
    (LcG.data (mapG fun t => .str (wordOf t.toNat)) rfl ⟨rfl, by decide +kernel, by decide +kernel⟩ rfl (by show (([] : List (Str × Nat)).map (·.1)).Nodup; decide +kernel) (fun _ _ => rfl) (wEI_rangeC 24 gr rfl hA.handled (by decide)) (by rw [upto_len, hsz]; decide) (lst_closed (hv.more below_raw)) (LcTurn.of rfl rfl rfl (lst_closed (hv.more below_raw)) ?_) ?_)
  · intro φ' E' env' d acc hdd hef
    obtain ⟨t, ht, rfl⟩ := List.mem_map.mp hdd
    have ht10 : t < 10 := by simpa using ht
    rw [show ((0 : Int) + (t : Int)) = (t : Int) by lia]
    refine wIfs_nil ?_
    simp only [if_true]
    refine wE_sub (fun _ _ => ⟨_, rfl⟩) (wE_glob 2 gd rfl (wE_bin (wE_int (wE_local 1 rfl bget rfl rfl (shl_ii (by lia) (by lia) (by decide) ?_)))))
    rw [Int.toNat_natCast]
    exact sub_dict hd (low_look t ht10) trivial ⟨_, rfl, by simp [mapG], [], by simp⟩
  · rw [mapG_upto]
    have e : ((List.range 10).map fun (i : Nat) => PyData.str (wordOf ((0 : Int) + (i : Int)).toNat)) = lowWords := by
      unfold lowWords; congr 1; funext i; simp
    rw [e, show lst v ext ++ [AObj.raw (RangeO 0 ((10 : Nat) : Int))] = lst v (ext ++ [AObj.raw (RangeO 0 10)]) from rfl, lst_len, show lst v (ext ++ [AObj.raw (RangeO 0 10)]) ++ [AObj.list (lowWords.map .d)] = lst v ((ext ++ [AObj.raw (RangeO 0 10)]) ++ [AObj.list (lowWords.map .d)]) from rfl]
    exact st_cell 17 3 7 rfl rfl rfl q
set_option maxHeartbeats 4000000 in
theorem s14 {n : Nat} (hA : AOk A n) (gr : GlobIs C "range" (.type "range")) (hv : LVok v (ext ++ [.list (lowWords.map .d)])) (hw : v.words = some (11 + ext.length))
    (q : Q .next (lst v (ext ++ [.list ((allWords.map PyData.str).map .d), .raw (RangeO 10 32)]))) : wS C A G (lae cd ql) (lst v (ext ++ [.list (lowWords.map .d)])) (stm 14) Q := by
  have hsz := sizeLine_eq
  have hv2 := hv.more (x := .raw (RangeO 10 32)) below_raw
  refine wS_expr (fun _ => rfl) ?_
  refine wE_m1 F.plainAttrs_list F.slot_list_extend F.type_list_extend ?_ ?_ ?_ ?_
  · exact fun _ _ => rfl
  · exact fun _ => rfl
  · rfl
  refine wE_cell 17 3 7 rfl rfl (cellObj hw) ⟨hasTy_list lst_found, ?_⟩
  refine wE_lcD (its := upto 10 22) (st2 := lst v ((ext ++ [.list (lowWords.map .d)]) ++ [.raw (RangeO 10 32)])) [] (mapG fun t => .str (wordOf t.toNat)) rfl ⟨rfl, by decide +kernel, by decide +kernel⟩ rfl (by show (([] : List (Str × Nat)).map (·.1)).Nodup; decide +kernel) (fun _ _ => rfl)
    (wEI_range2C 24 gr rfl hA.handled (by decide) (by decide)) (by rw [upto_len, hsz]; decide) (lst_closed hv2) (LcTurn.of rfl rfl rfl (lst_closed hv2) ?_) ?_
  · intro φ' E' env' d acc hdd hef
    refine byC fun hC1 => ?_
    obtain ⟨t, ht, rfl⟩ := List.mem_map.mp hdd
    have ht22 : t < 22 := by simpa using ht
    obtain ⟨h1, h2, h3, h4⟩ := high_eq ⟨t, ht22⟩
    refine hC1 ?_
    refine wIfs_nil ?_
    simp only [if_true]
    refine wE_bin (wE_bin (wE_str (wE_sub (fun _ _ => ⟨_, rfl⟩) (wE_str (wE_bin (wE_local 1 rfl bget rfl rfl (wE_int (mod_ii (by decide) ?_))))))))
    refine sub_str (by have := Int.fmod_nonneg_of_pos ((10 : Int) + (t : Int)) (b := 4) (by decide); lia) (by have := Int.fmod_lt_of_pos ((10 : Int) + (t : Int)) (b := 4) (by decide); lia) (dig_at ⟨t, ht22⟩) ?_
    refine add_ss (by rw [hsz]; exact Nat.le_of_ble_eq_true rfl) ?_
    refine wE_bin (wE_str (wE_bin (wE_local 1 rfl bget rfl rfl (wE_int (div_ii (by decide) (PyProof.noPylong_small (by decide)) ?_)))))
    refine mul_si h3 h4 (by decide) (by decide) ?_
    refine add_ss (x := Str.ofString "0x" ++ (⟨#[digC t]⟩ : Str)) (y := rep (Str.ofString "0") (((10 : Int) + (t : Int)).fdiv 4)) (by rw [hsz]; have : (Str.ofString "0x" ++ (⟨#[digC t]⟩ : Str)).length = 3 := rfl; have h2 : (rep (Str.ofString "0") (((10 : Int) + (t : Int)).fdiv 4)).length ≤ 100 := h2; lia) ?_
    refine ⟨_, rfl, ?_, [], by simp⟩
    have h1 : Str.ofString "0x" ++ (⟨#[digC t]⟩ : Str) ++ rep (Str.ofString "0") (((10 : Int) + (t : Int)).fdiv 4) = wordOf (10 + t) := h1
    rw [h1]
    simp only [mapG]
    rw [show ((10 : Int) + (t : Int)).toNat = 10 + t by lia]
  · rw [mapG_upto]
    have e : ((List.range 22).map fun (i : Nat) => PyData.str (wordOf ((10 : Int) + (i : Int)).toNat)) = highWords := by
      unfold highWords; congr 1
    rw [e, List.append_assoc]
    refine bi_extend (l := lowWords.map .d) (m := highWords) lst_at rfl (by intro h; cases h) (by decide) ?_
    rw [show ([.list (lowWords.map .d)] ++ [.raw (RangeO 10 32)] : List AObj) = .list (lowWords.map .d) :: [.raw (RangeO 10 32)] from rfl, lst_set, ← List.map_append, words_split]
    exact q
end
end Mine
end
section
open PySem PySem.Calls PyProof.Rows PySem.W PySem.SeqAt PyProof.V
set_option maxRecDepth 100000
namespace Mine
structure WordsG (C : Cx) (f : Value) : Prop where
  glob : GlobIs C "_law_words" f
  ok : ∀ n : Int, FnOk C (fun _ => none) C.P0 4 f [.d (.int n), .d (.list (allWords.map .str))] [] [] fun r => r = PyData.list ((lawWords allWords n).map .str)
structure WordOk (h : Int) : Prop where
  short : PfShort h
  len : (Txt.join ", " (pfWords h)).length ≤ 1000000
  same : toldOf h = lawWords allWords h
  last : ∃ w c, (toldOf h)[((-1 : Int) + (toldOf h).length).toNat]? = some w ∧ toldOf h ≠ [] ∧ (seqIndex? 0 w.length).bind (w.cps[·]?) = some c ∧ ((⟨#[c]⟩ : Str) == Str.ofString "-") = decide (h < 0)
noncomputable def body16 : List Stmt := match stm 16 with | .For _ _ b _ _ => b | _ => []
noncomputable def tuS (k : Nat) : Stmt := (body16[k]?).getD (.Pass ⟨0, 0, 0, 0⟩)
theorem body16_eq : body16 = [tuS 0, tuS 1, tuS 2, tuS 3] := rfl
noncomputable def lineD (h : Int) : D := .list ((toldOf h).map .str)
noncomputable def linesD (H : List Int) : D := .list (H.map lineD)
theorem pre_get {l r : List AObj} {i : Nat} {x : AObj} (h : l[i]? = some x) : (l ++ r)[i]? = some x := by
  rw [List.getElem?_append_left (List.getElem?_eq_some_iff.mp h).1]; exact h
theorem words_sh : ∀ w ∈ allWords, (PyData.str w).canLay0 = true := by decide +kernel
theorem lawWords_sh {h : Int} : ∀ w ∈ lawWords allWords h, (PyData.str w).canLay0 = true := by
  intro w hw
  unfold lawWords at hw
  rcases List.mem_append.mp hw with hw | hw
  · unfold lawBits at hw
    obtain ⟨f, hf, e⟩ := List.mem_filterMap.mp hw
    split at e
    · cases e
      refine words_sh _ ?_
      have hf : f < 32 := by simpa using hf
      have : f < allWords.length := by show f < 32; exact hf
      rw [List.getD_eq_getElem?_getD, List.getElem?_eq_getElem this]
      exact List.getElem_mem this
    · cases e
  · split at hw
    · simp at hw; subst hw; decide +kernel
    · cases hw
section
variable {C : Cx} {A : Around} {G : Gd} {cd : Value} {ql : Str} {v : LV} {ext : List AObj} {S : List Int} {Q : AF → List AObj → Prop}
set_option maxHeartbeats 4000000 in
theorem tu0 {n : Nat} (hA : AOk A (n + 4)) {hf : Value} (Hg : HeadsG C hf) {T : List (List Int)} (hT : FirstsOk T (orderAt S 0)) {odd : Int} (hodd : odd.natAbs ≤ 1000) (hH : HeadsOk (orderAt S 0).length (R0of T odd (orderAt S 0)))
    (hd : v.drawn = some (intD (drawnOf S))) (ht : v.table = some (tabD T)) (ho : v.orders = some ordersD) (hod : v.odd = some (.int odd)) (q : Q .next (lst { v with heads := some (intD (headsOf T (orderAt S 0) odd)) } ext)) : wS C A G (lae cd ql) (lst v ext) (tuS 0) Q := by
  have m5 := mod5 (d6 S)
  refine wS_assign (fun _ => rfl) (wE_c3 (fun _ => rfl) (fun _ => rfl) (fun _ => rfl) (wE_glob 34 Hg.glob rfl (wE_cell 23 0 10 rfl rfl (cellGet ht) ?_)))
  refine wE_sub (fun _ _ => ⟨_, rfl⟩) (wE_local 8 rfl rfl rfl (varGet ho) (wE_bin (wE_sub (fun _ _ => ⟨_, rfl⟩) (wE_cell 2 7 3 rfl rfl (cellGet hd) (wE_int ?_)))))
  refine sub_list (l := ((drawnOf S).map PyData.int).map .d) (x := .d (.int (d6 S))) rfl (by decide) (by decide) (intsAt_ (by rw [drawn_len]; decide)) ?_
  refine wE_int (mod_ii (by decide) ?_)
  refine sub_list (l := (ordersOf.map ordD).map .d) (x := .d (ordD (orderAt S 0))) rfl m5.2 (by lia) (by rw [List.getElem?_map, orders_at m5.1]; unfold orderAt; rw [show d6 S + ((0 : Nat) : Int) = d6 S by lia]; rfl) ?_
  refine wE_local 19 rfl rfl rfl (varGet hod) ?_
  refine wCall_fn (n := 4) (Hg.ok T hT.tab odd hodd _ hT.ord3 hT.len hH) (hA.mono (by lia)) (all3 trivial trivial trivial) (fun a ha => nomatch ha) ?_
  rintro d rfl
  exact st_local 20 rfl rfl rfl q
set_option maxHeartbeats 4000000 in
theorem tu1 {n : Nat} (hA : AOk A (n + 4)) {pf : Value} (Pg : PrettyG C pf) (hv : LVok v ext) {H : List Int} (hHl : H.length ≤ 4) (hw : ∀ h ∈ H, WordOk h) (hh : v.heads = some (intD H))
    (q : Q .next (lst { v with lines := some (linesD H) } ext)) : wS C A G (lae cd ql) (lst v ext) (tuS 1) Q := by
  have hsz := sizeLine_eq
  refine wS_assignCell 21 rfl ?_
  refine wE_lcD (its := H.map .int) (st2 := lst v ext) [] (mapG lineD) rfl ⟨rfl, by decide +kernel, by decide +kernel⟩ rfl (by show (([] : List (Str × Nat)).map (·.1)).Nodup; decide +kernel) (fun _ _ => rfl)
    (wEI_list hA.handled (wE_local 20 rfl rfl rfl (varGet hh) ⟨rfl, rfl⟩)) (by rw [hsz, List.length_map]; lia) (lst_closed hv) (LcTurn.of rfl rfl rfl (lst_closed hv) ?_) ?_
  · intro φ' E' env' d acc hdd hef
    obtain ⟨t, htm, rfl⟩ := List.mem_map.mp hdd
    have hwt := hw t htm
    refine wIfs_nil ?_
    simp only [if_true]
    refine wE_m1 F.plainAttrs_str F.slot_str_split F.type_str_split ?_ ?_ ?_ ?_
    · exact fun _ _ => base_call1 _ _ _ _ _ _ _ _
    · exact fun _ => rfl
    · rfl
    refine wE_c1 (fun _ => rfl) (wE_glob 2 Pg.glob rfl (wE_local 1 rfl bget rfl rfl ?_))
    refine wCall_fn (n := 4) (Pg.ok t hwt.short) (hA.mono (by lia)) (all1 trivial) (fun a ha => nomatch ha) ?_
    rintro d rfl
    refine ⟨hasTy_str, wE_str (bi_split rfl (by rw [hsz]; have := hwt.len; lia) ?_)⟩
    exact ⟨_, rfl, rfl, [], by simp⟩
  · rw [mapG_ints]
    exact st_cell 21 2 8 rfl rfl rfl q
theorem line_at {H : List Int} {i : Nat} (h : i < H.length) : ((H.map lineD).map AV.d)[i]? = some (.d (lineD (H.getD i 0))) := by
  rw [List.getElem?_map, List.getElem?_map, getD_at h]; rfl
theorem getD_mem {H : List Int} {i : Nat} (h : i < H.length) : H.getD i 0 ∈ H := by
  rw [List.getD_eq_getElem?_getD, List.getElem?_eq_getElem h]
  exact List.getElem_mem h
set_option maxHeartbeats 4000000 in
theorem tu2 {n : Nat} (hA : AOk A n) (gr : GlobIs C "range" (.type "range")) (gl : GlobIs C "len" (.builtin "len")) {e1 e2 : List AObj} {l : List AV} (hll : l.length ≤ 10) (hv : LVok v (e1 ++ .list l :: e2)) (hc : v.changes = some (11 + e1.length)) {H : List Int} (hHl : H.length = 4) (hw : ∀ h ∈ H, WordOk h) (hli : v.lines = some (linesD H))
    (q : Q .next (lst v (e1 ++ .list (l ++ [.d (.int (chgCount H 3 : Int))]) :: (e2 ++ [.raw (RangeO 0 3)])))) : wS C A G (lae cd ql) (lst v (e1 ++ .list l :: e2)) (tuS 2) Q := by
  have hsz := sizeLine_eq
  have hv2 := hv.more (x := .raw (RangeO 0 3)) below_raw
  refine wS_expr (fun _ => rfl) ?_
  refine wE_m1 F.plainAttrs_list F.slot_list_append F.type_list_append ?_ ?_ ?_ ?_
  · exact fun _ _ => rfl
  · exact fun _ => rfl
  · rfl
  refine wE_local 18 rfl rfl rfl (objGet hc) ⟨hasTy_list lst_at, ?_⟩
  refine wE_c1 (fun _ => rfl) (wE_glob 30 gl rfl ?_)
  refine wE_lcD (its := upto 0 3) (st2 := lst v ((e1 ++ .list l :: e2) ++ [.raw (RangeO 0 3)])) [("lines", 8)] (chG H) rfl ⟨rfl, by decide +kernel, by decide +kernel⟩ rfl (by show (([("lines", 8)] : List (Str × Nat)).map (·.1)).Nodup; decide +kernel) (fun _ _ => rfl)
    (wEI_rangeC 24 gr rfl hA.handled (by decide)) (by rw [upto_len, hsz]; decide) (lst_closed hv2) (LcTurn.of rfl rfl rfl (lst_closed hv2) ?_) ?_
  · intro φ' E' env' d acc hdd hef
    refine byC fun hC1 => ?_
    obtain ⟨t, ht, rfl⟩ := List.mem_map.mp hdd
    refine hC1 ?_
    have ht3 : t < 3 := by simpa using ht
    rw [show ((0 : Int) + (t : Int)) = (t : Int) by lia]
    refine byC fun hC2 => ?_
    obtain ⟨_, _, _, w, c, k1, k2, k3, k4⟩ := hw _ (getD_mem (H := H) (i := t) (by lia))
    obtain ⟨_, _, _, w', c', m1, m2, m3, m4⟩ := hw _ (getD_mem (H := H) (i := t + 1) (by lia))
    refine hC2 ?_
    have kl : 0 < (toldOf (H.getD t 0)).length := List.length_pos_iff.mpr k2
    have ml : 0 < (toldOf (H.getD (t + 1) 0)).length := List.length_pos_iff.mpr m2
    refine wIfs_one (wB_cmp rfl (wE_cmp rfl (wE_sub (fun _ _ => ⟨_, rfl⟩) (wE_sub (fun _ _ => ⟨_, rfl⟩) (wE_sub (fun _ _ => ⟨_, rfl⟩) (wE_cell 2 0 8 rfl rfl (cellGet hli) (wE_local 1 rfl bget rfl rfl ?_)))))))
    refine sub_list (l := (H.map lineD).map .d) (x := .d (lineD (H.getD t 0))) rfl (by lia) (by lia) (by rw [Int.toNat_natCast]; exact line_at (by lia)) ?_
    refine wE_un (wE_int (neg_i ?_))
    refine sub_list_neg (l := ((toldOf (H.getD t 0)).map PyData.str).map .d) (x := .d (.str w)) rfl (by decide) (by rw [List.length_map, List.length_map]; lia) (by decide) (by rw [List.length_map, List.length_map, List.getElem?_map, List.getElem?_map, k1]; rfl) ?_
    refine wE_int (sub_str (by decide) (by decide) k3 (wE_str (eq_ss ?_)))
    rw [k4]
    refine wE_cmp rfl (wE_sub (fun _ _ => ⟨_, rfl⟩) (wE_sub (fun _ _ => ⟨_, rfl⟩) (wE_sub (fun _ _ => ⟨_, rfl⟩) (wE_cell 2 0 8 rfl rfl (cellGet hli) (wE_bin (wE_local 1 rfl bget rfl rfl (wE_int (add_ii ?_))))))))
    refine sub_list (l := (H.map lineD).map .d) (x := .d (lineD (H.getD (t + 1) 0))) rfl (by lia) (by lia) (by rw [show ((t : Int) + 1).toNat = t + 1 by lia]; exact line_at (by lia)) ?_
    refine wE_un (wE_int (neg_i ?_))
    refine sub_list_neg (l := ((toldOf (H.getD (t + 1) 0)).map PyData.str).map .d) (x := .d (.str w')) rfl (by decide) (by rw [List.length_map, List.length_map]; lia) (by decide) (by rw [List.length_map, List.length_map, List.getElem?_map, List.getElem?_map, m1]; rfl) ?_
    refine wE_int (sub_str (by decide) (by decide) m3 (wE_str (eq_ss ?_)))
    rw [m4]
    refine ne_bb (tr_b ?_)
    refine (?_ : if chg H t = true then _ else _)
    cases hb : chg H t with
    | true => exact wE_local 1 rfl bget rfl rfl ⟨_, rfl, by simp [chG, hb], [], by simp⟩
    | false => exact ⟨by simp [chG, hb], [], by simp⟩
  · refine wCall_bi (bi_len (l := ((upto 0 3).filterMap (chG H)).map .d) rfl (by have := List.length_filterMap_le (chG H) (upto 0 3); rw [upto_len] at this; rw [List.length_map]; lia) ?_)
    rw [List.length_map, chG_len, show (e1 ++ .list l :: e2) ++ [AObj.raw (RangeO 0 3)] = e1 ++ .list l :: (e2 ++ [AObj.raw (RangeO 0 3)]) by simp]
    refine bi_append lst_at (by rw [hsz]; lia) ?_
    rw [lst_set]
    exact q
set_option maxHeartbeats 4000000 in
theorem tu3 {n : Nat} (hA : AOk A (n + 4)) {wf : Value} (Wg : WordsG C wf) {i : Nat} (hv : LVok v ext) (hwd : v.words = some i) (hi : (lst v ext)[i]? = some (.frz (.list (allWords.map .str)))) {H : List Int} (hHl : H.length = 4) (hw : ∀ h ∈ H, WordOk h) (hh : v.heads = some (intD H)) (hli : v.lines = some (linesD H))
    (q : Q .next (lst v ext)) : wS C A G (lae cd ql) (lst v ext) (tuS 3) Q := by
  have hsz := sizeLine_eq
  refine wS_if (wB_cmp rfl (wE_cell 21 2 8 rfl rfl (cellGet hli) ?_))
  refine wE_lcD (its := H.map .int) (st2 := lst v ext) [("words", 7)] (mapG lineD) rfl ⟨rfl, by decide +kernel, by decide +kernel⟩ rfl (by show (([("words", 7)] : List (Str × Nat)).map (·.1)).Nodup; decide +kernel) (fun _ _ => rfl)
    (wEI_list hA.handled (wE_local 20 rfl rfl rfl (varGet hh) ⟨rfl, rfl⟩)) (by rw [hsz, List.length_map]; lia) (lst_closed hv) (LcTurn.of rfl rfl rfl (lst_closed hv) ?_) ?_
  · intro φ' E' env' d acc hdd hef
    obtain ⟨t, htm, rfl⟩ := List.mem_map.mp hdd
    have hwt := hw t htm
    refine wIfs_nil ?_
    simp only [if_true]
    refine wE_c2 (fun _ => rfl) (fun _ => rfl) (wE_glob 2 Wg.glob rfl (wE_local 1 rfl bget rfl rfl ?_))
    refine wE_d (wE_cell 3 0 7 rfl rfl (cellObj hwd) ⟨_, .inr ⟨_, rfl, pre_get hi⟩, ?_⟩)
    refine wCall_fn (n := 4) (Wg.ok t) (hA.mono (by lia)) (all2 trivial trivial) (fun a ha => nomatch ha) ?_
    rintro d rfl
    exact ⟨_, rfl, by simp [mapG, lineD, hwt.same], [], by simp⟩
  · rw [mapG_ints]
    refine ne_same hA (x := linesD H) (shList (n := 1) fun x hx => ?_) (by decide) (tr_b (wSs_nil q))
    obtain ⟨h, hm, rfl⟩ := List.mem_map.mp hx
    refine shList fun y hy => ?_
    obtain ⟨w, hwm, rfl⟩ := List.mem_map.mp hy
    rw [(hw h hm).same] at hwm
    exact shStr (lawWords_sh w hwm)
end
end Mine
end
section
open PySem PySem.Calls PyProof.Rows PySem.W PySem.SeqAt PyProof.V
set_option maxRecDepth 100000
namespace Mine
noncomputable def fAt (S : List Int) (T : List (List Int)) : Int := (firstsOf T [0, 1, 2]).getD ((d6 S).fmod 3).toNat 0
noncomputable def oddAt (S : List Int) (T : List (List Int)) : List Int := [2 * fAt S T - 1, 2 * fAt S T + 1]
noncomputable def chgAt (S : List Int) (T : List (List Int)) (odd : Int) : Int := (chgCount (headsOf T (orderAt S 0) odd) 3 : Int)
theorem orderAt_len (S : List Int) (c : Nat) : (orderAt S c).length = 3 := by
  have m5 := mod5 (d6 S + (c : Int))
  unfold orderAt
  generalize ((d6 S + (c : Int)).fmod 5).toNat = k at m5
  match k, m5.1 with
  | 0, _ | 1, _ | 2, _ | 3, _ | 4, _ => rfl
theorem headsOf_len (T : List (List Int)) (ord : List Nat) (odd : Int) : (headsOf T ord odd).length = ord.length + 1 := hS_len _ _
theorem mod3 (x : Int) : (x.fmod 3).toNat < 3 ∧ 0 ≤ x.fmod 3 ∧ x.fmod 3 < 3 := by
  have h1 := Int.fmod_nonneg_of_pos x (b := 3) (by decide)
  have h2 := Int.fmod_lt_of_pos x (b := 3) (by decide)
  omega
theorem fAt_small {S : List Int} {T : List (List Int)} (hF : FirstsOk T [0, 1, 2]) : -28 ≤ fAt S T ∧ fAt S T ≤ 28 := by
  have m := (mod3 (d6 S)).1
  unfold fAt
  rw [firsts_at (by simpa using m)]
  have := hF.found _ (by simpa using m : ((d6 S).fmod 3).toNat < [0, 1, 2].length)
  omega
structure OddOk (S : List Int) (T : List (List Int)) : Prop where
  heads : ∀ o ∈ oddAt S T, HeadsOk (orderAt S 0).length (R0of T o (orderAt S 0))
  words : ∀ o ∈ oddAt S T, ∀ h ∈ headsOf T (orderAt S 0) o, WordOk h
section
variable {C : Cx} {A : Around} {G : Gd} {cd : Value} {ql : Str} {v : LV} {ext : List AObj} {S : List Int} {Q : AF → List AObj → Prop}
theorem s15 (q : Q .next (lst { v with changes := some (11 + ext.length) } (ext ++ [.list []]))) : wS C A G (lae cd ql) (lst v ext) (stm 15) Q := by
  refine wS_assign (fun _ => rfl) (wE_list (wArgs_nil ⟨by decide, ?_⟩))
  rw [lst_len]
  exact st_local 18 rfl rfl rfl q
noncomputable abbrev lvT (v : LV) (o h li : Option D) : LV := { v with odd := o, heads := h, lines := li }
theorem lvT_ok (hv : LVok v (ext ++ [.list []])) (o h li : Option D) (l : List Int) : LVok (lvT v o h li) (ext ++ [.list (l.map fun z => .d (.int z))]) := by
  refine ⟨fun i e => ?_, fun i e => ?_, fun i e => ?_, fun x hx => ?_⟩
  · have := hv.found i e; simpa using this
  · have := hv.changes i e; simpa using this
  · have := hv.words i e; simpa using this
  · rcases List.mem_append.mp hx with hx | hx
    · have := hv.ext x (List.mem_append_left _ hx); simpa using this
    · simp at hx; subst hx
      intro a ha
      obtain ⟨z, _, rfl⟩ := List.mem_map.mp ha
      trivial
theorem csMap (l : List Int) (z : Int) : (l.map fun z => AV.d (.int z)) ++ [.d (.int z)] = (l ++ [z]).map fun z => AV.d (.int z) := by simp
set_option maxHeartbeats 4000000 in
theorem tu_all {n : Nat} (hA : AOk A (n + 4)) (gr : GlobIs C "range" (.type "range")) (gl : GlobIs C "len" (.builtin "len")) {hf pf wf : Value} (Hg : HeadsG C hf) (Pg : PrettyG C pf) (Wg : WordsG C wf) {T : List (List Int)} (hT : FirstsOk T (orderAt S 0)) {odd : Int} (hodd : odd.natAbs ≤ 1000)
    (hH : HeadsOk (orderAt S 0).length (R0of T odd (orderAt S 0))) (hw : ∀ h ∈ headsOf T (orderAt S 0) odd, WordOk h) {i : Nat} {l : List Int} (hll : l.length ≤ 10)
    (hv : LVok v (ext ++ [.list []])) (hc : v.changes = some (11 + ext.length)) (hwd : v.words = some i) (hi : ∀ w r, (lst w (ext ++ r))[i]? = some (.frz (.list (allWords.map .str))))
    (hd : v.drawn = some (intD (drawnOf S))) (ht : v.table = some (tabD T)) (ho : v.orders = some ordersD) (hod : v.odd = some (.int odd))
    (q : ∀ h li, Q .next (lst (lvT v (some (.int odd)) h li) (ext ++ .list ((l ++ [chgAt S T odd]).map fun z => .d (.int z)) :: [.raw (RangeO 0 3)]))) : wSs C A G (lae cd ql) (lst v (ext ++ [.list (l.map fun z => .d (.int z))])) body16 Q := by
  have hlen : (headsOf T (orderAt S 0) odd).length = 4 := by rw [headsOf_len, orderAt_len]
  have hv0 : LVok (lvT v v.odd v.heads v.lines) (ext ++ [.list (l.map fun z => .d (.int z))]) := lvT_ok hv _ _ _ l
  rw [body16_eq]
  refine wSs_cons (tu0 (n := n) hA Hg hT hodd hH hd ht ho hod ?_)
  refine wSs_cons (tu1 (n := n) (v := lvT v v.odd (some (intD (headsOf T (orderAt S 0) odd))) v.lines) hA Pg (lvT_ok hv _ _ _ l) (by omega) hw rfl ?_)
  refine wSs_cons (tu2 (v := lvT v v.odd (some (intD (headsOf T (orderAt S 0) odd))) (some (linesD (headsOf T (orderAt S 0) odd)))) (l := l.map fun z => .d (.int z)) (e2 := []) hA gr gl (by simpa using hll) (lvT_ok hv _ _ _ l) hc hlen hw rfl ?_)
  rw [csMap]
  refine wSs_cons (tu3 (n := n) (v := lvT v v.odd (some (intD (headsOf T (orderAt S 0) odd))) (some (linesD (headsOf T (orderAt S 0) odd)))) hA Wg (ext := ext ++ .list ((l ++ [_]).map fun z => .d (.int z)) :: ([] ++ [.raw (RangeO 0 3)])) ?_ hwd (hi _ _) hlen hw rfl rfl (wSs_nil ?_))
  · rw [show ext ++ AObj.list ((l ++ [((chgCount (headsOf T (orderAt S 0) odd) 3 : Nat) : Int)]).map fun z => .d (.int z)) :: ([] ++ [AObj.raw (RangeO 0 3)]) = (ext ++ [AObj.list ((l ++ [((chgCount (headsOf T (orderAt S 0) odd) 3 : Nat) : Int)]).map fun z => .d (.int z))]) ++ [AObj.raw (RangeO 0 3)] by simp]
    exact (lvT_ok hv _ _ _ _).more below_raw
  · have q := q (some (intD (headsOf T (orderAt S 0) odd))) (some (linesD (headsOf T (orderAt S 0) odd)))
    rw [← hod] at q
    exact q
set_option maxHeartbeats 4000000 in
theorem s16 {n : Nat} (hA : AOk A (n + 4)) (gr : GlobIs C "range" (.type "range")) (gl : GlobIs C "len" (.builtin "len")) {hf pf wf : Value} (Hg : HeadsG C hf) (Pg : PrettyG C pf) (Wg : WordsG C wf) {T : List (List Int)} (hF : FirstsOk T [0, 1, 2]) (hT : FirstsOk T (orderAt S 0)) (hO : OddOk S T) {i : Nat}
    (hv : LVok v (ext ++ [.list []])) (hc : v.changes = some (11 + ext.length)) (hwd : v.words = some i) (hi : ∀ w r, (lst w (ext ++ r))[i]? = some (.frz (.list (allWords.map .str))))
    (hd : v.drawn = some (intD (drawnOf S))) (ht : v.table = some (tabD T)) (ho : v.orders = some ordersD) (hf : v.firsts = some (intD (firstsOf T [0, 1, 2])))
    (q : ∀ o h li, Q .next (lst (lvT v o h li) (ext ++ [.list (((oddAt S T).map (chgAt S T)).map fun z => .d (.int z))]))) : wS C A G (lae cd ql) (lst v (ext ++ [.list []])) (stm 16) Q := by
  have hsz := sizeLine_eq
  have m3 := mod3 (d6 S)
  have hfs := fAt_small (S := S) hF
  refine wS_forI (lst v (ext ++ [.list []])).length ((oddAt S T).map .int) (fun k st => ∃ o h li, st = lst (lvT v o h li) (ext ++ [.list ((((oddAt S T).map (chgAt S T)).take k).map fun z => .d (.int z))])) (fun _ _ => rfl) ?_ ?_ ?_ ?_
  · rintro k st1 ⟨o, h, li, rfl⟩; simp
  · refine wEI_of (wE_tupD ?_)
    refine wArgs_cons (fun _ => rfl) (wE_bin (wE_bin (wE_int (wE_sub (fun _ _ => ⟨_, rfl⟩) (wE_local 9 rfl rfl rfl (varGet hf) (wE_bin (wE_sub (fun _ _ => ⟨_, rfl⟩) (wE_cell 2 7 3 rfl rfl (cellGet hd) (wE_int ?_)))))))))
    refine sub_list (l := ((drawnOf S).map PyData.int).map .d) (x := .d (.int (d6 S))) rfl (by decide) (by decide) (intsAt_ (by rw [drawn_len]; decide)) ?_
    refine wE_int (mod_ii (by decide) ?_)
    refine sub_list (l := ((firstsOf T [0, 1, 2]).map PyData.int).map .d) (x := .d (.int (fAt S T))) rfl m3.2.1 (by omega) (intsAt_ (by rw [firsts_len]; exact m3.1)) ?_
    refine mul_ii (mulSmall (by decide)) (wE_int (sub_ii ?_))
    refine wArgs_cons (fun _ => rfl) (wE_bin (wE_bin (wE_int (wE_sub (fun _ _ => ⟨_, rfl⟩) (wE_local 9 rfl rfl rfl (varGet hf) (wE_bin (wE_sub (fun _ _ => ⟨_, rfl⟩) (wE_cell 2 7 3 rfl rfl (cellGet hd) (wE_int ?_)))))))))
    refine sub_list (l := ((drawnOf S).map PyData.int).map .d) (x := .d (.int (d6 S))) rfl (by decide) (by decide) (intsAt_ (by rw [drawn_len]; decide)) ?_
    refine wE_int (mod_ii (by decide) ?_)
    refine sub_list (l := ((firstsOf T [0, 1, 2]).map PyData.int).map .d) (x := .d (.int (fAt S T))) rfl m3.2.1 (by omega) (intsAt_ (by rw [firsts_len]; exact m3.1)) ?_
    refine mul_ii (mulSmall (by decide)) (wE_int (add_ii ?_))
    refine wArgs_nil ⟨(oddAt S T).map .int, rfl, by rw [hsz]; exact Nat.le_of_ble_eq_true rfl, ?_⟩
    exact itr_tuple hA.handled ⟨rfl, v.odd, v.heads, v.lines, rfl⟩
  · rintro φ' E' k x st1 hx ⟨o, h, li, rfl⟩
    obtain ⟨z, hz, rfl⟩ : ∃ z, (oddAt S T)[k]? = some z ∧ x = .int z := by
      rw [List.getElem?_map] at hx
      cases q : (oddAt S T)[k]? with
      | none => rw [q] at hx; cases hx
      | some z => rw [q] at hx; cases hx; exact ⟨z, rfl, rfl⟩
    have hzm : z ∈ oddAt S T := List.mem_of_getElem? hz
    have hodd : z.natAbs ≤ 1000 := by
      simp only [oddAt, List.mem_cons, List.not_mem_nil, or_false] at hzm
      omega
    have hk2 : (((oddAt S T).map (chgAt S T)).take k).length ≤ 10 := by simp [oddAt]; omega
    refine wTgt_name (st_local 19 rfl rfl rfl ?_)
    refine tu_all (v := lvT v (some (.int z)) h li) hA gr gl Hg Pg Wg hT hodd (hO.heads z hzm) (hO.words z hzm) hk2 (lvT_ok hv _ _ _ []) hc hwd hi hd ht ho rfl fun h' li' => ?_
    have e : ((oddAt S T).map (chgAt S T)).take (k + 1) = ((oddAt S T).map (chgAt S T)).take k ++ [chgAt S T z] := by
      rw [List.take_add_one, List.getElem?_map, hz]; rfl
    refine ⟨_, ?_, some (.int z), h', li', rfl⟩
    rw [e]
    have hd := lst_drop (w := lvT v (some (.int z)) h' li') (w0 := lvT v (some (.int z)) h' li') (ext := ext ++ [.list ((((oddAt S T).map (chgAt S T)).take k ++ [chgAt S T z]).map fun z => .d (.int z))]) (r := [.raw (RangeO 0 3)]) (lvT_ok hv _ _ _ _) rfl (fun j a e => e)
    rw [show ∀ w, (lst w (ext ++ [.list ((((oddAt S T).map (chgAt S T)).take k ++ [chgAt S T z]).map fun z => .d (.int z))])).length = (lst v (ext ++ [.list []])).length from fun w => by simp, List.append_assoc] at hd
    exact hd
  · rintro E' st1 ⟨o, h, li, rfl⟩
    refine wSs_nil ?_
    have q := q o h li
    rw [show ((oddAt S T).map PyData.int).length = ((oddAt S T).map (chgAt S T)).length by simp, List.take_length]
    exact q
end
end Mine
end
section
open PySem PySem.Calls PyProof.Rows PySem.W PySem.SeqAt PyProof.V
set_option maxRecDepth 100000
namespace Mine
section
variable {C : Cx} {A : Around} {G : Gd} {cd : Value} {ql : Str} {v : LV} {ext : List AObj} {S : List Int} {Q : AF → List AObj → Prop}
set_option maxHeartbeats 4000000 in
theorem s17 {n : Nat} (hA : AOk A n) {c0 c1 : Int} (hc : v.changes = some (11 + ext.length)) (hd : v.drawn = some (intD (drawnOf S))) (h0 : c0 ≤ (d6 S).fmod 3) (h1 : (d6 S).fmod 3 < c1)
    (q : Q .next (lst v (ext ++ [.list ([c0, c1].map fun z => .d (.int z))]))) : wS C A G (lae cd ql) (lst v (ext ++ [.list ([c0, c1].map fun z => .d (.int z))])) (stm 17) Q := by
  refine wS_if (wB_not (wB_chain rfl ?_))
  refine wE_sub (fun _ _ => ⟨_, rfl⟩) (wE_local 18 rfl rfl rfl (objGet hc) (wE_int ?_))
  refine sub_list (l := [c0, c1].map fun z => .d (.int z)) (x := .d (.int c0)) (.inl lst_at) (by decide) (by decide) rfl ?_
  refine wTc_link (wE_bin (wE_sub (fun _ _ => ⟨_, rfl⟩) (wE_cell 2 7 3 rfl rfl (cellGet hd) (wE_int ?_))))
  refine sub_list (l := ((drawnOf S).map PyData.int).map .d) (x := .d (.int (d6 S))) rfl (by decide) (by decide) (intsAt_ (by rw [drawn_len]; decide)) ?_
  refine wE_int (mod_ii (by decide) (le_ii (tr_b ?_)))
  rw [decide_eq_true h0, if_pos rfl]
  refine wTc_last (wE_sub (fun _ _ => ⟨_, rfl⟩) (wE_local 18 rfl rfl rfl (objGet hc) (wE_int ?_)))
  refine sub_list (l := [c0, c1].map fun z => .d (.int z)) (x := .d (.int c1)) (.inl lst_at) (by decide) (by decide) rfl (lt_ii (tr_b ?_))
  rw [decide_eq_true h1]
  exact wSs_nil q
end
end Mine
end
section
open PySem PySem.Calls PyProof.Rows PySem.W PySem.SeqAt PyProof.V
open PySem.Sem (wp)
set_option maxRecDepth 100000
namespace Mine
structure RefusedG (C : Cx) (f : Value) (m : Str) (p : Int) : Prop where
  glob : GlobIs C "_law_refused" f
  ok : ∀ k : Nat, k < 9 → FnOkX C 3 f [.d (.str m), .d (.int p), .d (.int (k : Int))] [] [] fun r => r = PyData.bool true
structure LowG (C : Cx) (f : Value) : Prop where
  glob : GlobIs C "_law_low_refused" f
  ok : ∀ k : Int, FnOkX C 3 f [.d (.int k)] [] [] fun r => r = PyData.bool true
noncomputable def dueAt6 (S : List Int) : Int := (dueOf S).getD ((d6 S).fmod 6).toNat 0
theorem mod6 (x : Int) : (x.fmod 6).toNat < 6 ∧ 0 ≤ x.fmod 6 ∧ x.fmod 6 < 6 := by
  have h1 := Int.fmod_nonneg_of_pos x (b := 6) (by decide)
  have h2 := Int.fmod_lt_of_pos x (b := 6) (by decide)
  lia
section
variable {C : Cx} {A : Around} {G : Gd} {cd : Value} {ql : Str} {v : LV} {ext : List AObj} {S : List Int} {Q : AF → List AObj → Prop}
set_option maxHeartbeats 4000000 in
theorem s18 {n : Nat} (hA : AOk A (n + 3)) (hF : ∃ envL, A.frames = some [envL] ∧ envL.scope.kind ≠ .module ∧ envL.frame = G.env.frame) (gr : GlobIs C "range" (.type "range")) {rf : Value} (R : RefusedG C rf (markOf (d6 S)) (dueAt6 S)) (hv : LVok v ext) (hd : v.drawn = some (intD (drawnOf S))) (hu : v.due = some (intD (dueOf S)))
    (q : wSsK C A G (lae cd ql) (lst v (ext ++ [.raw (RangeO 0 9)])) [] Q) : wSK C A G (lae cd ql) (lst v ext) (stm 18) Q := by
  have hsz := sizeLine_eq
  have hv2 := hv.more (x := .raw (RangeO 0 9)) below_raw
  have m5 := mod5 (d6 S)
  have m6 := mod6 (d6 S)
  refine wSK_ifK (wBK_cmp rfl ?_)
  refine wEK_lcD (its := upto 0 9) (st2 := lst v (ext ++ [.raw (RangeO 0 9)])) [("due", 4), ("drawn", 3)] (fun _ => none) rfl ⟨rfl, by decide +kernel, by decide +kernel⟩ rfl (by show (([("due", 4), ("drawn", 3)] : List (Str × Nat)).map (·.1)).Nodup; decide +kernel) (fun _ _ => rfl)
    (wEI_rangeC 24 gr rfl hA.handled (by decide)) (by rw [upto_len, hsz]; decide) (lst_closed hv2) (LcTurnK.of rfl rfl rfl (lst_closed hv2) ?_) ?_
  · intro φ' E' env' d acc hdd hef
    obtain ⟨t, ht, rfl⟩ := List.mem_map.mp hdd
    have ht9 : t < 9 := by simpa using ht
    rw [show ((0 : Int) + (t : Int)) = (t : Int) by lia]
    refine wIfsK_one (wBK_not (wBK_val (fun _ _ => rfl) ?_))
    refine wE_callX (n := 3) 2 (fun _ => rfl) R.glob rfl (hA.mono (by lia)) ?_ rfl ?_
    · obtain ⟨envL, f1, f2, f3⟩ := hF
      exact ⟨envL, f1, f2, f3.trans hef.symm⟩
    refine wArgs_cons (fun _ => rfl) (wE_sub (fun _ _ => ⟨_, rfl⟩) (wE_str (wE_bin (wE_sub (fun _ _ => ⟨_, rfl⟩) (wE_cell 3 1 3 rfl rfl (cellGet hd) (wE_int ?_))))))
    refine sub_list (l := ((drawnOf S).map PyData.int).map .d) (x := .d (.int (d6 S))) rfl (by decide) (by decide) (intsAt_ (by rw [drawn_len]; decide)) ?_
    refine wE_int (mod_ii (by decide) (sub_str (by lia) (by lia) (mark_at (d6 S)) ?_))
    refine wArgs_cons (fun _ => rfl) (wE_sub (fun _ _ => ⟨_, rfl⟩) (wE_cell 4 0 4 rfl rfl (cellGet hu) (wE_bin (wE_sub (fun _ _ => ⟨_, rfl⟩) (wE_cell 3 1 3 rfl rfl (cellGet hd) (wE_int ?_))))))
    refine sub_list (l := ((drawnOf S).map PyData.int).map .d) (x := .d (.int (d6 S))) rfl (by decide) (by decide) (intsAt_ (by rw [drawn_len]; decide)) ?_
    refine wE_int (mod_ii (by decide) ?_)
    refine sub_list (l := ((dueOf S).map PyData.int).map .d) (x := .d (.int (dueAt6 S))) rfl m6.2.1 (by lia) (intsAt_ (by rw [due_len]; exact m6.1)) ?_
    refine wArgs_cons (fun _ => rfl) (wE_local 1 rfl bget rfl rfl (wArgs_nil ?_))
    refine ⟨_, R.ok t ht9, fun a ha => by simp at ha; rcases ha with rfl | rfl | rfl <;> trivial, ⟨_, _, _, rfl⟩, ?_⟩
    rintro d rfl
    refine tr_b ?_
    exact ⟨rfl, [], by simp⟩
  · rw [show (upto 0 9).filterMap (fun _ => (none : Option D)) = [] from rfl]
    refine wE_listD (wArgs_nil ⟨[], rfl, Nat.zero_le _, ?_⟩)
    exact ne_same hA (shList (n := 0) fun y hy => nomatch hy) (by decide) (tr_b q)
theorem kAnd2 {M : Model} {E : Value → Shared → Prop} {s : Shared} {env : Env} {x y : Expr} {pos : Pos} {Q : Value → Shared → Prop}
    (h : wpK M A (eval x env) (fun v s₁ => wpAny M A (truthy v) (fun t s₂ => if t then wpK M A (eval y env) Q E s₂ else Q v s₂) E s₁) E s) :
    wpK M A (eval (.BoolOp .And [x, y] pos) env) Q E s := by
  show wpK M A (do
    let v ← eval x env
    standAt pos
    let t ← holding [v] (truthy v)
    match BoolOp.And, t with
    | .And, false | .Or, true => pure v
    | _, _ => boolOp pos .And [eval y env]) Q E s
  refine K.bind (K.mono h (fun v s₁ h₁ => K.bind (K.standAt (K.bind (K.holding (K.go h₁ (fun t s₂ h₂ => ?_) fun _ _ x => x))))) fun _ _ x => x)
  cases t with
  | false => exact K.pure h₂
  | true => exact h₂
theorem kReturn {M : Model} {E : Value → Shared → Prop} {s : Shared} {env : Env} {e : Expr} {pos : Pos} {Q : Flow → Shared → Prop} (h : wpK M A (eval e env) (fun v => Q (.ret v)) E s) : wpK M A (exec (.Return (some e) pos) env) Q E s := by
  rw [exec_Return_some]
  exact K.bind (K.standAt (K.bind (K.mono h (fun v s' h' => K.pure h') fun _ _ z => z)))
theorem wEK_and {ae : AEnv} {st : List AObj} {x y : Expr} {pos : Pos} {Q : AV → List AObj → Prop} (h : wEK C A G ae st x fun a st1 => wTr C A G st1 a fun t st2 => if t then wEK C A G ae st2 y Q else Q a st2) : wEK C A G ae st (.BoolOp .And [x, y] pos) Q := fun κ σ s e X =>
  kAnd2 (K.mono (h κ σ s e X) (fun v s1 z => z.go fun κ1 σ1 a st1 k1 p1 X1 r1 q1 => wpAny_mono (q1 κ1 σ1 s1 v X1 r1) (fun t s2 z => z.go fun κ2 σ2 t' st2 k2 p2 X2 r2 q2 => by
    cases (r2 : t = t')
    cases t with
    | false => exact ⟨κ2, σ2, a, st2, k1.trans k2, p1.trans p2, X2, r1.mono k2 p2, q2⟩
    | true => exact PA.wpK (k1.trans k2) (p1.trans p2) (q2 κ2 σ2 s2 (e.mono (p1.trans p2)) X2)) fun _ _ z => z) fun _ _ z => z)
theorem wSK_ret {ae : AEnv} {st : List AObj} {x : Expr} {pos : Pos} {Q : AF → List AObj → Prop} (h : wEK C A G ae st x fun a st1 => Q (.ret a) st1) : wSK C A G ae st (.Return (some x) pos) Q := fun κ σ s e X =>
  kReturn (K.mono (h κ σ s e X) (fun v s1 z => z.go fun κ' σ' a st' k1 p1 X' r q => ⟨κ', σ', .ret a, st', k1, p1, X', ⟨v, rfl, r⟩, q⟩) fun _ _ z => z)
theorem s19 {n : Nat} (hA : AOk A (n + 3)) (hF : ∃ envL, A.frames = some [envL] ∧ envL.scope.kind ≠ .module ∧ envL.frame = G.env.frame) {lf : Value} (Lg : LowG C lf) (q : Q (.ret (.d (.bool true))) (lst v ext)) : wSK C A G (lae cd ql) (lst v ext) (stm 19) Q := by
  refine wSK_ret (wEK_and ?_)
  refine wE_callX (n := 3) 35 (fun _ => rfl) Lg.glob rfl (hA.mono (by lia)) hF rfl (wArgs_cons (fun _ => rfl) (wE_int (wArgs_nil ⟨_, Lg.ok 0, all1 trivial, ⟨_, _, _, rfl⟩, ?_⟩)))
  rintro d rfl
  refine tr_b ?_
  rw [if_pos rfl]
  refine wE_callX (n := 3) 35 (fun _ => rfl) Lg.glob rfl (hA.mono (by lia)) hF rfl (wArgs_cons (fun _ => rfl) (wE_int (wArgs_nil ⟨_, Lg.ok 1, all1 trivial, ⟨_, _, _, rfl⟩, ?_⟩)))
  rintro d rfl
  exact q
end
end Mine
end
section
open PySem PySem.Calls PyProof.Rows PySem.W PySem.SeqAt PyProof.V
open PySem.Sem (wp)
set_option maxRecDepth 100000
namespace Mine
structure Law2 (S : List Int) : Prop where
  len : S.length ≤ 1000
  due : DueOk S
  first : FirstsOk (tableOf S) [0, 1, 2]
  turns : TurnsOk S (tableOf S)
  left : LeftOk (tableOf S)
  tr : absI ((firstsOf (tableOf S) [0, 1, 2]).sum - vAt S 0 - vAt S 3 - vAt S 5) ≤ 1
  odd : OddOk S (tableOf S)
  lo : chgAt S (tableOf S) (2 * fAt S (tableOf S) - 1) ≤ (d6 S).fmod 3
  hi : (d6 S).fmod 3 < chgAt S (tableOf S) (2 * fAt S (tableOf S) + 1)
structure Globs2 (C : Cx) (cd : Value) (ql : Str) (S : List Int) : Prop where
  nl : NoLim C
  gr : GlobIs C "range" (.type "range")
  gli : GlobIs C "list" (.type "list")
  gab : GlobIs C "abs" (.builtin "abs")
  gsu : GlobIs C "sum" (.builtin "sum")
  gle : GlobIs C "len" (.builtin "len")
  gmx : GlobIs C "max" (.builtin "max")
  gmn : GlobIs C "min" (.builtin "min")
  reply : ∃ f, ReplyG C f
  parse : ∃ f, ParseG C f
  firsts : ∃ f, FirstsG C f
  count : ∃ f, CountG C f
  heads : ∃ f, HeadsG C f
  pretty : ∃ f, PrettyG C f
  words : ∃ f, WordsG C f
  names : ∃ dv, GlobIs C "COMPILER_FLAG_NAMES" dv ∧ IntDict C dv flagNames
  bisR : ∃ f fd, BisG C 1 f fd ∧ GlobIs C "bisect_right" f
  bisL : ∃ f fd, BisG C 2 f fd ∧ GlobIs C "bisect_left" f
  refused : ∃ f, RefusedG C f (markOf (d6 S)) (dueAt6 S)
  low : ∃ f, LowG C f
  lam : ∃ P, LamOk C cd P
  tq : ∀ pos' : Pos, ((((146 : Nat) : Int) == pos'.line) = true) → ((((48 : Nat) : Int) == pos'.col) = true) → C.tq pos' = ql ++ "<lambda>"
theorem body19_eq : bodyOf PySem.Challenge.pw_wb0027_02 19 = [stm 0, stm 1, stm 2, stm 3, stm 4, stm 5, stm 6, stm 7, stm 8, stm 9, stm 10, stm 11, stm 12, stm 13, stm 14, stm 15, stm 16, stm 17, stm 18, stm 19] := rfl
theorem LVok.nil (S : List Int) : LVok { script := some (intD S) } [] := ⟨fun i e => (nomatch e), fun i e => (nomatch e), fun i e => (nomatch e), fun x hx => (nomatch hx)⟩
theorem LVok.up {v w : LV} {ext : List AObj} (h : LVok v ext) (h1 : w.found = v.found) (h2 : w.changes = v.changes) (h3 : w.words = v.words) : LVok w ext := ⟨by rw [h1]; exact h.found, by rw [h2]; exact h.changes, by rw [h3]; exact h.words, h.ext⟩
theorem LVok.wordsUp {v : LV} {ext : List AObj} (h : LVok v ext) {x : AObj} (hx : x.below (11 + ext.length)) : LVok { v with words := some (11 + ext.length) } (ext ++ [x]) := by
  have h1 := h.more hx
  refine ⟨h1.found, h1.changes, fun i e => ?_, h1.ext⟩
  cases e; simp
theorem LVok.changesUp {v : LV} {ext : List AObj} (h : LVok v ext) {x : AObj} (hx : x.below (11 + ext.length)) : LVok { v with changes := some (11 + ext.length) } (ext ++ [x]) := by
  have h1 := h.more hx
  refine ⟨h1.found, fun i e => ?_, h1.words, h1.ext⟩
  cases e; simp
theorem LVok.swap {v : LV} {ext : List AObj} {x y : AObj} (h : LVok v (ext ++ [x])) (hy : y.below (11 + (ext ++ [x]).length)) : LVok v (ext ++ [y]) := by
  refine ⟨fun i e => ?_, fun i e => ?_, fun i e => ?_, fun z hz => ?_⟩
  · have := h.found i e; simpa using this
  · have := h.changes i e; simpa using this
  · have := h.words i e; simpa using this
  · rcases List.mem_append.mp hz with hz | hz
    · have := h.ext z (List.mem_append_left _ hz); simpa using this
    · simp at hz; subst hz; simpa using hy
theorem wSsK_freeze {C : Cx} {A : Around} {G : Gd} {ae : AEnv} {st : List AObj} (i : Nat) {ds : List D} {xs : List Stmt} {Q : AF → List AObj → Prop} (hi : st[i]? = some (.list (ds.map .d))) (h : wSsK C A G ae (st.set i (.frz (.list ds))) xs Q) : wSsK C A G ae st xs Q := fun κ σ s e X => by
  refine byC fun hC1 => ?_
  obtain ⟨κ', k, X'⟩ := X.freeze hi
  refine hC1 ?_
  exact PA.wpK k (List.prefix_refl _) (h κ' σ s e X')
section
variable {C : Cx} {A : Around} {G : Gd} {cd : Value} {ql : Str} {S : List Int} {Q : AF → List AObj → Prop}
set_option maxHeartbeats 8000000 in
theorem law2_body {n : Nat} (hA : AOk A (n + 8)) (hF : ∃ envL, A.frames = some [envL] ∧ envL.scope.kind ≠ .module ∧ envL.frame = G.env.frame) (g : Globs2 C cd ql S) (L : Law2 S) (q : ∀ st, Q (.ret (.d (.bool true))) st) :
    wSsK C A G (lae cd ql) (lst { script := some (intD S) } []) (bodyOf PySem.Challenge.pw_wb0027_02 19) Q := by
  refine byC fun hC1 => ?_
  obtain ⟨nl, gr, gli, gab, gsu, gle, gmx, gmn, ⟨fr, Rg⟩, ⟨fp, Pg⟩, ⟨ff, Fg⟩, ⟨fc, Cg⟩, ⟨fh, Hg⟩, ⟨fpf, PFg⟩, ⟨fw, Wg⟩, ⟨dv, gd, hdv⟩, ⟨br, brd, BR, gbr⟩, ⟨bl, bld, BL, gbl⟩, ⟨fre, Reg⟩, ⟨flo, Lg⟩, ⟨P, lam⟩, tq⟩ := g
  refine hC1 ?_
  have h0 := LVok.nil S
  rw [body19_eq]
  refine wSsK_cons (s0 ?_)
  refine wSsK_cons (s1 (n := n + 8) hA gr gsu (h0.up rfl rfl rfl) rfl rfl L.len ?_)
  have h1 := h0.more (x := .raw (RangeO 0 7)) below_raw
  refine wSsK_cons (s2 (n := n + 8) hA (h1.up rfl rfl rfl) rfl ?_)
  refine wSsK_cons (s3 (n := n + 7) hA gr Rg Pg (h1.up rfl rfl rfl) rfl L.due ?_)
  have h2 := h1.more (x := .raw (RangeO 0 6)) below_raw
  refine wSsK_cons (s4 (n := n + 8) hA (h2.up rfl rfl rfl) rfl rfl ?_)
  refine wSsK_cons (s5 (n := n + 8) hA (h2.up rfl rfl rfl) rfl ?_)
  refine wSsK_cons (s6 rfl ?_)
  refine wSsK_cons (s7 (n := n + 8) hA gr gli ?_)
  have h3 := h2.more (x := .raw (RangeO (-28) 29)) below_raw
  refine wSsK_cons ?_
  with_reducible refine s8 ?_
  refine wSsK_cons (s9 (n := n) hA Fg L.first rfl rfl ?_)
  refine wSsK_cons (s10 (n := n + 1) hA nl Cg BR gbr gr gle P lam tq L.first L.turns (h3.up rfl rfl rfl) rfl rfl rfl rfl rfl fun a b c => ?_)
  have h4 := h3.more (x := .raw (RangeO 0 3)) below_raw
  refine wSsK_cons (s11 (n := n + 8) hA gab gsu (by rw [firsts_len]; decide) rfl rfl L.tr ?_)
  refine wSsK_cons (s12 (n := n) hA nl gr gle gmx gmn BR gbr BL gbl Fg L.left (h4.up rfl rfl rfl) rfl rfl rfl rfl fun l f x s t => ?_)
  have h5 := h4.more (x := .raw (RangeO 0 3)) below_raw
  refine wSsK_cons (s13 (n := n + 8) hA gr gd hdv (h5.up rfl rfl rfl) ?_)
  have h6 := h5.more (x := .raw (RangeO 0 10)) below_raw
  have h7 := h6.wordsUp (x := .list (lowWords.map .d)) below_ds
  refine wSsK_cons (s14 (n := n + 8) hA gr (h7.up rfl rfl rfl) rfl ?_)
  refine wSsK_freeze _ (ds := allWords.map .str) lst_at ?_
  rw [lst_set]
  have h8 := (h7.swap (y := .frz (.list (allWords.map .str))) trivial).more (x := .raw (RangeO 10 32)) below_raw
  rw [List.append_assoc] at h8
  refine wSsK_cons (s15 ?_)
  have h9 := h8.changesUp (x := .list []) (fun a ha => nomatch ha)
  refine wSsK_cons (s16 (n := n + 4) hA gr gle Hg PFg Wg L.first (L.turns.ok 0 (by decide)) L.odd (h9.up rfl rfl rfl) rfl rfl (fun w r => by rw [List.append_assoc]; exact lst_at) rfl rfl rfl rfl fun o h li => ?_)
  refine wSsK_cons (s17 (n := n + 8) hA rfl rfl L.lo L.hi ?_)
  refine wSsK_consK (s18 (n := n + 5) hA hF gr Reg ((lvT_ok (h9.up rfl rfl rfl) o h li [_, _]).up rfl rfl rfl) rfl rfl ?_)
  refine WK.of (wSs_nil ?_)
  refine wSsK_consK (s19 (n := n + 5) hA hF Lg ?_)
  exact q _
end
end Mine
end
section
open PySem PySem.W PySem.Calls PyProof.Rows
namespace Mine
noncomputable abbrev hpS (x : Str) (t : Nat) : Value := .str x t
noncomputable abbrev hpE (P : Params) (x : Str) (t : Nat) (v : Value) : DictEntry := ⟨PyData.keyHash P x, .str x t, v⟩
noncomputable abbrev hpF (k : Nat) (m : Str) (t : Nat) (d kd c : Value) : Obj := { cls := .type "function", data := .func { name := nameOf PySem.Challenge.pw_wb0027_02 k, qualname := nameOf PySem.Challenge.pw_wb0027_02 k, params := paramsOf PySem.Challenge.pw_wb0027_02 k, body := .stmts (bodyOf PySem.Challenge.pw_wb0027_02 k), scope := scopeOf PySem.Challenge.pw_wb0027_02 k, globals := 3, closure := [], defaults := d, kwdefaults := kd, pyModule := .str m t, code := c } }
noncomputable def heap02 (P : Params) : Frag := [
  (2, { cls := .none, data := .dict #[hpE P "type.__subclasses__.Exception.0" 278 (.int 50 0), hpE P "type.__subclasses__.Exception.n" 279 (.int 1 0)] 2 }),
  (3, { cls := .type "dict", data := .dict #[hpE P "__name__" 165 (hpS "law_wb0027_02" 327), hpE P "__doc__" 166 (.none), hpE P "__package__" 167 (.none), hpE P "__loader__" 168 (.builtin "__main__.__loader__#opaque"), hpE P "__spec__" 169 (.none), hpE P "__annotations__" 170 (.ref 6), hpE P "__builtins__" 171 (.ref 4), hpE P "__file__" 173 (hpS "/claim/cut.py" 172), hpE P "__cached__" 174 (.none), hpE P "bisect_right" 202 (.ref 23), hpE P "bisect_left" 216 (.ref 32), hpE P "COMPILER_FLAG_NAMES" 249 (.ref 33), hpE P "pretty_flags" 259 (.ref 40), hpE P "Error" 281 (.ref 50), hpE P "error_reply" 297 (.ref 63), hpE P "error_proto" 313 (.ref 75), hpE P "parse229" 326 (.ref 84), hpE P "_law_reply" 339 (.ref 91), hpE P "_law_refused" 351 (.ref 98), hpE P "_law_low_refused" 359 (.ref 105), hpE P "_law_words" 365 (.ref 110), hpE P "_law_heads" 371 (.ref 115), hpE P "_law_count" 377 (.ref 120), hpE P "_law_firsts" 391 (.ref 127), hpE P "law" 397 (.ref 132)] 25 }),
  (15, { cls := .type "tuple", data := .seq #[.int 0 189, .none] }),
  (16, { cls := .type "dict", data := .dict #[hpE P "key" 190 (.none)] 1 }),
  (22, { cls := .type "code", data := .fields #[hpS "bisect_right" 191, hpS "bisect_right" 192, hpS "/claim/cut.py" 193, .int 2 0, .int 4 0, .int 0 0, .int 1 0, .int 3 0, .ref 17, .bool true, .int 181 0, .ref 18, .none, .ref 19, .ref 20, .ref 21, .int 200 0, .int 2 0, hpS "/claim/cut.py" 201] }),
  (23, hpF 1 "cpy313.bisect" 187 (.ref 15) (.ref 16) (.ref 22)),
  (24, { cls := .type "tuple", data := .seq #[.int 0 203, .none] }),
  (25, { cls := .type "dict", data := .dict #[hpE P "key" 204 (.none)] 1 }),
  (31, { cls := .type "code", data := .fields #[hpS "bisect_left" 205, hpS "bisect_left" 206, hpS "/claim/cut.py" 207, .int 22 0, .int 4 0, .int 0 0, .int 1 0, .int 3 0, .ref 26, .bool true, .int 181 0, .ref 27, .none, .ref 28, .ref 29, .ref 30, .int 214 0, .int 22 0, hpS "/claim/cut.py" 215] }),
  (32, hpF 2 "cpy313.bisect" 187 (.ref 24) (.ref 25) (.ref 31)),
  (33, { cls := .type "dict", data := .dict #[{ hash := 1, key := .int 1 219, val := hpS "OPTIMIZED" 220 }, { hash := 2, key := .int 2 221, val := hpS "NEWLOCALS" 222 }, { hash := 4, key := .int 4 223, val := hpS "VARARGS" 224 }, { hash := 8, key := .int 8 225, val := hpS "VARKEYWORDS" 226 }, { hash := 16, key := .int 16 227, val := hpS "NESTED" 228 }, { hash := 32, key := .int 32 229, val := hpS "GENERATOR" 230 }, { hash := 64, key := .int 64 231, val := hpS "NOFREE" 232 }, { hash := 128, key := .int 128 233, val := hpS "COROUTINE" 234 }, { hash := 256, key := .int 256 235, val := hpS "ITERABLE_COROUTINE" 236 }, { hash := 512, key := .int 512 237, val := hpS "ASYNC_GENERATOR" 238 }] 10 }),
  (39, { cls := .type "code", data := .fields #[hpS "pretty_flags" 250, hpS "pretty_flags" 251, hpS "/claim/cut.py" 252, .int 44 0, .int 1 0, .int 0 0, .int 0 0, .int 3 0, .ref 34, .bool true, .int 181 0, .ref 35, .none, .ref 36, .ref 37, .ref 38, .int 257 0, .int 44 0, hpS "/claim/cut.py" 258] }),
  (40, hpF 5 "cpy313.dis" 217 (.none) (.none) (.ref 39)),
  (49, { cls := .type "dict", data := .dict #[hpE P "__module__" 269 (hpS "cpy313.ftplib" 260), hpE P "__firstlineno__" 273 (.int 57 272), hpE P "__static_attributes__" 274 (.ref 48), hpE P "__weakref__" 276 (.ref 51), hpE P "__doc__" 277 (.none)] 3 }),
  (50, { cls := .type "type", data := .cls { name := "Error", bases := [.type "Exception"], mro := [.ref 50, .type "Exception", .type "BaseException", .type "object"], ns := 49, qualname := "Error", subclasses := [.ref 63, .ref 75] }, slots := #[some (.ref 41), none, some (hpS "Error" 262), some (hpS "Error" 270), some (.builtin "Exception.__new__"), some (.bool true)] }),
  (62, { cls := .type "dict", data := .dict #[hpE P "__module__" 289 (hpS "cpy313.ftplib" 260), hpE P "__firstlineno__" 293 (.int 59 292), hpE P "__static_attributes__" 294 (.ref 61), hpE P "__doc__" 295 (.none)] 2 }),
  (63, { cls := .type "type", data := .cls { name := "error_reply", bases := [.ref 50], mro := [.ref 63, .ref 50, .type "Exception", .type "BaseException", .type "object"], ns := 62, qualname := "error_reply" }, slots := #[some (.ref 54), none, some (hpS "error_reply" 282), some (hpS "error_reply" 290), some (.builtin "Exception.__new__"), some (.bool true)] }),
  (74, { cls := .type "dict", data := .dict #[hpE P "__module__" 305 (hpS "cpy313.ftplib" 260), hpE P "__firstlineno__" 309 (.int 61 308), hpE P "__static_attributes__" 310 (.ref 73), hpE P "__doc__" 311 (.none)] 2 }),
  (75, { cls := .type "type", data := .cls { name := "error_proto", bases := [.ref 50], mro := [.ref 75, .ref 50, .type "Exception", .type "BaseException", .type "object"], ns := 74, qualname := "error_proto" }, slots := #[some (.ref 66), none, some (hpS "error_proto" 298), some (hpS "error_proto" 306), some (.builtin "Exception.__new__"), some (.bool true)] }),
  (83, { cls := .type "code", data := .fields #[hpS "parse229" 314, hpS "parse229" 315, hpS "/claim/cut.py" 316, .int 63 0, .int 2 0, .int 0 0, .int 0 0, .int 3 0, .ref 78, .bool true, .int 181 0, .ref 79, .none, .ref 80, .ref 81, .ref 82, .int 324 0, .int 63 0, hpS "/claim/cut.py" 325] }),
  (84, hpF 10 "cpy313.ftplib" 260 (.none) (.none) (.ref 83)),
  (90, { cls := .type "code", data := .fields #[hpS "_law_reply" 329, hpS "_law_reply" 330, hpS "/claim/cut.py" 331, .int 81 0, .int 2 0, .int 0 0, .int 0 0, .int 3 0, .ref 85, .bool true, .int 181 0, .ref 86, .none, .ref 87, .ref 88, .ref 89, .int 337 0, .int 81 0, hpS "/claim/cut.py" 338] }),
  (91, hpF 12 "law_wb0027_02" 327 (.none) (.none) (.ref 90)),
  (97, { cls := .type "code", data := .fields #[hpS "_law_refused" 340, hpS "_law_refused" 341, hpS "/claim/cut.py" 342, .int 86 0, .int 3 0, .int 0 0, .int 0 0, .int 3 0, .ref 92, .bool true, .int 181 0, .ref 93, .none, .ref 94, .ref 95, .ref 96, .int 349 0, .int 86 0, hpS "/claim/cut.py" 350] }),
  (98, hpF 13 "law_wb0027_02" 327 (.none) (.none) (.ref 97)),
  (104, { cls := .type "code", data := .fields #[hpS "_law_low_refused" 352, hpS "_law_low_refused" 353, hpS "/claim/cut.py" 354, .int 100 0, .int 1 0, .int 0 0, .int 0 0, .int 3 0, .ref 99, .bool true, .int 181 0, .ref 100, .none, .ref 101, .ref 102, .ref 103, .int 357 0, .int 100 0, hpS "/claim/cut.py" 358] }),
  (105, hpF 14 "law_wb0027_02" 327 (.none) (.none) (.ref 104)),
  (109, { cls := .type "code", data := .fields #[hpS "_law_words" 360, hpS "_law_words" 361, hpS "/claim/cut.py" 362, .int 109 0, .int 2 0, .int 0 0, .int 0 0, .int 3 0, .ref 106, .bool true, .int 181 0, .ref 107, .none, .none, .none, .ref 108, .int 363 0, .int 109 0, hpS "/claim/cut.py" 364] }),
  (110, hpF 15 "law_wb0027_02" 327 (.none) (.none) (.ref 109)),
  (114, { cls := .type "code", data := .fields #[hpS "_law_heads" 366, hpS "_law_heads" 367, hpS "/claim/cut.py" 368, .int 114 0, .int 3 0, .int 0 0, .int 0 0, .int 3 0, .ref 111, .bool true, .int 181 0, .ref 112, .none, .none, .none, .ref 113, .int 369 0, .int 114 0, hpS "/claim/cut.py" 370] }),
  (115, hpF 16 "law_wb0027_02" 327 (.none) (.none) (.ref 114)),
  (119, { cls := .type "code", data := .fields #[hpS "_law_count" 372, hpS "_law_count" 373, hpS "/claim/cut.py" 374, .int 123 0, .int 3 0, .int 0 0, .int 0 0, .int 3 0, .ref 116, .bool true, .int 181 0, .ref 117, .none, .none, .none, .ref 118, .int 375 0, .int 123 0, hpS "/claim/cut.py" 376] }),
  (120, hpF 17 "law_wb0027_02" 327 (.none) (.none) (.ref 119)),
  (126, { cls := .type "code", data := .fields #[hpS "_law_firsts" 378, hpS "_law_firsts" 379, hpS "/claim/cut.py" 380, .int 126 0, .int 3 0, .int 0 0, .int 0 0, .int 3 0, .ref 121, .bool true, .int 181 0, .ref 122, .none, .ref 123, .ref 124, .ref 125, .int 389 0, .int 126 0, hpS "/claim/cut.py" 390] }),
  (127, hpF 18 "law_wb0027_02" 327 (.none) (.none) (.ref 126)),
  (131, { cls := .type "code", data := .fields #[hpS "law" 392, hpS "law" 393, hpS "/claim/cut.py" 394, .int 132 0, .int 1 0, .int 0 0, .int 0 0, .int 3 0, .ref 128, .bool true, .int 181 0, .ref 129, .none, .none, .none, .ref 130, .int 395 0, .int 132 0, hpS "/claim/cut.py" 396] }),
  (132, hpF 19 "law_wb0027_02" 327 (.none) (.none) (.ref 131))]
end Mine
end
section
set_option maxRecDepth 100000
open PySem PySem.W PyProof.Rows
namespace Mine
/- the head, in one run of the kernel -/
noncomputable abbrev pw02 : Program := PySem.Challenge.pw_wb0027_02
noncomputable def q02 : Program := { pw02 with main := { pw02.main with body := (pw02.main.body[19]?).toList } }
noncomputable def loose02 : List Str := ["bisect_right", "bisect_left", "COMPILER_FLAG_NAMES", "pretty_flags", "Error", "error_reply", "error_proto", "parse229", "_law_reply", "_law_refused", "_law_low_refused", "_law_words", "_law_heads", "_law_count", "_law_firsts"]
noncomputable def as02 : List Addr := [2, 3, 15, 16, 22, 23, 24, 25, 31, 32, 33, 39, 40, 49, 50, 62, 63, 74, 75, 83, 84, 90, 91, 97, 98, 104, 105, 109, 110, 114, 115, 119, 120, 126, 127, 131, 132]
noncomputable def posOf (p : Program) (k : Nat) : Pos := match p.main.body[k]? with | some (Stmt.FunctionDef _ _ _ _ _ _ _ _ _ q) => q | _ => ⟨0, 0, 0, 0⟩
noncomputable def d02 : DefRec := { name := "law", params := paramsOf pw02 19, body := bodyOf pw02 19, scope := scopeOf pw02 19, pos := posOf pw02 19 }
noncomputable def hook02 : Hook := kmHook heap02 as02 (fun _ => by kernel_rfl) [122, 129]
theorem left02 : LeftO pw02 q02 loose02 (fun s => xlAt q02 [] s && recOk PySem.Challenge.rw_wb0027_02.row.toRowW.records s) hook02.obs hook02.val 2500 := LeftO.of_split "special-get-raises" fun w => by kernel_rfl
theorem said02 : PySem.Challenge.rw_wb0027_02.wellSaid = true := by kernel_rfl
theorem prom02 : PySem.Challenge.rw_wb0027_02.row.toRowW.promised := by w_witness2
theorem hd02 (call : WalkOK q02 loose02 (XL q02 []) hook02.says PySem.Challenge.rw_wb0027_02.row.toRowW d02 []) : PySem.Challenge.rw_wb0027_02.Holds :=
  holds_law said02 fun said => holdsOpenK (q := q02) (loose := loose02) (Xt := fun s => xlAt q02 [] s && recOk PySem.Challenge.rw_wb0027_02.row.toRowW.records s) (XP := XL q02 []) (Yf := hook02.obs) (Ya := hook02.val) (YP := hook02.says) (N := 2500)
    left02 hook02.of hook02.keeps (fun s e => xl_of s (Bool.and_eq_true_iff.mp e).1) XL.keeps (by kernel_rfl) (by kernel_rfl) (by kernel_rfl) (fun s e => recFacts_of (Bool.and_eq_true_iff.mp e).2) (by kernel_rfl) said (by decide +kernel) ⟨rfl, rfl, rfl, rfl, rfl, by decide +kernel⟩ prom02 call
end Mine
end
section
set_option maxRecDepth 100000
open PySem PySem.W PySem.Calls PyProof.Rows PyProof.V PySem.SeqAt
namespace Mine
noncomputable def tabs02 : List (Addr × Addr) := [(126, 122), (131, 129)]
noncomputable def tq02 (p : Pos) : Str := if (((146 : Nat) : Int) == p.line) = true then ("law" ++ ".<locals>.") ++ "<lambda>" else ("_law_firsts" ++ ".<locals>.") ++ "<lambda>"
noncomputable abbrev K02 (w : World) : Frag := heap02 w.params
theorem plain_of {C : Cx} {K : Frag} (X : KIn C K) (k : Nat) (a c : Addr) (h0 : (K.lookup a).isSome = true) (h1 : (oAt K a).data = .func (fdAt K a)) (hb : (fdAt K a).body = .stmts (bodyOf PySem.Challenge.pw_wb0027_02 k)) (hcl : (fdAt K a).closure = []) (hg : (fdAt K a).globals = mainGlobals) (hbi : (fdAt K a).builtins = builtinsNs)
    (hco : (fdAt K a).scope.isCoroutine = false) (hge : (fdAt K a).scope.isGenerator = false) (hc : (fdAt K a).code = .ref c) (h2 : (K.lookup c).isSome = true) (h3 : (oAt K c).data = .fields (vsAt K c)) (h4 : (vsAt K c)[1]? = some (.str (fdAt K a).qualname (tokAt K c)))
    (hs : (fdAt K a).scope = scopeOf PySem.Challenge.pw_wb0027_02 k) (hp : (fdAt K a).params = paramsOf PySem.Challenge.pw_wb0027_02 k) (hd : (fdAt K a).defaults = .none) (hk : (fdAt K a).kwdefaults = .none) : PlainG C k (.ref a) (fdAt K a) :=
  ⟨fnAt_of X a c _ h0 h1 hb hcl hg hbi hco hge hc h2 h3 h4, hs, hp, hd, hk⟩
section
variable {C : Cx} {w : World} {mg mb : Str → Option Value}
theorem g_pretty (X : KIn C (K02 w)) : PlainG C 5 (.ref 40) (fdAt (K02 w) 40) := plain_of X 5 40 39 (by kernel_rfl) (by kernel_rfl) (by kernel_rfl) (by kernel_rfl) (by kernel_rfl) (by kernel_rfl) (by kernel_rfl) (by kernel_rfl) (by kernel_rfl) (by kernel_rfl) (by kernel_rfl) (by kernel_rfl) (by kernel_rfl) (by kernel_rfl) (by kernel_rfl) (by kernel_rfl)
theorem g_parse (X : KIn C (K02 w)) : PlainG C 10 (.ref 84) (fdAt (K02 w) 84) := plain_of X 10 84 83 (by kernel_rfl) (by kernel_rfl) (by kernel_rfl) (by kernel_rfl) (by kernel_rfl) (by kernel_rfl) (by kernel_rfl) (by kernel_rfl) (by kernel_rfl) (by kernel_rfl) (by kernel_rfl) (by kernel_rfl) (by kernel_rfl) (by kernel_rfl) (by kernel_rfl) (by kernel_rfl)
theorem g_reply (X : KIn C (K02 w)) : PlainG C 12 (.ref 91) (fdAt (K02 w) 91) := plain_of X 12 91 90 (by kernel_rfl) (by kernel_rfl) (by kernel_rfl) (by kernel_rfl) (by kernel_rfl) (by kernel_rfl) (by kernel_rfl) (by kernel_rfl) (by kernel_rfl) (by kernel_rfl) (by kernel_rfl) (by kernel_rfl) (by kernel_rfl) (by kernel_rfl) (by kernel_rfl) (by kernel_rfl)
theorem g_refused (X : KIn C (K02 w)) : PlainG C 13 (.ref 98) (fdAt (K02 w) 98) := plain_of X 13 98 97 (by kernel_rfl) (by kernel_rfl) (by kernel_rfl) (by kernel_rfl) (by kernel_rfl) (by kernel_rfl) (by kernel_rfl) (by kernel_rfl) (by kernel_rfl) (by kernel_rfl) (by kernel_rfl) (by kernel_rfl) (by kernel_rfl) (by kernel_rfl) (by kernel_rfl) (by kernel_rfl)
theorem g_low (X : KIn C (K02 w)) : PlainG C 14 (.ref 105) (fdAt (K02 w) 105) := plain_of X 14 105 104 (by kernel_rfl) (by kernel_rfl) (by kernel_rfl) (by kernel_rfl) (by kernel_rfl) (by kernel_rfl) (by kernel_rfl) (by kernel_rfl) (by kernel_rfl) (by kernel_rfl) (by kernel_rfl) (by kernel_rfl) (by kernel_rfl) (by kernel_rfl) (by kernel_rfl) (by kernel_rfl)
theorem g_words (X : KIn C (K02 w)) : PlainG C 15 (.ref 110) (fdAt (K02 w) 110) := plain_of X 15 110 109 (by kernel_rfl) (by kernel_rfl) (by kernel_rfl) (by kernel_rfl) (by kernel_rfl) (by kernel_rfl) (by kernel_rfl) (by kernel_rfl) (by kernel_rfl) (by kernel_rfl) (by kernel_rfl) (by kernel_rfl) (by kernel_rfl) (by kernel_rfl) (by kernel_rfl) (by kernel_rfl)
theorem g_heads (X : KIn C (K02 w)) : PlainG C 16 (.ref 115) (fdAt (K02 w) 115) := plain_of X 16 115 114 (by kernel_rfl) (by kernel_rfl) (by kernel_rfl) (by kernel_rfl) (by kernel_rfl) (by kernel_rfl) (by kernel_rfl) (by kernel_rfl) (by kernel_rfl) (by kernel_rfl) (by kernel_rfl) (by kernel_rfl) (by kernel_rfl) (by kernel_rfl) (by kernel_rfl) (by kernel_rfl)
theorem g_count (X : KIn C (K02 w)) : PlainG C 17 (.ref 120) (fdAt (K02 w) 120) := plain_of X 17 120 119 (by kernel_rfl) (by kernel_rfl) (by kernel_rfl) (by kernel_rfl) (by kernel_rfl) (by kernel_rfl) (by kernel_rfl) (by kernel_rfl) (by kernel_rfl) (by kernel_rfl) (by kernel_rfl) (by kernel_rfl) (by kernel_rfl) (by kernel_rfl) (by kernel_rfl) (by kernel_rfl)
theorem g_firsts (X : KIn C (K02 w)) : PlainG C 18 (.ref 127) (fdAt (K02 w) 127) := plain_of X 18 127 126 (by kernel_rfl) (by kernel_rfl) (by kernel_rfl) (by kernel_rfl) (by kernel_rfl) (by kernel_rfl) (by kernel_rfl) (by kernel_rfl) (by kernel_rfl) (by kernel_rfl) (by kernel_rfl) (by kernel_rfl) (by kernel_rfl) (by kernel_rfl) (by kernel_rfl) (by kernel_rfl)
theorem g_law (X : KIn C (K02 w)) : PlainG C 19 (.ref 132) (fdAt (K02 w) 132) := plain_of X 19 132 131 (by kernel_rfl) (by kernel_rfl) (by kernel_rfl) (by kernel_rfl) (by kernel_rfl) (by kernel_rfl) (by kernel_rfl) (by kernel_rfl) (by kernel_rfl) (by kernel_rfl) (by kernel_rfl) (by kernel_rfl) (by kernel_rfl) (by kernel_rfl) (by kernel_rfl) (by kernel_rfl)
end
end Mine
end
section
set_option maxRecDepth 100000
open PySem PySem.W PySem.Calls PyProof.Rows PyProof.V PySem.SeqAt
namespace Mine
noncomputable def esAt (K : Frag) (a : Addr) : Array DictEntry := match (oAt K a).data with | .dict es _ => es | _ => #[]
noncomputable def epAt (K : Frag) (a : Addr) : Nat := match (oAt K a).data with | .dict _ n => n | _ => 0
noncomputable def clsAt (K : Frag) (a : Addr) : ClassData := match (oAt K a).data with | .cls cd => cd | _ => { name := "", bases := [], mro := [], ns := 0, qualname := "" }
noncomputable def slAt (K : Frag) (a i : Nat) : Option Value := (oAt K a).slots.getD i none
noncomputable def strKeyed (es : Array DictEntry) : Bool := es.all fun e => match e.key with | .str _ _ => true | _ => false
theorem strKeyed_ok {es : Array DictEntry} (h : strKeyed es = true) : StrKeys es := fun e he => by
  unfold strKeyed at h
  rw [Array.all_eq_true] at h
  obtain ⟨i, hi, q⟩ := Array.getElem_of_mem he
  have := h i hi
  rw [q] at this
  cases k : e.key with
  | str x t => exact ⟨x, t, rfl⟩
  | _ => rw [k] at this; cases this
section
variable {C : Cx} {K : Frag}
theorem KIn.get (X : KIn C K) {a : Addr} (h : (K.lookup a).isSome = true) {hp : Heap} (k : ∀ b o, C.P0 b = some o → hp.get? b = some o) : hp.get? a = some (oAt K a) := k _ _ (X.o h)
theorem KIn.ns (X : KIn C K) {a : Addr} (h : (K.lookup a).isSome = true) (h1 : (oAt K a).data = .dict (esAt K a) (epAt K a)) (h2 : strKeyed (esAt K a) = true) {hp : Heap} (k : ∀ b o, C.P0 b = some o → hp.get? b = some o) : hp.Ns a (nsFind (esAt K a)) :=
  ⟨_, _, _, X.get h k, h1, strKeyed_ok h2, fun _ => rfl⟩
theorem intDict_of (X : KIn C K) {d : Addr} {T : List (PyData × PyData)} (h : (K.lookup d).isSome = true) (h1 : oAt K d = { cls := .type "dict", data := .dict (esAt K d) (epAt K d) }) (h2 : entriesAreInt (esAt K d).toList T = true) (h3 : keysApartInt T = true) (h4 : (d == sysModules) = false) : IntDict C (.ref d) T :=
  ⟨d, rfl, fun hp k => by
    have ho := X.get h k
    rw [h1] at ho
    refine byC fun hC1 => ?_
    obtain ⟨kvs, p, f, ks⟩ := entries_spec (prog := C.prog) (w := C.w) h2
    refine hC1 ?_
    exact ⟨⟨h4, kvs, ⟨_, _, _, ho, ⟨rfl, rfl, rfl⟩, rfl, fun e he => ks e (by simpa using he), p, nodup_of_apart f h3⟩, f⟩, _, ho, rfl, rfl⟩⟩
structure OwnAt (K : Frag) (R N E M : Addr) : Prop where
  r : (K.lookup R).isSome = true
  ro : oAt K R = excClassObj (clsAt K R).name (clsAt K R).qualname R N (clsAt K R).bases (.ref E :: excMro) (clsAt K R).hasDict (clsAt K R).slotNames (clsAt K R).subclasses (clsAt K R).abstract (clsAt K R).collection (oAt K R).dict (slAt K R 0) (slAt K R 1) (slAt K R 2) (slAt K R 3) (slAt K R 5) "Exception.__new__"
  n : (K.lookup N).isSome = true
  nd : (oAt K N).data = .dict (esAt K N) (epAt K N)
  nk : strKeyed (esAt K N) = true
  ni : nsFind (esAt K N) "__init__" = none
  nstr : nsFind (esAt K N) "__str__" = none
  e : (K.lookup E).isSome = true
  eo : oAt K E = { cls := (oAt K E).cls, dict := (oAt K E).dict, data := .cls (clsAt K E), slots := (oAt K E).slots }
  en : (clsAt K E).ns = M
  m : (K.lookup M).isSome = true
  md : (oAt K M).data = .dict (esAt K M) (epAt K M)
  mk_ : strKeyed (esAt K M) = true
  mi : nsFind (esAt K M) "__init__" = none
  mstr : nsFind (esAt K M) "__str__" = none
theorem ownExc_of (X : KIn C K) {R N E M : Addr} (O : OwnAt K R N E M) : OwnExc C R :=
  ⟨_, _, N, _, (.ref E :: excMro), _, _, _, _, _, _, _, _, _, _, _, _, _, excMro, "Exception", _, _, "Exception", _, _, O.ni, by rfl, PySem.F.excBase_Exception, by rfl, PySem.F.excBase_Exception, fun h k => by
    have hr := X.get O.r k
    rw [O.ro] at hr
    have he := X.get O.e k
    rw [O.eo] at he
    refine ⟨hr, X.ns O.n O.nd O.nk k, .own he ?_ O.mi .base⟩
    rw [O.en]; exact X.ns O.m O.md O.mk_ k⟩
theorem ownSay_of (X : KIn C K) {R N E M : Addr} (O : OwnAt K R N E M) : OwnSay C R := fun h k => by
  have hr := X.get O.r k
  rw [O.ro] at hr
  have he := X.get O.e k
  rw [O.eo] at he
  refine ⟨_, _, _, _, _, _, _, _, _, _, _, _, _, _, _, _, _, hr, .own hr (X.ns O.n O.nd O.nk k) O.nstr (.own he ?_ O.mstr .base)⟩
  rw [O.en]; exact X.ns O.m O.md O.mk_ k
theorem ownMro_of (X : KIn C K) {R N E M : Addr} (O : OwnAt K R N E M) : OwnMro C R (.ref E :: excMro) := ⟨by rfl, fun h k => by
  have hr := X.get O.r k
  rw [O.ro] at hr
  exact ⟨_, _, _, _, _, _, _, _, _, _, _, _, _, _, _, _, hr⟩⟩
end
section
variable {C : Cx} {w : World} {mg mb : Str → Option Value}
theorem own63 : OwnAt (K02 w) 63 62 50 49 := ⟨by kernel_rfl, by kernel_rfl, by kernel_rfl, by kernel_rfl, by kernel_rfl, by kernel_rfl, by kernel_rfl, by kernel_rfl, by kernel_rfl, by kernel_rfl, by kernel_rfl, by kernel_rfl, by kernel_rfl, by kernel_rfl, by kernel_rfl⟩
theorem own75 : OwnAt (K02 w) 75 74 50 49 := ⟨by kernel_rfl, by kernel_rfl, by kernel_rfl, by kernel_rfl, by kernel_rfl, by kernel_rfl, by kernel_rfl, by kernel_rfl, by kernel_rfl, by kernel_rfl, by kernel_rfl, by kernel_rfl, by kernel_rfl, by kernel_rfl, by kernel_rfl⟩
theorem g_names (X : KIn C (K02 w)) : IntDict C (.ref 33) flagNames := intDict_of X (by kernel_rfl) (by kernel_rfl) (by kernel_rfl) (by kernel_rfl) (by kernel_rfl)
theorem bis_of (X : KIn C (K02 w)) (k : Nat) (a c T W : Addr) (t : Tok) (F : FnAt C (.ref a) (fdAt (K02 w) a) (bodyOf PySem.Challenge.pw_wb0027_02 k)) (hs : (fdAt (K02 w) a).scope = scopeOf PySem.Challenge.pw_wb0027_02 k) (hp : (fdAt (K02 w) a).params = paramsOf PySem.Challenge.pw_wb0027_02 k)
    (hd : (fdAt (K02 w) a).defaults = .ref T) (hT : ((K02 w).lookup T).isSome = true) (hTd : (oAt (K02 w) T).data = .seq #[.int 0 t, .none] 0) (hk : (fdAt (K02 w) a).kwdefaults = .ref W) (hW : ((K02 w).lookup W).isSome = true) (hWd : (oAt (K02 w) W).data = .dict (esAt (K02 w) W) (epAt (K02 w) W)) (hWk : strKeyed (esAt (K02 w) W) = true) (hWn : nsFind (esAt (K02 w) W) "key" = some .none) : BisG C k (.ref a) (fdAt (K02 w) a) :=
  ⟨F, hs, hp, ⟨T, hd, fun h kp => ⟨_, _, _, X.get hT kp, hTd⟩⟩, ⟨W, hk, fun h kp => ⟨_, X.ns hW hWd hWk kp, hWn⟩⟩⟩
theorem g_bisR (X : KIn C (K02 w)) : BisG C 1 (.ref 23) (fdAt (K02 w) 23) := bis_of X 1 23 22 15 16 189 (fnAt_of X 23 22 _ (by kernel_rfl) (by kernel_rfl) (by kernel_rfl) (by kernel_rfl) (by kernel_rfl) (by kernel_rfl) (by kernel_rfl) (by kernel_rfl) (by kernel_rfl) (by kernel_rfl) (by kernel_rfl) (by kernel_rfl)) (by kernel_rfl) (by kernel_rfl) (by kernel_rfl) (by kernel_rfl) (by kernel_rfl) (by kernel_rfl) (by kernel_rfl) (by kernel_rfl) (by kernel_rfl) (by kernel_rfl)
theorem g_bisL (X : KIn C (K02 w)) : BisG C 2 (.ref 32) (fdAt (K02 w) 32) := bis_of X 2 32 31 24 25 203 (fnAt_of X 32 31 _ (by kernel_rfl) (by kernel_rfl) (by kernel_rfl) (by kernel_rfl) (by kernel_rfl) (by kernel_rfl) (by kernel_rfl) (by kernel_rfl) (by kernel_rfl) (by kernel_rfl) (by kernel_rfl) (by kernel_rfl)) (by kernel_rfl) (by kernel_rfl) (by kernel_rfl) (by kernel_rfl) (by kernel_rfl) (by kernel_rfl) (by kernel_rfl) (by kernel_rfl) (by kernel_rfl) (by kernel_rfl)
end
end Mine
end
section
set_option maxRecDepth 100000
open PySem PySem.W PySem.Calls PyProof.Rows PyProof.V PySem.SeqAt
namespace Mine
section
variable {C : Cx} {w : World} {mg mb : Str → Option Value}
theorem excG_of (X : KIn C (K02 w)) (N : NsG C (K02 w) mg mb) : ExcG C 63 75 where
  g1 := N.user (by kernel_rfl)
  g2 := N.user (by kernel_rfl)
  gv := N.boot (by kernel_rfl) (by decide) (by kernel_rfl)
  m11 := fun m => by
    have h := match_own (m := m) (ownMro_of X own63) (ownMro_of X own63)
    rwa [show (Value.ref 63 :: .ref 50 :: excMro).contains (.ref 63) = true by kernel_rfl] at h
  m21 := fun m => by
    have h := match_own (m := m) (ownMro_of X own75) (ownMro_of X own63)
    rwa [show (Value.ref 75 :: .ref 50 :: excMro).contains (.ref 63) = false by kernel_rfl] at h
  m22 := fun m => by
    have h := match_own (m := m) (ownMro_of X own75) (ownMro_of X own75)
    rwa [show (Value.ref 75 :: .ref 50 :: excMro).contains (.ref 75) = true by kernel_rfl] at h
  mv1 := fun m => match_biOwn (ownMro_of X own63) (sub_VE_ref 63)
  mv2 := fun m => match_biOwn (ownMro_of X own75) (sub_VE_ref 75)
  s1 := say_own (ownSay_of X own63)
  s2 := say_own (ownSay_of X own75)
structure RefAll (S : List Int) : Prop where
  ok : RefOk (markOf (d6 S)) (dueAt6 S)
  small : (dueAt6 S).natAbs ≤ 2 ^ 60
  len : (numS (dueAt6 S)).length ≤ 1000
theorem tq_f {pos' : Pos} (h : (((129 : Nat) : Int) == pos'.line) = true) : tq02 pos' = ("_law_firsts" ++ ".<locals>.") ++ "<lambda>" := by
  have h := eq_of_beq h
  unfold tq02
  rw [if_neg]
  rw [← h]; decide
theorem tq_l {pos' : Pos} (h : (((146 : Nat) : Int) == pos'.line) = true) : tq02 pos' = ("law" ++ ".<locals>.") ++ "<lambda>" := by
  unfold tq02
  rw [if_pos h]
theorem globs2_of (X : KIn C (K02 w)) (N : NsG C (K02 w) mg mb) (nl : NoLim C) (lamF : LamOk C (.ref 126) 122) (lamL : LamOk C (.ref 131) 129) (htq : C.tq = tq02) {S : List Int} (R : RefAll S) : Globs2 C (fdAt (K02 w) 132).code ((fdAt (K02 w) 132).qualname ++ ".<locals>.") S := by
  have gr : GlobIs C "range" (.type "range") := N.boot (by kernel_rfl) (by decide) (by kernel_rfl)
  have gli : GlobIs C "list" (.type "list") := N.boot (by kernel_rfl) (by decide) (by kernel_rfl)
  have gst : GlobIs C "str" (.type "str") := N.boot (by kernel_rfl) (by decide) (by kernel_rfl)
  have gin : GlobIs C "int" (.type "int") := N.boot (by kernel_rfl) (by decide) (by kernel_rfl)
  have gab : GlobIs C "abs" (.builtin "abs") := N.boot (by kernel_rfl) (by decide) (by kernel_rfl)
  have gsu : GlobIs C "sum" (.builtin "sum") := N.boot (by kernel_rfl) (by decide) (by kernel_rfl)
  have gle : GlobIs C "len" (.builtin "len") := N.boot (by kernel_rfl) (by decide) (by kernel_rfl)
  have gmx : GlobIs C "max" (.builtin "max") := N.boot (by kernel_rfl) (by decide) (by kernel_rfl)
  have gmn : GlobIs C "min" (.builtin "min") := N.boot (by kernel_rfl) (by decide) (by kernel_rfl)
  have ghx : GlobIs C "hex" (.builtin "hex") := N.boot (by kernel_rfl) (by decide) (by kernel_rfl)
  have gve : GlobIs C "ValueError" (.type "ValueError") := N.boot (by kernel_rfl) (by decide) (by kernel_rfl)
  have gbr : GlobIs C "bisect_right" (.ref 23) := N.user (by kernel_rfl)
  have gbl : GlobIs C "bisect_left" (.ref 32) := N.user (by kernel_rfl)
  have gcf : GlobIs C "COMPILER_FLAG_NAMES" (.ref 33) := N.user (by kernel_rfl)
  have gp : GlobIs C "parse229" (.ref 84) := N.user (by kernel_rfl)
  have E := excG_of X N
  have hg : HeadsG C (.ref 115) := ⟨N.user (by kernel_rfl), fun T hT odd hodd ord hord hlen hH => heads_ok nl (g_heads X) gr gle T hT odd hodd ord hord hlen hH⟩
  have cg : CountG C (.ref 120) := ⟨N.user (by kernel_rfl), fun T hT odd hodd ord hord hlen hH => count_ok nl (g_count X) hg gr gle T hT odd hodd ord hord hlen hH⟩
  have fg : FirstsG C (.ref 127) := ⟨N.user (by kernel_rfl), fun T ord hF => firsts_ok nl (g_firsts X) cg (g_bisL X) gbl gr gle 122 (by rw [show (fdAt (K02 w) 127).code = .ref 126 by kernel_rfl]; exact lamF) (fun pos' h1 h2 => by rw [htq, tq_f h1, show (fdAt (K02 w) 127).qualname = "_law_firsts" by kernel_rfl]) T ord hF⟩
  have pr : ParseR C (.ref 84) 63 75 := parse_raises nl (g_parse X) gp (ownExc_of X own63) E.g1 (ownExc_of X own75) E.g2 gle gin
  exact {
    nl := nl, gr := gr, gli := gli, gab := gab, gsu := gsu, gle := gle, gmx := gmx, gmn := gmn
    reply := ⟨.ref 91, N.user (by kernel_rfl), fun p n h1 h2 h3 => reply_ok nl (g_reply X) gst gab p n h1 h2 h3⟩
    parse := ⟨.ref 84, gp, fun x n h host port0 => parse_ok nl (g_parse X) gle gin x n h host port0⟩
    firsts := ⟨_, fg⟩, count := ⟨_, cg⟩, heads := ⟨_, hg⟩
    pretty := ⟨.ref 40, N.user (by kernel_rfl), fun x hx => pretty_ok nl (g_pretty X) gr _ gcf (g_names X) ghx x hx⟩
    words := ⟨.ref 110, N.user (by kernel_rfl), fun n => words_ok nl (g_words X) gr n allWords (by rfl)⟩
    names := ⟨_, gcf, g_names X⟩
    bisR := ⟨_, _, g_bisR X, gbr⟩
    bisL := ⟨_, _, g_bisL X, gbl⟩
    refused := ⟨.ref 98, N.user (by kernel_rfl), fun k hk => refused_ok nl (g_refused X) gst pr E (markOf (d6 S)) rfl (dueAt6 S) R.small R.len R.ok k hk⟩
    low := ⟨.ref 105, N.user (by kernel_rfl), fun k => low_ok nl (g_low X) gst gbl gbr gve (say_bi PySem.F.excStr_ValueError) (fun a x => bisL_low3 nl (g_bisL X) gve a x (-1) (by decide)) (fun a x => bisR_low3 nl (g_bisR X) gve a x (-1) (by decide)) k⟩
    lam := ⟨129, by rw [show (fdAt (K02 w) 132).code = .ref 131 by kernel_rfl]; exact lamL⟩
    tq := fun pos' h1 h2 => by rw [htq, tq_l h1, show (fdAt (K02 w) 132).qualname = "law" by kernel_rfl] }
end
end Mine
end
section
open PySem
namespace Mine
noncomputable def shp (mid post : List Nat) : List Nat := [50, 50, 57, 32, 40] ++ mid ++ 41 :: post
theorem shp_find (mid post : List Nat) : Txt.find ⟨(shp mid post).toArray⟩ "(" = 4 := by
  show Txt.find _ (Str.ofString "(") = 4
  rw [lpar]
  have h := find_at (pre := [50, 50, 57, 32]) (c := 40) (post := mid ++ 41 :: post) (by decide)
  rw [show shp mid post = [50, 50, 57, 32] ++ 40 :: (mid ++ 41 :: post) by simp [shp]]
  exact h
theorem shp_find3 {mid : List Nat} (post : List Nat) (h41 : 41 ∉ mid) : Txt.find3 ⟨(shp mid post).toArray⟩ ")" (4 + 1) = ((5 + mid.length : Nat) : Int) := by
  show Txt.find3 _ (Str.ofString ")") 5 = _
  rw [rpar]
  exact find3_at (pre := [50, 50, 57, 32, 40]) (mid := mid) (c := 41) (post := post) h41
theorem shp_len (mid post : List Nat) : (shp mid post).length = 6 + mid.length + post.length := by simp [shp]; lia
theorem shp_code (mid post : List Nat) : Txt.slice ⟨(shp mid post).toArray⟩ none (some 3) = "229" := by
  show Txt.slice _ none (some ((3 : Nat) : Int)) = Str.ofString "229"
  rw [slice_to _ _ (by rw [shp_len]; lia), t229]; rfl
theorem shp_mid (mid post : List Nat) : Txt.slice ⟨(shp mid post).toArray⟩ (some (4 + 1)) (some ((5 + mid.length : Nat) : Int)) = ⟨mid.toArray⟩ := by
  have hs := slice_ab (shp mid post) 5 (5 + mid.length) (by lia) (by rw [shp_len]; lia)
  refine Eq.trans hs ?_
  congr 2
  show List.take _ (mid ++ 41 :: post) = _
  rw [show 5 + mid.length - 5 = mid.length by lia, List.take_append_of_le_length (Nat.le_refl _), List.take_of_length_le (Nat.le_refl _)]
theorem shp_first {c : Nat} (mid post : List Nat) : chAt ⟨(shp (c :: mid) post).toArray⟩ (4 + 1) = some c := ch_at _ 5 c rfl
theorem shp_last {c : Nat} (mid post : List Nat) : chAt ⟨(shp (mid ++ [c]) post).toArray⟩ (((5 + (mid ++ [c]).length : Nat) : Int) - 1) = some c := by
  have e : ((5 + (mid ++ [c]).length : Nat) : Int) - 1 = ((5 + mid.length : Nat) : Int) := by simp; lia
  rw [e]
  refine ch_at _ _ c ?_
  have hpl : ([50, 50, 57, 32, 40] ++ mid).length = 5 + mid.length := by simp; lia
  rw [show shp (mid ++ [c]) post = ([50, 50, 57, 32, 40] ++ mid) ++ c :: 41 :: post by simp [shp], List.getElem?_append_right (by lia), hpl, Nat.sub_self]; rfl
section
variable {c : Nat} {d : List Nat}
theorem sp_split (hc : c ∉ d) (c256 : c < 256) (ws : List (List Nat)) (hne : ws ≠ []) (hw : ∀ w ∈ ws, w = [] ∨ w = d) : Txt.split ⟨(joinL [c] ws).toArray⟩ ⟨#[c]⟩ = ws.map fun w => ⟨w.toArray⟩ :=
  split_join (c := c) (m := []) (by simp) hne (fun w h => by rcases hw w h with rfl | rfl; simp; exact hc) (by simpa using c256)
theorem proto_of {n : Nat} (hn : n ≠ 5) (hn2 : n < 100) (mid : List Nat) (first rest : List Nat) (h1 : mid = c :: first) (h2 : mid = rest ++ [c]) (h41 : 41 ∉ mid) (hl : mid.length ≤ 100) (hs : (Txt.split ⟨mid.toArray⟩ ⟨#[c]⟩).length = n) : ParseProto ⟨(shp mid []).toArray⟩ := by
  have hf := shp_find mid []
  have hf3 := shp_find3 [] h41
  refine ⟨by show (shp mid []).length ≤ _; rw [shp_len]; simp; lia, shp_code _ _, by rw [hf]; decide, by rw [hf, hf3]; lia, .inr ⟨by rw [hf]; decide, .inr ⟨by rw [hf, hf3]; lia, c, c, ?_, ?_, .inr ⟨rfl, ?_⟩⟩⟩⟩
  · rw [hf, h1]; exact shp_first _ _
  · rw [hf, hf3]; rw [h2]; exact shp_last _ _
  · rw [hf, hf3, shp_mid, hs]; exact ⟨hn, by lia⟩
theorem ve_of (hc : c ∉ d) (c256 : c < 256) (c41 : c ≠ 41) (h41 : 41 ∉ d) (hl : d.length ≤ 10) (hb : IntBad ⟨d.toArray⟩) : ParseVE ⟨(shp ([c, c, c] ++ d ++ [c]) []).toArray⟩ := by
  have h41' : 41 ∉ [c, c, c] ++ d ++ [c] := by
    intro q
    simp only [List.mem_append, List.mem_cons, List.not_mem_nil, or_false] at q
    rcases q with (q | q) | q
    · lia
    · exact h41 q
    · lia
  have hf := shp_find ([c, c, c] ++ d ++ [c]) []
  have hf3 := shp_find3 [] h41'
  refine ⟨by show (shp ([c, c, c] ++ d ++ [c]) []).length ≤ _; rw [shp_len]; simp; lia, shp_code _ _, by rw [hf]; decide, by rw [hf]; decide, by rw [hf, hf3]; lia, by rw [hf, hf3]; simp; lia, c, ?_, ?_, ?_⟩
  · rw [hf]; exact shp_first _ _
  · rw [hf, hf3]; exact shp_last _ _
  · rw [hf, hf3, shp_mid]
    have h := sp_split hc c256 [[], [], [], d, []] (by simp) (by simp)
    rw [show joinL [c] [[], [], [], d, []] = [c, c, c] ++ d ++ [c] by simp [joinL]] at h
    exact ⟨_, _, _, _, _, h, hb⟩
end
theorem bad_nil : IntBad ⟨([] : List Nat).toArray⟩ := ⟨by decide +kernel, by rw [PySem.sizeLine_eq]; decide +kernel, by kernel_rfl⟩
theorem bad_x : IntBad ⟨[120].toArray⟩ := ⟨by decide +kernel, by rw [PySem.sizeLine_eq]; decide +kernel, by kernel_rfl⟩
end Mine
end
section
open PySem
namespace Mine
noncomputable def tb (x : Int) (i : Nat) : Bool := x.fdiv (2 ^ i) % 2 == 1
noncomputable def hiP (x : Int) (i : Nat) : Int := 2 ^ i * x.fdiv (2 ^ i)
theorem p2_pos (i : Nat) : (0 : Int) < 2 ^ i := Int.pow_pos (by decide)
theorem fdiv_nat (n i : Nat) : (n : Int).fdiv (2 ^ i) = ((n / 2 ^ i : Nat) : Int) := by
  rw [Int.fdiv_eq_ediv_of_nonneg _ (Int.le_of_lt (p2_pos i))]
  rw [show ((2 : Int) ^ i) = ((2 ^ i : Nat) : Int) by simp]
  rfl
theorem tb_nat (n i : Nat) : tb (n : Int) i = n.testBit i := by
  unfold tb
  rw [fdiv_nat, Nat.testBit_eq_decide_div_mod_eq]
  generalize n / 2 ^ i = k
  by_cases h : k % 2 = 1
  · have : (k : Int) % 2 = 1 := by lia
    simp [h, this]
  · have : ¬ (k : Int) % 2 = 1 := by lia
    simp [h, this]
theorem fdiv_neg (n i : Nat) : (-(n : Int) - 1).fdiv (2 ^ i) = -((n / 2 ^ i : Nat) : Int) - 1 := by
  have hp := p2_pos i
  rw [Int.fdiv_eq_ediv_of_nonneg _ (Int.le_of_lt hp)]
  have hd : (n : Int) = 2 ^ i * ((n / 2 ^ i : Nat) : Int) + ((n % 2 ^ i : Nat) : Int) := by
    have := Nat.div_add_mod n (2 ^ i)
    have h2 : ((2 ^ i : Nat) : Int) = 2 ^ i := by simp
    rw [← h2]; exact_mod_cast this.symm
  have hm : ((n % 2 ^ i : Nat) : Int) < 2 ^ i := by
    have := Nat.mod_lt n (Nat.two_pow_pos i)
    have h2 : ((2 ^ i : Nat) : Int) = 2 ^ i := by simp
    rw [← h2]; exact_mod_cast this
  have e : -(n : Int) - 1 = (2 ^ i - 1 - ((n % 2 ^ i : Nat) : Int)) + 2 ^ i * (-((n / 2 ^ i : Nat) : Int) - 1) := by
    rw [hd]; grind
  rw [e, Int.add_mul_ediv_left _ _ (by lia), Int.ediv_eq_zero_of_lt (by lia) (by lia)]
  lia
theorem tb_neg (n i : Nat) : tb (-(n : Int) - 1) i = !n.testBit i := by
  rw [← tb_nat]
  unfold tb
  rw [fdiv_neg, fdiv_nat]
  generalize n / 2 ^ i = k
  by_cases h : k % 2 = 1
  · have h1 : (k : Int) % 2 = 1 := by lia
    have h2 : (-(k : Int) - 1) % 2 = 0 := by lia
    simp [h1, h2]
  · have h1 : (k : Int) % 2 = 0 := by lia
    have h2 : (-(k : Int) - 1) % 2 = 1 := by lia
    simp [h1, h2]
theorem and_p2 (n i : Nat) : n &&& 2 ^ i = if n.testBit i then 2 ^ i else 0 := by
  apply Nat.eq_of_testBit_eq
  intro j
  rw [Nat.testBit_and, Nat.testBit_two_pow]
  by_cases q : i = j
  · subst q; cases h : n.testBit i <;> simp
  · cases h : n.testBit i <;> simp [q, Nat.testBit_two_pow]
theorem p2_cast (i : Nat) : (1 * 2 ^ i : Int) = ((2 ^ i : Nat) : Int) := by simp
theorem bitNot_eq (x : Int) : Builtin.bitNot x = -x - 1 := by unfold Builtin.bitNot; lia
theorem bitAnd_p2 (x : Int) (i : Nat) : Builtin.bitAnd x (1 * 2 ^ i) = if tb x i then 2 ^ i else 0 := by
  rw [p2_cast]
  unfold Builtin.bitAnd
  have h2 : (0 : Int) ≤ ((2 ^ i : Nat) : Int) := Int.natCast_nonneg _
  have e2 : ((2 ^ i : Nat) : Int) = 2 ^ i := by simp
  by_cases h : 0 ≤ x
  · obtain ⟨n, rfl⟩ := Int.eq_ofNat_of_zero_le h
    rw [decide_eq_true h, decide_eq_true h2]
    simp only [Int.toNat_natCast]
    rw [and_p2, tb_nat]
    split <;> simp
  · obtain ⟨n, rfl⟩ : ∃ n : Nat, x = -(n : Int) - 1 := ⟨(-x - 1).toNat, by lia⟩
    rw [decide_eq_false h, decide_eq_true h2]
    simp only [Int.toNat_natCast, bitNot_eq]
    rw [show (-(-(n : Int) - 1) - 1).toNat = n by lia, Nat.and_comm, and_p2, tb_neg]
    cases n.testBit i <;> simp
theorem bitXor_p2 {x : Int} {i : Nat} (h : tb x i = true) : Builtin.bitXor x (1 * 2 ^ i) = x - 2 ^ i := by
  unfold Builtin.bitXor
  rw [bitAnd_p2, h, if_pos rfl]
  suffices Builtin.bitOr x (1 * 2 ^ i) = x by rw [this]
  rw [p2_cast]
  unfold Builtin.bitOr
  have e2 : (0 : Int) ≤ ((2 ^ i : Nat) : Int) := Int.natCast_nonneg _
  by_cases hx : 0 ≤ x
  · obtain ⟨n, rfl⟩ := Int.eq_ofNat_of_zero_le hx
    unfold Builtin.bitAnd
    simp only [bitNot_eq]
    rw [decide_eq_false (by lia), decide_eq_false (by lia)]
    simp only
    rw [show (-(-(n : Int) - 1) - 1).toNat = n by lia, show (-(-((2 ^ i : Nat) : Int) - 1) - 1).toNat = 2 ^ i by lia]
    rw [tb_nat] at h
    have : n ||| 2 ^ i = n := by
      apply Nat.eq_of_testBit_eq
      intro j
      rw [Nat.testBit_or, Nat.testBit_two_pow]
      by_cases q : i = j
      · subst q; simp [h]
      · simp [q]
    rw [this]; lia
  · obtain ⟨n, rfl⟩ : ∃ n : Nat, x = -(n : Int) - 1 := ⟨(-x - 1).toNat, by lia⟩
    unfold Builtin.bitAnd
    simp only [bitNot_eq]
    rw [decide_eq_true (by lia), decide_eq_false (by lia)]
    simp only
    rw [show (-(-(n : Int) - 1) - 1).toNat = n by lia, show (-(-((2 ^ i : Nat) : Int) - 1) - 1).toNat = 2 ^ i by lia, and_p2]
    rw [tb_neg] at h
    rw [if_neg (by simpa using h)]
    simp; lia
theorem hiP_succ (x : Int) (i : Nat) : hiP x i = hiP x (i + 1) + (if tb x i then 2 ^ i else 0) := by
  unfold hiP tb
  have hp := p2_pos i
  have hp1 := p2_pos (i + 1)
  have e1 : x.fdiv (2 ^ (i + 1)) = (x.fdiv (2 ^ i)) / 2 := by
    rw [Int.fdiv_eq_ediv_of_nonneg _ (Int.le_of_lt hp1), Int.fdiv_eq_ediv_of_nonneg _ (Int.le_of_lt hp), Int.pow_succ, Int.ediv_ediv_of_nonneg (Int.le_of_lt hp)]
  rw [e1, Int.pow_succ]
  generalize x.fdiv (2 ^ i) = q
  generalize (2 : Int) ^ i = p at *
  by_cases h : q % 2 = 1
  · have hq : q = 2 * (q / 2) + 1 := by lia
    simp only [h, beq_self_eq_true, if_true]
    generalize q / 2 = r at hq ⊢
    subst hq; grind
  · have hq : q = 2 * (q / 2) := by lia
    have : (q % 2 == 1) = false := by simpa using h
    simp only [this, Bool.false_eq_true, if_false]
    generalize q / 2 = r at hq ⊢
    subst hq; grind
theorem hiP_tb (x : Int) (i : Nat) : tb (hiP x i) i = tb x i := by
  unfold tb hiP
  rw [Int.mul_fdiv_cancel_left _ (by have := p2_pos i; lia)]
noncomputable def bitsFrom (x : Int) (i n : Nat) : List Str := (List.range' i n).filterMap fun j => if tb x j then some (wordOf j) else none
noncomputable def tailW (x : Int) : List Str := if x < 0 then [("-0x100000000" : Str)] else []
theorem tb_zero {x : Int} {i j : Nat} (h : x.fdiv (2 ^ i) = 0) (hij : i ≤ j) : tb x j = false := by
  have hp := p2_pos i
  rw [Int.fdiv_eq_ediv_of_nonneg _ (Int.le_of_lt hp)] at h
  have h0 : 0 ≤ x := by
    rcases Int.lt_or_le x 0 with q | q
    · have := Int.ediv_neg_of_neg_of_pos q hp; lia
    · exact q
  obtain ⟨n, rfl⟩ := Int.eq_ofNat_of_zero_le h0
  rw [tb_nat]
  have hlt : n < 2 ^ i := by
    have : (n : Int) < 2 ^ i := by
      have h2 := Int.emod_add_mul_ediv (n : Int) (2 ^ i)
      rw [h] at h2
      have := Int.emod_lt_of_pos (n : Int) hp
      lia
    have h2 : ((2 ^ i : Nat) : Int) = 2 ^ i := by simp
    rw [← h2] at this; exact_mod_cast this
  exact Nat.testBit_lt_two_pow (Nat.lt_of_lt_of_le hlt (Nat.pow_le_pow_right (by decide) hij))
theorem pf_loop {x : Int} (hx1 : -(2 ^ 32) ≤ x) (hx2 : x < 2 ^ 32) : ∀ (n i : Nat) (ns : List Str), n + i = 32 → hiP x i ≠ 0 → pfLoop n i (hiP x i) ns = ns ++ bitsFrom x i n ++ tailW x := by
  intro n
  induction n with
  | zero =>
    intro i ns hi hne
    obtain rfl : i = 32 := by lia
    show ns ++ [hexS (hiP x 32)] = _
    unfold bitsFrom tailW
    have e : x.fdiv (2 ^ 32) = if x < 0 then -1 else 0 := by
      rw [Int.fdiv_eq_ediv_of_nonneg _ (by decide)]
      split
      · rename_i q; exact Int.ediv_eq_neg_one_of_neg_of_le q (by lia)
      · exact Int.ediv_eq_zero_of_lt (by lia) hx2
    unfold hiP at hne ⊢
    rw [e] at hne ⊢
    by_cases q : x < 0
    · simp only [q, if_true]
      rw [show hexS (2 ^ 32 * -1) = ("-0x100000000" : Str) by decide +kernel]
      simp
    · simp [q] at hne
  | succ n ih =>
    intro i ns hi hne
    have hs := hiP_succ x i
    unfold pfLoop
    rw [bitAnd_p2, hiP_tb]
    have hr : bitsFrom x i (n + 1) = (if tb x i then [wordOf i] else []) ++ bitsFrom x (i + 1) n := by
      unfold bitsFrom
      rw [List.range'_succ, List.filterMap_cons]
      cases tb x i <;> rfl
    cases hb : tb x i with
    | true =>
      rw [hb] at hs hr
      simp only [if_true] at hs hr ⊢
      rw [bitXor_p2 (by rw [hiP_tb]; exact hb), show hiP x i - 2 ^ i = hiP x (i + 1) by lia]
      have hp : ((2 : Int) ^ i != 0) = true := by have := p2_pos i; simp; lia
      rw [if_pos hp]
      by_cases q : hiP x (i + 1) = 0
      · rw [q, if_neg (by simp), hr]
        have hz : x.fdiv (2 ^ (i + 1)) = 0 := by
          unfold hiP at q
          rcases Int.mul_eq_zero.mp q with q | q
          · have := p2_pos (i + 1); lia
          · exact q
        have h0 : bitsFrom x (i + 1) n = [] := by
          unfold bitsFrom
          rw [List.filterMap_eq_nil_iff]
          intro j hj
          rw [List.mem_range'_1] at hj
          rw [tb_zero hz hj.1]; rfl
        have ht : tailW x = [] := by
          unfold tailW
          rw [if_neg]
          intro hneg
          rw [Int.fdiv_eq_ediv_of_nonneg _ (Int.le_of_lt (p2_pos (i + 1)))] at hz
          have := Int.ediv_neg_of_neg_of_pos hneg (p2_pos (i + 1)); lia
        rw [h0, ht]; simp
      · rw [if_pos (by simpa using q), ih (i + 1) _ (by lia) q, hr]; simp
    | false =>
      rw [hb] at hs hr
      simp only [Bool.false_eq_true, if_false, Int.add_zero, List.nil_append] at hs hr ⊢
      rw [if_neg (by simp), hs, ih (i + 1) ns (by lia) (by rw [← hs]; exact hne), hr]
end Mine
end
section
open PySem
namespace Mine
theorem hiP_0 (x : Int) : hiP x 0 = x := by unfold hiP; simp
theorem pfWords_eq {x : Int} (h0 : x ≠ 0) (hx1 : -(2 ^ 32) ≤ x) (hx2 : x < 2 ^ 32) : pfWords x = bitsFrom x 0 32 ++ tailW x := by
  have h := pf_loop hx1 hx2 32 0 [] rfl (by rw [hiP_0]; exact h0)
  rw [hiP_0] at h
  unfold pfWords; rw [h]; rfl
theorem bitQ_eq (x : Int) (i : Nat) : bitQ x i = tb x i := by
  unfold bitQ
  have h := bitAnd_p2 (x.fdiv (2 ^ i)) 0
  rw [show (1 * 2 ^ 0 : Int) = 1 from rfl] at h
  rw [h]
  have e : tb (x.fdiv (2 ^ i)) 0 = tb x i := by unfold tb; simp
  rw [e]
  cases tb x i <;> rfl
theorem allWords_at {f : Nat} (h : f < 32) : allWords.getD f "" = wordOf f := by
  unfold allWords
  rw [List.getD_eq_getElem?_getD, List.getElem?_map, List.getElem?_range h]; rfl
theorem lawWords_eq (x : Int) : lawWords allWords x = bitsFrom x 0 32 ++ tailW x := by
  unfold lawWords lawBits bitsFrom tailW
  rw [List.range_eq_range']
  congr 1
  refine fm_congr fun f hf => ?_
  rw [List.mem_range'_1] at hf
  rw [bitQ_eq, allWords_at (by lia)]
theorem word_all : ∀ j : Fin 32, 44 ∉ (wordOf j).cps.toList ∧ (wordOf j).length ≤ 20 ∧ (match (seqIndex? 0 (wordOf j).length).bind ((wordOf j).cps[·]?) with | some c => ((⟨#[c]⟩ : Str) == Str.ofString "-") == false | none => false) = true := by decide +kernel
theorem tail_word : 44 ∉ (Str.ofString "-0x100000000").cps.toList ∧ (Str.ofString "-0x100000000").length ≤ 20 ∧ (seqIndex? 0 (Str.ofString "-0x100000000").length).bind ((Str.ofString "-0x100000000").cps[·]?) = some 45 := by decide +kernel
theorem bits_mem {x : Int} {w : Str} (h : w ∈ bitsFrom x 0 32) : ∃ j : Fin 32, w = wordOf j := by
  unfold bitsFrom at h
  obtain ⟨j, hj, e⟩ := List.mem_filterMap.mp h
  rw [List.mem_range'_1] at hj
  split at e
  · cases e; exact ⟨⟨j, by lia⟩, rfl⟩
  · cases e
theorem tail_mem {x : Int} {w : Str} (h : w ∈ tailW x) : x < 0 ∧ w = "-0x100000000" := by
  unfold tailW at h
  split at h
  · simp at h; exact ⟨by assumption, h⟩
  · cases h
theorem pf_word {x : Int} {w : Str} (h : w ∈ bitsFrom x 0 32 ++ tailW x) : 44 ∉ w.cps.toList ∧ w.length ≤ 20 := by
  rcases List.mem_append.mp h with h | h
  · obtain ⟨j, rfl⟩ := bits_mem h
    exact ⟨(word_all j).1, (word_all j).2.1⟩
  · obtain ⟨_, rfl⟩ := tail_mem h
    exact ⟨tail_word.1, tail_word.2.1⟩
theorem pfLoop_ne : ∀ (n i : Nat) (x : Int) (ns : List Str), pfLoop n i x ns ≠ [] := by
  intro n
  induction n with
  | zero => intro i x ns; show ns ++ [hexS x] ≠ []; simp
  | succ n ih =>
    intro i x ns
    unfold pfLoop
    split
    · split
      · exact ih _ _ _
      · simp
    · exact ih _ _ _
theorem join_list (ws : List Str) : Str.join ", " ws = ⟨(joinL [44, 32] (ws.map fun w => w.cps.toList)).toArray⟩ := by
  have hc : (Str.ofString ", ") = ⟨#[44, 32]⟩ := by decide +kernel
  induction ws with
  | nil => rfl
  | cons w r ih =>
    cases r with
    | nil => show w = _; exact (Str.eta w).symm
    | cons w2 r =>
      show w ++ Str.ofString ", " ++ Str.join (Str.ofString ", ") (w2 :: r) = _
      have ih : Str.join (Str.ofString ", ") (w2 :: r) = _ := ih
      rw [ih, hc, show ((w :: w2 :: r).map fun w => w.cps.toList) = w.cps.toList :: w2.cps.toList :: r.map (fun w => w.cps.toList) from rfl, joinL_cons]
      show (⟨(w.cps ++ #[44, 32]) ++ _⟩ : Str) = _
      congr 1
      apply Array.toList_inj.mp
      simp
theorem told_eq {ws : List Str} (hne : ws ≠ []) (hw : ∀ w ∈ ws, 44 ∉ w.cps.toList) : Txt.split (Txt.join ", " ws) ", " = ws := by
  have e : Txt.join ", " ws = Str.join ", " ws := StrLaws.glued_eq_join _ _
  have hc : (Str.ofString ", ") = ⟨[44, 32].toArray⟩ := by decide +kernel
  rw [e, join_list, hc, split_join (c := 44) (m := [32]) (by decide) (by simpa using hne) (fun w h => by
    obtain ⟨v, hv, rfl⟩ := List.mem_map.mp h
    exact hw v hv) (by decide), List.map_map]
  refine Eq.trans (List.map_congr_left fun w _ => ?_) (List.map_id ws)
  exact Str.eta w
theorem wordOk {x : Int} (h0 : x ≠ 0) (hs : x.natAbs ≤ 6000000) : WordOk x := by
  have he := pfWords_eq h0 (by lia) (by lia)
  have hne : pfWords x ≠ [] := pfLoop_ne _ _ _ _
  have hw : ∀ w ∈ pfWords x, 44 ∉ w.cps.toList ∧ w.length ≤ 20 := fun w h => pf_word (by rw [← he]; exact h)
  have ht : toldOf x = pfWords x := told_eq hne fun w h => (hw w h).1
  have hlen : (pfWords x).length ≤ 33 := by
    rw [he, List.length_append]
    have h1 : (bitsFrom x 0 32).length ≤ 32 := Nat.le_trans (List.length_filterMap_le _ _) (by simp)
    have h2 : (tailW x).length ≤ 1 := by unfold tailW; split <;> simp
    lia
  refine ⟨fun y ns h => ?_, ?_, ?_, ?_⟩
  · have := (hw (hexS y) (by rw [← h]; simp)).2
    lia
  · have e : Txt.join ", " (pfWords x) = Str.join ", " (pfWords x) := StrLaws.glued_eq_join _ _
    rw [e]
    have h1 := StrLaws.join_length_le ", " (pfWords x)
    have h2 := sum_room (pfWords x) 33 20 hlen fun w h => (hw w h).2
    have h3 : (pfWords x).length * (Str.ofString ", ").length ≤ 33 * 2 := Nat.mul_le_mul hlen (by decide +kernel)
    lia
  · rw [ht, he, lawWords_eq]
  · rw [ht]
    have hl : 0 < (pfWords x).length := List.length_pos_iff.mpr hne
    have hlast : (pfWords x)[((-1 : Int) + (pfWords x).length).toNat]? = some ((pfWords x).getLast hne) := by
      rw [List.getLast_eq_getElem, show ((-1 : Int) + (pfWords x).length).toNat = (pfWords x).length - 1 by lia, List.getElem?_eq_getElem (by lia)]
    have hcase : ((pfWords x).getLast hne = "-0x100000000" ∧ x < 0) ∨ ((∃ j : Fin 32, (pfWords x).getLast hne = wordOf j) ∧ ¬ x < 0) := by
      by_cases q : x < 0
      · left
        refine ⟨?_, q⟩
        have ht : tailW x = [("-0x100000000" : Str)] := by unfold tailW; rw [if_pos q]
        have e2 : pfWords x = bitsFrom x 0 32 ++ [("-0x100000000" : Str)] := by rw [he, ht]
        simp only [e2]
        simp
      · right
        refine ⟨?_, q⟩
        have hm := List.getLast_mem hne
        generalize (pfWords x).getLast hne = w at hm ⊢
        rw [he] at hm
        rcases List.mem_append.mp hm with h | h
        · exact bits_mem h
        · exact absurd (tail_mem h).1 q
    refine ⟨(pfWords x).getLast hne, ?_⟩
    rcases hcase with ⟨e, q⟩ | ⟨⟨j, e⟩, q⟩
    · refine ⟨45, hlast, hne, ?_, ?_⟩
      · rw [e]; exact tail_word.2.2
      · rw [decide_eq_true q]; decide +kernel
    · have hj := (word_all j).2.2
      cases k : (seqIndex? 0 (wordOf j).length).bind ((wordOf j).cps[·]?) with
      | none => rw [k] at hj; cases hj
      | some c =>
        rw [k] at hj
        refine ⟨c, hlast, hne, by rw [e]; exact k, ?_⟩
        rw [decide_eq_false q]
        simpa using hj
end Mine
end
section
namespace Mine
theorem sq_nn (d : Int) : 0 ≤ d * d := by
  rcases Int.le_total 0 d with h | h
  · exact Int.mul_nonneg h h
  · exact Int.mul_nonneg_of_nonpos_of_nonpos h h
theorem pos_mul {a b : Int} (h : 0 < a * b) : (0 < a ∧ 0 < b) ∨ (a < 0 ∧ b < 0) := by
  rcases Int.lt_trichotomy a 0 with q | q | q
  · right
    refine ⟨q, ?_⟩
    rcases Int.lt_or_le b 0 with r | r
    · exact r
    · have := Int.mul_nonneg (a := -a) (b := b) (by omega) r
      rw [Int.neg_mul] at this; omega
  · subst q; simp at h
  · left
    refine ⟨q, ?_⟩
    rcases Int.lt_or_le 0 b with r | r
    · exact r
    · have := Int.mul_nonneg (a := a) (b := -b) (by omega) (by omega)
      rw [Int.mul_neg] at this; omega
noncomputable def sc (x y : Int) : Nat := if (decide (x < 0) != decide (y < 0)) = true then 1 else 0
noncomputable def sg (x : Int) : Bool := decide (x < 0)
noncomputable def cb (p q : Bool) : Nat := if (p != q) = true then 1 else 0
theorem sg_t {x : Int} (h : sg x = true) : x < 0 := of_decide_eq_true h
theorem sg_f {x : Int} (n : x ≠ 0) (h : sg x = false) : 0 < x := by have := of_decide_eq_false h; omega
theorem sg_neg {x : Int} (h : x ≠ 0) : sg (-x) = !sg x := by
  unfold sg
  by_cases p : x < 0
  · rw [decide_eq_true p, decide_eq_false (by omega)]; rfl
  · rw [decide_eq_false p, decide_eq_true (by omega)]; rfl
theorem sg_lt {x : Int} (h : x < 0) : sg x = true := decide_eq_true h
theorem sg_ge {x : Int} (h : 0 ≤ x) : sg x = false := decide_eq_false (by omega)
theorem sg_mul {a b : Int} (h : 0 < a * b) : sg a = sg b := by
  rcases pos_mul h with ⟨p, q⟩ | ⟨p, q⟩
  · rw [sg_ge (Int.le_of_lt p), sg_ge (Int.le_of_lt q)]
  · rw [sg_lt p, sg_lt q]
theorem mul_sg {a b : Int} (ha : a ≠ 0) (hb : b ≠ 0) (h : sg a = sg b) : 0 < a * b := by
  cases p : sg a with
  | true => exact Int.mul_pos_of_neg_of_neg (sg_t p) (sg_t (h ▸ p))
  | false => exact Int.mul_pos (sg_f ha p) (sg_f hb (h ▸ p))
theorem sc_neg {x y : Int} (hy : y ≠ 0) : sc x (-y) = 1 - sc x y := by
  show cb (sg x) (sg (-y)) = 1 - cb (sg x) (sg y)
  rw [sg_neg hy]
  generalize sg x = p; generalize sg y = q; revert p q; decide
theorem sc_neg' {x y : Int} (hx : x ≠ 0) : sc (-x) y = 1 - sc x y := by
  show cb (sg (-x)) (sg y) = 1 - cb (sg x) (sg y)
  rw [sg_neg hx]
  generalize sg x = p; generalize sg y = q; revert p q; decide
theorem sc_le (x y : Int) : sc x y ≤ 1 := by
  show cb (sg x) (sg y) ≤ 1
  generalize sg x = p; generalize sg y = q; revert p q; decide
theorem cb_low : ∀ p D D' : Bool, (p = true → D' = true → D = true) → (p = false → D = true → D' = true) → cb p D ≤ cb p D' := by decide
theorem sc_low {p D k : Int} (hk : 0 ≤ k) : sc p D ≤ sc p (D - k * p) := by
  refine cb_low (sg p) (sg D) (sg (D - k * p)) (fun h1 h2 => sg_lt ?_) fun h1 h2 => sg_lt ?_
  · have := Int.mul_nonneg hk (b := -p) (by have := sg_t h1; omega)
    rw [Int.mul_neg] at this
    have := sg_t h2; omega
  · have := Int.mul_nonneg hk (b := p) (by have := of_decide_eq_false h1; omega)
    have := sg_t h2; omega
noncomputable def m2 (a b d : Int) : Int := a * b - d * d
noncomputable def det3 (a b c d e f : Int) : Int := a * (b * c - f * f) - d * (d * c - e * f) + e * (d * f - b * e)
noncomputable def N2 (a b d : Int) : Nat := sc 1 a + sc a (m2 a b d)
noncomputable def N3 (a b c d e f : Int) : Nat := sc 1 a + sc a (m2 a b d) + sc (m2 a b d) (det3 a b c d e f)
structure Nz (a b c d e f : Int) : Prop where
  na : a ≠ 0
  nb : b ≠ 0
  nc : c ≠ 0
  nab : m2 a b d ≠ 0
  nac : m2 a c e ≠ 0
  nbc : m2 b c f ≠ 0
  nabc : det3 a b c d e f ≠ 0
theorem m2_comm (a b d : Int) : m2 b a d = m2 a b d := by unfold m2; grind
theorem det_12 (a b c d e f : Int) : det3 b a c d f e = det3 a b c d e f := by unfold det3; grind
theorem det_23 (a b c d e f : Int) : det3 a c b e d f = det3 a b c d e f := by unfold det3; grind
theorem Nz.s12 {a b c d e f : Int} (h : Nz a b c d e f) : Nz b a c d f e := ⟨h.nb, h.na, h.nc, by rw [m2_comm]; exact h.nab, h.nbc, h.nac, by rw [det_12]; exact h.nabc⟩
theorem Nz.s23 {a b c d e f : Int} (h : Nz a b c d e f) : Nz a c b e d f := ⟨h.na, h.nc, h.nb, h.nac, h.nab, by rw [m2_comm]; exact h.nbc, by rw [det_23]; exact h.nabc⟩
theorem N2_s (a b d : Int) (ha : a ≠ 0) (hb : b ≠ 0) (hab : m2 a b d ≠ 0) : N2 b a d = N2 a b d := by
  show cb (sg 1) (sg b) + cb (sg b) (sg (m2 b a d)) = cb (sg 1) (sg a) + cb (sg a) (sg (m2 a b d))
  rw [m2_comm]
  cases q : sg (m2 a b d) with
  | true => generalize sg a = x; generalize sg b = y; revert x y; decide
  | false => rw [sg_mul (a := a) (b := b) (by have := sg_f hab q; have := sq_nn d; unfold m2 at *; omega)]
theorem N3_12 {a b c d e f : Int} (h : Nz a b c d e f) : N3 b a c d f e = N3 a b c d e f := by
  have := N2_s a b d h.na h.nb h.nab
  unfold N2 at this
  unfold N3
  rw [det_12]
  rw [m2_comm] at this ⊢
  omega
theorem minors_ (a b c d e f : Int) : m2 a b d * m2 a c e - (a * f - d * e) * (a * f - d * e) = a * det3 a b c d e f := by unfold m2 det3; grind
theorem cb_skip : ∀ x p q D : Bool, x ≠ D → cb false x + cb x q + cb q D = cb false x + cb x p + cb p D := by decide
theorem N3_23 {a b c d e f : Int} (h : Nz a b c d e f) : N3 a c b e d f = N3 a b c d e f := by
  show cb (sg 1) (sg a) + cb (sg a) (sg (m2 a c e)) + cb (sg (m2 a c e)) (sg (det3 a c b e d f)) = cb (sg 1) (sg a) + cb (sg a) (sg (m2 a b d)) + cb (sg (m2 a b d)) (sg (det3 a b c d e f))
  rw [det_23]
  by_cases hx : sg a = sg (det3 a b c d e f)
  · have := mul_sg h.na h.nabc hx
    have hm := minors_ a b c d e f
    have hg := sq_nn (a * f - d * e)
    rw [sg_mul (a := m2 a b d) (b := m2 a c e) (by omega)]
  · exact cb_skip _ _ _ _ hx
theorem N3_low {a b c d e f : Int} (h : Nz a b c d e f) (k : Int) (hk : 0 ≤ k) : N3 a b c d e f ≤ N3 a b (c - k) d e f := by
  have e1 : det3 a b (c - k) d e f = det3 a b c d e f - k * m2 a b d := by unfold det3 m2; grind
  unfold N3
  rw [e1]
  exact Nat.add_le_add_left (sc_low hk) _
theorem N2_low {a b d : Int} (k : Int) (hk : 0 ≤ k) : N2 a b d ≤ N2 a (b - k) d := by
  have e1 : m2 a (b - k) d = m2 a b d - k * a := by unfold m2; grind
  unfold N2
  rw [e1]
  exact Nat.add_le_add_left (sc_low hk) _
theorem N3_N2 (a b c d e f : Int) : N2 a b d ≤ N3 a b c d e f ∧ N3 a b c d e f ≤ N2 a b d + 1 := by
  unfold N3 N2
  have := sc_le (m2 a b d) (det3 a b c d e f)
  omega
theorem m2_neg (a b d : Int) : m2 (-a) (-b) (-d) = m2 a b d := by unfold m2; rw [Int.neg_mul_neg, Int.neg_mul_neg]
theorem det_neg (a b c d e f : Int) : det3 (-a) (-b) (-c) (-d) (-e) (-f) = - det3 a b c d e f := by
  unfold det3
  simp only [Int.neg_mul_neg]
  simp only [Int.neg_mul]
  omega
theorem N3_neg {a b c d e f : Int} (h : Nz a b c d e f) : N3 (-a) (-b) (-c) (-d) (-e) (-f) = 3 - N3 a b c d e f := by
  unfold N3
  rw [m2_neg, det_neg, sc_neg h.na, sc_neg' h.na, sc_neg h.nabc]
  have := sc_le 1 a; have := sc_le a (m2 a b d); have := sc_le (m2 a b d) (det3 a b c d e f)
  omega
theorem negNe {x : Int} (h : x ≠ 0) : -x ≠ 0 := by omega
theorem Nz.neg {a b c d e f : Int} (h : Nz a b c d e f) : Nz (-a) (-b) (-c) (-d) (-e) (-f) :=
  ⟨negNe h.na, negNe h.nb, negNe h.nc, (m2_neg a b d).symm ▸ h.nab, (m2_neg a c e).symm ▸ h.nac, (m2_neg b c f).symm ▸ h.nbc, (det_neg a b c d e f).symm ▸ negNe h.nabc⟩
end Mine
end
section
namespace Mine
noncomputable def e2_ (a b c d e f : Int) : Int := m2 a b d + m2 a c e + m2 b c f
noncomputable def q_ (b c d e f : Int) : Int := c * (d * d) - 2 * (d * e * f) + b * (e * e)
theorem det_q (a b c d e f : Int) : det3 a b c d e f = a * m2 b c f - q_ b c d e f := by unfold det3 m2 q_; grind
theorem q_nn {b c d e f : Int} (hb : 0 < b) (h : 0 < m2 b c f) : 0 ≤ q_ b c d e f := by
  have ee : b * q_ b c d e f = (b * e - d * f) * (b * e - d * f) + d * d * m2 b c f := by unfold q_ m2; grind
  have h1 := sq_nn (b * e - d * f)
  have h2 : 0 ≤ d * d * m2 b c f := Int.mul_nonneg (sq_nn d) (by lia)
  rcases Int.lt_or_le (q_ b c d e f) 0 with r | r
  · have := Int.mul_pos hb (show 0 < -q_ b c d e f by lia)
    rw [Int.mul_neg] at this; lia
  · exact r
theorem diag_pos {a b c d e f : Int} (z : Nz a b c d e f) (h1 : 0 < a + b + c) (h2 : 0 < e2_ a b c d e f) (h3 : 0 < det3 a b c d e f) : 0 < a := by
  rcases Int.lt_or_le 0 a with r | r
  · exact r
  exfalso
  have ha : a < 0 := by have := z.na; lia
  have hd := sq_nn d; have he := sq_nn e; have hf := sq_nn f
  have nb := z.nb; have nc := z.nc
  unfold e2_ at h2
  have key : ∀ x y b : Int, 0 < x → 0 < y → x + y < b → x * y - b * (x + y) < 0 := by
    intro x y b hx hy hb
    have h1 := Int.mul_pos (show 0 < x + y by lia) (show 0 < b - (x + y) by lia)
    have e : (x + y) * (b - (x + y)) = b * (x + y) - x * y - (x * x + y * y + x * y) := by grind
    have := sq_nn x; have := sq_nn y; have := Int.mul_pos hx hy
    lia
  by_cases qb : 0 < b <;> by_cases qc : 0 < c
  · have p1 : m2 a b d < 0 := by have := Int.mul_neg_of_neg_of_pos ha qb; unfold m2; lia
    have p2 : m2 a c e < 0 := by have := Int.mul_neg_of_neg_of_pos ha qc; unfold m2; lia
    have p3 : 0 < m2 b c f := by lia
    have hq := q_nn (d := d) (e := e) qb p3
    have := Int.mul_neg_of_neg_of_pos ha p3
    rw [det_q] at h3; lia
  · have k := key (-a) (-c) b (by lia) (by lia) (by lia)
    have e1 : (-a) * (-c) - b * (-a + -c) = a * c + a * b + b * c := by grind
    unfold m2 at h2; lia
  · have k := key (-a) (-b) c (by lia) (by lia) (by lia)
    have e1 : (-a) * (-b) - c * (-a + -b) = a * b + a * c + b * c := by grind
    unfold m2 at h2; lia
  · lia
theorem N3_pos {a b c d e f : Int} (h1 : 0 < a) (h2 : 0 < m2 a b d) (h3 : 0 < det3 a b c d e f) : N3 a b c d e f = 0 := by
  show cb (sg 1) (sg a) + cb (sg a) (sg (m2 a b d)) + cb (sg (m2 a b d)) (sg (det3 a b c d e f)) = 0
  rw [sg_ge (Int.le_of_lt h1), sg_ge (Int.le_of_lt h2), sg_ge (Int.le_of_lt h3)]; rfl
theorem pd_all {a b c d e f : Int} (z : Nz a b c d e f) (h1 : 0 < a + b + c) (h2 : 0 < e2_ a b c d e f) (h3 : 0 < det3 a b c d e f) : N3 a b c d e f = 0 := by
  have ha := diag_pos z h1 h2 h3
  have hb := diag_pos z.s12 (by lia) (by unfold e2_ at h2 ⊢; rw [m2_comm a b]; lia) (by rw [det_12]; exact h3)
  have hc := diag_pos z.s23.s12 (by lia) (by unfold e2_ at h2 ⊢; rw [m2_comm a c, m2_comm b c]; lia) (by rw [det_12, det_23]; exact h3)
  have i1 := minors_ a b c d e f
  have i2 := minors_ b a c d f e
  rw [m2_comm a b, det_12] at i2
  have g1 := sq_nn (a * f - d * e); have g2 := sq_nn (b * e - d * f)
  have k1 := Int.mul_pos ha h3; have k2 := Int.mul_pos hb h3
  unfold e2_ at h2
  have hp : 0 < m2 a b d := by
    rcases pos_mul (a := m2 a b d) (b := m2 a c e) (by lia) with ⟨u, _⟩ | ⟨u, v⟩
    · exact u
    · rcases pos_mul (a := m2 a b d) (b := m2 b c f) (by lia) with ⟨u', _⟩ | ⟨_, w⟩ <;> lia
  exact N3_pos ha hp h3
theorem cb_zero : ∀ x y z : Bool, cb false x + cb x y + cb y z = 0 → x = false ∧ y = false ∧ z = false := by decide
theorem cb_sign : ∀ x y z : Bool, (cb false x + cb x y + cb y z) % 2 = 0 ↔ z = false := by decide
theorem N3_zero {a b c d e f : Int} (z : Nz a b c d e f) (h : N3 a b c d e f = 0) : 0 < a ∧ 0 < m2 a b d ∧ 0 < det3 a b c d e f :=
  have q := cb_zero _ _ _ h
  ⟨sg_f z.na q.1, sg_f z.nab q.2.1, sg_f z.nabc q.2.2⟩
theorem N3_sign {a b c d e f : Int} (z : Nz a b c d e f) : (N3 a b c d e f % 2 = 0 ↔ 0 < det3 a b c d e f) :=
  (cb_sign (sg a) (sg (m2 a b d)) (sg (det3 a b c d e f))).trans ⟨sg_f z.nabc, fun h => sg_ge (Int.le_of_lt h)⟩
theorem N3_le (a b c d e f : Int) : N3 a b c d e f ≤ 3 := by
  unfold N3
  have := sc_le 1 a; have := sc_le a (m2 a b d); have := sc_le (m2 a b d) (det3 a b c d e f)
  lia
theorem det_shift (a b c d e f t : Int) : det3 (a - t) (b - t) (c - t) d e f = det3 a b c d e f - t * e2_ a b c d e f + t * t * (a + b + c) - t * t * t := by
  unfold det3 e2_ m2; grind
theorem tr_two {a b c d e f h : Int} (z : Nz a b c d e f) (zh : Nz (a - h) (b - h) (c - h) d e f) (hh : 0 < h) (n2 : N3 a b c d e f = 2) (n3 : N3 (a - h) (b - h) (c - h) d e f = 3) : a + b + c < h := by
  rcases Int.lt_or_le (a + b + c) h with r | r
  · exact r
  exfalso
  have s1 := (N3_sign z).mp (by lia)
  have s2 : ¬ 0 < det3 (a - h) (b - h) (c - h) d e f := fun q => by have := (N3_sign zh).mpr q; lia
  rw [det_shift] at s2
  have k : 0 ≤ h * h * (a + b + c - h) := Int.mul_nonneg (Int.mul_nonneg (by lia) (by lia)) (by lia)
  have e1 : h * h * (a + b + c - h) = h * h * (a + b + c) - h * h * h := by grind
  have k2 : 0 < h * e2_ a b c d e f := by lia
  rcases pos_mul k2 with ⟨_, q⟩ | ⟨q, _⟩
  · have := pd_all z (by lia) q s1
    lia
  · lia
theorem pd_prod {a b c d e f : Int} (z : Nz a b c d e f) (h : N3 a b c d e f = 0) : 0 < e2_ a b c d e f ∧ det3 a b c d e f < (a + b + c) * e2_ a b c d e f := by
  obtain ⟨ha, hab, hD⟩ := N3_zero z h
  have h2 : N3 a c b e d f = 0 := by rw [N3_23 z]; exact h
  obtain ⟨_, hac, _⟩ := N3_zero z.s23 h2
  have h3 : N3 b a c d f e = 0 := by rw [N3_12 z]; exact h
  obtain ⟨hb, _, _⟩ := N3_zero z.s12 h3
  have h4 : N3 b c a f d e = 0 := by rw [N3_23 z.s12]; exact h3
  obtain ⟨_, hbc, _⟩ := N3_zero z.s12.s23 h4
  have h5 : N3 c a b e f d = 0 := by rw [N3_12 z.s23]; exact h2
  obtain ⟨hc, _, _⟩ := N3_zero z.s23.s12 h5
  refine ⟨by unfold e2_; lia, ?_⟩
  have hq := q_nn (d := d) (e := e) hb hbc
  have e1 : (a + b + c) * e2_ a b c d e f = a * m2 b c f + (a * (m2 a b d + m2 a c e) + (b + c) * (m2 a b d + m2 a c e + m2 b c f)) := by unfold e2_; grind
  have k1 := Int.mul_pos ha (show 0 < m2 a b d + m2 a c e by lia)
  have k2 := Int.mul_pos (show 0 < b + c by lia) (show 0 < m2 a b d + m2 a c e + m2 b c f by lia)
  rw [det_q, e1]; lia
theorem tr_one {a b c d e f g : Int} (z : Nz a b c d e f) (n0 : N3 a b c d e f = 0) (hg : 0 < g) (hD : 0 < det3 (a - g) (b - g) (c - g) d e f) : g < a + b + c := by
  rcases Int.lt_or_le g (a + b + c) with r | r
  · exact r
  exfalso
  obtain ⟨h2, h3⟩ := pd_prod z n0
  rw [det_shift] at hD
  have k : 0 ≤ g * g * (g - (a + b + c)) := Int.mul_nonneg (Int.mul_nonneg (by lia) (by lia)) (by lia)
  have e1 : g * g * (g - (a + b + c)) = g * g * g - g * g * (a + b + c) := by grind
  have k2 : 0 ≤ (g - (a + b + c)) * e2_ a b c d e f := Int.mul_nonneg (by lia) (by lia)
  have e2 : (g - (a + b + c)) * e2_ a b c d e f = g * e2_ a b c d e f - (a + b + c) * e2_ a b c d e f := by grind
  lia
theorem tr_three {s p2 p3 u v w : Int} (P : Int → Int) (hP : ∀ t, P t = p3 - t * p2 + t * t * s - t * t * t) (h1 : P u < 0) (h2 : 0 < P v) (h3 : P w < 0) (huv : u < v) (hvw : v < w) : s < u + v + w := by
  have e : P u * (w - v) - P v * (w - u) + P w * (v - u) = (s - (u + v + w)) * ((v - u) * (w - u) * (w - v)) := by rw [hP, hP, hP]; grind
  have V := Int.mul_pos (Int.mul_pos (show 0 < v - u by lia) (show 0 < w - u by lia)) (show 0 < w - v by lia)
  have k1 := Int.mul_pos (show 0 < -P u by lia) (show 0 < w - v by lia)
  have k2 := Int.mul_pos h2 (show 0 < w - u by lia)
  have k3 := Int.mul_pos (show 0 < -P w by lia) (show 0 < v - u by lia)
  rw [Int.neg_mul] at k1 k3
  rcases Int.lt_or_le s (u + v + w) with r | r
  · exact r
  · have := Int.mul_nonneg (show 0 ≤ s - (u + v + w) by lia) (show 0 ≤ (v - u) * (w - u) * (w - v) by lia)
    lia
theorem nd_diag {a b c d e f : Int} (z : Nz a b c d e f) (h : N3 a b c d e f = 3) : a < 0 ∧ b < 0 ∧ c < 0 := by
  have k := N3_neg z
  have k0 : N3 (-a) (-b) (-c) (-d) (-e) (-f) = 0 := by lia
  have z' := z.neg
  obtain ⟨h1, _, _⟩ := N3_zero z' k0
  obtain ⟨h2, _, _⟩ := N3_zero z'.s12 (by rw [N3_12 z']; exact k0)
  obtain ⟨h3, _, _⟩ := N3_zero z'.s23.s12 (by rw [N3_12 z'.s23, N3_23 z']; exact k0)
  lia
theorem tr_upper {a b c d e f u1 u2 u3 : Int} (Z : ∀ u, u = u1 ∨ u = u2 ∨ u = u3 → Nz (a - u) (b - u) (c - u) d e f) (h12 : u1 ≤ u2) (h23 : u2 ≤ u3)
    (mono : N3 (a - u1) (b - u1) (c - u1) d e f ≤ N3 (a - u2) (b - u2) (c - u2) d e f) (n1 : 1 ≤ N3 (a - u1) (b - u1) (c - u1) d e f) (n2 : 2 ≤ N3 (a - u2) (b - u2) (c - u2) d e f) (n3 : 3 ≤ N3 (a - u3) (b - u3) (c - u3) d e f) : a + b + c < u1 + u2 + u3 := by
  have z1 := Z u1 (.inl rfl); have z2 := Z u2 (.inr (.inl rfl)); have z3 := Z u3 (.inr (.inr rfl))
  have l1 := N3_le (a - u1) (b - u1) (c - u1) d e f
  have l2 := N3_le (a - u2) (b - u2) (c - u2) d e f
  have l3 := N3_le (a - u3) (b - u3) (c - u3) d e f
  have sub : ∀ x u v : Int, x - u - (v - u) = x - v := by intro x u v; lia
  by_cases q3 : N3 (a - u1) (b - u1) (c - u1) d e f = 3
  · obtain ⟨k1, k2, k3⟩ := nd_diag z1 q3
    lia
  by_cases q2 : N3 (a - u1) (b - u1) (c - u1) d e f = 2
  · by_cases r3 : N3 (a - u2) (b - u2) (c - u2) d e f = 3
    · have hne : u1 ≠ u2 := fun q => by subst q; lia
      have := tr_two (h := u2 - u1) z1 (by rw [sub, sub, sub]; exact z2) (by lia) q2 (by rw [sub, sub, sub]; exact r3)
      lia
    · have hne : u1 ≠ u3 := fun q => by subst q; lia
      have := tr_two (h := u3 - u1) z1 (by rw [sub, sub, sub]; exact z3) (by lia) q2 (by rw [sub, sub, sub]; lia)
      lia
  have q1 : N3 (a - u1) (b - u1) (c - u1) d e f = 1 := by lia
  by_cases r3 : N3 (a - u2) (b - u2) (c - u2) d e f = 3
  · have hne : u1 ≠ u2 := fun q => by subst q; lia
    have k0 : N3 (-(a - u2)) (-(b - u2)) (-(c - u2)) (-d) (-e) (-f) = 0 := by rw [N3_neg z2]; lia
    have hD : ¬ 0 < det3 (a - u1) (b - u1) (c - u1) d e f := fun q => by have := (N3_sign z1).mpr q; lia
    have e1 : ∀ x : Int, -(x - u2) - (u2 - u1) = -(x - u1) := by intro x; lia
    have e2 := det_neg (a - u1) (b - u1) (c - u1) d e f
    have nz := z1.nabc
    have := tr_one (g := u2 - u1) z2.neg k0 (by lia) (by rw [e1, e1, e1, e2]; lia)
    lia
  · have hne : u1 ≠ u2 := fun q => by subst q; lia
    have hne2 : u2 ≠ u3 := fun q => by subst q; lia
    have d1 : ¬ 0 < det3 (a - u1) (b - u1) (c - u1) d e f := fun q => by have := (N3_sign z1).mpr q; lia
    have d2 := (N3_sign z2).mp (by lia)
    have d3 : ¬ 0 < det3 (a - u3) (b - u3) (c - u3) d e f := fun q => by have := (N3_sign z3).mpr q; lia
    have x1 := z1.nabc; have x3 := z3.nabc
    exact tr_three (fun t => det3 (a - t) (b - t) (c - t) d e f) (fun t => det_shift a b c d e f t) (by show det3 _ _ _ _ _ _ < 0; lia) d2 (by show det3 _ _ _ _ _ _ < 0; lia) (by lia) (by lia)
end Mine
end
section
namespace Mine
open PySem
theorem abs_mul {x y : Int} {p q : Nat} (hx : x.natAbs ≤ p) (hy : y.natAbs ≤ q) : (x * y).natAbs ≤ p * q := by
  rw [Int.natAbs_mul]; exact Nat.mul_le_mul hx hy
structure Sym3 (R0 : Nat → Nat → Int) (a b c d e f : Int) : Prop where
  r00 : R0 0 0 = a
  r11 : R0 1 1 = b
  r22 : R0 2 2 = c
  r01 : R0 0 1 = d
  r10 : R0 1 0 = d
  r02 : R0 0 2 = e
  r20 : R0 2 0 = e
  r12 : R0 1 2 = f
  r21 : R0 2 1 = f
structure Sym2 (R0 : Nat → Nat → Int) (a b d : Int) : Prop where
  r00 : R0 0 0 = a
  r11 : R0 1 1 = b
  r01 : R0 0 1 = d
  r10 : R0 1 0 = d
theorem fdiv1 (x : Int) : x.fdiv 1 = x := Int.fdiv_one x
theorem hS1 (R0 : Nat → Nat → Int) (i j : Nat) : (hS R0 1).2 i j = if 0 < i ∧ 0 < j then R0 i j * R0 0 0 - R0 i 0 * R0 0 j else R0 i j := by
  show (if 0 < i ∧ 0 < j then updF (hS R0 0).2 0 ((hS R0 0).1.getLastD 1) i j else (hS R0 0).2 i j) = _
  split
  · show (R0 i j * R0 0 0 - R0 i 0 * R0 0 j).fdiv 1 = _
    rw [fdiv1]
  · rfl
theorem hS2 (R0 : Nat → Nat → Int) (i j : Nat) : (hS R0 2).2 i j = if 1 < i ∧ 1 < j then ((hS R0 1).2 i j * (hS R0 1).2 1 1 - (hS R0 1).2 i 1 * (hS R0 1).2 1 j).fdiv (R0 0 0) else (hS R0 1).2 i j := rfl
section
variable {R0 : Nat → Nat → Int} {a b c d e f : Int}
theorem Sym3.one (h : Sym3 R0 a b c d e f) : (hS R0 1).2 1 1 = m2 a b d ∧ (hS R0 1).2 1 2 = a * f - d * e ∧ (hS R0 1).2 2 1 = a * f - d * e ∧ (hS R0 1).2 2 2 = m2 a c e := by
  obtain ⟨h1, h2, h3, h4, h5, h6, h7, h8, h9⟩ := h
  refine ⟨?_, ?_, ?_, ?_⟩
  · rw [hS1, if_pos (by decide), h1, h2, h4, h5]; unfold m2; grind
  · rw [hS1, if_pos (by decide), h1, h8, h5, h6]; grind
  · rw [hS1, if_pos (by decide), h1, h9, h7, h4]; grind
  · rw [hS1, if_pos (by decide), h1, h3, h7, h6]; unfold m2; grind
theorem Sym3.two (h : Sym3 R0 a b c d e f) (ha : a ≠ 0) : (hS R0 2).2 2 2 = det3 a b c d e f := by
  refine byC fun hC1 => ?_
  obtain ⟨k1, k2, k3, k4⟩ := h.one
  refine hC1 ?_
  rw [hS2, k1, k2, k3, k4, h.r00]
  have e1 : m2 a c e * m2 a b d - (a * f - d * e) * (a * f - d * e) = a * det3 a b c d e f := by rw [← minors_]; grind
  rw [if_pos ⟨by decide, by decide⟩, e1]
  exact Int.mul_fdiv_cancel_left _ ha
theorem Sym3.heads (h : Sym3 R0 a b c d e f) (ha : a ≠ 0) : (hS R0 3).1 = [1, a, m2 a b d, det3 a b c d e f] := by
  show [1, R0 0 0, (hS R0 1).2 1 1, (hS R0 2).2 2 2] = _
  rw [h.r00, h.one.1, h.two ha]
theorem Sym2.one (h : Sym2 R0 a b d) : (hS R0 1).2 1 1 = m2 a b d := by
  rw [hS1, h.r11, h.r00, h.r10, h.r01]; unfold m2; simp; grind
theorem Sym2.heads (h : Sym2 R0 a b d) : (hS R0 2).1 = [1, a, m2 a b d] := by
  show [1, R0 0 0, (hS R0 1).2 1 1] = _
  rw [h.r00, h.one]
theorem nab_sub {x y : Int} {m n k : Nat} (hx : x.natAbs ≤ m) (hy : y.natAbs ≤ n) (hk : m + n ≤ k) : (x - y).natAbs ≤ k := by omega
theorem nab_add {x y : Int} {m n k : Nat} (hx : x.natAbs ≤ m) (hy : y.natAbs ≤ n) (hk : m + n ≤ k) : (x + y).natAbs ≤ k := by omega
theorem m2_small {a b d : Int} (ha : a.natAbs ≤ 100) (hb : b.natAbs ≤ 100) (hd : d.natAbs ≤ 100) : (m2 a b d).natAbs ≤ 20000 := by
  exact nab_sub (abs_mul ha hb) (abs_mul hd hd) (by decide)
theorem det_small {a b c d e f : Int} (ha : a.natAbs ≤ 100) (hb : b.natAbs ≤ 100) (hc : c.natAbs ≤ 100) (hd : d.natAbs ≤ 100) (he : e.natAbs ≤ 100) (hf : f.natAbs ≤ 100) : (det3 a b c d e f).natAbs ≤ 6000000 := by
  have h1 : (b * c - f * f).natAbs ≤ 20000 := nab_sub (abs_mul hb hc) (abs_mul hf hf) (by decide)
  have h2 : (d * c - e * f).natAbs ≤ 20000 := nab_sub (abs_mul hd hc) (abs_mul he hf) (by decide)
  have h3 : (d * f - b * e).natAbs ≤ 20000 := nab_sub (abs_mul hd hf) (abs_mul hb he) (by decide)
  exact nab_add (nab_sub (abs_mul ha h1) (abs_mul hd h2) (Nat.le_refl _)) (abs_mul he h3) (by decide)
theorem Sym3.ok (h : Sym3 R0 a b c d e f) (z1 : a ≠ 0) (z2 : m2 a b d ≠ 0) (ha : a.natAbs ≤ 100) (hb : b.natAbs ≤ 100) (hc : c.natAbs ≤ 100) (hd : d.natAbs ≤ 100) (he : e.natAbs ≤ 100) (hf : f.natAbs ≤ 100) : HeadsOk 3 R0 := by
  obtain ⟨k1, k2, k3, k4⟩ := h.one
  have k5 := h.two z1
  have m1 := m2_small ha hb hd
  have m3 := m2_small ha hc he
  have md := det_small ha hb hc hd he hf
  have mx : (a * f - d * e).natAbs ≤ 20000 := nab_sub (abs_mul ha hf) (abs_mul hd he) (by decide)
  have big : (20000 : Nat) < 2 ^ 60 := by decide
  have big2 : (6000000 : Nat) < 2 ^ 60 := by decide
  have s0 : ∀ i j, i < 3 → j < 3 → (R0 i j).natAbs ≤ 100 := by
    intro i j hi hj
    match i, j, hi, hj with
    | 0, 0, _, _ => rw [h.r00]; exact ha
    | 0, 1, _, _ => rw [h.r01]; exact hd
    | 0, 2, _, _ => rw [h.r02]; exact he
    | 1, 0, _, _ => rw [h.r10]; exact hd
    | 1, 1, _, _ => rw [h.r11]; exact hb
    | 1, 2, _, _ => rw [h.r12]; exact hf
    | 2, 0, _, _ => rw [h.r20]; exact he
    | 2, 1, _, _ => rw [h.r21]; exact hf
    | 2, 2, _, _ => rw [h.r22]; exact hc
  have s1 : ∀ i j, i < 3 → j < 3 → ((hS R0 1).2 i j).natAbs ≤ 20000 := by
    intro i j hi hj
    by_cases q : 0 < i ∧ 0 < j
    · obtain ⟨q1, q2⟩ := q
      match i, j, hi, hj, q1, q2 with
      | 1, 1, _, _, _, _ => rw [k1]; exact m1
      | 1, 2, _, _, _, _ => rw [k2]; exact mx
      | 2, 1, _, _, _, _ => rw [k3]; exact mx
      | 2, 2, _, _, _, _ => rw [k4]; exact m3
    · rw [hS1, if_neg q]; exact Nat.le_trans (s0 i j hi hj) (by decide)
  refine ⟨fun t i j ht hi hj => ?_, fun t ht => ?_⟩
  · match t, ht with
    | 0, _ => exact Nat.lt_of_le_of_lt (s0 i j hi hj) (by decide)
    | 1, _ => exact Nat.lt_of_le_of_lt (s1 i j hi hj) big
    | 2, _ =>
      by_cases q : 1 < i ∧ 1 < j
      · obtain rfl : i = 2 := Nat.le_antisymm (Nat.le_of_lt_succ hi) q.1
        obtain rfl : j = 2 := Nat.le_antisymm (Nat.le_of_lt_succ hj) q.2
        rw [k5]; exact Nat.lt_of_le_of_lt md big2
      · rw [hS2, if_neg q]; exact Nat.lt_of_le_of_lt (s1 i j hi hj) big
  · match t, ht with
    | 0, _ => show (1 : Int) ≠ 0 ∧ (1 : Int).natAbs < 2 ^ 60; exact ⟨by decide, by decide⟩
    | 1, _ => show R0 0 0 ≠ 0 ∧ (R0 0 0).natAbs < _; rw [h.r00]; exact ⟨z1, Nat.lt_of_le_of_lt ha (by decide)⟩
    | 2, _ => show (hS R0 1).2 1 1 ≠ 0 ∧ ((hS R0 1).2 1 1).natAbs < _; rw [k1]; exact ⟨z2, Nat.lt_of_le_of_lt m1 big⟩
theorem Sym2.ok (h : Sym2 R0 a b d) (z1 : a ≠ 0) (ha : a.natAbs ≤ 100) (hb : b.natAbs ≤ 100) (hd : d.natAbs ≤ 100) : HeadsOk 2 R0 := by
  have k1 := h.one
  have m1 := m2_small ha hb hd
  have big : (20000 : Nat) < 2 ^ 60 := by decide
  have s0 : ∀ i j, i < 2 → j < 2 → (R0 i j).natAbs ≤ 100 := by
    intro i j hi hj
    match i, j, hi, hj with
    | 0, 0, _, _ => rw [h.r00]; exact ha
    | 0, 1, _, _ => rw [h.r01]; exact hd
    | 1, 0, _, _ => rw [h.r10]; exact hd
    | 1, 1, _, _ => rw [h.r11]; exact hb
  refine ⟨fun t i j ht hi hj => ?_, fun t ht => ?_⟩
  · match t, ht with
    | 0, _ => exact Nat.lt_of_le_of_lt (s0 i j hi hj) (by decide)
    | 1, _ =>
      by_cases q : 0 < i ∧ 0 < j
      · obtain rfl : i = 1 := Nat.le_antisymm (Nat.le_of_lt_succ hi) q.1
        obtain rfl : j = 1 := Nat.le_antisymm (Nat.le_of_lt_succ hj) q.2
        rw [k1]; exact Nat.lt_of_le_of_lt (m2_small ha hb hd) (by decide)
      · rw [hS1, if_neg q]; exact Nat.lt_of_le_of_lt (s0 i j hi hj) (by decide)
  · match t, ht with
    | 0, _ => show (1 : Int) ≠ 0 ∧ (1 : Int).natAbs < 2 ^ 60; exact ⟨by decide, by decide⟩
    | 1, _ => show R0 0 0 ≠ 0 ∧ (R0 0 0).natAbs < _; rw [h.r00]; exact ⟨z1, Nat.lt_of_le_of_lt ha (by decide)⟩
theorem chg_sc (H : List Int) (t : Nat) : (if chg H t = true then 1 else 0) = sc (H.getD t 0) (H.getD (t + 1) 0) := rfl
theorem filt1 {p : Nat → Bool} {l : List Nat} {x : Nat} : ((x :: l).filter p).length = (if p x = true then 1 else 0) + (l.filter p).length := by
  rw [List.filter_cons]; split <;> simp <;> omega
theorem Sym3.count (h : Sym3 R0 a b c d e f) (ha : a ≠ 0) : chgCount (hS R0 3).1 3 = N3 a b c d e f := by
  rw [h.heads ha]
  unfold chgCount
  rw [show List.range 3 = [0, 1, 2] from rfl, filt1, filt1, filt1, chg_sc, chg_sc, chg_sc]
  show sc 1 a + (sc a (m2 a b d) + (sc (m2 a b d) (det3 a b c d e f) + 0)) = _
  unfold N3; omega
theorem Sym2.count (h : Sym2 R0 a b d) : chgCount (hS R0 2).1 2 = N2 a b d := by
  rw [h.heads]
  unfold chgCount
  rw [show List.range 2 = [0, 1] from rfl, filt1, filt1, chg_sc, chg_sc]
  show sc 1 a + (sc a (m2 a b d) + 0) = _
  unfold N2; omega
end
end Mine
end
section
namespace Mine
theorem half_odd {a : Int} (h : a % 2 = 1) : ∃ k, a = 2 * k + 1 := ⟨a / 2, by lia⟩
theorem half_even {a : Int} (h : a % 2 = 0) : ∃ k, a = 2 * k := ⟨a / 2, by lia⟩
theorem m2_odd {a b d : Int} (ha : a % 2 = 1) (hb : b % 2 = 1) (hd : d % 2 = 0) : m2 a b d % 2 = 1 := by
  obtain ⟨a, rfl⟩ := half_odd ha; obtain ⟨b, rfl⟩ := half_odd hb; obtain ⟨d, rfl⟩ := half_even hd
  have : m2 (2 * a + 1) (2 * b + 1) (2 * d) = 2 * (2 * (a * b) + a + b - 2 * (d * d)) + 1 := by unfold m2; grind
  lia
theorem det_odd {a b c d e f : Int} (ha : a % 2 = 1) (hb : b % 2 = 1) (hc : c % 2 = 1) (hd : d % 2 = 0) (he : e % 2 = 0) (hf : f % 2 = 0) : det3 a b c d e f % 2 = 1 := by
  have hm := m2_odd hb hc hf
  rw [det_q]
  generalize m2 b c f = m at hm
  obtain ⟨a, rfl⟩ := half_odd ha; obtain ⟨d, rfl⟩ := half_even hd; obtain ⟨e, rfl⟩ := half_even he; obtain ⟨m, rfl⟩ := half_odd hm
  have h1 : (2 * a + 1) * (2 * m + 1) = 2 * (2 * (a * m) + a + m) + 1 := by grind
  have h2 : q_ b c (2 * d) (2 * e) f = 2 * (2 * (c * (d * d)) - 4 * (d * e * f) + 2 * (b * (e * e))) := by unfold q_; grind
  lia
theorem nz_odd {a b c d e f : Int} (ha : a % 2 = 1) (hb : b % 2 = 1) (hc : c % 2 = 1) (hd : d % 2 = 0) (he : e % 2 = 0) (hf : f % 2 = 0) : Nz a b c d e f := by
  have h1 := m2_odd ha hb hd; have h2 := m2_odd ha hc he; have h3 := m2_odd hb hc hf; have h4 := det_odd ha hb hc hd he hf
  exact ⟨by lia, by lia, by lia, by lia, by lia, by lia, by lia⟩
theorem N3_mono {a b c d e f : Int} (ha : a % 2 = 1) (hb : b % 2 = 1) (hc : c % 2 = 1) (hd : d % 2 = 0) (he : e % 2 = 0) (hf : f % 2 = 0) : N3 a b c d e f ≤ N3 (a - 2) (b - 2) (c - 2) d e f := by
  have s1 := N3_low (nz_odd ha hb hc hd he hf) 2 (by decide)
  have z1 : Nz a b (c - 2) d e f := nz_odd ha hb (by lia) hd he hf
  have s2 := N3_low z1.s23 2 (by decide)
  rw [N3_23 z1] at s2
  have z2 : Nz a (b - 2) (c - 2) d e f := nz_odd ha (by lia) (by lia) hd he hf
  have e2 : N3 a (c - 2) (b - 2) e d f = N3 a (b - 2) (c - 2) d e f := N3_23 z2
  have s3 := N3_low z2.s12.s23 2 (by decide)
  rw [N3_23 z2.s12, N3_12 z2] at s3
  have z3 : Nz (a - 2) (b - 2) (c - 2) d e f := nz_odd (by lia) (by lia) (by lia) hd he hf
  have e3 : N3 (b - 2) (c - 2) (a - 2) f d e = N3 (a - 2) (b - 2) (c - 2) d e f := by rw [N3_23 z3.s12, N3_12 z3]
  lia
theorem N2_mono {a b d : Int} (ha : a % 2 = 1) (hb : b % 2 = 1) (hd : d % 2 = 0) : N2 a b d ≤ N2 (a - 2) (b - 2) d := by
  have s1 := N2_low (a := a) (b := b) (d := d) 2 (by decide)
  have s2 := N2_low (a := b - 2) (b := a) (d := d) 2 (by decide)
  have h1 := m2_odd ha (show (b - 2) % 2 = 1 by lia) hd
  have h2 := m2_odd (show (a - 2) % 2 = 1 by lia) (show (b - 2) % 2 = 1 by lia) hd
  rw [N2_s a (b - 2) d (by lia) (by lia) (by lia), N2_s (a - 2) (b - 2) d (by lia) (by lia) (by lia)] at s2
  lia
theorem sq_small {d : Int} (h : d.natAbs ≤ 18) : d * d ≤ 324 := by
  have h1 := Int.mul_nonneg (show 0 ≤ 18 - d by lia) (show 0 ≤ 18 + d by lia)
  have : (18 - d) * (18 + d) = 324 - d * d := by grind
  lia
theorem mul_big {a b : Int} (ha : 37 ≤ a) (hb : 37 ≤ b) : 37 * (a + b) - 1369 ≤ a * b := by
  have h1 := Int.mul_nonneg (show 0 ≤ a - 37 by lia) (show 0 ≤ b - 37 by lia)
  have : (a - 37) * (b - 37) = a * b - 37 * (a + b) + 1369 := by grind
  lia
theorem m2_dom {a b d : Int} (ha : 37 ≤ a) (hb : 37 ≤ b) (hd : d.natAbs ≤ 18) : 0 < m2 a b d := by
  have := mul_big ha hb; have := sq_small hd
  unfold m2; lia
theorem nat_mul {x y : Int} {p q : Nat} (hx : x.natAbs ≤ p) (hy : y.natAbs ≤ q) : (x * y).natAbs ≤ p * q := by
  rw [Int.natAbs_mul]; exact Nat.mul_le_mul hx hy
theorem dom0 {a b c d e f : Int} (ha : 37 ≤ a) (hb : 37 ≤ b) (hc : 37 ≤ c) (hd : d.natAbs ≤ 18) (he : e.natAbs ≤ 18) (hf : f.natAbs ≤ 18) : N3 a b c d e f = 0 := by
  have h1 := m2_dom ha hb hd
  have h2 := m2_dom hb hc hf
  have hD : 0 < det3 a b c d e f := by
    rw [det_q]
    have k1 := Int.mul_nonneg (show 0 ≤ a - 37 by lia) (show 0 ≤ m2 b c f by lia)
    have e1 : (a - 37) * m2 b c f = a * m2 b c f - 37 * m2 b c f := by grind
    have sd := sq_small hd; have se := sq_small he; have sf := sq_small hf
    have k2 := Int.mul_nonneg (show 0 ≤ c by lia) (show 0 ≤ 324 - d * d by lia)
    have e2 : c * (324 - d * d) = 324 * c - c * (d * d) := by grind
    have k3 := Int.mul_nonneg (show 0 ≤ b by lia) (show 0 ≤ 324 - e * e by lia)
    have e3 : b * (324 - e * e) = 324 * b - b * (e * e) := by grind
    have k4 : (d * e * f).natAbs ≤ 5832 := nat_mul (nat_mul hd he) hf
    have k5 := mul_big hb hc
    have e4 : q_ b c d e f = c * (d * d) - 2 * (d * e * f) + b * (e * e) := rfl
    have e5 : m2 b c f = b * c - f * f := rfl
    lia
  exact N3_pos (by lia) h1 hD
structure Even6 (a b c d e f : Int) : Prop where
  ha : a % 2 = 0
  hb : b % 2 = 0
  hc : c % 2 = 0
  hd : d % 2 = 0
  he : e % 2 = 0
  hf : f % 2 = 0
  sa : a.natAbs ≤ 18
  sb : b.natAbs ≤ 18
  sc : c.natAbs ≤ 18
  sd : d.natAbs ≤ 18
  se : e.natAbs ≤ 18
  sf : f.natAbs ≤ 18
noncomputable def Nt (a b c d e f t : Int) : Nat := N3 (a - t) (b - t) (c - t) d e f
noncomputable def Nb (a b d t : Int) : Nat := N2 (a - t) (b - t) d
section
variable {a b c d e f : Int}
theorem Even6.nz (h : Even6 a b c d e f) {t : Int} (ht : t % 2 = 1) : Nz (a - t) (b - t) (c - t) d e f := by
  have := h.ha; have := h.hb; have := h.hc
  exact nz_odd (by lia) (by lia) (by lia) h.hd h.he h.hf
theorem Even6.mono (h : Even6 a b c d e f) {t : Int} (ht : t % 2 = 1) : Nt a b c d e f t ≤ Nt a b c d e f (t + 2) := by
  have := h.ha; have := h.hb; have := h.hc
  have k := N3_mono (a := a - t) (b := b - t) (c := c - t) (by lia) (by lia) (by lia) h.hd h.he h.hf
  unfold Nt
  rw [show a - (t + 2) = a - t - 2 by lia, show b - (t + 2) = b - t - 2 by lia, show c - (t + 2) = c - t - 2 by lia]
  exact k
theorem Even6.low (h : Even6 a b c d e f) : Nt a b c d e f (-55) = 0 := by
  have := h.sa; have := h.sb; have := h.sc
  exact dom0 (by lia) (by lia) (by lia) h.sd h.se h.sf
theorem Even6.high (h : Even6 a b c d e f) : Nt a b c d e f 57 = 3 := by
  have := h.sa; have := h.sb; have := h.sc; have := h.sd; have := h.se; have := h.sf
  have k := N3_neg (h.nz (t := 57) (by decide))
  rw [dom0 (by lia) (by lia) (by lia) (by lia) (by lia) (by lia)] at k
  have := N3_le (a - 57) (b - 57) (c - 57) d e f
  unfold Nt; lia
theorem nb_mono (ha : a % 2 = 0) (hb : b % 2 = 0) (hd : d % 2 = 0) {t : Int} (ht : t % 2 = 1) : Nb a b d t ≤ Nb a b d (t + 2) := by
  have k := N2_mono (a := a - t) (b := b - t) (d := d) (by lia) (by lia) hd
  unfold Nb
  rw [show a - (t + 2) = a - t - 2 by lia, show b - (t + 2) = b - t - 2 by lia]
  exact k
theorem nb_high (ha : a.natAbs ≤ 18) (hb : b.natAbs ≤ 18) (hd : d.natAbs ≤ 18) : Nb a b d 57 = 2 := by
  have h1 : m2 (a - 57) (b - 57) d = m2 (57 - a) (57 - b) d := by unfold m2; grind
  have h2 := m2_dom (a := 57 - a) (b := 57 - b) (by lia) (by lia) hd
  show cb (sg 1) (sg (a - 57)) + cb (sg (a - 57)) (sg (m2 (a - 57) (b - 57) d)) = 2
  rw [h1, sg_lt (by lia : a - 57 < 0), sg_ge (Int.le_of_lt h2)]; rfl
end
structure Least (key : Nat → Int) (c : Int) (r : Nat) : Prop where
  lt : r < 57
  at_ : c ≤ key r
  below : ∀ i, i < r → key i < c
theorem mono_le {key : Nat → Int} (mono : ∀ i, i + 1 < 57 → key i ≤ key (i + 1)) : ∀ {i j : Nat}, i ≤ j → j < 57 → key i ≤ key j := by
  intro i j hij hj
  induction hij with
  | refl => exact Int.le_refl _
  | step h ih => exact Int.le_trans (ih (by lia)) (mono _ (by lia))
theorem mid_le {l h : Nat} (k : ¬ l < h) (j : l ≤ h) : l = h := by omega
theorem bsL_least {key : Nat → Int} {x : Int} (mono : ∀ i, i + 1 < 57 → key i ≤ key (i + 1)) : ∀ (n lo hi : Nat), hi - lo ≤ n → lo ≤ hi → hi ≤ 57 → (∀ i, i < lo → key i < x) → (∀ i, hi ≤ i → i < 57 → x ≤ key i) →
    (∀ i, i < bsL key x n lo hi → key i < x) ∧ (∀ i, bsL key x n lo hi ≤ i → i < 57 → x ≤ key i) ∧ bsL key x n lo hi ≤ hi := by
  intro n
  induction n with
  | zero =>
    intro lo hi h1 h2 h3 h4 h5
    cases mid_le (subNot h1) h2
    exact ⟨h4, h5, Nat.le_refl _⟩
  | succ n ih =>
    intro lo hi h1 h2 h3 h4 h5
    unfold bsL
    by_cases q : lo < hi
    · rw [if_pos q]
      have hm := midOf q
      split
      · rename_i k
        exact ih _ _ (midR hm.1 hm.2 h1) hm.2 h3 (fun i hi' => Int.lt_of_le_of_lt (mono_le mono (Nat.lt_succ_iff.mp hi') (Nat.lt_of_lt_of_le hm.2 h3)) k) h5
      · rename_i k
        obtain ⟨r1, r2, r3⟩ := ih lo ((lo + hi) / 2) (midL hm.1 hm.2 h1) hm.1 (Nat.le_trans (Nat.le_of_lt hm.2) h3) h4 (fun i hi' hlt => Int.le_trans (Int.not_lt.mp k) (mono_le mono hi' hlt))
        exact ⟨r1, r2, Nat.le_trans r3 (Nat.le_of_lt hm.2)⟩
    · rw [if_neg q]
      cases mid_le q h2
      exact ⟨h4, h5, Nat.le_refl _⟩
theorem least_of {key : Nat → Int} {c : Int} (mono : ∀ i, i + 1 < 57 → key i ≤ key (i + 1)) (h : c ≤ key 56) : Least key c (bsL key c 57 0 57) := by
  obtain ⟨h1, h2, h3⟩ := bsL_least (x := c) mono 57 0 57 (by decide) (by decide) (by decide) (fun i hi => absurd hi (Nat.not_lt_zero _)) (fun i h1 h2 => by lia)
  have hlt : bsL key c 57 0 57 < 57 := by
    rcases Nat.lt_or_ge (bsL key c 57 0 57) 57 with r | r
    · exact r
    · have := h1 56 (by lia); lia
  exact ⟨hlt, h2 _ (Nat.le_refl _) hlt, h1⟩
theorem Least.le {key key' : Nat → Int} {c c' : Int} {r r' : Nat} (h : Least key c r) (h' : Least key' c' r') (k : c' ≤ key' r' → c ≤ key r') : r ≤ r' := by
  rcases Nat.lt_or_ge r' r with q | q
  · have := h.below r' q; have := k h'.at_; lia
  · exact q
theorem bsR_L (key : Nat → Int) (x : Int) : ∀ n lo hi, bsR key x n lo hi = bsL key (x + 1) n lo hi := by
  intro n
  induction n with
  | zero => intros; rfl
  | succ n ih =>
    intro lo hi
    unfold bsR bsL
    split
    · by_cases k : x < key ((lo + hi) / 2)
      · rw [if_pos k, if_neg (by lia), ih]
      · rw [if_neg k, if_pos (by lia), ih]
    · rfl
end Mine
end
section
namespace Mine
open PySem
theorem val_small (p : Int) : (valAt p).natAbs ≤ 9 := by
  unfold valAt
  have h1 := Int.fmod_nonneg_of_pos (p + 9) (b := 19) (by decide)
  have h2 := Int.fmod_lt_of_pos (p + 9) (b := 19) (by decide)
  omega
theorem vAt_small (S : List Int) (i : Nat) : (vAt S i).natAbs ≤ 9 := by
  unfold vAt valuesOf
  rw [List.getD_eq_getElem?_getD, List.getElem?_map]
  cases (dueOf S)[i]? with
  | none => decide
  | some p => exact val_small p
theorem nab1 {x t : Int} (h : x.natAbs ≤ 9) (ht : t.natAbs ≤ 60) : (2 * x - t).natAbs ≤ 100 := by omega
theorem nab2 {x : Int} (h : x.natAbs ≤ 9) : (2 * x).natAbs ≤ 100 := by omega
theorem nab3 {x : Int} (h : x.natAbs ≤ 9) : (2 * x).natAbs ≤ 18 := by omega
theorem ev2 (x : Int) : 2 * x % 2 = 0 := by omega
theorem odd_ne {x t : Int} (ht : t % 2 = 1) : 2 * x - t ≠ 0 := by omega
theorem even6 (S : List Int) : Even6 (2 * vAt S 0) (2 * vAt S 3) (2 * vAt S 5) (2 * vAt S 1) (2 * vAt S 2) (2 * vAt S 4) := by
  exact ⟨ev2 _, ev2 _, ev2 _, ev2 _, ev2 _, ev2 _, nab3 (vAt_small S 0), nab3 (vAt_small S 3), nab3 (vAt_small S 5), nab3 (vAt_small S 1), nab3 (vAt_small S 2), nab3 (vAt_small S 4)⟩
theorem tab3 (S : List Int) : TabOk3 (tableOf S) where
  len := rfl
  each := fun r hr => by
    simp only [tableOf, List.mem_cons, List.not_mem_nil, or_false] at hr
    rcases hr with rfl | rfl | rfl <;> rfl
  small := fun r hr x hx => by
    have h := vAt_small S
    have : ∃ i, x = vAt S i := by
      simp only [tableOf, List.mem_cons, List.not_mem_nil, or_false] at hr
      rcases hr with rfl | rfl | rfl <;> (simp only [List.mem_cons, List.not_mem_nil, or_false] at hx; rcases hx with rfl | rfl | rfl <;> exact ⟨_, rfl⟩)
    obtain ⟨i, rfl⟩ := this
    have := h i
    omega
noncomputable def N_ (S : List Int) (t : Int) : Nat := Nt (2 * vAt S 0) (2 * vAt S 3) (2 * vAt S 5) (2 * vAt S 1) (2 * vAt S 2) (2 * vAt S 4) t
noncomputable def tab6 (x0 x1 x2 x3 x4 x5 : Int) : List (List Int) := [[x0, x1, x2], [x1, x3, x4], [x2, x4, x5]]
section
variable (x0 x1 x2 x3 x4 x5 t : Int)
theorem q0 (x : Int) : 2 * x - 0 = 2 * x := by omega
theorem sy012 : Sym3 (R0of (tab6 x0 x1 x2 x3 x4 x5) t [0, 1, 2]) (2 * x0 - t) (2 * x3 - t) (2 * x5 - t) (2 * x1) (2 * x2) (2 * x4) := ⟨rfl, rfl, rfl, q0 x1, q0 x1, q0 x2, q0 x2, q0 x4, q0 x4⟩
theorem sy021 : Sym3 (R0of (tab6 x0 x1 x2 x3 x4 x5) t [0, 2, 1]) (2 * x0 - t) (2 * x5 - t) (2 * x3 - t) (2 * x2) (2 * x1) (2 * x4) := ⟨rfl, rfl, rfl, q0 x2, q0 x2, q0 x1, q0 x1, q0 x4, q0 x4⟩
theorem sy102 : Sym3 (R0of (tab6 x0 x1 x2 x3 x4 x5) t [1, 0, 2]) (2 * x3 - t) (2 * x0 - t) (2 * x5 - t) (2 * x1) (2 * x4) (2 * x2) := ⟨rfl, rfl, rfl, q0 x1, q0 x1, q0 x4, q0 x4, q0 x2, q0 x2⟩
theorem sy120 : Sym3 (R0of (tab6 x0 x1 x2 x3 x4 x5) t [1, 2, 0]) (2 * x3 - t) (2 * x5 - t) (2 * x0 - t) (2 * x4) (2 * x1) (2 * x2) := ⟨rfl, rfl, rfl, q0 x4, q0 x4, q0 x1, q0 x1, q0 x2, q0 x2⟩
theorem sy201 : Sym3 (R0of (tab6 x0 x1 x2 x3 x4 x5) t [2, 0, 1]) (2 * x5 - t) (2 * x0 - t) (2 * x3 - t) (2 * x2) (2 * x4) (2 * x1) := ⟨rfl, rfl, rfl, q0 x2, q0 x2, q0 x4, q0 x4, q0 x1, q0 x1⟩
theorem sy210 : Sym3 (R0of (tab6 x0 x1 x2 x3 x4 x5) t [2, 1, 0]) (2 * x5 - t) (2 * x3 - t) (2 * x0 - t) (2 * x4) (2 * x2) (2 * x1) := ⟨rfl, rfl, rfl, q0 x4, q0 x4, q0 x2, q0 x2, q0 x1, q0 x1⟩
theorem sy12 : Sym2 (R0of (tab6 x0 x1 x2 x3 x4 x5) t [1, 2]) (2 * x3 - t) (2 * x5 - t) (2 * x4) := ⟨rfl, rfl, q0 x4, q0 x4⟩
theorem sy02 : Sym2 (R0of (tab6 x0 x1 x2 x3 x4 x5) t [0, 2]) (2 * x0 - t) (2 * x5 - t) (2 * x2) := ⟨rfl, rfl, q0 x2, q0 x2⟩
theorem sy01 : Sym2 (R0of (tab6 x0 x1 x2 x3 x4 x5) t [0, 1]) (2 * x0 - t) (2 * x3 - t) (2 * x1) := ⟨rfl, rfl, q0 x1, q0 x1⟩
end
structure OrdOk (S : List Int) (ord : List Nat) (t : Int) : Prop where
  len : ord.length = 3
  ord3 : ∀ i ∈ ord, i < 3
  sym : ∃ a b c d e f, Sym3 (R0of (tableOf S) t ord) a b c d e f ∧ Nz a b c d e f ∧ N3 a b c d e f = N_ S t ∧ (a.natAbs ≤ 100 ∧ b.natAbs ≤ 100 ∧ c.natAbs ≤ 100 ∧ d.natAbs ≤ 100 ∧ e.natAbs ≤ 100 ∧ f.natAbs ≤ 100)
theorem ord_gen (x0 x1 x2 x3 x4 x5 t : Int) (z : Nz (2 * x0 - t) (2 * x3 - t) (2 * x5 - t) (2 * x1) (2 * x2) (2 * x4)) (hs : t.natAbs ≤ 60) (b0 : x0.natAbs ≤ 9) (b1 : x1.natAbs ≤ 9) (b2 : x2.natAbs ≤ 9) (b3 : x3.natAbs ≤ 9) (b4 : x4.natAbs ≤ 9) (b5 : x5.natAbs ≤ 9) :
    ∀ ord ∈ [0, 1, 2] :: ordersOf, ord.length = 3 ∧ (∀ i ∈ ord, i < 3) ∧ ∃ a b c d e f, Sym3 (R0of (tab6 x0 x1 x2 x3 x4 x5) t ord) a b c d e f ∧ Nz a b c d e f ∧ N3 a b c d e f = N3 (2 * x0 - t) (2 * x3 - t) (2 * x5 - t) (2 * x1) (2 * x2) (2 * x4) ∧ (a.natAbs ≤ 100 ∧ b.natAbs ≤ 100 ∧ c.natAbs ≤ 100 ∧ d.natAbs ≤ 100 ∧ e.natAbs ≤ 100 ∧ f.natAbs ≤ 100) := by
  have k1 : (2 * x0 - t).natAbs ≤ 100 := nab1 b0 hs
  have k2 : (2 * x3 - t).natAbs ≤ 100 := nab1 b3 hs
  have k3 : (2 * x5 - t).natAbs ≤ 100 := nab1 b5 hs
  have k4 : (2 * x1).natAbs ≤ 100 := nab2 b1
  have k5 : (2 * x2).natAbs ≤ 100 := nab2 b2
  have k6 : (2 * x4).natAbs ≤ 100 := nab2 b4
  intro ord ho
  simp only [ordersOf, List.mem_cons, List.not_mem_nil, or_false] at ho
  rcases ho with rfl | rfl | rfl | rfl | rfl | rfl
  · exact ⟨rfl, by decide, _, _, _, _, _, _, sy012 _ _ _ _ _ _ _, z, rfl, k1, k2, k3, k4, k5, k6⟩
  · exact ⟨rfl, by decide, _, _, _, _, _, _, sy021 _ _ _ _ _ _ _, z.s23, N3_23 z, k1, k3, k2, k5, k4, k6⟩
  · exact ⟨rfl, by decide, _, _, _, _, _, _, sy102 _ _ _ _ _ _ _, z.s12, N3_12 z, k2, k1, k3, k4, k6, k5⟩
  · exact ⟨rfl, by decide, _, _, _, _, _, _, sy120 _ _ _ _ _ _ _, z.s12.s23, (N3_23 z.s12).trans (N3_12 z), k2, k3, k1, k6, k4, k5⟩
  · exact ⟨rfl, by decide, _, _, _, _, _, _, sy201 _ _ _ _ _ _ _, z.s23.s12, (N3_12 z.s23).trans (N3_23 z), k3, k1, k2, k5, k6, k4⟩
  · exact ⟨rfl, by decide, _, _, _, _, _, _, sy210 _ _ _ _ _ _ _, z.s12.s23.s12, (N3_12 z.s12.s23).trans ((N3_23 z.s12).trans (N3_12 z)), k3, k2, k1, k6, k5, k4⟩
theorem ordOk_all (S : List Int) {t : Int} (ht : t % 2 = 1) (hs : t.natAbs ≤ 60) : ∀ ord ∈ [0, 1, 2] :: ordersOf, OrdOk S ord t := fun ord ho => by
  obtain ⟨h1, h2, h3⟩ := ord_gen _ _ _ _ _ _ t ((even6 S).nz ht) hs (vAt_small S 0) (vAt_small S 1) (vAt_small S 2) (vAt_small S 3) (vAt_small S 4) (vAt_small S 5) ord ho
  exact ⟨h1, h2, h3⟩
section
variable {S : List Int} {ord : List Nat} {t : Int}
theorem OrdOk.heads (h : OrdOk S ord t) : HeadsOk ord.length (R0of (tableOf S) t ord) := by
  refine byC fun hC1 => ?_
  obtain ⟨a, b, c, d, e, f, s, z, _, h1, h2, h3, h4, h5, h6⟩ := h.sym
  refine hC1 ?_
  rw [h.len]; exact s.ok z.na z.nab h1 h2 h3 h4 h5 h6
theorem OrdOk.count (h : OrdOk S ord t) : countOf (tableOf S) ord t = N_ S t := by
  refine byC fun hC1 => ?_
  obtain ⟨a, b, c, d, e, f, s, z, k, _⟩ := h.sym
  refine hC1 ?_
  unfold countOf headsOf
  rw [h.len, s.count z.na, k]
theorem OrdOk.words (h : OrdOk S ord t) : ∀ x ∈ headsOf (tableOf S) ord t, x ≠ 0 ∧ x.natAbs ≤ 6000000 := by
  refine byC fun hC1 => ?_
  obtain ⟨a, b, c, d, e, f, s, z, _, h1, h2, h3, h4, h5, h6⟩ := h.sym
  refine hC1 ?_
  unfold headsOf
  rw [h.len, s.heads z.na]
  have := m2_small h1 h2 h4; have := det_small h1 h2 h3 h4 h5 h6
  have := z.na; have := z.nab; have := z.nabc
  intro x hx
  simp only [List.mem_cons, List.not_mem_nil, or_false] at hx
  rcases hx with rfl | rfl | rfl | rfl <;> omega
end
noncomputable def tAt (i : Nat) : Int := 2 * (-28 + (i : Int)) + 1
theorem tAt_odd {i : Nat} (h : i < 57) : tAt i % 2 = 1 ∧ (tAt i).natAbs ≤ 60 := by unfold tAt; omega
noncomputable def key3 (S : List Int) (i : Nat) : Int := (N_ S (tAt i) : Int)
theorem key3_mono (S : List Int) : ∀ i, i + 1 < 57 → key3 S i ≤ key3 S (i + 1) := fun i hi => by
  have h := (even6 S).mono (t := tAt i) (tAt_odd (by omega)).1
  unfold key3 N_
  rw [show tAt (i + 1) = tAt i + 2 by unfold tAt; omega]
  omega
theorem key3_high (S : List Int) : key3 S 56 = 3 := by
  unfold key3 N_
  rw [show tAt 56 = 57 from rfl, (even6 S).high]; rfl
theorem key3_low (S : List Int) : key3 S 0 = 0 := by
  unfold key3 N_
  rw [show tAt 0 = -55 from rfl, (even6 S).low]; rfl
theorem bsL_congr {k k' : Nat → Int} {x : Int} : ∀ n lo hi, hi ≤ 57 → (∀ i, i < 57 → k i = k' i) → bsL k x n lo hi = bsL k' x n lo hi := by
  intro n
  induction n with
  | zero => intros; rfl
  | succ n ih =>
    intro lo hi h1 h2
    unfold bsL
    by_cases q : lo < hi
    · rw [if_pos q, if_pos q, h2 ((lo + hi) / 2) (by omega)]
      split
      · exact ih _ _ h1 h2
      · exact ih _ _ (by omega) h2
    · rw [if_neg q, if_neg q]
theorem keyOf_3 (S : List Int) {ord : List Nat} (ho : ord ∈ [0, 1, 2] :: ordersOf) : ∀ i, i < 57 → keyOf (tableOf S) ord i = key3 S i := fun i hi => by
  unfold keyOf key3
  have h := (ordOk_all S (tAt_odd hi).1 (tAt_odd hi).2 ord ho).count
  unfold tAt at h ⊢
  rw [h]
theorem first3 (S : List Int) {ord : List Nat} (ho : ord ∈ [0, 1, 2] :: ordersOf) {c : Int} (hc : c ≤ 3) : Least (key3 S) c (firstAt (tableOf S) ord c) := by
  unfold firstAt
  rw [bsL_congr 57 0 57 (by decide) (keyOf_3 S ho)]
  exact least_of (key3_mono S) (by rw [key3_high]; exact hc)
theorem firstsOk3 (S : List Int) {ord : List Nat} (ho : ord ∈ [0, 1, 2] :: ordersOf) : FirstsOk (tableOf S) ord where
  tab := tab3 S
  ord3 := (ordOk_all S (t := 1) (by decide) (by decide) ord ho).ord3
  len := by rw [(ordOk_all S (t := 1) (by decide) (by decide) ord ho).len]; exact Nat.le_refl _
  heads := fun i hi => (ordOk_all S (tAt_odd hi).1 (tAt_odd hi).2 ord ho).heads
  found := fun c hc => (first3 S ho (by rw [(ordOk_all S (t := 1) (by decide) (by decide) ord ho).len] at hc; omega)).lt
theorem orderAt_mem (S : List Int) (c : Nat) : orderAt S c ∈ [0, 1, 2] :: ordersOf := by
  have m5 := mod5 (d6 S + (c : Int))
  unfold orderAt
  generalize ((d6 S + (c : Int)).fmod 5).toNat = k at m5
  match k, m5.1 with
  | 0, _ | 1, _ | 2, _ | 3, _ | 4, _ => decide
theorem mem012 : [0, 1, 2] ∈ ([0, 1, 2] :: ordersOf : List (List Nat)) := List.mem_cons_self
theorem turnsOk (S : List Int) : TurnsOk S (tableOf S) where
  ok := fun c hc => firstsOk3 S (orderAt_mem S c)
  same := fun c hc => by
    unfold firstAt
    rw [bsR_L, bsL_congr 57 0 57 (by decide) (keyOf_3 S (orderAt_mem S c)), bsL_congr 57 0 57 (by decide) (keyOf_3 S mem012)]
noncomputable def aL (S : List Int) : Nat → Int × Int × Int
  | 0 => (2 * vAt S 3, 2 * vAt S 5, 2 * vAt S 4)
  | 1 => (2 * vAt S 0, 2 * vAt S 5, 2 * vAt S 2)
  | _ => (2 * vAt S 0, 2 * vAt S 3, 2 * vAt S 1)
noncomputable def key2 (S : List Int) (l i : Nat) : Int := (Nb (aL S l).1 (aL S l).2.1 (aL S l).2.2 (tAt i) : Int)
theorem ord2 (S : List Int) {l : Nat} (hl : l < 3) {t : Int} (ht : t % 2 = 1) (hs : t.natAbs ≤ 60) :
    Sym2 (R0of (tableOf S) t (ordL l)) ((aL S l).1 - t) ((aL S l).2.1 - t) (aL S l).2.2 ∧ (aL S l).1 - t ≠ 0 ∧ Nb (aL S l).1 (aL S l).2.1 (aL S l).2.2 t ≤ N_ S t ∧ N_ S t ≤ Nb (aL S l).1 (aL S l).2.1 (aL S l).2.2 t + 1 ∧
      (((aL S l).1 - t).natAbs ≤ 100 ∧ ((aL S l).2.1 - t).natAbs ≤ 100 ∧ (aL S l).2.2.natAbs ≤ 100) := by
  have z := (even6 S).nz ht
  have v := vAt_small S
  match l, hl with
  | 0, _ =>
    have k := N3_N2 (2 * vAt S 3 - t) (2 * vAt S 5 - t) (2 * vAt S 0 - t) (2 * vAt S 4) (2 * vAt S 1) (2 * vAt S 2)
    have e : N3 (2 * vAt S 3 - t) (2 * vAt S 5 - t) (2 * vAt S 0 - t) (2 * vAt S 4) (2 * vAt S 1) (2 * vAt S 2) = N_ S t := (N3_23 z.s12).trans (N3_12 z)
    rw [e] at k
    exact ⟨sy12 _ _ _ _ _ _ _, odd_ne (x := vAt S 3) ht, k.1, k.2, nab1 (v 3) hs, nab1 (v 5) hs, nab2 (v 4)⟩
  | 1, _ =>
    have k := N3_N2 (2 * vAt S 0 - t) (2 * vAt S 5 - t) (2 * vAt S 3 - t) (2 * vAt S 2) (2 * vAt S 1) (2 * vAt S 4)
    have e : N3 (2 * vAt S 0 - t) (2 * vAt S 5 - t) (2 * vAt S 3 - t) (2 * vAt S 2) (2 * vAt S 1) (2 * vAt S 4) = N_ S t := N3_23 z
    rw [e] at k
    exact ⟨sy02 _ _ _ _ _ _ _, odd_ne (x := vAt S 0) ht, k.1, k.2, nab1 (v 0) hs, nab1 (v 5) hs, nab2 (v 2)⟩
  | 2, _ =>
    have k := N3_N2 (2 * vAt S 0 - t) (2 * vAt S 3 - t) (2 * vAt S 5 - t) (2 * vAt S 1) (2 * vAt S 2) (2 * vAt S 4)
    exact ⟨sy01 _ _ _ _ _ _ _, odd_ne (x := vAt S 0) ht, k.1, k.2, nab1 (v 0) hs, nab1 (v 3) hs, nab2 (v 1)⟩
theorem key2_keyOf (S : List Int) {l : Nat} (hl : l < 3) : ∀ i, i < 57 → keyOf (tableOf S) (ordL l) i = key2 S l i := fun i hi => by
  obtain ⟨s, _⟩ := ord2 S hl (tAt_odd hi).1 (tAt_odd hi).2
  unfold keyOf key2
  have e : countOf (tableOf S) (ordL l) (tAt i) = Nb (aL S l).1 (aL S l).2.1 (aL S l).2.2 (tAt i) := by
    unfold countOf headsOf
    rw [ordL_len, s.count]; rfl
  unfold tAt at e ⊢
  rw [e]
theorem aL_even (S : List Int) (l : Nat) : (aL S l).1 % 2 = 0 ∧ (aL S l).2.1 % 2 = 0 ∧ (aL S l).2.2 % 2 = 0 ∧ (aL S l).1.natAbs ≤ 18 ∧ (aL S l).2.1.natAbs ≤ 18 ∧ (aL S l).2.2.natAbs ≤ 18 := by
  have v := vAt_small S
  match l with
  | 0 => exact ⟨ev2 _, ev2 _, ev2 _, nab3 (v 3), nab3 (v 5), nab3 (v 4)⟩
  | 1 => exact ⟨ev2 _, ev2 _, ev2 _, nab3 (v 0), nab3 (v 5), nab3 (v 2)⟩
  | n + 2 => exact ⟨ev2 _, ev2 _, ev2 _, nab3 (v 0), nab3 (v 3), nab3 (v 1)⟩
theorem key2_mono (S : List Int) (l : Nat) : ∀ i, i + 1 < 57 → key2 S l i ≤ key2 S l (i + 1) := fun i hi => by
  refine byC fun hC1 => ?_
  obtain ⟨h1, h2, h3, _⟩ := aL_even S l
  refine hC1 ?_
  have h := nb_mono h1 h2 h3 (t := tAt i) (tAt_odd (by omega)).1
  unfold key2
  rw [show tAt (i + 1) = tAt i + 2 by unfold tAt; omega]
  omega
theorem key2_high (S : List Int) (l : Nat) : key2 S l 56 = 2 := by
  refine byC fun hC1 => ?_
  obtain ⟨_, _, _, h4, h5, h6⟩ := aL_even S l
  refine hC1 ?_
  unfold key2
  rw [show tAt 56 = 57 from rfl, nb_high h4 h5 h6]; rfl
theorem first2 (S : List Int) {l : Nat} (hl : l < 3) {c : Int} (hc : c ≤ 2) : Least (key2 S l) c (firstAt (tableOf S) (ordL l) c) := by
  unfold firstAt
  rw [bsL_congr 57 0 57 (by decide) (key2_keyOf S hl)]
  exact least_of (key2_mono S l) (by rw [key2_high]; exact hc)
theorem ordL_lt {l : Nat} : ∀ i ∈ ordL l, i < 3 := by
  match l with
  | 0 => decide
  | 1 => decide
  | n + 2 => intro i hi; simp only [ordL, List.mem_cons, List.not_mem_nil, or_false] at hi; omega
theorem firstsOk2 (S : List Int) {l : Nat} (hl : l < 3) : FirstsOk (tableOf S) (ordL l) where
  tab := tab3 S
  ord3 := ordL_lt
  len := by rw [ordL_len]; decide
  heads := fun i hi => by
    refine byC fun hC1 => ?_
    obtain ⟨s, h1, _, _, h2, h3, h4⟩ := ord2 S hl (tAt_odd hi).1 (tAt_odd hi).2
    refine hC1 ?_
    rw [ordL_len]; exact s.ok h1 h2 h3 h4
  found := fun c hc => (first2 S hl (by rw [ordL_len] at hc; omega)).lt
theorem lace1 (S : List Int) {l : Nat} (hl : l < 3) {c : Int} (hc : c ≤ 2) : firstAt (tableOf S) [0, 1, 2] c ≤ firstAt (tableOf S) (ordL l) c := by
  have h2 := first2 S hl hc
  refine (first3 S mem012 (c := c) (by omega)).le h2 fun k => ?_
  obtain ⟨_, _, h, _⟩ := ord2 S hl (tAt_odd h2.lt).1 (tAt_odd h2.lt).2
  unfold key2 at k; unfold key3
  omega
theorem lace2 (S : List Int) {l : Nat} (hl : l < 3) {c : Int} (hc : c ≤ 2) : firstAt (tableOf S) (ordL l) c ≤ firstAt (tableOf S) [0, 1, 2] (c + 1) := by
  have h3 := first3 S mem012 (c := c + 1) (by omega)
  refine (first2 S hl hc).le h3 fun k => ?_
  obtain ⟨_, _, _, h, _⟩ := ord2 S hl (tAt_odd h3.lt).1 (tAt_odd h3.lt).2
  unfold key3 at k; unfold key2
  omega
theorem leftOk (S : List Int) : LeftOk (tableOf S) where
  ok := fun l hl => firstsOk2 S hl
  lace := fun l hl => by
    have hl2 := ordL_len l
    rw [firsts_at (c := 0) (by decide), firsts_at (c := 1) (by decide), firsts_at (c := 2) (by decide), firsts_at (c := 0) (by omega), firsts_at (c := 1) (by omega)]
    have a1 := lace1 S hl (c := 1) (by decide); have a2 := lace2 S hl (c := 1) (by decide); have a3 := lace1 S hl (c := 2) (by decide); have a4 := lace2 S hl (c := 2) (by decide)
    simp only [Int.reduceAdd] at a2 a4
    refine ⟨?_, ?_, ?_, ?_⟩
    · show -28 + ((firstAt (tableOf S) [0, 1, 2] 1 : Nat) : Int) ≤ -28 + ((firstAt (tableOf S) (ordL l) 1 : Nat) : Int); omega
    · show -28 + ((firstAt (tableOf S) (ordL l) 1 : Nat) : Int) ≤ -28 + ((firstAt (tableOf S) [0, 1, 2] 2 : Nat) : Int); omega
    · show -28 + ((firstAt (tableOf S) [0, 1, 2] 2 : Nat) : Int) ≤ -28 + ((firstAt (tableOf S) (ordL l) 2 : Nat) : Int); omega
    · show -28 + ((firstAt (tableOf S) (ordL l) 2 : Nat) : Int) ≤ -28 + ((firstAt (tableOf S) [0, 1, 2] 3 : Nat) : Int); omega
end Mine
end
section
namespace Mine
open PySem
section
variable (S : List Int)
noncomputable def rF (c : Int) : Nat := firstAt (tableOf S) [0, 1, 2] c
theorem rF_least {c : Int} (hc : c ≤ 3) : Least (key3 S) c (rF S c) := first3 S mem012 hc
theorem rF_pos {c : Int} (h1 : 1 ≤ c) (hc : c ≤ 3) : 1 ≤ rF S c := by
  have h := rF_least S hc
  rcases Nat.eq_zero_or_pos (rF S c) with q | q
  · have := h.at_; rw [q, key3_low] at this; lia
  · exact q
theorem rF_mono {c c' : Int} (h : c ≤ c') (hc : c' ≤ 3) : rF S c ≤ rF S c' := (rF_least S (c := c) (by lia)).le (rF_least S hc) fun k => by lia
theorem N_at {c : Int} (hc : c ≤ 3) : c ≤ (N_ S (tAt (rF S c)) : Int) := (rF_least S hc).at_
theorem N_below {c : Int} (h1 : 1 ≤ c) (hc : c ≤ 3) : (N_ S (tAt (rF S c - 1)) : Int) < c := (rF_least S hc).below _ (by have := rF_pos S h1 hc; lia)
theorem N_mono {i j : Nat} (h : i ≤ j) (hj : j < 57) : N_ S (tAt i) ≤ N_ S (tAt j) := by
  have := mono_le (key3_mono S) h hj
  unfold key3 at this; lia
theorem tAt_pred {r : Nat} (h : 1 ≤ r) : tAt (r - 1) = tAt r - 2 := by unfold tAt; lia
theorem trace_up : 2 * (vAt S 0 + vAt S 3 + vAt S 5) < tAt (rF S 1) + tAt (rF S 2) + tAt (rF S 3) := by
  have l1 := (rF_least S (c := 1) (by decide)).lt; have l2 := (rF_least S (c := 2) (by decide)).lt; have l3 := (rF_least S (c := 3) (by decide)).lt
  have m1 := rF_mono S (c := 1) (c' := 2) (by decide) (by decide); have m2 := rF_mono S (c := 2) (c' := 3) (by decide) (by decide)
  have n1 := N_at S (c := 1) (by decide); have n2 := N_at S (c := 2) (by decide); have n3 := N_at S (c := 3) (by decide)
  have h := tr_upper (a := 2 * vAt S 0) (b := 2 * vAt S 3) (c := 2 * vAt S 5) (d := 2 * vAt S 1) (e := 2 * vAt S 2) (f := 2 * vAt S 4) (u1 := tAt (rF S 1)) (u2 := tAt (rF S 2)) (u3 := tAt (rF S 3))
    (fun u hu => (even6 S).nz (by rcases hu with rfl | rfl | rfl; exact (tAt_odd l1).1; exact (tAt_odd l2).1; exact (tAt_odd l3).1)) (by unfold tAt; lia) (by unfold tAt; lia) (N_mono S m1 l2) (by unfold N_ Nt at n1; lia) (by unfold N_ Nt at n2; lia) (by unfold N_ Nt at n3; lia)
  lia
theorem trace_low : tAt (rF S 1) + tAt (rF S 2) + tAt (rF S 3) - 6 < 2 * (vAt S 0 + vAt S 3 + vAt S 5) := by
  have l1 := (rF_least S (c := 1) (by decide)).lt; have l2 := (rF_least S (c := 2) (by decide)).lt; have l3 := (rF_least S (c := 3) (by decide)).lt
  have m1 := rF_mono S (c := 1) (c' := 2) (by decide) (by decide); have m2 := rF_mono S (c := 2) (c' := 3) (by decide) (by decide)
  have p1 := rF_pos S (c := 1) (by decide) (by decide); have p2 := rF_pos S (c := 2) (by decide) (by decide); have p3 := rF_pos S (c := 3) (by decide) (by decide)
  have n1 := N_below S (c := 1) (by decide) (by decide); have n2 := N_below S (c := 2) (by decide) (by decide); have n3 := N_below S (c := 3) (by decide) (by decide)
  have z : ∀ r, r < 57 → Nz (2 * vAt S 0 - tAt r) (2 * vAt S 3 - tAt r) (2 * vAt S 5 - tAt r) (2 * vAt S 1) (2 * vAt S 2) (2 * vAt S 4) := fun r hr => (even6 S).nz (tAt_odd hr).1
  have e : ∀ x w : Int, -x - -w = -(x - w) := fun x w => by lia
  have cnt : ∀ r, r < 57 → N3 (-(2 * vAt S 0) - -tAt r) (-(2 * vAt S 3) - -tAt r) (-(2 * vAt S 5) - -tAt r) (-(2 * vAt S 1)) (-(2 * vAt S 2)) (-(2 * vAt S 4)) = 3 - N_ S (tAt r) := fun r hr => by
    rw [e, e, e]; exact N3_neg (z r hr)
  have h := tr_upper (a := -(2 * vAt S 0)) (b := -(2 * vAt S 3)) (c := -(2 * vAt S 5)) (d := -(2 * vAt S 1)) (e := -(2 * vAt S 2)) (f := -(2 * vAt S 4)) (u1 := -tAt (rF S 3 - 1)) (u2 := -tAt (rF S 2 - 1)) (u3 := -tAt (rF S 1 - 1))
    (fun u hu => by
      rcases hu with rfl | rfl | rfl
      · rw [e, e, e]; exact (z _ (by lia)).neg
      · rw [e, e, e]; exact (z _ (by lia)).neg
      · rw [e, e, e]; exact (z _ (by lia)).neg) (by unfold tAt; lia) (by unfold tAt; lia)
    (by rw [cnt _ (by lia), cnt _ (by lia)]; have := N_mono S (i := rF S 2 - 1) (j := rF S 3 - 1) (by lia) (by lia); lia)
    (by rw [cnt _ (by lia)]; lia) (by rw [cnt _ (by lia)]; lia) (by rw [cnt _ (by lia)]; lia)
  rw [tAt_pred p1, tAt_pred p2, tAt_pred p3] at h
  lia
theorem firsts_three : firstsOf (tableOf S) [0, 1, 2] = [-28 + (rF S 1 : Int), -28 + (rF S 2 : Int), -28 + (rF S 3 : Int)] := rfl
theorem trace_ok : absI ((firstsOf (tableOf S) [0, 1, 2]).sum - vAt S 0 - vAt S 3 - vAt S 5) ≤ 1 := by
  have h1 := trace_up S; have h2 := trace_low S
  rw [firsts_three]
  have e : [-28 + (rF S 1 : Int), -28 + (rF S 2 : Int), -28 + (rF S 3 : Int)].sum = -84 + rF S 1 + rF S 2 + rF S 3 := by
    simp only [List.sum_cons, List.sum_nil]; lia
  rw [e]
  unfold tAt at h1 h2
  unfold absI
  split <;> lia
noncomputable def kF : Nat := ((d6 S).fmod 3).toNat
theorem kF_lt : kF S < 3 := (mod3 (d6 S)).1
theorem fAt_eq : fAt S (tableOf S) = -28 + (rF S ((kF S : Int) + 1) : Int) := by
  unfold fAt
  exact firsts_at (show kF S < [0, 1, 2].length from kF_lt S)
theorem odd_hi : 2 * fAt S (tableOf S) + 1 = tAt (rF S ((kF S : Int) + 1)) := by rw [fAt_eq]; rfl
theorem odd_lo : 2 * fAt S (tableOf S) - 1 = tAt (rF S ((kF S : Int) + 1) - 1) := by
  have := kF_lt S
  rw [fAt_eq, tAt_pred (rF_pos S (by lia) (by lia))]; unfold tAt; lia
theorem odd_both : ∀ o ∈ oddAt S (tableOf S), ∃ r, r < 57 ∧ o = tAt r := by
  have := kF_lt S
  have l := (rF_least S (c := (kF S : Int) + 1) (by lia)).lt
  intro o ho
  simp only [oddAt, List.mem_cons, List.not_mem_nil, or_false] at ho
  rcases ho with rfl | rfl
  · exact ⟨_, by lia, odd_lo S⟩
  · exact ⟨_, l, odd_hi S⟩
theorem chgAt_eq {o : Int} (h : ∃ r, r < 57 ∧ o = tAt r) : chgAt S (tableOf S) o = (N_ S o : Int) := by
  obtain ⟨r, hr, rfl⟩ := h
  have k := (ordOk_all S (tAt_odd hr).1 (tAt_odd hr).2 _ (orderAt_mem S 0)).count
  unfold countOf at k
  rw [orderAt_len] at k
  unfold chgAt; rw [k]
theorem lo_ok : chgAt S (tableOf S) (2 * fAt S (tableOf S) - 1) ≤ (d6 S).fmod 3 := by
  have := kF_lt S
  have l := (rF_least S (c := (kF S : Int) + 1) (by lia)).lt
  rw [odd_lo, chgAt_eq S ⟨_, by lia, rfl⟩]
  have h := N_below S (c := (kF S : Int) + 1) (by lia) (by lia)
  have hk : ((kF S : Nat) : Int) = (d6 S).fmod 3 := Int.toNat_of_nonneg (mod3 (d6 S)).2.1
  lia
theorem hi_ok : (d6 S).fmod 3 < chgAt S (tableOf S) (2 * fAt S (tableOf S) + 1) := by
  have := kF_lt S
  have l := (rF_least S (c := (kF S : Int) + 1) (by lia)).lt
  rw [odd_hi, chgAt_eq S ⟨_, l, rfl⟩]
  have h := N_at S (c := (kF S : Int) + 1) (by lia)
  have hk : ((kF S : Nat) : Int) = (d6 S).fmod 3 := Int.toNat_of_nonneg (mod3 (d6 S)).2.1
  lia
theorem law2_of (hS : S.length ≤ 1000) (hd : DueOk S) (hw : ∀ x : Int, x ≠ 0 → x.natAbs ≤ 6000000 → WordOk x) : Law2 S where
  len := hS
  due := hd
  first := firstsOk3 S mem012
  turns := turnsOk S
  left := leftOk S
  tr := trace_ok S
  odd := ⟨fun o ho => by
      obtain ⟨r, hr, rfl⟩ := odd_both S o ho
      exact (ordOk_all S (tAt_odd hr).1 (tAt_odd hr).2 _ (orderAt_mem S 0)).heads,
    fun o ho h hh => by
      obtain ⟨r, hr, rfl⟩ := odd_both S o ho
      obtain ⟨h1, h2⟩ := (ordOk_all S (tAt_odd hr).1 (tAt_odd hr).2 _ (orderAt_mem S 0)).words h hh
      exact hw h h1 h2⟩
  lo := lo_ok S
  hi := hi_ok S
end
end Mine
end
section
set_option maxRecDepth 100000
set_option maxHeartbeats 1000000
open PySem PySem.W PySem.Calls PyProof.Rows PyProof.V PySem.SeqAt
namespace Mine
theorem rInts {κ : Kp} {vs : List Value} {S : List Int} (h : IntsAre vs S) : RL κ (S.map .int) vs := by
  induction h with
  | nil => rfl
  | cons t ih => exact ⟨_, _, rfl, ⟨_, rfl⟩, by assumption⟩
theorem callerOk : AOk callerA 9 := ⟨rfl, by decide +kernel, by decide +kernel⟩
theorem law_bind {C : Cx} {f : Value} {fd : FuncData} (B : PlainG C 19 f fd) (v : Value) : bindArgs fd ⟨[v], []⟩ = (pure [(("script" : Str), v)] : Sem (List (Str × Value))) := B.bind rfl
theorem scokL : ScOk (scopeOf PySem.Challenge.pw_wb0027_02 19) := ⟨rfl, by decide +kernel, by decide +kernel⟩
theorem law_run {C : Cx} {w : World} {κ : Kp} {s : Shared} {v : Value} {E : Value → Shared → Prop} {S : List Int} (X : KIn C (K02 w)) (nl : NoLim C) (g : Globs2 C (fdAt (K02 w) 132).code ((fdAt (K02 w) 132).qualname ++ ".<locals>.") S) (L : Law2 S) (B : Base C κ s) (r : R κ (.list (S.map .int)) v) :
    wpK (model C.prog C.w) callerA (call (.ref 132) [v]) (FnPost C κ s fun d => d = .bool true) E s := by
  have P := g_law X
  have hsc := P.scope
  refine law_callK (n := 8) (x := "script") (a := .d (intD S)) P.at_ nl (by rw [hsc]; exact scokL) (by rw [hsc]; decide +kernel) (law_bind P) ?_ callerOk B (RVL.cons r RVL.nil)
  intro G A'
  rw [hsc]
  simp only [wStores]
  refine st_cell 0 9 1 rfl rfl rfl ?_
  intro E hk
  show wSsK _ _ _ (lae _ _) (lst { script := some (intD S) } []) _ _
  exact law2_body (n := 0) (callerOk.deeper _) ⟨G.env, rfl, by rw [hk]; decide, rfl⟩ g L fun st => rfl
theorem top02 (hL : ∀ S : List Int, S.length ≤ 63 → Law2 S ∧ RefAll S) : PySem.Challenge.rw_wb0027_02.Holds := by
  refine hd02 ?_
  intro w s₀ s₁ mg mb G Y fa o pm cd doc dV kV ho hd hcd hD hmg hg args vals as hpre hlay hrd hwl hlo
  have KX : (heap02 w.params).In s₁.heap := Y.1
  have hT8 : ∀ P ∈ [122, 129], s₁.heap.get? P = some (tabObj #[]) := Y.2
  have T := G.T
  have hT : TabsAt tabs02 s₁.heap := List.forall_mem_cons.mpr ⟨⟨codeHd_of_K (c := 126) (P := 122) KX (by kernel_rfl), hT8 122 (by decide)⟩, List.forall_mem_cons.mpr ⟨⟨codeHd_of_K (c := 131) (P := 129) KX (by kernel_rfl), hT8 129 (by decide)⟩, fun _ h => nomatch h⟩⟩
  clear G Y hD hd ho hcd
  have hfa : (mg "law") = some (.ref 132) := mg_of KX T.g (by kernel_rfl)
  have hfa2 : fa = 132 := by
    have e : mg "law" = some (.ref fa) := hmg
    rw [hfa] at e
    cases e; rfl
  subst hfa2
  clear hmg hfa
  refine byC fun hN => ?_
  wrow_args hpre hlay hrd hwl hlo
  rename_i S _ _ _ _ _ _ _ la vs _ hIL _ w1 _ hI _ hlen _
  refine hN ?_
  clear hN
  have hS : S.length ≤ 63 := by omega
  obtain ⟨L, RA⟩ := hL S hS
  have hpost : PySem.Challenge.rw_wb0027_02.row.claim.post [ofPy (PyData.list (List.map PyData.int S))] (.bool true) [ofPy (PyData.list (List.map PyData.int S))] = true := by wrow_post
  have hgood : ∀ s' : Shared, (∀ b o, b ∉ tabs02.map (·.2) → s₁.heap.get? b = some o → s'.heap.get? b = some o) → (∀ q ∈ tabs02, GrownAt q.2 s'.heap) → s'.os = s₁.os → s'.gens = #[] →
      GoodWG PySem.Challenge.rw_wb0027_02.row.claim (classAt s₀.heap) (ExcName.means s₀.heap) [ofPy (PyData.list (List.map PyData.int S))] s₁ (.ok (.ret (.bool true))) s' := fun s' k gr ho hg => goodWG_true hT (fun _ _ => rfl) hpost k gr ho hg
  refine ⟨hgood s₁ (fun _ _ _ e => e) (fun q hq => ⟨#[], (hT q hq).2⟩) rfl hg, ?_⟩
  have XC : KIn (mkC PySem.Challenge.rw_wb0027_02.row.prog w s₁ tabs02 tq02) (K02 w) := kin_of KX (by kernel_rfl)
  have N := nsG_of (p := PySem.Challenge.rw_wb0027_02.row.prog) (w := w) (tabs := tabs02) (tq := tq02) KX T (by decide) (by decide)
  have nl := noLim_of (p := PySem.Challenge.rw_wb0027_02.row.prog) (w := w) (tabs := tabs02) (tq := tq02) T (by decide)
  have lamF : LamOk (mkC PySem.Challenge.rw_wb0027_02.row.prog w s₁ tabs02 tq02) (.ref 126) 122 := lamOk_of KX XC T (bm := 4) (by decide) (by decide) (by kernel_rfl) (by kernel_rfl) (by decide) (by decide)
  have lamL : LamOk (mkC PySem.Challenge.rw_wb0027_02.row.prog w s₁ tabs02 tq02) (.ref 131) 129 := lamOk_of KX XC T (bm := 4) (by decide) (by decide) (by kernel_rfl) (by kernel_rfl) (by decide) (by decide)
  have B := base_of (p := PySem.Challenge.rw_wb0027_02.row.prog) (w := w) (tq := tq02) hT hg
  have g := globs2_of XC N nl lamF lamL rfl RA
  have hr : R (mkC PySem.Challenge.rw_wb0027_02.row.prog w s₁ tabs02 tq02).P0 (.list (S.map .int)) (.ref la) := by
    cases w1 with
    | list ho hw =>
      obtain ⟨o2, e1, e2, n2, e3⟩ := hIL
      rw [ho] at e1; cases e1
      injection e3 with q1 q2
      have hn : la ∉ tabs02.map (·.2) := fun hm => by
        have h1 := hT8 la hm
        rw [ho] at h1
        cases h1
      refine ⟨la, { cls := .type "list", data := .seq vs.toArray }, vs.toArray, 0, rfl, ?_, rfl, rfl, rfl, ?_⟩
      · show (if _ then _ else _) = _
        rw [if_neg hn, ho, q1]
      · simpa using rInts hI
  refine K.mono (law_run XC nl g L B hr) (fun v s' ⟨κ', d, k, B', hn, hkeep, hrr, hd⟩ => ?_) fun _ _ z => z
  subst hd
  cases (hrr : v = .bool true)
  refine hgood s' hkeep (fun q hq => ?_) B'.os B'.gens
  obtain ⟨⟨ps, h1, _⟩, _⟩ := B'.tabs q.2 (List.mem_map_of_mem hq)
  exact ⟨ps, h1⟩
end Mine
end
section
open PySem
namespace Mine
theorem of_list {x : Str} {l : List Nat} (h : x.cps.toList = l) : x = ⟨l.toArray⟩ := by
  rw [← h]
  first | done | exact (Str.eta _).symm
theorem rep4_list (c : Nat) : (rep ⟨#[c]⟩ 4).cps.toList = [c, c, c, c] := by
  refine (?_ : ((List.replicate 4 #[c]).foldl (· ++ ·) #[]).toList = _)
  simp [List.replicate]
noncomputable def bodyL (c : Nat) (p : Int) : List Nat := [c, c, c] ++ numL p ++ [c]
theorem body_list (c : Nat) (p : Int) : (refBody ⟨#[c]⟩ p).cps.toList = bodyL c p := by
  unfold refBody
  rw [app_list, app_list, rep_list, numS_list]; rfl
theorem body_eq (c : Nat) (p : Int) : refBody ⟨#[c]⟩ p = ⟨(bodyL c p).toArray⟩ := of_list (body_list c p)
theorem numL_chars (p : Int) : ∀ x ∈ numL p, x = 45 ∨ (48 ≤ x ∧ x ≤ 57) := by
  intro x hx
  have hd := dl_digits p.natAbs
  unfold numL at hx
  split at hx
  · rcases List.mem_cons.mp hx with rfl | h
    · lia
    · have := hd x h; lia
  · have := hd x hx; lia
theorem numL_len {p : Int} (hp : p.natAbs ≤ 10 ^ 15) : (numL p).length ≤ 17 := by
  have := dl_len (m := p.natAbs) (by lia)
  unfold numL; split <;> simp <;> lia
theorem tx1 : (Str.ofString "229 (").cps.toList = [50, 50, 57, 32, 40] := by decide +kernel
theorem tx2 : (Str.ofString ")").cps.toList = [41] := by decide +kernel
theorem proto2 : ParseProto "229 272)" := by
  refine ⟨by decide +kernel, by decide +kernel, ?_, ?_, .inl ?_⟩ <;> decide +kernel
set_option maxHeartbeats 2000000 in
theorem refOk (n : Int) {p : Int} (hp : p.natAbs ≤ 10 ^ 15) : RefOk (markOf n) p := by
  have hm := mark_cases n
  unfold markOf
  generalize markC n = c at hm
  have hch := numL_chars p
  have hl := numL_len hp
  have hc : c ∉ numL p := fun q => by have := hch _ q; lia
  have h41 : 41 ∉ numL p := fun q => by have := hch _ q; lia
  have hb41 : ∀ l : List Nat, (∀ x ∈ l, x = c ∨ x ∈ numL p ∨ x = 61) → 41 ∉ l := fun l hl q => by
    rcases hl _ q with h | h | h
    · lia
    · exact h41 h
    · lia
  have hbl : (bodyL c p).length = (numL p).length + 4 := by simp [bodyL]
  have bmem : ∀ x ∈ bodyL c p, x = c ∨ x ∈ numL p := by
    intro x hx
    simp only [bodyL, List.mem_append, List.mem_cons, List.not_mem_nil, or_false] at hx
    rcases hx with (h | h) | h
    · lia
    · exact .inr h
    · exact .inl h
  refine ⟨fun k hk => ?_, fun k h2 h7 => ?_, fun k h7 h9 => ?_⟩
  · match k, hk with
    | 0, _ =>
      refine ⟨_, rfl, ?_⟩
      have e : ((Str.ofString "228 (" ++ refBody ⟨#[c]⟩ p) ++ Str.ofString ")") = ⟨([50, 50, 56, 32, 40] ++ bodyL c p ++ [41]).toArray⟩ := of_list (by rw [app_list, app_list, body_list, tx2, show (Str.ofString "228 (").cps.toList = [50, 50, 56, 32, 40] by decide +kernel])
      refine (?_ : ParseReply ((Str.ofString "228 (" ++ refBody ⟨#[c]⟩ p) ++ Str.ofString ")"))
      rw [e]
      refine ⟨by show ([50, 50, 56, 32, 40] ++ bodyL c p ++ [41]).length ≤ _; simp; lia, ?_⟩
      refine (?_ : Txt.slice _ none (some ((3 : Nat) : Int)) ≠ Str.ofString "229")
      rw [slice_to _ _ (by simp), t229]
      intro q
      have := congrArg (fun x : Str => x.cps.toList) q
      simp at this
    | 1, _ =>
      refine ⟨_, rfl, ?_⟩
      have e : ((Str.ofString "129 (" ++ refBody ⟨#[c]⟩ p) ++ Str.ofString ")") = ⟨([49, 50, 57, 32, 40] ++ bodyL c p ++ [41]).toArray⟩ := of_list (by rw [app_list, app_list, body_list, tx2, show (Str.ofString "129 (").cps.toList = [49, 50, 57, 32, 40] by decide +kernel])
      refine (?_ : ParseReply ((Str.ofString "129 (" ++ refBody ⟨#[c]⟩ p) ++ Str.ofString ")"))
      rw [e]
      refine ⟨by show ([49, 50, 57, 32, 40] ++ bodyL c p ++ [41]).length ≤ _; simp; lia, ?_⟩
      refine (?_ : Txt.slice _ none (some ((3 : Nat) : Int)) ≠ Str.ofString "229")
      rw [slice_to _ _ (by simp), t229]
      intro q
      have := congrArg (fun x : Str => x.cps.toList) q
      simp at this
  · match k, h2, h7 with
    | 2, _, _ => exact ⟨_, rfl, proto2⟩
    | 3, _, _ =>
      refine ⟨_, rfl, ?_⟩
      have e : ((Str.ofString "229 (" ++ refBody ⟨#[c]⟩ p) ++ Str.ofString "]") = ⟨([50, 50, 57, 32, 40] ++ (bodyL c p ++ [93])).toArray⟩ := of_list (by rw [app_list, app_list, body_list, tx1, show (Str.ofString "]").cps.toList = [93] by decide +kernel, List.append_assoc])
      refine (?_ : ParseProto ((Str.ofString "229 (" ++ refBody ⟨#[c]⟩ p) ++ Str.ofString "]"))
      rw [e]
      have hf : Txt.find ⟨([50, 50, 57, 32, 40] ++ (bodyL c p ++ [93])).toArray⟩ "(" = 4 := by
        refine (?_ : Txt.find _ (Str.ofString "(") = 4)
        rw [lpar]
        exact find_at (pre := [50, 50, 57, 32]) (c := 40) (post := bodyL c p ++ [93]) (by decide)
      have hf3 : Txt.find3 ⟨([50, 50, 57, 32, 40] ++ (bodyL c p ++ [93])).toArray⟩ ")" (4 + 1) = -1 := by
        refine (?_ : Txt.find3 _ (Str.ofString ")") 5 = _)
        rw [rpar]
        exact find3_no (pre := [50, 50, 57, 32, 40]) (c := 41) (post := bodyL c p ++ [93]) (by
          intro q
          rcases List.mem_append.mp q with q | q
          · rcases bmem _ q with h | h
            · lia
            · exact h41 h
          · simp at q)
      refine ⟨by show ([50, 50, 57, 32, 40] ++ (bodyL c p ++ [93])).length ≤ _; simp; lia, ?_, by rw [hf]; decide, by rw [hf, hf3]; decide, .inr ⟨by rw [hf]; decide, .inl (by rw [hf, hf3]; decide)⟩⟩
      refine (?_ : Txt.slice _ none (some ((3 : Nat) : Int)) = Str.ofString "229")
      rw [slice_to _ _ (by simp), t229]; rfl
    | 4, _, _ =>
      refine ⟨_, rfl, ?_⟩
      have e : ((Str.ofString "229 (" ++ refBody ⟨#[c]⟩ p) ++ Str.ofString "=)") = ⟨(shp (bodyL c p ++ [61]) []).toArray⟩ := of_list (by rw [app_list, app_list, body_list, tx1, show (Str.ofString "=)").cps.toList = [61, 41] by decide +kernel]; simp [shp])
      refine (?_ : ParseProto ((Str.ofString "229 (" ++ refBody ⟨#[c]⟩ p) ++ Str.ofString "=)"))
      rw [e]
      have hn : 41 ∉ bodyL c p ++ [61] := hb41 _ (fun x hx => by
        rcases List.mem_append.mp hx with q | q
        · rcases bmem _ q with h | h
          · exact .inl h
          · exact .inr (.inl h)
        · simp at q; exact .inr (.inr q))
      have hf := shp_find (bodyL c p ++ [61]) []
      have hf3 := shp_find3 [] hn
      refine ⟨by show (shp (bodyL c p ++ [61]) []).length ≤ _; rw [shp_len]; simp; lia, shp_code _ _, by rw [hf]; decide, by rw [hf, hf3]; simp; lia, .inr ⟨by rw [hf]; decide, .inr ⟨by rw [hf, hf3]; lia, c, 61, ?_, ?_, .inl (by lia)⟩⟩⟩
      · have eb : bodyL c p ++ [61] = c :: ([c, c] ++ numL p ++ [c] ++ [61]) := by simp [bodyL]
        rw [hf, eb]; exact shp_first _ _
      · rw [hf, hf3]; exact shp_last (c := 61) (bodyL c p) []
    | 5, _, _ =>
      refine ⟨_, rfl, ?_⟩
      have e5 : Txt.slice (refBody ⟨#[c]⟩ p) (some 1) none = ⟨([c, c] ++ numL p ++ [c]).toArray⟩ := by
        rw [body_eq]
        exact slice_from (bodyL c p) 1 (by lia)
      have e : ((Str.ofString "229 (" ++ Txt.slice (refBody ⟨#[c]⟩ p) (some 1) none) ++ Str.ofString ")") = ⟨(shp ([c, c] ++ numL p ++ [c]) []).toArray⟩ := of_list (by rw [app_list, app_list, e5, tx1, tx2]; simp [shp])
      refine (?_ : ParseProto ((Str.ofString "229 (" ++ Txt.slice (refBody ⟨#[c]⟩ p) (some 1) none) ++ Str.ofString ")"))
      rw [e]
      have h := sp_split hc (by lia) [[], [], numL p, []] (by simp) (by simp)
      rw [show joinL [c] [[], [], numL p, []] = [c, c] ++ numL p ++ [c] by simp [joinL]] at h
      exact proto_of (n := 4) (by decide) (by decide) _ ([c] ++ numL p ++ [c]) ([c, c] ++ numL p) rfl rfl (hb41 _ (fun x hx => by
        simp only [List.mem_append, List.mem_cons, List.not_mem_nil, or_false] at hx
        rcases hx with (h | h) | h
        · exact .inl (by lia)
        · exact .inr (.inl h)
        · exact .inl h)) (by simp; lia) (by rw [h]; rfl)
    | 6, _, _ =>
      refine ⟨_, rfl, ?_⟩
      have e : (((Str.ofString "229 (" ++ (⟨#[c]⟩ : Str)) ++ refBody ⟨#[c]⟩ p) ++ Str.ofString ")") = ⟨(shp ([c, c, c, c] ++ numL p ++ [c]) []).toArray⟩ := of_list (by rw [app_list, app_list, app_list, body_list, tx1, tx2]; simp [shp, bodyL])
      refine (?_ : ParseProto (((Str.ofString "229 (" ++ (⟨#[c]⟩ : Str)) ++ refBody ⟨#[c]⟩ p) ++ Str.ofString ")"))
      rw [e]
      have h := sp_split hc (by lia) [[], [], [], [], numL p, []] (by simp) (by simp)
      rw [show joinL [c] [[], [], [], [], numL p, []] = [c, c, c, c] ++ numL p ++ [c] by simp [joinL]] at h
      exact proto_of (n := 6) (by decide) (by decide) _ ([c, c, c] ++ numL p ++ [c]) ([c, c, c, c] ++ numL p) rfl rfl (hb41 _ (fun x hx => by
        simp only [List.mem_append, List.mem_cons, List.not_mem_nil, or_false] at hx
        rcases hx with (h | h) | h
        · exact .inl (by lia)
        · exact .inr (.inl h)
        · exact .inl h)) (by simp; lia) (by rw [h]; rfl)
  · match k, h7, h9 with
    | 7, _, _ =>
      refine ⟨_, rfl, ?_⟩
      have e : ((Str.ofString "229 (" ++ rep ⟨#[c]⟩ 4) ++ Str.ofString ")") = ⟨(shp ([c, c, c] ++ [] ++ [c]) []).toArray⟩ := of_list (by rw [app_list, app_list, rep4_list, tx1, tx2]; rfl)
      refine (?_ : ParseVE ((Str.ofString "229 (" ++ rep ⟨#[c]⟩ 4) ++ Str.ofString ")"))
      rw [e]
      exact ve_of (by simp) (by lia) (by lia) (by simp) (by simp) bad_nil
    | 8, _, _ =>
      refine ⟨_, rfl, ?_⟩
      have e : ((((Str.ofString "229 (" ++ rep ⟨#[c]⟩ 3) ++ Str.ofString "x") ++ (⟨#[c]⟩ : Str)) ++ Str.ofString ")") = ⟨(shp ([c, c, c] ++ [120] ++ [c]) []).toArray⟩ := of_list (by rw [app_list, app_list, app_list, app_list, rep_list, tx1, tx2, show (Str.ofString "x").cps.toList = [120] by decide +kernel]; rfl)
      refine (?_ : ParseVE ((((Str.ofString "229 (" ++ rep ⟨#[c]⟩ 3) ++ Str.ofString "x") ++ (⟨#[c]⟩ : Str)) ++ Str.ofString ")"))
      rw [e]
      exact ve_of (by simp; lia) (by lia) (by lia) (by simp) (by simp) bad_x
theorem refAll (S : List Int) : RefAll S where
  ok := refOk _ (due_small S _)
  small := by have := due_small S ((d6 S).fmod 6).toNat; unfold dueAt6; lia
  len := by have := numS_len_le (due_small S ((d6 S).fmod 6).toNat); unfold dueAt6; lia
theorem cw02 : PySem.Challenge.rw_wb0027_02.Holds := top02 fun S hS => ⟨law2_of S (by lia) (dueOk S) fun x h0 hs => wordOk h0 hs, refAll S⟩
end Mine
end
theorem PySem.Challenge.cw_wb0027_02_holds : PySem.Challenge.rw_wb0027_02.Holds :=
  Mine.cw02
