import PyProof.Rows.All
import Wide.All
import OpenK.AllK
import Wide.FinOn
import PyProof.SetKind
import PyProof.SetRoads
import PyProof.CollectIter
import PyProof.DictWalks
import PyProof.Rows.SortWalk
import PyProof.ExcStrAll.Exception
import PyProof.ExcStrAll.ValueError
import PyProof.ExcArgsOwn
import PyProof.CallStr
import PyProof.ListTruth
import PyProof.StrLawsFirst
import PyProof.StrBlockL
import PyProof.Rows.StrNews2
import KE.KIntText
import KE.IntTextLaws
import KE.KNestM
import Lean
import PySem.Challenge.RW_wb0027_01
set_option Elab.async false
set_option linter.all false
section
open PySem PySem.Calls PyProof.Rows PySem.W
namespace Mine
theorem pj {α : Type} {x : α} {P : α -> Prop} (h1 : P x) : ∀ b ∈ [x], P b := fun b hb => by
 cases List.mem_singleton.mp hb; exact h1
theorem bw {α : Type} {x : α} {l : List α} {P : α -> Prop} (h1 : P x) (h : ∀ b ∈ l, P b) : ∀ b ∈ x :: l, P b := fun b hb => by
 rcases List.mem_cons.mp hb with rfl | hb
 ·exact h1
 ·exact h b hb
theorem ng {α : Type} {x y : α} {P : α -> Prop} (h1 : P x) (h2 : P y) : ∀ b ∈ [x, y], P b := bw h1 (pj h2)
theorem Ms {α : Type} {x y z : α} {P : α -> Prop} (h1 : P x) (h2 : P y) (h3 : P z) : ∀ b ∈ [x, y, z], P b := bw h1 (ng h2 h3)
theorem byC {p : Prop} (h : (p -> False) -> False) : p := Classical.byContradiction h
noncomputable abbrev D := PyData
noncomputable abbrev Kp := Addr -> Option Obj
noncomputable def Kle (κ κ' : Kp) : Prop := ∀ b o, κ b = some o -> κ' b = some o
theorem Kle.refl (κ : Kp) : Kle κ κ := fun _ _ e => e
theorem Kle.trans {a b c : Kp} (x : Kle a b) (y : Kle b c) : Kle a c := fun _ _ e => y _ _ (x _ _ e)
mutual
noncomputable def R (κ : Kp) : D -> Value -> Prop
 | .none, v => v = .none
 | .bool b, v => v = .bool b
 | .int i, v => ∃ t, v = .int i t
 | .str x, v => ∃ t, v = .str x t
 | .list l, v => ∃ a o vs n, v = .ref a /\ κ a = some o /\ o.cls = .type "list" /\ o.dict = .none /\ o.data = .seq vs n /\ RL κ l vs.toList
 | .tuple l, v => ∃ a o vs n, v = .ref a /\ κ a = some o /\ o.cls = .type "tuple" /\ o.dict = .none /\ o.data = .seq vs n /\ RL κ l vs.toList
 | .dict _, _ => False
noncomputable def RL (κ : Kp) : List D -> List Value -> Prop
 | [], vs => vs = []
 | d :: ds, vs => ∃ v r, vs = v :: r /\ R κ d v /\ RL κ ds r
end
mutual
theorem R.mono {κ κ' : Kp} (k : Kle κ κ') : ∀ {d : D} {v : Value}, R κ d v -> R κ' d v
 | .none, _, h => h
 | .bool _, _, h => h
 | .int _, _, h => h
 | .str _, _, h => h
 | .list _, _, h => by
  simp only [R] at h ⊢
  refine byC fun hC1 => ?_
  obtain ⟨a, o, vs, n, h1, h2, h3, h4, h5, h6⟩ := h
  refine hC1 ?_
  exact ⟨a, o, vs, n, h1, k _ _ h2, h3, h4, h5, RL.mono k h6⟩
 | .tuple _, _, h => by
  simp only [R] at h ⊢
  refine byC fun hC2 => ?_
  obtain ⟨a, o, vs, n, h1, h2, h3, h4, h5, h6⟩ := h
  refine hC2 ?_
  exact ⟨a, o, vs, n, h1, k _ _ h2, h3, h4, h5, RL.mono k h6⟩
 | .dict _, _, h => h.elim
theorem RL.mono {κ κ' : Kp} (k : Kle κ κ') : ∀ {d : List D} {v : List Value}, RL κ d v -> RL κ' d v
 | [], _, h => h
 | _ :: _, _, h => by
  simp only [RL] at h ⊢
  refine byC fun hC1 => ?_
  obtain ⟨v, r, h1, h2, h3⟩ := h
  refine hC1 ?_
  exact ⟨v, r, h1, R.mono k h2, RL.mono k h3⟩
end
theorem RL.length {κ : Kp} : ∀ {ds : List D} {vs : List Value}, RL κ ds vs -> vs.length = ds.length
 | [], _, h => by cases h; rfl
 | _ :: _, _, h => by
  simp only [RL] at h
  obtain ⟨v, r, rfl, _, h3⟩ := h
  simp [RL.length h3]
theorem RL.get {κ : Kp} : ∀ {ds : List D} {vs : List Value}, RL κ ds vs -> ∀ {i : Nat} {d : D}, ds[i]? = some d -> ∃ v, vs[i]? = some v /\ R κ d v
 | [], _, _, _, _, e => by simp at e
 | d :: ds, vs, h, i, x, e => by
  simp only [RL] at h
  obtain ⟨v, r, rfl, h2, h3⟩ := h
  cases i with
  | zero => simp at e; subst e; exact ⟨v, by simp, h2⟩
  | succ i => simp at e ⊢; exact RL.get h3 e
theorem RL.of_get {κ : Kp} : ∀ {ds : List D} {vs : List Value}, vs.length = ds.length -> (∀ (i : Nat) (d : D), ds[i]? = some d -> ∃ v, vs[i]? = some v /\ R κ d v) -> RL κ ds vs
 | [], vs, hl, _ => by cases vs with | nil => rfl | cons => simp at hl
 | d :: ds, vs, hl, h => by
  cases vs with
  | nil => simp at hl
  | cons v r =>
   simp only [RL]
   refine ⟨v, r, rfl, ?_, RL.of_get (by simpa using hl) fun i x e => ?_⟩
   ·obtain ⟨v', e, h'⟩ := h 0 d (by simp); simp at e; subst e; exact h'
   ·have := h (i + 1) x (by simpa using e); simpa using this
theorem RL.append {κ : Kp} : ∀ {ds es : List D} {vs us : List Value}, RL κ ds vs -> RL κ es us -> RL κ (ds ++ es) (vs ++ us)
 | [], _, _, _, h, k => by cases h; exact k
 | d :: ds, es, vs, us, h, k => by
  simp only [RL] at h
  obtain ⟨v, r, rfl, h2, h3⟩ := h
  simp only [List.cons_append, RL]
  exact ⟨v, r ++ us, rfl, h2, RL.append h3 k⟩
theorem G6 {α : Type} {l : List α} (h : l.length = 1) : ∃ a, l = [a] := List.length_eq_one_iff.mp h
theorem wo {α : Type} {l : List α} (h : l.length = 2) : ∃ a b, l = [a, b] := by
 obtain ⟨a, r, rfl⟩ := List.exists_cons_of_length_eq_add_one h
 obtain ⟨b, rfl⟩ := G6 (Nat.succ.inj h)
 exact ⟨a, b, rfl⟩
theorem K6 {α : Type} {l : List α} (h : l.length = 3) : ∃ a b c, l = [a, b, c] := by
 obtain ⟨a, r, rfl⟩ := List.exists_cons_of_length_eq_add_one h
 obtain ⟨b, c, rfl⟩ := wo (Nat.succ.inj h)
 exact ⟨a, b, c, rfl⟩
inductive AV where
 | d (x : D) | obj (i : Nat) | glob (v : Value)
inductive ac where
 | ns (names : List Str) (vars : List (Option AV))
 | cell (a : Option AV)
 | list (l : List AV)
 | frz (d : D)
 | raw (P : Obj -> Prop)
noncomputable def RV (κ : Kp) (σ : List Addr) : AV -> Value -> Prop
 | .d x, v => R κ x v
 | .obj i, v => ∃ a, σ[i]? = some a /\ v = .ref a
 | .glob w, v => v = w
theorem cx {α : Type} {l l' : List α} (h : l <+: l') {i : Nat} {a : α} (e : l[i]? = some a) : l'[i]? = some a := by
 obtain ⟨r, rfl⟩ := h
 rw [List.getElem?_append_left]
 ·exact e
 ·by_cases q : i < l.length
  ·exact q
  ·rw [List.getElem?_eq_none (by lia)] at e; cases e
theorem RV.mono {κ κ' : Kp} {σ σ' : List Addr} (k : Kle κ κ') (p : σ <+: σ') {a : AV} {v : Value} (h : RV κ σ a v) : RV κ' σ' a v := by
 cases a with
 | d x => exact R.mono k h
 | obj i => obtain ⟨a, h1, h2⟩ := h; exact ⟨a, cx p h1, h2⟩
 | glob w => exact h
noncomputable def RVL (κ : Kp) (σ : List Addr) (as : List AV) (vs : List Value) : Prop := vs.length = as.length /\ ∀ (i : Nat) (a : AV), as[i]? = some a -> ∃ v, vs[i]? = some v /\ RV κ σ a v
theorem RVL.mono {κ κ' : Kp} {σ σ' : List Addr} (k : Kle κ κ') (p : σ <+: σ') {a : List AV} {v : List Value} (h : RVL κ σ a v) : RVL κ' σ' a v :=
 ⟨h.1, fun i x e => let ⟨v, h1, h2⟩ := h.2 i x e; ⟨v, h1, h2.mono k p⟩⟩
theorem RVL.toD {κ : Kp} {σ : List Addr} {ds : List D} {vs : List Value} (h : RVL κ σ (ds.map .d) vs) : RL κ ds vs :=
 RL.of_get (by simpa using h.1) fun i d e => h.2 i (.d d) (by simp [e])
theorem RVL.ofD {κ : Kp} {σ : List Addr} {ds : List D} {vs : List Value} (h : RL κ ds vs) : RVL κ σ (ds.map .d) vs :=
 ⟨by simpa using h.length, fun i a e => by
  rw [List.getElem?_map] at e
  cases q : ds[i]? with
  | none => rw [q] at e; cases e
  | some d => rw [q] at e; cases e; exact h.get q⟩
theorem RVL.nil {κ : Kp} {σ : List Addr} : RVL κ σ [] [] := ⟨rfl, fun _ _ e => by simp at e⟩
theorem RVL.cons {κ : Kp} {σ : List Addr} {a : AV} {v : Value} {as : List AV} {vs : List Value} (h : RV κ σ a v) (k : RVL κ σ as vs) : RVL κ σ (a :: as) (v :: vs) :=
 ⟨by simp [k.1], fun i x e => by cases i with | zero => simp at e; subst e; exact ⟨v, by simp, h⟩ | succ i => simp at e ⊢; exact k.2 i x e⟩
theorem RVL.snoc {κ : Kp} {σ : List Addr} {a : AV} {v : Value} {as : List AV} {vs : List Value} (k : RVL κ σ as vs) (h : RV κ σ a v) : RVL κ σ (as ++ [a]) (vs ++ [v]) :=
 ⟨by simp [k.1], fun i x e => by
  rcases Nat.lt_trichotomy i as.length with q | q | q
  ·rw [List.getElem?_append_left q] at e
   refine byC fun hC1 => ?_
   obtain ⟨u, h1, h2⟩ := k.2 i x e
   refine hC1 ?_
   exact ⟨u, by rw [List.getElem?_append_left (by rw [k.1]; exact q)]; exact h1, h2⟩
  ·subst q; simp at e; subst e; exact ⟨v, by rw [<- k.1]; simp, h⟩
  ·rw [List.getElem?_eq_none (by simp; lia)] at e; cases e⟩
inductive NsO (o : Obj) (m : Str -> Option Value) : Prop
 | mk (es : _) (ep : _) (h1 : o.data = .dict es ep) (h2 : StrKeys es) (h3 : ∀ name, nsFind es name = m name)
noncomputable def RO (κ : Kp) (σ : List Addr) : ac -> Obj -> Prop
 | .ns names vars, o => names.Nodup /\ ∃ m, NsO o m /\ ∀ (i : Nat) (x : Str) (a : AV), names[i]? = some x -> vars[i]? = some (some a) -> ∃ v, m x = some v /\ RV κ σ a v
 | .cell .none, o => ∃ v, o.data = .cell v
 | .cell (some a), o => ∃ v, o.data = .cell (some v) /\ RV κ σ a v
 | .list l, o => ∃ vs n, o = { cls := .type "list", data := .seq vs n } /\ RVL κ σ l vs.toList
 | .frz _, _ => True
 | .raw P, o => P o
theorem RO.mono {κ κ' : Kp} {σ σ' : List Addr} (k : Kle κ κ') (p : σ <+: σ') {x : ac} {o : Obj} (h : RO κ σ x o) : RO κ' σ' x o := by
 cases x with
 | ns names vars => obtain ⟨h1, m, h2, h3⟩ := h; exact ⟨h1, m, h2, fun i x a e e' => let ⟨v, q, r⟩ := h3 i x a e e'; ⟨v, q, r.mono k p⟩⟩
 | cell a => cases a with
  | none => exact h
  | some a => obtain ⟨v, h1, h2⟩ := h; exact ⟨v, h1, h2.mono k p⟩
 | list l => obtain ⟨vs, n, h3, h4⟩ := h; exact ⟨vs, n, h3, h4.mono k p⟩
 | frz d => trivial
 | raw P => exact h
structure Cx where
 prog : Program
 w : World
 P0 : Kp
 tabs : List Addr
 tq : Pos -> Str
 os : OsState
noncomputable def oq (κ : Kp) (cv : Value) (q : Str) : Prop := ∃ c o vs t, cv = .ref c /\ κ c = some o /\ o.data = .fields vs /\ vs[1]? = some (.str q t)
theorem oq.mono {κ κ' : Kp} {cv : Value} {q : Str} (k : Kle κ κ') (x : oq κ cv q) : oq κ' cv q := let ⟨c, o, vs, t, h1, h2, h3⟩ := x; ⟨c, o, vs, t, h1, k _ _ h2, h3⟩
theorem oq.rec {κ : Kp} {cv : Value} {q : Str} {h : Heap} (x : oq κ cv q) (k : ∀ b o, κ b = some o -> h.get? b = some o) : h.CodeRec cv q := let ⟨c, o, vs, t, h1, h2, h3⟩ := x; ⟨c, o, vs, t, h1, k _ _ h2, h3⟩
noncomputable def ub (C : Cx) (κ : Kp) (h : Heap) (P : Addr) : Prop := ∃ ps, h.get? P = some (tabObj ps) /\ TriplesOk ps.toList /\ ∀ pos cv, codeAmong pos ps.toList = some cv -> oq κ cv (C.tq pos)
theorem ub.keeps {C : Cx} {κ κ' : Kp} {h h' : Heap} {P : Addr} (x : ub C κ h P) (k : Kle κ κ') (hk : ∀ o, h.get? P = some o -> h'.get? P = some o) : ub C κ' h' P :=
 let ⟨ps, h1, h2, h3⟩ := x; ⟨ps, hk _ h1, h2, fun pos cv e => (h3 pos cv e).mono k⟩
noncomputable def ac.live : ac -> Prop
 | .frz _ => False
 | _ => True
inductive Hr (φ κ : Kp) (σ : List Addr) (s : Shared) (a : Addr) (x : ac) : Prop
 | frz (d : D) (hx : x = .frz d) (r : R κ d (.ref a)) (hs : (κ a).isSome)
 | own (hl : x.live) (h1 : κ a = none) (h2 : φ a = none) (o : Obj) (h3 : s.heap.get? a = some o) (h4 : RO κ σ x o)
theorem bq {α : Type} {x : Option α} {o : α} {p : Prop} (h1 : x = none) (h2 : x = some o) : p := by rw [h1] at h2; cases h2
theorem bz {α : Type} {x : Option α} (h : ∀ o, x = some o -> False) : x = none := by
 cases x with
 | none => rfl
 | some o => exact (h o rfl).elim
theorem Gl {κ κ' : Kp} (k : Kle κ κ') {a : Addr} (h : (κ a).isSome) : (κ' a).isSome := by
 obtain ⟨o, e⟩ := Option.isSome_iff_exists.mp h; rw [k _ _ e]; rfl
theorem Hr.map {φ κ φ' κ' : Kp} {σ σ' : List Addr} {s s' : Shared} {a : Addr} {x : ac} (h : Hr φ κ σ s a x) (k : Kle κ κ') (p : σ <+: σ') (f : κ a = none -> φ a = none -> ∀ o, s.heap.get? a = some o -> κ' a = none /\ φ' a = none /\ s'.heap.get? a = some o) : Hr φ' κ' σ' s' a x := by
 cases h with
 | frz d hx r hs => exact .frz d hx (r.mono k) (Gl k hs)
 | own hl h1 h2 o h3 h4 => have q := f h1 h2 o h3; exact .own hl q.1 q.2.1 o q.2.2 (h4.mono k p)
structure Rel (C : Cx) (φ κ₀ κ : Kp) (σ : List Addr) (st : List ac) (s : Shared) : Prop where
 prog : Kle C.P0 κ
 k0 : Kle κ₀ κ
 new : ∀ b o, κ b = some o -> κ₀ b = some o ∨ φ b = none
 keep : ∀ b o, κ b = some o -> s.heap.get? b = some o
 phi : ∀ b o, φ b = some o -> s.heap.get? b = some o
 len : σ.length = st.length
 nd : σ.Nodup
 own : ∀ (i : Nat) (a : Addr) (x : ac), σ[i]? = some a -> st[i]? = some x -> Hr φ κ σ s a x
 tabs : ∀ P ∈ C.tabs, ub C κ s.heap P /\ φ P = none /\ κ P = none /\ P ∉ σ
 gens : s.gens = #[]
 os : s.os = C.os
section
variable {C : Cx} {φ κ₀ κ : Kp} {σ : List Addr} {st : List ac} {s : Shared}
theorem Rel.at (X : Rel C φ κ₀ κ σ st s) {i : Nat} {x : ac} (e : st[i]? = some x) : ∃ a, σ[i]? = some a := by
 by_cases q : i < st.length
 ·exact ⟨σ[i]'(by rw [X.len]; exact q), by simp⟩
 ·exact bq (List.getElem?_eq_none (by lia)) e
theorem Hr.none {a : Addr} {x : ac} (h : Hr φ κ σ s a x) (hx : x.live) : κ a = none /\ φ a = none := by
 cases h with
 | frz d e => rw [e] at hx; exact hx.elim
 | own _ h1 h2 => exact ⟨h1, h2⟩
inductive Got (φ κ : Kp) (σ : List Addr) (s : Shared) (i : Nat) (x : ac) : Prop
 | mk (a : Addr) (o : Obj) (h1 : σ[i]? = some a) (h2 : κ a = none) (h3 : φ a = none) (h4 : s.heap.get? a = some o) (h5 : RO κ σ x o)
theorem Rel.get (X : Rel C φ κ₀ κ σ st s) {i : Nat} {x : ac} (e : st[i]? = some x) (hx : x.live) : Got φ κ σ s i x := by
 obtain ⟨a, ha⟩ := X.at e
 rcases X.own i a x ha e with ⟨d, hd, _, _⟩ | ⟨_, h1, h2, o, h3, h4⟩
 ·rw [hd] at hx; exact hx.elim
 ·exact ⟨a, o, ha, h1, h2, h3, h4⟩
theorem Rel.mem (X : Rel C φ κ₀ κ σ st s) {a : Addr} (hm : a ∈ σ) {P : Prop} (f : ∀ o, κ a = some o -> P) (g : κ a = none -> φ a = none -> ∀ o, s.heap.get? a = some o -> P) : P := by
 obtain ⟨i, hi, e⟩ := List.getElem_of_mem hm
 rcases X.own i a _ (by rw [List.getElem?_eq_getElem hi, e]) (List.getElem?_eq_getElem (X.len ▸ hi)) with ⟨_, _, _, hs⟩ | ⟨_, h1, h2, o, h3, _⟩
 ·obtain ⟨o, e⟩ := Option.isSome_iff_exists.mp hs; exact f o e
 ·exact g h1 h2 o h3
theorem Rel.frz (X : Rel C φ κ₀ κ σ st s) {i : Nat} {d : D} (e : st[i]? = some (.frz d)) : ∃ a, σ[i]? = some a /\ R κ d (.ref a) := by
 obtain ⟨a, ha⟩ := X.at e
 rcases X.own i a _ ha e with ⟨d', hd, r, _⟩ | ⟨hl, _⟩
 ·cases hd; exact ⟨a, ha, r⟩
 ·exact hl.elim
theorem Rel.toks (X : Rel C φ κ₀ κ σ st s) (t : Tok) (d : Drawn) : Rel C φ κ₀ κ σ st { s with toks := t, drawn := d } :=
 ⟨X.prog, X.k0, X.new, X.keep, X.phi, X.len, X.nd, fun i a x e1 e2 => (X.own i a x e1 e2).map (Kle.refl _) (List.prefix_refl _) fun h1 h2 _ h3 => ⟨h1, h2, h3⟩, X.tabs, X.gens, X.os⟩
theorem Rel.keeps (X : Rel C φ κ₀ κ σ st s) {s' : Shared} (hk : ∀ b o, s.heap.get? b = some o -> s'.heap.get? b = some o) (hg : s'.gens = s.gens) (ho : s'.os = s.os) : Rel C φ κ₀ κ σ st s' := by
 refine ⟨X.prog, X.k0, X.new, fun b o e => hk _ _ (X.keep b o e), fun b o e => hk _ _ (X.phi b o e), X.len, X.nd, fun i a x e1 e2 => ?_, fun P hP => ?_, hg.trans X.gens, ho.trans X.os⟩
 ·exact (X.own i a x e1 e2).map (Kle.refl _) (List.prefix_refl _) fun h1 h2 o h3 => ⟨h1, h2, hk _ _ h3⟩
 ·refine byC fun hC1 => ?_
  obtain ⟨h1, h2⟩ := X.tabs P hP
  refine hC1 ?_
  exact ⟨h1.keeps (Kle.refl _) (hk _), h2⟩
theorem Rel.alloc (X : Rel C φ κ₀ κ σ st s) {s' : Shared} {a : Addr} {o : Obj} {x : ac} (hn : s.heap.get? a = none) (hk : ∀ b o, s.heap.get? b = some o -> s'.heap.get? b = some o) (ha : s'.heap.get? a = some o)
  (hg : s'.gens = s.gens) (ho : s'.os = s.os) (hr : RO κ (σ ++ [a]) x o) (hx : x.live) : Rel C φ κ₀ κ (σ ++ [a]) (st ++ [x]) s' := by
 have Y := X.keeps hk hg ho
 have hp : σ <+: σ ++ [a] := List.prefix_append ..
 have hκ : κ a = none := bz fun o' e => bq hn (X.keep _ _ e)
 have hφ : φ a = none := bz fun o' e => bq hn (X.phi _ _ e)
 have hσ : a ∉ σ := fun hm => X.mem hm (fun o e => bq hκ e) fun _ _ o e => bq hn e
 refine ⟨X.prog, X.k0, X.new, Y.keep, Y.phi, by simp [X.len], ?_, fun i b y e1 e2 => ?_, fun P hP => ?_, Y.gens, Y.os⟩
 ·rw [List.nodup_append]
  exact ⟨X.nd, by simp, fun b hb c hc => by simp at hc; subst hc; exact fun e => hσ (e ▸ hb)⟩
 ·rcases Nat.lt_trichotomy i st.length with q | q | q
  ·rw [List.getElem?_append_left (by rw [X.len]; exact q)] at e1
   rw [List.getElem?_append_left q] at e2
   exact (Y.own i b y e1 e2).map (Kle.refl _) hp fun h1 h2 o h3 => ⟨h1, h2, h3⟩
  ·subst q
   rw [<- X.len] at e1
   simp at e1 e2
   subst e1; subst e2
   exact .own hx hκ hφ o ha hr
  ·exact bq (List.getElem?_eq_none (by simp; lia)) e2
 ·obtain ⟨h1, h2, h3, h4⟩ := Y.tabs P hP
  refine ⟨h1, h2, h3, fun hm => ?_⟩
  rcases List.mem_append.mp hm with hm | hm
  ·exact h4 hm
  ·simp at hm
   subst hm
   obtain ⟨⟨ps, e, _⟩, _⟩ := X.tabs P hP
   exact bq hn e
theorem Rel.upd (X : Rel C φ κ₀ κ σ st s) {s' : Shared} {i : Nat} {a : Addr} {o : Obj} {x y : ac} (ei : st[i]? = some x) (hx : x.live) (ea : σ[i]? = some a) (hs : ∀ b o, b ≠ a -> s.heap.get? b = some o -> s'.heap.get? b = some o) (ha : s'.heap.get? a = some o)
  (hg : s'.gens = s.gens) (ho : s'.os = s.os) (hr : RO κ σ y o) (hy : y.live) : Rel C φ κ₀ κ σ (st.set i y) s' := by
 obtain ⟨a', o', ea', hκ, hφ, hh, _⟩ := X.get ei hx
 rw [ea] at ea'; cases ea'
 have hkn : ∀ b o, κ b = some o -> b ≠ a := fun b o e q => by rw [q, hκ] at e; cases e
 have hil : i < st.length := by
  by_cases q : i < st.length
  ·exact q
  ·exact bq (List.getElem?_eq_none (by lia)) ei
 refine ⟨X.prog, X.k0, X.new, fun b o e => hs b o (hkn b o e) (X.keep b o e), fun b o e => hs b o (fun q => by rw [q, hφ] at e; cases e) (X.phi b o e), by simp [X.len], X.nd, fun j b z e1 e2 => ?_, fun P hP => ?_, hg.trans X.gens, ho.trans X.os⟩
 ·by_cases hj : i = j
  ·subst hj
   rw [ea] at e1; cases e1
   rw [List.getElem?_set_self hil] at e2; cases e2
   exact .own hy hκ hφ o ha hr
  ·rw [List.getElem?_set_ne hj] at e2
   have hba : b ≠ a := fun q => by
    subst q
    have hi' : i < σ.length := by rw [X.len]; exact hil
    have hj' : j < σ.length := by
     by_cases q : j < σ.length
     ·exact q
     ·exact bq (List.getElem?_eq_none (by lia)) e1
    rw [List.getElem?_eq_getElem hi'] at ea
    rw [List.getElem?_eq_getElem hj'] at e1
    exact hj ((List.getElem_inj X.nd).mp ((Option.some.inj ea).trans (Option.some.inj e1).symm))
   exact (X.own j b z e1 e2).map (Kle.refl _) (List.prefix_refl _) fun h1 h2 o h3 => ⟨h1, h2, hs b _ hba h3⟩
 ·obtain ⟨h1, h2, h3, h4⟩ := X.tabs P hP
  have hPa : P ≠ a := fun q => h4 (q ▸ List.mem_of_getElem? ea)
  exact ⟨h1.keeps (Kle.refl _) fun o e => hs P o hPa e, h2, h3, h4⟩
end
end Mine
end
section
open PySem PySem.Calls PyProof.Rows PySem.W
namespace Mine
structure a9 where
 scope : Scope
 L : Nat
 cells : List (Str × Nat)
 code : Value
 qual : Str
structure ew (sc : Scope) : Prop where
 kind : sc.kind = .function
 nd : (sc.names.map (·.1)).Nodup
 nodebug : ∀ p ∈ sc.names, (p.1 == ("__debug__" : Str)) = false /\ (p.1 == ("__classdict__" : Str)) = false
noncomputable def ef (sc : Scope) : Bool := !(sc.names.any fun p => p.2 == .free)
structure cy (ae : a9) (σ : List Addr) (env : Env) : Prop where
 scope : env.scope = ae.scope
 loc : σ[ae.L]? = some env.locals
 cnames : env.cells.map (·.1) = ae.cells.map (·.1)
 cnd : (ae.cells.map (·.1)).Nodup
 cells : ∀ (j : Nat) (x : Str) (i : Nat), ae.cells[j]? = some (x, i) -> ∃ c, env.cells[j]? = some (x, c) /\ σ[i]? = some c
 code : env.code = ae.code
 qual : env.qual = ae.qual
 globals : env.globals = mainGlobals
 builtins : env.builtins = builtinsNs
 ok : ew ae.scope
 frame : ef ae.scope = true -> ∃ L, env.frame = some L /\ σ[0]? = some L
theorem cy.mono {ae : a9} {σ σ' : List Addr} {env : Env} (p : σ <+: σ') (x : cy ae σ env) : cy ae σ' env :=
 ⟨x.scope, cx p x.loc, x.cnames, x.cnd, fun j y i e => let ⟨c, h1, h2⟩ := x.cells j y i e; ⟨c, h1, cx p h2⟩, x.code, x.qual, x.globals, x.builtins, x.ok, fun h => let ⟨L, h1, h2⟩ := x.frame h; ⟨L, h1, cx p h2⟩⟩
structure Gd where
 φ : Kp
 κ₀ : Kp
 env : Env
 E : Value -> Shared -> Prop
structure AOk (A : Around) (n : Nat) : Prop where
 handled : A.handled = none
 depth : A.depth + n <= 690
 units : A.units + 20 * n <= 9000
inductive PA {α β : Type} (rel : Kp -> List Addr -> β -> α -> Prop) (C : Cx) (φ κ₀ κ : Kp) (σ : List Addr) (Q : β -> List ac -> Prop) (v : α) (s' : Shared) : Prop where
 | mk (κ' : Kp) (σ' : List Addr) (b : β) (st' : List ac) (k : Kle κ κ') (p : σ <+: σ') (X : Rel C φ κ₀ κ' σ' st' s') (r : rel κ' σ' b v) (q : Q b st') : PA rel C φ κ₀ κ σ Q v s'
theorem PA.go {α β : Type} {rel : Kp -> List Addr -> β -> α -> Prop} {φ κ₀ κ : Kp} {σ : List Addr} {Q : β -> List ac -> Prop} {v : α} {s : Shared} {P : Prop}
  (h : PA rel C φ κ₀ κ σ Q v s) (k : ∀ κ' σ' b st', Kle κ κ' -> σ <+: σ' -> Rel C φ κ₀ κ' σ' st' s -> rel κ' σ' b v -> Q b st' -> P) : P := by
 obtain ⟨κ', σ', b, st', k1, p1, X', r, q⟩ := h
 exact k κ' σ' b st' k1 p1 X' r q
noncomputable def W {α β : Type} (rel : Kp -> List Addr -> β -> α -> Prop) (C : Cx) (A : Around) (G : Gd) (ae : a9) (st : List ac) (t : Sem α) (Q : β -> List ac -> Prop) : Prop :=
 ∀ κ σ s, cy ae σ G.env -> Rel C G.φ G.κ₀ κ σ st s -> wpAny (model C.prog C.w) A t (PA rel C G.φ G.κ₀ κ σ Q) G.E s
section
variable {α β γ δ : Type} {rel : Kp -> List Addr -> β -> α -> Prop} {rel' : Kp -> List Addr -> δ -> γ -> Prop} {C : Cx} {A : Around} {G : Gd} {ae : a9} {st : List ac}
theorem PA.ret {φ κ₀ κ : Kp} {σ : List Addr} {Q : β -> List ac -> Prop} {v : α} {s : Shared} {b : β} (X : Rel C φ κ₀ κ σ st s) (r : rel κ σ b v) (q : Q b st) : PA rel C φ κ₀ κ σ Q v s :=
 ⟨κ, σ, b, st, Kle.refl _, List.prefix_refl _, X, r, q⟩
theorem PA.up {φ κ₀ κ κ' : Kp} {σ σ' : List Addr} {Q : β -> List ac -> Prop} {v : α} {s : Shared} (k : Kle κ κ') (p : σ <+: σ') (h : PA rel C φ κ₀ κ' σ' Q v s) : PA rel C φ κ₀ κ σ Q v s :=
 let ⟨κ2, σ2, b, st', k2, p2, X, r, q⟩ := h; ⟨κ2, σ2, b, st', k.trans k2, p.trans p2, X, r, q⟩
theorem W.mono {t : Sem α} {Q Q' : β -> List ac -> Prop} (h : W rel C A G ae st t Q) (hq : ∀ b st', Q b st' -> Q' b st') : W rel C A G ae st t Q' := fun κ σ s e X =>
 wpAny_mono (h κ σ s e X) (fun _ _ z => z.go fun κ' σ' b st' k1 p1 X' r q => ⟨κ', σ', b, st', k1, p1, X', r, hq _ _ q⟩) fun _ _ z => z
end
noncomputable abbrev wE (C : Cx) (A : Around) (G : Gd) (ae : a9) (st : List ac) (e : Expr) (Q : AV -> List ac -> Prop) : Prop := W RV C A G ae st (eval e G.env) Q
noncomputable def RB (_ : Kp) (_ : List Addr) (b : Bool) (v : Bool) : Prop := v = b
noncomputable abbrev wB (C : Cx) (A : Around) (G : Gd) (ae : a9) (st : List ac) (e : Expr) (Q : Bool -> List ac -> Prop) : Prop := W RB C A G ae st (isTrue e G.env (eval e G.env)) Q
inductive AF where
 | next | brk | cont | ret (a : AV)
noncomputable def RF (κ : Kp) (σ : List Addr) : AF -> Flow -> Prop
 | .next, f => f = .next
 | .brk, f => f = .brk
 | .cont, f => f = .cont
 | .ret a, f => ∃ v, f = .ret v /\ RV κ σ a v
noncomputable abbrev wS (C : Cx) (A : Around) (G : Gd) (ae : a9) (st : List ac) (x : Stmt) (Q : AF -> List ac -> Prop) : Prop := W RF C A G ae st (exec x G.env) Q
noncomputable abbrev wSs (C : Cx) (A : Around) (G : Gd) (ae : a9) (st : List ac) (x : List Stmt) (Q : AF -> List ac -> Prop) : Prop := W RF C A G ae st (execs x G.env) Q
section
variable {C : Cx} {A : Around} {G : Gd} {ae : a9} {st : List ac}
theorem kq {α : Type} : ∀ {l : List (Str × α)} {i : Nat} {x : Str} {k : α}, (l.map (·.1)).Nodup -> l[i]? = some (x, k) -> l.lookup x = some k
 | [], _, _, _, _, e => by simp at e
 | p :: l, 0, x, k, _, e => by simp at e; subst e; simp [List.lookup]
 | p :: l, i + 1, x, k, h, e => by
  simp only [List.map_cons, List.nodup_cons] at h
  simp at e
  have : p.1 ≠ x := fun q => h.1 (q ▸ List.mem_map_of_mem (f := (·.1)) (List.mem_of_getElem? e))
  rw [List.lookup_cons, beq_eq_false_iff_ne.mpr (Ne.symm this)]
  exact kq h.2 e
theorem cy.kindOf {σ : List Addr} {env : Env} (e : cy ae σ env) {i : Nat} {x : Str} {k : NameKind} (h : ae.scope.names[i]? = some (x, k)) : env.kindOf x = some k := by
 show env.scope.names.lookup x = some k
 rw [e.scope]
 exact kq e.ok.nd h
theorem cy.kind {σ : List Addr} {env : Env} (e : cy ae σ env) : env.scope.kind = .function := by rw [e.scope]; exact e.ok.kind
theorem cy.cell {σ : List Addr} {env : Env} (e : cy ae σ env) {j i : Nat} {x : Str} (h : ae.cells[j]? = some (x, i)) : ∃ c, env.cells.lookup x = some c /\ σ[i]? = some c := by
 obtain ⟨c, h1, h2⟩ := e.cells j x i h
 exact ⟨c, kq (by rw [e.cnames]; exact e.cnd) h1, h2⟩
theorem NsO.ns {h : Heap} {a : Addr} {o : Obj} {m : Str -> Option Value} (ho : h.get? a = some o) (x : NsO o m) : h.Ns a m := let ⟨es, ep, r1, r2, r3⟩ := x; ⟨o, es, ep, ho, r1, r2, r3⟩
theorem aa (i : Nat) {x : Str} {pos : Pos} {names : List Str} {vars : List (Option AV)} {a : AV} {Q : AV -> List ac -> Prop} (hk : ae.scope.names[i]? = some (x, .local))
  (hns : st[ae.L]? = some (.ns names vars)) (hn : names[i]? = some x) (hv : vars[i]? = some (some a)) (q : Q a st) : wE C A G ae st (.Name x pos) Q := fun κ σ s e X => by
 obtain ⟨L, o, hL, _, _, ho, _, m, hm, hr⟩ := X.get hns trivial
 obtain rfl := Option.some.inj (e.loc.symm.trans hL)
 obtain ⟨v, h1, h2⟩ := hr i x a hn hv
 refine wpAny_Name (wpAny_loadName_local e.kind (e.kindOf hk) (hm.ns ho) h1 (PA.ret X h2 q)) (e.ok.nodebug _ (List.mem_of_getElem? hk)).1
theorem aw (i j k : Nat) {x : Str} {pos : Pos} {a : AV} {Q : AV -> List ac -> Prop} (hk : ae.scope.names[i]? = some (x, .cell))
  (hc : ae.cells[j]? = some (x, k)) (ho : st[k]? = some (.cell (some a))) (q : Q a st) : wE C A G ae st (.Name x pos) Q := fun κ σ s e X => by
 obtain ⟨c, o, hL, _, _, ho, v, hd, hr⟩ := X.get ho trivial
 obtain ⟨c', h1, h2⟩ := e.cell hc
 obtain rfl := Option.some.inj (h2.symm.trans hL)
 exact wpAny_Name (wpAny_loadName_cell e.kind (e.kindOf hk) h1 ⟨o, ho, hd⟩ (PA.ret X hr q)) (e.ok.nodebug _ (List.mem_of_getElem? hk)).1
noncomputable def ag (C : Cx) (x : Str) (v : Value) : Prop := (∀ h : Heap, (∀ b o, C.P0 b = some o -> h.get? b = some o) -> (∃ mg, h.Ns mainGlobals mg /\ mg x = some v) ∨ (∃ mg mb, h.Ns mainGlobals mg /\ mg x = none /\ h.Ns builtinsNs mb /\ mb x = some v))
theorem Rel.p0 {φ κ₀ κ : Kp} {σ : List Addr} {s : Shared} (X : Rel C φ κ₀ κ σ st s) : ∀ b o, C.P0 b = some o -> s.heap.get? b = some o := fun b o e => X.keep _ _ (X.prog _ _ e)
theorem ao (i : Nat) {x : Str} {pos : Pos} {v : Value} {Q : AV -> List ac -> Prop} (g : ag C x v) (hk : ae.scope.names[i]? = some (x, .globalImplicit)) (q : Q (.glob v) st) : wE C A G ae st (.Name x pos) Q := fun κ σ s e X => by
 refine Name_function_global e.kind (e.kindOf hk) ?_ (e.ok.nodebug _ (List.mem_of_getElem? hk)).1
 rcases g s.heap X.p0 with ⟨mg, h1, h2⟩ | ⟨mg, mb, h1, h2, h3, h4⟩
 ·exact loadGlobal_global (by rw [e.globals]; exact h1) h2 (PA.ret (b := AV.glob v) X rfl q)
 ·exact loadGlobal_builtin (by rw [e.globals]; exact h1) h2 (by rw [e.builtins]; exact h3) h4 (PA.ret (b := AV.glob v) X rfl q)
theorem ai {i : Int} {k : Nat} {pos : Pos} {Q : AV -> List ac -> Prop} (q : Q (.d (.int i)) st) : wE C A G ae st (.Constant (.int i) k pos) Q := fun κ σ s e X =>
 wpAny_Constant_int (PA.ret (b := AV.d (.int i)) (X.toks (s.toks + 1) s.drawn) ⟨_, rfl⟩ q)
theorem az {i : Str} {k : Nat} {pos : Pos} {Q : AV -> List ac -> Prop} (q : Q (.d (.str i)) st) : wE C A G ae st (.Constant (.str i) k pos) Q := fun κ σ s e X =>
 Constant_str (PA.ret (b := AV.d (.str i)) (X.toks (s.toks + 1) s.drawn) ⟨_, rfl⟩ q)
theorem Lx {b : Bool} {k : Nat} {pos : Pos} {Q : AV -> List ac -> Prop} (q : Q (.d (.bool b)) st) : wE C A G ae st (.Constant (.bool b) k pos) Q := fun κ σ s e X =>
 wpAny_Constant_bool (PA.ret (b := AV.d (.bool b)) X rfl q)
theorem n7 {k : Nat} {pos : Pos} {Q : AV -> List ac -> Prop} (q : Q (.d .none) st) : wE C A G ae st (.Constant .none k pos) Q := fun κ σ s e X =>
 wpAny_Constant_none (PA.ret (b := AV.d .none) X rfl q)
noncomputable def od (C : Cx) (A : Around) (G : Gd) (st : List ac) (op : Operator) (a b : AV) (Q : AV -> List ac -> Prop) : Prop :=
 ∀ κ σ s va vb, Rel C G.φ G.κ₀ κ σ st s -> RV κ σ a va -> RV κ σ b vb -> wpAny (model C.prog C.w) A (binaryOp op va vb) (PA RV C G.φ G.κ₀ κ σ Q) G.E s
noncomputable def jb (C : Cx) (A : Around) (G : Gd) (st : List ac) (op : CmpOp) (a b : AV) (Q : AV -> List ac -> Prop) : Prop :=
 ∀ κ σ s va vb, Rel C G.φ G.κ₀ κ σ st s -> RV κ σ a va -> RV κ σ b vb -> wpAny (model C.prog C.w) A (compareOp op va vb) (PA RV C G.φ G.κ₀ κ σ Q) G.E s
noncomputable def wUn (C : Cx) (A : Around) (G : Gd) (st : List ac) (op : UnaryOp) (a : AV) (Q : AV -> List ac -> Prop) : Prop :=
 ∀ κ σ s va, Rel C G.φ G.κ₀ κ σ st s -> RV κ σ a va -> wpAny (model C.prog C.w) A (unaryOp op va) (PA RV C G.φ G.κ₀ κ σ Q) G.E s
noncomputable def wTr (C : Cx) (A : Around) (G : Gd) (st : List ac) (a : AV) (Q : Bool -> List ac -> Prop) : Prop :=
 ∀ κ σ s va, Rel C G.φ G.κ₀ κ σ st s -> RV κ σ a va -> wpAny (model C.prog C.w) A (truthy va) (PA RB C G.φ G.κ₀ κ σ Q) G.E s
theorem PA.wp {α β : Type} {rel : Kp -> List Addr -> β -> α -> Prop} {φ κ₀ κ κ' : Kp} {σ σ' : List Addr} {Q : β -> List ac -> Prop} {s : Shared} {M : Model} {E : Value -> Shared -> Prop} {t : Sem α} (k : Kle κ κ') (p : σ <+: σ')
  (h : wpAny M A t (PA rel C φ κ₀ κ' σ' Q) E s) : wpAny M A t (PA rel C φ κ₀ κ σ Q) E s := wpAny_mono h (fun _ _ z => z.up k p) fun _ _ z => z
theorem aj {l r : Expr} {op : Operator} {pos : Pos} {Q : AV -> List ac -> Prop}
  (h : wE C A G ae st l fun a st1 => wE C A G ae st1 r fun b st2 => od C A G st2 op a b Q) : wE C A G ae st (.BinOp l op r pos) Q := fun κ σ s e X =>
 wpAny_BinOp (wpAny_mono (h κ σ s e X) (fun va s1 z => z.go fun κ1 σ1 a st1 k1 p1 X1 r1 q1 =>
  wpAny_mono (q1 κ1 σ1 s1 (e.mono p1) X1) (fun vb s2 z => z.go fun κ2 σ2 b st2 k2 p2 X2 r2 q2 => PA.wp (k1.trans k2) (p1.trans p2) (q2 κ2 σ2 s2 va vb X2 (r1.mono k2 p2) r2)) fun _ _ z => z) fun _ _ z => z)
theorem F3 {x : Expr} {op : UnaryOp} {pos : Pos} {Q : AV -> List ac -> Prop} (h : wE C A G ae st x fun a st1 => wUn C A G st1 op a Q) : wE C A G ae st (.UnaryOp op x pos) Q := fun κ σ s e X =>
 wpAny_UnaryOp (wpAny_mono (h κ σ s e X) (fun va s1 z => z.go fun κ1 σ1 a st1 k1 p1 X1 r1 q1 => PA.wp k1 p1 (q1 κ1 σ1 s1 va X1 r1)) fun _ _ z => z)
theorem lq {l r : Expr} {op : CmpOp} {pos : Pos} {Q : AV -> List ac -> Prop} (hm : behindInMarks op r = false)
  (h : wE C A G ae st l fun a st1 => wE C A G ae st1 r fun b st2 => jb C A G st2 op a b Q) : wE C A G ae st (.Compare l [op] [r] pos) Q := fun κ σ s e X =>
 wpAny_Compare1 (wpAny_mono (h κ σ s e X) (fun va s1 z => z.go fun κ1 σ1 a st1 k1 p1 X1 r1 q1 =>
  wpAny_mono (q1 κ1 σ1 s1 (e.mono p1) X1) (fun vb s2 z => z.go fun κ2 σ2 b st2 k2 p2 X2 r2 q2 => PA.wp (k1.trans k2) (p1.trans p2) (q2 κ2 σ2 s2 va vb X2 (r1.mono k2 p2) r2)) fun _ _ z => z) fun _ _ z => z) hm
theorem a8 {l r : Expr} {op : CmpOp} {pos : Pos} {Q : Bool -> List ac -> Prop} (hm : behindInMarks op r = false)
  (h : wE C A G ae st l fun a st1 => wE C A G ae st1 r fun b st2 => jb C A G st2 op a b fun c st3 => wTr C A G st3 c Q) : wB C A G ae st (.Compare l [op] [r] pos) Q := fun κ σ s e X =>
 wpAny_isTrue_Compare1 (wpAny_mono (h κ σ s e X) (fun va s1 z => z.go fun κ1 σ1 a st1 k1 p1 X1 r1 q1 =>
  wpAny_mono (q1 κ1 σ1 s1 (e.mono p1) X1) (fun vb s2 z => z.go fun κ2 σ2 b st2 k2 p2 X2 r2 q2 =>
   wpAny_mono (q2 κ2 σ2 s2 va vb X2 (r1.mono k2 p2) r2) (fun vc s3 z => z.go fun κ3 σ3 c st3 k3 p3 X3 r3 q3 => PA.wp ((k1.trans k2).trans k3) ((p1.trans p2).trans p3) (q3 κ3 σ3 s3 vc X3 r3)) fun _ _ z => z) fun _ _ z => z) fun _ _ z => z) hm
theorem Kb {x : Expr} {pos : Pos} {Q : Bool -> List ac -> Prop} (h : wB C A G ae st x fun b st1 => Q (!b) st1) : wB C A G ae st (.UnaryOp .Not x pos) Q := fun κ σ s e X =>
 wpAny_isTrue_Not (wpAny_mono (h κ σ s e X) (fun b s1 z => z.go fun κ' σ' b' st' k1 p1 X' r q => ⟨κ', σ', !b', st', k1, p1, X', by cases r; rfl, q⟩) fun _ _ z => z)
theorem sv {x : Expr} {Q : Bool -> List ac -> Prop} (he : ∀ env whole, isTrue x env whole = (do let v ← whole; standAt x.pos; holding [v] (truthy v))) (h : wE C A G ae st x fun a st1 => wTr C A G st1 a Q) : wB C A G ae st x Q := fun κ σ s e X =>
 wpAny_isTrue_value (wpAny_mono (h κ σ s e X) (fun va s1 z => z.go fun κ1 σ1 a st1 k1 p1 X1 r1 q1 => PA.wp k1 p1 (q1 κ1 σ1 s1 va X1 r1)) fun _ _ z => z) (he _ _)
noncomputable def Kg (C : Cx) (A : Around) (G : Gd) (ae : a9) (st : List ac) (op : BoolOp) (vs : List Expr) (Q : Bool -> List ac -> Prop) : Prop := W RB C A G ae st (allTrue op vs G.env) Q
theorem rm {op : BoolOp} {vs : List Expr} {pos : Pos} {Q : Bool -> List ac -> Prop} (h : Kg C A G ae st op vs Q) : wB C A G ae st (.BoolOp op vs pos) Q := fun κ σ s e X => wpAny_isTrue_BoolOp (h κ σ s e X)
theorem i5 {Q : Bool -> List ac -> Prop} (q : Q false st) : Kg C A G ae st .Or [] Q := fun κ σ s e X => wpAny_allTrue_Or_nil (PA.ret (b := false) X rfl q)
theorem iw {x : Expr} {r : List Expr} {Q : Bool -> List ac -> Prop} (h : wB C A G ae st x fun b st1 => if b then Q true st1 else Kg C A G ae st1 .Or r Q) : Kg C A G ae st .Or (x :: r) Q := fun κ σ s e X =>
 wpAny_allTrue_Or_cons (wpAny_mono (h κ σ s e X) (fun b s1 z => z.go fun κ' σ' b' st' k1 p1 X' r q => by
  cases (r : b = b')
  cases b with
  | true => exact ⟨κ', σ', true, st', k1, p1, X', rfl, q⟩
  | false => exact wpAny_mono (q κ' σ' s1 (e.mono p1) X') (fun _ _ z => z.up k1 p1) fun _ _ z => z) fun _ _ z => z)
theorem Nk {t b o : Expr} {pos : Pos} {Q : AV -> List ac -> Prop} (h : wB C A G ae st t fun c st1 => if c then wE C A G ae st1 b Q else wE C A G ae st1 o Q) : wE C A G ae st (.IfExp t b o pos) Q := fun κ σ s e X =>
 wpAny_IfExp (wpAny_mono (h κ σ s e X) (fun c s1 z => z.go fun κ' σ' c' st' k1 p1 X' r q => by
  cases (r : c = c')
  cases c with
  | true => exact wpAny_mono (q κ' σ' s1 (e.mono p1) X') (fun _ _ z => z.up k1 p1) fun _ _ z => z
  | false => exact wpAny_mono (q κ' σ' s1 (e.mono p1) X') (fun _ _ z => z.up k1 p1) fun _ _ z => z) fun _ _ z => z)
theorem Le {x y : Expr} {pos : Pos} {Q : AV -> List ac -> Prop}
  (h : wE C A G ae st x fun a st1 => wTr C A G st1 a fun t st2 => if t then wE C A G ae st2 y Q else Q a st2) : wE C A G ae st (.BoolOp .And [x, y] pos) Q := fun κ σ s e X =>
 wpAny_And2 (wpAny_mono (h κ σ s e X) (fun va s1 z => z.go fun κ1 σ1 a st1 k1 p1 X1 r1 q1 =>
  wpAny_mono (q1 κ1 σ1 s1 va X1 r1) (fun t s2 z => z.go fun κ' σ' t' st' k2 p2 X' r q => by
   cases (r : t = t')
   cases t with
   | true => exact PA.wp (k1.trans k2) (p1.trans p2) (q κ' σ' s2 (e.mono (p1.trans p2)) X')
   | false => exact PA.up (k1.trans k2) (p1.trans p2) (PA.ret X' (r1.mono k2 p2) q)) fun _ _ z => z) fun _ _ z => z)
theorem Pz {x y : Expr} {pos : Pos} {Q : AV -> List ac -> Prop}
  (h : wE C A G ae st x fun a st1 => wTr C A G st1 a fun t st2 => if t then Q a st2 else wE C A G ae st2 y Q) : wE C A G ae st (.BoolOp .Or [x, y] pos) Q := fun κ σ s e X =>
 wpAny_Or2 (wpAny_mono (h κ σ s e X) (fun va s1 z => z.go fun κ1 σ1 a st1 k1 p1 X1 r1 q1 =>
  wpAny_mono (q1 κ1 σ1 s1 va X1 r1) (fun t s2 z => z.go fun κ' σ' t' st' k2 p2 X' r q => by
   cases (r : t = t')
   cases t with
   | false => exact PA.wp (k1.trans k2) (p1.trans p2) (q κ' σ' s2 (e.mono (p1.trans p2)) X')
   | true => exact PA.up (k1.trans k2) (p1.trans p2) (PA.ret X' (r1.mono k2 p2) q)) fun _ _ z => z) fun _ _ z => z)
theorem am {Q : AF -> List ac -> Prop} (q : Q .next st) : wSs C A G ae st [] Q := fun κ σ s e X => wpAny_execs_nil (PA.ret (b := AF.next) X rfl q)
noncomputable def Oj (C : Cx) (A : Around) (G : Gd) (ae : a9) (r : List Stmt) (Q : AF -> List ac -> Prop) (f : AF) (st1 : List ac) : Prop := match f with | .next => wSs C A G ae st1 r Q | f => Q f st1
theorem ah {x : Stmt} {r : List Stmt} {Q : AF -> List ac -> Prop} (h : wS C A G ae st x (Oj C A G ae r Q)) : wSs C A G ae st (x :: r) Q := fun κ σ s e X =>
 wpAny_execs_cons (wpAny_mono (h κ σ s e X) (fun f s1 z => z.go fun κ' σ' f' st' k1 p1 X' rr q => by
  cases f' with
  | next => cases (rr : f = .next); exact wpAny_mono (q κ' σ' s1 (e.mono p1) X') (fun _ _ z => z.up k1 p1) fun _ _ z => z
  | brk => cases (rr : f = .brk); exact ⟨κ', σ', .brk, st', k1, p1, X', rfl, q⟩
  | cont => cases (rr : f = .cont); exact ⟨κ', σ', .cont, st', k1, p1, X', rfl, q⟩
  | ret a => obtain ⟨v, rfl, rv⟩ := rr; exact ⟨κ', σ', .ret a, st', k1, p1, X', ⟨v, rfl, rv⟩, q⟩) fun _ _ z => z)
theorem cm {t : Expr} {b o : List Stmt} {pos : Pos} {Q : AF -> List ac -> Prop} (h : wB C A G ae st t fun c st1 => if c then wSs C A G ae st1 b Q else wSs C A G ae st1 o Q) : wS C A G ae st (.If t b o pos) Q := fun κ σ s e X =>
 wpAny_If (wpAny_mono (h κ σ s e X) (fun c s1 z => z.go fun κ' σ' c' st' k1 p1 X' r q => by
  cases (r : c = c')
  cases c with
  | true => exact wpAny_mono (q κ' σ' s1 (e.mono p1) X') (fun _ _ z => z.up k1 p1) fun _ _ z => z
  | false => exact wpAny_mono (q κ' σ' s1 (e.mono p1) X') (fun _ _ z => z.up k1 p1) fun _ _ z => z) fun _ _ z => z)
theorem fy {x : Expr} {pos : Pos} {Q : AF -> List ac -> Prop} (h : wE C A G ae st x fun a st1 => Q (.ret a) st1) : wS C A G ae st (.Return (some x) pos) Q := fun κ σ s e X =>
 wpAny_Return_some (wpAny_mono (h κ σ s e X) (fun v s1 z => z.go fun κ' σ' a st' k1 p1 X' r q => ⟨κ', σ', .ret a, st', k1, p1, X', ⟨v, rfl, r⟩, q⟩) fun _ _ z => z)
theorem Of {pos : Pos} {Q : AF -> List ac -> Prop} (q : Q .brk st) : wS C A G ae st (.Break pos) Q := fun κ σ s e X => wpAny_Break (PA.ret (b := AF.brk) X rfl q)
end
end Mine
end
section
open PySem PySem.Calls PyProof.Rows PySem.W PySem.SeqAt
namespace Mine
section
variable {C : Cx} {A : Around} {G : Gd} {ae : a9} {st : List ac} {Q : AV -> List ac -> Prop} {a b : Int}
theorem R.int_inv {κ : Kp} {i : Int} {v : Value} (h : R κ (.int i) v) : ∃ t, v = .int i t := h
theorem R.str_inv {κ : Kp} {i : Str} {v : Value} (h : R κ (.str i) v) : ∃ t, v = .str i t := h
theorem PA.int {φ κ₀ κ : Kp} {σ : List Addr} {s : Shared} {i : Int} {t : Tok} (X : Rel C φ κ₀ κ σ st s) (q : Q (.d (.int i)) st) : PA RV C φ κ₀ κ σ Q (.int i t) s := PA.ret (b := AV.d (.int i)) X (show R κ (.int i) _ from ⟨t, rfl⟩) q
theorem PA.str {φ κ₀ κ : Kp} {σ : List Addr} {s : Shared} {i : Str} {t : Tok} (X : Rel C φ κ₀ κ σ st s) (q : Q (.d (.str i)) st) : PA RV C φ κ₀ κ σ Q (.str i t) s := PA.ret (b := AV.d (.str i)) X (show R κ (.str i) _ from ⟨t, rfl⟩) q
theorem PA.bool {φ κ₀ κ : Kp} {σ : List Addr} {s : Shared} {i : Bool} (X : Rel C φ κ₀ κ σ st s) (q : Q (.d (.bool i)) st) : PA RV C φ κ₀ κ σ Q (.bool i) s := PA.ret (b := AV.d (.bool i)) X (show R κ (.bool i) _ from rfl) q
theorem PA.none {φ κ₀ κ : Kp} {σ : List Addr} {s : Shared} (X : Rel C φ κ₀ κ σ st s) (q : Q (.d .none) st) : PA RV C φ κ₀ κ σ Q .none s := PA.ret (b := AV.d .none) X (show R κ .none _ from rfl) q
theorem cu (q : Q (.d (.int (a + b))) st) : od C A G st .Add (.d (.int a)) (.d (.int b)) Q := fun κ σ s va vb X ⟨t, ea⟩ ⟨u, eb⟩ => by
 subst ea; subst eb; exact PyProof.Rows.add_int (PA.int (X.toks _ s.drawn) q)
theorem nb (q : Q (.d (.int (a - b))) st) : od C A G st .Sub (.d (.int a)) (.d (.int b)) Q := fun κ σ s va vb X ⟨t, ea⟩ ⟨u, eb⟩ => by
 subst ea; subst eb; exact PyProof.Rows.sub_int (PA.int (X.toks _ s.drawn) q)
theorem m0 (hm : IntMulOk a b) (q : Q (.d (.int (a * b))) st) : od C A G st .Mult (.d (.int a)) (.d (.int b)) Q := fun κ σ s va vb X ⟨t, ea⟩ ⟨u, eb⟩ => by
 subst ea; subst eb; exact P.mul_int (PA.int (X.toks _ s.drawn) q) hm
theorem sx (hb : b ≠ 0) (hp : Builtin.divisionGoesByPylong a b = false) (q : Q (.d (.int (a.fdiv b))) st) : od C A G st .FloorDiv (.d (.int a)) (.d (.int b)) Q := fun κ σ s va vb X ⟨t, ea⟩ ⟨u, eb⟩ => by
 subst ea; subst eb; exact PyProof.Rows.floordiv_int hb (PA.int (X.toks _ s.drawn) q) (.inl hp)
theorem lk (hb : b ≠ 0) (q : Q (.d (.int (a.fmod b))) st) : od C A G st .Mod (.d (.int a)) (.d (.int b)) Q := fun κ σ s va vb X ⟨t, ea⟩ ⟨u, eb⟩ => by
 subst ea; subst eb; exact PyProof.Rows.mod_int hb (PA.int (X.toks _ s.drawn) q)
theorem sj (hn : 0 <= b) (hsz : (Builtin.Int.intBits a : Int) * b <= 2 ^ 27) (q : Q (.d (.int (a ^ b.toNat))) st) : od C A G st .Pow (.d (.int a)) (.d (.int b)) Q := fun κ σ s va vb X ⟨t, ea⟩ ⟨u, eb⟩ => by
 subst ea; subst eb; exact PyProof.Rows.pow_int hn hsz (PA.int (X.toks _ s.drawn) q)
theorem D9 (hn : 0 <= b) (hn2 : b <= 1000000) (ha : a.natAbs < 2 ^ 64) (q : Q (.d (.int (a * 2 ^ b.toNat))) st) : od C A G st .LShift (.d (.int a)) (.d (.int b)) Q := fun κ σ s va vb X ⟨t, ea⟩ ⟨u, eb⟩ => by
 subst ea; subst eb; exact PyProof.Rows.lshift_int_small hn hn2 ha (PA.int (X.toks _ s.drawn) q)
theorem Pc (hn : 0 <= b) (q : Q (.d (.int (a.fdiv (2 ^ b.toNat)))) st) : od C A G st .RShift (.d (.int a)) (.d (.int b)) Q := fun κ σ s va vb X ⟨t, ea⟩ ⟨u, eb⟩ => by
 subst ea; subst eb; exact PyProof.Rows.rshift_int hn (PA.int (X.toks _ s.drawn) q)
theorem zf (q : Q (.d (.int (Builtin.bitAnd a b))) st) : od C A G st .BitAnd (.d (.int a)) (.d (.int b)) Q := fun κ σ s va vb X ⟨t, ea⟩ ⟨u, eb⟩ => by
 subst ea; subst eb; exact PyProof.Rows.and_int (PA.int (X.toks _ s.drawn) q)
theorem Qe (q : Q (.d (.int (Builtin.bitOr a b))) st) : od C A G st .BitOr (.d (.int a)) (.d (.int b)) Q := fun κ σ s va vb X ⟨t, ea⟩ ⟨u, eb⟩ => by
 subst ea; subst eb; exact PyProof.Rows.or_int (PA.int (X.toks _ s.drawn) q)
theorem Da (q : Q (.d (.int (Builtin.bitXor a b))) st) : od C A G st .BitXor (.d (.int a)) (.d (.int b)) Q := fun κ σ s va vb X ⟨t, ea⟩ ⟨u, eb⟩ => by
 subst ea; subst eb; exact PyProof.Rows.xor_int (PA.int (X.toks _ s.drawn) q)
theorem F2 (q : Q (.d (.int (-a))) st) : wUn C A G st .USub (.d (.int a)) Q := fun κ σ s va X ⟨t, ea⟩ => by
 subst ea; exact P.neg_int (PA.int (X.toks _ s.drawn) q)
theorem ck {x y : Str} (hsz : x.length + y.length <= sizeLine) (q : Q (.d (.str (x ++ y))) st) : od C A G st .Add (.d (.str x)) (.d (.str y)) Q := fun κ σ s va vb X ⟨t, ea⟩ ⟨u, eb⟩ => by
 subst ea; subst eb; exact PyProof.Rows.add_str (fun t' tk => PA.str (X.toks tk s.drawn) q) hsz
theorem g7 (q : Q (.d (.bool (decide (a < b)))) st) : jb C A G st .Lt (.d (.int a)) (.d (.int b)) Q := fun κ σ s va vb X ⟨t, ea⟩ ⟨u, eb⟩ => by
 subst ea; subst eb; exact PyProof.Rows.lt_int (PA.bool X q)
theorem Qm (q : Q (.d (.bool (decide (b < a)))) st) : jb C A G st .Gt (.d (.int a)) (.d (.int b)) Q := fun κ σ s va vb X ⟨t, ea⟩ ⟨u, eb⟩ => by
 subst ea; subst eb; exact PyProof.Rows.gt_int (PA.bool X q)
theorem Ni (q : Q (.d (.bool (a == b))) st) : jb C A G st .Eq (.d (.int a)) (.d (.int b)) Q := fun κ σ s va vb X ⟨t, ea⟩ ⟨u, eb⟩ => by
 subst ea; subst eb; exact PyProof.Rows.eq_int (PA.bool X q)
theorem tw (q : Q (.d (.bool (a != b))) st) : jb C A G st .NotEq (.d (.int a)) (.d (.int b)) Q := fun κ σ s va vb X ⟨t, ea⟩ ⟨u, eb⟩ => by
 subst ea; subst eb; exact PyProof.Rows.ne_int (PA.bool X q)
theorem Nq {a b : Str} (q : Q (.d (.bool (a == b))) st) : jb C A G st .Eq (.d (.str a)) (.d (.str b)) Q := fun κ σ s va vb X ⟨t, ea⟩ ⟨u, eb⟩ => by
 subst ea; subst eb; exact PyProof.Rows.eq_str (PA.bool X q)
theorem v4 {a b : Str} (q : Q (.d (.bool (a != b))) st) : jb C A G st .NotEq (.d (.str a)) (.d (.str b)) Q := fun κ σ s va vb X ⟨t, ea⟩ ⟨u, eb⟩ => by
 subst ea; subst eb; exact PyProof.Rows.ne_str (PA.bool X q)
theorem Qh {a b : Bool} (q : Q (.d (.bool (a != b))) st) : jb C A G st .NotEq (.d (.bool a)) (.d (.bool b)) Q := fun κ σ s va vb X ea eb => by
 cases (ea : va = _); cases (eb : vb = _); exact PyProof.Rows.ne_bool (PA.bool X q)
theorem cn {c : Bool} {Q : Bool -> List ac -> Prop} (q : Q c st) : wTr C A G st (.d (.bool c)) Q := fun κ σ s va X ea => by
 cases (ea : va = _); exact wpAny_truthy_bool (PA.ret (b := c) X rfl q)
theorem Lz {Q : Bool -> List ac -> Prop} (q : Q (a != 0) st) : wTr C A G st (.d (.int a)) Q := fun κ σ s va X ⟨t, ea⟩ => by
 subst ea; exact P.truthy_int (PA.ret (b := (a != 0)) X rfl q)
mutual
theorem R.reads {κ : Kp} {h : Heap} (k : ∀ b o, κ b = some o -> h.get? b = some o) : ∀ {d : D} {v : Value}, R κ d v -> ∃ as, Reads h v d as
 | .none, _, h => by cases (h : _ = _); exact ⟨_, .none⟩
 | .bool _, _, h => by cases (h : _ = _); exact ⟨_, .bool _⟩
 | .int _, _, h => by obtain ⟨t, rfl⟩ := (h : ∃ _, _); exact ⟨_, .int _ _⟩
 | .str _, _, h => by obtain ⟨t, rfl⟩ := (h : ∃ _, _); exact ⟨_, .str _ _⟩
 | .list _, _, h => by
  simp only [R] at h
  refine byC fun hC1 => ?_
  obtain ⟨a, o, vs, n, rfl, h2, h3, h4, h5, h6⟩ := h
  obtain ⟨as, h7⟩ := RL.reads k h6
  refine hC1 ?_
  exact ⟨_, .list (k _ _ h2) h3 h5 h7⟩
 | .tuple _, _, h => by
  simp only [R] at h
  refine byC fun hC2 => ?_
  obtain ⟨a, o, vs, n, rfl, h2, h3, h4, h5, h6⟩ := h
  obtain ⟨as, h7⟩ := RL.reads k h6
  refine hC2 ?_
  exact ⟨_, .tuple (k _ _ h2) h3 h5 h7⟩
 | .dict _, _, h => h.elim
theorem RL.reads {κ : Kp} {h : Heap} (k : ∀ b o, κ b = some o -> h.get? b = some o) : ∀ {d : List D} {v : List Value}, RL κ d v -> ∃ as, ReadsAll h v d as
 | [], _, h => by cases h; exact ⟨_, .nil⟩
 | _ :: _, _, h => by
  simp only [RL] at h
  refine byC fun hC1 => ?_
  obtain ⟨v, r, rfl, h2, h3⟩ := h
  obtain ⟨as, h4⟩ := R.reads k h2
  obtain ⟨bs, h5⟩ := RL.reads k h3
  refine hC1 ?_
  exact ⟨_, .cons h4 h5⟩
end
theorem Qy {x y : D} (hA : A.units + 64 < cLine) (hx : shaped x = true) (hy : shaped y = true) (q : Q (.d (.bool (PyData.eqv x y))) st) : jb C A G st .Eq (.d x) (.d y) Q := fun κ σ s va vb X ra rb => by
 obtain ⟨as, ra⟩ := R.reads X.keep ra
 obtain ⟨bs, rb⟩ := R.reads X.keep rb
 exact eq_dataH ra rb hx hy hA (PA.bool X q)
theorem Pp {x y : D} (hA : A.units + 64 < cLine) (hx : shaped x = true) (hy : shaped y = true) (q : Q (.d (.bool (!PyData.eqv x y))) st) : jb C A G st .NotEq (.d x) (.d y) Q := fun κ σ s va vb X ra rb => by
 refine byC fun hC1 => ?_
 obtain ⟨as, ra⟩ := R.reads X.keep ra
 obtain ⟨bs, rb⟩ := R.reads X.keep rb
 refine hC1 ?_
 exact ne_dataH ra rb hx hy hA (PA.bool X q)
end
end Mine
end
section
open PySem PySem.Calls PyProof.Rows PySem.W PySem.SeqAt
namespace Mine
noncomputable def gt (s : Shared) (f : Value) : Prop := (∃ id, f = .builtin id) ∨ (∃ T, f = .type T) ∨ ∃ a o fd, f = .ref a /\ s.heap.get? a = some o /\ o.data = .func fd
section
variable {M : Model} {A : Around} {E : Value -> Shared -> Prop} {s : Shared}
theorem j4 {f : Value} {args : List (Bool × Sem Value)} {keywords : List (Option Str × Sem Value)} {Q : Args -> Shared -> Prop} (hs : args.all (fun x => !x.1) = true) (hk : keywords.all (·.1.isSome) = true)
  (h : wpAny M A (spliced args) (fun vs s1 => wpAny M A (evalAll (keywords.map (·.2))) (fun ks s2 => Q ⟨vs, (keywords.filterMap (·.1)).zip ks⟩ s2) E s1) E s) : wpAny M A (evalArgs f true args keywords) Q E s := by
 have fin : ∀ vs s1, wpAny M A (evalAll (keywords.map (·.2))) (fun ks s2 => Q ⟨vs, (keywords.filterMap (·.1)).zip ks⟩ s2) E s1 →
   wpAny M A (evalAll (keywords.map (·.2)) >>= fun ks => (pure vs : Sem (List Value)) >>= fun p => pure (⟨p, (keywords.filterMap (·.1)).zip ks⟩ : Args)) Q E s1 := fun vs s1 h1 =>
  wpAny_bind (wpAny_mono h1 (fun ks s2 h2 => wpAny_bind (wpAny_pure (wpAny_pure h2))) fun _ _ z => z)
 unfold evalArgs
 match args, hs, h with
 | [], _, h =>
  show wpAny M A (spliced [] >>= _) Q E s
  refine wpAny_bind (wpAny_mono h (fun vs s1 h1 => ?_) fun _ _ z => z)
  refine wpAny_holding ?_
  simp only [hk, if_true]
  exact fin vs s1 h1
 | (false, x) :: r, _, h =>
  show wpAny M A (spliced ((false, x) :: r) >>= _) Q E s
  refine wpAny_bind (wpAny_mono h (fun vs s1 h1 => ?_) fun _ _ z => z)
  refine wpAny_holding ?_
  simp only [hk, if_true]
  exact fin vs s1 h1
 | (true, x) :: r, hs, _ => simp at hs
theorem gf {pos : Pos} {f : Value} {first : List Value} {args : List (Bool × Sem Value)} {keywords : List (Option Str × Sem Value)} {Q : Value -> Shared -> Prop} (hs : args.all (fun x => !x.1) = true) (hk : keywords.all (·.1.isSome) = true)
  (h : wpAny M A (spliced args) (fun vs s1 => wpAny M A (evalAll (keywords.map (·.2))) (fun ks s2 => gt s2 f /\ wpAny M A (call f (first ++ vs) ((keywords.filterMap (·.1)).zip ks)) Q E s2) E s1) E s) :
  wpAny M A (callWith pos f first args keywords) Q E s := by
 unfold callWith
 refine wpAny_bind (wpAny_holding (wpAny_mono (j4 (Q := fun x s2 => gt s2 f /\ wpAny M A (call f (first ++ x.pos) x.kw) Q E s2) hs hk h) (fun x s1 h1 => wpAny_bind (wpAny_standAt ?_)) fun _ _ z => z))
 have e1 : args.any (·.1) = false := by
  rw [List.any_eq_false]
  intro x hx
  have := List.all_eq_true.mp hs x hx
  simpa using this
 have e2 : keywords.any (·.1.isNone) = false := by
  rw [List.any_eq_false]
  intro x hx
  have := List.all_eq_true.mp hk x hx
  rw [Option.isSome_iff_ne_none] at this
  simpa using this
 have tail : ∀ {t : Sem Value}, wpAny M A t Q E s1 -> wpAny M A (t >>= fun r => holding [r] point >>= fun _ => pure r) Q E s1 :=
  fun ht => wpAny_bind (wpAny_mono ht (fun r s2 hr => wpAny_bind (wpAny_holding (wpAny_point (wpAny_pure hr)))) fun _ _ z => z)
 simp only [e1, e2, Bool.or_false]
 rcases h1 with ⟨⟨id, rfl⟩ | ⟨T, rfl⟩ | ⟨a, o, fd, rfl, ho, hd⟩, h1⟩
 ·exact wpAny_bind (wpAny_pure (tail h1))
 ·exact wpAny_bind (wpAny_pure (tail h1))
 ·refine wpAny_bind (m := keeperOf (.ref a)) ?_
  unfold keeperOf
  refine wpAny_bind (wpAny_load ho ?_)
  rw [hd]
  refine wpAny_pure ?_
  refine wpAny_ite ?_
  split
  ·exact tail h1
  ·exact tail (by unfold callMarked; exact Calls.wpAny_keep h1)
end
section
variable {C : Cx} {A : Around} {G : Gd} {ae : a9} {st : List ac}
noncomputable def ky (C : Cx) (A : Around) (G : Gd) (ae : a9) (st : List ac) (pos : Pos) (es : List Expr) (Q : List AV -> List ac -> Prop) : Prop := W RVL C A G ae st (spliced (backTo pos (starEach es G.env))) Q
theorem ak {pos : Pos} {Q : List AV -> List ac -> Prop} (q : Q [] st) : ky C A G ae st pos [] Q := fun κ σ s e X => args_nil (PA.ret (b := []) X RVL.nil q)
theorem ad {pos : Pos} {x : Expr} {r : List Expr} {Q : List AV -> List ac -> Prop} (he : ∀ env, starEach (x :: r) env = (false, eval x env) :: starEach r env)
  (h : wE C A G ae st x fun a st1 => ky C A G ae st1 pos r fun as st2 => Q (a :: as) st2) : ky C A G ae st pos (x :: r) Q := fun κ σ s e X =>
 args_cons (wpAny_mono (h κ σ s e X) (fun v s1 z => z.go fun κ1 σ1 a st1 k1 p1 X1 r1 q1 =>
  wpAny_mono (q1 κ1 σ1 s1 (e.mono p1) X1) (fun vs s2 z => z.go fun κ2 σ2 as st2 k2 p2 X2 r2 q2 => ⟨κ2, σ2, a :: as, st2, k1.trans k2, p1.trans p2, X2, RVL.cons (r1.mono k2 p2) r2, q2⟩) fun _ _ z => z) fun _ _ z => z) (he _)
noncomputable def Ka (C : Cx) (A : Around) (G : Gd) (ae : a9) (st : List ac) (pos : Pos) (ks : List Keyword) (Q : List AV -> List ac -> Prop) : Prop := W RVL C A G ae st (evalAll ((backToKw pos (keywordEach ks G.env)).map (·.2))) Q
theorem ko {pos : Pos} {Q : List AV -> List ac -> Prop} (q : Q [] st) : Ka C A G ae st pos [] Q := fun κ σ s e X => wpAny_evalAll_nil (PA.ret (b := []) X RVL.nil q)
theorem nu {pos : Pos} {n : Str} {x : Expr} {p : Pos} {r : List Keyword} {Q : List AV -> List ac -> Prop}
  (h : wE C A G ae st x fun a st1 => Ka C A G ae st1 pos r fun as st2 => Q (a :: as) st2) : Ka C A G ae st pos (⟨some n, x, p⟩ :: r) Q := fun κ σ s e X => by
 show wpAny _ _ (evalAll ((do let v ← eval x G.env; standAt pos; pure v) :: (backToKw pos (keywordEach r G.env)).map (·.2))) _ _ s
 rw [evalAll]
 exact wpAny_bind (wpAny_bind (wpAny_mono (h κ σ s e X) (fun v s1 z => z.go fun κ1 σ1 a st1 k1 p1 X1 r1 q1 => wpAny_bind (wpAny_standAt (wpAny_pure (wpAny_bind (wpAny_holding
  (wpAny_mono (q1 κ1 σ1 s1 (e.mono p1) X1) (fun vs s2 z => z.go fun κ2 σ2 as st2 k2 p2 X2 r2 q2 => wpAny_pure ⟨κ2, σ2, a :: as, st2, k1.trans k2, p1.trans p2, X2, RVL.cons (r1.mono k2 p2) r2, q2⟩) fun _ _ z => z)))))) fun _ _ z => z))
noncomputable def ry (C : Cx) (A : Around) (G : Gd) (st : List ac) (f : AV) (as : List AV) (names : List Str) (ks : List AV) (Q : AV -> List ac -> Prop) : Prop :=
 ∀ κ σ s vf vs kvs, Rel C G.φ G.κ₀ κ σ st s -> RV κ σ f vf -> RVL κ σ as vs -> RVL κ σ ks kvs -> gt s vf /\ wpAny (model C.prog C.w) A (call vf vs (names.zip kvs)) (PA RV C G.φ G.κ₀ κ σ Q) G.E s
theorem zk {x : Str} {np pos : Pos} {args : List Expr} {kws : List Keyword} {Q : AV -> List ac -> Prop} (hs : ∀ env, (backTo pos (starEach args env)).all (fun x => !x.1) = true) (hk : ∀ env, (backToKw pos (keywordEach kws env)).all (·.1.isSome) = true)
  (names : List Str) (hn : ∀ env, (backToKw pos (keywordEach kws env)).filterMap (·.1) = names)
  (h : wE C A G ae st (.Name x np) fun f st1 => ky C A G ae st1 pos args fun as st2 => Ka C A G ae st2 pos kws fun ks st3 => ry C A G st3 f as names ks Q) : wE C A G ae st (.Call (.Name x np) args kws pos) Q := fun κ σ s e X =>
 wpAny_Call_ofName (wpAny_mono (h κ σ s e X) (fun vf s1 z => z.go fun κ1 σ1 f st1 k1 p1 X1 r1 q1 => gf (hs _) (hk _)
  (wpAny_mono (q1 κ1 σ1 s1 (e.mono p1) X1) (fun vs s2 z => z.go fun κ2 σ2 as st2 k2 p2 X2 r2 q2 =>
   wpAny_mono (q2 κ2 σ2 s2 (e.mono (p1.trans p2)) X2) (fun kvs s3 z => z.go fun κ3 σ3 ks st3 k3 p3 X3 r3 q3 => by
    have q := q3 κ3 σ3 s3 vf vs kvs X3 (r1.mono (k2.trans k3) (p2.trans p3)) (r2.mono k3 p3) r3
    exact ⟨q.1, PA.wp ((k1.trans k2).trans k3) ((p1.trans p2).trans p3) (by rw [hn, List.nil_append]; exact q.2)⟩) fun _ _ z => z) fun _ _ z => z)) fun _ _ z => z)
theorem kx {x : Str} {np pos : Pos} {args : List Expr} {Q : AV -> List ac -> Prop} (hs : ∀ env, (backTo pos (starEach args env)).all (fun x => !x.1) = true)
  (h : wE C A G ae st (.Name x np) fun f st1 => ky C A G ae st1 pos args fun as st2 => ry C A G st2 f as [] [] Q) : wE C A G ae st (.Call (.Name x np) args [] pos) Q :=
 zk hs (fun _ => rfl) [] (fun _ => rfl) (h.mono fun f st1 h1 => W.mono h1 fun as st2 h2 => ko h2)
end
end Mine
end
section
open PySem PySem.Calls PyProof.Rows PySem.W PySem.SeqAt
namespace Mine
noncomputable def RU (_ : Kp) (_ : List Addr) (_ : Unit) (_ : Unit) : Prop := True
section
variable {C : Cx} {A : Around} {G : Gd} {ae : a9} {st : List ac}
noncomputable def dx (C : Cx) (A : Around) (G : Gd) (ae : a9) (st : List ac) (x : Str) (a : AV) (Q : List ac -> Prop) : Prop :=
 ∀ κ σ s v, cy ae σ G.env -> Rel C G.φ G.κ₀ κ σ st s -> RV κ σ a v -> wpAny (model C.prog C.w) A (storeName G.env x v) (PA RU C G.φ G.κ₀ κ σ fun _ => Q) G.E s
theorem af (i : Nat) {x : Str} {names : List Str} {vars : List (Option AV)} {a : AV} {Q : List ac -> Prop} (hk : ae.scope.names[i]? = some (x, .local))
  (hns : st[ae.L]? = some (.ns names vars)) (hn : names[i]? = some x) (q : Q (st.set ae.L (.ns names (vars.set i (some a))))) : dx C A G ae st x a Q := fun κ σ s v e X r => by
 refine byC fun hC1 => ?_
 obtain ⟨L, o, hL, _, _, ho, hnd, m, hm, hr⟩ := X.get hns trivial
 obtain rfl := Option.some.inj (e.loc.symm.trans hL)
 refine hC1 ?_
 refine wpAny_storeName_local (e.kindOf hk) (hm.ns ho) (fun h' hn' hs => ?_) (by rw [e.kind]; rfl)
 refine byC fun hC2 => ?_
 obtain ⟨o', es, ep, ho', hd', hs1, hs2⟩ := hn'
 refine hC2 ?_
 refine ⟨κ, σ, (), _, Kle.refl _, List.prefix_refl _, X.upd (o := o') (y := .ns names (vars.set i (some a))) hns trivial hL (fun b o hb e => (hs.2 b hb).trans e) ho' rfl rfl ⟨hnd, _, ⟨es, ep, hd', hs1, hs2⟩, fun j y b ej ev => ?_⟩ trivial, trivial, q⟩
 by_cases hij : i = j
 ·subst hij
  rw [hn] at ej; cases ej
  by_cases hl : i < vars.length
  ·rw [List.getElem?_set_self hl] at ev; cases ev
   exact ⟨v, by simp, r⟩
  ·exact bq (List.getElem?_eq_none (by simp; lia)) ev
 ·rw [List.getElem?_set_ne hij] at ev
  refine byC fun hC3 => ?_
  obtain ⟨u, h1, h2⟩ := hr j y b ej ev
  refine hC3 ?_
  have hne : y ≠ x := fun q => by
   subst q
   obtain ⟨h1, e1⟩ := List.getElem?_eq_some_iff.mp hn
   obtain ⟨h2, e2⟩ := List.getElem?_eq_some_iff.mp ej
   exact hij ((List.getElem_inj hnd).mp (e1.trans e2.symm))
  exact ⟨u, by rw [if_neg hne]; exact h1, h2⟩
theorem eg (i j k : Nat) {x : Str} {b : Option AV} {a : AV} {Q : List ac -> Prop} (hk : ae.scope.names[i]? = some (x, .cell))
  (hc : ae.cells[j]? = some (x, k)) (ho : st[k]? = some (.cell b)) (q : Q (st.set k (.cell (some a)))) : dx C A G ae st x a Q := fun κ σ s v e X r => by
 refine byC fun hC1 => ?_
 obtain ⟨c, o, hL, _, _, hoo, hr⟩ := X.get ho trivial
 obtain ⟨c', h1, h2⟩ := e.cell hc
 obtain rfl := Option.some.inj (h2.symm.trans hL)
 have hcell : ∃ v₀, s.heap.IsCell c' v₀ := by
  cases b with
  | none => obtain ⟨v₀, hd⟩ := hr; exact ⟨v₀, o, hoo, hd⟩
  | some b => obtain ⟨v₀, hd, _⟩ := hr; exact ⟨some v₀, o, hoo, hd⟩
 obtain ⟨v₀, hcell⟩ := hcell
 refine hC1 ?_
 refine wpAny_storeName_cell e.kind (e.kindOf hk) h1 hcell fun h' hv hs => ?_
 refine byC fun hC2 => ?_
 obtain ⟨o', ho', hd'⟩ := hv
 refine hC2 ?_
 exact ⟨κ, σ, (), _, Kle.refl _, List.prefix_refl _, X.upd (o := o') (y := .cell (some a)) ho trivial hL (fun b o hb e => (hs.2 b hb).trans e) ho' rfl rfl ⟨v, hd', r⟩ trivial, trivial, q⟩
theorem al {x : Str} {p pos : Pos} {value : Expr} {Q : AF -> List ac -> Prop} (hs : ∀ env, swapsWith value (some (.Name x p)) pos.line env = pure false)
  (h : wE C A G ae st value fun a st1 => dx C A G ae st1 x a fun st2 => Q .next st2) : wS C A G ae st (.Assign [.Name x p] value pos) Q := fun κ σ s e X =>
 wpAny_Assign_Name (wpAny_mono (h κ σ s e X) (fun v s1 z => z.go fun κ1 σ1 a st1 k1 p1 X1 r1 q1 =>
  wpAny_mono (q1 κ1 σ1 s1 v (e.mono p1) X1 r1) (fun _ s2 z => z.go fun κ2 σ2 _ st2 k2 p2 X2 _ q2 => ⟨κ2, σ2, .next, st2, k1.trans k2, p1.trans p2, X2, rfl, q2⟩) fun _ _ z => z) fun _ _ z => z) (hs _)
noncomputable def Qk (C : Cx) (A : Around) (G : Gd) (st : List ac) (op : Operator) (a b : AV) (Q : AV -> List ac -> Prop) : Prop :=
 ∀ κ σ s va vb, Rel C G.φ G.κ₀ κ σ st s -> RV κ σ a va -> RV κ σ b vb -> wpAny (model C.prog C.w) A (inplaceOp op va vb) (PA RV C G.φ G.κ₀ κ σ Q) G.E s
theorem M8 {a b : Int} {Q : AV -> List ac -> Prop} (q : Q (.d (.int (Builtin.bitXor a b))) st) : Qk C A G st .BitXor (.d (.int a)) (.d (.int b)) Q := fun κ σ s va vb X ⟨t, ea⟩ ⟨u, eb⟩ => by
 subst ea; subst eb; exact PyProof.Rows.ixor_int (PA.int (X.toks _ s.drawn) q)
theorem Pk (i : Nat) {x : Str} {p pos : Pos} {op : Operator} {value : Expr} {names : List Str} {vars : List (Option AV)} {a : AV} {Q : AF -> List ac -> Prop} (hk : ae.scope.names[i]? = some (x, .local))
  (hns : st[ae.L]? = some (.ns names vars)) (hn : names[i]? = some x) (hv : vars[i]? = some (some a))
  (h : wE C A G ae st value fun b st1 => Qk C A G st1 op a b fun c st2 => dx C A G ae st2 x c fun st3 => Q .next st3) : wS C A G ae st (.AugAssign (.Name x p) op value pos) Q := fun κ σ s e X => by
 refine byC fun hC1 => ?_
 obtain ⟨L, o, hL, _, _, ho, _, m, hm, hr⟩ := X.get hns trivial
 obtain rfl := Option.some.inj (e.loc.symm.trans hL)
 obtain ⟨v, h1, r0⟩ := hr i x a hn hv
 refine hC1 ?_
 exact wpAny_AugAssign_Name (wpAny_loadName_local e.kind (e.kindOf hk) (hm.ns ho) h1 (wpAny_mono (h κ σ s e X) (fun u s1 z => z.go fun κ1 σ1 b st1 k1 p1 X1 r1 q1 =>
  wpAny_mono (q1 κ1 σ1 s1 v u X1 (r0.mono k1 p1) r1) (fun y s2 z => z.go fun κ2 σ2 c st2 k2 p2 X2 r2 q2 =>
   wpAny_mono (q2 κ2 σ2 s2 y (e.mono (p1.trans p2)) X2 r2) (fun _ s3 z => z.go fun κ3 σ3 _ st3 k3 p3 X3 _ q3 => ⟨κ3, σ3, .next, st3, (k1.trans k2).trans k3, (p1.trans p2).trans p3, X3, rfl, q3⟩) fun _ _ z => z) fun _ _ z => z) fun _ _ z => z))
theorem lu {x : Expr} {pos : Pos} {Q : AF -> List ac -> Prop} (hs : ∀ env, swapsWith x none pos.line env = pure false) (h : wE C A G ae st x fun _ st1 => Q .next st1) : wS C A G ae st (.Expr x pos) Q := fun κ σ s e X =>
 wpAny_Expr_any (wpAny_mono (h κ σ s e X) (fun v s1 z => z.go fun κ1 σ1 a st1 k1 p1 X1 r1 q1 => ⟨κ1, σ1, .next, st1, k1, p1, X1, rfl, q1⟩) fun _ _ z => z)
  (by unfold interactive; rw [e.kind]; rfl) (hs _)
noncomputable def wBi (C : Cx) (A : Around) (G : Gd) (st : List ac) (f : Value) (as : List AV) (Q : AV -> List ac -> Prop) : Prop :=
 ∀ κ σ s vs, Rel C G.φ G.κ₀ κ σ st s -> RVL κ σ as vs -> wpAny (model C.prog C.w) A (call f vs) (PA RV C G.φ G.κ₀ κ σ Q) G.E s
theorem d7 {id : String} {as : List AV} {Q : AV -> List ac -> Prop} (h : wBi C A G st (.builtin id) as Q) : ry C A G st (.glob (.builtin id)) as [] [] Q := fun κ σ s vf vs kvs X rf ra _ => by
 cases (rf : vf = _); exact ⟨.inl ⟨_, rfl⟩, h κ σ s vs X ra⟩
theorem db {T : String} {as : List AV} {Q : AV -> List ac -> Prop} (h : wBi C A G st (.type T) as Q) : ry C A G st (.glob (.type T)) as [] [] Q := fun κ σ s vf vs kvs X rf ra _ => by
 cases (rf : vf = _); exact ⟨.inr (.inl ⟨_, rfl⟩), h κ σ s vs X ra⟩
noncomputable def wh (C : Cx) (st : List ac) (a : AV) (T : String) : Prop :=
 ∀ φ κ₀ κ σ s v, Rel C φ κ₀ κ σ st s -> RV κ σ a v -> s.TypeIs v T /\ ∀ x, v = .ref x -> ∃ ob, s.heap.get? x = some ob /\ ob.dict = none
theorem dg {x : Str} : wh C st (.d (.str x)) "str" := fun φ κ₀ κ σ s v X ⟨t, e⟩ => by subst e; exact ⟨typeIs_str s x t, fun _ q => nomatch q⟩
theorem f8 {i : Nat} {l : List AV} (h : st[i]? = some (.list l)) : wh C st (.obj i) "list" := fun φ κ₀ κ σ s v X ⟨a, ha, e⟩ => by
 subst e
 refine byC fun hC1 => ?_
 obtain ⟨a', o, ha', _, _, ho, ws, n, rfl, _⟩ := X.get h trivial
 refine hC1 ?_
 rw [ha] at ha'; cases ha'
 exact ⟨⟨_, ho, rfl⟩, fun x q => by cases q; exact ⟨_, ho, rfl⟩⟩
theorem qd {o : Expr} {name : Str} {apos pos : Pos} {args : List Expr} {T id : String} {Q : AV -> List ac -> Prop} (hbase : ∀ env, attributeBase o name env (eval o env) = eval o env)
  (hfew : ∀ env, ((backTo pos (starEach args env)).all (fun x => !x.1) && (backToKw pos (keywordEach [] env)).all (fun x => x.1.isSome) && decide (args.length + ([] : List Keyword).length + (if ([] : List Keyword).isEmpty then 0 else 1) < 30)) = true)
  (hline : (apos.endLine == pos.line) = true) (pa : PlainAttrs T) (slot : Slot T name id) (hty : typeOf (.builtin id) = pure (.type "method_descriptor"))
  (h : wE C A G ae st o fun a st1 => wh C st1 a T /\ ky C A G ae st1 pos args fun as st2 => wBi C A G st2 (.builtin id) (a :: as) Q) : wE C A G ae st (.Call (.Attribute o name apos) args [] pos) Q := fun κ σ s e X =>
 wpAny_Call_method (hbase _) (hfew _) hline pa slot hty (wpAny_mono (h κ σ s e X) (fun ov s1 z => z.go fun κ1 σ1 a st1 k1 p1 X1 r1 q1 => by
  obtain ⟨ht, q1⟩ := q1
  have ht' := ht _ _ _ _ _ _ X1 r1
  refine ⟨ht'.1, ht'.2, gf (by have := hfew G.env; simp only [Bool.and_eq_true] at this; exact this.1.1) rfl ?_⟩
  refine wpAny_mono (q1 κ1 σ1 s1 (e.mono p1) X1) (fun vs s2 z => z.go fun κ2 σ2 as st2 k2 p2 X2 r2 q2 => ?_) fun _ _ z => z
  exact wpAny_evalAll_nil ⟨.inl ⟨_, rfl⟩, PA.wp (k1.trans k2) (p1.trans p2) (q2 κ2 σ2 s2 (ov :: vs) X2 (RVL.cons (r1.mono k2 p2) r2))⟩) fun _ _ z => z)
theorem ku {i : Nat} {l : List AV} {a : AV} {Q : AV -> List ac -> Prop} (hi : st[i]? = some (.list l)) (hsz : l.length <= sizeLine) (q : Q (.d .none) (st.set i (.list (l ++ [a])))) :
  wBi C A G st (.builtin "list.append") [.obj i, a] Q := fun κ σ s vs X ⟨hl, hr⟩ => by
 refine byC fun hC1 => ?_
 obtain ⟨v, u, rfl⟩ : ∃ v u, vs = [v, u] := wo hl
 obtain ⟨v', e1, ⟨b, hb, rfl⟩⟩ := hr 0 _ rfl
 obtain ⟨u', e2, ru⟩ := hr 1 _ rfl
 simp at e1 e2
 subst e1; subst e2
 obtain ⟨b', o, hb', _, _, ho, ws, n, rfl, hw⟩ := X.get hi trivial
 refine hC1 ?_
 rw [hb] at hb'; cases hb'
 have hP : s.heap.PlainList b ws := ⟨n, ho⟩
 have hsz' : ws.size <= sizeLine := by have := hw.1; rw [Array.length_toList] at this; lia
 refine wpAny_list_append_plain hP (fun h' hl' hs => ?_) hsz'
 refine byC fun hC2 => ?_
 obtain ⟨n', ho'⟩ := hl'
 refine hC2 ?_
 exact PA.none (X.upd (y := .list (l ++ [a])) hi trivial hb (fun b o hb e => (hs.2 b hb).trans e) ho' rfl rfl ⟨_, n', rfl, by rw [Array.toList_push]; exact hw.snoc ru⟩ trivial) q
end
end Mine
end
section
open PySem PySem.Calls PyProof.Rows PySem.W PySem.SeqAt
namespace Mine
section
variable {C : Cx} {φ κ₀ κ : Kp} {σ : List Addr} {st : List ac} {s : Shared}
noncomputable def cc (κ : Kp) (a : Addr) (o : Obj) : Kp := fun b => if b = a then some o else κ b
theorem eu {a : Addr} {o : Obj} (h : κ a = none) : Kle κ (cc κ a o) := fun b x e => by
 unfold cc
 rw [if_neg (fun q => by rw [q, h] at e; cases e)]; exact e
theorem bp {a b : Addr} {o : Obj} (h : b ≠ a) : cc κ a o b = κ b := if_neg h
theorem Rel.freeze (X : Rel C φ κ₀ κ σ st s) {i : Nat} {ds : List D} (e : st[i]? = some (.list (ds.map .d))) : ∃ κ', Kle κ κ' /\ Rel C φ κ₀ κ' σ (st.set i (.frz (.list ds))) s := by
 obtain ⟨a, o, ha, hκ, hφ, ho, vs, n, rfl, hr⟩ := X.get e trivial
 refine ⟨cc κ a { cls := .type "list", data := .seq vs n }, eu hκ, ?_⟩
 have hle := eu (o := { cls := .type "list", data := .seq vs n }) hκ
 have hil : i < st.length := by
  by_cases q : i < st.length
  ·exact q
  ·exact bq (List.getElem?_eq_none (by lia)) e
 refine ⟨X.prog.trans hle, X.k0.trans hle, fun b o e' => ?_, fun b o e' => ?_, X.phi, by simp [X.len], X.nd, fun j b z e1 e2 => ?_, fun P hP => ?_, X.gens, X.os⟩
 ·by_cases q : b = a
  ·subst q; exact .inr hφ
  ·rw [bp q] at e'; exact X.new b o e'
 ·by_cases q : b = a
  ·subst q; unfold cc at e'; rw [if_pos rfl] at e'; cases e'; exact ho
  ·rw [bp q] at e'; exact X.keep b o e'
 ·by_cases hj : i = j
  ·subst hj
   rw [ha] at e1; cases e1
   rw [List.getElem?_set_self hil] at e2; cases e2
   have hs : cc κ a { cls := .type "list", data := .seq vs n } a = some { cls := .type "list", data := .seq vs n } := if_pos rfl
   exact .frz _ rfl (by simp only [R]; exact ⟨a, _, vs, n, rfl, hs, rfl, rfl, rfl, (hr.toD).mono hle⟩) (by rw [hs]; rfl)
  ·rw [List.getElem?_set_ne hj] at e2
   have hba : b ≠ a := fun q => by
    subst q
    obtain ⟨h1, e3⟩ := List.getElem?_eq_some_iff.mp ha
    obtain ⟨h2, e4⟩ := List.getElem?_eq_some_iff.mp e1
    exact hj ((List.getElem_inj X.nd).mp (e3.trans e4.symm))
   exact (X.own j b z e1 e2).map hle (List.prefix_refl _) fun h1 h2 o h3 => ⟨by rw [bp hba]; exact h1, h2, h3⟩
 ·obtain ⟨h1, h2, h3, h4⟩ := X.tabs P hP
  have hPa : P ≠ a := fun q => h4 (q ▸ List.mem_of_getElem? ha)
  exact ⟨h1.keeps hle fun _ e => e, h2, by rw [bp hPa]; exact h3, h4⟩
noncomputable def AV.below (n : Nat) : AV -> Prop
 | .obj i => i < n
 | _ => True
noncomputable def ac.below (n : Nat) : ac -> Prop
 | .ns _ vars => ∀ (j : Nat) (a : AV), vars[j]? = some (some a) -> a.below n
 | .cell (some a) => a.below n
 | .list l => ∀ a ∈ l, a.below n
 | _ => True
noncomputable def tm (n : Nat) : ac -> ac -> Prop
 | .ns names vars, .ns names' vars' => names' = names /\ ∀ (j : Nat) (a : AV), vars'[j]? = some (some a) -> vars[j]? = some (some a) /\ a.below n
 | x, y => y = x /\ x.below n
theorem tm.frz {n : Nat} {d : D} {y : ac} (h : tm n (.frz d) y) : y = .frz d := by
 cases y <;> exact h.1
theorem tm.live {n : Nat} {x y : ac} (h : tm n x y) (hx : x.live) : y.live := by
 cases y with
 | frz => cases x with
  | frz => exact hx
  | _ => cases h.1
 | _ => trivial
noncomputable def Sub (n : Nat) (st st' : List ac) : Prop := st'.length = n /\ n <= st.length /\ ∀ (i : Nat) (x y : ac), i < n -> st[i]? = some x -> st'[i]? = some y -> tm n x y
theorem RV.cut {n : Nat} {a : AV} {v : Value} (h : RV κ σ a v) (hb : a.below n) : RV κ (σ.take n) a v := by
 cases a with
 | d x => exact h
 | obj i =>
  obtain ⟨a, h1, h2⟩ := h
  exact ⟨a, by rw [List.getElem?_take_of_lt hb]; exact h1, h2⟩
 | glob w => exact h
theorem RO.cut {n : Nat} {x y : ac} {o : Obj} (h : RO κ σ x o) (hl : tm n x y) : RO κ (σ.take n) y o := by
 cases x with
 | ns names vars =>
  cases y with
  | ns names' vars' =>
   obtain ⟨rfl, hl⟩ := hl
   obtain ⟨h1, m, h2, h3⟩ := h
   exact ⟨h1, m, h2, fun j z a e1 e2 => let ⟨v, h4, h5⟩ := h3 j z a e1 (hl j a e2).1; ⟨v, h4, h5.cut (hl j a e2).2⟩⟩
  | cell => cases hl.1
  | list => cases hl.1
  | frz => cases hl.1
  | raw => cases hl.1
 | cell a =>
  obtain ⟨rfl, hb⟩ := (show y = .cell a /\ (ac.cell a).below n by cases y <;> exact hl)
  cases a with
  | none => exact h
  | some a => obtain ⟨v, h1, h2⟩ := h; exact ⟨v, h1, h2.cut hb⟩
 | list l =>
  obtain ⟨rfl, hb⟩ := (show y = .list l /\ (ac.list l).below n by cases y <;> exact hl)
  obtain ⟨vs, m, h1, h2, h3⟩ := h
  exact ⟨vs, m, h1, h2, fun i a e => let ⟨v, h4, h5⟩ := h3 i a e; ⟨v, h4, h5.cut (hb a (List.mem_of_getElem? e))⟩⟩
 | frz d =>
  obtain ⟨rfl, hb⟩ := (show y = .frz d /\ (ac.frz d).below n by cases y <;> exact hl)
  trivial
 | raw P =>
  obtain ⟨rfl, hb⟩ := (show y = .raw P /\ (ac.raw P).below n by cases y <;> exact hl)
  exact h
theorem Rel.sub (X : Rel C φ κ₀ κ σ st s) {n : Nat} {st' : List ac} (h : Sub n st st') : Rel C φ κ₀ κ (σ.take n) st' s := by
 obtain ⟨h1, h2, h3⟩ := h
 refine ⟨X.prog, X.k0, X.new, X.keep, X.phi, by simp [X.len, h1, h2], X.nd.sublist (List.take_sublist ..), fun i a y e1 e2 => ?_, fun P hP => ?_, X.gens, X.os⟩
 ·have hi : i < n := by
   by_cases q : i < n
   ·exact q
   ·exact bq (List.getElem?_eq_none (by lia)) e2
  rw [List.getElem?_take_of_lt hi] at e1
  obtain ⟨x, ex⟩ : ∃ x, st[i]? = some x := ⟨st[i]'(by lia), by simp⟩
  have hl := h3 i x y hi ex e2
  rcases X.own i a x e1 ex with ⟨d, rfl, r, hs⟩ | ⟨hx, q1, q2, o, q3, q4⟩
  ·exact .frz d (hl.frz) r hs
  ·exact .own (hl.live hx) q1 q2 o q3 (q4.cut hl)
 ·obtain ⟨q1, q2, q3, q4⟩ := X.tabs P hP
  exact ⟨q1, q2, q3, fun hm => q4 (List.mem_of_mem_take hm)⟩
end
section
variable {C : Cx} {A : Around} {G : Gd} {ae : a9} {st : List ac}
noncomputable def c6 (st : List ac) : Prop := ∀ (i : Nat) (x : ac), st[i]? = some x -> x.below st.length
theorem Bv {st : List ac} {n : Nat} (hn : st.length = n) (h : ∀ x ∈ st, x.below n) : c6 st := fun i x e => hn ▸ h x (List.mem_of_getElem? e)
noncomputable def dz (n : Nat) (o : Option AV) : Prop := ∀ a, o = some a -> a.below n
theorem dz.none {n : Nat} : dz n none := fun _ e => nomatch e
theorem dz.obj {n i : Nat} (h : i < n) : dz n (some (.obj i)) := fun a e => by cases e; exact h
theorem u4 {n : Nat} {N : List Str} {vars : List (Option AV)} (h : ∀ o ∈ vars, dz n o) : (ac.ns N vars).below n := fun _ a e => h (some a) (List.mem_of_getElem? e) a rfl
theorem c6.sub {st st' : List ac} (h : c6 st) : Sub st.length (st ++ st') st := ⟨rfl, by simp, fun i x y hi e1 e2 => by
 rw [List.getElem?_append_left hi, e2] at e1; cases e1
 have hb := h i x e2
 cases x with
 | ns names vars => exact ⟨rfl, fun j a e => ⟨e, hb j a e⟩⟩
 | cell a => exact ⟨rfl, hb⟩
 | list l => exact ⟨rfl, hb⟩
 | frz d => exact ⟨rfl, hb⟩
 | raw P => exact ⟨rfl, hb⟩⟩
noncomputable def ap (a b : Int) (o : Obj) : Prop := ∃ t u v, o = { cls := .type "range", data := .fields #[.int a t, .int b u, .int 1 v] }
noncomputable def fb (a : Int) (n : Nat) : List D := (List.range n).map fun (i : Nat) => PyData.int (a + (i : Int))
theorem j1 {a : Int} {n k : Nat} {x : D} (h : (fb a n)[k]? = some x) : x = .int (a + k) /\ k < n := by
 unfold fb at h
 rw [List.getElem?_map] at h
 by_cases q : k < n
 ·rw [List.getElem?_range q] at h; cases h; exact ⟨rfl, q⟩
 ·rw [List.getElem?_eq_none (by simp; lia)] at h; cases h
end
end Mine
end
section
open PySem PySem.Calls PyProof.Rows PySem.W PySem.SeqAt
namespace Mine
section
variable {C : Cx} {A : Around} {G : Gd} {ae : a9} {st : List ac}
noncomputable def Gd.at (G : Gd) (E : Value -> Shared -> Prop) : Gd := { G with E := E }
noncomputable def sb (C : Cx) (A : Around) (G : Gd) (ae : a9) (st : List ac) (target : Expr) (a : AV) (Q : List ac -> Prop) : Prop :=
 ∀ κ σ s v, cy ae σ G.env -> Rel C G.φ G.κ₀ κ σ st s -> RV κ σ a v -> wpAny (model C.prog C.w) A (assign target G.env v) (PA RU C G.φ G.κ₀ κ σ fun _ => Q) G.E s
theorem d8 {x : Str} {p : Pos} {a : AV} {Q : List ac -> Prop} (h : dx C A G ae st x a Q) : sb C A G ae st (.Name x p) a Q := fun κ σ s v e X r => wpAny_assign_Name (h κ σ s v e X r)
theorem me {σ σ' : List Addr} (p : σ <+: σ') : σ'.take σ.length = σ := by
 obtain ⟨r, rfl⟩ := p; simp
end
end Mine
end
section
open PySem PySem.Calls PyProof.Rows PySem.W PySem.SeqAt
namespace Mine
section
variable {C : Cx} {A : Around} {G : Gd} {ae : a9} {st : List ac}
theorem Jn {test : Expr} {body : List Stmt} {pos : Pos} {Q : AF -> List ac -> Prop} (n : Nat) (I : Nat -> List ac -> Prop) (hI : ∀ m st1, I m st1 -> st1.length = n) (m : Nat) (h0 : I m st)
  (turn : ∀ E' m st1, I m st1 -> wB C A (G.at E') ae st1 test fun b st2 => if b then wSs C A (G.at E') ae st2 body fun f st3 => match f with
    | .next | .cont => ∃ m', m' < m /\ ∃ st4, Sub n st3 st4 /\ I m' st4
    | .brk => ∃ st4, Sub n st3 st4 /\ Q .next st4
    | .ret a => Q (.ret a) st3
   else ∃ st4, Sub n st2 st4 /\ Q .next st4) : wS C A G ae st (.While test body [] pos) Q := fun κ σ s e X => by
 have hlen : σ.length = n := by rw [X.len]; exact hI m st h0
 refine wpAny_While (codeAny_whileLoop (fun m s' => ∃ κ' st', Kle κ κ' /\ Rel C G.φ G.κ₀ κ' σ st' s' /\ I m st') ?_ m ⟨κ, st, Kle.refl _, X, h0⟩)
 rintro m s' ⟨κ', st', kle, X', hi⟩
 refine wpAny_mono (turn (notedBy (model C.prog C.w) A G.env fun e s' => cameBackBy (model C.prog C.w) A G.env G.E e s') m st' hi κ' σ s' e X') (fun b s2 z => z.go fun κ2 σ2 b' st2 k2 p2 X2 r2 q2 => ?_) fun _ _ z => z
 cases (r2 : b = b')
 have cut : ∀ {κ' : Kp} {σ' : List Addr} {st5 st6 : List ac} {s5 : Shared}, σ <+: σ' -> Rel C G.φ G.κ₀ κ' σ' st5 s5 -> Sub n st5 st6 -> Rel C G.φ G.κ₀ κ' σ st6 s5 := fun p Y hs => by
  have := Y.sub hs
  rw [<- hlen, me p] at this
  exact this
 cases b with
 | false =>
  refine byC fun hC1 => ?_
  obtain ⟨st4, hs, q⟩ := q2
  refine hC1 ?_
  exact wpAny_execs_nil ⟨κ2, σ, .next, st4, kle.trans k2, List.prefix_refl _, cut p2 X2 hs, rfl, q⟩
 | true =>
  refine wpAny_mono (q2 κ2 σ2 s2 (e.mono p2) X2) (fun f s3 z => z.go fun κ3 σ3 f' st3 k3 p3 X3 r3 q3 => ?_) fun _ _ z => z
  cases f' with
  | next => cases (r3 : f = .next); obtain ⟨m', hm, st4, hs, hi4⟩ := q3; exact ⟨m', hm, κ3, st4, kle.trans (k2.trans k3), cut (p2.trans p3) X3 hs, hi4⟩
  | cont => cases (r3 : f = .cont); obtain ⟨m', hm, st4, hs, hi4⟩ := q3; exact ⟨m', hm, κ3, st4, kle.trans (k2.trans k3), cut (p2.trans p3) X3 hs, hi4⟩
  | brk => cases (r3 : f = .brk); obtain ⟨st4, hs, q⟩ := q3; exact ⟨κ3, σ, .next, st4, kle.trans (k2.trans k3), List.prefix_refl _, cut (p2.trans p3) X3 hs, rfl, q⟩
  | ret a => obtain ⟨u, rfl, ru⟩ := r3; exact ⟨κ3, σ3, .ret a, st3, kle.trans (k2.trans k3), p2.trans p3, X3, ⟨u, rfl, ru⟩, q3⟩
noncomputable def CR (σ : List Addr) (cs : List (Str × Addr)) (ca : List (Str × Nat)) : Prop := cs.map (·.1) = ca.map (·.1) /\ ∀ (j : Nat) (x : Str) (i : Nat), ca[j]? = some (x, i) -> ∃ c, cs[j]? = some (x, c) /\ σ[i]? = some c
theorem CR.nil {σ : List Addr} : CR σ [] [] := ⟨rfl, fun _ _ _ e => by simp at e⟩
theorem CR.mono {σ σ' : List Addr} {cs : List (Str × Addr)} {ca : List (Str × Nat)} (p : σ <+: σ') (h : CR σ cs ca) : CR σ' cs ca := ⟨h.1, fun j x i e => let ⟨c, h1, h2⟩ := h.2 j x i e; ⟨c, h1, cx p h2⟩⟩
theorem CR.cons {σ : List Addr} {cs : List (Str × Addr)} {ca : List (Str × Nat)} {x : Str} {i : Nat} {c : Addr} (h : CR σ cs ca) (e : σ[i]? = some c) : CR σ ((x, c) :: cs) ((x, i) :: ca) :=
 ⟨by simp [h.1], fun j y k q => by cases j with
  | zero => simp at q; obtain ⟨rfl, rfl⟩ := q; exact ⟨c, by simp, e⟩
  | succ j => simp at q ⊢; exact h.2 j y k q⟩
noncomputable def ar : List (Str × NameKind) -> Nat
 | [] => 0
 | (_, k) :: r => if k == .cell then ar r + 1 else ar r
theorem b8 (h : Heap) : h.get? h.objs.size = none := by
 cases q : h.get? h.objs.size with
 | none => rfl
 | some o' => exact absurd (Heap.lt_size q) (Nat.lt_irrefl _)
theorem Bo {M : Model} {E : Value -> Shared -> Prop} {φ κ₀ κ : Kp} {Q : List (Str × Addr) -> Shared -> Prop} : ∀ (names : List (Str × NameKind)) (σ : List Addr) (st : List ac) (cs : List (Str × Addr)) (ca : List (Str × Nat)) (s : Shared),
  Rel C φ κ₀ κ σ st s -> CR σ cs ca →
  (∀ cs' σ' s', σ <+: σ' -> CR σ' cs' (cellsFrom st.length names ca) -> Rel C φ κ₀ κ σ' (st ++ List.replicate (ar names) (.cell none)) s' -> (∀ b o, s.heap.get? b = some o -> s'.heap.get? b = some o) -> Q cs' s') →
  wpAny M A (forIn names cs fun x cells => (if x.2 == .cell then do let a ← alloc { cls := .type "cell", data := .cell none }; pure (ForInStep.yield ((x.1, a) :: cells)) else pure (ForInStep.yield cells) : Sem _)) Q E s := by
 intro names
 induction names with
 | nil => intro σ st cs ca s X c h; rw [List.forIn_nil]; exact wpAny_pure (h cs σ s (List.prefix_refl _) c (by simpa [ar] using X) fun _ _ e => e)
 | cons x r ih =>
  intro σ st cs ca s X c h
  obtain ⟨n, k⟩ := x
  rw [List.forIn_cons]
  cases hk : (k == NameKind.cell) with
  | false =>
   simp only [hk, Bool.false_eq_true, if_false]
   refine wpAny_bind (wpAny_pure (ih σ st cs ca s X c fun cs' σ' s' p c' X' hk' => h cs' σ' s' p ?_ ?_ hk'))
   ·simpa [cellsFrom, hk] using c'
   ·simpa [ar, hk] using X'
  | true =>
   simp only [hk, if_true]
   refine wpAny_bind (wpAny_bind (wpAny_alloc (wpAny_pure ?_)))
   have X1 := X.alloc (s' := { s with heap := s.heap.push { cls := .type "cell", data := .cell none } }) (a := s.heap.objs.size) (x := .cell none) (b8 _) (fun b o e => Heap.get?_push_of_some _ e) (Heap.get?_push_size _ rfl) rfl rfl ⟨none, rfl⟩ trivial
   have c1 : CR (σ ++ [s.heap.objs.size]) ((n, s.heap.objs.size) :: cs) ((n, st.length) :: ca) := (c.mono (List.prefix_append ..)).cons (by rw [<- X.len]; simp)
   refine ih _ _ _ _ _ X1 c1 fun cs' σ' s' p c' X' hk' => h cs' σ' s' ((List.prefix_append ..).trans p) ?_ ?_ fun b o e => hk' _ _ (Heap.get?_push_of_some _ e)
   ·simpa [cellsFrom, hk] using c'
   ·have : st ++ [ac.cell none] ++ List.replicate (ar r) (.cell none) = st ++ List.replicate (ar ((n, k) :: r)) (.cell none) := by
     simp [ar, hk, List.replicate_succ]
    rw [<- this]; exact X'
noncomputable def bu (C : Cx) (A : Around) (G : Gd) (ae : a9) : List (Str × AV) -> List ac -> (List ac -> Prop) -> Prop
 | [], st, Q => Q st
 | (x, a) :: r, st, Q => dx C A G ae st x a fun st' => bu C A G ae r st' Q
theorem D4 {Q : List ac -> Prop} {R : PUnit -> Shared -> Prop} {κ : Kp} : ∀ (bs : List (Str × AV)) (vs : List (Str × Value)) (σ : List Addr) (st : List ac) (s : Shared), cy ae σ G.env -> Rel C G.φ G.κ₀ κ σ st s -> vs.map (·.1) = bs.map (·.1) -> RVL κ σ (bs.map (·.2)) (vs.map (·.2)) →
  bu C A G ae bs st Q -> (∀ κ' σ' st' s', Kle κ κ' -> σ <+: σ' -> Rel C G.φ G.κ₀ κ' σ' st' s' -> Q st' -> R ⟨⟩ s') →
  wpAny (model C.prog C.w) A (forIn vs PUnit.unit fun x _ => do storeName G.env x.1 x.2; pure (ForInStep.yield PUnit.unit)) R G.E s := by
 intro bs
 induction bs generalizing κ with
 | nil =>
  intro vs σ st s e X hn hr h hR
  cases vs with
  | cons => simp at hn
  | nil => rw [List.forIn_nil]; exact wpAny_pure (hR κ σ st s (Kle.refl _) (List.prefix_refl _) X h)
 | cons b r ih =>
  intro vs σ st s e X hn hr h hR
  obtain ⟨x, a⟩ := b
  cases vs with
  | nil => simp at hn
  | cons v vs =>
   obtain ⟨y, v⟩ := v
   simp at hn
   obtain ⟨rfl, hn⟩ := hn
   obtain ⟨u, e0, r0⟩ := hr.2 0 a (by simp)
   simp at e0; subst e0
   rw [List.forIn_cons]
   refine wpAny_bind (wpAny_bind (wpAny_mono (h κ σ s v e X r0) (fun _ s1 z => z.go fun κ1 σ1 _ st1 k1 p1 X1 _ q1 => wpAny_pure ?_) fun _ _ z => z))
   refine ih vs σ1 st1 s1 (e.mono p1) X1 (by simpa using hn) (RVL.mono k1 p1 ⟨by have := hr.1; simpa using this, fun i z ez => by have := hr.2 (i + 1) z (by simpa using ez); simpa using this⟩) q1 fun κ' σ' st' s' k p X' q => hR κ' σ' st' s' (k1.trans k) (p1.trans p) X' q
end
end Mine
end
section
open PySem PySem.Calls PyProof.Rows PySem.W PySem.SeqAt
namespace Mine
theorem qa (scope : Scope) (globals : Addr) (closure : List (Str × Addr)) (binds : List (Str × Value)) (qual : Str) (func : Option Addr) (code : Value) (around : Option Env) (builtins : Addr) :
  newFunctionEnv scope globals closure binds qual func code around builtins = (do
   let locals ← alloc { cls := .type (if around.isSome then "dict" else "frame"), data := .dict #[] }
   let cells ← forIn scope.names closure fun x cells => (if x.2 == .cell then do let a ← alloc { cls := .type "cell", data := .cell none }; pure (ForInStep.yield ((x.1, a) :: cells)) else pure (ForInStep.yield cells) : Sem _)
   forIn binds PUnit.unit fun x _ => do storeName (newEnv scope locals globals cells qual func code around builtins) x.1 x.2; pure (ForInStep.yield PUnit.unit)
   pure (newEnv scope locals globals cells qual func code around builtins)) := by
 cases around <;> rfl
section
variable {C : Cx} {A : Around} {G : Gd} {st : List ac}
noncomputable def pw (code : Value) : Option Env -> Value
 | some o => o.code
 | none => code
noncomputable def qz (L : Addr) : Option Env -> Option Addr
 | some o => o.frame
 | none => some L
noncomputable def Ap (b : Addr) : Option Env -> Addr
 | some o => o.builtins
 | none => b
theorem NsO.empty (c : Value) : NsO { cls := c, data := .dict #[] } fun _ => none := ⟨#[], 0, rfl, fun e he => by simp at he, fun name => by simp [nsFind, findBy]⟩
theorem ik {φ κ₀ κ : Kp} {σ : List Addr} {s : Shared} {scope : Scope} {globals : Addr} {closure : List (Str × Addr)} {ca : List (Str × Nat)} {binds : List (Str × Value)} {bs : List (Str × AV)} {qual : Str} {func : Option Addr} {code : Value} {around : Option Env} {builtins : Addr}
  {E : Value -> Shared -> Prop} {Q : Env -> Shared -> Prop} {Q' : Env -> List ac -> Prop} (X : Rel C φ κ₀ κ σ st s) (c : CR σ closure ca) (ok : ew scope) (hcn : ((cellsFrom (st.length + 1) scope.names ca).map (·.1)).Nodup)
  (hfr : ef scope = true -> ∀ L0, ∃ L, qz L0 around = some L /\ (σ ++ [L0])[0]? = some L) (hg : globals = mainGlobals) (hb : Ap builtins around = builtinsNs) (hn : binds.map (·.1) = bs.map (·.1)) (hr : RVL κ σ (bs.map (·.2)) (binds.map (·.2)))
  (stores : ∀ env, bu C A ⟨φ, κ₀, env, E⟩ ⟨scope, st.length, cellsFrom (st.length + 1) scope.names ca, pw code around, qual⟩ bs (st ++ [.ns (scope.names.map (·.1)) (List.replicate scope.names.length none)] ++ List.replicate (ar scope.names) (.cell none)) (Q' env))
  (h : ∀ κ' σ' st' env s', Kle κ κ' -> σ <+: σ' -> cy ⟨scope, st.length, cellsFrom (st.length + 1) scope.names ca, pw code around, qual⟩ σ' env -> (∃ cells, env = newEnv scope s.heap.objs.size globals cells qual func code around builtins) -> Rel C φ κ₀ κ' σ' st' s' -> Q' env st' -> Q env s') :
  wpAny (model C.prog C.w) A (newFunctionEnv scope globals closure binds qual func code around builtins) Q E s := by
 rw [qa]
 refine wpAny_bind (wpAny_alloc ?_)
 have X1 := X.alloc (s' := { s with heap := s.heap.push { cls := .type (if around.isSome then "dict" else "frame"), data := .dict #[] } }) (a := s.heap.objs.size) (x := .ns (scope.names.map (·.1)) (List.replicate scope.names.length none))
  (b8 _) (fun b o e => Heap.get?_push_of_some _ e) (Heap.get?_push_size _ rfl) rfl rfl ⟨ok.nd, _, NsO.empty _, fun i x a e1 e2 => by
   rw [List.getElem?_replicate] at e2
   split at e2 <;> cases e2⟩ trivial
 have p1 : σ <+: σ ++ [s.heap.objs.size] := List.prefix_append ..
 refine wpAny_bind (Bo scope.names _ _ _ _ _ X1 (c.mono p1) fun cs' σ2 s2 p2 c2 X2 _ => ?_)
 rw [show (st ++ [ac.ns (scope.names.map (·.1)) (List.replicate scope.names.length none)]).length = st.length + 1 by simp] at c2
 have hL : σ2[st.length]? = some s.heap.objs.size := cx p2 (by rw [<- X.len]; simp)
 have eR : cy ⟨scope, st.length, cellsFrom (st.length + 1) scope.names ca, pw code around, qual⟩ σ2 (newEnv scope s.heap.objs.size globals cs' qual func code around builtins) := by
  refine ⟨?_, ?_, ?_, hcn, ?_, ?_, ?_, ?_, ?_, ok, ?_⟩
  ·cases around <;> rfl
  ·cases around <;> exact hL
  ·cases around <;> exact c2.1
  ·cases around <;> exact c2.2
  ·cases around <;> rfl
  ·cases around <;> rfl
  ·cases around <;> exact hg
  ·cases around <;> exact hb
  ·intro h
   obtain ⟨L, h1, h2⟩ := hfr h s.heap.objs.size
   refine ⟨L, by cases around <;> exact h1, ?_⟩
   exact cx p2 h2
 refine wpAny_bind ?_
 refine D4 (G := ⟨φ, κ₀, newEnv scope s.heap.objs.size globals cs' qual func code around builtins, E⟩) bs binds σ2 _ s2 eR X2 hn (hr.mono (Kle.refl _) (p1.trans p2)) (stores _) fun κ' σ' st' s' k p X' q => ?_
 exact wpAny_pure (h κ' σ' st' _ s' k ((p1.trans p2).trans p) (eR.mono p) ⟨cs', rfl⟩ X' q)
structure ph (C : Cx) (κ : Kp) (s : Shared) : Prop where
 prog : Kle C.P0 κ
 keep : ∀ b o, κ b = some o -> s.heap.get? b = some o
 tabs : ∀ P ∈ C.tabs, ub C κ s.heap P /\ κ P = none
 gens : s.gens = #[]
 os : s.os = C.os
noncomputable def Jg (C : Cx) (s s' : Shared) : Prop := ∀ b o, b ∉ C.tabs -> s.heap.get? b = some o -> s'.heap.get? b = some o
inductive wi (C : Cx) (κ : Kp) (s : Shared) (post : D -> Prop) (r : Value) (s' : Shared) : Prop
 | mk (κ' : Kp) (d : D) (k : Kle κ κ') (B : ph C κ' s') (hn : ∀ b o, κ' b = some o -> κ b = some o ∨ s.heap.get? b = none) (hk : Jg C s s') (hr : R κ' d r) (hp : post d)
noncomputable def et (C : Cx) (φf κf : Kp) (n : Nat) (f : Value) (as : List AV) (names : List Str) (ks : List AV) (post : D -> Prop) : Prop :=
 ∀ A E κ s vs kvs, AOk A n -> ph C κ s -> Kle κf κ -> (∀ b o, κ b = some o -> κf b = some o ∨ φf b = none) -> (∀ b o, φf b = some o -> s.heap.get? b = some o) -> RVL κ [] as vs -> RVL κ [] ks kvs →
  gt s f /\ wpAny (model C.prog C.w) A (call f vs (names.zip kvs)) (wi C κ s post) E s
theorem Rel.base {φ κ₀ κ : Kp} {σ : List Addr} {s : Shared} (X : Rel C φ κ₀ κ σ st s) : ph C κ s := ⟨X.prog, X.keep, fun P hP => ⟨(X.tabs P hP).1, (X.tabs P hP).2.2.1⟩, X.gens, X.os⟩
theorem Rel.behind {φ κ₀ κ κ' : Kp} {σ : List Addr} {s s' : Shared} (X : Rel C φ κ₀ κ σ st s) (k : Kle κ κ') (B : ph C κ' s') (hn : ∀ b o, κ' b = some o -> κ b = some o ∨ s.heap.get? b = none) (hk : Jg C s s') : Rel C φ κ₀ κ' σ st s' := by
 have hφT : ∀ P ∈ C.tabs, φ P = none := fun P hP => (X.tabs P hP).2.1
 have notab : ∀ a, a ∈ σ -> a ∉ C.tabs := fun a ha hT => (X.tabs a hT).2.2.2 ha
 refine ⟨X.prog.trans k, X.k0.trans k, fun b o e => ?_, B.keep, fun b o e => hk b o (fun hT => by exact bq (hφT b hT) e) (X.phi b o e), X.len, X.nd, fun i a x e1 e2 => ?_, fun P hP => ?_, B.gens, B.os⟩
 ·rcases hn b o e with e | e
  ·exact X.new b o e
  ·right
   refine bz fun o' q => ?_
   rw [X.phi _ _ q] at e; cases e
 ·have ha := notab a (List.mem_of_getElem? e1)
  have hκ' : ∀ o, s.heap.get? a = some o -> κ a = none -> κ' a = none := fun o h1 h2 => by
   refine bz fun o' q => ?_
   rcases hn a o' q with e | e
   ·exact bq h2 e
   ·rw [h1] at e; cases e
  exact (X.own i a x e1 e2).map k (List.prefix_refl _) fun h1 h2 o h3 => ⟨hκ' o h3 h1, h2, hk _ _ ha h3⟩
 ·exact ⟨(B.tabs P hP).1, hφT P hP, (B.tabs P hP).2, (X.tabs P hP).2.2.2⟩
noncomputable def AV.flat : AV -> Prop
 | .obj _ => False
 | _ => True
theorem RVL.flat {κ : Kp} {σ : List Addr} {as : List AV} {vs : List Value} (h : RVL κ σ as vs) (hf : ∀ a ∈ as, a.flat) : RVL κ [] as vs :=
 ⟨h.1, fun i a e => by
  obtain ⟨v, h1, h2⟩ := h.2 i a e
  have := hf a (List.mem_of_getElem? e)
  cases a with
  | obj => exact this.elim
  | d x => exact ⟨v, h1, h2⟩
  | glob w => exact ⟨v, h1, h2⟩⟩
theorem e7 {n : Nat} {f : Value} {as : List AV} {names : List Str} {ks : List AV} {post : D -> Prop} {Q : AV -> List ac -> Prop} (F : et C (fun _ => none) C.P0 n f as names ks post) (hA : AOk A n) (h1 : ∀ a ∈ as, a.flat) (h2 : ∀ a ∈ ks, a.flat)
  (q : ∀ d, post d -> Q (.d d) st) : ry C A G st (.glob f) as names ks Q := fun κ σ s vf vs kvs X rf ra rk => by
 cases (rf : vf = _)
 obtain ⟨c, w⟩ := F A G.E κ s vs kvs hA X.base X.prog (fun _ _ _ => .inr rfl) (fun _ _ e => by cases e) (ra.flat h1) (rk.flat h2)
 exact ⟨c, wpAny_mono w (fun r s' ⟨κ', d, k, B, hn, hk, hr, hp⟩ => ⟨κ', σ, .d d, st, k, List.prefix_refl _, X.behind k B hn hk, hr, q d hp⟩) fun _ _ z => z⟩
theorem y0 {φf κf : Kp} {n : Nat} {f : Value} {as : List AV} {names : List Str} {ks : List AV} {post : D -> Prop} {Q : AV -> List ac -> Prop} (F : et C φf κf n f as names ks post) (hA : AOk A n) (hφ : ∀ b o, φf b = some o -> G.φ b = some o) (hκ : Kle κf G.κ₀)
  (hn : ∀ b o, G.κ₀ b = some o -> κf b = some o ∨ φf b = none) (h1 : ∀ a ∈ as, a.flat) (h2 : ∀ a ∈ ks, a.flat)
  (q : ∀ d, post d -> Q (.d d) st) : ry C A G st (.glob f) as names ks Q := fun κ σ s vf vs kvs X rf ra rk => by
 cases (rf : vf = _)
 obtain ⟨c, w⟩ := F A G.E κ s vs kvs hA X.base (hκ.trans X.k0) (fun b o e => by
  rcases X.new b o e with h | h
  ·exact hn b o h
  ·right; refine bz fun o' q => ?_
   rw [hφ b o' q] at h; cases h) (fun b o e => X.phi b o (hφ b o e)) (ra.flat h1) (rk.flat h2)
 exact ⟨c, wpAny_mono w (fun r s' ⟨κ', d, k, B, hn, hk, hr, hp⟩ => ⟨κ', σ, .d d, st, k, List.prefix_refl _, X.behind k B hn hk, hr, q d hp⟩) fun _ _ z => z⟩
end
end Mine
end
section
open PySem PySem.Calls PyProof.Rows PySem.W PySem.SeqAt
namespace Mine
theorem AOk.in1 {A : Around} {n : Nat} (h : AOk A (n + 1)) : AOk A.in1 n := ⟨h.handled, by have := h.depth; simp only [Around.in1_depth]; lia, by have := h.units; simp only [Around.in1_units]; lia⟩
theorem AOk.deeper {A : Around} {n : Nat} (h : AOk A (n + 1)) (env : Env) : AOk (A.deeper env) n := ⟨h.handled, by have := h.depth; show A.depth + 1 + n <= 690; lia, by have := h.units; show A.units + 3 + 20 * n <= 9000; lia⟩
theorem AOk.mono {A : Around} {n m : Nat} (h : AOk A n) (hm : m <= n) : AOk A m := ⟨h.handled, by have := h.depth; lia, by have := h.units; lia⟩
theorem AOk.room {A : Around} {n : Nat} (h : AOk A n) : A.units + 64 < cLine := by have := h.units; rw [cLine]; lia
structure zh (C : Cx) (f : Value) (fd : FuncData) (body : List Stmt) : Prop where
 at_ : ∃ a o, f = .ref a /\ C.P0 a = some o /\ o.data = .func fd
 body : fd.body = .stmts body
 closure : fd.closure = []
 globals : fd.globals = mainGlobals
 builtins : fd.builtins = builtinsNs
 code : oq C.P0 fd.code fd.qualname
 co : fd.scope.isCoroutine = false
 gen : fd.scope.isGenerator = false
noncomputable def ci (C : Cx) : Prop := ∀ h : Heap, (∀ b o, C.P0 b = some o -> h.get? b = some o) -> h.NoLimit
noncomputable def pv (post : D -> Prop) : AF -> List ac -> Prop
 | .ret (.d d), _ => post d
 | .ret (.obj i), st => (∃ ds : List D, st[i]? = some (.list (ds.map .d)) /\ post (.list ds)) ∨ ∃ d, st[i]? = some (.frz d) /\ post d
 | .ret (.glob _), _ => False
 | _, _ => post .none
noncomputable abbrev jn (C : Cx) (s : Shared) : Kp := fun b => if b ∈ C.tabs then none else s.heap.get? b
noncomputable abbrev nmz (fd : FuncData) : List Str := fd.scope.names.map (·.1)
theorem Rel.start {C : Cx} {κ : Kp} {s : Shared} (B : ph C κ s) : Rel C (jn C s) κ κ [] [] s :=
 ⟨B.prog, Kle.refl _, fun b o e => .inl e, B.keep, fun b o e => by
  by_cases h : b ∈ C.tabs
  ·simp [h] at e
  ·simpa [h] using e, rfl, List.nodup_nil, fun i a x e => by simp at e, fun P hP => ⟨(B.tabs P hP).1, by simp [hP], (B.tabs P hP).2, by simp⟩, B.gens, B.os⟩
noncomputable def flv : Flow -> Value
 | .ret v => v
 | _ => .none
theorem Rel.finish {C : Cx} {κ κ' : Kp} {σ : List Addr} {st : List ac} {s s' : Shared} {post : D -> Prop} {f : AF} {fl : Flow} (k : Kle κ κ') (X : Rel C (jn C s) κ κ' σ st s') (r : RF κ' σ f fl) (q : pv post f st) :
  wi C κ s post (flv fl) s' := by
 have fin : ∀ {κ'' : Kp} {st' : List ac} {v : Value} {d : D}, Kle κ κ'' -> Rel C (jn C s) κ κ'' σ st' s' -> R κ'' d v -> post d -> wi C κ s post v s' := fun k X r q =>
  ⟨_, _, k, X.base, fun b o e => by
   rcases X.new b o e with e' | e'
   ·exact .inl e'
   ·by_cases h : b ∈ C.tabs
    ·exact bq ((X.tabs b h).2.2.1) e
    ·right; simpa [h] using e', fun b o hb e => X.phi b o (by simp [hb, e]), r, q⟩
 cases f with
 | next => cases (r : fl = .next); exact fin k X (show R κ' .none .none from rfl) q
 | brk => cases (r : fl = .brk); exact fin k X (show R κ' .none .none from rfl) q
 | cont => cases (r : fl = .cont); exact fin k X (show R κ' .none .none from rfl) q
 | ret a =>
  obtain ⟨v, rfl, r⟩ := r
  cases a with
  | d x => exact fin k X r q
  | glob w => exact q.elim
  | obj i =>
   obtain ⟨a, ha, rfl⟩ := r
   rcases q with ⟨ds, e, q⟩ | ⟨d, e, q⟩
   ·obtain ⟨κ2, k2, X2⟩ := X.freeze e
    have hi : i < st.length := by
     by_cases q : i < st.length
     ·exact q
     ·exact bq (List.getElem?_eq_none (by lia)) e
    obtain ⟨a', ha', r'⟩ := X2.frz (i := i) (d := .list ds) (by rw [List.getElem?_set_self hi])
    rw [ha] at ha'; cases ha'
    exact fin (k.trans k2) X2 r' q
   ·obtain ⟨a', ha', r'⟩ := X.frz e
    rw [ha] at ha'; cases ha'
    exact fin k X r' q
theorem D5 {C : Cx} {φf κf : Kp} {f : Value} {fd : FuncData} {body : List Stmt} {n : Nat} {as : List AV} {names : List Str} {ks : List AV} {bs : List (Str × AV)} {post : D -> Prop} (F : zh C f fd body) (hφt : ∀ b ∈ C.tabs, φf b = none) (hl : ci C) (ok : ew fd.scope)
  (hcn : ((cellsFrom 1 fd.scope.names []).map (·.1)).Nodup)
  (hbind : ∀ (s : Shared) (vs kvs : List Value), (∀ b o, C.P0 b = some o -> s.heap.get? b = some o) -> vs.length = as.length -> kvs.length = ks.length -> ∃ binds, BindsTo s fd ⟨vs, names.zip kvs⟩ binds /\ binds.map (·.1) = bs.map (·.1) ∧
   ∀ κ : Kp, RVL κ [] as vs -> RVL κ [] ks kvs -> RVL κ [] (bs.map (·.2)) (binds.map (·.2)))
  (run : ∀ A G A', AOk A n -> (∀ b o, φf b = some o -> G.φ b = some o) -> Kle κf G.κ₀ -> (∀ b o, G.κ₀ b = some o -> κf b = some o ∨ φf b = none) -> bu C A' G ⟨fd.scope, 0, cellsFrom 1 fd.scope.names [], fd.code, fd.qualname ++ ".<locals>."⟩ bs ([.ns (fd.scope.names.map (·.1)) (List.replicate fd.scope.names.length none)] ++ List.replicate (ar fd.scope.names) (.cell none))
   fun st0 => ∀ E, wSs C A (G.at E) ⟨fd.scope, 0, cellsFrom 1 fd.scope.names [], fd.code, fd.qualname ++ ".<locals>."⟩ st0 body (pv post)) :
  et C φf κf (n + 1) f as names ks post := by
 intro A E κ s vs kvs hA B hκf hnew hφf ra rk
 obtain ⟨a, o, rfl, ha, hd⟩ := F.at_
 have hp0 : ∀ b o, C.P0 b = some o -> s.heap.get? b = some o := fun b o e => B.keep _ _ (B.prog _ _ e)
 have hs := hp0 _ _ ha
 refine ⟨.inr (.inr ⟨a, o, fd, rfl, hs, hd⟩), wpAny_call ?_⟩
 obtain ⟨binds, hB, hn, hr⟩ := hbind s vs kvs hp0 ra.1 rk.1
 refine codeAny_call_function (by have := hA.depth; rw [recursionLimit]; lia) hs hd F.co F.gen F.body (F.code.rec hp0) (hB _ _ _ _ ?_)
 rw [F.closure]
 refine ik (bs := bs) (Q' := fun env st0 => ∀ E, wSs C (A.deeper env) ((⟨(jn C s), κ, env, fun _ _ => False⟩ : Gd).at E) ⟨fd.scope, 0, cellsFrom 1 fd.scope.names [], fd.code, fd.qualname ++ ".<locals>."⟩ st0 body (pv post)) (Rel.start B) CR.nil ok hcn (fun _ L0 => ⟨L0, rfl, rfl⟩) F.globals F.builtins hn (hr κ ra rk)
  (fun env => ?_) fun κ' σ' st' env s' k p e ⟨cells, he⟩ X q => ?_
 ·exact run (A.deeper env) ⟨_, κ, env, _⟩ A.in1 (hA.deeper env) (fun b o e => by
   have : b ∉ C.tabs := fun hb => by exact bq (hφt b hb) e
   simp [this]; exact hφf b o e) hκf hnew
 ·refine ⟨hl _ X.p0, codeAny_func ?_⟩
  refine wpAny_mono (q _ κ' σ' s' e X) (fun fl s2 z => z.go fun κ2 σ2 f st2 k2 p2 X2 r2 q2 => ?_) fun _ _ z => z
  have := Rel.finish (k.trans k2) X2 r2 q2
  cases fl <;> exact this
theorem x7 {C : Cx} {f : Value} {fd : FuncData} {body : List Stmt} {n : Nat} {as : List AV} {names : List Str} {ks : List AV} {bs : List (Str × AV)} {post : D -> Prop} (F : zh C f fd body) (hl : ci C) (ok : ew fd.scope)
  (hcn : ((cellsFrom 1 fd.scope.names []).map (·.1)).Nodup)
  (hbind : ∀ (s : Shared) (vs kvs : List Value), (∀ b o, C.P0 b = some o -> s.heap.get? b = some o) -> vs.length = as.length -> kvs.length = ks.length -> ∃ binds, BindsTo s fd ⟨vs, names.zip kvs⟩ binds /\ binds.map (·.1) = bs.map (·.1) ∧
   ∀ κ : Kp, RVL κ [] as vs -> RVL κ [] ks kvs -> RVL κ [] (bs.map (·.2)) (binds.map (·.2)))
  (run : ∀ A G A', AOk A n -> bu C A' G ⟨fd.scope, 0, cellsFrom 1 fd.scope.names [], fd.code, fd.qualname ++ ".<locals>."⟩ bs ([.ns (fd.scope.names.map (·.1)) (List.replicate fd.scope.names.length none)] ++ List.replicate (ar fd.scope.names) (.cell none))
   fun st0 => ∀ E, wSs C A (G.at E) ⟨fd.scope, 0, cellsFrom 1 fd.scope.names [], fd.code, fd.qualname ++ ".<locals>."⟩ st0 body (pv post)) :
  et C (fun _ => none) C.P0 (n + 1) f as names ks post :=
 D5 F (fun _ _ => rfl) hl ok hcn hbind fun A G A' hA _ _ _ => run A G A' hA
end Mine
end
section
open PySem PySem.Calls PyProof.Rows PySem.W PySem.SeqAt PyProof.V
namespace Mine
section
variable {C : Cx} {A : Around} {G : Gd} {ae : a9} {st : List ac} {Q : AV -> List ac -> Prop}
theorem Rel.data {φ κ₀ κ : Kp} {σ : List Addr} {s : Shared} (X : Rel C φ κ₀ κ σ st s) {s' : Shared} {a : Addr} {o : Obj} (hn : s.heap.get? a = none) (hk : ∀ b o, s.heap.get? b = some o -> s'.heap.get? b = some o) (ha : s'.heap.get? a = some o)
  (hg : s'.gens = s.gens) (ho : s'.os = s.os) : Kle κ (cc κ a o) /\ Rel C φ κ₀ (cc κ a o) σ st s' := by
 have Y := X.keeps hk hg ho
 have hκ : κ a = none := bz fun o' q => bq hn (X.keep _ _ q)
 have hφ : φ a = none := bz fun o' q => bq hn (X.phi _ _ q)
 have hle := eu (o := o) hκ
 have hself : cc κ a o a = some o := if_pos rfl
 refine ⟨hle, X.prog.trans hle, X.k0.trans hle, fun b x e => ?_, fun b x e => ?_, Y.phi, X.len, X.nd, fun i b x e1 e2 => ?_, fun P hP => ?_, Y.gens, Y.os⟩
 ·by_cases q : b = a
  ·subst q; exact .inr hφ
  ·rw [bp q] at e; exact X.new b x e
 ·by_cases q : b = a
  ·subst q; rw [hself] at e; cases e; exact ha
  ·rw [bp q] at e; exact Y.keep b x e
 ·have hba : b ≠ a := fun q => X.mem (List.mem_of_getElem? e1) (fun o e => bq hκ (q ▸ e)) fun _ _ o e => bq hn (q ▸ e)
  exact (Y.own i b x e1 e2).map hle (List.prefix_refl _) fun h1 h2 o h3 => ⟨(bp hba).trans h1, h2, h3⟩
 ·refine byC fun hC1 => ?_
  obtain ⟨⟨ps, e, _⟩, _⟩ := X.tabs P hP
  have hPa : P ≠ a := fun q => bq hn (q ▸ e)
  obtain ⟨h1, h2, h3, h4⟩ := Y.tabs P hP
  refine hC1 ?_
  exact ⟨h1.keeps hle fun _ e => e, h2, by rw [bp hPa]; exact h3, h4⟩
theorem PA.newList {φ κ₀ κ : Kp} {σ : List Addr} {s : Shared} {ds : List D} {vs : Array Value} {n : Nat} {tk : Tok} (X : Rel C φ κ₀ κ σ st s) (h : RL κ ds vs.toList) (q : Q (.d (.list ds)) st) :
  PA RV C φ κ₀ κ σ Q (.ref s.heap.objs.size) { s with heap := s.heap.push { cls := .type "list", data := .seq vs n }, toks := tk } := by
 refine byC fun hC1 => ?_
 obtain ⟨k, Y⟩ := X.data (s' := { s with heap := s.heap.push { cls := .type "list", data := .seq vs n }, toks := tk }) (b8 _) (fun b o e => Heap.get?_push_of_some _ e) (Heap.get?_push_size _ rfl) rfl rfl
 refine hC1 ?_
 refine ⟨_, σ, .d (.list ds), st, k, List.prefix_refl _, Y, ?_, q⟩
 simp only [RV, R]
 exact ⟨_, _, vs, n, rfl, if_pos rfl, rfl, rfl, rfl, h.mono k⟩
theorem PA.newTuple {φ κ₀ κ : Kp} {σ : List Addr} {s : Shared} {ds : List D} {vs : Array Value} {n : Nat} {tk : Tok} (X : Rel C φ κ₀ κ σ st s) (h : RL κ ds vs.toList) (q : Q (.d (.tuple ds)) st) :
  PA RV C φ κ₀ κ σ Q (.ref s.heap.objs.size) { s with heap := s.heap.push { cls := .type "tuple", data := .seq vs n }, toks := tk } := by
 obtain ⟨k, Y⟩ := X.data (s' := { s with heap := s.heap.push { cls := .type "tuple", data := .seq vs n }, toks := tk }) (b8 _) (fun b o e => Heap.get?_push_of_some _ e) (Heap.get?_push_size _ rfl) rfl rfl
 refine ⟨_, σ, .d (.tuple ds), st, k, List.prefix_refl _, Y, ?_, q⟩
 simp only [RV, R]
 exact ⟨_, _, vs, n, rfl, if_pos rfl, rfl, rfl, rfl, h.mono k⟩
theorem PA.trackList {φ κ₀ κ : Kp} {σ : List Addr} {s : Shared} {l : List AV} {vs : Array Value} {n : Nat} {tk : Tok} (X : Rel C φ κ₀ κ σ st s) (h : RVL κ σ l vs.toList) (q : Q (.obj st.length) (st ++ [.list l])) :
  PA RV C φ κ₀ κ σ Q (.ref s.heap.objs.size) { s with heap := s.heap.push { cls := .type "list", data := .seq vs n }, toks := tk } := by
 have p : σ <+: σ ++ [s.heap.objs.size] := List.prefix_append ..
 refine ⟨κ, σ ++ [s.heap.objs.size], .obj st.length, st ++ [.list l], Kle.refl _, p, X.alloc (s' := { s with heap := s.heap.push { cls := .type "list", data := .seq vs n }, toks := tk }) (x := .list l) (b8 _) (fun b o e => Heap.get?_push_of_some _ e) (Heap.get?_push_size _ rfl) rfl rfl ⟨vs, n, rfl, h.mono (Kle.refl _) p⟩ trivial, ⟨_, by rw [<- X.len]; simp, rfl⟩, q⟩
theorem qh {es : List Expr} {pos : Pos} (h : ky C A G ae st pos es fun as st1 => as.length <= sizeLine /\ Q (.obj st1.length) (st1 ++ [.list as])) : wE C A G ae st (.List es pos) Q := fun κ σ s e X =>
 List_ (wpAny_mono (h κ σ s e X) (fun vs s1 z => z.go fun κ1 σ1 as st1 k1 p1 X1 r1 q1 => wpAny_newList (PA.up k1 p1 (PA.trackList (n := 0) X1 (by simpa using r1) q1.2)) (by rw [r1.1]; exact q1.1)) fun _ _ z => z)
theorem jv {es : List Expr} {pos : Pos} (h : ky C A G ae st pos es fun as st1 => ∃ ds : List D, as = ds.map .d /\ ds.length <= sizeLine /\ Q (.d (.list ds)) st1) : wE C A G ae st (.List es pos) Q := fun κ σ s e X =>
 List_ (wpAny_mono (h κ σ s e X) (fun vs s1 z => z.go fun κ1 σ1 as st1 k1 p1 X1 r1 ⟨ds, hd, hl, q⟩ => by
  subst hd
  exact wpAny_newList (PA.up k1 p1 (PA.newList (n := 0) X1 (by simpa using r1.toD) q)) (by rw [r1.1]; simpa using hl)) fun _ _ z => z)
theorem fx {es : List Expr} {k : Nat} {pos : Pos} (h : ky C A G ae st pos es fun as st1 => ∃ ds : List D, as = ds.map .d /\ ds.length <= sizeLine /\ Q (.d (.tuple ds)) st1) : wE C A G ae st (.Tuple es k pos) Q := fun κ σ s e X =>
 Tuple_ (wpAny_mono (h κ σ s e X) (fun vs s1 z => z.go fun κ1 σ1 as st1 k1 p1 X1 r1 ⟨ds, hd, hl, q⟩ => by
  subst hd
  exact wpAny_newTuple (PA.up k1 p1 (PA.newTuple (n := 0) X1 (by simpa using r1.toD) q)) (by rw [r1.1]; simpa using hl)) fun _ _ z => z)
theorem RVL.one {κ : Kp} {σ : List Addr} {a : AV} {vs : List Value} (h : RVL κ σ [a] vs) : ∃ v, vs = [v] /\ RV κ σ a v := by
 match vs, h with
 | [v], h => obtain ⟨u, e, r⟩ := h.2 0 a rfl; simp at e; subst e; exact ⟨v, rfl, r⟩
 | [], h => have := h.1; simp at this
 | _ :: _ :: _, h => have := h.1; simp at this
theorem RVL.two {κ : Kp} {σ : List Addr} {a b : AV} {vs : List Value} (h : RVL κ σ [a, b] vs) : ∃ v u, vs = [v, u] /\ RV κ σ a v /\ RV κ σ b u := by
 obtain ⟨v, u, rfl⟩ := wo h.1
 obtain ⟨w, e, r⟩ := h.2 0 a rfl
 obtain ⟨w', e', r'⟩ := h.2 1 b rfl
 cases e; cases e'; exact ⟨_, _, rfl, r, r'⟩
theorem RVL.three {κ : Kp} {σ : List Addr} {a b c : AV} {vs : List Value} (h : RVL κ σ [a, b, c] vs) : ∃ v u w, vs = [v, u, w] /\ RV κ σ a v /\ RV κ σ b u /\ RV κ σ c w := by
 obtain ⟨v, u, x, rfl⟩ := K6 h.1
 obtain ⟨w, e, r⟩ := h.2 0 a rfl
 obtain ⟨w', e', r'⟩ := h.2 1 b rfl
 obtain ⟨w'', e'', r''⟩ := h.2 2 c rfl
 cases e; cases e'; cases e''; exact ⟨_, _, _, rfl, r, r', r''⟩
theorem RVL.one' {κ : Kp} {σ : List Addr} {a : AV} {v : Value} (h : RVL κ σ [a] [v]) : RV κ σ a v := by
 obtain ⟨w, e, r⟩ := h.2 0 a rfl
 cases e; exact r
theorem RVL.two' {κ : Kp} {σ : List Addr} {a b : AV} {v u : Value} (h : RVL κ σ [a, b] [v, u]) : RV κ σ a v /\ RV κ σ b u := by
 obtain ⟨w, e, r⟩ := h.2 0 a rfl
 obtain ⟨w', e', r'⟩ := h.2 1 b rfl
 cases e; cases e'; exact ⟨r, r'⟩
theorem RVL.three' {κ : Kp} {σ : List Addr} {a b c : AV} {v u x : Value} (h : RVL κ σ [a, b, c] [v, u, x]) : RV κ σ a v /\ RV κ σ b u /\ RV κ σ c x := by
 obtain ⟨w, e, r⟩ := h.2 0 a rfl
 obtain ⟨w', e', r'⟩ := h.2 1 b rfl
 obtain ⟨w'', e'', r''⟩ := h.2 2 c rfl
 cases e; cases e'; cases e''; exact ⟨r, r', r''⟩
theorem ji {n : Int} (q : Q (.obj st.length) (st ++ [.raw (ap 0 n)])) : wBi C A G st (.type "range") [.d (.int n)] Q := fun κ σ s vs X r => by
 obtain ⟨v, rfl, t, rfl⟩ := r.one
 refine call_range_1 ⟨κ, σ ++ [s.heap.objs.size], .obj st.length, _, Kle.refl _, List.prefix_append .., (X.alloc (s' := { s with heap := s.heap.push _, toks := _ }) (x := .raw (ap 0 n)) (b8 _) (fun b o e => Heap.get?_push_of_some _ e) (Heap.get?_push_size _ rfl) rfl rfl ⟨_, _, _, rfl⟩ trivial), ⟨_, by rw [<- X.len]; simp, rfl⟩, q⟩
theorem x5 {a n : Int} (q : Q (.obj st.length) (st ++ [.raw (ap a n)])) : wBi C A G st (.type "range") [.d (.int a), .d (.int n)] Q := fun κ σ s vs X r => by
 obtain ⟨v, u, rfl, ⟨t, rfl⟩, ⟨t', rfl⟩⟩ := r.two
 refine call_range_2 ⟨κ, σ ++ [s.heap.objs.size], .obj st.length, _, Kle.refl _, List.prefix_append .., (X.alloc (s' := { s with heap := s.heap.push _, toks := _ }) (x := .raw (ap a n)) (b8 _) (fun b o e => Heap.get?_push_of_some _ e) (Heap.get?_push_size _ rfl) rfl rfl ⟨_, _, _, rfl⟩ trivial), ⟨_, by rw [<- X.len]; simp, rfl⟩, q⟩
theorem Ea {i : Int} (hsz : (PySem.baseText "0x" 16 i).length <= sizeLine) (q : Q (.d (.str (PySem.baseText "0x" 16 i))) st) : wBi C A G st (.builtin "hex") [.d (.int i)] Q := fun κ σ s vs X r => by
 obtain ⟨v, rfl, t, rfl⟩ := r.one
 exact PySem.P.hex_of_int (PA.str (X.toks _ s.drawn) q) hsz
theorem RL.strs {κ : Kp} : ∀ {ys : List Str} {vs : List Value}, RL κ (ys.map .str) vs -> StrsAre vs ys
 | [], _, h => by cases h; exact .nil
 | y :: ys, _, h => by
  simp only [List.map_cons, RL] at h
  obtain ⟨v, r, rfl, ⟨t, rfl⟩, h3⟩ := h
  exact .cons _ _ (RL.strs h3)
theorem RL.ofStrs {κ : Kp} : ∀ (l : List (Str × Tok)), RL κ ((l.map (·.1)).map .str) (strValues l)
 | [] => rfl
 | (x, t) :: r => by
  simp only [List.map_cons, RL]
  exact ⟨.str x t, strValues r, rfl, ⟨t, rfl⟩, RL.ofStrs r⟩
noncomputable def i3 (st : List ac) : AV -> List D -> Prop
 | .d (.list ds), l => l = ds
 | .obj i, l => st[i]? = some (.list (l.map .d)) ∨ st[i]? = some (.frz (.list l))
 | _, _ => False
theorem i3.get {φ κ₀ κ : Kp} {σ : List Addr} {s : Shared} {a : AV} {l : List D} {v : Value} (h : i3 st a l) (X : Rel C φ κ₀ κ σ st s) (r : RV κ σ a v) : ∃ x o vs n, v = .ref x /\ s.heap.get? x = some o /\ o.cls = .type "list" /\ o.dict = none /\ o.data = .seq vs n /\ RL κ l vs.toList := by
 have key : R κ (.list l) v -> ∃ x o vs n, v = .ref x /\ s.heap.get? x = some o /\ o.cls = .type "list" /\ o.dict = none /\ o.data = .seq vs n /\ RL κ l vs.toList := fun r => by
  simp only [R] at r
  refine byC fun hC1 => ?_
  obtain ⟨a, o, vs, n, rfl, h2, h3, h4, h5, h6⟩ := r
  refine hC1 ?_
  exact ⟨a, o, vs, n, rfl, X.keep _ _ h2, h3, h4, h5, h6⟩
 cases a with
 | d x =>
  cases x with
  | list ds => cases (h : l = ds); exact key r
  | none => exact h.elim
  | bool => exact h.elim
  | int => exact h.elim
  | str => exact h.elim
  | tuple => exact h.elim
  | dict => exact h.elim
 | glob => exact h.elim
 | obj i =>
  refine byC fun hC2 => ?_
  obtain ⟨x, hx, rfl⟩ := r
  refine hC2 ?_
  rcases h with h | h
  ·refine byC fun hC3 => ?_
   obtain ⟨x', o, hx', _, _, ho, vs, n, rfl, hr⟩ := X.get h trivial
   refine hC3 ?_
   rw [hx] at hx'; cases hx'
   exact ⟨x, _, vs, n, rfl, ho, rfl, rfl, rfl, hr.toD⟩
  ·refine byC fun hC4 => ?_
   obtain ⟨x', hx', hr⟩ := X.frz h
   refine hC4 ?_
   rw [hx] at hx'; cases hx'
   exact key hr
theorem i3.ty {a : AV} {l : List D} (h : i3 st a l) : wh C st a "list" := fun φ κ₀ κ σ s v X r => by
 refine byC fun hC1 => ?_
 obtain ⟨x, o, vs, n, rfl, ho, hc, hd, _, _⟩ := h.get X r
 refine hC1 ?_
 exact ⟨⟨o, ho, hc⟩, fun y q => by cases q; exact ⟨o, ho, hd⟩⟩
theorem Fx {x : Str} {a : AV} {ys : List Str} (h : i3 st a (ys.map .str)) (hok : (ys.map (·.length)).sum + ys.length * x.length <= 16777216) (q : Q (.d (.str (Txt.join x ys))) st) : wBi C A G st (.builtin "str.join") [.d (.str x), a] Q := fun κ σ s vs X r => by
 refine byC fun hC1 => ?_
 obtain ⟨v, u, rfl, ⟨t, rfl⟩, ra⟩ := r.two
 obtain ⟨y, o, ws, n, rfl, ho, hc, hd, hdat, hr⟩ := h.get X ra
 refine hC1 ?_
 exact join_list ⟨o, ho, hc, n, hdat⟩ hr.strs hok fun t' k => PA.str (X.toks k s.drawn) q
noncomputable def je (C : Cx) (v : Value) (T : List (PyData × PyData)) : Prop := ∃ d, v = .ref d /\ ∀ h : Heap, (∀ b o, C.P0 b = some o -> h.get? b = some o) -> IntTab C.prog C.w h d T /\ ∃ o, h.get? d = some o /\ o.cls = .type "dict" /\ o.dict = none
noncomputable def yk : D -> Prop
 | .list _ => False
 | .tuple _ => False
 | .dict _ => False
 | _ => True
theorem R.flat {κ : Kp} {d : D} {v : Value} (r : R κ d v) (h : yk d) : Flat v d := by
 cases d with
 | none => cases (r : v = _); exact Flat.none
 | bool => cases (r : v = _); exact Flat.bool _
 | int => obtain ⟨t, rfl⟩ := r.int_inv; exact Flat.int _ _
 | str => obtain ⟨t, rfl⟩ := r.str_inv; exact Flat.str _ _
 | list => exact h.elim
 | tuple => exact h.elim
 | dict => exact h.elim
theorem R.of_flat {κ : Kp} {d : D} {v : Value} (r : Flat v d) (h : yk d) : R κ d v := by
 cases d with
 | none => cases r {}; rfl
 | bool => cases r {}; rfl
 | int => obtain ⟨t, rfl⟩ := r.int_inv; exact ⟨t, rfl⟩
 | str => obtain ⟨t, rfl⟩ := r.str_inv; exact ⟨t, rfl⟩
 | list => exact h.elim
 | tuple => exact h.elim
 | dict => exact h.elim
theorem xc {v : Value} {T : List (PyData × PyData)} (h : je C v T) : wh C st (.glob v) "dict" := fun φ κ₀ κ σ s u X r => by
 cases (r : u = v)
 refine byC fun hC1 => ?_
 obtain ⟨d, rfl, hd⟩ := h
 obtain ⟨_, o, ho, hc, hdd⟩ := hd s.heap X.p0
 refine hC1 ?_
 exact ⟨⟨o, ho, hc⟩, fun y q => by cases q; exact ⟨o, ho, hdd⟩⟩
theorem D7 {v : Value} {T : List (PyData × PyData)} {i : Int} {x : D} (h : je C v T) (hx : yk x) (hf : yk ((PySem.Spec.lookup (.int i) T).getD x)) (q : Q (.d ((PySem.Spec.lookup (.int i) T).getD x)) st) :
  wBi C A G st (.builtin "dict.get") [.glob v, .d (.int i), .d x] Q := fun κ σ s vs X r => by
 refine byC fun hC1 => ?_
 obtain ⟨v', u, w, rfl, e, ⟨t, rfl⟩, rx⟩ := r.three
 cases (e : v' = v)
 obtain ⟨d, rfl, hd⟩ := h
 refine hC1 ?_
 exact call_get2_intTab (hd s.heap X.p0).1 (rx.flat hx) fun y hy => ⟨κ, σ, .d _, st, Kle.refl _, List.prefix_refl _, X.toks _ s.drawn, R.of_flat hy hf, q⟩
end
end Mine
end
section
open PySem PySem.Calls PyProof.Rows PySem.W PySem.SeqAt PyProof.V
namespace Mine
theorem x8 (x : Str) (p : Pos) (name : Str) (env : Env) (whole : Sem Value) : attributeBase (.Name x p) name env whole = whole := rfl
theorem Ju (a b : Expr) (p : Pos) (name : Str) (env : Env) (whole : Sem Value) : attributeBase (.Subscript a b p) name env whole = whole := rfl
theorem Cw (f e : Expr) (es : List Expr) (ks : List Keyword) (p : Pos) (name : Str) (env : Env) (whole : Sem Value) : attributeBase (.Call f (e :: es) ks p) name env whole = whole := by cases f <;> rfl
section
variable {C : Cx} {A : Around} {G : Gd} {ae : a9} {st : List ac} {Q : AV -> List ac -> Prop}
theorem jo {o e : Expr} {name : Str} {apos pos : Pos} {T id : String} (pa : PlainAttrs T) (slot : Slot T name id) (hty : typeOf (.builtin id) = pure (.type "method_descriptor"))
  (ho : ∀ env whole, attributeBase o name env whole = whole) (he : ∀ env, starEach [e] env = [(false, eval e env)]) (hline : (apos.endLine == pos.line) = true)
  (h : wE C A G ae st o fun a st1 => wh C st1 a T /\ wE C A G ae st1 e fun b st2 => wBi C A G st2 (.builtin id) [a, b] Q) : wE C A G ae st (.Call (.Attribute o name apos) [e] [] pos) Q :=
 qd (fun env => ho env _) (fun env => by rw [he]; rfl) hline pa slot hty (W.mono h fun a st1 q => ⟨q.1, ad (fun env => by rw [he]; rfl) (W.mono q.2 fun b st2 q2 => ak q2)⟩)
theorem Jb {o e e2 : Expr} {name : Str} {apos pos : Pos} {T id : String} (pa : PlainAttrs T) (slot : Slot T name id) (hty : typeOf (.builtin id) = pure (.type "method_descriptor"))
  (ho : ∀ env whole, attributeBase o name env whole = whole) (he : ∀ env, starEach [e, e2] env = [(false, eval e env), (false, eval e2 env)]) (he2 : ∀ env, starEach [e2] env = [(false, eval e2 env)]) (hline : (apos.endLine == pos.line) = true)
  (h : wE C A G ae st o fun a st1 => wh C st1 a T /\ wE C A G ae st1 e fun b st2 => wE C A G ae st2 e2 fun c st3 => wBi C A G st3 (.builtin id) [a, b, c] Q) : wE C A G ae st (.Call (.Attribute o name apos) [e, e2] [] pos) Q :=
 qd (fun env => ho env _) (fun env => by rw [he]; rfl) hline pa slot hty (W.mono h fun a st1 q => ⟨q.1, ad (fun env => by rw [he, he2]) (W.mono q.2 fun b st2 q2 => ad (fun env => by rw [he2]; rfl) (W.mono q2 fun c st3 q3 => ak q3))⟩)
theorem dq {x : Str} {np pos : Pos} {e : Expr} (he : ∀ env, starEach [e] env = [(false, eval e env)])
  (h : wE C A G ae st (.Name x np) fun f st1 => wE C A G ae st1 e fun a st2 => ry C A G st2 f [a] [] [] Q) : wE C A G ae st (.Call (.Name x np) [e] [] pos) Q :=
 kx (fun env => by rw [he]; rfl) (W.mono h fun f st1 q => ad (fun env => by rw [he]; rfl) (W.mono q fun b st2 q2 => ak q2))
theorem xn {x : Str} {np pos : Pos} {e e2 : Expr} (he : ∀ env, starEach [e, e2] env = [(false, eval e env), (false, eval e2 env)]) (he2 : ∀ env, starEach [e2] env = [(false, eval e2 env)])
  (h : wE C A G ae st (.Name x np) fun f st1 => wE C A G ae st1 e fun a st2 => wE C A G ae st2 e2 fun b st3 => ry C A G st3 f [a, b] [] [] Q) : wE C A G ae st (.Call (.Name x np) [e, e2] [] pos) Q :=
 kx (fun env => by rw [he]; rfl) (W.mono h fun f st1 q => ad (fun env => by rw [he, he2]) (W.mono q fun b st2 q2 => ad (fun env => by rw [he2]; rfl) (W.mono q2 fun c st3 q3 => ak q3)))
theorem Qp {x : Str} {np pos : Pos} {e e2 e3 : Expr} (he : ∀ env, starEach [e, e2, e3] env = [(false, eval e env), (false, eval e2 env), (false, eval e3 env)]) (he2 : ∀ env, starEach [e2, e3] env = [(false, eval e2 env), (false, eval e3 env)]) (he3 : ∀ env, starEach [e3] env = [(false, eval e3 env)])
  (h : wE C A G ae st (.Name x np) fun f st1 => wE C A G ae st1 e fun a st2 => wE C A G ae st2 e2 fun b st3 => wE C A G ae st3 e3 fun c st4 => ry C A G st4 f [a, b, c] [] [] Q) : wE C A G ae st (.Call (.Name x np) [e, e2, e3] [] pos) Q :=
 kx (fun env => by rw [he]; rfl) (W.mono h fun f st1 q => ad (fun env => by rw [he, he2]) (W.mono q fun b st2 q2 => ad (fun env => by rw [he2, he3]) (W.mono q2 fun c st3 q3 => ad (fun env => by rw [he3]; rfl) (W.mono q3 fun d st4 q4 => ak q4))))
end
noncomputable def cq (p : Program) (k : Nat) : List Stmt := match p.main.body[k]? with | some (.FunctionDef _ _ b _ _ _ _ _ _ _) => b | _ => []
noncomputable def aq (p : Program) (k : Nat) : Scope := match p.main.body[k]? with | some (.FunctionDef _ _ _ _ _ _ s _ _ _) => s | _ => default
noncomputable def fq (p : Program) (k : Nat) : Arguments := match p.main.body[k]? with | some (.FunctionDef _ a _ _ _ _ _ _ _ _) => a | _ => default
noncomputable def It (p : Program) (k : Nat) : Str := match p.main.body[k]? with | some (.FunctionDef n _ _ _ _ _ _ _ _ _) => n | _ => Str.ofString ""
noncomputable def ax (n : Nat) : List (Option AV) -> List (Option AV) -> Prop
 | _, [] => True
 | _ :: vs, none :: ws => ax n vs ws
 | v :: vs, some a :: ws => v = some a /\ a.below n /\ ax n vs ws
 | [], none :: ws => ax n [] ws
 | [], some _ :: _ => False
theorem ax.get {n : Nat} : ∀ {vs ws : List (Option AV)}, ax n vs ws -> ∀ (j : Nat) (a : AV), ws[j]? = some (some a) -> vs[j]? = some (some a) /\ a.below n
 | _, [], _, j, a, e => by simp at e
 | v :: vs, none :: ws, h, j, a, e => by
  cases j with
  | zero => simp at e
  | succ j => simp at e ⊢; exact ax.get (show ax n vs ws from h) j a e
 | v :: vs, some b :: ws, h, j, a, e => by
  cases j with
  | zero => simp at e ⊢; subst e; exact ⟨h.1, h.2.1⟩
  | succ j => simp at e ⊢; exact ax.get h.2.2 j a e
 | [], none :: ws, h, j, a, e => by
  cases j with
  | zero => simp at e
  | succ j => simp at e; have := ax.get (show ax n [] ws from h) j a e; simp at this
 | [], some _ :: _, h, _, _, _ => h.elim
noncomputable def c8 (n : Nat) : ac -> ac -> Prop
 | .ns names vars, .ns names' vars' => names' = names /\ ax n vars vars'
 | x, y => y = x /\ x.below n
theorem c8.le {n : Nat} {x y : ac} (h : c8 n x y) : tm n x y := by
 cases x with
 | ns names vars => cases y with
  | ns => exact ⟨h.1, h.2.get⟩
  | cell => exact h
  | list => exact h
  | frz => exact h
  | raw => exact h
 | cell => cases y <;> exact h
 | list => cases y <;> exact h
 | frz => cases y <;> exact h
 | raw => cases y <;> exact h
noncomputable def g5 (n : Nat) : List ac -> List ac -> Prop
 | _, [] => True
 | x :: xs, y :: ys => c8 n x y /\ g5 n xs ys
 | [], _ :: _ => False
theorem g5.get {n : Nat} : ∀ {st st' : List ac}, g5 n st st' -> st'.length <= st.length /\ ∀ (i : Nat) (x y : ac), st[i]? = some x -> st'[i]? = some y -> tm n x y
 | _, [], _ => ⟨Nat.zero_le _, fun i x y _ e => by simp at e⟩
 | x :: xs, y :: ys, h => by
  have ih := g5.get h.2
  refine ⟨by simp only [List.length_cons]; omega, fun i a b e1 e2 => ?_⟩
  cases i with
  | zero => simp at e1 e2; subst e1; subst e2; exact h.1.le
  | succ i => simp at e1 e2; exact ih.2 i a b e1 e2
 | [], _ :: _, h => h.elim
theorem Sub.of {n : Nat} {st st' : List ac} (hl : st'.length = n) (h : g5 n st st') : Sub n st st' := ⟨hl, hl ▸ h.get.1, fun i x y _ e1 e2 => h.get.2 i x y e1 e2⟩
noncomputable def bv (n : Nat) : List (Option AV) -> Prop
 | [] => True
 | none :: r => bv n r
 | some a :: r => a.below n /\ bv n r
theorem bv.get {n : Nat} : ∀ {vs : List (Option AV)}, bv n vs -> ∀ (j : Nat) (a : AV), vs[j]? = some (some a) -> a.below n
 | [], _, j, a, e => by simp at e
 | none :: r, h, j, a, e => by cases j with
  | zero => simp at e
  | succ j => simp at e; exact bv.get (show bv n r from h) j a e
 | some b :: r, h, j, a, e => by cases j with
  | zero => simp at e; subst e; exact h.1
  | succ j => simp at e; exact bv.get h.2 j a e
noncomputable def dm (n : Nat) : List ac -> Prop
 | [] => True
 | .ns _ vars :: r => bv n vars /\ dm n r
 | x :: r => x.below n /\ dm n r
theorem dm.get {n : Nat} : ∀ {st : List ac}, dm n st -> ∀ (i : Nat) (x : ac), st[i]? = some x -> x.below n
 | [], _, i, x, e => by simp at e
 | a :: r, h, i, x, e => by
  have hr : dm n r := by cases a <;> exact h.2
  cases i with
  | zero =>
   simp at e; subst e
   cases a with
   | ns => exact (h.1 : bv n _).get
   | cell => exact h.1
   | list => exact h.1
   | frz => exact h.1
   | raw => exact h.1
  | succ i => simp at e; exact dm.get hr i x e
theorem c6.of {st : List ac} (h : dm st.length st) : c6 st := h.get
theorem g5.nil {n : Nat} {xs : List ac} : g5 n xs [] := by cases xs <;> exact True.intro
theorem g5.cons {n : Nat} {x y : ac} {xs ys : List ac} (h : c8 n x y) (k : g5 n xs ys) : g5 n (x :: xs) (y :: ys) := ⟨h, k⟩
theorem c8.ns {n : Nat} {N : List Str} {v w : List (Option AV)} (h : ax n v w) : c8 n (.ns N v) (.ns N w) := ⟨rfl, h⟩
theorem c8.cell {n : Nat} {a : Option AV} (h : (ac.cell a).below n) : c8 n (.cell a) (.cell a) := ⟨rfl, h⟩
theorem c8.list {n : Nat} {a : List AV} (h : (ac.list a).below n) : c8 n (.list a) (.list a) := ⟨rfl, h⟩
theorem c8.raw {n : Nat} {P : Obj -> Prop} : c8 n (.raw P) (.raw P) := ⟨rfl, trivial⟩
theorem ax.nil {n : Nat} {v : List (Option AV)} : ax n v [] := by cases v <;> exact True.intro
theorem ax.none {n : Nat} {a : Option AV} {v w : List (Option AV)} (h : ax n v w) : ax n (a :: v) (.none :: w) := h
theorem ax.some {n : Nat} {a : AV} {v w : List (Option AV)} (hb : a.below n) (h : ax n v w) : ax n (.some a :: v) (.some a :: w) := ⟨rfl, hb, h⟩
theorem M9 {n : Nat} {x : D} : (AV.d x).below n := trivial
theorem Gm {n i : Nat} (h : Nat.blt i n = true) : (AV.obj i).below n := Nat.le_of_ble_eq_true h
theorem Bz {n : Nat} {a : AV} (h : a.below n) : (ac.cell (some a)).below n := h
theorem dm.nil {n : Nat} : dm n [] := trivial
theorem dm.ns {n : Nat} {N : List Str} {v : List (Option AV)} {r : List ac} (h : bv n v) (k : dm n r) : dm n (.ns N v :: r) := ⟨h, k⟩
theorem dm.cell {n : Nat} {v : Option AV} {r : List ac} (h : (ac.cell v).below n) (k : dm n r) : dm n (.cell v :: r) := ⟨h, k⟩
theorem bv.nil {n : Nat} : bv n [] := trivial
theorem bv.none {n : Nat} {v : List (Option AV)} (h : bv n v) : bv n (.none :: v) := h
theorem bv.some {n : Nat} {a : AV} {v : List (Option AV)} (hb : a.below n) (h : bv n v) : bv n (.some a :: v) := ⟨hb, h⟩
theorem qp {n : Nat} {ds : List D} : (ac.list (ds.map .d)).below n := fun a ha => by
 obtain ⟨d, _, rfl⟩ := List.mem_map.mp ha
 trivial
theorem dh {n : Nat} {P : Obj -> Prop} : (ac.raw P).below n := trivial
end Mine
end
section
open PySem PySem.Calls PyProof.Rows PySem.W PySem.SeqAt PyProof.V
namespace Mine
noncomputable def I7 (s : Shared) (o : Value) : Prop := ∃ T id, s.TypeIs o T /\ typeLookup (.type T) "__getitem__" = pure (some (.builtin id))
theorem F7 {prog : Program} {w : World} {A : Around} {E : Value -> Shared -> Prop} {s : Shared} {value slice : Expr} {o i : Value} {ops : List Value} {Q : Value -> Shared -> Prop} (hT : I7 s o) (h : wpAny (model prog w) A (getItem o i) Q E s)
  (hs : subscripted slice false o i = operate ops (getItem o i)) : wpAny (model prog w) A (subscriptTail value slice o i) Q E s := by
 refine byC fun hC1 => ?_
 obtain ⟨T, id, hT, hl⟩ := hT
 refine hC1 ?_
 unfold subscriptTail
 refine wpAny_bind ?_
 rw [getitemInPython_of_ne hT.not_modules]
 refine wpAny_bind (wpAny_specialOf hT hl ?_)
 have fin : wpAny (model prog w) A (subscripted slice false o i) (fun r s₃ => wpAny (model prog w) A (letTemporaryGo value o r >>= fun _ => pure r) Q E s₃) E s := by
  rw [hs]
  exact wpAny_operating (wpAny_mono h (fun r s₃ h₃ => wpAny_bind (wpAny_letTemporaryGo (wpAny_pure h₃))) fun _ _ x => x)
 first
  | exact wpAny_pure (wpAny_bind fin)
  | exact wpAny_bind (wpAny_pure (wpAny_bind fin))
  | exact wpAny_bind fin
section
variable {C : Cx} {A : Around} {G : Gd} {ae : a9} {st : List ac} {Q : AV -> List ac -> Prop}
noncomputable def Gh (C : Cx) (A : Around) (G : Gd) (st : List ac) (a b : AV) (Q : AV -> List ac -> Prop) : Prop :=
 ∀ κ σ s va vb, Rel C G.φ G.κ₀ κ σ st s -> RV κ σ a va -> RV κ σ b vb -> I7 s va /\ wpAny (model C.prog C.w) A (getItem va vb) (PA RV C G.φ G.κ₀ κ σ Q) G.E s
theorem bb {value slice : Expr} {pos : Pos} (hs : ∀ o i, ∃ ops, subscripted slice false o i = operate ops (getItem o i))
  (h : wE C A G ae st value fun a st1 => wE C A G ae st1 slice fun b st2 => Gh C A G st2 a b Q) : wE C A G ae st (.Subscript value slice pos) Q := fun κ σ s e X =>
 Subscript_ (wpAny_mono (h κ σ s e X) (fun va s1 z => z.go fun κ1 σ1 a st1 k1 p1 X1 r1 q1 =>
  wpAny_mono (q1 κ1 σ1 s1 (e.mono p1) X1) (fun vb s2 z => z.go fun κ2 σ2 b st2 k2 p2 X2 r2 q2 => PA.wp (k1.trans k2) (p1.trans p2) (by
   refine byC fun hC1 => ?_
   obtain ⟨h1, h2⟩ := q2 κ2 σ2 s2 va vb X2 (r1.mono k2 p2) r2
   obtain ⟨ops, ho⟩ := hs va vb
   refine hC1 ?_
   exact F7 h1 h2 ho)) fun _ _ z => z) fun _ _ z => z)
noncomputable def RP (_ : Kp) (_ : List Addr) (b : Option Int) (v : Value) : Prop := IsPart v b
noncomputable def wP (C : Cx) (A : Around) (G : Gd) (ae : a9) (st : List ac) (x : Option Expr) (Q : Option Int -> List ac -> Prop) : Prop := W RP C A G ae st (evalPart x G.env) Q
theorem c5 {Q : Option Int -> List ac -> Prop} (q : Q none st) : wP C A G ae st none Q := fun κ σ s e X => wpAny_pure (PA.ret (b := none) X IsPart.none q)
theorem dc {x : Expr} {Q : Option Int -> List ac -> Prop} (h : wE C A G ae st x fun a st1 => ∃ i, a = .d (.int i) /\ Q (some i) st1) : wP C A G ae st (some x) Q := fun κ σ s e X =>
 wpAny_mono (show wpAny _ _ (evalPart (some x) G.env) _ _ s from h κ σ s e X) (fun v s1 z => z.go fun κ' σ' a st' k p X' r ⟨i, ha, q⟩ => ⟨κ', σ', some i, st', k, p, X', by subst ha; obtain ⟨t, rfl⟩ := R.int_inv (κ := κ') r; exact IsPart.int i t, q⟩) fun _ _ z => z
noncomputable def Ob (C : Cx) (A : Around) (G : Gd) (st : List ac) (a : AV) (x y z : Option Int) (Q : AV -> List ac -> Prop) : Prop :=
 ∀ κ σ s va sl vx vy vz, Rel C G.φ G.κ₀ κ σ st s -> RV κ σ a va -> s.heap.IsSliceOf sl vx vy vz -> IsPart vx x -> IsPart vy y -> IsPart vz z -> I7 s va /\ wpAny (model C.prog C.w) A (getItem va (.ref sl)) (PA RV C G.φ G.κ₀ κ σ Q) G.E s
theorem ie {value : Expr} {l u t : Option Expr} {p pos : Pos} (h : wE C A G ae st value fun a st1 => wP C A G ae st1 l fun x st2 => wP C A G ae st2 u fun y st3 => wP C A G ae st3 t fun z st4 => Ob C A G st4 a x y z Q) :
  wE C A G ae st (.Subscript value (.Slice l u t p) pos) Q := fun κ σ s e X =>
 Subscript_ (wpAny_mono (h κ σ s e X) (fun va s1 z => z.go fun κ1 σ1 a st1 k1 p1 X1 r1 q1 =>
  wpAny_Slice (wpAny_mono (q1 κ1 σ1 s1 (e.mono p1) X1) (fun vx s2 z =>
   z.go fun κ2 σ2 x st2 k2 p2 X2 r2 q2 =>
   wpAny_mono (q2 κ2 σ2 s2 (e.mono (p1.trans p2)) X2) (fun vy s3 z =>
    z.go fun κ3 σ3 y st3 k3 p3 X3 r3 q3 =>
    wpAny_mono (q3 κ3 σ3 s3 (e.mono ((p1.trans p2).trans p3)) X3) (fun vz s4 z => z.go fun κ4 σ4 z st4 k4 p4 X4 r4 q4 => PA.wp (((k1.trans k2).trans k3).trans k4) (((p1.trans p2).trans p3).trans p4) (by
     have X5 := X4.keeps (s' := { s4 with heap := s4.heap.push { cls := .type "slice", data := .fields #[vx, vy, vz] } }) (fun b o e => Heap.get?_push_of_some _ e) rfl rfl
     obtain ⟨h1, h2⟩ := q4 κ4 σ4 _ va s4.heap.objs.size vx vy vz X5 (((r1.mono k2 p2).mono k3 p3).mono k4 p4) (Heap.IsSliceOf.new ..) r2 r3 r4
     obtain ⟨ops, ho⟩ : ∃ ops, subscripted (.Slice l u t p) false va (.ref s4.heap.objs.size) = operate ops (getItem va (.ref s4.heap.objs.size)) := by cases t <;> exact ⟨_, rfl⟩
     exact F7 h1 h2 ho)) fun _ _ z => z) fun _ _ z => z) fun _ _ z => z)) fun _ _ z => z)
noncomputable def Ct (st : List ac) : AV -> List AV -> Prop
 | .d (.list ds), l => l = ds.map .d
 | .obj i, l => st[i]? = some (.list l) ∨ ∃ ds : List D, st[i]? = some (.frz (.list ds)) /\ l = ds.map .d
 | _, _ => False
theorem Ct.get {φ κ₀ κ : Kp} {σ : List Addr} {s : Shared} {a : AV} {l : List AV} {v : Value} (h : Ct st a l) (X : Rel C φ κ₀ κ σ st s) (r : RV κ σ a v) : ∃ x o vs n, v = .ref x /\ s.heap.get? x = some o /\ o.cls = .type "list" /\ o.dict = none /\ o.data = .seq vs n /\ RVL κ σ l vs.toList := by
 have key : ∀ {ds : List D}, R κ (.list ds) v -> l = ds.map .d -> ∃ x o vs n, v = .ref x /\ s.heap.get? x = some o /\ o.cls = .type "list" /\ o.dict = none /\ o.data = .seq vs n /\ RVL κ σ l vs.toList := fun r hl => by
  simp only [R] at r
  refine byC fun hC1 => ?_
  obtain ⟨a, o, vs, n, rfl, h2, h3, h4, h5, h6⟩ := r
  refine hC1 ?_
  exact ⟨a, o, vs, n, rfl, X.keep _ _ h2, h3, h4, h5, hl ▸ RVL.ofD h6⟩
 cases a with
 | d x =>
  cases x with
  | list ds => exact key r h
  | none => exact h.elim
  | bool => exact h.elim
  | int => exact h.elim
  | str => exact h.elim
  | tuple => exact h.elim
  | dict => exact h.elim
 | glob => exact h.elim
 | obj i =>
  refine byC fun hC2 => ?_
  obtain ⟨x, hx, rfl⟩ := r
  refine hC2 ?_
  rcases h with h | ⟨ds, h, hl⟩
  ·refine byC fun hC3 => ?_
   obtain ⟨x', o, hx', _, _, ho, vs, n, rfl, hr⟩ := X.get h trivial
   refine hC3 ?_
   rw [hx] at hx'; cases hx'
   exact ⟨x, _, vs, n, rfl, ho, rfl, rfl, rfl, hr⟩
  ·refine byC fun hC4 => ?_
   obtain ⟨x', hx', hr⟩ := X.frz h
   refine hC4 ?_
   rw [hx] at hx'; cases hx'
   exact key hr hl
theorem i3.av {a : AV} {l : List D} (h : i3 st a l) : Ct st a (l.map .d) := by
 cases a with
 | d x =>
  cases x with
  | list ds => cases (h : l = ds); exact rfl
  | none => exact h.elim
  | bool => exact h.elim
  | int => exact h.elim
  | str => exact h.elim
  | tuple => exact h.elim
  | dict => exact h.elim
 | glob => exact h.elim
 | obj i =>
  rcases h with h | h
  ·exact .inl h
  ·exact .inr ⟨l, h, rfl⟩
theorem cj {a x : AV} {l : List AV} {i : Int} (h : Ct st a l) (h0 : 0 <= i) (hi : i < 2 ^ 63) (hx : l[i.toNat]? = some x) (q : Q x st) : Gh C A G st a (.d (.int i)) Q := fun κ σ s va vb X ra ⟨t, rb⟩ => by
 subst rb
 refine byC fun hC1 => ?_
 obtain ⟨y, o, vs, n, rfl, ho, hc, hd, hdat, hr⟩ := h.get X ra
 have hl : s.heap.IsList y vs := ⟨o, ho, hc, n, hdat⟩
 obtain ⟨v, hv, rv⟩ := hr.2 _ _ hx
 refine hC1 ?_
 exact ⟨⟨_, _, hl.typeIs, slot_list_getitem.lookup⟩, wpAny_getItem_list hl h0 hi (by rw [Array.getElem?_toList] at hv; exact hv) (PA.ret X rv q)⟩
theorem ii {ds : List D} {x : D} {i : Int} (h0 : 0 <= i) (hi : i < 2 ^ 63) (hx : ds[i.toNat]? = some x) (q : Q (.d x) st) : Gh C A G st (.d (.tuple ds)) (.d (.int i)) Q := fun κ σ s va vb X ra ⟨t, rb⟩ => by
 subst rb
 simp only [RV, R] at ra
 refine byC fun hC1 => ?_
 obtain ⟨a, o, vs, n, rfl, h2, h3, h4, h5, h6⟩ := ra
 have ht : IsTup s.heap a vs := ⟨o, X.keep _ _ h2, h3, n, h5⟩
 have hsz : vs.size = ds.length := by rw [<- h6.length, Array.length_toList]
 obtain ⟨v, hv, rv⟩ := h6.get hx
 refine hC1 ?_
 have hlt : i.toNat < ds.length := by
  by_cases q : i.toNat < ds.length
  ·exact q
  ·exact bq (List.getElem?_eq_none (by lia)) hx
 refine ⟨⟨_, _, ht.typeIs, slot_tuple_getitem.lookup⟩, PyProof.Rows.getItem_tuple ht (by lia) hi (j := i.toNat) ?_ (by rw [Array.getElem?_toList] at hv; exact hv) (PA.ret (b := .d x) X rv q)⟩
 unfold seqIndex?
 simp only [show ¬ i < 0 by lia, if_false]
 rw [if_pos (by simp only [Bool.and_eq_true, decide_eq_true_eq]; lia)]
theorem fu {x : Str} {i : Int} {c : Nat} (h0 : -(2 ^ 63) <= i) (hi : i < 2 ^ 63) (hc : (seqIndex? i x.length).bind (x.cps[·]?) = some c) (q : Q (.d (.str ⟨#[c]⟩)) st) : Gh C A G st (.d (.str x)) (.d (.int i)) Q := fun κ σ s va vb X ⟨t, ra⟩ ⟨u, rb⟩ => by
 subst ra; subst rb
 refine ⟨⟨_, _, typeIs_str _ _ _, F.slot_str_getitem.lookup⟩, P.getItem_str ?_ hc (PA.str (X.toks _ s.drawn) q)⟩
 simp only [Bool.or_eq_false_iff, decide_eq_false_iff_not]
 lia
theorem Kt {v : Value} {T : List (PyData × PyData)} {i : Int} {x : D} (h : je C v T) (hl : PySem.Spec.lookup (.int i) T = some x) (hf : yk x) (q : Q (.d x) st) : Gh C A G st (.glob v) (.d (.int i)) Q := fun κ σ s va vb X ra ⟨t, rb⟩ => by
 cases (ra : va = v); subst rb
 have hty := xc (st := st) h _ _ _ _ _ _ X (show RV κ σ (.glob v) v from rfl)
 obtain ⟨d, rfl, hd⟩ := h
 exact ⟨⟨_, _, hty.1, slot_dict_getitem.lookup⟩, getItem_tab same_int (intKind_is _ _ i t) (hd s.heap X.p0).1 hl fun y hy => ⟨κ, σ, .d x, st, Kle.refl _, List.prefix_refl _, X.toks _ s.drawn, R.of_flat hy hf, q⟩⟩
noncomputable def d0 {α : Type} (l : List α) (lo hi st : Option Int) : List α := (sliceRange (sliceBounds lo hi st l.length).1 (sliceBounds lo hi st l.length).2.1 (sliceBounds lo hi st l.length).2.2).filterMap (l[·]?)
theorem RVL.pick {κ : Kp} {σ : List Addr} {as : List AV} {vs : List Value} (h : RVL κ σ as vs) : ∀ idx : List Nat, RVL κ σ (idx.filterMap (as[·]?)) (idx.filterMap (vs[·]?))
 | [] => RVL.nil
 | i :: r => by
  rw [List.filterMap_cons, List.filterMap_cons]
  by_cases q : i < as.length
  ·refine byC fun hC1 => ?_
   obtain ⟨v, e, rv⟩ := h.2 i _ (List.getElem?_eq_getElem q)
   refine hC1 ?_
   rw [List.getElem?_eq_getElem q, e]
   exact RVL.cons rv (RVL.pick h r)
  ·rw [List.getElem?_eq_none (by lia), List.getElem?_eq_none (by rw [h.1]; lia)]
   exact RVL.pick h r
theorem ib {α β : Type} (f : α -> β) (l : List α) (lo hi st : Option Int) : d0 (l.map f) lo hi st = (d0 l lo hi st).map f := by
 unfold d0
 rw [List.length_map]
 generalize sliceRange _ _ _ = idx
 induction idx with
 | nil => rfl
 | cons i r ih =>
  rw [List.filterMap_cons, List.filterMap_cons, List.getElem?_map]
  cases l[i]? with
  | none => exact ih
  | some x => exact congrArg (f x :: ·) ih
theorem mw {a : AV} {l : List D} {x y z : Option Int} (h : i3 st a l) (h0 : z ≠ some 0) (hsz : l.length <= sizeLine) (q : Q (.d (.list (d0 l x y z))) st) : Ob C A G st a x y z Q := fun κ σ s va sl vx vy vz X ra hs px py pz => by
 refine byC fun hC1 => ?_
 obtain ⟨b, o, vs, n, rfl, ho, hc, hd, hdat, hr⟩ := h.av.get X ra
 refine hC1 ?_
 have hl : s.heap.IsList b vs := ⟨o, ho, hc, n, hdat⟩
 have hsize : vs.size = l.length := by have := hr.1; rw [Array.length_toList] at this; simpa using this
 refine ⟨⟨_, _, hl.typeIs, slot_list_getitem.lookup⟩, wpAny_getItem_list_slice hl hs px py pz h0 ?_ (by rw [hsize]; exact hsz)⟩
 refine PA.newList (n := 0) X ?_ q
 have := hr.pick (sliceRange (sliceBounds x y z l.length).1 (sliceBounds x y z l.length).2.1 (sliceBounds x y z l.length).2.2)
 have e : (sliceRange (sliceBounds x y z l.length).1 (sliceBounds x y z l.length).2.1 (sliceBounds x y z l.length).2.2).filterMap ((l.map AV.d)[·]?) = (d0 l x y z).map AV.d := by
  rw [<- ib]; unfold d0; rw [List.length_map]
 rw [e] at this
 have e2 : (slicePick vs x y z).toList = (sliceRange (sliceBounds x y z l.length).1 (sliceBounds x y z l.length).2.1 (sliceBounds x y z l.length).2.2).filterMap (vs.toList[·]?) := by
  unfold slicePick; rw [hsize]; simp
 rw [e2]
 exact this.toD
theorem Ga {v : Value} {x : Option Int} (h : IsPart v x) : ∃ l : Option (Int × Tok), v = partValue l /\ l.map (·.1) = x := by
 cases h with
 | none => exact ⟨none, rfl, rfl⟩
 | int i t => exact ⟨some (i, t), rfl, rfl⟩
theorem j6 {s : Str} {x y : Option Int} (hsz : s.length <= sizeLine) (q : Q (.d (.str (Txt.slice s x y))) st) : Ob C A G st (.d (.str s)) x y none Q := fun κ σ s va sl vx vy vz X ⟨t, ra⟩ hs px py pz => by
 subst ra
 cases pz
 refine byC fun hC1 => ?_
 obtain ⟨l, rfl, rfl⟩ := Ga px
 obtain ⟨u, rfl, rfl⟩ := Ga py
 obtain ⟨o, ho, hc, hd⟩ := hs
 refine hC1 ?_
 refine ⟨⟨_, _, typeIs_str _ _ _, F.slot_str_getitem.lookup⟩, wpAny_getItem_str_slice (l := l) (u := u) (st := none) ⟨o, ho, hc, hd⟩ rfl ?_⟩
 exact post_val_or_str ⟨Nat.le_trans (Txt.slice_le _ _ _) hsz, fun t' k => PA.str (X.toks k _) q⟩
end
end Mine
end
section
open PySem PySem.Calls PyProof.Rows PySem.W PySem.SeqAt PyProof.V
open PySem.Builtin PySem.Builtin.Str
namespace Mine
section
variable {C : Cx} {A : Around} {G : Gd} {ae : a9} {st : List ac} {Q : AV -> List ac -> Prop}
theorem AOk.in1n {n : Nat} (h : AOk A n) : A.in1.handled = none := by
 have := h.handled; simpa using this
theorem sq {a : AV} {b : Bool} (hb : ∀ φ κ₀ κ σ s v, Rel C φ κ₀ κ σ st s -> RV κ σ a v -> (v == Value.none) = b) (q : Q (.d (.bool b)) st) : jb C A G st .Is a (.d .none) Q := fun κ σ s va vb X ra rb => by
 cases (rb : vb = _)
 exact PySem.is_none (PA.bool X (by rw [hb _ _ _ _ _ _ X ra]; exact q))
theorem jf (q : Q (.d (.bool true)) st) : jb C A G st .Is (.d .none) (.d .none) Q := sq (fun _ _ _ _ _ v _ r => by cases (r : v = _); rfl) q
theorem tx {i : Int} (q : Q (.d (.bool false)) st) : jb C A G st .Is (.d (.int i)) (.d .none) Q := sq (fun _ _ _ _ _ v _ r => by obtain ⟨t, rfl⟩ := r; rfl) q
theorem qm {f : Value} (hf : (f == Value.none) = false) (q : Q (.d (.bool false)) st) : jb C A G st .Is (.glob f) (.d .none) Q := sq (fun _ _ _ _ _ v _ r => by cases (r : v = _); exact hf) q
theorem vi {x : Str} {n : Int} (h1 : 1 <= n) (h2 : n <= 1000) (hl : x.length <= 1000) (hx : x.length ≠ 0) (q : Q (.d (.str ⟨(List.replicate n.toNat x.cps).foldl (· ++ ·) #[]⟩)) st) : od C A G st .Mult (.d (.str x)) (.d (.int n)) Q := fun κ σ s va vb X ⟨t, ea⟩ ⟨u, eb⟩ => by
 subst ea; subst eb
 have hlen : x.length * n.toNat <= 1000 * 1000 := Nat.mul_le_mul hl (by lia)
 have fold : ∀ (k : Nat) (a : Array Nat), ((List.replicate k x.cps).foldl (· ++ ·) a).size = a.size + k * x.length := by
  intro k
  induction k with
  | zero => intro a; simp
  | succ k ih => intro a; rw [List.replicate_succ, List.foldl_cons, ih, Array.size_append, Nat.succ_mul]; show a.size + x.length + _ = _; lia
 refine P.mul_str ?_ (fun _ _ => ?_) (fun _ _ => ?_) ?_
 ·simp only [Bool.or_eq_false_iff, decide_eq_false_iff_not]; lia
 ·intro hc
  have : (2 ^ 63 - 1 : Int) / 1000 <= (2 ^ 63 - 1) / n := by
   apply Int.le_ediv_of_mul_le (by lia)
   calc (2 ^ 63 - 1 : Int) / 1000 * n <= (2 ^ 63 - 1) / 1000 * 1000 := Int.mul_le_mul_of_nonneg_left h2 (by decide)
    _ <= 2 ^ 63 - 1 := by decide
  have : (2 ^ 63 - 1 : Int) / 1000 > 1000 := by decide
  lia
 ·unfold tooLong
  simp only [decide_eq_false_iff_not]
  rw [sizeLine_eq]
  lia
 ·rw [if_neg (by lia)]
  by_cases h : (n == 1 || x.length == 0) = true
  ·rw [if_pos h]
   have hn : n = 1 := by simp at h; rcases h with h | h; exact h; exact absurd h hx
   subst hn
   refine PA.str X ?_
   have : (⟨(List.replicate (1 : Int).toNat x.cps).foldl (· ++ ·) #[]⟩ : Str) = x := by simp
   rw [this] at q; exact q
  ·rw [if_neg h]
   refine ⟨?_, PA.str (X.toks _ s.drawn) q⟩
   show ((List.replicate n.toNat x.cps).foldl (· ++ ·) #[]).size <= sizeLine
   rw [fold, sizeLine_eq, Nat.mul_comm]
   simp
   lia
theorem Jw {a b : AV} {l m : List D} (h : i3 st a l) (k : i3 st b m) (hsz : l.length + m.length <= sizeLine) (q : Q (.d (.list (l ++ m))) st) : od C A G st .Add a b Q := fun κ σ s va vb X ra rb => by
 obtain ⟨x, ⟨cls, dd, data, sl⟩, vs, n, rfl, ho, hc, hd, hdat, hr⟩ := h.get X ra
 obtain ⟨y, ⟨cls2, dd2, data2, sl2⟩, ws, n2, rfl, ho2, hc2, hd2, hdat2, hr2⟩ := k.get X rb
 simp only at hc hd hdat hc2 hd2 hdat2
 subst hc hd hdat hc2 hd2 hdat2
 have h1 : vs.size = l.length := by rw [<- hr.length, Array.length_toList]
 have h2 : ws.size = m.length := by rw [<- hr2.length, Array.length_toList]
 refine concat_meets ⟨_, ho, rfl⟩ ⟨_, ho2, rfl⟩ noFill_list_add seq_list_add PySem.F.slot_list_add PySem.F.entry_list_add (PySem.F.args_list_add_2 _ _) (list_addW x y vs ws n n2 _ _ sl sl2 (by lia)) ⟨ho, ho2, ?_⟩
 exact PA.newList (n := 0) X (by simpa using hr.append hr2) q
theorem w9 {i : Int} : ∀ {κ : Kp} {ns : List Int} {vs : List Value}, RL κ (ns.map .int) vs -> ∀ v ∈ vs, ∃ j t, v = .int j t
 | _, [], _, h, v, hv => by cases h; cases hv
 | _, n :: ns, _, h, v, hv => by
  simp only [List.map_cons, RL] at h
  obtain ⟨u, r, rfl, ⟨t, rfl⟩, h3⟩ := h
  rcases List.mem_cons.mp hv with rfl | hv
  ·exact ⟨_, _, rfl⟩
  ·exact w9 (i := i) h3 v hv
noncomputable def Py (i : Int) : Value -> Bool
 | .int j _ => j == i
 | _ => false
theorem Aq {κ : Kp} (i : Int) : ∀ {ns : List Int} {vs : List Value}, RL κ (ns.map .int) vs -> vs.any (Py i) = ns.any (· == i)
 | [], _, h => by cases h; rfl
 | n :: ns, _, h => by
  simp only [List.map_cons, RL] at h
  obtain ⟨u, r, rfl, ⟨t, rfl⟩, h3⟩ := h
  rw [List.any_cons, List.any_cons, Aq i h3]; rfl
theorem C8 {a : AV} {ns : List Int} {i : Int} (h : i3 st a (ns.map .int)) (q : Q (.d (.bool (!ns.any (· == i)))) st) : jb C A G st .NotIn (.d (.int i)) a Q := fun κ σ s va vb X ⟨t, ra⟩ rb => by
 subst ra
 obtain ⟨x, o, vs, n, rfl, ho, hc, hd, hdat, hr⟩ := h.get X rb
 refine notIn_listAt (Py i) ⟨o, ho, hc, n, hdat⟩ (fun y hy => ?_) (PA.bool X ?_)
 ·obtain ⟨j, u, rfl⟩ := w9 (i := i) hr y (by simpa using hy)
  exact EqAt.int_int j u i t
 ·rw [<- Array.any_toList, Aq i hr]; exact q
theorem zx : ∀ {κ : Kp} {ns : List Str} {vs : List Value}, RL κ (ns.map .str) vs -> ∀ v ∈ vs, ∃ j t, v = .str j t
 | _, [], _, h, v, hv => by cases h; cases hv
 | _, n :: ns, _, h, v, hv => by
  simp only [List.map_cons, RL] at h
  obtain ⟨u, r, rfl, ⟨t, rfl⟩, h3⟩ := h
  rcases List.mem_cons.mp hv with rfl | hv
  ·exact ⟨_, _, rfl⟩
  ·exact zx h3 v hv
noncomputable def Me (i : Str) : Value -> Bool
 | .str j _ => j == i
 | _ => false
theorem Bp {κ : Kp} (i : Str) : ∀ {ns : List Str} {vs : List Value}, RL κ (ns.map .str) vs -> vs.any (Me i) = ns.any (· == i)
 | [], _, h => by cases h; rfl
 | n :: ns, _, h => by
  simp only [List.map_cons, RL] at h
  obtain ⟨u, r, rfl, ⟨t, rfl⟩, h3⟩ := h
  rw [List.any_cons, List.any_cons, Bp i h3]; rfl
theorem y9 {a : AV} {ns : List Str} {i : Str} (h : i3 st a (ns.map .str)) (q : Q (.d (.bool (ns.any (· == i)))) st) : jb C A G st .In (.d (.str i)) a Q := fun κ σ s va vb X ⟨t, ra⟩ rb => by
 subst ra
 obtain ⟨x, o, vs, n, rfl, ho, hc, hd, hdat, hr⟩ := h.get X rb
 refine in_listAt (Me i) ⟨o, ho, hc, n, hdat⟩ (fun y hy => ?_) (PA.bool X ?_)
 ·obtain ⟨j, u, rfl⟩ := zx hr y (by simpa using hy)
  exact EqAt.str_str j u i t
 ·rw [<- Array.any_toList, Bp i hr]; exact q
theorem sz {a : AV} {l : List AV} (h : Ct st a l) (hsz : l.length < 2 ^ 62) (q : Q (.d (.int l.length)) st) : wBi C A G st (.builtin "len") [a] Q := fun κ σ s vs X r => by
 obtain ⟨v, rfl, ra⟩ := r.one
 obtain ⟨x, o, ws, n, rfl, ho, hc, hd, hdat, hr⟩ := h.get X ra
 have h1 : ws.size = l.length := by rw [<- hr.1, Array.length_toList]
 exact len_list ⟨o, ho, hc, n, hdat⟩ (by rw [h1]; lia) (by rw [h1]; exact PA.int (X.toks _ s.drawn) q)
theorem tr (ns : List Int) (val : Nat -> Int) (hv : ∀ i (h : i < ns.length), val i = ns[i]) : ∀ k, k <= ns.length -> preSum val k = (ns.take k).sum
 | 0, _ => rfl
 | k + 1, h => by
  show preSum val k + val k = _
  rw [tr ns val hv k (by lia), hv k (by lia), List.take_succ_eq_append_getElem (by lia), List.sum_append]; simp
theorem H8 {a : AV} {ns : List Int} (h : i3 st a (ns.map .int)) (hh : A.in1.handled = none) (q : Q (.d (.int ns.sum)) st) : wBi C A G st (.builtin "sum") [a] Q := fun κ σ s vs X r => by
 obtain ⟨v, rfl, ra⟩ := r.one
 obtain ⟨x, o, ws, n, rfl, ho, hc, hd, hdat, hr⟩ := h.get X ra
 have hl : s.heap.IsList x ws := ⟨o, ho, hc, n, hdat⟩
 have h1 : ws.size = ns.length := by have := hr.length; rw [Array.length_toList] at this; simpa using this
 have hlt : x < s.heap.objs.size := Heap.lt_size ho
 refine call_sum_walkG (wpAny_pyIter_list hl ⟨_, [_, x], [_], _, _, _, fun i => ns.getD i 0, rfl, Walks.list hh _ x (Nat.ne_of_lt hlt) ws, ⟨⟨_, Heap.get?_push_size _ rfl, rfl, rfl⟩, hl.push _⟩, fun b hb => ?_, fun i v hv => ?_, fun h' tk t' hk => ?_⟩)
 ·show b < (s.heap.push _).objs.size
  rw [Heap.size_push]
  rcases List.mem_cons.mp hb with rfl | hb
  ·exact Nat.lt_succ_self _
  ·simp at hb; subst hb; exact Nat.lt_succ_of_lt hlt
 ·have hi : i < ns.length := by
   by_cases q : i < ns.length
   ·exact q
   ·exact bq (Array.getElem?_eq_none (by lia)) hv
  obtain ⟨u, hu, t, rfl⟩ := hr.get (i := i) (d := .int ns[i]) (by simp [hi])
  rw [Array.getElem?_toList, hv] at hu; cases hu
  exact ⟨t, by simp [hi]⟩
 ·rw [h1, tr ns _ (fun i h => by simp [h]) _ (Nat.le_refl _), List.take_length]
  refine PA.int (X.keeps (s' := { s with heap := h', toks := tk }) (fun b o e => hk b o (fun hm => ?_) (Heap.get?_push_of_some _ e)) rfl rfl) q
  simp at hm; subst hm; exact absurd (Heap.lt_size e) (Nat.lt_irrefl _)
theorem Do {i : Int} (hi : i.natAbs.log2 < 1920) (q : Q (.d (.str (Str.ofString (toString i)))) st) : wBi C A G st (.type "str") [.d (.int i)] Q := fun κ σ s vs X r => by
 obtain ⟨v, rfl, t, rfl⟩ := r.one
 exact P.str_of_int hi (PA.str (X.toks _ s.drawn) q)
theorem zy {x y : Str} (q : Q (.d (.int (Txt.find x y))) st) : wBi C A G st (.builtin "str.find") [.d (.str x), .d (.str y)] Q := fun κ σ s vs X r => by
 obtain ⟨v, u, rfl, ⟨t, rfl⟩, ⟨t', rfl⟩⟩ := r.two
 exact SC.find (PA.int (X.toks _ s.drawn) q)
theorem wb {x y : Str} {i : Int} (q : Q (.d (.int (Txt.find3 x y i))) st) : wBi C A G st (.builtin "str.find") [.d (.str x), .d (.str y), .d (.int i)] Q := fun κ σ s vs X r => by
 obtain ⟨v, u, w, rfl, ⟨t, rfl⟩, ⟨t', rfl⟩, ⟨t'', rfl⟩⟩ := r.three
 exact SC.find3 (PA.int (X.toks _ s.drawn) q)
theorem rj {x y : Str} (hy : (y.length == 0) = false) (hsz : x.length + 2 <= sizeLine) (q : Q (.d (.list ((Txt.split x y).map .str))) st) : wBi C A G st (.builtin "str.split") [.d (.str x), .d (.str y)] Q := fun κ σ s vs X r => by
 obtain ⟨v, w, rfl, ⟨t, rfl⟩, ⟨u, rfl⟩⟩ := r.two
 have hsz2 : (partsBetween x (occurrences x y 0 x.length (x.length + 1)) y.length).length <= sizeLine := by
  rw [length_partsBetween]
  have := StrLaws.occ_length_le x y 0 x.length (x.length + 1)
  lia
 cases h1 : (decide (x.length < y.length) || decide (strKind x < strKind y))
 ·cases hf : (occurrences x y 0 x.length (x.length + 1)).isEmpty
  ·refine call_meets F.slot_str_split (typeIs_str _ _ _) F.entry_str_split (F.args_str_split_2 _ _) (meets_str_split_sep x y t u h1 hy hf (by lia) hsz2) ?_
   show wants _ _ _ { s with toks := _, heap := s.heap.push { cls := .type "list", data := .seq (strsFrom s.toks (partsBetween x (occurrences x y 0 x.length (x.length + 1)) y.length)).toArray } }
   rw [strsFrom_eq]
   have e : (numbered s.toks (partsBetween x (occurrences x y 0 x.length (x.length + 1)) y.length)).map (·.1) = Txt.split x y := (numbered_texts _ _).trans ((if_neg (ne_true_of_eq_false h1)).trans (if_neg (ne_true_of_eq_false hf))).symm
   exact PA.newList (n := 0) X (by rw [<- e]; exact RL.ofStrs _) q
  ·refine call_meets F.slot_str_split (typeIs_str _ _ _) F.entry_str_split (F.args_str_split_2 _ _) (meets_str_split_not_found x y t u h1 hy hf) ?_
   have e : ([(x, t)] : List (Str × Tok)).map (·.1) = Txt.split x y := ((if_neg (ne_true_of_eq_false h1)).trans (if_pos hf)).symm
   exact PA.newList (n := 0) (vs := (strValues [(x, t)]).toArray) (tk := s.toks) X (by rw [<- e]; exact RL.ofStrs [(x, t)]) q
 ·refine call_meets F.slot_str_split (typeIs_str _ _ _) F.entry_str_split (F.args_str_split_2 _ _) (meets_str_split_cannot_occur x y t u h1) ?_
  have e : ([(x, t)] : List (Str × Tok)).map (·.1) = Txt.split x y := (if_pos h1).symm
  exact PA.newList (n := 0) (vs := (strValues [(x, t)]).toArray) (tk := s.toks) X (by rw [<- e]; exact RL.ofStrs [(x, t)]) q
end
end Mine
end
section
open PySem PySem.Calls PyProof.Rows PySem.W PySem.SeqAt PyProof.V
namespace Mine
noncomputable def kc (C : Cx) (φ κ : Kp) (σ : List Addr) (b : Addr) : Prop := κ b = none /\ φ b = none /\ b ∉ σ /\ b ∉ C.tabs
section
variable {C : Cx} {φ κ₀ κ : Kp} {σ : List Addr} {st : List ac} {s : Shared}
theorem Rel.free_new (X : Rel C φ κ₀ κ σ st s) {a : Addr} (h : s.heap.get? a = none) : kc C φ κ σ a := by
 refine ⟨?_, ?_, fun hm => ?_, fun hm => ?_⟩
 ·exact bz fun o' q => bq h (X.keep _ _ q)
 ·exact bz fun o' q => bq h (X.phi _ _ q)
 ·exact X.mem hm (fun o e => bq h (X.keep _ _ e)) fun _ _ o e => bq h e
 ·obtain ⟨⟨ps, e, _⟩, _⟩ := X.tabs a hm; exact bq h e
theorem Rel.moved (X : Rel C φ κ₀ κ σ st s) {s' : Shared} {κ' : Kp} {own : List Addr} (hf : ∀ b ∈ own, kc C φ κ σ b) (hk : ∀ b o, b ∉ own -> s.heap.get? b = some o -> s'.heap.get? b = some o) (hg : s'.gens = s.gens) (ho : s'.os = s.os)
  (k : Kle κ κ') (hn : ∀ b o, κ' b = some o -> κ b = some o ∨ (s.heap.get? b = none /\ b ∉ own)) (hκ : ∀ b o, κ' b = some o -> s'.heap.get? b = some o) : Rel C φ κ₀ κ' σ st s' /\ ∀ b ∈ own, kc C φ κ' σ b := by
 have gone : ∀ a o, s.heap.get? a = some o -> κ a = none -> κ' a = none := fun a o e1 e2 => by
  refine bz fun o' q => ?_
  rcases hn a o' q with h | ⟨h, _⟩
  ·exact bq e2 h
  ·rw [e1] at h; cases h
 refine ⟨⟨X.prog.trans k, X.k0.trans k, fun b o e => ?_, hκ, fun b o e => hk b o (fun hm => ?_) (X.phi b o e), X.len, X.nd, fun i a x e1 e2 => ?_, fun P hP => ?_, hg.trans X.gens, ho.trans X.os⟩, fun b hb => ⟨?_, (hf b hb).2⟩⟩
 ·rcases hn b o e with h | ⟨h, _⟩
  ·exact X.new b o h
  ·right; refine bz fun o' q => ?_
   rw [X.phi _ _ q] at h; cases h
 ·exact bq ((hf b hm).2.1) e
 ·have hna : a ∉ own := fun hm => (hf a hm).2.2.1 (List.mem_of_getElem? e1)
  exact (X.own i a x e1 e2).map k (List.prefix_refl _) fun h1 h2 o h3 => ⟨gone a o h3 h1, h2, hk _ _ hna h3⟩
 ·have hna : P ∉ own := fun hm => (hf P hm).2.2.2 hP
  refine byC fun hC1 => ?_
  obtain ⟨⟨ps, e, r⟩, h2, h3, h4⟩ := X.tabs P hP
  refine hC1 ?_
  exact ⟨ub.keeps (C := C) ⟨ps, e, r⟩ k fun o e => hk _ _ hna e, h2, gone P _ e h3, h4⟩
 ·refine bz fun o q => ?_
  rcases hn b o q with h | ⟨_, h⟩
  ·exact bq ((hf b hb).1) h
  ·exact absurd hb h
theorem Rel.keepsButs (X : Rel C φ κ₀ κ σ st s) {s' : Shared} {own : List Addr} (hf : ∀ b ∈ own, kc C φ κ σ b) (hk : ∀ b o, b ∉ own -> s.heap.get? b = some o -> s'.heap.get? b = some o) (hg : s'.gens = s.gens) (ho : s'.os = s.os) : Rel C φ κ₀ κ σ st s' :=
 (X.moved hf hk hg ho (Kle.refl _) (fun _ _ e => .inl e) fun b o e => hk b o (fun hm => by exact bq ((hf b hm).1) e) (X.keep b o e)).1
noncomputable def d3 (φ : Kp) (own : List Addr) (h : Heap) : Kp := fun b => if b ∈ own then h.get? b else φ b
theorem ml {φ : Kp} {own : List Addr} {h : Heap} {b : Addr} (hb : b ∈ own) : d3 φ own h b = h.get? b := if_pos hb
theorem Rel.enter (X : Rel C φ κ₀ κ σ st s) {own : List Addr} (hf : ∀ b ∈ own, kc C φ κ σ b) : Rel C (d3 φ own s.heap) κ₀ κ σ st s := by
 have key : ∀ b, b ∉ own -> d3 φ own s.heap b = φ b := fun b hb => if_neg hb
 refine ⟨X.prog, X.k0, fun b o e => ?_, X.keep, fun b o e => ?_, X.len, X.nd, fun i a x e1 e2 => ?_, fun P hP => ?_, X.gens, X.os⟩
 ·have hb : b ∉ own := fun hm => by exact bq ((hf b hm).1) e
  rw [key b hb]; exact X.new b o e
 ·by_cases hb : b ∈ own
  ·unfold d3 at e; rw [if_pos hb] at e; exact e
  ·rw [key b hb] at e; exact X.phi b o e
 ·have hna : a ∉ own := fun hm => (hf a hm).2.2.1 (List.mem_of_getElem? e1)
  exact (X.own i a x e1 e2).map (Kle.refl _) (List.prefix_refl _) fun h1 h2 o h3 => ⟨h1, (key a hna).trans h2, h3⟩
 ·have hna : P ∉ own := fun hm => (hf P hm).2.2.2 hP
  have := X.tabs P hP
  rw [key P hna]; exact this
theorem Rel.leave {h0 : Heap} {own : List Addr} (X : Rel C (d3 φ own h0) κ₀ κ σ st s) (hφ : ∀ b ∈ own, φ b = none) (hκ₀ : ∀ b ∈ own, κ₀ b = none) (hex : ∀ b ∈ own, ∃ o, h0.get? b = some o) : Rel C φ κ₀ κ σ st s /\ (∀ b ∈ own, kc C φ κ σ b) /\ ∀ b ∈ own, s.heap.get? b = h0.get? b := by
 have key : ∀ b o, φ b = some o -> d3 φ own h0 b = some o := fun b o e => by
  have hb : b ∉ own := fun hm => by exact bq (hφ b hm) e
  unfold d3; rw [if_neg hb]; exact e
 have keyn : ∀ b, d3 φ own h0 b = none -> φ b = none := fun b e => by
  refine bz fun o q => ?_
  rw [key b o q] at e; cases e
 have there : ∀ b ∈ own, ∃ o, d3 φ own h0 b = some o := fun b hb => by
  obtain ⟨o, e⟩ := hex b hb
  exact ⟨o, by unfold d3; rw [if_pos hb]; exact e⟩
 have hκ : ∀ b ∈ own, κ b = none := fun b hb => by
  refine bz fun o q => ?_
  rcases X.new b o q with h | h
  ·exact bq (hκ₀ b hb) h
  ·obtain ⟨o', e⟩ := there b hb; exact bq h e
 refine ⟨⟨X.prog, X.k0, fun b o e => ?_, X.keep, fun b o e => X.phi b o (key b o e), X.len, X.nd, fun i a x e1 e2 => ?_, fun P hP => ?_, X.gens, X.os⟩, fun b hb => ⟨hκ b hb, hφ b hb, fun hm => ?_, fun hm => ?_⟩, fun b hb => ?_⟩
 ·rcases X.new b o e with h | h
  ·exact .inl h
  ·exact .inr (keyn b h)
 ·exact (X.own i a x e1 e2).map (Kle.refl _) (List.prefix_refl _) fun h1 h2 o h3 => ⟨h1, keyn a h2, h3⟩
 ·obtain ⟨h1, h2, h3⟩ := X.tabs P hP
  exact ⟨h1, keyn P h2, h3⟩
 ·obtain ⟨o', e'⟩ := there b hb
  exact X.mem hm (fun o e => bq (hκ b hb) e) fun _ h2 _ _ => bq h2 e'
 ·obtain ⟨o', e'⟩ := there b hb
  have := (X.tabs b hm).2.1
  exact bq this e'
 ·obtain ⟨o, e⟩ := hex b hb
  rw [e]
  exact X.phi b o (by unfold d3; rw [if_pos hb]; exact e)
end
structure Itr (C : Cx) (A : Around) (tgt : Expr) (κ : Kp) (I : Addr) (own : List Addr) (its : List D) (St : Nat -> Heap -> Prop) : Prop where
 frame : ∀ k h h', St k h -> (∀ b ∈ own, ∀ o, h.get? b = some o -> h'.get? b = some o) -> (∀ b o, κ b = some o -> h'.get? b = some o) -> St k h'
 ex : ∀ k h, St k h -> ∀ b ∈ own, ∃ o, h.get? b = some o
 next : ∀ k x (s : Shared) (Q : Value -> Shared -> Prop) (E : Value -> Shared -> Prop), its[k]? = some x -> St k s.heap →
  (∀ v h' tk, St (k + 1) h' -> (∀ b o, b ∉ own -> s.heap.get? b = some o -> h'.get? b = some o) →
   (∀ κc, Kle κ κc -> (∀ b o, κc b = some o -> s.heap.get? b = some o) -> (∀ b ∈ own, κc b = none) -> ∃ κ', Kle κc κ' /\ (∀ b o, κ' b = some o -> κc b = some o ∨ (s.heap.get? b = none /\ b ∉ own)) /\ (∀ b o, κ' b = some o -> h'.get? b = some o) /\ R κ' x v) →
   Q v { s with heap := h', toks := tk }) →
  wpAny (model C.prog C.w) A (pyNext (.ref I)) (fun r s1 => ∃ v, r = some v /\ wpAny (model C.prog C.w) A (letOwnedTupleGo tgt (.ref I) v) (fun _ s2 => Q v s2) E s1) E s
 done : ∀ (s : Shared) (Q : Option Value -> Shared -> Prop) (E : Value -> Shared -> Prop), St its.length s.heap →
  (∀ h' tk, (∀ b o, b ∉ own -> s.heap.get? b = some o -> h'.get? b = some o) -> Q none { s with heap := h', toks := tk }) -> wpAny (model C.prog C.w) A (pyNext (.ref I)) Q E s
 self : ∀ k (s : Shared) (Q : Value -> Shared -> Prop) (E : Value -> Shared -> Prop), St k s.heap -> Q (.ref I) s -> wpAny (model C.prog C.w) A (pyIter (.ref I)) Q E s
theorem Ck {M : Model} {A : Around} {E : Value -> Shared -> Prop} {s : Shared} {tgt : Expr} {I : Addr} {v : Value} {o : Obj} {Q : Unit -> Shared -> Prop} (ho : s.heap.get? I = some o) (T : String) (hc : o.cls = .type T)
  (hT : ["enumerate", "zip", "dict_itemiterator", "dict_reverseitemiterator", "odict_iterator", "itertools.zip_longest", "itertools.pairwise"].contains T = false) (hQ : Q () s) : wpAny M A (letOwnedTupleGo tgt (.ref I) v) Q E s := by
 have key : wpAny M A (do
   let (.ref r, .ref a) := ((Value.ref I, v) : Value × Value) | return
   let o ← load r
   match o.cls, o.data with
   | .type n, .fields vs =>
    if ["enumerate", "zip", "dict_itemiterator", "dict_reverseitemiterator", "odict_iterator", "itertools.zip_longest", "itertools.pairwise"].contains n && vs[0]? == some (rawInt a) then
     rule "for.unpacks-the-owned-tuple"
     updateField r 0 .none
   | _, _ => pure () : Sem Unit) Q E s := by
  cases v with
  | ref a =>
   refine wpAny_bind (wpAny_load ho ?_)
   rw [hc]
   cases o.data with
   | fields vs =>
    show wpAny _ _ (if (["enumerate", "zip", "dict_itemiterator", "dict_reverseitemiterator", "odict_iterator", "itertools.zip_longest", "itertools.pairwise"].contains T && vs[0]? == some (rawInt a)) = true then _ else _) _ _ _
    rw [hT]; exact wpAny_pure hQ
   | _ => exact wpAny_pure hQ
  | _ => exact wpAny_pure hQ
 unfold letOwnedTupleGo
 cases tgt with
 | Tuple => exact key
 | List => exact key
 | _ => exact wpAny_pure hQ
section
variable {C : Cx} {A : Around} {G : Gd} {ae : a9} {st : List ac}
theorem Itr.ofWalks {tgt : Expr} {κ : Kp} {I : Addr} {fp : List Addr} {P : Nat -> Value -> Prop} {St : Nat -> Heap -> Prop} {its : List D} (W : Walks C.prog C.w A I fp [I] its.length P St) (hI : κ I = none) (hP : ∀ i v x, P i v -> its[i]? = some x -> R κ x v)
  (hfp : ∀ b ∈ fp, b = I ∨ ∃ o, κ b = some o) (T : String) (hT : ["enumerate", "zip", "dict_itemiterator", "dict_reverseitemiterator", "odict_iterator", "itertools.zip_longest", "itertools.pairwise"].contains T = false)
  (hex : ∀ i h, St i h -> ∃ o, h.get? I = some o /\ o.cls = .type T) : Itr C A tgt κ I [I] its (fun k h => St k h /\ ∀ b o, κ b = some o -> h.get? b = some o) where
 frame := fun k h h' st h1 h2 => ⟨W.frame k h h' st.1 fun b hb o e => by
  rcases hfp b hb with rfl | ⟨o', e'⟩
  ·exact h1 b (by simp) o e
  ·rw [st.2 b o' e'] at e; cases e; exact h2 b _ e', h2⟩
 ex := fun k h st b hb => by simp at hb; subst hb; obtain ⟨o, e, _⟩ := hex k h st.1; exact ⟨o, e⟩
 next := fun k x s Q E hx st hQ => by
  have hlt : k < its.length := by
   by_cases q : k < its.length
   ·exact q
   ·exact bq (List.getElem?_eq_none (by omega)) hx
  refine W.item k s _ E hlt st.1 fun v h' tk hp hst hk => ⟨v, rfl, ?_⟩
  obtain ⟨o, e0, hc⟩ := hex _ _ hst
  have hκ' : ∀ b o, κ b = some o -> h'.get? b = some o := fun b x e => hk b x (fun hm => by simp at hm; subst hm; exact bq hI e) (st.2 b x e)
  exact Ck (s := { s with heap := h', toks := tk }) e0 T hc hT (hQ v h' tk ⟨hst, hκ'⟩ hk fun κc kle hkc hown => ⟨κc, Kle.refl _, fun _ _ e => .inl e, fun b o e => hk b o (fun hm => by exact bq (hown b hm) e) (hkc b o e), (hP k v x hp hx).mono kle⟩)
 done := fun s Q E st hQ => W.done s Q E st.1 hQ
 self := fun k s Q E st hQ => W.self k s Q E st.1 hQ
inductive r6 (C : Cx) (A : Around) (G : Gd) (tgt : Expr) (κ : Kp) (σ : List Addr) (Q : List D -> List ac -> Prop) (it : Value) (s2 : Shared) : Prop
 | mk (κ' : Kp) (σ' : List Addr) (its : List D) (st' : List ac) (I : Addr) (own : List Addr) (St : Nat -> Heap -> Prop) (hit : it = .ref I) (k : Kle κ κ') (p : σ <+: σ') (X : Rel C G.φ G.κ₀ κ' σ' st' s2) (hf : ∀ b ∈ own, kc C G.φ κ' σ' b) (hI : Itr C A tgt κ' I own its St) (hst : St 0 s2.heap) (q : Q its st')
theorem r6.up {tgt : Expr} {κ κ1 : Kp} {σ σ1 : List Addr} {Q : List D -> List ac -> Prop} {it : Value} {s2 : Shared} (z : r6 C A G tgt κ1 σ1 Q it s2) (k : Kle κ κ1) (p : σ <+: σ1) : r6 C A G tgt κ σ Q it s2 := by
 cases z with
 | mk κ' σ' its st' I own St hit k1 p1 X hf hI hst q => exact ⟨κ', σ', its, st', I, own, St, hit, k.trans k1, p.trans p1, X, hf, hI, hst, q⟩
theorem r6.go {tgt : Expr} {κ : Kp} {σ : List Addr} {its : List D} {I0 : List ac -> Prop} {it : Value} {s2 : Shared} {P : Value -> Prop} (z : r6 C A G tgt κ σ (fun its' st' => its' = its /\ I0 st') it s2)
  (k : ∀ κ2 σ2 st2 I own St, Kle κ κ2 -> σ <+: σ2 -> Rel C G.φ G.κ₀ κ2 σ2 st2 s2 -> (∀ b ∈ own, kc C G.φ κ2 σ2 b) -> Itr C A tgt κ2 I own its St -> St 0 s2.heap -> I0 st2 -> P (.ref I)) : P it := by
 cases z with
 | mk κ' σ' its' st' I own St hit k1 p1 X hf hI hst q => cases hit; cases q.1; exact k κ' σ' st' I own St k1 p1 X hf hI hst q.2
theorem r6.goS {tgt : Expr} {κ : Kp} {σ : List Addr} {its : List D} {st2 : List ac} {it : Value} {s2 : Shared} {P : Prop} (z : r6 C A G tgt κ σ (fun its' st' => its' = its /\ st' = st2) it s2)
  (k : ∀ κ2 σ2 I own St, it = .ref I -> Kle κ κ2 -> σ <+: σ2 -> Rel C G.φ G.κ₀ κ2 σ2 st2 s2 -> (∀ b ∈ own, kc C G.φ κ2 σ2 b) -> Itr C A tgt κ2 I own its St -> St 0 s2.heap -> P) : P := by
 cases z with
 | mk κ' σ' its' st' I own St hit k1 p1 X hf hI hst q => cases q.1; cases q.2; exact k κ' σ' I own St hit k1 p1 X hf hI hst
theorem Itr.item {tgt : Expr} {κ : Kp} {I : Addr} {own : List Addr} {its : List D} {St : Nat -> Heap -> Prop} (h : Itr C A tgt κ I own its St) (N : Shared -> Prop) (k : Nat) (x : D) (s : Shared) (Q : Value -> Shared -> Prop) (E : Value -> Shared -> Prop) (hx : its[k]? = some x) (hst : St k s.heap)
  (hq : ∀ v h' tk, St (k + 1) h' -> (∀ b o, b ∉ own -> s.heap.get? b = some o -> h'.get? b = some o) →
   (∀ κc, Kle κ κc -> (∀ b o, κc b = some o -> s.heap.get? b = some o) -> (∀ b ∈ own, κc b = none) -> ∃ κ', Kle κc κ' /\ (∀ b o, κ' b = some o -> κc b = some o ∨ (s.heap.get? b = none /\ b ∉ own)) /\ (∀ b o, κ' b = some o -> h'.get? b = some o) /\ R κ' x v) →
   Q v { s with heap := h', toks := tk }) :
  wpAny (model C.prog C.w) A (pyNext (.ref I)) (fun r s1 => match r with | none => N s1 | some v => wpAny (model C.prog C.w) A (letOwnedTupleGo tgt (.ref I) v) (fun _ s2 => Q v s2) E s1) E s :=
 wpAny_mono (h.next k x s Q E hx hst hq) (fun r s1 hh => by
  obtain ⟨v, hr, h⟩ := hh; rw [hr]; exact h) fun _ _ z => z
noncomputable def Ln (C : Cx) (A : Around) (G : Gd) (tgt : Expr) (st : List ac) (a : AV) (Q : List D -> List ac -> Prop) : Prop :=
 ∀ κ σ s v, Rel C G.φ G.κ₀ κ σ st s -> RV κ σ a v -> wpAny (model C.prog C.w) A (pyIter v)
  (r6 C A G tgt κ σ Q) G.E s
theorem wa {tgt : Expr} {a : AV} {ds : List D} {Q : List D -> List ac -> Prop} (h : a = .d (.list ds) ∨ ∃ i : Nat, a = .obj i /\ st[i]? = some (.frz (.list ds))) (hh : A.handled = none) (q : Q ds st) : Ln C A G tgt st a Q := fun κ σ s v X r => by
 have r : R κ (.list ds) v := by
  rcases h with rfl | ⟨i, rfl, e⟩
  ·exact r
  ·refine byC fun hC1 => ?_
   obtain ⟨b, hb, rfl⟩ := r
   obtain ⟨b', hb', r⟩ := X.frz e
   refine hC1 ?_
   rw [hb] at hb'; cases hb'; exact r
 simp only [R] at r
 refine byC fun hC2 => ?_
 obtain ⟨a, o, vs, n, rfl, h2, h3, h4, h5, h6⟩ := r
 refine hC2 ?_
 have hl : s.heap.IsList a vs := ⟨o, X.keep _ _ h2, h3, n, h5⟩
 have hlt : a < s.heap.objs.size := Heap.lt_size (X.keep _ _ h2)
 have hn := b8 s.heap
 have hsz : vs.size = ds.length := by rw [<- h6.length, Array.length_toList]
 have hF := X.free_new hn
 have W := Walks.list (prog := C.prog) (w := C.w) hh s.heap.objs.size a (Nat.ne_of_lt hlt) vs
 rw [hsz] at W
 have X' := X.keeps (s' := { s with heap := s.heap.push { cls := .type "list_iterator", data := .fields #[.ref a, .int 0 0] } }) (fun b o e => Heap.get?_push_of_some _ e) rfl rfl
 refine wpAny_pyIter_list hl ⟨κ, σ, ds, st, _, _, _, rfl, Kle.refl _, List.prefix_refl _, X', fun b hb => ?_, Itr.ofWalks W hF.1 (fun i v x hv hx => ?_) (fun b hb => ?_) "list_iterator" (by decide) (fun i h st => ?_), ⟨⟨⟨_, Heap.get?_push_size _ rfl, rfl, rfl⟩, hl.push _⟩, X'.keep⟩, q⟩
 ·simp at hb; subst hb; exact hF
 ·refine byC fun hC3 => ?_
  obtain ⟨u, e1, r1⟩ := h6.get hx
  refine hC3 ?_
  rw [Array.getElem?_toList, hv] at e1; cases e1; exact r1
 ·simp at hb; rcases hb with rfl | rfl
  ·exact .inl rfl
  ·exact .inr ⟨o, h2⟩
 ·obtain ⟨o, ho, hc, _⟩ := st.1; exact ⟨o, ho, hc⟩
theorem Ha {tgt : Expr} {ds : List D} {Q : List D -> List ac -> Prop} (hh : A.handled = none) (q : Q ds st) : Ln C A G tgt st (.d (.tuple ds)) Q := fun κ σ s v X r => by
 simp only [RV, R] at r
 refine byC fun hC1 => ?_
 obtain ⟨a, o, vs, n, rfl, h2, h3, h4, h5, h6⟩ := r
 refine hC1 ?_
 have hl : s.heap.IsTuple a vs := ⟨o, X.keep _ _ h2, h3, n, h5⟩
 have hlt : a < s.heap.objs.size := Heap.lt_size (X.keep _ _ h2)
 have hn := b8 s.heap
 have hsz : vs.size = ds.length := by rw [<- h6.length, Array.length_toList]
 have hF := X.free_new hn
 have W := Walks.tuple (prog := C.prog) (w := C.w) hh s.heap.objs.size a (Nat.ne_of_lt hlt) vs
 rw [hsz] at W
 have X' := X.keeps (s' := { s with heap := s.heap.push { cls := .type "tuple_iterator", data := .fields #[.ref a, .int 0 0] } }) (fun b o e => Heap.get?_push_of_some _ e) rfl rfl
 refine wpAny_pyIter_tuple hl ⟨κ, σ, ds, st, _, _, _, rfl, Kle.refl _, List.prefix_refl _, X', fun b hb => ?_, Itr.ofWalks W hF.1 (fun i v x hv hx => ?_) (fun b hb => ?_) "tuple_iterator" (by decide) (fun i h st => ?_), ⟨⟨⟨_, Heap.get?_push_size _ rfl, rfl, rfl⟩, hl.push _⟩, X'.keep⟩, q⟩
 ·simp at hb; subst hb; exact hF
 ·refine byC fun hC2 => ?_
  obtain ⟨u, e1, r1⟩ := h6.get hx
  refine hC2 ?_
  rw [Array.getElem?_toList, hv] at e1; cases e1; exact r1
 ·simp at hb; rcases hb with rfl | rfl
  ·exact .inl rfl
  ·exact .inr ⟨o, h2⟩
 ·obtain ⟨o, ho, hc, _⟩ := st.1; exact ⟨o, ho, hc⟩
theorem il {tgt : Expr} {i : Nat} {a b : Int} {Q : List D -> List ac -> Prop} (hh : A.handled = none) (hi : st[i]? = some (.raw (ap a b))) (ha : -(2 ^ 60) <= a /\ a <= 2 ^ 60) (hb : -(2 ^ 60) <= b /\ b <= 2 ^ 60) (q : Q (fb a (b - a).toNat) st) : Ln C A G tgt st (.obj i) Q := fun κ σ s v X r => by
 refine byC fun hC1 => ?_
 obtain ⟨x, hx, rfl⟩ := r
 obtain ⟨x', o, hx', hκ, hφ, ho, t, u, w, rfl⟩ := X.get hi trivial
 refine hC1 ?_
 rw [hx] at hx'; cases hx'
 have hR : IsRange s.heap x a b 1 t u w := ho
 have hn := b8 s.heap
 have hF := X.free_new hn
 have hs : Builtin.Range.rangeSize a b 1 = ((b - a).toNat : Int) := rangeSize_nat a b
 have W := Walks.range (prog := C.prog) (w := C.w) hh s.heap.objs.size a 1 (b - a).toNat
 have hl : (fb a (b - a).toNat).length = (b - a).toNat := by simp [fb]
 rw [<- hl] at W
 refine wpAny_pyIter_range hR (small_one (by omega) (by omega) (by omega) (by omega)) ⟨κ, σ, _, st, _, _, _, rfl, Kle.refl _, List.prefix_refl _, X.keeps (s' := { s with heap := s.heap.push _ }) (fun b o e => Heap.get?_push_of_some _ e) rfl rfl, fun b hb => ?_, Itr.ofWalks W hF.1 (fun i v x hv hx => ?_) (fun b hb => ?_) "range_iterator" (by decide) (fun i h st => ?_), ⟨?_, fun b o e => Heap.get?_push_of_some _ (X.keep b o e)⟩, q⟩
 ·simp at hb; subst hb; exact hF
 ·refine byC fun hC2 => ?_
  obtain ⟨t, rfl⟩ := hv
  obtain ⟨rfl, _⟩ := j1 hx
  refine hC2 ?_
  exact ⟨t, by rw [Int.mul_one]⟩
 ·simp at hb; exact .inl hb
 ·exact ⟨_, st, rfl⟩
 ·show (s.heap.push _).get? _ = _
  rw [Heap.get?_push_size _ rfl, hs, hl]
  simp [rawInt]
noncomputable def Gd.with (G : Gd) (φ : Kp) (E : Value -> Shared -> Prop) : Gd := { G with φ := φ, E := E }
noncomputable def wEI (C : Cx) (A : Around) (G : Gd) (ae : a9) (tgt : Expr) (st : List ac) (iter : Expr) (Q : List D -> List ac -> Prop) : Prop :=
 ∀ κ σ s, cy ae σ G.env -> Rel C G.φ G.κ₀ κ σ st s -> wpAny (model C.prog C.w) A (eval iter G.env) (fun v s1 => wpAny (model C.prog C.w) A (pyIter v)
  (r6 C A G tgt κ σ Q) G.E s1) G.E s
theorem jq {tgt iter : Expr} {Q : List D -> List ac -> Prop} (h : wE C A G ae st iter fun a st1 => Ln C A G tgt st1 a Q) : wEI C A G ae tgt st iter Q := fun κ σ s e X =>
 wpAny_mono (h κ σ s e X) (fun v s1 z => z.go fun κ1 σ1 a st1 k1 p1 X1 r1 q1 => wpAny_mono (q1 κ1 σ1 s1 v X1 r1) (fun it s2 z => z.up k1 p1) fun _ _ z => z) fun _ _ z => z
inductive vl (C : Cx) (G : Gd) (own : List Addr) (St : Nat -> Heap -> Prop) (I : Nat -> List ac -> Prop) (len : Nat) (κ2 : Kp) (σ2 : List Addr) (m : Nat) (s' : Shared) : Prop
 | mk (k : Nat) (κ' : Kp) (st' : List ac) (hm : m = len - k) (hk : k <= len) (kle : Kle κ2 κ') (X : Rel C G.φ G.κ₀ κ' σ2 st' s') (hf : ∀ b ∈ own, kc C G.φ κ' σ2 b) (hst : St k s'.heap) (hi : I k st')
theorem Itr.freeOf {tgt : Expr} {κ : Kp} {I : Addr} {own : List Addr} {its : List D} {St : Nat -> Heap -> Prop} {σ : List Addr} {s : Shared} (h : Itr C A tgt κ I own its St) (X : Rel C G.φ G.κ₀ κ σ st s) (hf : ∀ b ∈ own, kc C G.φ κ σ b) : (∀ b ∈ own, G.φ b = none) /\ ∀ b ∈ own, G.κ₀ b = none :=
 ⟨fun b hb => (hf b hb).2.1, fun b hb => bz fun o q => bq (hf b hb).1 (X.k0 b o q)⟩
inductive Op (C : Cx) (G : Gd) (own : List Addr) (st' : List ac) (σ : List Addr) (κ' : Kp) (x : D) (v : Value) (h' : Heap) (s' : Shared) : Prop
 | mk (κc : Kp) (hkc : Kle κ' κc) (X : Rel C (d3 G.φ own h') G.κ₀ κc σ st' s') (rv : R κc x v)
theorem Itr.took {κ κ' : Kp} {own : List Addr} {x : D} {v : Value} {s' : Shared} {h' : Heap} {tk : Tok} {σ : List Addr} {st' : List ac} (X' : Rel C G.φ G.κ₀ κ' σ st' s') (hf' : ∀ b ∈ own, kc C G.φ κ' σ b) (kle : Kle κ κ') (hkeep : ∀ b o, b ∉ own -> s'.heap.get? b = some o -> h'.get? b = some o)
  (hR : ∀ κc, Kle κ κc -> (∀ b o, κc b = some o -> s'.heap.get? b = some o) -> (∀ b ∈ own, κc b = none) -> ∃ κ', Kle κc κ' /\ (∀ b o, κ' b = some o -> κc b = some o ∨ (s'.heap.get? b = none /\ b ∉ own)) /\ (∀ b o, κ' b = some o -> h'.get? b = some o) /\ R κ' x v) :
  Op C G own st' σ κ' x v h' { s' with heap := h', toks := tk } := by
 obtain ⟨κc, hkc, hnew, hκh, rv⟩ := hR κ' kle X'.keep fun b hb => (hf' b hb).1
 obtain ⟨X3, hf3⟩ := X'.moved (s' := { s' with heap := h', toks := tk }) hf' hkeep rfl rfl hkc hnew hκh
 exact ⟨κc, hkc, X3.enter hf3, rv⟩
theorem vl.again {tgt : Expr} {own : List Addr} {St : Nat -> Heap -> Prop} {I : Nat -> List ac -> Prop} {n k : Nat} {its : List D} {κ2 κ5 : Kp} {σ2 σ5 : List Addr} {Ia : Addr} {st5 st6 : List ac} {s5 : Shared} {h' : Heap} (hItr : Itr C A tgt κ2 Ia own its St) (hlen : σ2.length = n) (hlt : k < its.length) (kk : Kle κ2 κ5) (p45 : σ2 <+: σ5)
  (X6 : Rel C G.φ G.κ₀ κ5 σ5 st5 s5) (hf6 : ∀ b ∈ own, kc C G.φ κ5 σ5 b) (hh6 : ∀ b ∈ own, s5.heap.get? b = h'.get? b) (hst1 : St (k + 1) h') (hsub : Sub n st5 st6) (hi6 : I (k + 1) st6) : ∃ m, m < its.length - k /\ vl C G own St I its.length κ2 σ2 m s5 := by
 have Y := X6.sub hsub
 rw [<- hlen, me p45] at Y
 exact ⟨its.length - (k + 1), by lia, k + 1, κ5, st6, rfl, by lia, kk, Y, fun b hb => ⟨(hf6 b hb).1, (hf6 b hb).2.1, fun hm => (hf6 b hb).2.2.1 (p45.subset hm), (hf6 b hb).2.2.2⟩, hItr.frame _ _ _ hst1 (fun b hb o eo => (hh6 b hb).trans eo) (fun b o eo => X6.keep b o (kk b o eo)), hi6⟩
theorem qk {target iter : Expr} {body orelse : List Stmt} {pos : Pos} {Q : AF -> List ac -> Prop} (n : Nat) (its : List D) (I : Nat -> List ac -> Prop)
  (hs : ∀ env x, foldedSetIterable iter env x = pure x) (hI : ∀ k st1, I k st1 -> st1.length = n)
  (hiter : wEI C A G ae target st iter fun its' st2 => its' = its /\ I 0 st2)
  (turn : ∀ φ' E' k x st1, its[k]? = some x -> I k st1 -> sb C A (G.with φ' E') ae st1 target (.d x) fun st2 => wSs C A (G.with φ' E') ae st2 body fun f st3 => match f with
   | .next | .cont => ∃ st4, Sub n st3 st4 /\ I (k + 1) st4
   | .brk => ∃ st4, Sub n st3 st4 /\ Q .next st4
   | .ret a => Q (.ret a) st3)
  (done : ∀ E' st1, I its.length st1 -> wSs C A (G.at E') ae st1 orelse Q) : wS C A G ae st (.For target iter body orelse pos) Q := fun κ σ s e X => by
 refine wpAny_For (wpAny_mono (hiter κ σ s e X) (fun v s1 z => wpAny_mono z (fun it s2 z => z.go (P := fun it => codeAny (model C.prog C.w) A (.forLoop target it body orelse G.env) _ s2) fun κ2 σ2 st2 Ia own St k2 p2 X2 hfree hItr hst q2 => ?_) fun _ _ z => z) fun _ _ z => z) (hs _)
 have e2 : cy ae σ2 G.env := e.mono p2
 have hlen : σ2.length = n := X2.len.trans (hI 0 st2 q2)
 have hφκ := hItr.freeOf X2 hfree
 refine codeAny_forLoop_any (vl C G own St I its.length κ2 σ2) ?_ (its.length - 0) ⟨0, κ2, st2, rfl, Nat.zero_le _, Kle.refl _, X2, hfree, hst, q2⟩
 generalize (notedBy (model C.prog C.w) A G.env fun e s' => cameBackBy (model C.prog C.w) A G.env G.E e s') = EE
 rintro m s' ⟨k, κ', st', rfl, hk, kle, X', hf', hstk, hi⟩
 by_cases hlt : k < its.length
 ·refine hItr.item _ k its[k] s' _ _ (List.getElem?_eq_getElem hlt) hstk fun v h' tk hst1 hkeep hR => ?_
  refine byC fun hN => ?_
  obtain ⟨κc, hkc, X4, rv⟩ := Itr.took (tk := tk) X' hf' kle hkeep hR
  refine hN ?_
  refine wpAny_mono (turn (d3 G.φ own h') EE k its[k] st' (List.getElem?_eq_getElem hlt) hi κc σ2 _ v e2 X4 rv) (fun _ s4 z => z.go fun κ4 σ4 _ st4 k4 p4 X4 _ q4 => ?_) fun _ _ z => z
  refine wpAny_mono (q4 κ4 σ4 s4 (e2.mono p4) X4) (fun f s5 z => z.go fun κ5 σ5 f' st5 k5 p5 X5 r5 q5 => ?_) fun _ _ z => z
  have X6 := X5.leave hφκ.1 hφκ.2 (hItr.ex _ _ hst1)
  have p45 : σ2 <+: σ5 := p4.trans p5
  have k25 : Kle κ2 κ5 := kle.trans (hkc.trans (k4.trans k5))
  cases f' with
  | next => cases (r5 : f = .next); exact q5.elim fun st6 q => vl.again hItr hlen hlt k25 p45 X6.1 X6.2.1 X6.2.2 hst1 q.1 q.2
  | cont => cases (r5 : f = .cont); exact q5.elim fun st6 q => vl.again hItr hlen hlt k25 p45 X6.1 X6.2.1 X6.2.2 hst1 q.1 q.2
  | brk =>
   cases (r5 : f = .brk)
   obtain ⟨st6, hsub, q6⟩ := q5
   have Y := X6.1.sub hsub
   rw [<- hlen, me p45] at Y
   exact ⟨κ5, σ2, .next, st6, k2.trans k25, p2, Y, rfl, q6⟩
  | ret a =>
   obtain ⟨u, rfl, ru⟩ := r5
   exact ⟨κ5, σ5, .ret a, st5, k2.trans k25, p2.trans p45, X6.1, ⟨u, rfl, ru⟩, q5⟩
 ·obtain rfl : k = its.length := by lia
  refine hItr.done s' _ _ hstk fun h' tk hkeep => ?_
  have X3 := X'.keepsButs (s' := { s' with heap := h', toks := tk }) hf' hkeep rfl rfl
  exact wpAny_mono (done EE st' hi κ' σ2 _ e2 X3) (fun f s4 z => z.up (k2.trans kle) p2) fun _ _ z => z
end
end Mine
end
local macro_rules | `(tactic| ktr_unf) => `(tactic| (repeat' (first | exact Mine.g5.nil | refine Mine.g5.cons ?_ ?_ | refine Mine.c8.ns ?_ | refine Mine.c8.list ?_ | refine Mine.c8.cell ?_ | exact Mine.c8.raw | exact Mine.c8.frz | exact Mine.ax.nil | refine Mine.ax.some ?_ ?_ | refine Mine.ax.none ?_ | exact Mine.M9 | exact Mine.below_glob | exact Mine.Gm rfl | exact Mine.qp | exact Mine.below_cell0 | refine Mine.Bz ?_ | exact Mine.dm.nil | refine Mine.dm.ns ?_ ?_ | refine Mine.dm.cell ?_ ?_ | refine Mine.dm.list ?_ ?_ | refine Mine.dm.raw ?_ | refine Mine.dm.frz ?_ | exact Mine.bv.nil | refine Mine.bv.some ?_ ?_ | refine Mine.bv.none ?_)))
section
open PySem PySem.Calls PyProof.Rows PySem.W PySem.SeqAt PyProof.V
set_option maxRecDepth 100000
namespace Mine
noncomputable abbrev g0 (i : Int) : Str := PySem.baseText "0x" 16 i
noncomputable def fc : List (PyData × PyData) := [(.int 1, .str "OPTIMIZED"), (.int 2, .str "NEWLOCALS"), (.int 4, .str "VARARGS"), (.int 8, .str "VARKEYWORDS"), (.int 16, .str "NESTED"), (.int 32, .str "GENERATOR"), (.int 64, .str "NOFREE"), (.int 128, .str "COROUTINE"), (.int 256, .str "ITERABLE_COROUTINE"), (.int 512, .str "ASYNC_GENERATOR")]
noncomputable def Bq (i : Nat) : D := (PySem.Spec.lookup (.int (1 * 2 ^ i)) fc).getD (.str (g0 (1 * 2 ^ i)))
noncomputable def a7 (i : Nat) : Str := match Bq i with | .str x => x | _ => ""
noncomputable def ju : Nat -> Nat -> Int -> List Str -> List Str
 | 0, _, x, ns => ns ++ [g0 x]
 | n + 1, i, x, ns => if Builtin.bitAnd x (1 * 2 ^ i) != 0 then (if Builtin.bitXor x (1 * 2 ^ i) != 0 then ju n (i + 1) (Builtin.bitXor x (1 * 2 ^ i)) (ns ++ [a7 i]) else ns ++ [a7 i]) else ju n (i + 1) x ns
noncomputable def cz (x : Int) : List Str := ju 32 0 x []
theorem La : ∀ i, i < 32 -> Bq i = .str (a7 i) /\ (a7 i).length <= 20 /\ (g0 (1 * 2 ^ i)).length <= 20 := by
 intro i hi
 have : ∀ i : Fin 32, (match Bq i with | .str _ => true | _ => false) = true /\ (a7 i).length <= 20 /\ (g0 (1 * 2 ^ (i : Nat))).length <= 20 := by decide +kernel
 have h := this ⟨i, hi⟩
 refine ⟨?_, h.2.1, h.2.2⟩
 have h1 := h.1
 unfold a7
 cases q : Bq i with
 | str x => rfl
 | _ => simp only [q] at h1; cases h1
section
variable {C : Cx} {A : Around} {G : Gd}
theorem u0 {α β : Type} (f : α -> β) (l : List α) : (l.map f).length = l.length := List.length_map ..
theorem qn : ∀ (ns : List Str) (n m : Nat), ns.length <= n -> (∀ w ∈ ns, w.length <= m) -> (ns.map (·.length)).sum <= n * m
 | [], n, m, _, _ => by simp
 | x :: r, n, m, h, hw => by
  cases n with
  | zero => simp at h
  | succ n =>
   have := qn r n m (by simpa using h) fun w hm => hw w (List.mem_cons_of_mem _ hm)
   have h1 := hw x List.mem_cons_self
   simp only [List.map_cons, List.sum_cons, Nat.succ_mul]
   lia
theorem Hp (ns : List Str) (n m : Nat) (h : ns.length <= n) (hw : ∀ w ∈ ns, w.length <= m) (hb : n * m + n * 2 <= 16777216) : (ns.map (·.length)).sum + ns.length * (Str.ofString ", ").length <= 16777216 := by
 have h1 := qn ns n m h hw
 have h2 : (Str.ofString ", ").length = 2 := by decide +kernel
 rw [h2]
 have : ns.length * 2 <= n * 2 := Nat.mul_le_mul_right 2 h
 lia
set_option maxHeartbeats 4000000 in
theorem A2 (cd : Value) (ql : Str) (hA : AOk A 3) (g1 : ag C "range" (.type "range")) (dv : Value) (g2 : ag C "COMPILER_FLAG_NAMES" dv) (hd : je C dv fc) (g3 : ag C "hex" (.builtin "hex")) (x : Int)
  (hx : ∀ (y : Int) (ns : List Str), (ns ++ [g0 y] = cz x -> (g0 y).length <= 1000000)) (post : D -> Prop) (hp : post (.str (Txt.join ", " (cz x)))) :
  wSs C A G ⟨aq PySem.Challenge.pw_wb0027_01 2, 0, [], cd, ql⟩ [.ns ((aq PySem.Challenge.pw_wb0027_01 2).names.map (·.1)) [some (.d (.int x)), none, none, none, none, none, none]] (cq PySem.Challenge.pw_wb0027_01 2) (pv post) := by
 refine ah (al (fun _ => rfl) (qh (ak ⟨by decide, ?_⟩)))
 refine af 1 rfl rfl rfl ?_
 refine ah ?_
 refine qk 3 (fb 0 32) (fun k st => k <= 32 /\ ∃ (y : Int) (ns : List Str), st = [.ns ((aq PySem.Challenge.pw_wb0027_01 2).names.map (·.1)) [some (.d (.int y)), some (.obj 1), none, none, none, none, none], .list ((ns.map PyData.str).map .d), .raw (ap 0 32)]
   /\ ju (32 - k) k y ns = cz x /\ ns.length <= k /\ ∀ w ∈ ns, w.length <= 20) (fun _ _ => rfl) ?_ ?_ ?_ ?_
 ·rintro k st1 ⟨hk, y, ns, rfl, _, _, _⟩
  rfl
 ·-- the range
  refine jq (kx (fun _ => rfl) (ao 4 g1 rfl (ad (fun _ => rfl) (ai (ak (db (ji ?_)))))))
  exact il (i := 2) hA.handled rfl (by decide) (by decide) ⟨rfl, by decide, x, [], rfl, rfl, Nat.le_refl _, fun _ h => nomatch h⟩
 ·-- a turn
  rintro φ' E' k z st1 hz ⟨hk, y, ns, rfl, hy, hn, hw⟩
  obtain ⟨rfl, hk32⟩ := j1 hz
  rw [Int.zero_add]
  refine d8 (af 2 rfl rfl rfl ?_)
  refine ah (al (fun _ => rfl) (aj (ai (aa 2 rfl rfl rfl rfl ?_))))
  refine D9 (by lia) (by lia) (by lia) ?_
  refine af 3 rfl rfl rfl ?_
  rw [Int.toNat_natCast]
  refine ah (cm ?_)
  refine sv (fun _ _ => rfl) (aj (aa 0 rfl rfl rfl rfl (aa 3 rfl rfl rfl rfl (zf (Lz ?_)))))
  have hstep : ju (32 - k) k y ns = (if Builtin.bitAnd y (1 * 2 ^ k) != 0 then (if Builtin.bitXor y (1 * 2 ^ k) != 0 then ju (32 - (k + 1)) (k + 1) (Builtin.bitXor y (1 * 2 ^ k)) (ns ++ [a7 k]) else ns ++ [a7 k]) else ju (32 - (k + 1)) (k + 1) y ns) := by
   rw [show 32 - k = (32 - (k + 1)) + 1 by lia]; rfl
  rw [hstep] at hy
  obtain ⟨hw1, hw2, hw3⟩ := La k hk32
  cases hb : (Builtin.bitAnd y (1 * 2 ^ k) != 0) with
  | false =>
   rw [hb] at hy
   exact am (am ⟨[.ns ((aq PySem.Challenge.pw_wb0027_01 2).names.map (·.1)) [some (.d (.int y)), some (.obj 1), none, none, none, none, none], .list ((ns.map PyData.str).map .d), .raw (ap 0 32)], Sub.of rfl (by ktr_unf), by lia, y, ns, rfl, hy, by lia, hw⟩)
  | true =>
   rw [hb] at hy
   simp only [if_true] at hy
   refine ah (lu (fun _ => rfl) ?_)
   refine qd (fun _ => rfl) (fun _ => rfl) rfl F.plainAttrs_list slot_list_append type_list_append ?_
   refine aa 1 rfl rfl rfl rfl ⟨f8 (l := (ns.map PyData.str).map .d) rfl, ?_⟩
   refine ad (fun _ => rfl) ?_
   refine qd (fun _ => rfl) (fun _ => rfl) rfl F.plainAttrs_dict F.slot_dict_get F.type_dict_get ?_
   refine ao 5 g2 rfl ⟨xc hd, ?_⟩
   refine ad (fun _ => rfl) (aa 3 rfl rfl rfl rfl ?_)
   refine ad (fun _ => rfl) (kx (fun _ => rfl) (ao 6 g3 rfl (ad (fun _ => rfl) (aa 3 rfl rfl rfl rfl (ak (d7 (Ea ?_ ?_)))))))
   ·exact Nat.le_trans hw3 (by rw [sizeLine_eq]; lia)
   refine ak ?_
   refine D7 hd trivial ?_ ?_
   ·show yk (Bq k); rw [hw1]; trivial
   show ky _ _ _ _ _ _ _ _
   refine ak ?_
   refine ku (i := 1) (l := (ns.map PyData.str).map .d) rfl (by rw [u0, u0, sizeLine_eq]; lia) ?_
   show wSs _ _ _ _ _ _ _
   refine ah (Pk 0 rfl rfl rfl rfl (aa 3 rfl rfl rfl rfl (M8 (af 0 rfl rfl rfl ?_))))
   show wSs _ _ _ _ _ _ _
   refine ah (cm (Kb (sv (fun _ _ => rfl) (aa 0 rfl rfl rfl rfl (Lz ?_)))))
   have hap : (ns.map PyData.str).map AV.d ++ [.d ((PySem.Spec.lookup (.int (1 * 2 ^ k)) fc).getD (.str (g0 (1 * 2 ^ k))))] = (((ns ++ [a7 k]).map PyData.str).map AV.d) := by
    have : (PySem.Spec.lookup (.int (1 * 2 ^ k)) fc).getD (.str (g0 (1 * 2 ^ k))) = .str (a7 k) := hw1
    rw [this]; simp
   have hw' : ∀ w ∈ ns ++ [a7 k], w.length <= 20 := fun w h => by
    rcases List.mem_append.mp h with h | h
    ·exact hw w h
    ·simp at h; subst h; exact hw2
   rw [hap]
   cases hb2 : (Builtin.bitXor y (1 * 2 ^ k) != 0) with
   | true =>
    rw [hb2] at hy
    exact am (am (am ⟨[.ns ((aq PySem.Challenge.pw_wb0027_01 2).names.map (·.1)) [some (.d (.int (Builtin.bitXor y (1 * 2 ^ k)))), some (.obj 1), none, none, none, none, none], .list (((ns ++ [a7 k]).map PyData.str).map .d), .raw (ap 0 32)], Sub.of rfl (by ktr_unf), by lia, _, ns ++ [a7 k], rfl, hy, by simp; lia, hw'⟩))
   | false =>
    rw [hb2] at hy
    refine ah (Of ⟨[.ns ((aq PySem.Challenge.pw_wb0027_01 2).names.map (·.1)) [none, some (.obj 1), none, none, none, none, none], .list (((ns ++ [a7 k]).map PyData.str).map .d), .raw (ap 0 32)], Sub.of rfl (by ktr_unf), ?_⟩)
    show wSs _ _ _ _ _ _ _
    refine ah ?_
    refine fy ?_
    refine jo F.plainAttrs_str F.slot_str_join F.type_str_join ?_ ?_ ?_ ?_
    ·exact fun _ _ => rfl
    ·exact fun _ => rfl
    ·rfl
    refine az ?_
    refine ⟨dg, ?_⟩
    refine aa 1 rfl rfl rfl rfl ?_
    refine Fx (ys := ns ++ [a7 k]) (.inl rfl) ?_ ?_
    ·exact Hp _ 33 20 (by simp; lia) hw' (by decide)
    ·show post _
     rw [show ns ++ [a7 k] = cz x from hy]; exact hp
 ·rintro E' st1 ⟨hk, y, ns, rfl, hy, hn, hw⟩
  have hy' : ns ++ [g0 y] = cz x := hy
  have hx' := hx y ns hy'
  refine ah (lu (fun _ => rfl) ?_)
  refine qd (fun _ => rfl) (fun _ => rfl) rfl F.plainAttrs_list slot_list_append type_list_append ?_
  refine aa 1 rfl rfl rfl rfl ⟨f8 (l := (ns.map PyData.str).map .d) rfl, ?_⟩
  refine ad (fun _ => rfl) (kx (fun _ => rfl) (ao 6 g3 rfl (ad (fun _ => rfl) (aa 0 rfl rfl rfl rfl (ak (d7 (Ea ?_ (ak ?_))))))))
  ·exact Nat.le_trans hx' (by rw [sizeLine_eq]; lia)
  refine ku (i := 1) (l := (ns.map PyData.str).map .d) rfl (by rw [u0, u0, sizeLine_eq]; lia) (am ?_)
  show wSs _ _ _ _ _ _ _
  refine ah ?_
  refine fy ?_
  refine jo F.plainAttrs_str F.slot_str_join F.type_str_join ?_ ?_ ?_ ?_
  ·exact fun _ _ => rfl
  ·exact fun _ => rfl
  ·rfl
  refine az ?_
  refine ⟨dg, ?_⟩
  refine aa 1 rfl rfl rfl rfl ?_
  have hap : (ns.map PyData.str).map AV.d ++ [.d (.str (g0 y))] = (((ns ++ [g0 y]).map PyData.str).map AV.d) := by simp
  refine Fx (ys := ns ++ [g0 y]) (.inl ?_) ?_ ?_
  ·rw [<- hap]; rfl
  ·have h2 : (Str.ofString ", ").length = 2 := by decide +kernel
   have h3 : (List.map (fun x => x.length) ns).sum <= 32 * 20 := qn ns 32 20 hn hw
   rw [h2, List.map_append, List.sum_append, List.length_append]
   simp only [List.map_cons, List.map_nil, List.sum_cons, List.sum_nil, List.length_cons, List.length_nil]
   lia
  ·show post _
   rw [hy']; exact hp
end
end Mine
end
section
open PySem PySem.Calls PyProof.Rows PySem.W PySem.SeqAt PyProof.V
namespace Mine
noncomputable def eh : Nat -> List D -> List D
 | _, [] => []
 | i, x :: r => .tuple [.int i, x] :: eh (i + 1) r
theorem jj : ∀ (ds : List D) (i k : Nat) (x : D), (eh i ds)[k]? = some x -> ∃ y, ds[k]? = some y /\ x = .tuple [.int ((i + k : Nat) : Int), y]
 | [], _, _, _, h => by simp [eh] at h
 | d :: ds, i, 0, x, h => by simp [eh] at h; exact ⟨d, by simp, by simp [h]⟩
 | d :: ds, i, k + 1, x, h => by
  simp only [eh, List.getElem?_cons_succ] at h
  obtain ⟨y, h1, h2⟩ := jj ds (i + 1) k x h
  exact ⟨y, by simpa using h1, by rw [h2]; congr 4; lia⟩
theorem dj : ∀ (ds : List D) (i : Nat), (eh i ds).length = ds.length
 | [], _ => rfl
 | d :: ds, i => by simp [eh, dj ds]
section
variable {C : Cx} {A : Around} {G : Gd} {ae : a9} {st : List ac}
theorem Itr.enum {elts : List Expr} {kk : Nat} {pos : Pos} {κ : Kp} {e it l : Addr} {vs : Array Value} {ds : List D} (hh : A.handled = none) (hei : e ≠ it) (hle : l ≠ e) (hli : l ≠ it) (hr : RL κ ds vs.toList) (he : κ e = none) (hi : κ it = none) (hl : ∃ o, κ l = some o /\ o.cls = .type "list" /\ ∃ n, o.data = .seq vs n) :
  Itr C A (.Tuple elts kk pos) κ e [e, it] (eh 0 ds) (fun k h => (∃ old, IsEnum h e it k old) /\ h.IsListIter it l k /\ ∀ b o, κ b = some o -> h.get? b = some o) where
 frame := fun k h h' ⟨⟨old, h1⟩, h2, h3⟩ hk hκ => ⟨⟨old, hk e (by simp) _ h1⟩, h2.at fun o x => hk it (by simp) o x, hκ⟩
 ex := fun k h ⟨⟨old, h1⟩, ⟨o, h2, _⟩, h3⟩ b hb => by simp at hb; rcases hb with rfl | rfl; exact ⟨_, h1⟩; exact ⟨o, h2⟩
 next := fun k x s Q E hx ⟨⟨old, h1⟩, h2, h3⟩ hQ => by
  refine byC fun hC1 => ?_
  obtain ⟨y, hy, rfl⟩ := jj ds 0 k x hx
  obtain ⟨u, hu, ru⟩ := hr.get hy
  obtain ⟨ol, hol, hc, n, hd⟩ := hl
  refine hC1 ?_
  have hL : s.heap.IsList l vs := ⟨ol, h3 _ _ hol, hc, n, hd⟩
  refine wpAny_pyNext_enum_item h1 h2 hL (by rw [Array.getElem?_toList] at hu; exact hu) hei fun h' ho hit' hT hsz hk => ⟨_, rfl, ?_⟩
  refine wpAny_letOwnedTupleGo_enum (s := { s with heap := h', toks := s.toks + 1 }) ho fun h'' he' hs' => ?_
  have helt : e < s.heap.objs.size := Heap.lt_size h1
  have hilt : it < s.heap.objs.size := by obtain ⟨_, x, _⟩ := h2; exact Heap.lt_size x
  have keep : ∀ b o, b ∉ [e, it] -> s.heap.get? b = some o -> h''.get? b = some o := fun b o hb x =>
   (hs'.2 b fun e' => hb (by simp [e'])).trans (hk b o (fun e' => hb (by simp [e'])) (fun e' => hb (by simp [e'])) x)
  have hTT : h''.get? s.heap.objs.size = some { cls := .type "tuple", data := .seq #[.int k s.toks, u] } := (hs'.2 _ (Nat.ne_of_gt helt)).trans hT
  refine hQ _ h'' _ ⟨⟨_, he'⟩, hit'.at fun o y => (hs'.2 it hei.symm).trans y, fun b o eb => keep b o (fun hm => ?_) (h3 b o eb)⟩ keep fun κc kle hkc hown => ?_
  ·simp at hm; rcases hm with rfl | rfl
   ·exact bq he eb
   ·exact bq hi eb
  ·have hn : κc s.heap.objs.size = none := by
    cases q : κc s.heap.objs.size with
    | none => rfl
    | some o' => exact absurd (Heap.lt_size (hkc _ _ q)) (Nat.lt_irrefl _)
   have hle := eu (o := { cls := .type "tuple", data := .seq #[.int k s.toks, u] }) hn
   refine ⟨cc κc s.heap.objs.size { cls := .type "tuple", data := .seq #[.int k s.toks, u] }, hle, fun b o eb => ?_, fun b o eb => ?_, ?_⟩
   ·by_cases q : b = s.heap.objs.size
    ·subst q; exact .inr ⟨b8 _, fun hm => by simp at hm; rcases hm with q | q; exact (Nat.ne_of_gt helt) q; exact (Nat.ne_of_gt hilt) q⟩
    ·rw [bp q] at eb; exact .inl eb
   ·by_cases q : b = s.heap.objs.size
    ·subst q; unfold cc at eb; rw [if_pos rfl] at eb; cases eb; exact hTT
    ·rw [bp q] at eb; exact keep b o (fun hm => by exact bq (hown b hm) eb) (hkc b o eb)
   ·simp only [R]
    refine ⟨_, _, _, _, rfl, if_pos rfl, rfl, rfl, rfl, ?_⟩
    simp only [RL]
    exact ⟨_, _, rfl, ⟨_, by rw [Nat.zero_add]⟩, _, _, rfl, ru.mono (kle.trans hle), rfl⟩
 done := fun s Q E ⟨⟨old, h1⟩, h2, h3⟩ hQ => by
  refine byC fun hC2 => ?_
  obtain ⟨ol, hol, hc, n, hd⟩ := hl
  refine hC2 ?_
  have hL : s.heap.IsList l vs := ⟨ol, h3 _ _ hol, hc, n, hd⟩
  have hsz : vs.size = ds.length := by rw [<- hr.length, Array.length_toList]
  rw [dj] at h2
  rw [dj] at h1
  exact wpAny_pyNext_enum_end hh h1 h2 hL (Array.getElem?_eq_none (by lia)) fun h' hx => hQ h' s.toks fun b o hb y => hx b o (fun e' => hb (by simp [e'])) y
 self := fun k s Q E ⟨⟨old, h1⟩, _, _⟩ hQ => wpAny_pyIter_enum h1 hQ
theorem Ci {κ φ κ₀ : Kp} {σ : List Addr} {s : Shared} {a : AV} {ds : List D} {v : Value} (h : a = .d (.list ds) ∨ ∃ i : Nat, a = .obj i /\ st[i]? = some (.frz (.list ds))) (X : Rel C φ κ₀ κ σ st s) (r : RV κ σ a v) : R κ (.list ds) v := by
 rcases h with rfl | ⟨i, rfl, e⟩
 ·exact r
 ·obtain ⟨b, hb, rfl⟩ := r
  obtain ⟨b', hb', r⟩ := X.frz e
  rw [hb] at hb'; cases hb'; exact r
theorem ww {elts : List Expr} {kk : Nat} {tp : Pos} {x : Str} {np pos : Pos} {e : Expr} {Q : List D -> List ac -> Prop} (i : Nat) (hh : A.handled = none) (g : ag C x (.type "enumerate")) (hk : ae.scope.names[i]? = some (x, .globalImplicit))
  (he : ∀ env, starEach [e] env = [(false, eval e env)])
  (h : wE C A G ae st e fun a st1 => ∃ ds, (a = .d (.list ds) ∨ ∃ i : Nat, a = .obj i /\ st1[i]? = some (.frz (.list ds))) /\ Q (eh 0 ds) st1) : wEI C A G ae (.Tuple elts kk tp) st (.Call (.Name x np) [e] [] pos) Q := fun κ σ s en X => by
 refine wpAny_Call_ofName (wpAny_mono (ao i (Q := fun a st1 => a = .glob (.type "enumerate") /\ st1 = st) g hk ⟨rfl, rfl⟩ κ σ s en X) (fun vf s1 z => z.go fun κ1 σ1 f st1 k1 p1 X1 r1 q1 => ?_) fun _ _ z => z)
 refine byC fun hC1 => ?_
 obtain ⟨rfl, rfl⟩ := q1
 cases (r1 : vf = _)
 refine hC1 ?_
 refine gf (by rw [he]; rfl) rfl (wpAny_mono (ad (Q := fun as st3 => ∃ a ds, as = [a] /\ (a = .d (.list ds) ∨ ∃ i : Nat, a = .obj i /\ st3[i]? = some (.frz (.list ds))) /\ Q (eh 0 ds) st3) (fun env => by rw [he]; rfl) (W.mono h fun a st2 q => ak ⟨a, q.choose, rfl, q.choose_spec⟩) κ1 σ1 s1 (en.mono p1) X1)
  (fun vs s2 z => z.go fun κ2 σ2 as st2 k2 p2 X2 r2 q2 => wpAny_evalAll_nil ⟨.inr (.inl ⟨_, rfl⟩), ?_⟩) fun _ _ z => z)
 refine byC fun hC2 => ?_
 obtain ⟨a, ds, rfl, ha, q⟩ := q2
 obtain ⟨v, rfl, rv⟩ := r2.one
 have rd := Ci ha X2 rv
 simp only [R] at rd
 obtain ⟨l, o, us, n, rfl, h2, h3, h4, h5, h6⟩ := rd
 refine hC2 ?_
 have hl : s2.heap.IsList l us := ⟨o, X2.keep _ _ h2, h3, n, h5⟩
 have hlt : l < s2.heap.objs.size := Heap.lt_size (X2.keep _ _ h2)
 refine call_enumerate_list hl fun h' hE hI hsz hkeep => wpAny_pyIter_enum hE ?_
 have hF : ∀ b ∈ [s2.heap.objs.size + 1, s2.heap.objs.size], kc C G.φ κ2 σ2 b := fun b hb => by
  refine X2.free_new ?_
  simp at hb
  rcases hb with rfl | rfl
  ·cases q : s2.heap.get? (s2.heap.objs.size + 1) with
   | none => rfl
   | some o' => exact absurd (Heap.lt_size q) (Nat.not_lt.mpr (Nat.le_succ _))
  ·exact b8 _
 have X3 := X2.keeps (s' := { s2 with heap := h' }) hkeep rfl rfl
 exact ⟨κ2, σ2, _, st2, _, _, _, rfl, k1.trans k2, p1.trans p2, X3, hF, Itr.enum hh (Nat.succ_ne_self _) (Nat.ne_of_lt (Nat.lt_succ_of_lt hlt)) (Nat.ne_of_lt hlt) h6 (hF _ (by simp)).1 (hF _ (by simp)).1 ⟨o, h2, h3, n, h5⟩, ⟨⟨_, hE⟩, hI, X3.keep⟩, q⟩
end
end Mine
end
section
open PySem PySem.Calls PyProof.Rows PySem.W PySem.SeqAt PyProof.V
namespace Mine
noncomputable def wr (prog : Program) (w : World) (A : Around) (e elt target : Expr) (ifs : List Expr) (add : String) : Prop :=
 ∀ {R : Result -> Shared -> Prop} {s : Shared} {it acc : Value} {env : Env} (I : Nat -> Shared -> Prop)
  (turn : ∀ n s, I n s -> wpAny (model prog w) A (pyNext it) (fun r s₁ => match r with
   | none => R (.ok .next) s₁
   | some v => wpAny (model prog w) A (letOwnedTupleGo target it v) (fun _ s₁' => wpAny (model prog w) A (assign target env v) (fun _ s₂ =>
     wpAny (model prog w) A (forIn ifs true fun c r => if r = true then do let ok ← isTrue c env (eval c env); pure (ForInStep.yield ok) else pure (ForInStep.yield r)) (fun ok s₃ =>
      if ok = true then wpAny (model prog w) A (eval elt env) (fun x s₄ =>
       wpAny (model prog w) A (call (.builtin add) [acc, x]) (fun _ s₅ => ∃ m, m < n /\ I m s₅) (notedBy (model prog w) A env fun e s' => R (.error e) s') s₄) (notedBy (model prog w) A env fun e s' => R (.error e) s') s₃
      else ∃ m, m < n /\ I m s₃) (notedBy (model prog w) A env fun e s' => R (.error e) s') s₂) (notedBy (model prog w) A env fun e s' => R (.error e) s') s₁') (notedBy (model prog w) A env fun e s' => R (.error e) s') s₁) (notedBy (model prog w) A env fun e s' => R (.error e) s') s)
  (n : Nat) (h : I n s), codeAny (model prog w) A (.compLoop e 0 it acc env) R s
theorem z0 {prog : Program} {w : World} {A : Around} {elt target iter : Expr} {ifs : List Expr} {scope : Scope} {pos : Pos} : wr prog w A (.ListComp elt [⟨target, iter, ifs, 0⟩] scope pos) elt target ifs "list.append" := by
 intro R s it acc env I turn n h
 refine codeAny_loop rfl I (fun n s hI => ?_) n h
 show wpAny _ A ((compTurn (.ListComp elt [⟨target, iter, ifs, 0⟩] scope pos) 0 it acc env).onRaise (fun x => do noteFrame x env; theTreesLotGoes x)) _ _ s
 refine wpAny_noted ?_
 rw [compTurn_list]
 refine wpAny_bind (wpAny_standAt (wpAny_bind (wpAny_mono (turn n s hI) (fun r s₁ h₁ => ?_) fun _ _ h' => h')))
 cases r with
 | none => exact wpAny_pure h₁
 | some v =>
  refine wpAny_bind (wpAny_mono h₁ (fun _ s₁' h₁' => ?_) fun _ _ h' => h')
  refine wpAny_bind (wpAny_mono h₁' (fun _ s₂ h₂ => wpAny_bind (wpAny_mono h₂ (fun ok s₃ h₃ => ?_) fun _ _ h' => h')) fun _ _ h' => h')
  cases ok with
  | false => exact wpAny_pure ⟨rfl, h₃⟩
  | true =>
   exact wpAny_bind (wpAny_bind (wpAny_mono h₃ (fun x s₄ h₄ => wpAny_bind (wpAny_mono h₄ (fun _ s₅ h₅ => wpAny_pure (wpAny_pure ⟨rfl, h₅⟩)) fun _ _ h' => h')) fun _ _ h' => h'))
noncomputable def ll (cells : List (Str × Nat)) : List (Str × NameKind) -> List (Str × Nat) -> Option (List (Str × Nat))
 | [], acc => some acc
 | (n, k) :: r, acc => if k == .free then (match cells.lookup n with | some i => ll cells r ((n, i) :: acc) | none => none) else ll cells r acc
theorem xa {α : Type} : ∀ {l : List (Str × α)} {x : Str} {a : α}, l.lookup x = some a -> ∃ j : Nat, l[j]? = some (x, a)
 | [], _, _, h => by simp at h
 | (y, b) :: l, x, a, h => by
  rw [List.lookup_cons] at h
  cases q : x == y with
  | true => rw [q] at h; cases h; exact ⟨0, by simp [eq_of_beq q]⟩
  | false => rw [q] at h; obtain ⟨j, e⟩ := xa h; exact ⟨j + 1, by simpa using e⟩
theorem o6 {ae : a9} {σ : List Addr} {env : Env} (e : cy ae σ env) : ∀ (names : List (Str × NameKind)) (cl : List (Str × Addr)) (ca ca' : List (Str × Nat)), ll ae.cells names ca = some ca' -> CR σ cl ca →
  ∃ cl', (forIn names cl fun x cs => (if x.2 == .free then do let a ← cellOf env x.1; pure (ForInStep.yield ((x.1, a) :: cs)) else pure (ForInStep.yield cs) : Sem _)) = pure cl' /\ CR σ cl' ca'
 | [], cl, ca, ca', h, c => by cases h; exact ⟨cl, by rw [List.forIn_nil], c⟩
 | (n, k) :: r, cl, ca, ca', h, c => by
  rw [List.forIn_cons]
  cases hk : (k == NameKind.free) with
  | false =>
   simp only [ll, hk, Bool.false_eq_true, if_false] at h
   simp only [Bool.false_eq_true, if_false]
   exact o6 e r cl ca ca' h c
  | true =>
   simp only [ll, hk, if_true] at h
   cases hl : ae.cells.lookup n with
   | none => rw [hl] at h; cases h
   | some i =>
    rw [hl] at h
    refine byC fun hC1 => ?_
    obtain ⟨j, hj⟩ := xa hl
    obtain ⟨a, h1, h2⟩ := e.cell hj
    obtain ⟨cl', h3, h4⟩ := o6 e r ((n, a) :: cl) ((n, i) :: ca) ca' h (c.cons h2)
    refine hC1 ?_
    refine ⟨cl', ?_, h4⟩
    rw [<- h3]
    have : cellOf env n = pure a := by unfold cellOf; rw [h1]
    simp only [if_true, this]
    rfl
theorem kh {ae : a9} {σ : List Addr} {env : Env} (e : cy ae σ env) {scope : Scope} {ca : List (Str × Nat)} (h : ll ae.cells scope.names [] = some ca) : ∃ cl, closureFor scope env = pure cl /\ CR σ cl ca := by
 refine byC fun hC1 => ?_
 obtain ⟨cl, h1, h2⟩ := o6 e scope.names [] [] ca h CR.nil
 refine hC1 ?_
 refine ⟨cl, ?_, h2⟩
 unfold closureFor
 show (forIn scope.names ([] : List (Str × Addr)) (fun x cs => (if x.2 == .free then do let a ← cellOf env x.1; pure (ForInStep.yield ((x.1, a) :: cs)) else pure (ForInStep.yield cs) : Sem _)) >>= fun cs => pure cs) = _
 rw [h1]; rfl
noncomputable def fk (scope outer : Scope) : Scope := { scope with names := scope.names.map fun (n, k) => if (k == .free && outer.kind == .function && outer.names.lookup n == some .cell) then (n, .cell) else (n, k) }
theorem Cb (scope : Scope) (env : Env) : relabel scope env = fk scope env.scope := rfl
theorem mm (scope outer : Scope) : (fk scope outer).names.map (·.1) = scope.names.map (·.1) := by
 show (scope.names.map _).map _ = _
 rw [List.map_map]
 refine List.map_congr_left fun x _ => ?_
 show (if _ then _ else _ : Str × NameKind).1 = x.1
 split <;> rfl
theorem ew.relabel {scope : Scope} (h : ew scope) (outer : Scope) : ew (fk scope outer) where
 kind := h.kind
 nd := by rw [mm]; exact h.nd
 nodebug := fun p hp => by
  have : p.1 ∈ scope.names.map (·.1) := by rw [<- mm scope outer]; exact List.mem_map_of_mem hp
  obtain ⟨q, hq, e⟩ := List.mem_map.mp this
  rw [<- e]; exact h.nodebug q hq
noncomputable def zs (is : List Nat) : AV -> AV -> Prop
 | .d x, .d y => x = y
 | .obj i, .obj j => is[j]? = some i
 | .glob v, .glob w => v = w
 | _, _ => False
noncomputable def w3 (is : List Nat) : ac -> ac -> Prop
 | .ns names vars, .ns names' vars' => names' = names /\ ∀ (j : Nat) (a' : AV), vars'[j]? = some (some a') -> ∃ a, vars[j]? = some (some a) /\ zs is a a'
 | .cell (some a), .cell (some b) => zs is a b
 | .cell none, .cell none => True
 | .list l, .list l' => l.length = l'.length /\ ∀ (j : Nat) (a a' : AV), l[j]? = some a -> l'[j]? = some a' -> zs is a a'
 | .frz d, .frz d' => d = d'
 | .raw P, .raw P' => P = P'
 | _, _ => False
theorem w3.live {is : List Nat} {x y : ac} (h : w3 is x y) (hx : x.live) : y.live := by
 cases y with
 | frz => cases x with
  | frz => exact hx
  | cell c => cases c <;> exact h.elim
  | _ => exact h.elim
 | _ => trivial
structure Oq (is : List Nat) (st st' : List ac) : Prop where
 len : st'.length = is.length
 nd : is.Nodup
 get : ∀ (j i : Nat) (y : ac), is[j]? = some i -> st'[j]? = some y -> ∃ x, st[i]? = some x /\ w3 is x y
section
variable {C : Cx} {φ κ₀ κ : Kp} {σ : List Addr} {st : List ac} {s : Shared}
noncomputable def na (σ : List Addr) (is : List Nat) : List Addr := is.map fun i => σ.getD i 0
theorem nq {is : List Nat} {j i : Nat} (h : is[j]? = some i) : (na σ is)[j]? = some (σ.getD i 0) := by simp [na, h]
theorem RV.re {is : List Nat} (hb : ∀ i ∈ is, i < σ.length) {a b : AV} {v : Value} (r : RV κ σ a v) (h : zs is a b) : RV κ (na σ is) b v := by
 cases a with
 | d x => cases b with
  | d y => cases (h : x = y); exact r
  | obj => exact h.elim
  | glob => exact h.elim
 | glob x => cases b with
  | glob y => cases (h : x = y); exact r
  | obj => exact h.elim
  | d => exact h.elim
 | obj i => cases b with
  | obj j =>
   obtain ⟨a, ha, rfl⟩ := r
   have h : is[j]? = some i := h
   exact ⟨a, by rw [nq h, List.getD_eq_getElem?_getD, ha]; rfl, rfl⟩
  | d => exact h.elim
  | glob => exact h.elim
theorem RO.re {is : List Nat} (hb : ∀ i ∈ is, i < σ.length) {x y : ac} {o : Obj} (r : RO κ σ x o) (h : w3 is x y) : RO κ (na σ is) y o := by
 cases x with
 | ns names vars => cases y with
  | ns names' vars' =>
   obtain ⟨rfl, h⟩ := h
   obtain ⟨h1, m, h2, h3⟩ := r
   exact ⟨h1, m, h2, fun j z a e1 e2 => let ⟨a0, h4, h5⟩ := h j a e2; let ⟨v, h6, h7⟩ := h3 j z a0 e1 h4; ⟨v, h6, h7.re hb h5⟩⟩
  | cell => exact h.elim
  | list => exact h.elim
  | frz => exact h.elim
  | raw => exact h.elim
 | cell a => cases y with
  | cell b => cases a with
   | none => cases b with
    | none => exact r
    | some => exact h.elim
   | some a => cases b with
    | none => exact h.elim
    | some b => obtain ⟨v, h1, h2⟩ := r; exact ⟨v, h1, h2.re hb h⟩
  | ns => cases a <;> exact h.elim
  | list => cases a <;> exact h.elim
  | frz => cases a <;> exact h.elim
  | raw => cases a <;> exact h.elim
 | list l => cases y with
  | list l' =>
   obtain ⟨hl, h⟩ := h
   obtain ⟨vs, n, h1, h2, h3⟩ := r
   refine ⟨vs, n, h1, h2.trans hl, fun i b e => ?_⟩
   have hi : i < l.length := by
    by_cases q : i < l.length
    ·exact q
    ·exact bq (List.getElem?_eq_none (by lia)) e
   obtain ⟨v, h4, h5⟩ := h3 i _ (List.getElem?_eq_getElem hi)
   exact ⟨v, h4, h5.re hb (h i _ _ (List.getElem?_eq_getElem hi) e)⟩
  | ns => exact h.elim
  | cell => exact h.elim
  | frz => exact h.elim
  | raw => exact h.elim
 | frz d => cases y with
  | frz d' => trivial
  | ns => exact h.elim
  | cell => exact h.elim
  | list => exact h.elim
  | raw => exact h.elim
 | raw P => cases y with
  | raw P' => cases (h : P = P'); exact r
  | ns => exact h.elim
  | cell => exact h.elim
  | list => exact h.elim
  | frz => exact h.elim
theorem Rel.pick (X : Rel C φ κ₀ κ σ st s) {is : List Nat} {st' : List ac} (P : Oq is st st') : Rel C φ κ₀ κ (na σ is) st' s := by
 have hb : ∀ i ∈ is, i < σ.length := fun i hi => by
  obtain ⟨j, hj, e⟩ := List.getElem_of_mem hi
  have hj' : j < st'.length := by rw [P.len]; exact hj
  obtain ⟨x, h1, _⟩ := P.get j i _ (by rw [List.getElem?_eq_getElem hj, e]) (List.getElem?_eq_getElem hj')
  rw [X.len]
  by_cases q : i < st.length
  ·exact q
  ·exact bq (List.getElem?_eq_none (by lia)) h1
 refine ⟨X.prog, X.k0, X.new, X.keep, X.phi, by simp [na, P.len], ?_, fun j a y e1 e2 => ?_, fun Q hQ => ?_, X.gens, X.os⟩
 ·rw [na, List.nodup_iff_pairwise_ne, List.pairwise_map]
  have h0 := (List.nodup_iff_pairwise_ne.mp P.nd)
  refine h0.imp_of_mem fun {i j} hi hj hne he => hne ?_
  have h1 := hb i hi
  have h2 := hb j hj
  rw [List.getD_eq_getElem?_getD, List.getD_eq_getElem?_getD, List.getElem?_eq_getElem h1, List.getElem?_eq_getElem h2] at he
  exact (List.getElem_inj X.nd).mp he
 ·have hj : j < is.length := by
   by_cases q : j < is.length
   ·exact q
   ·rw [List.getElem?_eq_none (by simp [na]; lia)] at e1; cases e1
  have hi := List.getElem?_eq_getElem hj
  obtain ⟨x, hx, hr⟩ := P.get j _ y hi e2
  rw [nq hi] at e1
  have hlt := hb _ (List.getElem_mem hj)
  have ha : σ[is[j]]? = some a := by
   rw [List.getD_eq_getElem?_getD, List.getElem?_eq_getElem hlt] at e1
   rw [List.getElem?_eq_getElem hlt]; exact e1
  rcases X.own _ a x ha hx with ⟨d, rfl, r, hs⟩ | ⟨hl, q1, q2, o, q3, q4⟩
  ·cases y with
   | frz d' => cases (hr : d = d'); exact .frz d rfl r hs
   | _ => exact hr.elim
  ·exact .own (hr.live hl) q1 q2 o q3 (q4.re hb hr)
 ·obtain ⟨q1, q2, q3, q4⟩ := X.tabs Q hQ
  refine ⟨q1, q2, q3, fun hm => q4 ?_⟩
  obtain ⟨i, hi, e⟩ := List.mem_map.mp hm
  have h1 := hb i hi
  rw [List.getD_eq_getElem?_getD, List.getElem?_eq_getElem h1] at e
  subst e; exact List.getElem_mem h1
theorem Ii {n : Nat} {is : List Nat} (h : ∀ j, j < n -> is[j]? = some j) (hn : n <= σ.length) : σ.take n <+: na σ is := by
 rw [List.prefix_iff_eq_take]
 refine List.ext_getElem? fun j => ?_
 rw [List.length_take, Nat.min_eq_left hn]
 by_cases q : j < n
 ·rw [List.getElem?_take_of_lt q, List.getElem?_take_of_lt q, nq (h j q), List.getElem?_eq_getElem (by lia), List.getD_eq_getElem?_getD, List.getElem?_eq_getElem (by lia)]; rfl
 ·rw [List.getElem?_eq_none (by simp; lia), List.getElem?_eq_none (by simp; lia)]
end
end Mine
end
section
open PySem PySem.Calls PyProof.Rows PySem.W PySem.SeqAt PyProof.V
namespace Mine
section
variable {C : Cx} {A : Around} {G : Gd} {ae : a9} {st : List ac}
noncomputable def w8 (C : Cx) (A : Around) (G : Gd) (ae : a9) (st : List ac) (ifs : List Expr) (Q : Bool -> List ac -> Prop) : Prop :=
 W RB C A G ae st (forIn ifs true fun c r => if r = true then do let ok ← isTrue c G.env (eval c G.env); pure (ForInStep.yield ok) else pure (ForInStep.yield r)) Q
theorem gx {Q : Bool -> List ac -> Prop} (q : Q true st) : w8 C A G ae st [] Q := fun κ σ s e X => wpAny_tests_nil (PA.ret (b := true) X rfl q)
theorem xe {c : Expr} {Q : Bool -> List ac -> Prop} (h : wB C A G ae st c Q) : w8 C A G ae st [c] Q := fun κ σ s e X => wpAny_tests_one (h κ σ s e X)
noncomputable def bg (ae : a9) (scope : Scope) (n0 : Nat) (ca : List (Str × Nat)) : a9 := ⟨fk scope ae.scope, n0 + 1, cellsFrom (n0 + 2) scope.names ca, ae.code, ae.qual⟩
inductive dt (J : Nat -> List ac -> Prop) (st2 : List ac) (k : Nat) (st7 : List ac) : Prop
 | mk (tl' : List ac) (hsub : Sub (st2.length + tl'.length) st7 (st2 ++ tl')) (hj : J (k + 1) tl')
inductive lm (J : Nat -> List ac -> Prop) (st2 : List ac) (k : Nat) (a : AV) (st5 : List ac) : Prop
 | mk (l : List AV) (tl' : List ac) (hl : st5[st2.length]? = some (.list l)) (hsz : l.length <= sizeLine) (hsub : Sub (st2.length + tl'.length) (st5.set st2.length (.list (l ++ [a]))) (st2 ++ tl')) (hj : J (k + 1) tl')
inductive j7 (C : Cx) (G : Gd) (own : List Addr) (St : Nat -> Heap -> Prop) (J : Nat -> List ac -> Prop) (st2 : List ac) (len : Nat) (κ4 : Kp) (σ4 : List Addr) (n : Nat) (s' : Shared) : Prop
 | mk (k : Nat) (κ' : Kp) (σ' : List Addr) (tl : List ac) (hn : n = len - k) (hk : k <= len) (kle : Kle κ4 κ') (ple : σ4 <+: σ') (X : Rel C G.φ G.κ₀ κ' σ' (st2 ++ tl) s') (hf : ∀ b ∈ own, kc C G.φ κ' σ' b) (hst : St k s'.heap) (hj : J k tl)
theorem Bu {scope : Scope} {ca : List (Str × Nat)} {n : Nat} {c : Value} {q : Str} {σ2 σ4 : List Addr} {env env4 : Env} (hnf : ef ae.scope = true) (ok : ew scope) (e : cy ae σ2 env) (p : σ2 <+: σ4) (e4 : cy ⟨scope, n + 1, cellsFrom (n + 2) scope.names ca, c, q⟩ σ4 env4)
  (hq : env4.qual = env.qual) (hcode : env4.code = env.code) (hfr : env4.frame = env.frame) : cy (bg ae scope n ca) σ4 { env4 with scope := relabel scope env } := by
 refine ⟨?_, e4.loc, e4.cnames, e4.cnd, e4.cells, hcode.trans e.code, hq.trans e.qual, e4.globals, e4.builtins, ok.relabel _, fun _ => ?_⟩
 ·show relabel scope env = fk scope ae.scope
  rw [Cb, e.scope]
 ·obtain ⟨L, h1, h2⟩ := e.frame hnf
  exact ⟨L, hfr.trans h1, cx p h2⟩
theorem j7.next {tgt : Expr} {own : List Addr} {St : Nat -> Heap -> Prop} {J : Nat -> List ac -> Prop} {nc k : Nat} {its : List D} {κ2 κ4 κ7 : Kp} {σ4 σ7 : List Addr} {Ia : Addr} {st2 st7 : List ac} {s7 : Shared} {h' : Heap} (hItr : Itr C A tgt κ2 Ia own its St) (hφκ : (∀ b ∈ own, G.φ b = none) /\ ∀ b ∈ own, G.κ₀ b = none)
  (hlen4 : σ4.length = st2.length + (2 + nc)) (hJ : ∀ k tl, J k tl -> 2 + nc <= tl.length /\ ∃ N V, tl[1]? = some (.ns N V)) (hlt : k < its.length) (k4 : Kle κ2 κ4) (k7 : Kle κ4 κ7) (p7 : σ4 <+: σ7) (X7 : Rel C (d3 G.φ own h') G.κ₀ κ7 σ7 st7 s7) (hst1 : St (k + 1) h')
  (hn : dt J st2 k st7) : ∃ m, m < its.length - k /\ j7 C G own St J st2 its.length κ4 σ4 m s7 := by
 obtain ⟨tl', hsub, hj'⟩ := hn
 have X8 := X7.leave hφκ.1 hφκ.2 (hItr.ex _ _ hst1)
 have hl := (hJ _ _ hj').1
 exact ⟨its.length - (k + 1), by lia, k + 1, κ7, σ7.take (st2.length + tl'.length), tl', rfl, by lia, k7, List.prefix_take_iff.mpr ⟨p7, by lia⟩, X8.1.sub hsub, fun b hb => ⟨(X8.2.1 b hb).1, (X8.2.1 b hb).2.1, fun hm => (X8.2.1 b hb).2.2.1 (List.mem_of_mem_take hm), (X8.2.1 b hb).2.2.2⟩,
  hItr.frame _ _ _ hst1 (fun b hb o eo => (X8.2.2 b hb).trans eo) (fun b o eo => X8.1.keep b o (k7 b o (k4 b o eo))), hj'⟩
theorem yv {add : String} {EP : AV -> List ac -> Prop} {J : Nat -> List ac -> Prop} {st2 st8 : List ac} {k : Nat} {elt : Expr} {ae' : a9} {κ8 : Kp} {σ8 : List Addr} {s8 : Shared} {acc : Addr} {N : Shared -> Prop} (hadd : ∀ st9 a, EP a st9 -> wBi C A G st9 (.builtin add) [.obj st2.length, a] fun _ st' => dt J st2 k st') (h : wE C A G ae' st8 elt EP) (e8 : cy ae' σ8 G.env) (X8 : Rel C G.φ G.κ₀ κ8 σ8 st8 s8) (hacc : σ8[st2.length]? = some acc)
  (hN : ∀ κ10 σ10 st10 s10, Kle κ8 κ10 -> σ8 <+: σ10 -> Rel C G.φ G.κ₀ κ10 σ10 st10 s10 -> dt J st2 k st10 -> N s10) :
  wpAny (model C.prog C.w) A (eval elt G.env) (fun x s4 => wpAny (model C.prog C.w) A (call (.builtin add) [.ref acc, x]) (fun _ s5 => N s5) G.E s4) G.E s8 :=
 wpAny_mono (h κ8 σ8 s8 e8 X8) (fun xv s9 z => z.go fun κ9 σ9 a st9 k9 p9 X9 r9 q9 =>
  wpAny_mono (hadd st9 a q9 κ9 σ9 s9 [.ref acc, xv] X9 (RVL.cons ⟨_, cx p9 hacc, rfl⟩ (RVL.cons r9 RVL.nil))) (fun _ s10 z => z.go fun κ10 σ10 _ st10 k10 p10 X10 _ q10 => hN κ10 σ10 st10 s10 (k9.trans k10) (p9.trans p10) X10 q10) fun _ _ z => z) fun _ _ z => z
theorem F4 {J : Nat -> List ac -> Prop} {st2 st9 : List ac} {k : Nat} {a : AV} (q : lm J st2 k a st9) : wBi C A G st9 (.builtin "list.append") [.obj st2.length, a] fun _ st' => dt J st2 k st' := by
 obtain ⟨l, tl', hl, hsz, hsub, hj'⟩ := q
 exact ku hl hsz ⟨tl', hsub, hj'⟩
theorem H9 {J : Nat -> List ac -> Prop} {st2 st8 : List ac} {k : Nat} {elt : Expr} {ae' : a9} {κ8 : Kp} {σ8 : List Addr} {s8 : Shared} {acc : Addr} {N : Shared -> Prop} {n : Nat} (h : wE C A G ae' st8 elt (lm J st2 k)) (e8 : cy ae' σ8 G.env) (X8 : Rel C G.φ G.κ₀ κ8 σ8 st8 s8) (hn : st2.length = n) (hacc : σ8[n]? = some acc)
  (hN : ∀ κ10 σ10 st10 s10, Kle κ8 κ10 -> σ8 <+: σ10 -> Rel C G.φ G.κ₀ κ10 σ10 st10 s10 -> dt J st2 k st10 -> N s10) :
  wpAny (model C.prog C.w) A (eval elt G.env) (fun x s4 => wpAny (model C.prog C.w) A (call (.builtin "list.append") [.ref acc, x]) (fun _ s5 => N s5) G.E s4) G.E s8 :=
 yv (fun _ _ q => F4 q) h e8 X8 (hn ▸ hacc) hN
theorem wj {st2 tl : List ac} {κ' : Kp} {σ' : List Addr} {s' : Shared} {Lc : Addr} (X : Rel C G.φ G.κ₀ κ' σ' (st2 ++ tl) s') (hns : ∃ N V, tl[1]? = some (.ns N V)) (hL : σ'[st2.length + 1]? = some Lc) : ∃ m, s'.heap.Ns Lc m := by
 obtain ⟨N, V, hns⟩ := hns
 obtain ⟨L', o, hL', _, _, ho, _, m, hm, _⟩ := X.get (i := st2.length + 1) (x := .ns N V) (by rw [List.getElem?_append_right (by lia)]; simpa using hns) trivial
 cases hL.symm.trans hL'
 exact ⟨m, hm.ns ho⟩
theorem vk {e : Expr} {add : String} {newAcc : Sem Value} {a0 : ac} {J : Nat -> List ac -> Prop} {EP : Nat -> AV -> List ac -> Prop} {elt target iter : Expr} {ifs : List Expr} {scope : Scope} {fpos : Pos} {ca : List (Str × Nat)} {use : Option (Value -> Sem Unit)} {Qf : Kp -> List Addr -> Value -> Shared -> Prop} {its : List D} {st2 : List ac}
  (hcls : clausesOf e = [⟨target, iter, ifs, 0⟩]) (loopR : wr C.prog C.w A e elt target ifs add)
  (startR : ∀ {R : Result -> Shared -> Prop} {s : Shared} {it acc : Value} {env : Env}, codeAny (model C.prog C.w) A (.compLoop e 0 it acc env) R s -> wpAny (model C.prog C.w) A (pyIter it) (fun it' s' => codeAny (model C.prog C.w) A (.compLoop e 0 it' acc env) R s') (notedBy (model C.prog C.w) A env fun x s' => R (.error x) s') s -> codeAny (model C.prog C.w) A (.compStart e 0 it acc env) R s)
  (newR : ∀ {Q : Value -> Shared -> Prop} {E : Value -> Shared -> Prop} {s : Shared}, (∀ o, o.isFreed = false -> (∀ κ σ, RO κ σ a0 o) -> Q (.ref s.heap.objs.size) { s with heap := s.heap.push o }) -> wpAny (model C.prog C.w) A newAcc Q E s) (live0 : a0.live)
  (addR : ∀ (G' : Gd) st9 k a, EP k a st9 -> wBi C A G' st9 (.builtin add) [.obj st2.length, a] fun _ st' => dt J st2 k st')
  (hnf : ef ae.scope = true) (ok : ew scope) (hca : ll ae.cells scope.names [] = some ca) (hcn : ((cellsFrom (st2.length + 2) scope.names ca).map (·.1)).Nodup)
  (hs : ∀ env x, foldedSetIterable iter env x = pure x) (hiter : wEI C A G ae target st iter fun its' st2' => its' = its /\ st2' = st2)
  (hJ : ∀ k tl, J k tl -> 2 + ar scope.names <= tl.length /\ ∃ N V, tl[1]? = some (.ns N V))
  (h0 : J 0 (a0 :: .ns (scope.names.map (·.1)) (List.replicate scope.names.length none) :: List.replicate (ar scope.names) (.cell none)))
  (turn : ∀ φ' E' env' k x tl, env'.frame = G.env.frame -> its[k]? = some x -> J k tl -> sb C A ⟨φ', G.κ₀, env', E'⟩ (bg ae scope st2.length ca) (st2 ++ tl) target (.d x) fun st3 => w8 C A ⟨φ', G.κ₀, env', E'⟩ (bg ae scope st2.length ca) st3 ifs fun ok st4 =>
   if ok then wE C A ⟨φ', G.κ₀, env', E'⟩ (bg ae scope st2.length ca) st4 elt (EP k)
   else dt J st2 k st4)
  (fin : ∀ κ σ σ2 κ' σ' tl s' acc Ca m, cy ae σ G.env -> σ <+: σ2 -> σ2.length = st2.length -> σ2 <+: σ' -> Kle κ κ' -> J its.length tl -> Rel C G.φ G.κ₀ κ' σ' (st2 ++ tl) s' -> σ'[st2.length]? = some acc -> σ'[st2.length + 1]? = some Ca -> s'.heap.Ns Ca m →
   compPost (model C.prog C.w) A G.E use (Qf κ σ) (.ref acc) Ca (.ok .next) s') :
  ∀ κ σ s, cy ae σ G.env -> Rel C G.φ G.κ₀ κ σ st s -> wpAny (model C.prog C.w) A (comprehension e scope G.env fpos newAcc false (eval iter G.env) use) (Qf κ σ) G.E s := by
 intro κ σ s en X
 refine byC fun hC1 => ?_
 obtain ⟨cl, hcl, hcr⟩ := kh en hca
 refine hC1 ?_
 refine wpAny_comprehension_free (g := ⟨target, iter, ifs, 0⟩) (gs := []) hcls (fun x => hs _ x) hcl ok.kind (fun x hx hl => ?_) ?_
 ·refine byC fun hC2 => ?_
  obtain ⟨i, hi, ex⟩ := List.getElem_of_mem hx
  refine hC2 ?_
  exact kq ok.nd (i := i) (by rw [List.getElem?_eq_getElem hi, ex, <- hl])
 refine wpAny_mono (hiter κ σ s en X) (fun v s1 z => wpAny_mono z (fun it s2 z => z.goS fun κ2 σ2 Ia own St hit k2 p2 X2 hfree hItr hst => ?_) fun _ _ z => z) fun _ _ z => z
 subst hit
 have e2 : cy ae σ2 G.env := en.mono p2
 have hlen : σ2.length = st2.length := X2.len
 have hφκ := hItr.freeOf X2 hfree
 have hex := hItr.ex _ _ hst
 refine newR fun so hlive hso => ?_
 have p3 : σ2 <+: σ2 ++ [s2.heap.objs.size] := List.prefix_append ..
 have X3 := (X2.enter hfree).alloc (s' := { s2 with heap := s2.heap.push so }) (a := s2.heap.objs.size) (x := a0) (b8 _) (fun b o e => Heap.get?_push_of_some _ e) (Heap.get?_push_size _ hlive) rfl rfl (hso _ _) live0
 have hfr2 : ∀ L0 : Addr, ∃ L, qz L0 (some G.env) = some L /\ (σ2 ++ [s2.heap.objs.size] ++ [L0])[0]? = some L := fun L0 => (e2.frame hnf).elim fun L h => ⟨L, h.1, cx (p3.trans (List.prefix_append ..)) h.2⟩
 refine ik (bs := []) (Q' := fun _ st0 => st0 = st2 ++ [a0] ++ [.ns (scope.names.map (·.1)) (List.replicate scope.names.length none)] ++ List.replicate (ar scope.names) (.cell none)) X3 ((hcr.mono p2).mono p3) ok
  (by simpa using hcn) (fun _ L0 => hfr2 L0) en.globals en.builtins rfl RVL.nil (fun env => by simp only [bu]) fun κ4 σ4 st4 env4 s4 k4 p4 e4 he4 X4 q4 => ?_
 cases q4
 have e4' : cy ⟨scope, st2.length + 1, cellsFrom (st2.length + 2) scope.names ca, pw .none (some G.env), G.env.qual⟩ σ4 env4 := by simpa using e4
 have hfacts : env4.qual = G.env.qual /\ env4.code = G.env.code /\ env4.frame = G.env.frame := by
  obtain ⟨cells4, he4⟩ := he4
  rw [he4]; exact ⟨rfl, rfl, rfl⟩
 have e5 : cy (bg ae scope st2.length ca) σ4 { env4 with scope := relabel scope G.env } := Bu hnf ok e2 (p3.trans p4) e4' hfacts.1 hfacts.2.1 hfacts.2.2
 have hL4 : σ4[st2.length + 1]? = some env4.locals := e4'.loc
 have hacc4 : σ4[st2.length]? = some s2.heap.objs.size := cx p4 (by rw [<- hlen]; simp)
 have hlen4 : σ4.length = st2.length + (2 + ar scope.names) := by rw [X4.len]; simp; lia
 have hst4 : St 0 s4.heap := hItr.frame _ _ _ hst (fun b hb o eo => X4.phi b o ((ml hb).trans eo)) fun b o eo => X4.keep b o (k4 b o eo)
 generalize hcenv : ({ env4 with scope := relabel scope G.env } : Env) = cenv at e5
 have hcf : cenv.frame = G.env.frame := by rw [<- hcenv]; exact hfacts.2.2
 have loop : codeAny (model C.prog C.w) A (.compLoop e 0 (.ref Ia) (.ref s2.heap.objs.size) cenv) (compPost (model C.prog C.w) A G.E use (Qf κ σ) (.ref s2.heap.objs.size) env4.locals) s4 := by
  refine loopR (j7 C G own St J st2 its.length κ4 σ4) ?_ (its.length - 0) ⟨0, κ4, σ4, _, rfl, Nat.zero_le _, Kle.refl _, List.prefix_refl _, by simpa using (X4.leave hφκ.1 hφκ.2 hex).1, (X4.leave hφκ.1 hφκ.2 hex).2.1, hst4, h0⟩
  generalize (notedBy (model C.prog C.w) A cenv fun e s' => compPost (model C.prog C.w) A G.E use (Qf κ σ) (.ref s2.heap.objs.size) env4.locals (.error e) s') = EE
  rintro n s' ⟨k, κ', σ', tl, rfl, hk, kle, ple, X', hf', hstk, hj⟩
  by_cases hlt : k < its.length
  ·refine hItr.item _ k its[k] s' _ _ (List.getElem?_eq_getElem hlt) hstk fun v h' tk hst1 hkeep hR => ?_
   refine byC fun hN => ?_
   obtain ⟨κc, hkc, X6, rv⟩ := Itr.took (tk := tk) X' hf' (k4.trans kle) hkeep hR
   refine hN ?_
   have e6 : cy (bg ae scope st2.length ca) σ' cenv := e5.mono ple
   refine wpAny_mono (turn (d3 G.φ own h') EE cenv k its[k] tl hcf (List.getElem?_eq_getElem hlt) hj κc σ' _ v e6 X6 rv) (fun _ s7 z => z.go fun κ7 σ7 _ st7 k7 p7 X7 _ q7 => ?_) fun _ _ z => z
   refine wpAny_mono (q7 κ7 σ7 s7 (e6.mono p7) X7) (fun okv s8 z => z.go fun κ8 σ8 okb st8 k8 p8 X8 r8 q8 => ?_) fun _ _ z => z
   cases (r8 : okv = okb)
   have k48 : Kle κ4 κ8 := kle.trans (hkc.trans (k7.trans k8))
   have p48 : σ4 <+: σ8 := ple.trans (p7.trans p8)
   cases okv with
   | false => exact j7.next hItr hφκ hlen4 hJ hlt k4 k48 p48 X8 hst1 q8
   | true => exact yv (G := ⟨d3 G.φ own h', G.κ₀, cenv, EE⟩) (fun st9 a q => addR _ st9 k a q) q8 (e6.mono (p7.trans p8)) X8 (cx p48 hacc4) fun κ10 σ10 st10 s10 k10 p10 X10 q10 => j7.next hItr hφκ hlen4 hJ hlt k4 (k48.trans k10) (p48.trans p10) X10 hst1 q10
  ·obtain rfl : k = its.length := by lia
   refine hItr.done s' _ _ hstk fun h' tk hkeep => ?_
   have X5 := X'.keepsButs (s' := { s' with heap := h', toks := tk }) hf' hkeep rfl rfl
   have hLk : σ'[st2.length + 1]? = some env4.locals := cx ple hL4
   refine (wj X5 (hJ _ _ hj).2 hLk).elim fun m hm => ?_
   exact fin κ σ σ2 κ' σ' tl _ _ _ m en p2 hlen ((p3.trans p4).trans ple) (k2.trans (k4.trans kle)) hj X5 (cx ple hacc4) hLk hm
 exact startR loop (hItr.self 0 s4 _ _ hst4 loop)
theorem ym {elt target iter : Expr} {ifs : List Expr} {scope : Scope} {pos fpos : Pos} {ca : List (Str × Nat)} {use : Option (Value -> Sem Unit)} {Qf : Kp -> List Addr -> Value -> Shared -> Prop} {its : List D} {st2 : List ac}
  (hnf : ef ae.scope = true) (ok : ew scope) (hca : ll ae.cells scope.names [] = some ca) (hcn : ((cellsFrom (st2.length + 2) scope.names ca).map (·.1)).Nodup)
  (hs : ∀ env x, foldedSetIterable iter env x = pure x) (hiter : wEI C A G ae target st iter fun its' st2' => its' = its /\ st2' = st2)
  (J : Nat -> List ac -> Prop) (hJ : ∀ k tl, J k tl -> 2 + ar scope.names <= tl.length /\ ∃ N V, tl[1]? = some (.ns N V))
  (h0 : J 0 (.list [] :: .ns (scope.names.map (·.1)) (List.replicate scope.names.length none) :: List.replicate (ar scope.names) (.cell none)))
  (turn : ∀ φ' E' env' k x tl, env'.frame = G.env.frame -> its[k]? = some x -> J k tl -> sb C A ⟨φ', G.κ₀, env', E'⟩ (bg ae scope st2.length ca) (st2 ++ tl) target (.d x) fun st3 => w8 C A ⟨φ', G.κ₀, env', E'⟩ (bg ae scope st2.length ca) st3 ifs fun ok st4 =>
   if ok then wE C A ⟨φ', G.κ₀, env', E'⟩ (bg ae scope st2.length ca) st4 elt (lm J st2 k)
   else dt J st2 k st4)
  (fin : ∀ κ σ σ2 κ' σ' tl s' acc Ca m, cy ae σ G.env -> σ <+: σ2 -> σ2.length = st2.length -> σ2 <+: σ' -> Kle κ κ' -> J its.length tl -> Rel C G.φ G.κ₀ κ' σ' (st2 ++ tl) s' -> σ'[st2.length]? = some acc -> σ'[st2.length + 1]? = some Ca -> s'.heap.Ns Ca m →
   compPost (model C.prog C.w) A G.E use (Qf κ σ) (.ref acc) Ca (.ok .next) s') :
  ∀ κ σ s, cy ae σ G.env -> Rel C G.φ G.κ₀ κ σ st s -> wpAny (model C.prog C.w) A (comprehension (.ListComp elt [⟨target, iter, ifs, 0⟩] scope pos) scope G.env fpos (newList []) false (eval iter G.env) use) (Qf κ σ) G.E s := by
 exact vk (e := .ListComp elt [⟨target, iter, ifs, 0⟩] scope pos) (add := "list.append") (a0 := .list []) (EP := lm J st2) rfl z0 (fun h1 h2 => codeAny_compStart_list h1 h2) (fun h => wpAny_newList (items := []) (h _ rfl fun _ _ => ⟨_, _, rfl, RVL.nil⟩) (Nat.zero_le _)) trivial (fun G' st9 k a q => F4 q) hnf ok hca hcn hs hiter hJ h0 turn fin
end
end Mine
end
section
open PySem PySem.Calls PyProof.Rows PySem.W PySem.SeqAt PyProof.V
namespace Mine
section
variable {C : Cx} {A : Around} {G : Gd} {ae : a9} {st : List ac}
inductive w6 (C : Cx) (G : Gd) (Qa : AV -> List ac -> Prop) (κ : Kp) (σ : List Addr) (acc Ca : Addr) (s : Shared) : Prop
 | mk (κ' : Kp) (σ' : List Addr) (a : AV) (st' : List ac) (k : Kle κ κ') (p : σ <+: σ') (X : Rel C G.φ G.κ₀ κ' σ' st' s) (r : RV κ' σ' a (.ref acc)) (q : Qa a st') (hf : kc C G.φ κ' σ' Ca)
theorem y6 {Qa : AV -> List ac -> Prop} {κ : Kp} {σ : List Addr} {acc Ca : Addr} {s : Shared} {m : Str -> Option Value} (h : w6 C G Qa κ σ acc Ca s) (hm : s.heap.Ns Ca m) :
  compPost (model C.prog C.w) A G.E none (PA RV C G.φ G.κ₀ κ σ Qa) (.ref acc) Ca (.ok .next) s := by
 refine byC fun hC1 => ?_
 obtain ⟨κ', σ', a, st', k, p, X, r, q, f⟩ := h
 refine hC1 ?_
 refine ⟨m, hm, fun h' hs => ⟨κ', σ', a, st', k, p, X.keepsButs (s' := { s with heap := h' }) (own := [Ca]) (fun b hb => by simp at hb; subst hb; exact f) (fun b o hb e => (hs.2 b (by simpa using hb)).trans e) rfl rfl, r, q⟩⟩
theorem By {x : Str} {xp : Pos} {Q : AF -> List ac -> Prop} {κ : Kp} {σ : List Addr} {acc Ca : Addr} {s : Shared} {m : Str -> Option Value} (e : cy ae σ G.env)
  (h : w6 C G (fun a st1 => ∀ φ', dx C A { G with φ := φ' } ae st1 x a fun st2 => Q .next st2) κ σ acc Ca s) (hm : s.heap.Ns Ca m) :
  compPost (model C.prog C.w) A G.E (some (assign (.Name x xp) G.env)) (fun _ s' => PA RF C G.φ G.κ₀ κ σ Q .next s') (.ref acc) Ca (.ok .next) s := by
 refine byC fun hC1 => ?_
 obtain ⟨κ', σ', a, st', k, p, X, r, q, f⟩ := h
 have hf : ∀ b ∈ [Ca], kc C G.φ κ' σ' b := fun b hb => by simp at hb; subst hb; exact f
 obtain ⟨o, es, ep, ho, hd⟩ := id hm
 refine hC1 ?_
 refine wpAny_assign_Name (wpAny_mono (q (d3 G.φ [Ca] s.heap) κ' σ' s _ (e.mono p) (X.enter hf) r) (fun _ s2 z => z.go fun κ2 σ2 _ st2 k2 p2 X2 _ q2 => ?_) fun _ _ z => z)
 have hκ₀ : ∀ b ∈ [Ca], G.κ₀ b = none := fun b hb => by
  simp at hb; subst hb
  cases q : G.κ₀ b with
  | none => rfl
  | some o => have := X.k0 b o q; exact bq f.1 this
 refine byC fun hC2 => ?_
 obtain ⟨X3, hf3, hh3⟩ := Rel.leave (φ := G.φ) (κ₀ := G.κ₀) (own := [Ca]) (h0 := s.heap) X2 (fun b hb => (hf b hb).2.1) hκ₀ (fun b hb => by simp at hb; subst hb; exact ⟨o, ho⟩)
 refine hC2 ?_
 have hm2 : s2.heap.Ns Ca m := ⟨o, es, ep, by rw [hh3 Ca (by simp)]; exact ho, hd⟩
 refine ⟨m, hm2, fun h' hs => ⟨κ2, σ2, .next, st2, k.trans k2, p.trans p2, X3.keepsButs (s' := { s2 with heap := h' }) (own := [Ca]) hf3 (fun b o hb e => (hs.2 b (by simpa using hb)).trans e) rfl rfl, rfl, q2⟩⟩
theorem Sub.set {n i : Nat} {st5 st6 : List ac} {y : ac} (h : Sub n st5 st6) (hy : y.below n) (hl : ∀ N V, y ≠ .ns N V) : Sub n (st5.set i y) (st6.set i y) := by
 obtain ⟨h1, h2, h3⟩ := h
 refine ⟨by simp [h1], by simp [h2], fun j a b hj e1 e2 => ?_⟩
 by_cases q : i = j
 ·subst q
  rw [List.getElem?_set_self (by lia)] at e1
  rw [List.getElem?_set_self (by lia)] at e2
  cases e1; cases e2
  cases y with
  | ns N V => exact (hl N V rfl).elim
  | cell => exact ⟨rfl, hy⟩
  | list => exact ⟨rfl, hy⟩
  | frz => exact ⟨rfl, hy⟩
  | raw => exact ⟨rfl, hy⟩
 ·rw [List.getElem?_set_ne q] at e1 e2
  exact h3 j a b hj e1 e2
theorem dp {α β : Type} (g : α -> Option β) (l : List α) (k : Nat) (x : α) (h : l[k]? = some x) : (l.take (k + 1)).filterMap g = (l.take k).filterMap g ++ (g x).toList := by
 rw [List.take_add_one, h, List.filterMap_append]
 cases q : g x <;> simp [q]
noncomputable def kt (scope : Scope) (acc : List D) (cs : List (Option AV)) : List ac := .list (acc.map .d) :: .ns (scope.names.map (·.1)) (List.replicate scope.names.length none) :: cs.map .cell
theorem wc {scope : Scope} {acc : List D} {cs : List (Option AV)} (h : cs.length = ar scope.names) : (kt scope acc cs).length = 2 + ar scope.names := by simp [kt, h]; lia
theorem Fz {scope : Scope} {acc : List D} {cs : List (Option AV)} {st2 : List ac} : (st2 ++ kt scope acc cs)[st2.length]? = some (.list (acc.map .d)) := by
 rw [List.getElem?_append_right (Nat.le_refl _), Nat.sub_self]; rfl
theorem Ai {scope : Scope} {acc : List D} {cs : List (Option AV)} {st2 : List ac} {y : ac} : (st2 ++ kt scope acc cs).set st2.length y = st2 ++ y :: (kt scope acc cs).tail := by
 rw [List.set_append_right _ _ (Nat.le_refl _), Nat.sub_self]; rfl
noncomputable def LcJ (scope : Scope) (its : List D) (g : D -> Option D) (k : Nat) (tl : List ac) : Prop := ∃ cs : List (Option AV), cs.length = ar scope.names /\ tl = kt scope ((its.take k).filterMap g) cs
theorem Ge {scope : Scope} {its : List D} {g : D -> Option D} (k : Nat) (tl : List ac) (h : LcJ scope its g k tl) : 2 + ar scope.names <= tl.length /\ ∃ N V, tl[1]? = some (.ns N V) := by
 obtain ⟨cs, hc, rfl⟩ := h
 exact ⟨Nat.le_of_eq (wc hc).symm, _, _, rfl⟩
theorem Cs {scope : Scope} {its : List D} {g : D -> Option D} : LcJ scope its g 0 (.list [] :: .ns (scope.names.map (·.1)) (List.replicate scope.names.length none) :: List.replicate (ar scope.names) (.cell none)) := ⟨List.replicate (ar scope.names) none, by simp, by simp [kt]⟩
inductive v6 (scope : Scope) (st2 : List ac) (acc : List D) (g : D -> Option D) (x : D) (a : AV) (st5 : List ac) : Prop
 | mk (y : D) (ha : a = .d y) (hg : g x = some y) (cs' : List (Option AV)) (hc : cs'.length = ar scope.names) (hsub : Sub (st2.length + (2 + ar scope.names)) st5 (st2 ++ kt scope acc cs'))
inductive pn (scope : Scope) (st2 : List ac) (acc : List D) (g : D -> Option D) (x : D) (st4 : List ac) : Prop
 | mk (hg : g x = none) (cs' : List (Option AV)) (hc : cs'.length = ar scope.names) (hsub : Sub (st2.length + (2 + ar scope.names)) st4 (st2 ++ kt scope acc cs'))
theorem pn.next {scope : Scope} {its : List D} {g : D -> Option D} {k : Nat} {x : D} {st2 st4 : List ac} (hx : its[k]? = some x) (q : pn scope st2 ((its.take k).filterMap g) g x st4) : dt (LcJ scope its g) st2 k st4 := by
 obtain ⟨hg, cs', hc', hsub⟩ := q
 refine ⟨kt scope ((its.take (k + 1)).filterMap g) cs', ?_, cs', hc', rfl⟩
 rw [wc hc', dp g its k x hx, hg]; simpa using hsub
theorem v6.post {scope : Scope} {its : List D} {g : D -> Option D} {k : Nat} {x : D} {a : AV} {st2 st5 : List ac} (hsz : its.length <= sizeLine) (hx : its[k]? = some x) (q : v6 scope st2 ((its.take k).filterMap g) g x a st5) : lm (LcJ scope its g) st2 k a st5 := by
 obtain ⟨y, rfl, hg, cs', hc', hsub⟩ := q
 refine ⟨((its.take k).filterMap g).map .d, kt scope ((its.take (k + 1)).filterMap g) cs', ?_, ?_, ?_, cs', hc', rfl⟩
 ·obtain ⟨h1, h2, h3⟩ := hsub
  have hlt : st2.length < st5.length := by lia
  have := h3 st2.length _ _ (by lia) (List.getElem?_eq_getElem hlt) Fz
  rw [List.getElem?_eq_getElem hlt]
  generalize st5[st2.length] = z at this ⊢
  cases z with
  | list => cases this.1; rfl
  | _ => cases this.1
 ·rw [List.length_map]
  exact Nat.le_trans (List.length_filterMap_le _ _) (Nat.le_trans (by rw [List.length_take]; exact Nat.min_le_right _ _) hsz)
 ·rw [wc hc']
  have := hsub.set (i := st2.length) (y := .list (((its.take k).filterMap g).map AV.d ++ [.d y])) (fun a ha => by
   rcases List.mem_append.mp ha with ha | ha
   ·obtain ⟨d, _, rfl⟩ := List.mem_map.mp ha; trivial
   ·cases List.mem_singleton.mp ha; trivial) (fun _ _ q => nomatch q)
  rw [Ai] at this
  rw [dp g its k x hx, hg]
  simpa [kt] using this
theorem Ld {scope : Scope} {its : List D} {g : D -> Option D} {Qa : AV -> List ac -> Prop} {st2 tl : List ac} {κ κ' : Kp} {σ σ2 σ' : List Addr} {s' : Shared} {acc Ca : Addr} (hcl : c6 st2) (hq : Qa (.d (.list (its.filterMap g))) st2) (p : σ <+: σ2) (hl : σ2.length = st2.length) (p' : σ2 <+: σ') (k : Kle κ κ') (hj : LcJ scope its g its.length tl)
  (X : Rel C G.φ G.κ₀ κ' σ' (st2 ++ tl) s') (hacc : σ'[st2.length]? = some acc) (hCa : σ'[st2.length + 1]? = some Ca) : w6 C G Qa κ σ acc Ca s' := by
 refine byC fun hN => ?_
 obtain ⟨cs, hc, rfl⟩ := hj
 rw [List.take_length] at X
 obtain ⟨κ2, k2, X2⟩ := X.freeze Fz
 obtain ⟨a', ha', r⟩ := X2.frz (i := st2.length) (d := .list (its.filterMap g)) (by rw [List.getElem?_set_self]; simp [kt])
 refine hN ?_
 cases hacc.symm.trans ha'
 rw [Ai] at X2
 have X3 := X2.sub hcl.sub
 have hσ : σ'.take st2.length = σ2 := by rw [<- hl]; exact me p'
 rw [hσ] at X3
 have hown := (X2.own (st2.length + 1) Ca (.ns (scope.names.map (·.1)) (List.replicate scope.names.length none)) hCa (by
  rw [List.getElem?_append_right (Nat.le_succ _), show st2.length.succ - st2.length = 1 by lia]; rfl)).none trivial
 refine ⟨κ2, σ2, .d (.list (its.filterMap g)), st2, k.trans k2, p, X3, r, hq, hown.1, hown.2, fun hmem => ?_, fun hmem => (X.tabs Ca hmem).2.2.2 (List.mem_of_getElem? hCa)⟩
 obtain ⟨i, hi2, ei⟩ := List.getElem_of_mem hmem
 obtain ⟨hb, eb⟩ := List.getElem?_eq_some_iff.mp hCa
 obtain ⟨hb', eb'⟩ := List.getElem?_eq_some_iff.mp (cx p' (by rw [List.getElem?_eq_getElem hi2, ei] : σ2[i]? = some Ca))
 have := (List.getElem_inj X.nd).mp (eb'.trans eb.symm)
 lia
noncomputable def fz (C : Cx) (A : Around) (G : Gd) (ae : a9) (scope : Scope) (ca : List (Str × Nat)) (st2 : List ac) (target elt : Expr) (ifs : List Expr) (its : List D) (g : D -> Option D) : Prop :=
 ∀ φ' E' env' x (acc : List D) (cs : List (Option AV)), x ∈ its -> cs.length = ar scope.names -> env'.frame = G.env.frame -> sb C A ⟨φ', G.κ₀, env', E'⟩ (bg ae scope st2.length ca) (st2 ++ kt scope acc cs) target (.d x) fun st3 => w8 C A ⟨φ', G.κ₀, env', E'⟩ (bg ae scope st2.length ca) st3 ifs fun ok st4 =>
   if ok then wE C A ⟨φ', G.κ₀, env', E'⟩ (bg ae scope st2.length ca) st4 elt (v6 scope st2 acc g x)
   else pn scope st2 acc g x st4
theorem Ev {elt target iter : Expr} {ifs : List Expr} {scope : Scope} {pos fpos : Pos} {ca : List (Str × Nat)} {use : Option (Value -> Sem Unit)} {Qf : Kp -> List Addr -> Value -> Shared -> Prop} {its : List D} {st2 : List ac} (g : D -> Option D)
  (hnf : ef ae.scope = true) (ok : ew scope) (hca : ll ae.cells scope.names [] = some ca) (hcn : ((cellsFrom (st2.length + 2) scope.names ca).map (·.1)).Nodup)
  (hs : ∀ env x, foldedSetIterable iter env x = pure x) (hiter : wEI C A G ae target st iter fun its' st2' => its' = its /\ st2' = st2) (hsz : its.length <= sizeLine) (hcl : c6 st2)
  (turn : fz C A G ae scope ca st2 target elt ifs its g) {Qa : AV -> List ac -> Prop} (hq : Qa (.d (.list (its.filterMap g))) st2)
  (fin : ∀ κ σ s acc Ca m, cy ae σ G.env -> w6 C G Qa κ σ acc Ca s -> s.heap.Ns Ca m -> compPost (model C.prog C.w) A G.E use (Qf κ σ) (.ref acc) Ca (.ok .next) s) :
  ∀ κ σ s, cy ae σ G.env -> Rel C G.φ G.κ₀ κ σ st s -> wpAny (model C.prog C.w) A (comprehension (.ListComp elt [⟨target, iter, ifs, 0⟩] scope pos) scope G.env fpos (newList []) false (eval iter G.env) use) (Qf κ σ) G.E s := by
 refine ym hnf ok hca hcn hs hiter (LcJ scope its g) Ge Cs ?_ ?_
 ·rintro φ' E' env' k x tl hef hx ⟨cs, hc, rfl⟩
  intro κ σ s v e X r
  refine wpAny_mono (turn φ' E' env' x _ cs (List.mem_of_getElem? hx) hc hef κ σ s v e X r) (fun _ s1 z => z.go fun κ1 σ1 _ st3 k1 p1 X1 _ q1 => ⟨κ1, σ1, (), st3, k1, p1, X1, trivial, ?_⟩) fun _ _ z => z
  refine W.mono q1 fun okb st4 q4 => ?_
  cases okb with
  | false => exact pn.next hx q4
  | true => exact W.mono q4 fun a st5 q5 => v6.post hsz hx q5
 ·exact fun κ σ σ2 κ' σ' tl s' acc Ca m e p hl p' k hj X hacc hCa hm => fin κ σ s' acc Ca m e (Ld hcl hq p hl p' k hj X hacc hCa) hm
theorem nf {elt target iter : Expr} {ifs : List Expr} {scope : Scope} {pos : Pos} {its : List D} {st2 : List ac} {Q : AV -> List ac -> Prop} (ca : List (Str × Nat)) (g : D -> Option D)
  (hnf : ef ae.scope = true) (ok : ew scope) (hca : ll ae.cells scope.names [] = some ca) (hcn : ((cellsFrom (st2.length + 2) scope.names ca).map (·.1)).Nodup)
  (hs : ∀ env x, foldedSetIterable iter env x = pure x) (hiter : wEI C A G ae target st iter fun its' st2' => its' = its /\ st2' = st2) (hsz : its.length <= sizeLine) (hcl : c6 st2)
  (turn : fz C A G ae scope ca st2 target elt ifs its g) (hq : Q (.d (.list (its.filterMap g))) st2) : wE C A G ae st (.ListComp elt [⟨target, iter, ifs, 0⟩] scope pos) Q := fun κ σ s e X => by
 rw [eval_ListComp]
 exact Ev (Qf := fun κ σ v s' => PA RV C G.φ G.κ₀ κ σ Q v s') g hnf ok hca hcn hs hiter hsz hcl turn hq (fun κ σ s acc Ca m _ h hm => y6 h hm) κ σ s e X
theorem Jy {x : Str} {xp : Pos} {elt target iter : Expr} {ifs : List Expr} {scope : Scope} {pos spos : Pos} {its : List D} {st2 : List ac} {Q : AF -> List ac -> Prop} (i : Nat) (ca : List (Str × Nat)) (g : D -> Option D) (hk : ae.scope.names[i]? = some (x, .local)) (hln : (xp.line == (Expr.ListComp elt [⟨target, iter, ifs, 0⟩] scope pos).pos.line) = true) (hny : (scope.names.any fun p => p.1 == x && (p.2 == .local || p.2 == .cell)) = false)
  (hnf : ef ae.scope = true) (ok : ew scope) (hca : ll ae.cells scope.names [] = some ca) (hcn : ((cellsFrom (st2.length + 2) scope.names ca).map (·.1)).Nodup)
  (hs : ∀ env x, foldedSetIterable iter env x = pure x) (hiter : wEI C A G ae target st iter fun its' st2' => its' = its /\ st2' = st2) (hsz : its.length <= sizeLine) (hcl : c6 st2)
  (turn : fz C A G ae scope ca st2 target elt ifs its g) (hq : ∀ φ', dx C A { G with φ := φ' } ae st2 x (.d (.list (its.filterMap g))) fun st3 => Q .next st3) : wS C A G ae st (.Assign [.Name x xp] (.ListComp elt [⟨target, iter, ifs, 0⟩] scope pos) spos) Q := fun κ σ s e X => by
 have hsw : swapsWith (.ListComp elt [⟨target, iter, ifs, 0⟩] scope pos) (some (.Name x xp)) spos.line G.env = pure true := by
  show (pure (G.env.blockKind == .function && G.env.kindOf x == some .local && xp.line == (Expr.ListComp elt [⟨target, iter, ifs, 0⟩] scope pos).pos.line && !(scope.names.any fun p => p.1 == x && (p.2 == .local || p.2 == .cell))) : Sem Bool) = _
  have h1 : G.env.blockKind = .function := by unfold Env.blockKind; rw [e.kind]; rfl
  rw [e.kindOf hk, h1, hln, hny]; rfl
 rw [exec_Assign_Name_used x xp _ spos hsw]
 refine wpAny_bind (wpAny_standAt (wpAny_bind ?_))
 show wpAny _ _ (comprehension _ _ _ _ _ _ _ _ >>= fun _ => pure ()) _ _ s
 refine wpAny_bind (wpAny_mono (Ev (Qf := fun κ σ _ s' => PA RF C G.φ G.κ₀ κ σ Q .next s') g hnf ok hca hcn hs hiter hsz hcl turn (Qa := fun a st1 => ∀ φ', dx C A { G with φ := φ' } ae st1 x a fun st2 => Q .next st2) hq (fun κ σ s acc Ca m e h hm => By e h hm) κ σ s e X) (fun _ s1 h1 => wpAny_pure (wpAny_pure h1)) fun _ _ z => z)
end
end Mine
end
section
open PySem PySem.Calls PyProof.Rows PySem.W PySem.SeqAt PyProof.V
namespace Mine
theorem xo {pos : Pos} {a b : Int} {c cv : Value} (l : List Value) (h : TriplesOk l) (e : codeAmong pos (l ++ [rawInt a, rawInt b, c]) = some cv) : codeAmong pos l = some cv ∨ ((a == pos.line) = true /\ (b == pos.col) = true /\ c = cv) := by
 fun_induction TriplesOk l with
 | case1 =>
  simp only [List.nil_append, codeAmong, rawInt] at e
  split at e
  ·rename_i q; simp only [Bool.and_eq_true] at q; cases e; exact .inr ⟨q.1, q.2, rfl⟩
  ·cases e
 | case2 a' t b' u x rest ih =>
  simp only [List.cons_append, codeAmong] at e ⊢
  split at e
  ·rename_i q; rw [if_pos q]; exact .inl e
  ·rename_i q; rw [if_neg q]; exact ih h e
 | case3 l h1 h2 => exact h.elim
section
variable {C : Cx} {φ κ₀ κ : Kp} {σ : List Addr} {st : List ac} {s : Shared}
theorem Rel.tabGrow (X : Rel C φ κ₀ κ σ st s) {P : Addr} (hP : P ∈ C.tabs) {s' : Shared} {κ' : Kp} (hk : ∀ b o, b ≠ P -> s.heap.get? b = some o -> s'.heap.get? b = some o) (hg : s'.gens = s.gens) (ho : s'.os = s.os)
  (k : Kle κ κ') (hn : ∀ b o, κ' b = some o -> κ b = some o ∨ s.heap.get? b = none) (hκ : ∀ b o, κ' b = some o -> s'.heap.get? b = some o) (ht : ub C κ' s'.heap P) : Rel C φ κ₀ κ' σ st s' := by
 refine byC fun hC1 => ?_
 obtain ⟨⟨psP, eP, _⟩, hφP, hκP, hσP⟩ := X.tabs P hP
 refine hC1 ?_
 have gone : ∀ a o, s.heap.get? a = some o -> κ a = none -> κ' a = none := fun a o e1 e2 => by
  refine bz fun o' q => ?_
  rcases hn a o' q with h | h
  ·exact bq e2 h
  ·rw [e1] at h; cases h
 refine ⟨X.prog.trans k, X.k0.trans k, fun b o e => ?_, hκ, fun b o e => hk b o (fun q => ?_) (X.phi b o e), X.len, X.nd, fun i a x e1 e2 => ?_, fun P' hP' => ?_, hg.trans X.gens, ho.trans X.os⟩
 ·rcases hn b o e with h | h
  ·exact X.new b o h
  ·right; refine bz fun o' q => ?_
   rw [X.phi _ _ q] at h; cases h
 ·rw [q, hφP] at e; cases e
 ·have hna : a ≠ P := fun q => hσP (q ▸ List.mem_of_getElem? e1)
  exact (X.own i a x e1 e2).map k (List.prefix_refl _) fun h1 h2 o h3 => ⟨gone a o h3 h1, h2, hk _ _ hna h3⟩
 ·refine byC fun hC2 => ?_
  obtain ⟨⟨ps, e, r⟩, h2, h3, h4⟩ := X.tabs P' hP'
  refine hC2 ?_
  by_cases q : P' = P
  ·subst q; exact ⟨ht, h2, gone P' _ e h3, h4⟩
  ·exact ⟨ub.keeps (C := C) ⟨ps, e, r⟩ k fun o e => hk _ _ q e, h2, gone P' _ e h3, h4⟩
structure l6 (C : Cx) (cv : Value) (P : Addr) : Prop where
 mem : P ∈ C.tabs
 code : ∃ c, cv = .ref c /\ ∀ h : Heap, (∀ b o, C.P0 b = some o -> h.get? b = some o) -> CodeHd h c P
 main : ∀ h : Heap, (∀ b o, C.P0 b = some o -> h.get? b = some o) -> ∃ mg, h.Ns mainGlobals mg /\ mainGlobals ≠ P /\ h.BuiltinsAt mg P
inductive Np (κ : Kp) (σ : List Addr) (f : Addr) (params : Arguments) (body : Expr) (scope : Scope) (ca : List (Str × Nat)) : Prop
 | mk (o : Obj) (name qual : Str) (cl : List (Str × Addr)) (pm cdv ct : _) (h1 : κ f = some o) (h2 : o.data = .func (kla_fn name qual params body scope cl pm cdv ct)) (h3 : CR σ cl ca) (h4 : oq κ cdv qual)
theorem N9 {A : Around} {E : Value -> Shared -> Prop} {Q : Value -> Shared -> Prop} {ae : a9} {env : Env} {P : Addr} {params : Arguments} {body : Expr} {scope : Scope} {pos : Pos} {ca : List (Str × Nat)} (X : Rel C φ κ₀ κ σ st s) (e : cy ae σ env) (L : l6 C ae.code P)
  (hdef : ∀ env, defaultsOf params env = ([], [])) (hca : ll ae.cells scope.names [] = some ca) (htq : ∀ pos' : Pos, (((pos.line : Int) == pos'.line) = true) -> (((pos.col : Int) == pos'.col) = true) -> C.tq pos' = ae.qual ++ "<lambda>") (htq2 : C.tq pos = ae.qual ++ "<lambda>")
  (h : ∀ f κ' s', Kle κ κ' -> Rel C φ κ₀ κ' σ st s' -> Np κ' σ f params body scope ca -> Q (.ref f) s') : wpAny (model C.prog C.w) A (eval (.Lambda params body scope pos) env) Q E s := by
 refine byC fun hC1 => ?_
 obtain ⟨cl, hcl, hcr⟩ := kh e hca
 obtain ⟨c, hc, hcode⟩ := L.code
 obtain ⟨mg, hg, hgP, hb⟩ := L.main s.heap X.p0
 obtain ⟨⟨ps, hP, ht, hpc⟩, hφP, hκP, hσP⟩ := X.tabs P L.mem
 refine hC1 ?_
 refine kla_eval (hdef _) ?_
 rw [e.qual]
 cases hf : codeAmong pos ps.toList with
 | none =>
  refine kla_makeFunction (mg := mg) hcl e.globals hg (by rw [e.code, hc]) (hcode s.heap X.p0) hP ht hf hgP hb fun c' ctv h' tk hx hge hlt hrec htb => ?_
  refine byC fun hC2 => ?_
  obtain ⟨c₂, oc, vs, t, e2, hoc, hd, hv⟩ := hrec
  cases e2
  refine hC2 ?_
  generalize hfo : kla_obj (Str.ofString "<lambda>") (ae.qual ++ "<lambda>") params body scope cl ((mg "__name__").getD .none) c' ctv = fo
  have hnc : s.heap.get? c' = none := Heap.get?_none_of_le hge
  have hsz : s.heap.objs.size <= h'.objs.size := Nat.le_trans hge (Nat.le_of_lt hlt)
  have hnf : s.heap.get? h'.objs.size = none := Heap.get?_none_of_le hsz
  have hκc : κ c' = none := (X.free_new hnc).1
  have hκf : cc κ c' oc h'.objs.size = none := by rw [bp (Nat.ne_of_gt hlt)]; exact (X.free_new hnf).1
  have hfd : (h'.push fo).get? h'.objs.size = some fo := Heap.get?_push_size _ (by rw [<- hfo]; rfl)
  have k1 : Kle κ (cc κ c' oc) := eu hκc
  have k2 : Kle (cc κ c' oc) (cc (cc κ c' oc) h'.objs.size fo) := eu hκf
  have hkeep : ∀ b o, b ≠ P -> s.heap.get? b = some o -> (h'.push fo).get? b = some o := fun b o hb e => Heap.get?_push_of_some _ (hx b o hb e)
  have hck : oq (cc (cc κ c' oc) h'.objs.size fo) (.ref c') (ae.qual ++ "<lambda>") := ⟨c', oc, vs, t, rfl, k2 _ _ (if_pos rfl), hd, hv⟩
  refine h _ (cc (cc κ c' oc) h'.objs.size fo) _ (k1.trans k2) (X.tabGrow (s' := { s with heap := h'.push fo, toks := tk }) L.mem hkeep rfl rfl (k1.trans k2) (fun b o e => ?_) (fun b o e => ?_) ?_) ?_
  ·by_cases q : b = h'.objs.size
   ·subst q; exact .inr hnf
   ·rw [bp q] at e
    by_cases q2 : b = c'
    ·subst q2; exact .inr hnc
    ·rw [bp q2] at e; exact .inl e
  ·by_cases q : b = h'.objs.size
   ·subst q; unfold cc at e; rw [if_pos rfl] at e; cases e; exact hfd
   ·rw [bp q] at e
    by_cases q2 : b = c'
    ·subst q2; unfold cc at e; rw [if_pos rfl] at e; cases e; exact Heap.get?_push_of_some _ hoc
    ·rw [bp q2] at e
     exact hkeep b o (fun q => by rw [q, hκP] at e; cases e) (X.keep b o e)
  ·refine ⟨_, Heap.get?_push_of_some _ htb, by simpa using TriplesOk_snoc pos.line pos.col (.ref c') ps.toList ht, fun pos' cv ec => ?_⟩
   have ec : codeAmong pos' (ps.toList ++ [rawInt pos.line, rawInt pos.col, .ref c']) = some cv := by simpa using ec
   rcases xo _ ht ec with h1 | ⟨h1, h2, rfl⟩
   ·exact (hpc pos' cv h1).mono (k1.trans k2)
   ·rw [htq pos' h1 h2]; exact hck
  ·exact ⟨fo, _, _, cl, _, .ref c', ctv, if_pos rfl, by rw [<- hfo], hcr, hck⟩
 | some cv =>
  refine kla_makeFunctionHit (mg := mg) hcl e.globals hg (by rw [e.code, hc]) (hcode s.heap X.p0) hP ht hf hb fun ctv h' tk hk hsz => ?_
  generalize hfo : ({ cls := .type "function", data := .func (kla_fn (Str.ofString "<lambda>") (ae.qual ++ "<lambda>") params body scope cl ((mg "__name__").getD .none) cv ctv) } : Obj) = fo
  have hnf : s.heap.get? h'.objs.size = none := Heap.get?_none_of_le hsz
  have hfd : (h'.push fo).get? h'.objs.size = some fo := Heap.get?_push_size _ (by rw [<- hfo]; rfl)
  refine byC fun hC3 => ?_
  obtain ⟨k1, X1⟩ := X.data (s' := { s with heap := h'.push fo, toks := tk }) hnf (fun b o e => Heap.get?_push_of_some _ (hk b o e)) hfd rfl rfl
  refine hC3 ?_
  have := hpc pos cv hf
  rw [htq2] at this
  exact h _ _ _ k1 X1 ⟨fo, _, _, cl, _, cv, ctv, if_pos rfl, by rw [<- hfo], hcr, this.mono k1⟩
end
end Mine
end
section
open PySem PySem.Calls PyProof.Rows PySem.W PySem.SeqAt PyProof.V
namespace Mine
noncomputable def Ny (κf : Kp) (d : D) (o : Obj) : Prop := ∃ v, o.data = .cell (some v) /\ R κf d v
structure fv (C : Cx) (φf κf : Kp) (cl : List (Str × Addr)) (xs : List Str) (ds : List D) : Prop where
 names : cl.map (·.1) = xs
 len : ds.length = xs.length
 nd : (cl.map (·.2)).Nodup
 get : ∀ (j : Nat) (x : Str) (c : Addr) (d : D), cl[j]? = some (x, c) -> ds[j]? = some d -> κf c = none /\ c ∉ C.tabs /\ ∃ o, φf c = some o /\ Ny κf d o
noncomputable def Cr (κf : Kp) (ds : List D) (Ps : List ac) : Prop := Ps.length = ds.length /\ ∀ (j : Nat) (d : D), ds[j]? = some d -> ∃ P, Ps[j]? = some (.raw P) /\ ∀ o, P o -> Ny κf d o
noncomputable def l5 : Nat -> List Str -> List (Str × Nat)
 | _, [] => []
 | i, x :: r => (x, i) :: l5 (i + 1) r
theorem t9 : ∀ (xs : List Str) (i : Nat), (l5 i xs).map (·.1) = xs
 | [], _ => rfl
 | x :: r, i => by simp [l5, t9 r]
theorem yz : ∀ (xs : List Str) (i j : Nat) (x : Str) (k : Nat), (l5 i xs)[j]? = some (x, k) -> xs[j]? = some x /\ k = i + j
 | [], _, _, _, _, h => by simp [l5] at h
 | y :: r, i, 0, x, k, h => by simp [l5] at h; simp [h]
 | y :: r, i, j + 1, x, k, h => by
  simp only [l5, List.getElem?_cons_succ] at h
  obtain ⟨h1, h2⟩ := yz r (i + 1) j x k h
  exact ⟨by simpa using h1, by omega⟩
section
variable {C : Cx} {A : Around} {G : Gd} {ae : a9} {st : List ac}
end
noncomputable abbrev Lr (C : Cx) (cl : List (Str × Addr)) (s : Shared) : Kp := fun b => if b ∈ C.tabs ∨ b ∈ cl.map (·.2) then none else s.heap.get? b
noncomputable abbrev v7 (cl : List (Str × Addr)) (s : Shared) : List ac := (cl.map (·.2)).map fun c => .raw (fun o => s.heap.get? c = some o)
inductive E3 (C : Cx) (φf κf : Kp) (kf : Addr) (params : Arguments) (body : Expr) (scope : Scope) (xs : List Str) (ds : List D) : Prop
 | mk (o : Obj) (name qual : Str) (cl : List (Str × Addr)) (pm cdv ct : _) (h1 : κf kf = some o) (h2 : o.data = .func (kla_fn name qual params body scope cl pm cdv ct)) (h3 : oq κf cdv qual) (h4 : fv C φf κf cl xs ds)
section
variable {C : Cx} {φf κf κ : Kp} {cl : List (Str × Addr)} {xs : List Str} {ds : List D} {s : Shared}
theorem fv.clen (h : fv C φf κf cl xs ds) : cl.length = ds.length := by rw [h.len, <- h.names, List.length_map]
theorem fv.there (h : fv C φf κf cl xs ds) (hnew : ∀ b o, κ b = some o -> κf b = some o ∨ φf b = none) (hφf : ∀ b o, φf b = some o -> s.heap.get? b = some o) : ∀ c ∈ cl.map (·.2), κ c = none /\ c ∉ C.tabs /\ ∃ o, s.heap.get? c = some o := fun c hc => by
 obtain ⟨⟨y, c'⟩, hm, rfl⟩ := List.mem_map.mp hc
 obtain ⟨j, hj, ej⟩ := List.getElem_of_mem hm
 have hj' : j < ds.length := h.clen ▸ hj
 obtain ⟨h1, h2, oc, h3, _⟩ := h.get j y c' ds[j] (by rw [List.getElem?_eq_getElem hj, ej]) (List.getElem?_eq_getElem hj')
 exact ⟨bz fun o' q => (hnew c' o' q).elim (bq h1) fun e => bq e h3, h2, oc, hφf _ _ h3⟩
theorem fv.rel (h : fv C φf κf cl xs ds) (B : ph C κ s) (hcs : ∀ c ∈ cl.map (·.2), κ c = none /\ c ∉ C.tabs /\ ∃ o, s.heap.get? c = some o) : Rel C (Lr C cl s) κ κ (cl.map (·.2)) (v7 cl s) s := by
 refine ⟨B.prog, Kle.refl _, fun b o e => .inl e, B.keep, fun b o e => ?_, by simp, h.nd, fun i a x e1 e2 => ?_, fun P hP => ⟨(B.tabs P hP).1, by simp [hP], (B.tabs P hP).2, fun hm => (hcs P hm).2.1 hP⟩, B.gens, B.os⟩
 ·unfold Lr at e; split at e
  ·cases e
  ·exact e
 ·unfold v7 at e2
  rw [List.getElem?_map, e1] at e2
  cases e2
  have hm := List.mem_of_getElem? e1
  obtain ⟨h1, h2, o, h3⟩ := hcs a hm
  exact .own trivial h1 (if_pos (.inr hm)) o h3 h3
theorem fv.cr (h : fv C φf κf cl xs ds) : CR (cl.map (·.2)) cl (l5 0 xs) := ⟨by rw [h.names, t9], fun j y k e => by
 obtain ⟨h1, h2⟩ := yz xs 0 j y k e
 have h3 : (cl.map (·.1))[j]? = some y := by rw [h.names]; exact h1
 rw [List.getElem?_map] at h3
 obtain ⟨z, q, rfl⟩ := Option.map_eq_some_iff.mp h3
 exact ⟨z.2, q, by rw [h2, Nat.zero_add, List.getElem?_map, q]; rfl⟩⟩
theorem fv.are (h : fv C φf κf cl xs ds) (hφf : ∀ b o, φf b = some o -> s.heap.get? b = some o) : Cr κf ds (v7 cl s) := ⟨by simp [h.clen], fun j d e => by
 have hj : j < cl.length := h.clen ▸ (List.getElem?_eq_some_iff.mp e).1
 obtain ⟨h1, h2, oc, h3, h4⟩ := h.get j cl[j].1 cl[j].2 d (List.getElem?_eq_getElem hj) e
 refine ⟨_, by simp [hj]; rfl, fun o ho => ?_⟩
 cases (hφf _ _ h3).symm.trans ho; exact h4⟩
end
theorem I4 {C : Cx} {φf κf : Kp} {f : Addr} {params : Arguments} {body : Expr} {scope : Scope} {n : Nat} {x : Str} {a : AV} {xs : List Str} {ds : List D} {post : D -> Prop} (hl : ci C) (ok : ew scope) (hco : scope.isCoroutine = false) (hgen : scope.isGenerator = false)
  (hcn : ((cellsFrom (ds.length + 1) scope.names (l5 0 xs)).map (·.1)).Nodup) (hnf : ef scope = false ∨ ds.length = 0)
  (L : E3 C φf κf f params body scope xs ds)
  (hbind : ∀ name qual cl pm cdv ct v, bindArgs (kla_fn name qual params body scope cl pm cdv ct) ⟨[v], []⟩ = pure [(x, v)])
  (run : ∀ A G A' Ps code qual, AOk A n -> Cr κf ds Ps -> Kle κf G.κ₀ -> (∀ b o, φf b = some o -> b ∉ (C.tabs) -> True) -> bu C A' G ⟨scope, ds.length, cellsFrom (ds.length + 1) scope.names (l5 0 xs), code, qual⟩ [(x, a)] (Ps ++ [.ns (scope.names.map (·.1)) (List.replicate scope.names.length none)] ++ List.replicate (ar scope.names) (.cell none))
   fun st0 => ∀ E, wE C A (G.at E) ⟨scope, ds.length, cellsFrom (ds.length + 1) scope.names (l5 0 xs), code, qual⟩ st0 body fun a st' => ∃ d, a = .d d /\ post d /\ ∀ j, j < ds.length -> st'[j]? = Ps[j]?) :
  et C φf κf (n + 1) (.ref f) [a] [] [] post := by
 intro A E κ s vs kvs hA B hκf hnew hφf ra rk
 refine byC fun hC1 => ?_
 obtain ⟨o, name, qual, cl, pm, cdv, ct, ho, hd, hcd, hcells⟩ := L
 have hs := B.keep _ _ (hκf _ _ ho)
 obtain ⟨v, rfl, rv⟩ := ra.one
 have hk0 : kvs = [] := by have := rk.1; simpa using this
 subst hk0
 refine hC1 ?_
 have hclen := hcells.clen
 refine ⟨.inr (.inr ⟨f, o, _, rfl, hs, hd⟩), wpAny_call ?_⟩
 refine kla_callFunE (by have := hA.depth; rw [recursionLimit]; omega) hs hd hco hgen rfl (hcd.rec fun b o e => B.keep b o (hκf b o e)) ?_
 refine wpAny_of_eq (hbind ..) ?_
 have hcs := hcells.there hnew hφf
 have hfr0 : ef scope = true -> ∀ L0 : Addr, ∃ L, qz L0 none = some L /\ (cl.map (·.2) ++ [L0])[0]? = some L := fun h L0 => by
  have : cl = [] := by
   rcases hnf with h' | h'
   ·rw [h] at h'; cases h'
   ·exact List.eq_nil_of_length_eq_zero (by rw [hclen]; exact h')
  rw [this]
  exact ⟨L0, rfl, rfl⟩
 have hPl : (v7 cl s).length = ds.length := by simp [hclen]
 refine ik (bs := [(x, a)]) (Q' := fun env st0 => ∀ E, wE C (A.deeper env) ((⟨Lr C cl s, κ, env, fun _ _ => False⟩ : Gd).at E) ⟨scope, ds.length, cellsFrom (ds.length + 1) scope.names (l5 0 xs), cdv, qual ++ ".<locals>."⟩ st0 body fun a st' => ∃ d, a = .d d /\ post d /\ ∀ j, j < ds.length -> st'[j]? = (v7 cl s)[j]?) (hcells.rel B hcs) hcells.cr ok (by rw [hPl]; exact hcn) hfr0 rfl rfl rfl (RVL.cons (by
   cases a with
   | d => exact rv
   | glob => exact rv
   | obj => obtain ⟨b, hb, _⟩ := rv; simp at hb) RVL.nil)
  (fun env => ?_) fun κ' σ' st' env s' k p e ⟨cells, he⟩ X q => ?_
 ·have := run (A.deeper env) ⟨Lr C cl s, κ, env, E⟩ A.in1 _ cdv (qual ++ ".<locals>.") (hA.deeper env) (hcells.are hφf) hκf (fun _ _ _ _ => trivial)
  rw [hPl]
  exact this
 ·rw [hPl] at e
  refine ⟨hl _ X.p0, kla_codeExpr (wpAny_mono (q _ κ' σ' s' e X) (fun rv s2 z => z.go fun κ2 σ2 a2 st2 k2 p2 X2 r2 ⟨d, ha, hp, hst⟩ => ?_) fun _ _ z => z)⟩
  subst ha
  have hfix : ∀ c ∈ cl.map (·.2), κ2 c = none /\ s2.heap.get? c = s.heap.get? c := fun c hc => by
   refine byC fun hC6 => ?_
   obtain ⟨j, hj, ej⟩ := List.getElem_of_mem hc
   have e1 : σ2[j]? = some c := cx (p.trans p2) (by rw [List.getElem?_eq_getElem hj, ej])
   have hj' : j < ds.length := by rw [<- hclen]; simpa using hj
   have e2 : st2[j]? = some (.raw (fun o => s.heap.get? c = some o)) := by
    rw [hst j hj']
    rw [List.getElem?_map, List.getElem?_eq_getElem hj, ej]; rfl
   obtain ⟨c', o, hc', h1, h2, h3, h4⟩ := X2.get e2 trivial
   cases e1.symm.trans hc'
   refine hC6 ?_
   have h4 : s.heap.get? c = some o := h4
   exact ⟨h1, by rw [h3, h4]⟩
  exact ⟨κ2, d, k.trans k2, X2.base, fun b o e => by
   rcases X2.new b o e with e' | e'
   ·exact .inl e'
   ·have e' : (if b ∈ C.tabs ∨ b ∈ cl.map (·.2) then none else s.heap.get? b) = none := e'
    split at e'
    ·rename_i h
     rcases h with h | h
     ·exact bq ((X2.tabs b h).2.2.1) e
     ·exact bq ((hfix b h).1) e
    ·exact .inr e', fun b o hb e => by
   by_cases h : b ∈ cl.map (·.2)
   ·rw [(hfix b h).2]; exact e
   ·exact X2.phi b o (by
     show (if b ∈ C.tabs ∨ b ∈ cl.map (·.2) then none else s.heap.get? b) = some o
     rw [if_neg (fun q => q.elim hb h)]; exact e), r2, hp⟩
end Mine
end
section
open PySem PySem.Calls PyProof.Rows PySem.W PySem.SeqAt PyProof.V
namespace Mine
section
variable {C : Cx} {A : Around} {G : Gd} {ae : a9} {st : List ac} {Q : AV -> List ac -> Prop}
noncomputable def DOf (st : List ac) (a : AV) (d : D) : Prop := a = .d d ∨ ∃ i : Nat, a = .obj i /\ st[i]? = some (.frz d)
theorem DOf.r {φ κ₀ κ : Kp} {σ : List Addr} {s : Shared} {a : AV} {d : D} {v : Value} (h : DOf st a d) (X : Rel C φ κ₀ κ σ st s) (r : RV κ σ a v) : R κ d v := by
 rcases h with rfl | ⟨i, rfl, e⟩
 ·exact r
 ·obtain ⟨b, hb, rfl⟩ := r
  obtain ⟨b', hb', r⟩ := X.frz e
  rw [hb] at hb'; cases hb'; exact r
theorem N2 {x : Expr} (h : wE C A G ae st x fun a st1 => ∃ d, DOf st1 a d /\ Q (.d d) st1) : wE C A G ae st x Q := fun κ σ s e X =>
 wpAny_mono (h κ σ s e X) (fun v s1 z => z.go fun κ1 σ1 a st1 k1 p1 X1 r1 ⟨d, hd, q⟩ => ⟨κ1, σ1, .d d, st1, k1, p1, X1, hd.r X1 r1, q⟩) fun _ _ z => z
theorem u7 {xs : List Stmt} {st' : List ac} {Q : AF -> List ac -> Prop} (h : wSs C A G ae st' xs Q) (hc : ∀ {φ κ₀ κ : Kp} {σ : List Addr} {s : Shared}, Rel C φ κ₀ κ σ st s -> ∃ κ', Kle κ κ' /\ Rel C φ κ₀ κ' σ st' s) : wSs C A G ae st xs Q := fun κ σ s e X => by
 refine byC fun hC1 => ?_
 obtain ⟨κ', k, X'⟩ := hc X
 refine hC1 ?_
 exact PA.wp k (List.prefix_refl _) (h κ' σ s e X')
theorem Dg (i : Nat) {ds : List D} {xs : List Stmt} {Q : AF -> List ac -> Prop} (hi : st[i]? = some (.list (ds.map .d))) (h : wSs C A G ae (st.set i (.frz (.list ds))) xs Q) : wSs C A G ae st xs Q := u7 h fun X => X.freeze hi
theorem Jf {C : Cx} {fd : FuncData} {x : Str} {a : AV} (h : ∀ v, bindArgs fd ⟨[v], []⟩ = pure [(x, v)]) (s : Shared) (vs kvs : List Value) (_ : ∀ b o, C.P0 b = some o -> s.heap.get? b = some o) (hv : vs.length = [a].length) (hk : kvs.length = ([] : List AV).length) :
  ∃ binds, BindsTo s fd ⟨vs, ([] : List Str).zip kvs⟩ binds /\ binds.map (·.1) = [(x, a)].map (·.1) /\ ∀ κ : Kp, RVL κ [] [a] vs -> RVL κ [] [] kvs -> RVL κ [] ([(x, a)].map (·.2)) (binds.map (·.2)) := by
 refine byC fun hC1 => ?_
 obtain ⟨v, rfl⟩ := G6 hv
 refine hC1 ?_
 exact ⟨[(x, v)], .of_eq (h v), rfl, fun κ r _ => r⟩
theorem x9 {C : Cx} {fd : FuncData} {x y : Str} {a b : AV} (h : ∀ v u, bindArgs fd ⟨[v, u], []⟩ = pure [(x, v), (y, u)]) (s : Shared) (vs kvs : List Value) (_ : ∀ b o, C.P0 b = some o -> s.heap.get? b = some o) (hv : vs.length = [a, b].length) (hk : kvs.length = ([] : List AV).length) :
  ∃ binds, BindsTo s fd ⟨vs, ([] : List Str).zip kvs⟩ binds /\ binds.map (·.1) = [(x, a), (y, b)].map (·.1) /\ ∀ κ : Kp, RVL κ [] [a, b] vs -> RVL κ [] [] kvs -> RVL κ [] ([(x, a), (y, b)].map (·.2)) (binds.map (·.2)) := by
 refine byC fun hC1 => ?_
 obtain ⟨v, u, rfl⟩ := wo hv
 refine hC1 ?_
 exact ⟨[(x, v), (y, u)], .of_eq (h v u), rfl, fun κ r _ => r⟩
theorem Nh {C : Cx} {fd : FuncData} {x y z : Str} {a b c : AV} (h : ∀ v u w, bindArgs fd ⟨[v, u, w], []⟩ = pure [(x, v), (y, u), (z, w)]) (s : Shared) (vs kvs : List Value) (_ : ∀ b o, C.P0 b = some o -> s.heap.get? b = some o) (hv : vs.length = [a, b, c].length) (hk : kvs.length = ([] : List AV).length) :
  ∃ binds, BindsTo s fd ⟨vs, ([] : List Str).zip kvs⟩ binds /\ binds.map (·.1) = [(x, a), (y, b), (z, c)].map (·.1) /\ ∀ κ : Kp, RVL κ [] [a, b, c] vs -> RVL κ [] [] kvs -> RVL κ [] ([(x, a), (y, b), (z, c)].map (·.2)) (binds.map (·.2)) := by
 refine byC fun hC1 => ?_
 obtain ⟨v, u, w, rfl⟩ := K6 hv
 refine hC1 ?_
 exact ⟨[(x, v), (y, u), (z, w)], .of_eq (h v u w), rfl, fun κ r _ => r⟩
end
end Mine
end
section
open PySem PySem.Calls PyProof.Rows PySem.W PySem.SeqAt PyProof.V
set_option maxRecDepth 100000
namespace Mine
noncomputable def bsL (key : Nat -> Int) (x : Int) : Nat -> Nat -> Nat -> Nat
 | 0, lo, _ => lo
 | n + 1, lo, hi => if lo < hi then (if key ((lo + hi) / 2) < x then bsL key x n ((lo + hi) / 2 + 1) hi else bsL key x n lo ((lo + hi) / 2)) else lo
noncomputable def bsR (key : Nat -> Int) (x : Int) : Nat -> Nat -> Nat -> Nat
 | 0, lo, _ => lo
 | n + 1, lo, hi => if lo < hi then (if x < key ((lo + hi) / 2) then bsR key x n lo ((lo + hi) / 2) else bsR key x n ((lo + hi) / 2 + 1) hi) else lo
noncomputable def bB (p : Nat -> Bool) : Nat -> Nat -> Nat -> Nat
 | 0, lo, _ => lo
 | n + 1, lo, hi => if lo < hi then (if p ((lo + hi) / 2) = true then bB p n ((lo + hi) / 2 + 1) hi else bB p n lo ((lo + hi) / 2)) else lo
theorem zb (p : Nat -> Bool) : ∀ n lo hi, ¬ lo < hi -> bB p n lo hi = lo
 | 0, _, _, _ => rfl
 | n + 1, lo, hi, h => by unfold bB; exact if_neg h
theorem Ml {l h m n : Nat} (a : l <= m) (b : m < h) (k : h - l <= n + 1) : h - (m + 1) <= n := by omega
theorem Lq {l h m n : Nat} (a : l <= m) (b : m < h) (k : h - l <= n + 1) : m - l <= n := by omega
theorem Qi {l h m : Nat} (a : l <= m) (b : m < h) : h - (m + 1) < h - l := by omega
theorem Qw {l h m : Nat} (a : l <= m) (b : m < h) : m - l < h - l := by omega
theorem oj {l h : Nat} (k : l < h) : l <= (l + h) / 2 /\ (l + h) / 2 < h := by omega
theorem Ko {l h : Nat} (k : l < h) : h - l <= h - l - 1 + 1 := by omega
theorem Lm {l h : Nat} (k : l < h) : h - l = (h - l - 1) + 1 := by omega
theorem J6 {l h : Nat} (k : h - l <= 0) : ¬ l < h := by omega
theorem un (p : Nat -> Bool) : ∀ n m lo hi, hi - lo <= n -> hi - lo <= m -> bB p n lo hi = bB p m lo hi
 | 0, m, lo, hi, h, k => (zb p m lo hi (J6 h)).symm
 | n + 1, 0, lo, hi, h, k => zb p (n + 1) lo hi (J6 k)
 | n + 1, m + 1, lo, hi, h, k => by
  unfold bB
  split
  ·rename_i q
   rw [un p n m _ _ (Ml (oj q).1 (oj q).2 h) (Ml (oj q).1 (oj q).2 k), un p n m _ _ (Lq (oj q).1 (oj q).2 h) (Lq (oj q).1 (oj q).2 k)]
  ·rfl
theorem Ay (g : Nat -> Int) (x : Int) : ∀ n lo hi, bsL g x n lo hi = bB (fun i => decide (g i < x)) n lo hi
 | 0, _, _ => rfl
 | n + 1, lo, hi => by
  unfold bsL bB
  rw [Ay g x n, Ay g x n]
  simp only [decide_eq_true_eq]
theorem B2 (g : Nat -> Int) (x : Int) : ∀ n lo hi, bsR g x n lo hi = bB (fun i => decide (g i <= x)) n lo hi
 | 0, _, _ => rfl
 | n + 1, lo, hi => by
  unfold bsR bB
  rw [B2 g x n, B2 g x n]
  by_cases q : x < g ((lo + hi) / 2)
  ·simp only [decide_eq_true_eq, if_pos q, if_neg (Int.not_le.mpr q)]
  ·simp only [decide_eq_true_eq, if_neg q, if_pos (Int.not_lt.mp q)]
theorem Po (lo hi : Nat) : Int.fdiv ((lo : Int) + (hi : Int)) 2 = (((lo + hi) / 2 : Nat) : Int) := by
 rw [Int.fdiv_eq_ediv_of_nonneg _ (by decide)]; lia
section
variable {C : Cx} {A : Around} {G : Gd}
noncomputable abbrev i1 (k : Nat) (vars : List (Option AV)) : ac := .ns ((aq PySem.Challenge.pw_wb0027_01 k).names.map (·.1)) vars
noncomputable abbrev I8 (sc : Scope) (va vx : D) (lo hi : Nat) (kv : AV) (mid : Option AV) : List ac := [.ns (sc.names.map (·.1)) [some (.d va), some (.d vx), some (.d (.int (lo : Int))), some (.d (.int (hi : Int))), some kv, mid, none, none]]
theorem qu {sc : Scope} {cd : Value} {ql : Str} (n2 : sc.names[2]? = some (("lo" : Str), NameKind.local)) (n3 : sc.names[3]? = some (("hi" : Str), NameKind.local)) (n5 : sc.names[5]? = some (("mid" : Str), NameKind.local)) (va vx : D) (kv : AV) (hkv : ∀ n, kv.below n) (N : Nat) (P : Nat -> Bool) (lo hi : Nat) (hle : hi <= N) (hlo : lo <= hi) {S : Stmt} {Q : AF -> List ac -> Prop} {p1 p2 p3 p4 p5 p6 p7 p8 p9 p10 p11 : Pos}
  (turn : ∀ E' (l h m : Nat) QQ, m < N -> (P m = true -> QQ .next (I8 sc va vx (m + 1) h kv (some (.d (.int (m : Int)))))) -> (P m = false -> QQ .next (I8 sc va vx l m kv (some (.d (.int (m : Int)))))) -> wS C A (G.at E') ⟨sc, 0, [], cd, ql⟩ (I8 sc va vx l h kv (some (.d (.int (m : Int))))) S QQ)
  (q : Q .next [.ns (sc.names.map (·.1)) [none, none, some (.d (.int (bB P (hi - lo) lo hi : Int))), none, none, none, none, none]]) :
  wS C A G ⟨sc, 0, [], cd, ql⟩ (I8 sc va vx lo hi kv none) (.While (.Compare (.Name "lo" p1) [.Lt] [.Name "hi" p2] p3) [.Assign [.Name "mid" p4] (.BinOp (.BinOp (.Name "lo" p5) .Add (.Name "hi" p6) p7) .FloorDiv (.Constant (.int 2) 0 p8) p9) p10, S] [] p11) Q := by
 have m2 : (sc.names.map (·.1))[2]? = some ("lo" : Str) := by rw [List.getElem?_map, n2]; rfl
 have m3 : (sc.names.map (·.1))[3]? = some ("hi" : Str) := by rw [List.getElem?_map, n3]; rfl
 have m5 : (sc.names.map (·.1))[5]? = some ("mid" : Str) := by rw [List.getElem?_map, n5]; rfl
 refine Jn 1 (fun m st1 => ∃ (l h : Nat), m = h - l /\ st1 = I8 sc va vx l h kv none /\ l <= h /\ h <= N /\ bB P (h - l) l h = bB P (hi - lo) lo hi) ?_ (hi - lo) ⟨lo, hi, rfl, rfl, hlo, hle, rfl⟩ ?_
 ·rintro m st1 ⟨_, _, _, rfl, _⟩; rfl
 rintro E' m st1 ⟨l, h, rfl, rfl, hl, hh, hb⟩
 refine a8 rfl (aa 2 n2 rfl m2 rfl (aa 3 n3 rfl m3 rfl (g7 (cn ?_))))
 by_cases hlt : l < h
 ·rw [show decide ((l : Int) < (h : Int)) = true from decide_eq_true (Int.ofNat_lt.mpr hlt)]
  have hb' : bB P (h - l) l h = if P ((l + h) / 2) = true then bB P (h - l - 1) ((l + h) / 2 + 1) h else bB P (h - l - 1) l ((l + h) / 2) := by
   rw [Lm hlt]; exact if_pos hlt
  have hm := oj hlt
  refine ah (al (fun _ => rfl) (aj (aj (aa 2 n2 rfl m2 rfl (aa 3 n3 rfl m3 rfl (cu ?_))))))
  refine ai (sx (by decide) (PyProof.noPylong_small (by decide)) ?_)
  rw [Po]
  refine af 5 n5 rfl m5 ?_
  refine ah (turn E' l h ((l + h) / 2) _ (Nat.lt_of_lt_of_le hm.2 hh) (fun t => ?_) fun t => ?_)
  ·rw [if_pos t] at hb'
   refine am ⟨h - ((l + h) / 2 + 1), Qi hm.1 hm.2, _, Sub.of rfl ?_, (l + h) / 2 + 1, h, rfl, rfl, hm.2, hh, ?_⟩
   ·exact g5.cons (c8.ns (ax.some trivial (ax.some trivial (ax.some trivial (ax.some trivial (ax.some (hkv _) (ax.none (ax.none (ax.none ax.nil))))))))) g5.nil
   ·rw [<- hb, hb']; exact un P _ _ _ _ (Nat.le_refl _) (Ml hm.1 hm.2 (Ko hlt))
  ·rw [if_neg (by rw [t]; decide)] at hb'
   refine am ⟨(l + h) / 2 - l, Qw hm.1 hm.2, _, Sub.of rfl ?_, l, (l + h) / 2, rfl, rfl, hm.1, Nat.le_trans (Nat.le_of_lt hm.2) hh, ?_⟩
   ·exact g5.cons (c8.ns (ax.some trivial (ax.some trivial (ax.some trivial (ax.some trivial (ax.some (hkv _) (ax.none (ax.none (ax.none ax.nil))))))))) g5.nil
   ·rw [<- hb, hb']; exact un P _ _ _ _ (Nat.le_refl _) (Lq hm.1 hm.2 (Ko hlt))
 ·rw [show decide ((l : Int) < (h : Int)) = false from decide_eq_false fun q => hlt (Int.ofNat_lt.mp q)]
  rw [zb P _ _ _ hlt] at hb
  refine ⟨[.ns (sc.names.map (·.1)) [none, none, some (.d (.int (l : Int))), none, none, none, none, none]], Sub.of rfl (g5.cons (c8.ns ?_) g5.nil), ?_⟩
  ·exact ax.none (ax.none (ax.some trivial (ax.none (ax.none (ax.none (ax.none (ax.none ax.nil)))))))
  rw [<- hb] at q; exact q
set_option maxHeartbeats 4000000 in
theorem Hd (cd : Value) (ql : Str) {nk : Nat} (hA : AOk A nk) (as : List D) (x : Int) (lo : Nat) (hiv : D) (hi : Nat) (hhi : hiv = .int hi ∨ (hiv = .none /\ hi = as.length)) (hle : hi <= as.length) (hsz : as.length < 2 ^ 40) (hlo : lo <= hi) (g : Nat -> Int) (gl : ag C "len" (.builtin "len"))
  (kv : AV) (hkey : (kv = .d .none /\ ∀ (i : Nat) (d : D), as[i]? = some d -> d = PyData.int (g i)) ∨ ∃ f φf κf, kv = .glob f /\ (f == Value.none) = false /\ (∀ b o, φf b = some o -> G.φ b = some o) /\ Kle κf G.κ₀ /\ (∀ b o, G.κ₀ b = some o -> κf b = some o ∨ φf b = none) /\ ∀ (i : Nat) (d : D), as[i]? = some d -> et C φf κf nk f [.d d] [] [] fun r => r = PyData.int (g i))
  (post : D -> Prop) (hp : post (.int (bsR g x (hi - lo) lo hi))) :
  wSs C A G ⟨aq PySem.Challenge.pw_wb0027_01 4, 0, [], cd, ql⟩ [i1 4 [some (.d (.list as)), some (.d (.int x)), some (.d (.int lo)), some (.d hiv), some kv, none, none, none]] (cq PySem.Challenge.pw_wb0027_01 4) (pv post) := by
 refine ah (cm ?_)
 refine a8 rfl (aa 2 rfl rfl rfl rfl (ai (g7 (cn ?_))))
 rw [show decide ((lo : Int) < 0) = false from decide_eq_false (by lia)]
 refine am ?_
 refine (?_ : wSs _ _ _ _ _ _ _)
 refine ah (cm ?_)
 have step2 : ∀ G' : Gd, G'.φ = G.φ -> G'.κ₀ = G.κ₀ -> wSs C A G' ⟨aq PySem.Challenge.pw_wb0027_01 4, 0, [], cd, ql⟩ [i1 4 [some (.d (.list as)), some (.d (.int x)), some (.d (.int lo)), some (.d (.int hi)), some kv, none, none, none]] ((cq PySem.Challenge.pw_wb0027_01 4).drop 2) (pv post) := by
  intro G' hφ hκ
  refine ah (cm ?_)
  rcases hkey with ⟨rfl, hk⟩ | ⟨f, φf, κf, rfl, hf, h1, h2, h3, h4⟩
  ·refine a8 rfl (aa 4 rfl rfl rfl rfl (n7 (jf (cn ?_))))
   refine (?_ : wSs _ _ _ _ _ _ _)
   refine ah ?_
   refine qu rfl rfl rfl (.list as) (.int x) (.d .none) (fun _ => trivial) as.length (fun i => decide (g i <= x)) lo hi hle hlo ?_ ?_
   ·intro E' l h m QQ hmid qt qf
    refine cm ?_
    refine a8 rfl (aa 1 rfl rfl rfl rfl ?_)
    refine bb (fun _ _ => ⟨_, rfl⟩) (aa 0 rfl rfl rfl rfl (aa 5 rfl rfl rfl rfl ?_))
    refine cj (l := as.map .d) (x := .d (.int (g m))) rfl (by lia) (by lia) ?_ ?_
    ·rw [Int.toNat_natCast, List.getElem?_map, List.getElem?_eq_getElem hmid]
     rw [hk _ _ (List.getElem?_eq_getElem hmid)]; rfl
    refine g7 (cn ?_)
    by_cases hx : x < g m
    ·rw [decide_eq_true hx]
     refine ah (al (fun _ => rfl) (aa 5 rfl rfl rfl rfl (af 3 rfl rfl rfl ?_)))
     exact am (qf (decide_eq_false (Int.not_le.mpr hx)))
    ·rw [decide_eq_false hx]
     refine ah (al (fun _ => rfl) (aj (aa 5 rfl rfl rfl rfl (ai (cu (af 2 rfl rfl rfl ?_))))))
     exact am (qt (decide_eq_true (Int.not_lt.mp hx)))
   ·rw [B2] at hp
    refine am ?_
    refine ah (fy (aa 2 rfl rfl rfl rfl ?_))
    exact hp
  ·refine a8 rfl (aa 4 rfl rfl rfl rfl (n7 (qm hf (cn ?_))))
   refine (?_ : wSs _ _ _ _ _ _ _)
   refine ah ?_
   refine qu rfl rfl rfl (.list as) (.int x) (.glob f) (fun _ => trivial) as.length (fun i => decide (g i <= x)) lo hi hle hlo ?_ ?_
   ·intro E' l h m QQ hmid qt qf
    refine cm ?_
    refine a8 rfl (aa 1 rfl rfl rfl rfl ?_)
    refine dq (fun _ => rfl) (aa 4 rfl rfl rfl rfl ?_)
    refine bb (fun _ _ => ⟨_, rfl⟩) (aa 0 rfl rfl rfl rfl (aa 5 rfl rfl rfl rfl ?_))
    refine cj (l := as.map .d) (x := .d as[m]) rfl (by lia) (by lia) ?_ ?_
    ·rw [Int.toNat_natCast, List.getElem?_map, List.getElem?_eq_getElem hmid]; rfl
    refine y0 (h4 _ _ (List.getElem?_eq_getElem hmid)) hA (fun b o e => (congrFun hφ b).trans (h1 b o e)) (hκ ▸ h2) (fun b o e => h3 b o ((congrFun hκ b).symm.trans e)) (pj trivial) (fun a ha => nomatch ha) ?_
    rintro d rfl
    refine g7 (cn ?_)
    by_cases hx : x < g m
    ·rw [decide_eq_true hx]
     refine ah (al (fun _ => rfl) (aa 5 rfl rfl rfl rfl (af 3 rfl rfl rfl ?_)))
     exact am (qf (decide_eq_false (Int.not_le.mpr hx)))
    ·rw [decide_eq_false hx]
     refine ah (al (fun _ => rfl) (aj (aa 5 rfl rfl rfl rfl (ai (cu (af 2 rfl rfl rfl ?_))))))
     exact am (qt (decide_eq_true (Int.not_lt.mp hx)))
   ·rw [B2] at hp
    refine am ?_
    refine ah (fy (aa 2 rfl rfl rfl rfl ?_))
    exact hp
 refine a8 rfl (aa 3 rfl rfl rfl rfl (n7 ?_))
 rcases hhi with rfl | ⟨rfl, rfl⟩
 ·refine tx (cn ?_)
  exact am (step2 G rfl rfl)
 ·refine jf (cn ?_)
  refine (?_ : wSs _ _ _ _ _ _ _)
  refine ah (al (fun _ => rfl) (dq (fun _ => rfl) (ao 7 gl rfl (aa 0 rfl rfl rfl rfl (d7 (sz (l := as.map .d) rfl ?_ ?_))))))
  ·rw [List.length_map]; lia
  refine af 3 rfl rfl rfl ?_
  rw [List.length_map]
  exact am (step2 G rfl rfl)
set_option maxHeartbeats 4000000 in
theorem Hu (cd : Value) (ql : Str) {nk : Nat} (hA : AOk A nk) (as : List D) (x : Int) (lo : Nat) (hiv : D) (hi : Nat) (hhi : hiv = .int hi ∨ (hiv = .none /\ hi = as.length)) (hle : hi <= as.length) (hsz : as.length < 2 ^ 40) (hlo : lo <= hi) (g : Nat -> Int) (gl : ag C "len" (.builtin "len"))
  (kv : AV) (hkey : (kv = .d .none /\ ∀ (i : Nat) (d : D), as[i]? = some d -> d = PyData.int (g i)) ∨ ∃ f φf κf, kv = .glob f /\ (f == Value.none) = false /\ (∀ b o, φf b = some o -> G.φ b = some o) /\ Kle κf G.κ₀ /\ (∀ b o, G.κ₀ b = some o -> κf b = some o ∨ φf b = none) /\ ∀ (i : Nat) (d : D), as[i]? = some d -> et C φf κf nk f [.d d] [] [] fun r => r = PyData.int (g i))
  (post : D -> Prop) (hp : post (.int (bsL g x (hi - lo) lo hi))) :
  wSs C A G ⟨aq PySem.Challenge.pw_wb0027_01 5, 0, [], cd, ql⟩ [i1 5 [some (.d (.list as)), some (.d (.int x)), some (.d (.int lo)), some (.d hiv), some kv, none, none, none]] (cq PySem.Challenge.pw_wb0027_01 5) (pv post) := by
 refine ah (cm ?_)
 refine a8 rfl (aa 2 rfl rfl rfl rfl (ai (g7 (cn ?_))))
 rw [show decide ((lo : Int) < 0) = false from decide_eq_false (by lia)]
 refine am ?_
 refine (?_ : wSs _ _ _ _ _ _ _)
 refine ah (cm ?_)
 have step2 : ∀ G' : Gd, G'.φ = G.φ -> G'.κ₀ = G.κ₀ -> wSs C A G' ⟨aq PySem.Challenge.pw_wb0027_01 5, 0, [], cd, ql⟩ [i1 5 [some (.d (.list as)), some (.d (.int x)), some (.d (.int lo)), some (.d (.int hi)), some kv, none, none, none]] ((cq PySem.Challenge.pw_wb0027_01 5).drop 2) (pv post) := by
  intro G' hφ hκ
  refine ah (cm ?_)
  rcases hkey with ⟨rfl, hk⟩ | ⟨f, φf, κf, rfl, hf, h1, h2, h3, h4⟩
  ·refine a8 rfl (aa 4 rfl rfl rfl rfl (n7 (jf (cn ?_))))
   refine (?_ : wSs _ _ _ _ _ _ _)
   refine ah ?_
   refine qu rfl rfl rfl (.list as) (.int x) (.d .none) (fun _ => trivial) as.length (fun i => decide (g i < x)) lo hi hle hlo ?_ ?_
   ·intro E' l h m QQ hmid qt qf
    refine cm ?_
    refine a8 rfl ?_
    refine bb (fun _ _ => ⟨_, rfl⟩) (aa 0 rfl rfl rfl rfl (aa 5 rfl rfl rfl rfl ?_))
    refine cj (l := as.map .d) (x := .d (.int (g m))) rfl (by lia) (by lia) ?_ ?_
    ·rw [Int.toNat_natCast, List.getElem?_map, List.getElem?_eq_getElem hmid]
     rw [hk _ _ (List.getElem?_eq_getElem hmid)]; rfl
    refine aa 1 rfl rfl rfl rfl (g7 (cn ?_))
    by_cases hx : g m < x
    ·rw [decide_eq_true hx]
     refine ah (al (fun _ => rfl) (aj (aa 5 rfl rfl rfl rfl (ai (cu (af 2 rfl rfl rfl ?_))))))
     exact am (qt (decide_eq_true hx))
    ·rw [decide_eq_false hx]
     refine ah (al (fun _ => rfl) (aa 5 rfl rfl rfl rfl (af 3 rfl rfl rfl ?_)))
     exact am (qf (decide_eq_false hx))
   ·rw [Ay] at hp
    refine am ?_
    refine ah (fy (aa 2 rfl rfl rfl rfl ?_))
    exact hp
  ·refine a8 rfl (aa 4 rfl rfl rfl rfl (n7 (qm hf (cn ?_))))
   refine (?_ : wSs _ _ _ _ _ _ _)
   refine ah ?_
   refine qu rfl rfl rfl (.list as) (.int x) (.glob f) (fun _ => trivial) as.length (fun i => decide (g i < x)) lo hi hle hlo ?_ ?_
   ·intro E' l h m QQ hmid qt qf
    refine cm ?_
    refine a8 rfl ?_
    refine dq (fun _ => rfl) (aa 4 rfl rfl rfl rfl ?_)
    refine bb (fun _ _ => ⟨_, rfl⟩) (aa 0 rfl rfl rfl rfl (aa 5 rfl rfl rfl rfl ?_))
    refine cj (l := as.map .d) (x := .d as[m]) rfl (by lia) (by lia) ?_ ?_
    ·rw [Int.toNat_natCast, List.getElem?_map, List.getElem?_eq_getElem hmid]; rfl
    refine y0 (h4 _ _ (List.getElem?_eq_getElem hmid)) hA (fun b o e => (congrFun hφ b).trans (h1 b o e)) (hκ ▸ h2) (fun b o e => h3 b o ((congrFun hκ b).symm.trans e)) (pj trivial) (fun a ha => nomatch ha) ?_
    rintro d rfl
    refine aa 1 rfl rfl rfl rfl (g7 (cn ?_))
    by_cases hx : g m < x
    ·rw [decide_eq_true hx]
     refine ah (al (fun _ => rfl) (aj (aa 5 rfl rfl rfl rfl (ai (cu (af 2 rfl rfl rfl ?_))))))
     exact am (qt (decide_eq_true hx))
    ·rw [decide_eq_false hx]
     refine ah (al (fun _ => rfl) (aa 5 rfl rfl rfl rfl (af 3 rfl rfl rfl ?_)))
     exact am (qf (decide_eq_false hx))
   ·rw [Ay] at hp
    refine am ?_
    refine ah (fy (aa 2 rfl rfl rfl rfl ?_))
    exact hp
 refine a8 rfl (aa 3 rfl rfl rfl rfl (n7 ?_))
 rcases hhi with rfl | ⟨rfl, rfl⟩
 ·refine tx (cn ?_)
  exact am (step2 G rfl rfl)
 ·refine jf (cn ?_)
  refine (?_ : wSs _ _ _ _ _ _ _)
  refine ah (al (fun _ => rfl) (dq (fun _ => rfl) (ao 7 gl rfl (aa 0 rfl rfl rfl rfl (d7 (sz (l := as.map .d) rfl ?_ ?_))))))
  ·rw [List.length_map]; lia
  refine af 3 rfl rfl rfl ?_
  rw [List.length_map]
  exact am (step2 G rfl rfl)
end
end Mine
end
section
open PySem PySem.Calls PyProof.Rows PySem.W PySem.SeqAt PyProof.V
set_option maxRecDepth 100000
namespace Mine
theorem qr {M : Model} {A : Around} {E : Value -> Shared -> Prop} {s : Shared} {α : Type} {c : Bool} {x y : Sem α} {Q : α -> Shared -> Prop} (hc : c = false) (h : wpAny M A y Q E s) : wpAny M A (if c = true then x else y) Q E s := by subst hc; exact h
theorem Qs {M : Model} {A : Around} {E : Value -> Shared -> Prop} {s : Shared} {α : Type} {c : Bool} {x y : Sem α} {Q : α -> Shared -> Prop} (hc : c = true) (h : wpAny M A x Q E s) : wpAny M A (if c = true then x else y) Q E s := by subst hc; exact h
structure gk (C : Cx) (k : Nat) (f : Value) (fd : FuncData) : Prop where
 at_ : zh C f fd (cq PySem.Challenge.pw_wb0027_01 k)
 scope : fd.scope = aq PySem.Challenge.pw_wb0027_01 k
 params : fd.params = fq PySem.Challenge.pw_wb0027_01 k
 dflt : ∃ T, fd.defaults = .ref T /\ ∀ h : Heap, (∀ b o, C.P0 b = some o -> h.get? b = some o) -> ∃ o n t, h.get? T = some o /\ o.data = .seq #[.int 0 t, .none] n
 kwd : ∃ W, fd.kwdefaults = .ref W /\ ∀ h : Heap, (∀ b o, C.P0 b = some o -> h.get? b = some o) -> ∃ m, h.Ns W m /\ m "key" = some .none
noncomputable abbrev Mu (p1 p2 p3 p4 p5 : Pos) (n1 n2 n3 n4 n5 : Option Expr) (kd : List (Option Expr)) (df : List Expr) : Arguments := ⟨[], [⟨"a", n1, p1⟩, ⟨"x", n2, p2⟩, ⟨"lo", n3, p3⟩, ⟨"hi", n4, p4⟩], none, [⟨"key", n5, p5⟩], kd, none, df⟩
section
variable {C : Cx} {fd : FuncData} {f : Value} {k : Nat} {p1 p2 p3 p4 p5 : Pos} {n1 n2 n3 n4 n5 : Option Expr} {kd : List (Option Expr)} {df : List Expr}
theorem yj (B : gk C k f fd) (hP : fq PySem.Challenge.pw_wb0027_01 k = Mu p1 p2 p3 p4 p5 n1 n2 n3 n4 n5 kd df) (v u : Value) (s : Shared) (hp : ∀ b o, C.P0 b = some o -> s.heap.get? b = some o) : ∃ t : Tok, BindsTo s fd ⟨[v, u], []⟩ [(("a" : Str), v), (("x" : Str), u), (("lo" : Str), .int 0 t), (("hi" : Str), .none), ("key", .none)] := by
 refine byC fun hC1 => ?_
 obtain ⟨T, hT, hd⟩ := B.dflt
 obtain ⟨W, hW, hk⟩ := B.kwd
 obtain ⟨o, n, t, ho, hdat⟩ := hd s.heap hp
 obtain ⟨m, hm, hkey⟩ := hk s.heap hp
 refine hC1 ?_
 refine ⟨t, fun M A E Q hq => ?_⟩
 unfold bindArgs
 rw [B.params.trans hP, hT, hW]
 refine wpAny_bind (wpAny_pure ?_)
 refine wpAny_bind (wpAny_seqItems ho hdat ?_)
 refine qr rfl (qr rfl ?_)
 refine wpAny_bind (wpAny_pure (a := [(("a" : Str), v), (("x" : Str), u), (("lo" : Str), .int 0 t), (("hi" : Str), .none)]) ?_)
 refine wpAny_bind ?_
 rw [show (List.map (fun x => x.arg) (Mu p1 p2 p3 p4 p5 n1 n2 n3 n4 n5 kd df).kwonlyargs) = [("key" : Str)] from rfl, List.forIn_cons]
 refine wpAny_bind (Qs rfl (wpAny_bind (wpAny_nsGet hm ?_)))
 rw [hkey]
 exact wpAny_pure (wpAny_pure (qr rfl (wpAny_pure hq)))
theorem wn (B : gk C k f fd) (hP : fq PySem.Challenge.pw_wb0027_01 k = Mu p1 p2 p3 p4 p5 n1 n2 n3 n4 n5 kd df) (v u f1 : Value) (s : Shared) (hp : ∀ b o, C.P0 b = some o -> s.heap.get? b = some o) : ∃ t : Tok, BindsTo s fd ⟨[v, u], [("key", f1)]⟩ [(("a" : Str), v), (("x" : Str), u), (("lo" : Str), .int 0 t), (("hi" : Str), .none), ("key", f1)] := by
 refine byC fun hC1 => ?_
 obtain ⟨T, hT, hd⟩ := B.dflt
 obtain ⟨W, hW, hk⟩ := B.kwd
 obtain ⟨o, n, t, ho, hdat⟩ := hd s.heap hp
 refine hC1 ?_
 refine ⟨t, fun M A E Q hq => ?_⟩
 unfold bindArgs
 rw [B.params.trans hP, hT, hW]
 refine wpAny_bind (wpAny_pure (a := ([(("a" : Str), v), (("x" : Str), u), ("key", f1)], ([] : List (Str × Value)))) ?_)
 refine wpAny_bind (wpAny_seqItems ho hdat ?_)
 refine qr rfl (qr rfl ?_)
 refine wpAny_bind (wpAny_pure (a := [(("a" : Str), v), (("x" : Str), u), ("key", f1), (("lo" : Str), .int 0 t), (("hi" : Str), .none)]) ?_)
 refine wpAny_bind ?_
 refine wpAny_pure (a := ([(("a" : Str), v), (("x" : Str), u), ("key", f1), (("lo" : Str), .int 0 t), (("hi" : Str), .none)], ([] : List Str))) ?_
 exact qr rfl (wpAny_pure hq)
theorem wv (B : gk C k f fd) (hP : fq PySem.Challenge.pw_wb0027_01 k = Mu p1 p2 p3 p4 p5 n1 n2 n3 n4 n5 kd df) (v u w f1 : Value) (s : Shared) (hp : ∀ b o, C.P0 b = some o -> s.heap.get? b = some o) : ∃ t : Tok, BindsTo s fd ⟨[v, u, w], [("key", f1)]⟩ [(("a" : Str), v), (("x" : Str), u), (("lo" : Str), w), (("hi" : Str), .none), ("key", f1)] := by
 refine byC fun hC1 => ?_
 obtain ⟨T, hT, hd⟩ := B.dflt
 obtain ⟨W, hW, hk⟩ := B.kwd
 obtain ⟨o, n, t, ho, hdat⟩ := hd s.heap hp
 refine hC1 ?_
 refine ⟨t, fun M A E Q hq => ?_⟩
 unfold bindArgs
 rw [B.params.trans hP, hT, hW]
 refine wpAny_bind (wpAny_pure (a := ([(("a" : Str), v), (("x" : Str), u), (("lo" : Str), w), ("key", f1)], ([] : List (Str × Value)))) ?_)
 refine wpAny_bind (wpAny_seqItems ho hdat ?_)
 refine qr rfl (qr rfl ?_)
 refine wpAny_bind (wpAny_pure (a := [(("a" : Str), v), (("x" : Str), u), (("lo" : Str), w), ("key", f1), (("hi" : Str), .none)]) ?_)
 refine wpAny_bind ?_
 refine wpAny_pure (a := ([(("a" : Str), v), (("x" : Str), u), (("lo" : Str), w), ("key", f1), (("hi" : Str), .none)], ([] : List Str))) ?_
 exact qr rfl (wpAny_pure hq)
end
end Mine
end
section
open PySem PySem.Calls PyProof.Rows PySem.W PySem.SeqAt PyProof.V
set_option maxRecDepth 100000
namespace Mine
theorem Nm : ew (aq PySem.Challenge.pw_wb0027_01 4) := ⟨rfl, by decide +kernel, by decide +kernel⟩
theorem Nx : ew (aq PySem.Challenge.pw_wb0027_01 5) := ⟨rfl, by decide +kernel, by decide +kernel⟩
noncomputable def Nw (C : Cx) (nk : Nat) (φf κf : Kp) (as : List D) (g : Nat -> Int) (kv : AV) : Prop :=
 (kv = .d .none /\ ∀ (i : Nat) (d : D), as[i]? = some d -> d = PyData.int (g i)) ∨ ∃ f, kv = .glob f /\ (f == Value.none) = false /\ ∀ (i : Nat) (d : D), as[i]? = some d -> et C φf κf nk f [.d d] [] [] fun r => r = PyData.int (g i)
theorem Fo {C : Cx} {φf κf : Kp} {f : Value} {fd : FuncData} {nk : Nat} (hl : ci C) (gl : ag C "len" (.builtin "len")) (B : gk C 4 f fd) (hφt : ∀ b ∈ C.tabs, φf b = none) (as : List D) (x : Int) (lo : Nat) (hiv : D) (hi : Nat) (hhi : hiv = .int hi ∨ (hiv = .none /\ hi = as.length)) (hle : hi <= as.length) (hsz : as.length < 2 ^ 40) (hlo : lo <= hi) (g : Nat -> Int)
  (kv : AV) (hkey : Nw C nk φf κf as g kv) (args : List AV) (names : List Str) (ks : List AV)
  (hb : ∀ (s : Shared) (vs kvs : List Value), (∀ b o, C.P0 b = some o -> s.heap.get? b = some o) -> vs.length = args.length -> kvs.length = ks.length -> ∃ binds, BindsTo s fd ⟨vs, names.zip kvs⟩ binds /\ binds.map (·.1) = [("a" : Str), "x", "lo", "hi", "key"] ∧
   ∀ κ : Kp, RVL κ [] args vs -> RVL κ [] ks kvs -> RVL κ [] [.d (.list as), .d (.int x), .d (.int lo), .d hiv, kv] (binds.map (·.2))) :
  et C φf κf (nk + 1) f args names ks fun r => r = PyData.int (bsR g x (hi - lo) lo hi) := by
 have hat := B.at_
 have hsc := B.scope
 refine D5 (bs := [(("a" : Str), .d (.list as)), ("x", .d (.int x)), ("lo", .d (.int lo)), ("hi", .d hiv), ("key", kv)]) hat hφt hl (by rw [hsc]; exact Nm) (by rw [hsc]; decide +kernel) hb ?_
 intro A G A' hA h1 h2 h3
 rw [hsc]
 simp only [bu]
 refine af 0 rfl rfl rfl ?_
 refine af 1 rfl rfl rfl ?_
 refine af 2 rfl rfl rfl ?_
 refine af 3 rfl rfl rfl ?_
 refine af 4 rfl rfl rfl ?_
 intro E
 refine Hd (G := G.at E) _ _ hA as x lo hiv hi hhi hle hsz hlo g gl kv ?_ _ rfl
 rcases hkey with h | ⟨f, q1, q2, q3⟩
 ·exact .inl h
 ·exact .inr ⟨f, φf, κf, q1, q2, h1, h2, h3, q3⟩
theorem Fj {C : Cx} {φf κf : Kp} {f : Value} {fd : FuncData} {nk : Nat} (hl : ci C) (gl : ag C "len" (.builtin "len")) (B : gk C 5 f fd) (hφt : ∀ b ∈ C.tabs, φf b = none) (as : List D) (x : Int) (lo : Nat) (hiv : D) (hi : Nat) (hhi : hiv = .int hi ∨ (hiv = .none /\ hi = as.length)) (hle : hi <= as.length) (hsz : as.length < 2 ^ 40) (hlo : lo <= hi) (g : Nat -> Int)
  (kv : AV) (hkey : Nw C nk φf κf as g kv) (args : List AV) (names : List Str) (ks : List AV)
  (hb : ∀ (s : Shared) (vs kvs : List Value), (∀ b o, C.P0 b = some o -> s.heap.get? b = some o) -> vs.length = args.length -> kvs.length = ks.length -> ∃ binds, BindsTo s fd ⟨vs, names.zip kvs⟩ binds /\ binds.map (·.1) = [("a" : Str), "x", "lo", "hi", "key"] ∧
   ∀ κ : Kp, RVL κ [] args vs -> RVL κ [] ks kvs -> RVL κ [] [.d (.list as), .d (.int x), .d (.int lo), .d hiv, kv] (binds.map (·.2))) :
  et C φf κf (nk + 1) f args names ks fun r => r = PyData.int (bsL g x (hi - lo) lo hi) := by
 have hat := B.at_
 have hsc := B.scope
 refine D5 (bs := [(("a" : Str), .d (.list as)), ("x", .d (.int x)), ("lo", .d (.int lo)), ("hi", .d hiv), ("key", kv)]) hat hφt hl (by rw [hsc]; exact Nx) (by rw [hsc]; decide +kernel) hb ?_
 intro A G A' hA h1 h2 h3
 rw [hsc]
 simp only [bu]
 refine af 0 rfl rfl rfl ?_
 refine af 1 rfl rfl rfl ?_
 refine af 2 rfl rfl rfl ?_
 refine af 3 rfl rfl rfl ?_
 refine af 4 rfl rfl rfl ?_
 intro E
 refine Hu (G := G.at E) _ _ hA as x lo hiv hi hhi hle hsz hlo g gl kv ?_ _ rfl
 rcases hkey with h | ⟨f, q1, q2, q3⟩
 ·exact .inl h
 ·exact .inr ⟨f, φf, κf, q1, q2, h1, h2, h3, q3⟩
theorem RV.int {κ : Kp} {σ : List Addr} {i : Int} {t : Tok} : RV κ σ (.d (.int i)) (.int i t) := show R κ (.int i) _ from ⟨t, rfl⟩
theorem RV.none {κ : Kp} {σ : List Addr} : RV κ σ (.d .none) .none := show R κ .none _ from rfl
theorem O0 {C : Cx} {φf κf : Kp} {f : Value} {fd : FuncData} {nk : Nat} (hl : ci C) (gl : ag C "len" (.builtin "len")) (B : gk C 4 f fd) (hφt : ∀ b ∈ C.tabs, φf b = none) (as : List D) (x : Int) (hsz : as.length < 2 ^ 40) (g : Nat -> Int) (hk : ∀ (i : Nat) (d : D), as[i]? = some d -> d = PyData.int (g i)) :
  et C φf κf (nk + 1) f [.d (.list as), .d (.int x)] [] [] fun r => r = PyData.int (bsR g x as.length 0 as.length) :=
 Fo hl gl B hφt as x 0 .none as.length (.inr ⟨rfl, rfl⟩) (Nat.le_refl _) hsz (Nat.zero_le _) g (.d .none) (.inl ⟨rfl, hk⟩) _ _ _ fun s vs kvs hp hv hkv => by
  obtain ⟨v, u, rfl⟩ := wo hv
  obtain ⟨t, hb⟩ := yj B rfl v u s hp
  exact ⟨_, hb, rfl, fun κ r _ => by
   obtain ⟨r1, r2⟩ := r.two'
   exact .cons r1 (.cons r2 (.cons RV.int (.cons RV.none (.cons RV.none .nil))))⟩
theorem Pl {C : Cx} {φf κf : Kp} {f : Value} {fd : FuncData} {nk : Nat} (hl : ci C) (gl : ag C "len" (.builtin "len")) (B : gk C 5 f fd) (hφt : ∀ b ∈ C.tabs, φf b = none) (as : List D) (x : Int) (hsz : as.length < 2 ^ 40) (g : Nat -> Int) (hk : ∀ (i : Nat) (d : D), as[i]? = some d -> d = PyData.int (g i)) :
  et C φf κf (nk + 1) f [.d (.list as), .d (.int x)] [] [] fun r => r = PyData.int (bsL g x as.length 0 as.length) :=
 Fj hl gl B hφt as x 0 .none as.length (.inr ⟨rfl, rfl⟩) (Nat.le_refl _) hsz (Nat.zero_le _) g (.d .none) (.inl ⟨rfl, hk⟩) _ _ _ fun s vs kvs hp hv hkv => by
  obtain ⟨v, u, rfl⟩ := wo hv
  obtain ⟨t, hb⟩ := yj B rfl v u s hp
  exact ⟨_, hb, rfl, fun κ r _ => by
   obtain ⟨r1, r2⟩ := r.two'
   exact .cons r1 (.cons r2 (.cons RV.int (.cons RV.none (.cons RV.none .nil))))⟩
theorem Ex {C : Cx} {φf κf : Kp} {f kf : Value} {fd : FuncData} {nk : Nat} (hl : ci C) (gl : ag C "len" (.builtin "len")) (B : gk C 4 f fd) (hφt : ∀ b ∈ C.tabs, φf b = none) (as : List D) (x : Int) (hsz : as.length < 2 ^ 40) (g : Nat -> Int) (hkn : (kf == Value.none) = false)
  (hk : ∀ (i : Nat) (d : D), as[i]? = some d -> et C φf κf nk kf [.d d] [] [] fun r => r = PyData.int (g i)) :
  et C φf κf (nk + 1) f [.d (.list as), .d (.int x)] ["key"] [.glob kf] fun r => r = PyData.int (bsR g x as.length 0 as.length) :=
 Fo hl gl B hφt as x 0 .none as.length (.inr ⟨rfl, rfl⟩) (Nat.le_refl _) hsz (Nat.zero_le _) g (.glob kf) (.inr ⟨kf, rfl, hkn, hk⟩) _ _ _ fun s vs kvs hp hv hkv => by
  obtain ⟨v, u, rfl⟩ := wo hv
  obtain ⟨f1, rfl⟩ := G6 hkv
  obtain ⟨t, hb⟩ := wn B rfl v u f1 s hp
  exact ⟨_, hb, rfl, fun κ r rk => by
   obtain ⟨r1, r2⟩ := r.two'
   have r3 := rk.one'
   exact .cons r1 (.cons r2 (.cons RV.int (.cons RV.none (.cons r3 .nil))))⟩
theorem z6 {C : Cx} {φf κf : Kp} {f kf : Value} {fd : FuncData} {nk : Nat} (hl : ci C) (gl : ag C "len" (.builtin "len")) (B : gk C 5 f fd) (hφt : ∀ b ∈ C.tabs, φf b = none) (as : List D) (x : Int) (hsz : as.length < 2 ^ 40) (g : Nat -> Int) (hkn : (kf == Value.none) = false)
  (hk : ∀ (i : Nat) (d : D), as[i]? = some d -> et C φf κf nk kf [.d d] [] [] fun r => r = PyData.int (g i)) :
  et C φf κf (nk + 1) f [.d (.list as), .d (.int x)] ["key"] [.glob kf] fun r => r = PyData.int (bsL g x as.length 0 as.length) :=
 Fj hl gl B hφt as x 0 .none as.length (.inr ⟨rfl, rfl⟩) (Nat.le_refl _) hsz (Nat.zero_le _) g (.glob kf) (.inr ⟨kf, rfl, hkn, hk⟩) _ _ _ fun s vs kvs hp hv hkv => by
  obtain ⟨v, u, rfl⟩ := wo hv
  obtain ⟨f1, rfl⟩ := G6 hkv
  obtain ⟨t, hb⟩ := wn B rfl v u f1 s hp
  exact ⟨_, hb, rfl, fun κ r rk => by
   obtain ⟨r1, r2⟩ := r.two'
   have r3 := rk.one'
   exact .cons r1 (.cons r2 (.cons RV.int (.cons RV.none (.cons r3 .nil))))⟩
end Mine
end
section
open PySem PySem.Calls PyProof.Rows PySem.W PySem.SeqAt PyProof.V
namespace Mine
section
variable {C : Cx} {A : Around} {G : Gd} {ae : a9} {st : List ac} {Q : AV -> List ac -> Prop}
noncomputable def Af (C : Cx) (A : Around) (G : Gd) (st : List ac) (f : AV) (as : List AV) (kn : Str) (params : Arguments) (body : Expr) (scope : Scope) (ca : List (Str × Nat)) (Q : AV -> List ac -> Prop) : Prop :=
 ∀ κ σ s vf vs kf, Rel C G.φ G.κ₀ κ σ st s -> RV κ σ f vf -> RVL κ σ as vs -> Np κ σ kf params body scope ca -> gt s vf /\ wpAny (model C.prog C.w) A (call vf vs [(kn, .ref kf)]) (PA RV C G.φ G.κ₀ κ σ Q) G.E s
theorem pd {x kn : Str} {np pos kp lpos : Pos} {args : List Expr} {params : Arguments} {body : Expr} {scope : Scope} {P : Addr} (ca : List (Str × Nat)) (hs : ∀ env, (backTo pos (starEach args env)).all (fun x => !x.1) = true) (L : l6 C ae.code P)
  (hdef : ∀ env, defaultsOf params env = ([], [])) (hca : ll ae.cells scope.names [] = some ca) (htq : ∀ pos' : Pos, (((lpos.line : Int) == pos'.line) = true) -> (((lpos.col : Int) == pos'.col) = true) -> C.tq pos' = ae.qual ++ "<lambda>") (htq2 : C.tq lpos = ae.qual ++ "<lambda>")
  (h : wE C A G ae st (.Name x np) fun f st1 => ky C A G ae st1 pos args fun as st2 => Af C A G st2 f as kn params body scope ca Q) : wE C A G ae st (.Call (.Name x np) args [⟨some kn, .Lambda params body scope lpos, kp⟩] pos) Q := fun κ σ s e X =>
 wpAny_Call_ofName (wpAny_mono (h κ σ s e X) (fun vf s1 z => z.go fun κ1 σ1 f st1 k1 p1 X1 r1 q1 => gf (hs _) rfl
  (wpAny_mono (q1 κ1 σ1 s1 (e.mono p1) X1) (fun vs s2 z => z.go fun κ2 σ2 as st2 k2 p2 X2 r2 q2 => by
   show wpAny _ _ (evalAll [do let v ← eval (.Lambda params body scope lpos) G.env; standAt pos; pure v]) _ _ s2
   rw [evalAll]
   refine wpAny_bind (wpAny_bind (N9 X2 (e.mono (p1.trans p2)) L hdef hca htq htq2 fun kf κ3 s3 k3 X3 hl => wpAny_bind (wpAny_standAt (wpAny_pure (wpAny_bind (wpAny_holding (wpAny_evalAll_nil (wpAny_pure ?_))))))))
   have q := q2 κ3 σ2 s3 vf vs kf X3 (r1.mono (k2.trans k3) p2) (r2.mono k3 (List.prefix_refl _)) hl
   exact ⟨q.1, PA.wp ((k1.trans k2).trans k3) (p1.trans p2) q.2⟩) fun _ _ z => z)) fun _ _ z => z)
noncomputable def J3 (st : List ac) (ca : List (Str × Nat)) (ds : List D) : Prop := (ca.map (·.2)).Nodup /\ ds.length = ca.length /\ ∀ (j : Nat) (x : Str) (i : Nat) (d : D), ca[j]? = some (x, i) -> ds[j]? = some d -> st[i]? = some (.cell (some (.d d)))
theorem Mf {φ κ₀ κ : Kp} {σ : List Addr} {s : Shared} {cl : List (Str × Addr)} {ca : List (Str × Nat)} {ds : List D} (X : Rel C φ κ₀ κ σ st s) (c : CR σ cl ca) (h : J3 st ca ds) : fv C (jn C s) κ cl (ca.map (·.1)) ds := by
 refine byC fun hC1 => ?_
 obtain ⟨h1, h2, h3⟩ := h
 refine hC1 ?_
 have hlen : cl.length = ca.length := by have := congrArg List.length c.1; simpa using this
 have at_ : ∀ (j : Nat) (hj : j < cl.length), ∃ i, ca[j]? = some (cl[j].1, i) /\ σ[i]? = some cl[j].2 := fun j hj => by
  have hj' : j < ca.length := by lia
  obtain ⟨c', e1, e2⟩ := c.2 j ca[j].1 ca[j].2 (List.getElem?_eq_getElem hj')
  rw [List.getElem?_eq_getElem hj] at e1
  have e1 := Option.some.inj e1
  exact ⟨ca[j].2, by rw [List.getElem?_eq_getElem hj', e1], by rw [e1]; exact e2⟩
 refine ⟨c.1, by simpa using h2, ?_, fun j x a d e1 e2 => ?_⟩
 ·rw [List.nodup_iff_pairwise_ne, List.pairwise_iff_getElem]
  intro i j hi hj hij he
  simp only [List.getElem_map] at he
  have hi' : i < cl.length := by simpa using hi
  have hj' : j < cl.length := by simpa using hj
  refine byC fun hC2 => ?_
  obtain ⟨p, hp1, hp2⟩ := at_ i hi'
  obtain ⟨q, hq1, hq2⟩ := at_ j hj'
  rw [he] at hp2
  obtain ⟨b1, c1⟩ := List.getElem?_eq_some_iff.mp hp2
  obtain ⟨b2, c2⟩ := List.getElem?_eq_some_iff.mp hq2
  refine hC2 ?_
  have hpq : p = q := (List.getElem_inj X.nd).mp (c1.trans c2.symm)
  rw [List.nodup_iff_pairwise_ne, List.pairwise_iff_getElem] at h1
  refine h1 i j (by simp; lia) (by simp; lia) hij ?_
  refine byC fun hC3 => ?_
  obtain ⟨b3, c3⟩ := List.getElem?_eq_some_iff.mp hp1
  obtain ⟨b4, c4⟩ := List.getElem?_eq_some_iff.mp hq1
  refine hC3 ?_
  simp [c3, c4, hpq]
 ·have hj : j < cl.length := by
   by_cases q : j < cl.length
   ·exact q
   ·exact bq (List.getElem?_eq_none (by lia)) e1
  refine byC fun hC4 => ?_
  obtain ⟨i, g1, g2⟩ := at_ j hj
  rw [List.getElem?_eq_getElem hj] at e1
  have e1 := Option.some.inj e1
  rw [e1] at g1 g2
  obtain ⟨a', o, ha', q1, q2, ho, v, hd, hr⟩ := X.get (h3 j x i d g1 e2) trivial
  refine hC4 ?_
  rw [g2] at ha'; cases ha'
  have hnt : a ∉ C.tabs := fun hm => (X.tabs a hm).2.2.2 (List.mem_of_getElem? g2)
  exact ⟨q1, hnt, o, (if_neg hnt).trans ho, v, hd, hr⟩
theorem z8 {n : Nat} {f : Value} {as : List AV} {kn : Str} {params : Arguments} {body : Expr} {scope : Scope} {ca : List (Str × Nat)} {ds : List D} {post : D -> Prop} (hA : AOk A n) (hc : J3 st ca ds) (h1 : ∀ a ∈ as, a.flat)
  (F : ∀ φf κf kf, (∀ b ∈ C.tabs, φf b = none) -> E3 C φf κf kf params body scope (ca.map (·.1)) ds -> et C φf κf n f as [kn] [.glob (.ref kf)] post) (q : ∀ d, post d -> Q (.d d) st) : Af C A G st (.glob f) as kn params body scope ca Q := fun κ σ s vf vs kf X rf ra hl => by
 cases (rf : vf = _)
 refine byC fun hC1 => ?_
 obtain ⟨o, name, qual, cl, pm, cdv, ct, hk, hd, hcr, hcd⟩ := hl
 obtain ⟨c, w⟩ := F (jn C s) κ kf (fun b hb => by simp [hb]) ⟨o, name, qual, cl, pm, cdv, ct, hk, hd, hcd, Mf X hcr hc⟩ A G.E κ s vs [.ref kf] hA X.base (Kle.refl _) (fun b o e => .inl e) (fun b o e => by
  unfold jn at e
  split at e
  ·cases e
  ·exact e) (ra.flat h1) (RVL.cons (show RV κ [] (.glob (.ref kf)) (.ref kf) from rfl) RVL.nil)
 refine hC1 ?_
 exact ⟨c, wpAny_mono w (fun r s' ⟨κ', d, k, B, hn, hk, hr, hp⟩ => ⟨κ', σ, .d d, st, k, List.prefix_refl _, X.behind k B hn hk, hr, q d hp⟩) fun _ _ z => z⟩
end
end Mine
end
section
open PySem PySem.Calls PyProof.Rows PySem.W PySem.SeqAt PyProof.V
open PySem.Builtin PySem.Builtin.Str
namespace Mine
section
variable {C : Cx} {A : Around} {G : Gd} {ae : a9} {st : List ac} {Q : AV -> List ac -> Prop}
theorem Ew {κ : Kp} (x : Str) {ws : List Str} {vs : List Value} (hr : RL κ (ws.map .str) vs) {j : Nat} (hj : j < vs.length) (hj' : j < ws.length) : Me x vs[j] = (ws[j] == x) := by
 refine byC fun hC1 => ?_
 obtain ⟨v, e, t, rfl⟩ := hr.get (i := j) (d := .str ws[j]) (by simp [hj'])
 refine hC1 ?_
 rw [List.getElem?_eq_getElem hj] at e
 rw [Option.some.inj e]; rfl
theorem J1 {a : AV} {ws : List Str} {x : Str} (h : i3 st a (ws.map .str)) (hm : x ∈ ws) (hsz : ws.length < 2 ^ 40) (q : Q (.d (.int (ws.idxOf x : Nat))) st) : wBi C A G st (.builtin "list.index") [a, .d (.str x)] Q := fun κ σ s vs X r => by
 refine byC fun hC1 => ?_
 obtain ⟨v, u, rfl, ra, ⟨t, rfl⟩⟩ := r.two
 obtain ⟨y, ⟨cls, dd, data, sl⟩, us, n, rfl, ho, hc, hd, hdat, hr⟩ := h.get X ra
 refine hC1 ?_
 simp only at hc hd hdat
 subst hc hd hdat
 have hlen : us.size = ws.length := by have := hr.length; rw [Array.length_toList] at this; simpa using this
 have hj : ws.idxOf x < ws.length := List.idxOf_lt_length_iff.mpr hm
 refine call_meets PySem.F.slot_list_index ⟨_, ho, rfl⟩ PySem.F.entry_list_index (PySem.F.args_list_index_2 _ _)
  (list_indexAt y us n none sl (.str x t) (Me x) (ws.idxOf x) (by lia) (by lia) ?_ ?_) ⟨ho, fun z hz => ?_, PA.int (X.toks _ s.drawn) q⟩
 ·have := Ew x hr (j := ws.idxOf x) (by rw [Array.length_toList]; lia) hj
  rw [Array.getElem_toList] at this
  rw [this]; simpa using List.getElem_idxOf hj
 ·intro m hm1 hm2
  have := Ew x hr (j := m) (by rw [Array.length_toList]; lia) (by lia)
  rw [Array.getElem_toList] at this
  rw [this]
  exact List.not_of_lt_findIdx (p := (· == x)) (xs := ws) hm2
 ·refine byC fun hC2 => ?_
  obtain ⟨w, u, rfl⟩ := zx hr z (by simpa using hz)
  refine hC2 ?_
  exact EqAt.str_str w u x t
theorem Ac (l b : Addr) (items : Array Value) (n : Nat) (dd2 : Option Addr) (sl2 : Array (Option Value)) (items2 : Array Value) (n2 : Nat) (hc0 : ¬(!items.isEmpty && Builtin.List.listTooLong (items.size + items2.size)) = true) (hc1 : items.size <= sizeLine) (hs2 : items.size + items2.size <= sizeLine + 1) :
  Meets (Builtin.«list.extend» ⟨[.ref l, .ref b], []⟩) (fun _ R s => s.heap.get? l = some { cls := .type "list", dict := none, data := .seq items n, slots := #[] } /\ s.heap.get? b = some { cls := .type "list", dict := dd2, data := .seq items2 n2, slots := sl2 } /\ R (.ok (.ret Value.none)) { s with heap := s.heap.update l (Obj.mapSeq fun x => x ++ items2), toks := s.toks }) :=
 .of_wp fun prog w A R s h => by
  obtain ⟨hp, g, d, tk, os⟩ := s; obtain ⟨hl, hb, h⟩ := h; have f1 := AutoSeq1.idx_int; have f2 := AutoSeq1.sub_tuple_tuple; have f3 := AutoSeq1.sub_list_list; have f4 := AutoSeq1.sub_tuple_list; have f5 := AutoSeq1.sub_list_tuple
  have hz' : (items ++ items2).size <= sizeLine + 1 := by rw [Array.size_append]; exact hs2
  wp_walk using (wpAny_updateSeq hl rfl (hz := hc1) (_hz' := hz')), AutoSeq1.wpAny_loadPart' hl, AutoSeq1.wpAny_loadPart' hb; exact ⟨_, rfl, h⟩
theorem se {i : Nat} {b : AV} {l : List AV} {m : List D} (hi : st[i]? = some (.list l)) (hb : i3 st b m) (hne : b ≠ .obj i) (hsz : l.length + m.length <= 100000) (q : Q (.d .none) (st.set i (.list (l ++ m.map .d)))) : wBi C A G st (.builtin "list.extend") [.obj i, b] Q := fun κ σ s vs X r => by
 refine byC fun hC1 => ?_
 obtain ⟨v, u, rfl, ⟨a, ha, rfl⟩, rb⟩ := r.two
 obtain ⟨y, ⟨cls2, dd2, data2, sl2⟩, ws, n2, rfl, ho2, hc2, hd2, hdat2, hr2⟩ := hb.get X rb
 refine hC1 ?_
 simp only at hc2 hd2 hdat2
 subst hc2 hd2 hdat2
 refine byC fun hC2 => ?_
 obtain ⟨a', o, ha', _, _, ho, us, n, rfl, hr⟩ := X.get hi trivial
 refine hC2 ?_
 rw [ha] at ha'; cases ha'
 have h1 : us.size = l.length := by have := hr.1; rw [Array.length_toList] at this; exact this
 have h2 : ws.size = m.length := by have := hr2.length; rw [Array.length_toList] at this; exact this
 have hs := sizeLine_eq
 refine call_meets PySem.F.slot_list_extend ⟨_, ho, rfl⟩ PySem.F.entry_list_extend (PySem.F.args_list_extend_2 _ _) (Ac a y us n _ sl2 ws n2 ?_ (by lia) (by lia)) ⟨ho, ho2, ?_⟩
 ·have : Builtin.List.listTooLong (us.size + ws.size) = false := by
   unfold Builtin.List.listTooLong
   simp only [decide_eq_false_iff_not]; lia
  rw [this]; simp
 ·refine byC fun hC3 => ?_
  obtain ⟨n', hd'⟩ := Obj.data_mapSeq (o := { cls := .type "list", data := .seq us n }) rfl (fun x => x ++ ws)
  refine hC3 ?_
  have hg := Heap.get?_update_self (Obj.mapSeq fun x => x ++ ws) ho (Obj.isFreed_of_seq hd')
  refine PA.none (X.upd (s' := { s with heap := s.heap.update a (Obj.mapSeq fun x => x ++ ws) }) (y := .list (l ++ m.map .d)) hi trivial ha (fun b o hb e => (Heap.get?_update_other _ _ (Ne.symm hb)).trans e) hg rfl rfl ⟨us ++ ws, _, rfl, ?_⟩ trivial) q
  rw [Array.toList_append]
  have : RVL κ σ (m.map .d) ws.toList := RVL.ofD hr2
  refine ⟨by simp [hr.1, this.1], fun j a e => ?_⟩
  by_cases q : j < l.length
  ·rw [List.getElem?_append_left q] at e
   refine byC fun hC4 => ?_
   obtain ⟨v, h3, h4⟩ := hr.2 j a e
   refine hC4 ?_
   exact ⟨v, by rw [List.getElem?_append_left (by rw [hr.1]; exact q)]; exact h3, h4⟩
  ·rw [List.getElem?_append_right (by lia)] at e
   refine byC fun hC5 => ?_
   obtain ⟨v, h3, h4⟩ := this.2 _ a e
   refine hC5 ?_
   exact ⟨v, by rw [List.getElem?_append_right (by rw [hr.1]; lia), hr.1]; exact h3, h4⟩
theorem Pi {x : Str} {n : Int} (hn : PySem.intText? x = some n) (hl : x.length <= 640) (q : Q (.d (.int n)) st) : wBi C A G st (.type "int") [.d (.str x)] Q := fun κ σ s vs X r => by
 obtain ⟨v, rfl, t, rfl⟩ := r.one
 exact KIN.call_text hn hl (PA.int (X.toks _ s.drawn) q)
theorem zc {i : Nat} {a b : Int} (hh : A.in1.handled = none) (hi : st[i]? = some (.raw (ap a b))) (ha : -(2 ^ 20) <= a /\ a <= 2 ^ 20) (hb : -(2 ^ 20) <= b /\ b <= 2 ^ 20) (q : Q (.d (.list (fb a (b - a).toNat))) st) : wBi C A G st (.type "list") [.obj i] Q := fun κ σ s vs X r => by
 refine byC fun hC1 => ?_
 obtain ⟨v, rfl, x, hx, rfl⟩ := r.one
 obtain ⟨x', o, hx', hκ, hφ, ho, t, u, w, rfl⟩ := X.get hi trivial
 refine hC1 ?_
 rw [hx] at hx'; cases hx'
 have hR : IsRange s.heap x a b 1 t u w := ho
 have hs : Builtin.Range.rangeSize a b 1 = ((b - a).toNat : Int) := rangeSize_nat a b
 refine call_list_range (by simpa using hh) hR (small_one (by lia) (by lia) (by lia) (by lia)) hs (by lia) fun h' tk acc' c' hk hl hit => ?_
 refine byC fun hC2 => ?_
 obtain ⟨k1, X1⟩ := X.data (s' := { s with heap := h', toks := tk }) (b8 _) hk hl rfl rfl
 refine hC2 ?_
 refine ⟨_, σ, .d (.list (fb a (b - a).toNat)), st, k1, List.prefix_refl _, X1, ?_, q⟩
 simp only [RV, R]
 refine ⟨_, _, acc', c', rfl, if_pos rfl, rfl, rfl, rfl, ?_⟩
 have hsz : acc'.toList.length = (fb a (b - a).toNat).length := by rw [Array.length_toList, hit.1]; simp [fb]
 refine RL.of_get hsz fun j d e => ?_
 refine byC fun hC3 => ?_
 obtain ⟨rfl, hj⟩ := j1 e
 have hj2 : j < acc'.size := by rw [hit.1]; exact hj
 obtain ⟨t, ht⟩ := hit.2 j acc'[j] (Array.getElem?_eq_getElem hj2)
 refine hC3 ?_
 exact ⟨_, by rw [Array.getElem?_toList, Array.getElem?_eq_getElem hj2, ht], t, by rw [Int.mul_one]⟩
end
end Mine
end
section
open PySem PySem.Calls PyProof.Rows PySem.W PySem.SeqAt PyProof.V
namespace Mine
theorem mq (vs : List Value) (lo hi st : Option Int) : d0 vs lo hi st = (slicePick vs.toArray lo hi st).toList := by
 unfold d0 slicePick
 simp
theorem nh {lo hi st : Option Int} (F : List Nat -> List Nat) (h : ∀ vs : List Value, d0 vs lo hi st = (F (List.range vs.length)).filterMap (vs[·]?)) {α : Type} (l : List α) : d0 l lo hi st = (F (List.range l.length)).filterMap (l[·]?) := by
 have h1 := h ((List.range l.length).map fun (i : Nat) => Value.int i 0)
 have h2 : d0 (List.range l.length) lo hi st = (F (List.range l.length)).filterMap ((List.range l.length)[·]?) := by
  rw [ib] at h1
  have inj : ∀ {a b : List Nat}, a.map (fun (i : Nat) => Value.int (i : Int) 0) = b.map (fun (i : Nat) => Value.int (i : Int) 0) -> a = b := fun {a b} e => by
   have := congrArg (List.map fun v => match v with | Value.int i _ => i.toNat | _ => 0) e
   simpa [List.map_map, Function.comp_def] using this
  apply inj
  rw [h1]
  simp only [List.length_map, List.length_range]
  generalize F (List.range l.length) = idx
  induction idx with
  | nil => rfl
  | cons i r ih =>
   rw [List.filterMap_cons, List.filterMap_cons, List.getElem?_map]
   cases (List.range l.length)[i]? with
   | none => exact ih
   | some x => exact congrArg (Value.int (x : Int) 0 :: ·) ih
 match l, h2 with
 | [], _ =>
  have : ∀ idx : List Nat, idx.filterMap (([] : List α)[·]?) = [] := fun idx => by
   induction idx with
   | nil => rfl
   | cons i r ih => simp
  unfold d0
  rw [this, this]
 | d :: l', h2 =>
  have e : (d :: l') = (List.range (d :: l').length).map fun i => ((d :: l')[i]?).getD d := by
   refine List.ext_getElem (by simp) fun i h1 h2 => ?_
   simp [List.getElem?_eq_getElem h1]
  have key : d0 (d :: l') lo hi st = (d0 (List.range (d :: l').length) lo hi st).map fun i => ((d :: l')[i]?).getD d := by rw [<- ib, <- e]
  rw [key, h2]
  generalize F (List.range (d :: l').length) = idx
  induction idx with
  | nil => rfl
  | cons i r ih =>
   rw [List.filterMap_cons, List.filterMap_cons]
   by_cases q : i < (d :: l').length
   ·rw [List.getElem?_range q, List.getElem?_eq_getElem q]
    simp only [List.map_cons]
    rw [ih, List.getElem?_eq_getElem q]; rfl
   ·rw [List.getElem?_eq_none (by simpa using q), List.getElem?_eq_none (by lia)]
    exact ih
theorem ja {α : Type} (l : List α) : (List.range l.length).filterMap (l[·]?) = l := by
 have : (List.range l.length).filterMap (l[·]?) = l := by
  induction l with
  | nil => rfl
  | cons x l ih =>
   rw [List.length_cons, List.range_succ_eq_map, List.filterMap_cons]
   simp only [List.getElem?_cons_zero, List.filterMap_map, Function.comp_def]
   rw [show (fun x_1 => (x :: l)[Nat.succ x_1]?) = (fun i => l[i]?) from funext fun i => by simp]
   rw [ih]
 exact this
theorem rp {α β : Type} {f g : α -> Option β} : ∀ {l : List α}, (∀ x ∈ l, f x = g x) -> l.filterMap f = l.filterMap g
 | [], _ => rfl
 | x :: l, h => by
  rw [List.filterMap_cons, List.filterMap_cons, h x List.mem_cons_self, rp fun y hy => h y (List.mem_cons_of_mem _ hy)]
theorem jm {α : Type} (l : List α) (b : Nat) : ((List.range l.length).take b).filterMap (l[·]?) = l.take b := by
 have e : (List.range l.length).take b = List.range (min b l.length) := by rw [List.take_range]
 rw [e]
 have : (List.range (min b l.length)).filterMap (l[·]?) = (List.range (l.take b).length).filterMap ((l.take b)[·]?) := by
  rw [List.length_take]
  refine rp fun i hi => ?_
  have : i < b := by have := List.mem_range.mp hi; lia
  rw [List.getElem?_take_of_lt this]
 rw [this, ja]
theorem mj {α : Type} (l : List α) (b : Nat) : ((List.range l.length).drop b).filterMap (l[·]?) = l.drop b := by
 have h := ja l
 have h2 : (List.range l.length) = (List.range l.length).take b ++ (List.range l.length).drop b := (List.take_append_drop b _).symm
 rw [h2, List.filterMap_append, jm] at h
 have h3 : l = l.take b ++ l.drop b := (List.take_append_drop b l).symm
 have h4 := h.trans h3
 exact List.append_cancel_left h4
theorem po {α : Type} (l : List α) (b : Nat) : d0 l none (some (b : Int)) none = l.take b := by
 rw [nh (F := fun r => r.take b) (fun vs => by rw [mq, slicePick_upto', jm]) l, jm]
theorem Ej {α : Type} (l : List α) (b : Nat) : d0 l (some (b : Int)) none none = l.drop b := by
 rw [nh (F := fun r => r.drop b) (fun vs => by rw [mq, slicePick_from', mj]) l, mj]
theorem H5 {α : Type} (l : List α) (lo hi st : Option Int) : (d0 l lo hi st).length <= l.length := by
 have h := ib (fun _ => Value.none) l lo hi st
 have h2 := slicePick_size_le (l.map fun _ => Value.none).toArray lo hi st
 rw [mq] at h
 have h3 := congrArg List.length h
 rw [Array.length_toList, List.length_map] at h3
 rw [h3] at h2
 simpa using h2
end Mine
end
section
open PySem PySem.Calls PyProof.Rows PySem.W PySem.SeqAt PyProof.V
set_option maxRecDepth 100000
namespace Mine
structure cg (C : Cx) (k : Nat) (f : Value) (fd : FuncData) : Prop where
 at_ : zh C f fd (cq PySem.Challenge.pw_wb0027_01 k)
 scope : fd.scope = aq PySem.Challenge.pw_wb0027_01 k
 params : fd.params = fq PySem.Challenge.pw_wb0027_01 k
 dflt : fd.defaults = .none
 kwd : fd.kwdefaults = .none
theorem cg.bind {C : Cx} {k : Nat} {f : Value} {fd : FuncData} (B : cg C k f fd) {a : Args} {r : Sem (List (Str × Value))} (h : bindArgs { fd with params := fq PySem.Challenge.pw_wb0027_01 k, defaults := .none, kwdefaults := .none } a = r) : bindArgs fd a = r := by
 obtain ⟨name, qual, params, body, scope, globals, closure, defaults, kwdefaults, doc, pm, ann, code, ct, bi⟩ := fd
 obtain ⟨_, hs, hp, hd, hk⟩ := B
 cases hp; cases hd; cases hk
 exact h
theorem Bt {C : Cx} {f : Value} {fd : FuncData} (B : cg C 2 f fd) (v : Value) : bindArgs fd ⟨[v], []⟩ = (pure [(("flags" : Str), v)] : Sem (List (Str × Value))) := B.bind rfl
theorem Pt : ew (aq PySem.Challenge.pw_wb0027_01 2) := ⟨rfl, by decide +kernel, by decide +kernel⟩
noncomputable def zp (x : Int) : Prop := ∀ (y : Int) (ns : List Str), (ns ++ [g0 y] = cz x -> (g0 y).length <= 1000000)
theorem Hq {C : Cx} {f : Value} {fd : FuncData} (hl : ci C) (B : cg C 2 f fd) (g1 : ag C "range" (.type "range")) (dv : Value) (g2 : ag C "COMPILER_FLAG_NAMES" dv) (hd : je C dv fc) (g3 : ag C "hex" (.builtin "hex")) (x : Int) (hx : zp x) :
  et C (fun _ => none) C.P0 4 f [.d (.int x)] [] [] fun r => r = PyData.str (Txt.join ", " (cz x)) := by
 have hsc := B.scope
 refine x7 (bs := [(("flags" : Str), .d (.int x))]) B.at_ hl (by rw [hsc]; exact Pt) (by rw [hsc]; decide +kernel) (Jf (Bt B)) ?_
 intro A G A' hA
 rw [hsc]
 simp only [bu]
 refine af 0 rfl rfl rfl ?_
 intro E
 exact A2 (G := G.at E) _ _ hA g1 dv g2 hd g3 x hx _ rfl
end Mine
end
section
/- the table of a set: its places rise -/
open PySem
namespace Mine
noncomputable def we (t : SetTable) : Prop := t.place.toList.Pairwise (· < ·) /\ t.dummies = #[]
theorem wy {xs : Array Nat} {j : Nat} (hm : ∀ a b, a <= b -> xs.getD b j < j -> xs.getD a j < j) : ∀ (fuel lo hi : Nat), hi - lo <= fuel -> lo <= hi -> (∀ i, i < lo -> xs.getD i j < j) -> (∀ i, hi <= i -> ¬ xs.getD i j < j) →
  (∀ i, i < SetTable.below.go xs j fuel lo hi -> xs.getD i j < j) /\ (∀ i, SetTable.below.go xs j fuel lo hi <= i -> ¬ xs.getD i j < j)
 | 0, lo, hi, h1, h2, h3, h4 => by
  unfold SetTable.below.go
  exact ⟨h3, fun i hi' => h4 i (by omega)⟩
 | fuel + 1, lo, hi, h1, h2, h3, h4 => by
  unfold SetTable.below.go
  by_cases hlt : lo < hi
  ·rw [if_pos hlt]
   dsimp only
   by_cases hp : xs.getD ((lo + hi) / 2) j < j
   ·rw [if_pos hp]
    exact wy hm fuel _ _ (by omega) (by omega) (fun i hi' => hm i ((lo + hi) / 2) (by omega) hp) h4
   ·rw [if_neg hp]
    exact wy hm fuel _ _ (by omega) (by omega) h3 fun i hi' q => hp (hm _ i (by omega) q)
  ·rw [if_neg hlt]
   exact ⟨h3, fun i hi' => h4 i (by omega)⟩
theorem ij {xs : Array Nat} {i j : Nat} (h : i < xs.size) : xs.getD i j = xs.toList[i]'(by simpa using h) := by
 simp [Array.getD, h]
theorem vv {xs : Array Nat} {i j : Nat} (h : xs.size <= i) : xs.getD i j = j := by
 simp [Array.getD, Nat.not_lt.mpr h]
theorem G2 {xs : Array Nat} (h : xs.toList.Pairwise (· < ·)) (j : Nat) (a b : Nat) (hab : a <= b) (hb : xs.getD b j < j) : xs.getD a j < j := by
 by_cases hs : b < xs.size
 ·rw [ij hs] at hb
  rw [ij (by lia)]
  rcases Nat.lt_or_eq_of_le hab with q | rfl
  ·have := List.pairwise_iff_getElem.mp h a b (by simp; lia) (by simp; lia) q
   lia
  ·exact hb
 ·rw [vv (by lia)] at hb; lia
theorem pe {xs : Array Nat} (h : xs.toList.Pairwise (· < ·)) (j : Nat) : (∀ i, i < SetTable.below xs j -> xs.getD i j < j) /\ (∀ i, SetTable.below xs j <= i -> ¬ xs.getD i j < j) := by
 unfold SetTable.below
 exact wy (G2 h j) _ _ _ (by lia) (by lia) (fun i h => by lia) fun i hi => by rw [vv hi]; lia
theorem Ed {xs : Array Nat} (h : xs.toList.Pairwise (· < ·)) {i : Nat} (hi : i < xs.size) : SetTable.below xs (xs.toList[i]'(by simpa using hi) + 1) = i + 1 := by
 obtain ⟨h1, h2⟩ := pe h (xs.toList[i]'(by simpa using hi) + 1)
 generalize SetTable.below xs (xs.toList[i]'(by simpa using hi) + 1) = r at h1 h2
 have a : ¬ r <= i := fun q => h2 i q (by rw [ij hi]; lia)
 have b : ¬ i + 1 < r := fun q => by
  have := h1 (i + 1) q
  by_cases hs : i + 1 < xs.size
  ·rw [ij hs] at this
   have := List.pairwise_iff_getElem.mp h i (i + 1) (by simp; lia) (by simp; lia) (by lia)
   lia
  ·rw [vv (by lia)] at this; lia
 lia
theorem El {xs : Array Nat} (h : xs.toList.Pairwise (· < ·)) : SetTable.below xs 0 = 0 := by
 obtain ⟨h1, h2⟩ := pe h 0
 cases q : SetTable.below xs 0 with
 | zero => rfl
 | succ n => have := h1 0 (by lia); lia
theorem Bx {xs : Array Nat} (h : xs.toList.Pairwise (· < ·)) {j : Nat} (hj : xs[SetTable.below xs j]? ≠ some j) : (SetTable.insertAt xs (SetTable.below xs j) j).toList.Pairwise (· < ·) := by
 obtain ⟨h1, h2⟩ := pe h j
 rw [SetTable.toList_insertAt]
 generalize hr : SetTable.below xs j = r at *
 have hlt : ∀ x ∈ xs.toList.take r, x < j := fun x hx => by
  obtain ⟨i, hi, rfl⟩ := List.getElem_of_mem hx
  simp only [List.length_take] at hi
  have := h1 i (by lia)
  rw [ij (by have : xs.toList.length = xs.size := Array.length_toList; lia)] at this
  simpa using this
 have hgt : ∀ x ∈ xs.toList.drop r, j < x := fun x hx => by
  obtain ⟨i, hi, rfl⟩ := List.getElem_of_mem hx
  simp only [List.length_drop, Array.length_toList] at hi
  have hs : r + i < xs.size := by lia
  have h3 := h2 (r + i) (by lia)
  rw [ij hs] at h3
  have h4 : xs.toList[r + i] ≠ j := fun q => by
   rcases Nat.eq_zero_or_pos i with rfl | hi0
   ·apply hj
    rw [Array.getElem?_eq_getElem (by lia)]
    simpa using q
   ·have h5 := h2 r (by lia)
    rw [ij (by lia)] at h5
    have := List.pairwise_iff_getElem.mp h r (r + i) (by simp; lia) (by simp; lia) (by lia)
    lia
  rw [List.getElem_drop]
  lia
 have e : ∀ (a b : List Nat), a.Pairwise (· < ·) -> b.Pairwise (· < ·) -> (∀ x ∈ a, x < j) -> (∀ x ∈ b, j < x) -> (a ++ j :: b).Pairwise (· < ·) := by
  intro a b ha hb hla hlb
  rw [List.pairwise_append]
  refine ⟨ha, List.pairwise_cons.mpr ⟨hlb, hb⟩, fun x hx y hy => ?_⟩
  rcases List.mem_cons.mp hy with rfl | hy
  ·exact hla x hx
  ·have := hla x hx; have := hlb y hy; lia
 have := e _ _ (h.sublist (List.take_sublist r _)) (h.sublist (List.drop_sublist r _)) hlt hgt
 simpa using this
theorem Eg {t : SetTable} {j : Nat} (h : t.slot j = .empty) : t.place[SetTable.below t.place j]? ≠ some j := by
 intro q
 unfold SetTable.slot at h
 simp [q] at h
theorem Eo {t : SetTable} {j : Nat} (hd : t.dummies = #[]) : t.slot j ≠ .dummy := by
 intro h
 unfold SetTable.slot at h
 dsimp only at h
 split at h
 ·cases h
 ·rw [hd] at h
  simp [SetTable.has] at h
theorem B9 {t : SetTable} {h h' : Int} (hd : t.dummies = #[]) : ∀ (fuel : Nat) (p : SetTable.Probe) (j : Nat) (d : Option Nat), p.dummy = none -> SetTable.probe.go t (fun _ => h') h fuel p = some (.empty j d) -> d = none /\ t.slot j = .empty
 | 0, _, _, _, _, e => by unfold SetTable.probe.go at e; cases e
 | fuel + 1, p, j, d, hp, e => by
  have hadv : (t.advance p).dummy = none := by
   unfold SetTable.advance
   split <;> simpa using hp
  unfold SetTable.probe.go at e
  split at e
  ·rename_i hs; simp only [Option.some.injEq, SetTable.Met.empty.injEq] at e; obtain ⟨rfl, rfl⟩ := e; exact ⟨hp, hs⟩
  ·rename_i hs; exact (Eo hd hs).elim
  ·split at e
   ·simp at e
   ·exact B9 hd fuel _ j d hadv e
theorem vt {t : SetTable} {h : Int} {j : Nat} {b : Bool} (hd : t.dummies = #[]) (e : t.freeSlot h = some (j, b)) : t.slot j = .empty /\ b = false := by
 unfold SetTable.freeSlot at e
 split at e
 ·rename_i j' d q
  unfold SetTable.probe at q
  obtain ⟨rfl, hs⟩ := B9 hd _ _ _ _ rfl q
  simp at e
  obtain ⟨rfl, rfl⟩ := e
  exact ⟨hs, rfl⟩
 ·cases e
theorem Dm (n : Nat) : (Array.range n).toList.Pairwise (· < ·) := by
 rw [Array.toList_range]; exact List.pairwise_lt_range
theorem j8 (t : SetTable) (n : Nat) : we (t.standIn n) /\ (t.standIn n).led = t.led := ⟨⟨Dm n, rfl⟩, rfl⟩
theorem Lk {t : SetTable} (h : we t) {j : Nat} (hs : t.slot j = .empty) : we (t.put j).1 /\ (t.put j).1.led = t.led := by
 refine ⟨⟨Bx h.1 (Eg hs), ?_⟩, rfl⟩
 refine (?_ : (if SetTable.has t.dummies j then _ else t.dummies) = #[])
 rw [h.2]; simp [SetTable.has]
theorem Dt {t : SetTable} (ht : we t) (es : Array (Int × Value)) (h : Int) (x : Value) : we (layNew t es h x).2.1 /\ (layNew t es h x).2.1.led = t.led := by
 unfold layNew
 split
 ·rename_i j b e
  obtain ⟨hs, _⟩ := vt ht.2 e
  have hp := Lk ht hs
  dsimp only
  refine (?_ : we ((t.put j).1.orStandIn _) /\ _)
  unfold SetTable.orStandIn
  split
  ·exact hp
  ·have := j8 (t.put j).1 (SetTable.insertAt es (t.put j).2 (h, x)).size
   exact ⟨this.1, this.2.trans hp.2⟩
 ·exact j8 t _
theorem y4 {t : SetTable} (ht : we t) (es : Array (Int × Value)) (wanted : Nat) : we (relayAll t es wanted).2.1 /\ (relayAll t es wanted).2.1.led = t.led := by
 unfold relayAll
 split
 ·rename_i t' order e
  dsimp only
  split
  ·unfold SetTable.relaid SetTable.laid at e
   obtain ⟨owner, _, e⟩ := Option.bind_eq_some_iff.mp e
   simp only [Option.pure_def, Option.some.injEq, Prod.mk.injEq] at e
   obtain ⟨rfl, _⟩ := e
   refine ⟨⟨?_, rfl⟩, rfl⟩
   refine (?_ : (List.map (fun (x : Nat × Nat) => x.1) (List.filterMap (fun j => Option.map (fun x => (j, x)) (owner.getD j none)) (List.range (SetTable.sizeAbove wanted - 1 + 1)))).Pairwise (· < ·))
   rw [List.pairwise_map, List.pairwise_filterMap]
   refine List.pairwise_lt_range.imp fun {a b} hab x hx y hy => ?_
   simp only [Option.map_eq_some_iff] at hx hy
   obtain ⟨u, _, rfl⟩ := hx
   obtain ⟨v, _, rfl⟩ := hy
   exact hab
  ·exact j8 t _
 ·exact j8 t _
end Mine
end
section
/- sets of whole numbers: made, and grown -/
open PySem PySem.Calls PyProof.Rows PySem.W
namespace Mine
noncomputable def yq : Value -> Int
 | .int k _ => k
 | _ => 0
noncomputable def ByT (w : World) : Bool := w.params.followText "set-order"
structure di (w : World) (S : Int -> Bool) (n : Nat) (es : Array (Int × Value)) (t : SetTable) : Prop where
 whole : ∀ e ∈ es.toList, ∃ k tk, e = (hashInt k, .int k tk)
 nd : (es.toList.map fun e => yq e.2).Nodup
 mem : ∀ k, S k = true ↔ k ∈ es.toList.map fun e => yq e.2
 size : es.size = n
 few : n < 64
 fits : t.fits es.size = true
 inv : we t
 led : t.led = !ByT w
inductive ce (w : World) (S : Int -> Bool) (n : Nat) (o : Obj) : Prop
 | mk (es : Array (Int × Value)) (ep : Nat) (t : SetTable) (ho : o = { cls := .type "set", dict := none, data := .set es ep t }) (h : di w S n es t)
section
variable {prog : Program} {w : World} {A : Around} {E : Value -> Shared -> Prop} {s : Shared} {S : Int -> Bool} {n : Nat} {es : Array (Int × Value)} {t : SetTable} {a : Addr}
theorem He {k : Int} {v : Value} (h : Value.isInt k v = true) : yq v = k := by obtain ⟨t, rfl⟩ := Value.isInt_shape h; rfl
theorem di.elems (h : di w S n es t) : ElemsOf (intKind prog w) es.toList := fun e he => by
 refine byC fun hC1 => ?_
 obtain ⟨k, tk, rfl⟩ := h.whole e he
 refine hC1 ?_
 exact ⟨⟨k, by simp [intKind, Value.isInt], rfl⟩, rfl⟩
theorem di.has (h : di w S n es t) (k : Int) : S k = true ↔ ∃ e ∈ es.toList, (intKind prog w).is k e.2 = true := by
 rw [h.mem k, List.mem_map]
 constructor
 ·rintro ⟨e, he, rfl⟩
  obtain ⟨k, tk, rfl⟩ := h.whole e he
  exact ⟨_, he, by simp [intKind, Value.isInt, yq]⟩
 ·rintro ⟨e, he, q⟩
  exact ⟨e, he, He q⟩
theorem di.perm {es' : Array (Int × Value)} {t' : SetTable} (h : di w S n es t) (p : List.Perm es'.toList es.toList) (hf : t'.fits es'.size = true) (hi : we t') (hl : t'.led = t.led) : di w S n es' t' where
 whole e he := h.whole e (p.mem_iff.mp he)
 nd := (p.map _).nodup_iff.mpr h.nd
 mem k := (h.mem k).trans ((p.map _).mem_iff.symm)
 size := by rw [<- Array.length_toList, p.length_eq, Array.length_toList]; exact h.size
 few := h.few
 fits := hf
 inv := hi
 led := hl.trans h.led
theorem di.push {es' : Array (Int × Value)} {t' : SetTable} {k : Int} {tk : Tok} (h : di w S n es t) (hk : S k = false) (hz : n + 1 < 64) (p : List.Perm es'.toList (es.toList ++ [(hashInt k, .int k tk)])) (hf : t'.fits es'.size = true) (hi : we t') (hl : t'.led = t.led) :
  di w (fun k' => S k' || decide (k' = k)) (n + 1) es' t' where
 whole e he := by
  rcases List.mem_append.mp (p.mem_iff.mp he) with he | he
  ·exact h.whole e he
  ·cases List.mem_singleton.mp he; exact ⟨k, tk, rfl⟩
 nd := by
  rw [(p.map _).nodup_iff, List.map_append, List.nodup_append]
  refine ⟨h.nd, List.nodup_cons.mpr ⟨List.not_mem_nil, List.nodup_nil⟩, fun x hx y hy q => ?_⟩
  cases List.mem_singleton.mp hy
  have := (h.mem x).mpr hx
  rw [q] at this
  exact Bool.noConfusion (hk.symm.trans this)
 mem k' := by
  rw [(p.map _).mem_iff, List.map_append, List.mem_append, <- h.mem k', Bool.or_eq_true, decide_eq_true_eq]
  exact or_congr Iff.rfl List.mem_singleton.symm
 size := by rw [<- Array.length_toList, p.length_eq, List.length_append, Array.length_toList, h.size]; rfl
 few := hz
 fits := hf
 inv := hi
 led := hl.trans h.led
theorem di.same {k : Int} (h : di w S n es t) (hk : S k = true) : di w (fun k' => S k' || decide (k' = k)) n es t :=
 { h with mem := fun k' => by rw [Bool.or_eq_true, decide_eq_true_eq, <- h.mem k']; exact ⟨fun q => q.elim id fun e => e ▸ hk, .inl⟩ }
theorem oo {o : Obj} {ep : Nat} {es' : Array (Int × Value)} {t' : SetTable} {Q : Unit -> Shared -> Prop} (ho : s.heap.get? a = some o) (e : o = { cls := .type "set", dict := none, data := .set es ep t }) (hz : es'.size < 64)
  (h : ∀ h', Heap.SameBut a s.heap h' -> h'.get? a = some { cls := .type "set", dict := none, data := .set es' (ep + 1) t' } -> Q () { s with heap := h' }) : wpAny (model prog w) A (storeSet a es' t') Q E s := by
 subst e
 refine wpAny_storeSet_of ho rfl ?_ (fits_of_scanBound (Nat.lt_of_lt_of_le hz (by decide)))
 refine h _ (Heap.SameBut.update s.heap a (Obj.putSet es' t')) ?_
 have := Heap.get?_update_self (Obj.putSet es' t') ho (by rw [putSet_of es' t' rfl]; rfl)
 rw [putSet_of es' t' rfl] at this; exact this
theorem wx {o : Obj} {k : Int} {tk : Tok} {Q : Bool -> Shared -> Prop} (ho : s.heap.get? a = some o) (hI : ce w S n o) (hz : n + 1 < 64)
  (h : ∀ h' o', Heap.SameBut a s.heap h' -> h'.get? a = some o' -> ce w (fun k' => S k' || decide (k' = k)) (if S k then n else n + 1) o' -> Q (!S k) { s with heap := h' }) :
  wpAny (model prog w) A (setAddHashed a (.int k tk) (hashInt k)) Q E s := by
 obtain ⟨es, ep, t, e, x⟩ := hI
 have hkey : (intKind prog w).is k (.int k tk) = true := by simp [intKind, Value.isInt]
 have hel : ElemsOf (intKind prog w) es.toList := x.elems
 have hb : es.size < scanBound := Nat.lt_of_lt_of_le (x.size ▸ x.few) (by decide)
 have hd : o.data = .set es ep t := by rw [e]
 unfold setAddHashed setAddHashedIn
 refine wpAny_holding (wpAny_bind (wpAny_setState_of ho hd x.fits ?_))
 dsimp only
 rw [byScan_of rfl hb hel]
 simp only [↓reduceIte]
 unfold setAddByScan
 refine wpAny_bind ?_
 refine wpAny_bind (wpAny_rule ?_)
 refine wpAny_bind (wpAny_setScan_of (knd := intKind prog w) hkey ho hd x.fits hel ?_)
 cases hr : List.findIdx? (fun e => (intKind prog w).is k e.2) es.toList with
 | some j =>
  dsimp only
  obtain ⟨hj, hpj, _⟩ := List.findIdx?_eq_some_iff_getElem.mp hr
  have hSk : S k = true := (x.has (prog := prog) k).mpr ⟨es.toList[j], List.getElem_mem hj, hpj⟩
  refine wpAny_pure (wpAny_pure ?_)
  have := h s.heap o (Heap.SameBut.refl a s.heap) ho ⟨es, ep, t, e, by rw [hSk]; exact x.same hSk⟩
  rw [hSk] at this
  have e2 : s = { s with heap := s.heap } := by cases s; rfl
  rw [e2]; exact this
 | none =>
  dsimp only
  have hSk : S k = false := by
   cases hk : S k with
   | false => rfl
   | true => obtain ⟨e, he, hp⟩ := (x.has (prog := prog) k).mp hk; have := List.findIdx?_eq_none_iff.mp hr e he; rw [hp] at this; exact Bool.noConfusion this
  have hgw : ∀ (b : Bool) {s₁ : Shared} {Q' : Unit -> Shared -> Prop}, Q' () s₁ -> wpAny (model prog w) A (match b with | true => rule "set.scan.the-table-gave-way" | false => pure ()) Q' E s₁ :=
   fun b s₁ Q' hq => by cases b <;> first | exact wpAny_pure hq | exact wpAny_rule hq
  have hperm := layNew_perm t es (hashInt k) (.int k tk)
  have hfits := layNew_fits t es (hashInt k) (.int k tk)
  have hinv := Dt x.inv es (hashInt k) (.int k tk)
  generalize layNew t es (hashInt k) (.int k tk) = L at hperm hfits hinv ⊢
  obtain ⟨es1, t1, wasDummy, gave⟩ := L
  dsimp only at hperm hfits hinv ⊢
  rw [Array.toList_push] at hperm
  have x1 : di w (fun k' => S k' || decide (k' = k)) (n + 1) es1 t1 := x.push hSk hz hperm hfits hinv.1 hinv.2
  have hend : ∀ h' o', Heap.SameBut a s.heap h' -> h'.get? a = some o' -> ce w (fun k' => S k' || decide (k' = k)) (n + 1) o' -> Q true { s with heap := h' } := by
   intro h' o' hsb ho' hI'; have := h h' o' hsb ho'; rw [hSk] at this; exact this hI'
  refine wpAny_bind (hgw _ ?_)
  have tail : ∀ t2 : SetTable, di w (fun k' => S k' || decide (k' = k)) (n + 1) es1 t2 -> wpAny (model prog w) A (do
    storeSet a es1 t2
    if (!wasDummy && t2.tooFull) = true then do
      (match (relayAll t2 es1 (SetTable.grown es1.size)).2.2 with | true => rule "set.scan.the-table-gave-way" | false => pure ())
      storeSet a (relayAll t2 es1 (SetTable.grown es1.size)).1 (relayAll t2 es1 (SetTable.grown es1.size)).2.1
      pure (some true)
     else pure (some true)) (fun r s' => ∃ h' o', r = some true /\ s' = { s with heap := h' } /\ Heap.SameBut a s.heap h' /\ h'.get? a = some o' /\ ce w (fun k' => S k' || decide (k' = k)) (n + 1) o') E s := by
   intro t2 x2
   refine wpAny_bind (oo ho e (by rw [x2.size]; exact x2.few) fun h1 hsb1 ho1 => ?_)
   split
   ·have hp := relayAll_perm t2 es1 (SetTable.grown es1.size)
    have hfr := relayAll_fits t2 es1 (SetTable.grown es1.size)
    have hin := y4 x2.inv es1 (SetTable.grown es1.size)
    have x3 := x2.perm hp hfr hin.1 hin.2
    refine wpAny_bind (hgw _ ?_)
    refine wpAny_bind (oo (s := { s with heap := h1 }) ho1 rfl (by rw [x3.size]; exact x3.few) fun h2 hsb2 ho2 => ?_)
    exact wpAny_pure ⟨h2, _, rfl, rfl, hsb1.trans hsb2, ho2, ⟨_, _, _, rfl, x3⟩⟩
   ·exact wpAny_pure ⟨h1, _, rfl, rfl, hsb1, ho1, ⟨_, _, _, rfl, x2⟩⟩
  have xoff : di w (fun k' => S k' || decide (k' = k)) (n + 1) es1 { t1 with plain := false } := ⟨x1.whole, x1.nd, x1.mem, x1.size, x1.few, SetTable.fits_plain_off x1.fits, x1.inv, x1.led⟩
  split
  ·refine wpAny_bind ?_
   rw [hashByValue_scannable 8 rfl]
   refine wpAny_pure ?_
   refine wpAny_mono (tail _ ?_) (fun r s' ⟨h', o', hr, hs, hsb, ho', hI'⟩ => by subst hr; subst hs; exact wpAny_pure (hend h' o' hsb ho' hI')) fun _ _ z => z
   split
   ·exact x1
   ·exact xoff
  ·refine wpAny_bind (wpAny_pure ?_)
   simp only [↓reduceIte]
   exact wpAny_mono (tail _ x1) (fun r s' ⟨h', o', hr, hs, hsb, ho', hI'⟩ => by subst hr; subst hs; exact wpAny_pure (hend h' o' hsb ho' hI')) fun _ _ z => z
theorem xq {o : Obj} {k : Int} {tk : Tok} {Q : Value -> Shared -> Prop} (ho : s.heap.get? a = some o) (hI : ce w S n o) (hz : n + 1 < 64)
  (h : ∀ h' o', Heap.SameBut a s.heap h' -> h'.get? a = some o' -> ce w (fun k' => S k' || decide (k' = k)) (if S k then n else n + 1) o' -> Q .none { s with heap := h', toks := s.toks + 1 }) :
  wpAny (model prog w) A (call (.builtin "set.add") [.ref a, .int k tk]) Q E s := by
 have hT : s.TypeIs (.ref a) "set" := by obtain ⟨es, ep, t, e, x⟩ := hI; exact ⟨o, ho, by rw [e]⟩
 have hkey : (intKind prog w).is k (.int k tk) = true := by simp [intKind, Value.isInt]
 refine wpAny_call_entry F.slot_set_add hT F.entry_set_add ?_ (F.args_set_add_2 _ _)
 unfold Builtin.«set.add» Builtin.Frozenset.oneOther
 simp only [List.isEmpty_nil, bind_assoc]
 unfold Builtin.Frozenset.addrOf setAdd
 refine wpAny_bind (wpAny_pure ?_)
 try dsimp only
 refine wpAny_bind (wpAny_pure ?_)
 try dsimp only
 refine wpAny_bind ?_
 refine wpAny_holding ?_
 refine wpAny_bind ((intKind prog w).pyHash hkey ?_)
 refine wx (s := { s with toks := s.toks + 1 }) ho hI hz fun h' o' hsb ho' hI' => ?_
 show wpAny _ _ (ret Value.none) _ _ _
 exact wpAny_pure ⟨_, rfl, h h' o' hsb ho' hI'⟩
theorem Cq {Q : Value -> Shared -> Prop} (h : ∀ o, ce w (fun _ => false) 0 o -> Q (.ref s.heap.objs.size) { s with heap := s.heap.push o }) : wpAny (model prog w) A (newSet (.type "set")) Q E s := by
 unfold newSet setsByText
 refine wpAny_bind (wpAny_bind (wpAny_askSetting (wpAny_pure ?_)))
 dsimp only
 simp only [newObj]
 exact wpAny_bind (wpAny_alloc (wpAny_pure (h _ ⟨#[], 0, _, rfl, ⟨fun e he => by simp at he, by simp, fun k => by simp, rfl, by decide, by rfl, ⟨by simp [SetTable.fresh], rfl⟩, rfl⟩⟩)))
end
end Mine
end
section
/- set comprehensions of whole numbers -/
open PySem PySem.Calls PyProof.Rows PySem.W PySem.SeqAt PyProof.V
namespace Mine
theorem z3 (elt target iter : Expr) (ifs : List Expr) (scope : Scope) (pos : Pos) (it acc : Value) (env : Env) :
  compTurn (.SetComp elt [⟨target, iter, ifs, 0⟩] scope pos) 0 it acc env = (do
   standAt iter.pos
   match ← pyNext it with
   | none => pure (.done .next)
   | some v =>
    letOwnedTupleGo target it v
    assign target env v
    let mut ok := true
    for c in ifs do
     if ok then ok ← isTrue c env (eval c env)
    if ok then
     (do let v ← eval elt env; standAt elt.pos; let _ ← call (.builtin "set.add") [acc, v])
    again (.compLoop (.SetComp elt [⟨target, iter, ifs, 0⟩] scope pos) 0 it acc env)) := by rfl
theorem xz {prog : Program} {w : World} {A : Around} {elt target iter : Expr} {ifs : List Expr} {scope : Scope} {pos : Pos} : wr prog w A (.SetComp elt [⟨target, iter, ifs, 0⟩] scope pos) elt target ifs "set.add" := by
 intro R s it acc env I turn n h
 refine codeAny_loop rfl I (fun n s hI => ?_) n h
 refine (?_ : wpAny _ A ((compTurn (.SetComp elt [⟨target, iter, ifs, 0⟩] scope pos) 0 it acc env).onRaise (fun x => do noteFrame x env; theTreesLotGoes x)) _ _ s)
 refine wpAny_noted ?_
 rw [z3]
 refine wpAny_bind (wpAny_standAt (wpAny_bind (wpAny_mono (turn n s hI) (fun r s₁ h₁ => ?_) fun _ _ h' => h')))
 cases r with
 | none => exact wpAny_pure h₁
 | some v =>
  refine wpAny_bind (wpAny_mono h₁ (fun _ s₁' h₁' => ?_) fun _ _ h' => h')
  refine wpAny_bind (wpAny_mono h₁' (fun _ s₂ h₂ => wpAny_bind (wpAny_mono h₂ (fun ok s₃ h₃ => ?_) fun _ _ h' => h')) fun _ _ h' => h')
  cases ok with
  | false => exact wpAny_pure ⟨rfl, h₃⟩
  | true =>
   exact wpAny_bind (wpAny_bind (wpAny_mono h₃ (fun x s₄ h₄ => wpAny_bind (wpAny_standAt (wpAny_bind (wpAny_mono h₄ (fun _ s₅ h₅ => wpAny_pure (wpAny_pure ⟨rfl, h₅⟩)) fun _ _ h' => h')))) fun _ _ h' => h'))
theorem ma {prog : Program} {w : World} {A : Around} {R : Result -> Shared -> Prop} {s : Shared} {elt target iter ifs rest scope pos it acc env}
  (h0 : codeAny (model prog w) A (.compLoop (.SetComp elt (⟨target, iter, ifs, 0⟩ :: rest) scope pos) 0 it acc env) R s)
  (h : wpAny (model prog w) A (pyIter it) (fun it' s' => codeAny (model prog w) A (.compLoop (.SetComp elt (⟨target, iter, ifs, 0⟩ :: rest) scope pos) 0 it' acc env) R s')
   (notedBy (model prog w) A env fun x s' => R (.error x) s') s) :
  codeAny (model prog w) A (.compStart (.SetComp elt (⟨target, iter, ifs, 0⟩ :: rest) scope pos) 0 it acc env) R s := by
 refine codeAny_of_tree ?_
 refine (?_ : wpAny _ _ ((compStart (.SetComp elt (⟨target, iter, ifs, 0⟩ :: rest) scope pos) 0 it acc env).onRaise (fun x => do noteFrame x env; standAt theWindowsPlace)) _ _ s)
 refine wpAny_notedAt ?_
 unfold compStart
 refine (?_ : wpAny _ _ (ask >>= _) _ _ s)
 refine wpAny_bind (wpAny_askSetting (wpAny_ite ?_))
 split
 ·first
   | exact wpAny_bind (wpAny_pure (wpAny_pure (And.intro rfl h0)))
   | exact wpAny_pure (And.intro rfl h0)
 ·first
   | exact wpAny_bind (wpAny_rule (wpAny_bind (wpAny_standAt (wpAny_bind (wpAny_mono h (fun it' s' h' => wpAny_pure (And.intro rfl h')) fun _ _ x => x)))))
   | (refine wpAny_bind (wpAny_rule ?_); show wpAny _ _ (standAt iter.pos >>= _) _ _ s; exact wpAny_bind (wpAny_standAt (wpAny_bind (wpAny_mono h (fun it' s' h' => wpAny_pure (And.intro rfl h')) fun _ _ x => x))))
theorem ce.live {w : World} {S : Int -> Bool} {n : Nat} {o : Obj} (h : ce w S n o) : o.isFreed = false := by
 obtain ⟨_, _, _, e, _⟩ := h
 rw [e]; rfl
section
variable {C : Cx} {A : Around} {G : Gd} {ae : a9} {st : List ac}
theorem Gy {i n : Nat} {S : Int -> Bool} {k : Int} {Q : AV -> List ac -> Prop} (hi : st[i]? = some (.raw (ce C.w S n))) (hz : n + 1 < 64) (q : Q (.d .none) (st.set i (.raw (ce C.w (fun k' => S k' || decide (k' = k)) (if S k then n else n + 1))))) :
  wBi C A G st (.builtin "set.add") [.obj i, .d (.int k)] Q := fun κ σ s vs X ⟨hl, hr⟩ => by
 refine byC fun hC1 => ?_
 obtain ⟨v, u, rfl⟩ : ∃ v u, vs = [v, u] := wo hl
 obtain ⟨v', e1, ⟨b, hb, rfl⟩⟩ := hr 0 _ rfl
 obtain ⟨u', e2, ⟨tk, rfl⟩⟩ := hr 1 _ rfl
 simp at e1 e2
 subst e1; subst e2
 obtain ⟨b', o, hb', _, _, ho, hI⟩ := X.get hi trivial
 refine hC1 ?_
 cases hb.symm.trans hb'
 refine xq ho hI hz fun h' o' hsb ho' hI' => ?_
 exact PA.none (X.upd (s' := { s with heap := h', toks := s.toks + 1 }) (y := .raw (ce C.w (fun k' => S k' || decide (k' = k)) (if S k then n else n + 1))) hi trivial hb (fun b o hbne e => (hsb.2 b hbne).trans e) ho' rfl rfl hI' trivial) q
inductive vq (w : World) (J : Nat -> List ac -> Prop) (st2 : List ac) (k : Nat) (a : AV) (st5 : List ac) : Prop
 | mk (S : Int -> Bool) (n : Nat) (x : Int) (ha : a = .d (.int x)) (tl' : List ac) (hl : st5[st2.length]? = some (.raw (ce w S n))) (hsz : n + 1 < 64) (hsub : Sub (st2.length + tl'.length) (st5.set st2.length (.raw (ce w (fun k' => S k' || decide (k' = x)) (if S x then n else n + 1)))) (st2 ++ tl')) (hj : J (k + 1) tl')
theorem C6 {elt target iter : Expr} {ifs : List Expr} {scope : Scope} {pos fpos : Pos} {ca : List (Str × Nat)} {Qf : Kp -> List Addr -> Value -> Shared -> Prop} {its : List D} {st2 : List ac}
  (hnf : ef ae.scope = true) (ok : ew scope) (hca : ll ae.cells scope.names [] = some ca) (hcn : ((cellsFrom (st2.length + 2) scope.names ca).map (·.1)).Nodup)
  (hs : ∀ env x, foldedSetIterable iter env x = pure x) (hiter : wEI C A G ae target st iter fun its' st2' => its' = its /\ st2' = st2)
  (J : Nat -> List ac -> Prop) (hJ : ∀ k tl, J k tl -> 2 + ar scope.names <= tl.length /\ ∃ N V, tl[1]? = some (.ns N V))
  (h0 : J 0 (.raw (ce C.w (fun _ => false) 0) :: .ns (scope.names.map (·.1)) (List.replicate scope.names.length none) :: List.replicate (ar scope.names) (.cell none)))
  (turn : ∀ φ' E' env' k x tl, env'.frame = G.env.frame -> its[k]? = some x -> J k tl -> sb C A ⟨φ', G.κ₀, env', E'⟩ (bg ae scope st2.length ca) (st2 ++ tl) target (.d x) fun st3 => w8 C A ⟨φ', G.κ₀, env', E'⟩ (bg ae scope st2.length ca) st3 ifs fun ok st4 =>
   if ok then wE C A ⟨φ', G.κ₀, env', E'⟩ (bg ae scope st2.length ca) st4 elt (vq C.w J st2 k)
   else dt J st2 k st4)
  (fin : ∀ κ σ σ2 κ' σ' tl s' acc Ca m, cy ae σ G.env -> σ <+: σ2 -> σ2.length = st2.length -> σ2 <+: σ' -> Kle κ κ' -> J its.length tl -> Rel C G.φ G.κ₀ κ' σ' (st2 ++ tl) s' -> σ'[st2.length]? = some acc -> σ'[st2.length + 1]? = some Ca -> s'.heap.Ns Ca m →
   compPost (model C.prog C.w) A G.E none (Qf κ σ) (.ref acc) Ca (.ok .next) s') :
  ∀ κ σ s, cy ae σ G.env -> Rel C G.φ G.κ₀ κ σ st s -> wpAny (model C.prog C.w) A (comprehension (.SetComp elt [⟨target, iter, ifs, 0⟩] scope pos) scope G.env fpos (newSet (.type "set")) false (eval iter G.env) none) (Qf κ σ) G.E s := by
 refine vk (e := .SetComp elt [⟨target, iter, ifs, 0⟩] scope pos) (add := "set.add") (a0 := .raw (ce C.w (fun _ => false) 0)) (EP := vq C.w J st2) rfl xz (fun h1 h2 => ma h1 h2) (fun h => Cq fun o ho => h o ho.live fun _ _ => ho) trivial (fun G' st9 k a q => ?_) hnf ok hca hcn hs hiter hJ h0 turn fin
 refine byC fun hC1 => ?_
 obtain ⟨S, m, x, rfl, tl', hl, hsz, hsub, hj'⟩ := q
 refine hC1 ?_
 exact Gy hl hsz ⟨tl', hsub, hj'⟩
end
end Mine
end
section
open PySem PySem.Calls PyProof.Rows PySem.W PySem.SeqAt PyProof.V
namespace Mine
section
variable {C : Cx} {A : Around} {G : Gd} {ae : a9} {st : List ac}
noncomputable def wCh (C : Cx) (A : Around) (G : Gd) (ae : a9) (st : List ac) (pos : Pos) (a : AV) (ops : List CmpOp) (rs : List Expr) (Q : AV -> List ac -> Prop) : Prop :=
 ∀ κ σ s va, cy ae σ G.env -> Rel C G.φ G.κ₀ κ σ st s -> RV κ σ a va -> wpAny (model C.prog C.w) A (compareChain pos va ops (evalEach rs G.env)) (PA RV C G.φ G.κ₀ κ σ Q) G.E s
theorem Iu {l r1 r2 : Expr} {op1 op2 : CmpOp} {ops : List CmpOp} {rs : List Expr} {pos : Pos} {Q : AV -> List ac -> Prop} (hm : lastMarks (op1 :: op2 :: ops) (r1 :: r2 :: rs) = false)
  (h : wE C A G ae st l fun a st1 => wCh C A G ae st1 pos a (op1 :: op2 :: ops) (r1 :: r2 :: rs) Q) : wE C A G ae st (.Compare l (op1 :: op2 :: ops) (r1 :: r2 :: rs) pos) Q := fun κ σ s e X =>
 Compare_chain (wpAny_mono (h κ σ s e X) (fun va s1 z => z.go fun κ1 σ1 a st1 k1 p1 X1 r1 q1 => PA.wp k1 p1 (q1 κ1 σ1 s1 va (e.mono p1) X1 r1)) fun _ _ z => z) hm
theorem Ij {pos : Pos} {a : AV} {op : CmpOp} {r : Expr} {Q : AV -> List ac -> Prop} (h : wE C A G ae st r fun b st1 => jb C A G st1 op a b Q) : wCh C A G ae st pos a [op] [r] Q := fun κ σ s va e X ra =>
 chain_last (wpAny_mono (h κ σ s e X) (fun vb s1 z => z.go fun κ1 σ1 b st1 k1 p1 X1 rb q1 => PA.wp k1 p1 (q1 κ1 σ1 s1 va vb X1 (ra.mono k1 p1) rb)) fun _ _ z => z)
theorem Kn {pos : Pos} {a : AV} {op op' : CmpOp} {ops : List CmpOp} {r r' : Expr} {rs : List Expr} {Q : AV -> List ac -> Prop}
  (h : wE C A G ae st r fun b st1 => jb C A G st1 op a b fun c st2 => wTr C A G st2 c fun t st3 => if t then wCh C A G ae st3 pos b (op' :: ops) (r' :: rs) Q else Q c st3) : wCh C A G ae st pos a (op :: op' :: ops) (r :: r' :: rs) Q := fun κ σ s va e X ra =>
 chain_link (wpAny_mono (h κ σ s e X) (fun vb s1 z => z.go fun κ1 σ1 b st1 k1 p1 X1 rb q1 => wpAny_mono (q1 κ1 σ1 s1 va vb X1 (ra.mono k1 p1) rb) (fun vc s2 z => z.go fun κ2 σ2 c st2 k2 p2 X2 rc q2 =>
  wpAny_mono (q2 κ2 σ2 s2 vc X2 rc) (fun t s3 z => z.go fun κ3 σ3 t' st3 k3 p3 X3 rt q3 => by
   cases (rt : t = t')
   cases t with
   | false => exact ⟨κ3, σ3, c, st3, (k1.trans k2).trans k3, (p1.trans p2).trans p3, X3, rc.mono k3 p3, q3⟩
   | true =>
    exact PA.wp ((k1.trans k2).trans k3) ((p1.trans p2).trans p3) (q3 κ3 σ3 s3 vb (e.mono ((p1.trans p2).trans p3)) X3 (rb.mono (k2.trans k3) (p2.trans p3)))) fun _ _ z => z) fun _ _ z => z) fun _ _ z => z)
end
end Mine
end
section
open PySem PySem.Calls PyProof.Rows PySem.W PySem.SeqAt PyProof.V
namespace Mine
section
variable {C : Cx} {A : Around} {G : Gd} {ae : a9} {st : List ac}
structure LcG (C : Cx) (A : Around) (G : Gd) (ae : a9) (st : List ac) (elt target iter : Expr) (ifs : List Expr) (scope : Scope) (ca : List (Str × Nat)) (its : List D) (st2 : List ac) (Qa : AV -> List ac -> Prop) : Prop where
 hnf : ef ae.scope = true
 ok : ew scope
 hca : ll ae.cells scope.names [] = some ca
 hcn : ((cellsFrom (st2.length + 2) scope.names ca).map (·.1)).Nodup
 hs : ∀ env x, foldedSetIterable iter env x = pure x
 hiter : wEI C A G ae target st iter fun its' st2' => its' = its /\ st2' = st2
 core : ∃ J : Nat -> List ac -> Prop, (∀ k tl, J k tl -> 2 + ar scope.names <= tl.length /\ ∃ N V, tl[1]? = some (.ns N V)) ∧
  J 0 (.list [] :: .ns (scope.names.map (·.1)) (List.replicate scope.names.length none) :: List.replicate (ar scope.names) (.cell none)) ∧
  (∀ φ' E' env' k x tl, env'.frame = G.env.frame -> its[k]? = some x -> J k tl -> sb C A ⟨φ', G.κ₀, env', E'⟩ (bg ae scope st2.length ca) (st2 ++ tl) target (.d x) fun st3 => w8 C A ⟨φ', G.κ₀, env', E'⟩ (bg ae scope st2.length ca) st3 ifs fun ok st4 =>
   if ok then wE C A ⟨φ', G.κ₀, env', E'⟩ (bg ae scope st2.length ca) st4 elt (lm J st2 k)
   else dt J st2 k st4) ∧
  ∀ tl, J its.length tl -> ∃ is st3, Oq is (st2 ++ tl) st3 /\ (∀ j, j < st2.length + 1 -> is[j]? = some j) /\ (st2.length + 1) ∉ is /\ Qa (.obj st2.length) st3
theorem N5 {elt target iter : Expr} {ifs : List Expr} {scope : Scope} {pos fpos : Pos} {ca : List (Str × Nat)} {use : Option (Value -> Sem Unit)} {Qf : Kp -> List Addr -> Value -> Shared -> Prop} {its : List D} {st2 : List ac} {Qa : AV -> List ac -> Prop}
  (L : LcG C A G ae st elt target iter ifs scope ca its st2 Qa)
  (fin : ∀ κ σ s acc Ca m, cy ae σ G.env -> w6 C G Qa κ σ acc Ca s -> s.heap.Ns Ca m -> compPost (model C.prog C.w) A G.E use (Qf κ σ) (.ref acc) Ca (.ok .next) s) :
  ∀ κ σ s, cy ae σ G.env -> Rel C G.φ G.κ₀ κ σ st s -> wpAny (model C.prog C.w) A (comprehension (.ListComp elt [⟨target, iter, ifs, 0⟩] scope pos) scope G.env fpos (newList []) false (eval iter G.env) use) (Qf κ σ) G.E s := by
 refine byC fun hC1 => ?_
 obtain ⟨J, hJ, h0, turn, hfin⟩ := L.core
 refine hC1 ?_
 refine ym L.hnf L.ok L.hca L.hcn L.hs L.hiter J hJ h0 turn ?_
 intro κ σ σ2 κ' σ' tl s' acc Ca m e p hl p' k hj X hacc hCa hm
 refine fin κ σ s' acc Ca m e ?_ hm
 refine byC fun hC2 => ?_
 obtain ⟨is, st3, P, his, hno, hq⟩ := hfin tl hj
 obtain ⟨hl1, N, V, hns⟩ := hJ _ _ hj
 refine hC2 ?_
 have hlt : st2.length < σ'.length := (List.getElem?_eq_some_iff.mp hacc).1
 have hown := (X.own (st2.length + 1) Ca (.ns N V) hCa (by rw [List.getElem?_append_right (by lia)]; simpa using hns)).none trivial
 have hσ2 : σ'.take st2.length = σ2 := by rw [<- hl]; exact me p'
 refine ⟨κ', na σ' is, .obj st2.length, st3, k, ?_, X.pick P, ⟨acc, ?_, rfl⟩, hq, hown.1, hown.2, ?_, fun hmem => (X.tabs Ca hmem).2.2.2 (List.mem_of_getElem? hCa)⟩
 ·refine p.trans ?_
  rw [<- hσ2]
  exact Ii (fun j hj => his j (by lia)) (by lia)
 ·rw [nq (his st2.length (by lia)), List.getD_eq_getElem?_getD, hacc]; rfl
 ·intro hmem
  unfold na at hmem
  refine byC fun hC3 => ?_
  obtain ⟨i, hi, ei⟩ := List.mem_map.mp hmem
  have hib : i < σ'.length := by
   obtain ⟨j, hj, ej⟩ := List.getElem_of_mem hi
   have h1 : is[j]? = some i := by rw [List.getElem?_eq_getElem hj, ej]
   have h2 : j < st3.length := by rw [P.len]; exact hj
   obtain ⟨x, hx, _⟩ := P.get j i _ h1 (List.getElem?_eq_getElem h2)
   rw [X.len]
   exact (List.getElem?_eq_some_iff.mp hx).1
  rw [List.getD_eq_getElem?_getD, List.getElem?_eq_getElem hib] at ei
  obtain ⟨hb, eb⟩ := List.getElem?_eq_some_iff.mp hCa
  have := (List.getElem_inj X.nd).mp (show σ'[i] = σ'[st2.length + 1] from ei.trans eb.symm)
  subst this
  refine hC3 ?_
  exact hno hi
theorem Ol {x : Str} {xp : Pos} {elt target iter : Expr} {ifs : List Expr} {scope : Scope} {pos spos : Pos} {its : List D} {st2 : List ac} {Q : AF -> List ac -> Prop} (i : Nat) (ca : List (Str × Nat)) (hk : ae.scope.names[i]? = some (x, .local)) (hln : (xp.line == (Expr.ListComp elt [⟨target, iter, ifs, 0⟩] scope pos).pos.line) = true) (hny : (scope.names.any fun p => p.1 == x && (p.2 == .local || p.2 == .cell)) = false)
  (L : LcG C A G ae st elt target iter ifs scope ca its st2 fun a st1 => ∀ φ', dx C A { G with φ := φ' } ae st1 x a fun st3 => Q .next st3) : wS C A G ae st (.Assign [.Name x xp] (.ListComp elt [⟨target, iter, ifs, 0⟩] scope pos) spos) Q := fun κ σ s e X => by
 have hsw : swapsWith (.ListComp elt [⟨target, iter, ifs, 0⟩] scope pos) (some (.Name x xp)) spos.line G.env = pure true := by
  show (pure (G.env.blockKind == .function && G.env.kindOf x == some .local && xp.line == (Expr.ListComp elt [⟨target, iter, ifs, 0⟩] scope pos).pos.line && !(scope.names.any fun p => p.1 == x && (p.2 == .local || p.2 == .cell))) : Sem Bool) = _
  have h1 : G.env.blockKind = .function := by unfold Env.blockKind; rw [e.kind]; rfl
  rw [e.kindOf hk, h1, hln, hny]; rfl
 rw [exec_Assign_Name_used x xp _ spos hsw]
 refine wpAny_bind (wpAny_standAt (wpAny_bind ?_))
 show wpAny _ _ (comprehension _ _ _ _ _ _ _ _ >>= fun _ => pure ()) _ _ s
 refine wpAny_bind (wpAny_mono (N5 (Qf := fun κ σ _ s' => PA RF C G.φ G.κ₀ κ σ Q .next s') L (fun κ σ s acc Ca m e h hm => By e h hm) κ σ s e X) (fun _ s1 h1 => wpAny_pure (wpAny_pure h1)) fun _ _ z => z)
end
end Mine
end
section
open PySem PySem.Calls PyProof.Rows PySem.W PySem.SeqAt PyProof.V
namespace Mine
theorem zs.self {is : List Nat} {n : Nat} (h : ∀ j, j < n -> is[j]? = some j) {a : AV} (hb : a.below n) : zs is a a := by
 cases a with
 | d => rfl
 | obj i => exact h i hb
 | glob => rfl
theorem w3.self {is : List Nat} {n : Nat} (h : ∀ j, j < n -> is[j]? = some j) {x : ac} (hb : x.below n) : w3 is x x := by
 cases x with
 | ns names vars => exact ⟨rfl, fun j a e => ⟨a, e, zs.self h (hb j a e)⟩⟩
 | cell a => cases a with
  | none => trivial
  | some a => exact zs.self h hb
 | list l => exact ⟨rfl, fun j a a' e e' => by rw [e] at e'; cases e'; exact zs.self h (hb a (List.mem_of_getElem? e))⟩
 | frz => rfl
 | raw => rfl
section
variable {C : Cx} {A : Around} {G : Gd} {ae : a9} {st : List ac}
end
end Mine
end
section
open PySem PySem.Calls PyProof.Rows PySem.W PySem.SeqAt PyProof.V
namespace Mine
section
variable {C : Cx} {A : Around} {G : Gd} {ae : a9} {st : List ac}
theorem R.tupAt {κ : Kp} {ds : List D} {v : Value} {h : Heap} (r : R κ (.tuple ds) v) (hk : ∀ b o, κ b = some o -> h.get? b = some o) : ∃ a items, v = .ref a /\ h.IsTuple a items /\ RL κ ds items.toList := by
 simp only [R] at r
 refine byC fun hC1 => ?_
 obtain ⟨a, o, vs, n, rfl, h2, h3, h4, h5, h6⟩ := r
 refine hC1 ?_
 exact ⟨a, vs, rfl, ⟨o, hk _ _ h2, h3, n, h5⟩, h6⟩
theorem xf {h h' : Heap} (he : Heap.ExtBut h.objs.size h h') : ∀ b o, h.get? b = some o -> h'.get? b = some o := fun b o e => he b o (Nat.ne_of_lt (Heap.lt_size e)) e
theorem nr {x y : Str} {px py pos : Pos} {k : Nat} {a b : D} {Q : List ac -> Prop} (hh : A.handled = none) (h : dx C A G ae st x (.d a) fun st1 => dx C A G ae st1 y (.d b) Q) :
  sb C A G ae st (.Tuple [.Name x px, .Name y py] k pos) (.d (.tuple [a, b])) Q := fun κ σ s v e X r => by
 refine byC fun hC1 => ?_
 obtain ⟨t, items, rfl, ht, hr⟩ := R.tupAt r X.keep
 refine hC1 ?_
 have hl := hr.length
 refine wpAny_assign_Tuple hh ht (by rw [<- Array.length_toList, hl]; rfl) rfl fun h' he => ?_
 have X' := X.keeps (s' := { s with heap := h' }) (xf he) rfl rfl
 refine byC fun hC2 => ?_
 obtain ⟨v1, h1, r1⟩ := hr.get (i := 0) rfl
 obtain ⟨v2, h2, r2⟩ := hr.get (i := 1) rfl
 refine hC2 ?_
 have e1 : items.toList = [v1, v2] := by
  obtain ⟨u1, u2, q⟩ := wo hl
  rw [q] at h1 h2 ⊢; cases h1; cases h2; rfl
 rw [e1]
 show wpAny _ _ (assignInOrder [assign (.Name x px) G.env, assign (.Name y py) G.env] [v1, v2]) _ _ _
 refine assignInOrder_cons (assign_Name (wpAny_mono (h κ σ _ v1 e X' r1) (fun _ s1 z => z.go fun κ1 σ1 _ st1 k1 p1 X1 _ q1 => ?_) fun _ _ z => z))
 refine assignInOrder_cons (assign_Name (wpAny_mono (q1 κ1 σ1 s1 v2 (e.mono p1) X1 (r2.mono k1)) (fun _ s2 z => z.go fun κ2 σ2 _ st2 k2 p2 X2 _ q2 => ?_) fun _ _ z => z))
 exact assignInOrder_nil ⟨κ2, σ2, (), st2, k1.trans k2, p1.trans p2, X2, trivial, q2⟩
theorem Aw {x y : Str} {px py tpos vpos pos : Pos} {e1 e2 : Expr} {k k' : Nat} {Q : AF -> List ac -> Prop} (ix iy : Nat) (hh : A.handled = none) (hx : ae.scope.names[ix]? = some (x, .local)) (hy : ae.scope.names[iy]? = some (y, .local)) (hne : (x == y) = false) (hln : (py.line == px.line) = true)
  (hv : ([e1, e2].any fun | .Starred .. => true | _ => false) = false) (hf : [e1, e2].all (foldedForSure 8) = false) (hc : [e1, e2].all (constantsAlone 8) = false)
  (h : wE C A G ae st (.Tuple [e1, e2] k' vpos) fun a st1 => ∃ d1 d2, a = .d (.tuple [d1, d2]) /\ dx C A G ae st1 y (.d d2) fun st2 => dx C A G ae st2 x (.d d1) fun st3 => Q .next st3) :
  wS C A G ae st (.Assign [.Tuple [.Name x px, .Name y py] k tpos] (.Tuple [e1, e2] k' vpos) pos) Q := fun κ σ s e X => by
 have hsw : swappedStores [.Tuple [.Name x px, .Name y py] k tpos] (.Tuple [e1, e2] k' vpos) G.env = pure (some [x, y]) := by
  have h1 : G.env.blockKind = .function := by unfold Env.blockKind; rw [e.kind]; rfl
  have hk1 := e.kindOf hx
  have hk2 := e.kindOf hy
  have a2 : (py.line == px.line) = true := hln
  have hdup : ([x, y] : List Str).eraseDups = [x, y] := by
   rw [List.eraseDups_cons]
   have : (y == x) = false := by
    cases q : y == x with
    | false => rfl
    | true => rw [eq_of_beq q, beq_self_eq_true] at hne; cases hne
   simp [List.filter_cons, this, List.eraseDups_cons]
  unfold swappedStores
  have b1 : ([Expr.Name x px, Expr.Name y py].head?.map (·.pos.line)).getD 0 = px.line := rfl
  simp only [h1, hv, hf, hc, b1, List.filterMap_cons, List.filterMap_nil, hk1, hk2, a2, beq_self_eq_true, Bool.and_self, if_true, hdup, List.length_cons, List.length_nil]
  exact (if_neg (by decide)).trans ((if_neg (fun q => Bool.false_ne_true (hv.symm.trans q))).trans rfl)
 refine Assign_Tuple_swapped (names := [x, y]) (wpAny_mono (h κ σ s e X) (fun v s1 z => z.go fun κ1 σ1 a st1 k1 p1 X1 r1 ⟨d1, d2, ha, q1⟩ => ?_) fun _ _ z => z) rfl hsw
 subst ha
 refine byC fun hC1 => ?_
 obtain ⟨t, items, rfl, ht, hr⟩ := R.tupAt r1 X1.keep
 have hl := hr.length
 obtain ⟨v1, h1, r1⟩ := hr.get (i := 0) rfl
 obtain ⟨v2, h2, r2⟩ := hr.get (i := 1) rfl
 refine hC1 ?_
 have e1 : items.toList = [v1, v2] := by
  obtain ⟨u1, u2, q⟩ := wo hl
  rw [q] at h1 h2 ⊢; cases h1; cases h2; rfl
 rw [show ([x, y] : List Str).length = items.size by rw [<- Array.length_toList, hl]; rfl]
 refine wpAny_unpackItems_tuple hh ht fun h' he => ?_
 rw [e1]
 have X' := X1.keeps (s' := { s1 with heap := h' }) (xf he) rfl rfl
 show wpAny _ _ (assignInOrder [bindName G.env y, bindName G.env x] [v2, v1]) _ _ _
 refine assignInOrder_cons (bindName_ (wpAny_mono (q1 κ1 σ1 _ v2 (e.mono p1) X' r2) (fun _ s2 z => z.go fun κ2 σ2 _ st2 k2 p2 X2 _ q2 => ?_) fun _ _ z => z))
 refine assignInOrder_cons (bindName_ (wpAny_mono (q2 κ2 σ2 s2 v1 (e.mono (p1.trans p2)) X2 (r1.mono k2)) (fun _ s3 z => z.go fun κ3 σ3 _ st3 k3 p3 X3 _ q3 => ?_) fun _ _ z => z))
 exact assignInOrder_nil ⟨κ3, σ3, .next, st3, (k1.trans k2).trans k3, (p1.trans p2).trans p3, X3, rfl, q3⟩
theorem xu {x : Str} {xp pos cpos : Pos} {elt : Expr} {gens : List Comprehension} {scope : Scope} {Q : AF -> List ac -> Prop} (i : Nat) (hk : ae.scope.names[i]? = some (x, .cell))
  (h : wE C A G ae st (.ListComp elt gens scope cpos) fun a st1 => dx C A G ae st1 x a fun st2 => Q .next st2) : wS C A G ae st (.Assign [.Name x xp] (.ListComp elt gens scope cpos) pos) Q := fun κ σ s e X => by
 have hsw : swapsWith (.ListComp elt gens scope cpos) (some (.Name x xp)) pos.line G.env = pure false := by
  show (pure (G.env.blockKind == .function && G.env.kindOf x == some .local && xp.line == (Expr.ListComp elt gens scope cpos).pos.line && !(scope.names.any fun p => p.1 == x && (p.2 == .local || p.2 == .cell))) : Sem Bool) = _
  rw [e.kindOf hk]
  have : ((some NameKind.cell : Option NameKind) == some NameKind.local) = false := rfl
  rw [this, Bool.and_false, Bool.false_and, Bool.false_and]
 exact wpAny_Assign_Name (wpAny_mono (h κ σ s e X) (fun v s1 z => z.go fun κ1 σ1 a st1 k1 p1 X1 r1 q1 =>
  wpAny_mono (q1 κ1 σ1 s1 v (e.mono p1) X1 r1) (fun _ s2 z => z.go fun κ2 σ2 _ st2 k2 p2 X2 _ q2 => ⟨κ2, σ2, .next, st2, k1.trans k2, p1.trans p2, X2, rfl, q2⟩) fun _ _ z => z) fun _ _ z => z) hsw
end
end Mine
end
section
open PySem PySem.Calls PyProof.Rows PySem.W PySem.SeqAt PyProof.V
namespace Mine
theorem v9 {n : Nat} : ∀ {v : List (Option AV)}, (∀ (j : Nat) (a : AV), v[j]? = Option.some (Option.some a) -> a.below n) -> ax n v v
 | [], _ => trivial
 | Option.none :: r, h => v9 (v := r) fun j a e => h (j + 1) a (by simpa using e)
 | Option.some a :: r, h => ⟨rfl, h 0 a rfl, v9 (v := r) fun j a e => h (j + 1) a (by simpa using e)⟩
theorem Im {n : Nat} {x : ac} (h : x.below n) : c8 n x x := by
 cases x with
 | ns N V => exact ⟨rfl, v9 h⟩
 | cell a => exact ⟨rfl, h⟩
 | list l => exact ⟨rfl, h⟩
 | frz => exact ⟨rfl, trivial⟩
 | raw => exact ⟨rfl, trivial⟩
theorem m6 {n : Nat} {r r' : List ac} (h : g5 n r r') : ∀ {base : List ac}, (∀ x ∈ base, x.below n) -> g5 n (base ++ r) (base ++ r')
 | [], _ => h
 | x :: b, hb => ⟨Im (hb x List.mem_cons_self), m6 h fun y hy => hb y (List.mem_cons_of_mem _ hy)⟩
theorem y3 {a : AV} {n m : Nat} (h : a.below n) (hm : n <= m) : a.below m := by
 cases a with
 | obj i => exact Nat.lt_of_lt_of_le h hm
 | _ => trivial
theorem qj {x : ac} {n m : Nat} (h : x.below n) (hm : n <= m) : x.below m := by
 cases x with
 | ns N V => exact fun j a e => y3 (h j a e) hm
 | cell a => cases a with
  | none => trivial
  | some a => exact y3 h hm
 | list l => exact fun a ha => y3 (h a ha) hm
 | _ => trivial
theorem Iz {base : List ac} {a b y : ac} {r : List ac} : (base ++ a :: b :: r).set (base.length + 1) y = base ++ a :: y :: r := by
 rw [List.set_append_right _ _ (by lia), show base.length + 1 - base.length = 1 by lia]; rfl
theorem kl {base : List ac} {a b : ac} {r : List ac} : (base ++ a :: b :: r)[base.length + 1]? = some b := by
 rw [List.getElem?_append_right (by lia), show base.length + 1 - base.length = 1 by lia]; rfl
noncomputable abbrev cst (st2 : List ac) (scope : Scope) (acc : List D) (d : D) : List ac := st2 ++ .list (acc.map .d) :: .ns (scope.names.map (·.1)) ((List.replicate scope.names.length none).set 1 (some (.d d))) :: []
theorem ka {n : Nat} : ∀ (k : Nat) (v : List (Option AV)), ax n v (List.replicate k none)
 | 0, _ => ax.nil
 | k + 1, [] => ka k []
 | k + 1, a :: v => ax.none (ka k v)
theorem Ez {scope : Scope} {st2 r : List ac} {acc : List D} {vars : List (Option AV)} (hnc : ar scope.names = 0) (hcl : c6 st2) : Sub (st2.length + (2 + ar scope.names)) (st2 ++ .list (acc.map .d) :: .ns (scope.names.map (·.1)) vars :: r) (st2 ++ kt scope acc []) := by
 rw [hnc]
 refine Sub.of (by simp [kt]) (m6 (base := st2) (g5.cons (c8.list qp) (g5.cons (c8.ns (ka _ _)) g5.nil)) fun y hy => ?_)
 obtain ⟨i, hi, e⟩ := List.getElem_of_mem hy
 exact qj (hcl i y (by rw [List.getElem?_eq_getElem hi, e])) (Nat.le_add_right _ _)
theorem xl {scope : Scope} {st2 st4 : List ac} {acc : List D} {vars : List (Option AV)} {g : D -> Option D} {d : D} (hnc : ar scope.names = 0) (hcl : c6 st2) (q : g d = none /\ ∃ r, st4 = st2 ++ .list (acc.map .d) :: .ns (scope.names.map (·.1)) vars :: [] ++ r) : pn scope st2 acc g d st4 := by
 obtain ⟨hg, r, rfl⟩ := q
 refine ⟨hg, [], hnc.symm, ?_⟩
 rw [List.append_assoc]; exact Ez hnc hcl
theorem z1 {scope : Scope} {st2 st5 : List ac} {acc : List D} {vars : List (Option AV)} {g : D -> Option D} {d : D} {a : AV} (hnc : ar scope.names = 0) (hcl : c6 st2) (q : ∃ y, a = .d y /\ g d = some y /\ ∃ r, st5 = st2 ++ .list (acc.map .d) :: .ns (scope.names.map (·.1)) vars :: [] ++ r) : v6 scope st2 acc g d a st5 := by
 obtain ⟨y, ha, hg, r, rfl⟩ := q
 refine ⟨y, ha, hg, [], hnc.symm, ?_⟩
 rw [List.append_assoc]; exact Ez hnc hcl
section
variable {C : Cx} {A : Around} {G : Gd} {ae : a9} {st : List ac}
theorem fz.of {scope : Scope} {ca : List (Str × Nat)} {st2 : List ac} {x : Str} {p : Pos} {elt : Expr} {ifs : List Expr} {its : List D} {g : D -> Option D} (hnc : ar scope.names = 0) (h1 : (fk scope ae.scope).names[1]? = some (x, .local)) (h1' : (scope.names.map (·.1))[1]? = some x) (hcl : c6 st2)
  (h : ∀ φ' E' env' d (acc : List D), d ∈ its -> env'.frame = G.env.frame -> w8 C A ⟨φ', G.κ₀, env', E'⟩ (bg ae scope st2.length ca) (cst st2 scope acc d) ifs fun ok st4 =>
   if ok then wE C A ⟨φ', G.κ₀, env', E'⟩ (bg ae scope st2.length ca) st4 elt fun a st5 => ∃ y, a = .d y /\ g d = some y /\ ∃ r, st5 = cst st2 scope acc d ++ r
   else g d = none /\ ∃ r, st4 = cst st2 scope acc d ++ r) : fz C A G ae scope ca st2 (.Name x p) elt ifs its g := by
 intro φ' E' env' d acc cs hd hcs hef
 have hcs0 : cs = [] := List.eq_nil_of_length_eq_zero (by rw [hcs, hnc])
 subst hcs0
 refine d8 (af 1 h1 kl h1' ?_)
 rw [show (st2 ++ kt scope acc []) = st2 ++ ac.list (acc.map .d) :: .ns (scope.names.map (·.1)) (List.replicate scope.names.length none) :: [] from rfl, show (bg ae scope st2.length ca).L = st2.length + 1 from rfl, Iz]
 refine W.mono (h φ' E' env' d acc hd hef) fun ok st4 q => ?_
 cases ok with
 | false => exact xl hnc hcl q
 | true => exact W.mono q fun a st5 q => z1 hnc hcl q
theorem ln {x : Str} {np pos cp : Pos} {n : Nat} {k : Nat} {tgt : Expr} (i : Nat) (gr : ag C x (.type "range")) (hk : ae.scope.names[i]? = some (x, .globalImplicit)) (hh : A.handled = none) (hn : n <= 1000) :
  wEI C A G ae tgt st (.Call (.Name x np) [.Constant (.int (n : Int)) k cp] [] pos) fun its' st2 => its' = fb 0 n /\ st2 = st ++ [.raw (ap 0 n)] := by
 refine jq (dq (fun _ => rfl) (ao i gr hk (ai (db (ji ?_)))))
 exact il (i := st.length) (a := 0) (b := (n : Int)) hh (by simp) (by lia) (by lia) ⟨by simp, rfl⟩
theorem B5 {x : Str} {np pos cp cp' : Pos} {a n : Nat} {k k' : Nat} {tgt : Expr} (i : Nat) (gr : ag C x (.type "range")) (hk : ae.scope.names[i]? = some (x, .globalImplicit)) (hh : A.handled = none) (ha : a <= 1000) (hn : n <= 1000) :
  wEI C A G ae tgt st (.Call (.Name x np) [.Constant (.int (a : Int)) k cp, .Constant (.int (n : Int)) k' cp'] [] pos) fun its' st2 => its' = fb a (n - a) /\ st2 = st ++ [.raw (ap a n)] := by
 refine jq (xn (fun _ => rfl) (fun _ => rfl) (ao i gr hk (ai (ai (db (x5 ?_))))))
 exact il (i := st.length) (a := (a : Int)) (b := (n : Int)) hh (by simp) (by lia) (by lia) ⟨by congr 1; lia, rfl⟩
theorem Ce {tgt x : Expr} {ds : List D} (hh : A.handled = none) (h : wE C A G ae st x fun a st1 => (a = .d (.list ds)) /\ st1 = st) : wEI C A G ae tgt st x fun its' st2 => its' = ds /\ st2 = st :=
 jq (W.mono h fun a st1 ⟨ha, hs⟩ => by subst ha; subst hs; exact wa (.inl rfl) hh ⟨rfl, rfl⟩)
end
theorem b7 {o : Option D} {x : D} (h : o = some x) : some (o.map AV.d) = some (some (AV.d x)) := by rw [h]; rfl
theorem bn {o : Option D} {x : D} (h : o = some x) : some (ac.cell (o.map AV.d)) = some (ac.cell (some (AV.d x))) := by rw [h]; rfl
end Mine
end
section
/- {elt for target in iter if ..}, whole numbers -/
open PySem PySem.Calls PyProof.Rows PySem.W PySem.SeqAt PyProof.V
namespace Mine
noncomputable def wt (p : (Int -> Bool) × Nat) (x : Int) : (Int -> Bool) × Nat := (fun k' => p.1 k' || decide (k' = x), if p.1 x then p.2 else p.2 + 1)
noncomputable def fg (l : List Int) : (Int -> Bool) × Nat := l.foldl wt (fun _ => false, 0)
theorem H3 (l : List Int) (x : Int) : fg (l ++ [x]) = wt (fg l) x := by unfold fg; rw [List.foldl_append]; rfl
theorem Eu : ∀ (l : List Int) (p : (Int -> Bool) × Nat) (k : Int), (l.foldl wt p).1 k = true ↔ p.1 k = true ∨ k ∈ l
 | [], p, k => by simp
 | x :: l, p, k => by
  rw [List.foldl_cons, Eu l (wt p x) k]
  simp only [wt, Bool.or_eq_true, decide_eq_true_eq, List.mem_cons]
  exact or_assoc
theorem I9 (l : List Int) (k : Int) : (fg l).1 k = true ↔ k ∈ l := by
 unfold fg; rw [Eu]; simp
theorem wm : ∀ (l : List Int) (p : (Int -> Bool) × Nat), (l.foldl wt p).2 <= p.2 + l.length
 | [], p => Nat.le_refl _
 | x :: l, p => by
  rw [List.foldl_cons]
  refine Nat.le_trans (wm l (wt p x)) ?_
  simp only [wt, List.length_cons]
  split <;> lia
theorem L3 (l : List Int) : (fg l).2 <= l.length := by
 have := wm l (fun _ => false, 0)
 simpa [fg] using this
section
variable {C : Cx} {A : Around} {G : Gd} {ae : a9} {st : List ac}
noncomputable def l8 (w : World) (scope : Scope) (acc : List Int) (cs : List (Option AV)) : List ac := .raw (ce w (fg acc).1 (fg acc).2) :: .ns (scope.names.map (·.1)) (List.replicate scope.names.length none) :: cs.map .cell
theorem vu {w : World} {scope : Scope} {acc : List Int} {cs : List (Option AV)} (h : cs.length = ar scope.names) : (l8 w scope acc cs).length = 2 + ar scope.names := by simp [l8, h]; lia
theorem M5 {w : World} {scope : Scope} {acc : List Int} {cs : List (Option AV)} {st2 : List ac} : (st2 ++ l8 w scope acc cs)[st2.length]? = some (.raw (ce w (fg acc).1 (fg acc).2)) := by
 rw [List.getElem?_append_right (Nat.le_refl _), Nat.sub_self]; rfl
theorem Iv {w : World} {scope : Scope} {acc : List Int} {cs : List (Option AV)} {st2 : List ac} {y : ac} : (st2 ++ l8 w scope acc cs).set st2.length y = st2 ++ y :: (l8 w scope acc cs).tail := by
 rw [List.set_append_right _ _ (Nat.le_refl _), Nat.sub_self]; rfl
noncomputable def ScJ (w : World) (scope : Scope) (its : List D) (g : D -> Option Int) (k : Nat) (tl : List ac) : Prop := ∃ cs : List (Option AV), cs.length = ar scope.names /\ tl = l8 w scope ((its.take k).filterMap g) cs
theorem Ng {w : World} {scope : Scope} {its : List D} {g : D -> Option Int} (k : Nat) (tl : List ac) (h : ScJ w scope its g k tl) : 2 + ar scope.names <= tl.length /\ ∃ N V, tl[1]? = some (.ns N V) := by
 obtain ⟨cs, hc, rfl⟩ := h
 exact ⟨Nat.le_of_eq (vu hc).symm, _, _, rfl⟩
theorem K3 {w : World} {scope : Scope} {its : List D} {g : D -> Option Int} : ScJ w scope its g 0 (.raw (ce w (fun _ => false) 0) :: .ns (scope.names.map (·.1)) (List.replicate scope.names.length none) :: List.replicate (ar scope.names) (.cell none)) := ⟨List.replicate (ar scope.names) none, by simp, by simp [l8, fg]⟩
inductive Fk (w : World) (scope : Scope) (st2 : List ac) (acc : List Int) (g : D -> Option Int) (x : D) (a : AV) (st5 : List ac) : Prop
 | mk (y : Int) (ha : a = .d (.int y)) (hg : g x = some y) (cs' : List (Option AV)) (hc : cs'.length = ar scope.names) (hsub : Sub (st2.length + (2 + ar scope.names)) st5 (st2 ++ l8 w scope acc cs'))
inductive zt (w : World) (scope : Scope) (st2 : List ac) (acc : List Int) (g : D -> Option Int) (x : D) (st4 : List ac) : Prop
 | mk (hg : g x = none) (cs' : List (Option AV)) (hc : cs'.length = ar scope.names) (hsub : Sub (st2.length + (2 + ar scope.names)) st4 (st2 ++ l8 w scope acc cs'))
theorem zt.next {w : World} {scope : Scope} {its : List D} {g : D -> Option Int} {k : Nat} {x : D} {st2 st4 : List ac} (hx : its[k]? = some x) (q : zt w scope st2 ((its.take k).filterMap g) g x st4) : dt (ScJ w scope its g) st2 k st4 := by
 refine byC fun hC1 => ?_
 obtain ⟨hg, cs', hc', hsub⟩ := q
 refine hC1 ?_
 refine ⟨l8 w scope ((its.take (k + 1)).filterMap g) cs', ?_, cs', hc', rfl⟩
 rw [vu hc', dp g its k x hx, hg]; simpa using hsub
theorem Fk.post {w : World} {scope : Scope} {its : List D} {g : D -> Option Int} {k : Nat} {x : D} {a : AV} {st2 st5 : List ac} (hsz : its.length < 63) (hx : its[k]? = some x) (q : Fk w scope st2 ((its.take k).filterMap g) g x a st5) : vq w (ScJ w scope its g) st2 k a st5 := by
 obtain ⟨y, rfl, hg, cs', hc', hsub⟩ := q
 refine ⟨(fg ((its.take k).filterMap g)).1, (fg ((its.take k).filterMap g)).2, y, rfl, l8 w scope ((its.take (k + 1)).filterMap g) cs', ?_, ?_, ?_, cs', hc', rfl⟩
 ·obtain ⟨h1, h2, h3⟩ := hsub
  have hlt : st2.length < st5.length := by lia
  have := h3 st2.length _ _ (by lia) (List.getElem?_eq_getElem hlt) M5
  rw [List.getElem?_eq_getElem hlt]
  generalize st5[st2.length] = z at this ⊢
  cases z with
  | raw => cases this.1; rfl
  | _ => cases this.1
 ·have h1 := L3 ((its.take k).filterMap g)
  have h2 := List.length_filterMap_le g (its.take k)
  have h3 : (its.take k).length <= its.length := by rw [List.length_take]; exact Nat.min_le_right _ _
  lia
 ·rw [vu hc']
  have := hsub.set (i := st2.length) (y := .raw (ce w (wt (fg ((its.take k).filterMap g)) y).1 (wt (fg ((its.take k).filterMap g)) y).2)) trivial (fun _ _ q => nomatch q)
  rw [Iv] at this
  rw [dp g its k x hx, hg]
  simpa [l8, H3, wt] using this
theorem Od {scope : Scope} {its : List D} {g : D -> Option Int} {Qa : AV -> List ac -> Prop} {st2 tl : List ac} {κ κ' : Kp} {σ σ2 σ' : List Addr} {s' : Shared} {acc Ca : Addr} (hcl : c6 st2) (hq : Qa (.obj st2.length) (st2 ++ [.raw (ce C.w (fg (its.filterMap g)).1 (fg (its.filterMap g)).2)])) (p : σ <+: σ2) (hl : σ2.length = st2.length) (p' : σ2 <+: σ') (k : Kle κ κ') (hj : ScJ C.w scope its g its.length tl)
  (X : Rel C G.φ G.κ₀ κ' σ' (st2 ++ tl) s') (hacc : σ'[st2.length]? = some acc) (hCa : σ'[st2.length + 1]? = some Ca) : w6 C G Qa κ σ acc Ca s' := by
 refine byC fun hN => ?_
 obtain ⟨cs, hc, rfl⟩ := hj
 rw [List.take_length] at X
 refine hN ?_
 have hown := (X.own (st2.length + 1) Ca (.ns (scope.names.map (·.1)) (List.replicate scope.names.length none)) hCa (by
  rw [List.getElem?_append_right (Nat.le_succ _), show st2.length.succ - st2.length = 1 by lia]; rfl)).none trivial
 have hcl2 : c6 (st2 ++ [ac.raw (ce C.w (fg (its.filterMap g)).1 (fg (its.filterMap g)).2)]) := fun i x e => by
  rw [List.length_append]
  by_cases hi : i < st2.length
  ·rw [List.getElem?_append_left hi] at e
   exact qj (hcl i x e) (Nat.le_add_right _ _)
  ·rw [List.getElem?_append_right (Nat.le_of_not_lt hi)] at e
   cases q : i - st2.length with
   | zero => rw [q] at e; cases e; trivial
   | succ m => rw [q] at e; cases e
 have X3 : Rel C G.φ G.κ₀ κ' (σ'.take (st2.length + 1)) (st2 ++ [ac.raw (ce C.w (fg (its.filterMap g)).1 (fg (its.filterMap g)).2)]) s' := by
  have e : st2 ++ l8 C.w scope (its.filterMap g) cs = (st2 ++ [ac.raw (ce C.w (fg (its.filterMap g)).1 (fg (its.filterMap g)).2)]) ++ (l8 C.w scope (its.filterMap g) cs).tail := by
   rw [List.append_assoc]; rfl
  rw [e] at X
  have := X.sub hcl2.sub
  rwa [List.length_append] at this
 have p2 : σ2 <+: σ'.take (st2.length + 1) := List.prefix_take_iff.mpr ⟨p', by rw [hl]; exact Nat.le_succ _⟩
 refine ⟨κ', σ'.take (st2.length + 1), .obj st2.length, _, k, p.trans p2, X3, ⟨acc, by rw [List.getElem?_take_of_lt (Nat.lt_succ_self _)]; exact hacc, rfl⟩, hq, hown.1, hown.2, fun hmem => ?_, fun hmem => (X.tabs Ca hmem).2.2.2 (List.mem_of_getElem? hCa)⟩
 obtain ⟨i, hi2, ei⟩ := List.getElem_of_mem hmem
 rw [List.getElem_take] at ei
 obtain ⟨hb, eb⟩ := List.getElem?_eq_some_iff.mp hCa
 have := (List.getElem_inj X.nd).mp (ei.trans eb.symm)
 rw [List.length_take] at hi2
 lia
noncomputable def zd (C : Cx) (A : Around) (G : Gd) (ae : a9) (scope : Scope) (ca : List (Str × Nat)) (st2 : List ac) (target elt : Expr) (ifs : List Expr) (its : List D) (g : D -> Option Int) : Prop :=
 ∀ φ' E' env' x (acc : List Int) (cs : List (Option AV)), x ∈ its -> cs.length = ar scope.names -> env'.frame = G.env.frame -> sb C A ⟨φ', G.κ₀, env', E'⟩ (bg ae scope st2.length ca) (st2 ++ l8 C.w scope acc cs) target (.d x) fun st3 => w8 C A ⟨φ', G.κ₀, env', E'⟩ (bg ae scope st2.length ca) st3 ifs fun ok st4 =>
   if ok then wE C A ⟨φ', G.κ₀, env', E'⟩ (bg ae scope st2.length ca) st4 elt (Fk C.w scope st2 acc g x) else zt C.w scope st2 acc g x st4
theorem Mc {elt target iter : Expr} {ifs : List Expr} {scope : Scope} {pos : Pos} {its : List D} {st2 : List ac} {Q : AV -> List ac -> Prop} (ca : List (Str × Nat)) (g : D -> Option Int)
  (hnf : ef ae.scope = true) (ok : ew scope) (hca : ll ae.cells scope.names [] = some ca) (hcn : ((cellsFrom (st2.length + 2) scope.names ca).map (·.1)).Nodup)
  (hs : ∀ env x, foldedSetIterable iter env x = pure x) (hiter : wEI C A G ae target st iter fun its' st2' => its' = its /\ st2' = st2) (hsz : its.length < 63) (hcl : c6 st2)
  (turn : zd C A G ae scope ca st2 target elt ifs its g) (hq : Q (.obj st2.length) (st2 ++ [.raw (ce C.w (fg (its.filterMap g)).1 (fg (its.filterMap g)).2)])) : wE C A G ae st (.SetComp elt [⟨target, iter, ifs, 0⟩] scope pos) Q := fun κ σ s e X => by
 show wpAny _ A (eval (.SetComp elt [⟨target, iter, ifs, 0⟩] scope pos) G.env) _ _ s
 rw [arm_eval_SetComp]
 refine C6 (Qf := fun κ σ v s' => PA RV C G.φ G.κ₀ κ σ Q v s') hnf ok hca hcn hs hiter (ScJ C.w scope its g) Ng K3 ?_ ?_ κ σ s e X
 ·rintro φ' E' env' k x tl hef hx ⟨cs, hc, rfl⟩
  intro κ σ s v e X r
  refine wpAny_mono (turn φ' E' env' x _ cs (List.mem_of_getElem? hx) hc hef κ σ s v e X r) (fun _ s1 z => z.go fun κ1 σ1 _ st3 k1 p1 X1 _ q1 => ⟨κ1, σ1, (), st3, k1, p1, X1, trivial, ?_⟩) fun _ _ z => z
  refine W.mono q1 fun okb st4 q4 => ?_
  cases okb with
  | false => exact zt.next hx q4
  | true => exact W.mono q4 fun a st5 q5 => Fk.post hsz hx q5
 ·exact fun κ σ σ2 κ' σ' tl s' acc Ca m e p hl p' k hj X hacc hCa hm => y6 (Od hcl hq p hl p' k hj X hacc hCa) hm
end
end Mine
end
section
/- a set, one element after the other -/
open PySem PySem.Calls PyProof.Rows PySem.W PySem.SeqAt PyProof.V
open PySem.Sem (wp)
set_option maxRecDepth 100000
namespace Mine
theorem b5 : Slot "set_iterator" "__next__" "set_iterator.__next__" :=
 .of (owner := "set_iterator") (n := "__next__") (by rw [typeLookup_type, builtinLookup_eq_fast]; kernel_rfl) (by decide +kernel) (by decide +kernel) (by decide +kernel)
  (by first | exact .inl (by decide +kernel) | exact .inr (by decide +kernel)) (by rw [isSubtype_type]; kernel_rfl)
theorem fw : entryFor table "set_iterator.__next__" = some Builtin.«set_iterator.__next__» := entryFor_of_tree (by kernel_rfl)
theorem mr : Slot "set_iterator" "__iter__" "set_iterator.__iter__" :=
 .of (owner := "set_iterator") (n := "__iter__") (by rw [typeLookup_type, builtinLookup_eq_fast]; kernel_rfl) (by decide +kernel) (by decide +kernel) (by decide +kernel)
  (by first | exact .inl (by decide +kernel) | exact .inr (by decide +kernel)) (by rw [isSubtype_type]; kernel_rfl)
theorem js : Manifest.owners.lookup (String.ofList ['r', 'o', 't', 'a', 'r', 'e', 't', 'i', '_', 't', 'e', 's'].reverse) = some Manifest.sig_set_iterator := by kernel_rfl
theorem ff (a : Value) : argsOk "set_iterator.__next__" ⟨[a], []⟩ := by
 unfold argsOk; rw [signature?_of (id := "set_iterator.__next__") (n := ['_', '_', 't', 'x', 'e', 'n', '_', '_']) (o := ['r', 'o', 't', 'a', 'r', 'e', 't', 'i', '_', 't', 'e', 's']) (by kernel_rfl) js]; kernel_rfl
theorem w4 : entryFor table "set.__iter__" = some Builtin.«frozenset.__iter__» :=
 entryFor_alias (id' := "frozenset.__iter__") (by kernel_rfl) rfl (by decide +kernel) (by kernel_rfl)
section
variable {prog : Program} {w : World} {A : Around} {E : Value -> Shared -> Prop} {s : Shared} {α : Type}
theorem kj : ∀ (l : List α) (i : Nat) (h : i < l.length), (l[i] :: l.eraseIdx i).Perm l
 | x :: xs, 0, _ => List.Perm.refl _
 | x :: xs, i + 1, h => (List.Perm.swap x _ _).trans (List.Perm.cons x (kj xs i (Nat.lt_of_succ_lt_succ h)))
theorem za {src : Source} {n : Nat} {Q : Nat -> Shared -> Prop} (hn : n ≠ 0) (h : ∀ i d, i < n -> Q i { s with drawn := d }) : wpAny (model prog w) A (choose src n) Q E s := fun Γ p hΓ =>
 ⟨hn, h _ _ (Nat.mod_lt _ (Nat.pos_of_ne_zero hn))⟩
theorem l7 : ∀ (n : Nat) (xs : List α) (s : Shared) (Q : List α -> Shared -> Prop), n = xs.length -> (∀ ys d, ys.Perm xs -> Q ys { s with drawn := d }) -> wpAny (model prog w) A (drawOrder n xs) Q E s
 | 0, xs, s, Q, hn, h => by
  unfold drawOrder
  have : xs = [] := List.eq_nil_of_length_eq_zero hn.symm
  subst this
  have := h [] s.drawn (List.Perm.refl _)
  exact wpAny_pure this
 | n + 1, [], s, Q, hn, h => by cases hn
 | n + 1, x :: xs, s, Q, hn, h => by
  unfold drawOrder
  refine wpAny_bind (za (by simp) fun i d hi => ?_)
  have hx : (x :: xs)[i]? = some ((x :: xs)[i]) := List.getElem?_eq_getElem hi
  rw [hx]
  refine wpAny_bind (l7 n ((x :: xs).eraseIdx i) _ _ (by rw [List.length_eraseIdx_of_lt hi]; simpa using hn) fun ys d' hp => ?_)
  refine wpAny_pure (h _ d' ?_)
  exact (List.Perm.cons _ hp).trans (kj _ _ hi)
theorem qx (next : Nat -> Nat) : ∀ (fuel k : Nat) (left : List α) (out : Array α), left.length <= fuel -> (pickOrder.go next fuel k left out).toList.Perm (out.toList ++ left)
 | 0, k, left, out, h => by
  have : left = [] := List.eq_nil_of_length_eq_zero (Nat.le_zero.mp h)
  subst this
  unfold pickOrder.go; simp
 | fuel + 1, k, left, out, h => by
  unfold pickOrder.go
  cases left with
  | nil => simp
  | cons x xs =>
   have hi : next k % (x :: xs).length < (x :: xs).length := Nat.mod_lt _ (by simp)
   rw [List.getElem?_eq_getElem hi]
   dsimp only
   refine (qx next fuel (k + 1) _ _ (by rw [List.length_eraseIdx_of_lt hi]; simp at h ⊢; omega)).trans ?_
   rw [Array.toList_push, List.append_assoc]
   exact List.Perm.append_left _ (kj _ _ hi)
theorem wg (next : Nat -> Nat) (xs : Array α) : (pickOrder next xs).toList.Perm xs.toList := by
 have := qx next xs.size 0 xs.toList #[] (by simp)
 simpa [pickOrder] using this
end
end Mine
end
section
/- a set, one element after the other: the iterator -/
open PySem PySem.Calls PyProof.Rows PySem.W PySem.SeqAt PyProof.V
open PySem.Sem (wp)
set_option maxRecDepth 100000
namespace Mine
noncomputable def io (first : Value) (a : Addr) (i n ep : Nat) (o : Obj) : Prop := o.cls = .type "set_iterator" /\ o.data = .fields #[first, .int i 0, .ref a, .int n 0, .int ep 0]
section
variable {prog : Program} {w : World} {A : Around} {E : Value -> Shared -> Prop} {s : Shared} {S : Int -> Bool} {n : Nat} {es : Array (Int × Value)} {ep : Nat} {t : SetTable} {a I : Addr} {i : Nat}
theorem qg {o : Obj} {slot : Nat} {Q : Option (Value × Nat) -> Shared -> Prop} (hb : ByT w = true) (ho : s.heap.get? a = some o) (e : o = { cls := .type "set", dict := none, data := .set es ep t }) (x : di w S n es t)
  (h : Q (((pickOrder (w.params.setOrder a ep) es)[i]?).map fun e => (e.2, slot)) s) : wpAny (model prog w) A (setNext a slot i ep) Q E s := by
 have hd : o.data = .set es ep t := by rw [e]
 unfold setNext
 refine wpAny_bind (wpAny_setState_of ho hd x.fits ?_)
 dsimp only
 unfold setsByText
 refine wpAny_bind (wpAny_bind (wpAny_askSetting (wpAny_pure ?_)))
 refine (?_ : wpAny _ _ (if ByT w = true then _ else _) _ _ s)
 rw [if_pos hb, if_neg (by simp)]
 refine wpAny_bind ?_
 unfold setWalk
 refine wpAny_bind (wpAny_setState_of ho hd x.fits ?_)
 dsimp only
 unfold setsByText
 refine wpAny_bind (wpAny_bind (wpAny_askSetting (wpAny_pure ?_)))
 refine (?_ : wpAny _ _ (if ByT w = true then _ else _) _ _ s)
 rw [if_pos hb]
 refine wpAny_bind (wpAny_askSetting (wpAny_pure ?_))
 exact wpAny_pure h
theorem tn {o : Obj} {slot : Nat} {Q : Option (Value × Nat) -> Shared -> Prop} (hb : ByT w = false) (hp : t.plain = true ∨ es.size <= 1) (ho : s.heap.get? a = some o) (e : o = { cls := .type "set", dict := none, data := .set es ep t }) (x : di w S n es t)
  (h : Q (match es[SetTable.below t.place slot]?, t.place[SetTable.below t.place slot]? with | some (_, x), some j => some (x, j + 1) | _, _ => none) s) : wpAny (model prog w) A (setNext a slot i ep) Q E s := by
 have hd : o.data = .set es ep t := by rw [e]
 unfold setNext
 refine wpAny_bind (wpAny_setState_of ho hd x.fits ?_)
 dsimp only
 unfold setsByText
 refine wpAny_bind (wpAny_bind (wpAny_askSetting (wpAny_pure ?_)))
 refine (?_ : wpAny _ _ (if ByT w = true then _ else _) _ _ s)
 rw [if_neg (by rw [hb]; decide)]
 refine wpAny_bind (wpAny_pure ?_)
 refine (?_ : wpAny _ _ (if (!t.plain && decide (es.size > 1)) = true then _ else _) _ _ s)
 rw [if_neg (by rcases hp with hp | hp <;> simp [hp])]
 have hl : t.led = true := by rw [x.led, hb]; rfl
 refine wpAny_bind ?_
 refine (?_ : wpAny _ _ (if (!t.led && !es.isEmpty) = true then _ else pure ()) _ _ s)
 rw [if_neg (by rw [hl]; simp)]
 refine wpAny_pure ?_
 exact wpAny_pure h
theorem kb {first : Value} {oI : Obj} (hI : s.heap.get? I = some oI) (h : io first a i n ep oI) : s.TypeIs (.ref I) "set_iterator" := ⟨oI, hI, h.1⟩
theorem yg {oI o : Obj} {sl : Int} {tk : Tok} {v : Value} {nx : Nat} {Q : Option Value -> Shared -> Prop} (hI : s.heap.get? I = some oI) (hIo : io (.int sl tk) a i n ep oI) (ho : s.heap.get? a = some o) (e : o = { cls := .type "set", dict := none, data := .set es ep t }) (x : di w S n es t)
  (hnx : ∀ (A : Around) (E : Value -> Shared -> Prop) (Q' : Option (Value × Nat) -> Shared -> Prop), Q' (some (v, nx)) s -> wpAny (model prog w) A (setNext a sl.toNat i ep) Q' E s)
  (hQ : ∀ h' o', Heap.SameBut I s.heap h' -> h'.get? I = some o' -> io (.int (nx : Int) 0) a (i + 1) n ep o' -> Q (some v) { s with heap := h' }) : wpAny (model prog w) A (pyNext (.ref I)) Q E s := by
 have hT := kb hI hIo
 have hd : o.data = .set es ep t := by rw [e]
 unfold pyNext
 refine wpAny_bind (wpAny_attempt (wpAny_callSpecial?_slot (name := Str.ofString "__next__") hT b5
  (wpAny_call_entry b5 hT fw ?_ (ff _))))
 unfold Builtin.«set_iterator.__next__»
 refine wpAny_bind (wpAny_pure ?_)
 refine wpAny_bind (wpAny_fieldsOf hI hIo.2 ?_)
 refine (?_ : wpAny _ _ (setEntries a >>= _) _ _ s)
 refine wpAny_bind (wpAny_setEntries_of ho hd x.fits ?_)
 rw [if_neg (by rw [x.size]; simp)]
 refine (?_ : wpAny _ _ (setNext a sl.toNat (Int.toNat i) (Int.toNat ep) >>= _) _ _ s)
 rw [Int.toNat_natCast, Int.toNat_natCast]
 refine wpAny_bind (hnx _ _ _ ?_)
 refine (?_ : wpAny _ _ (setField (.ref I) 0 (rawInt nx) >>= fun _ => setField (.ref I) 1 (rawInt ((i : Int) + 1)) >>= fun _ => ret v) _ _ s)
 refine wpAny_bind (wpAny_setField hI hIo.2 (by simp) ?_)
 have h1 := Heap.get?_update_self (Obj.mapFields (·.setIfInBounds 0 (rawInt nx))) hI (Obj.isFreed_of_fields (Obj.data_mapFields hIo.2 _))
 have d1 := Obj.data_mapFields hIo.2 (·.setIfInBounds 0 (rawInt nx))
 refine wpAny_bind (wpAny_setField h1 d1 (by simp) ?_)
 have h2 := Heap.get?_update_self (Obj.mapFields (·.setIfInBounds 1 (rawInt ((i : Int) + 1)))) h1 (Obj.isFreed_of_fields (Obj.data_mapFields d1 _))
 have d2 := Obj.data_mapFields d1 (·.setIfInBounds 1 (rawInt ((i : Int) + 1)))
 refine wpAny_pure ⟨_, rfl, wpAny_pure (hQ _ _ ((Heap.SameBut.update ..).trans (Heap.SameBut.update ..)) h2 ⟨(Obj.cls_mapFields ..).trans ((Obj.cls_mapFields ..).trans hIo.1), by rw [d2]; simp [rawInt]⟩)⟩
theorem Cu {oI o : Obj} {sl : Int} {tk : Tok} {Q : Option Value -> Shared -> Prop} (hh : A.handled = none) (hI : s.heap.get? I = some oI) (hIo : io (.int sl tk) a i n ep oI) (ho : s.heap.get? a = some o) (e : o = { cls := .type "set", dict := none, data := .set es ep t }) (x : di w S n es t)
  (hnx : ∀ (A : Around) (E : Value -> Shared -> Prop) (Q' : Option (Value × Nat) -> Shared -> Prop), Q' none s -> wpAny (model prog w) A (setNext a sl.toNat i ep) Q' E s)
  (hQ : ∀ h', Heap.ExtBut I s.heap h' -> Q none { s with heap := h' }) : wpAny (model prog w) A (pyNext (.ref I)) Q E s := by
 have hT := kb hI hIo
 have hd : o.data = .set es ep t := by rw [e]
 unfold pyNext
 refine wpAny_bind (wpAny_attempt (wpAny_callSpecial?_slot (name := Str.ofString "__next__") hT b5
  (wpAny_call_entry b5 hT fw ?_ (ff _))))
 unfold Builtin.«set_iterator.__next__»
 refine wpAny_bind (wpAny_pure ?_)
 refine wpAny_bind (wpAny_fieldsOf hI hIo.2 ?_)
 refine (?_ : wpAny _ _ (setEntries a >>= _) _ _ s)
 refine wpAny_bind (wpAny_setEntries_of ho hd x.fits ?_)
 rw [if_neg (by rw [x.size]; simp)]
 refine (?_ : wpAny _ _ (setNext a sl.toNat (Int.toNat i) (Int.toNat ep) >>= _) _ _ s)
 rw [Int.toNat_natCast, Int.toNat_natCast]
 refine wpAny_bind (hnx _ _ _ ?_)
 refine (?_ : wpAny _ _ (setField (.ref I) 2 .none >>= _) _ _ s)
 refine wpAny_bind (wpAny_setField hI hIo.2 (by simp) ?_)
 refine (?_ : wpAny _ _ (newExc (.type "StopIteration") [] >>= _) _ _ _)
 refine wpAny_bind ?_
 simp only [newExc, newTuple]
 refine wpAny_bind (wpAny_newObj_type ?_ (by size_fits))
 refine wpAny_bind (m := firstArgMember _ _) (wpAny_of_eq (a := Value.none) (by first | rfl | (simp only [firstArgMember]; rfl)) ?_)
 refine wpAny_newObj_type ?_ (by size_fits)
 simp only [raiseNew]
 refine wpAny_bind (wpAny_handled ?_)
 rw [show A.in1.handled = none from hh]
 refine wpAny_bind (wpAny_pure (wpAny_throw ?_))
 refine wpAny_bind (wpAny_isInstance (T := "StopIteration") (b := true) ⟨_, Heap.get?_push_size _ rfl, rfl⟩ isSubtype_stop ?_)
 exact wpAny_pure (hQ _ (((Heap.SameBut.update ..).extBut.push _).push _))
theorem ud {o : Obj} {pl : Nat} {q : Int × Value} {Q : Value -> Shared -> Prop} (ho : s.heap.get? a = some o) (e : o = { cls := .type "set", dict := none, data := .set es ep t }) (x : di w S n es t) (hq : es[pl]? = some q) (h : Q q.2 s) : wpAny (model prog w) A (setNextDrawn a pl ep) Q E s := by
 have hd : o.data = .set es ep t := by rw [e]
 unfold setNextDrawn
 refine wpAny_bind (wpAny_setState_of ho hd x.fits ?_)
 dsimp only
 rw [if_neg (by simp)]
 refine byC fun hC1 => ?_
 obtain ⟨k, v⟩ := q
 refine hC1 ?_
 rw [hq]
 exact wpAny_pure h
theorem Ep {oI o ot : Obj} {tp : Addr} {πs : List Nat} {m pl : Nat} {q : Int × Value} {Q : Option Value -> Shared -> Prop} (hI : s.heap.get? I = some oI) (hIo : io (.ref tp) a i n ep oI) (ho : s.heap.get? a = some o) (e : o = { cls := .type "set", dict := none, data := .set es ep t }) (x : di w S n es t)
  (ht : s.heap.get? tp = some ot) (htd : ot.data = .seq (πs.map fun (i : Nat) => rawInt i).toArray m) (hpl : πs[i]? = some pl) (hq : es[pl]? = some q)
  (hQ : ∀ h' o', Heap.SameBut I s.heap h' -> h'.get? I = some o' -> io (.ref tp) a (i + 1) n ep o' -> Q (some q.2) { s with heap := h' }) : wpAny (model prog w) A (pyNext (.ref I)) Q E s := by
 have hT := kb hI hIo
 have hd : o.data = .set es ep t := by rw [e]
 unfold pyNext
 refine wpAny_bind (wpAny_attempt (wpAny_callSpecial?_slot (name := Str.ofString "__next__") hT b5
  (wpAny_call_entry b5 hT fw ?_ (ff _))))
 unfold Builtin.«set_iterator.__next__»
 refine wpAny_bind (wpAny_pure ?_)
 refine wpAny_bind (wpAny_fieldsOf hI hIo.2 ?_)
 refine (?_ : wpAny _ _ (setEntries a >>= _) _ _ s)
 refine wpAny_bind (wpAny_setEntries_of ho hd x.fits ?_)
 rw [if_neg (by rw [x.size]; simp)]
 refine (?_ : wpAny _ _ (seqItems? (.ref tp) >>= _) _ _ s)
 refine wpAny_bind ?_
 unfold seqItems?
 refine wpAny_bind (wpAny_load ht ?_)
 rw [htd]
 refine wpAny_pure ?_
 dsimp only
 have hg : (πs.map fun (i : Nat) => rawInt i).toArray[(Int.toNat i)]? = some (.int pl 0) := by
  rw [Int.toNat_natCast, List.getElem?_toArray, List.getElem?_map, hpl]; rfl
 rw [hg]
 refine (?_ : wpAny _ _ (setNextDrawn a (Int.toNat pl) (Int.toNat ep) >>= fun v => setField (.ref I) 1 (rawInt ((i : Int) + 1)) >>= fun _ => ret v) _ _ s)
 rw [Int.toNat_natCast, Int.toNat_natCast]
 refine wpAny_bind (ud ho e x hq ?_)
 refine wpAny_bind (wpAny_setField hI hIo.2 (by simp) ?_)
 have h1 := Heap.get?_update_self (Obj.mapFields (·.setIfInBounds 1 (rawInt ((i : Int) + 1)))) hI (Obj.isFreed_of_fields (Obj.data_mapFields hIo.2 _))
 have d1 := Obj.data_mapFields hIo.2 (·.setIfInBounds 1 (rawInt ((i : Int) + 1)))
 refine wpAny_pure ⟨_, rfl, wpAny_pure (hQ _ _ (Heap.SameBut.update ..) h1 ⟨(Obj.cls_mapFields ..).trans hIo.1, by rw [d1]; simp [rawInt]⟩)⟩
theorem Gv {oI o ot : Obj} {tp : Addr} {πs : List Nat} {m : Nat} {Q : Option Value -> Shared -> Prop} (hh : A.handled = none) (hI : s.heap.get? I = some oI) (hIo : io (.ref tp) a i n ep oI) (ho : s.heap.get? a = some o) (e : o = { cls := .type "set", dict := none, data := .set es ep t }) (x : di w S n es t)
  (ht : s.heap.get? tp = some ot) (htd : ot.data = .seq (πs.map fun (i : Nat) => rawInt i).toArray m) (hpl : πs[i]? = none)
  (hQ : ∀ h', Heap.ExtBut I s.heap h' -> Q none { s with heap := h' }) : wpAny (model prog w) A (pyNext (.ref I)) Q E s := by
 have hT := kb hI hIo
 have hd : o.data = .set es ep t := by rw [e]
 unfold pyNext
 refine wpAny_bind (wpAny_attempt (wpAny_callSpecial?_slot (name := Str.ofString "__next__") hT b5
  (wpAny_call_entry b5 hT fw ?_ (ff _))))
 unfold Builtin.«set_iterator.__next__»
 refine wpAny_bind (wpAny_pure ?_)
 refine wpAny_bind (wpAny_fieldsOf hI hIo.2 ?_)
 refine (?_ : wpAny _ _ (setEntries a >>= _) _ _ s)
 refine wpAny_bind (wpAny_setEntries_of ho hd x.fits ?_)
 rw [if_neg (by rw [x.size]; simp)]
 refine (?_ : wpAny _ _ (seqItems? (.ref tp) >>= _) _ _ s)
 refine wpAny_bind ?_
 unfold seqItems?
 refine wpAny_bind (wpAny_load ht ?_)
 rw [htd]
 refine wpAny_pure ?_
 dsimp only
 have hg : (πs.map fun (i : Nat) => rawInt i).toArray[(Int.toNat i)]? = none := by
  rw [Int.toNat_natCast, List.getElem?_toArray, List.getElem?_map, hpl]; rfl
 rw [hg]
 refine (?_ : wpAny _ _ (setField (.ref I) 0 (rawInt 0) >>= fun _ => setField (.ref I) 2 .none >>= _) _ _ s)
 refine wpAny_bind (wpAny_setField hI hIo.2 (by simp) ?_)
 have h1 := Heap.get?_update_self (Obj.mapFields (·.setIfInBounds 0 (rawInt 0))) hI (Obj.isFreed_of_fields (Obj.data_mapFields hIo.2 _))
 have d1 := Obj.data_mapFields hIo.2 (·.setIfInBounds 0 (rawInt 0))
 refine wpAny_bind (wpAny_setField h1 d1 (by simp) ?_)
 refine (?_ : wpAny _ _ (newExc (.type "StopIteration") [] >>= _) _ _ _)
 refine wpAny_bind ?_
 simp only [newExc, newTuple]
 refine wpAny_bind (wpAny_newObj_type ?_ (by size_fits))
 refine wpAny_bind (m := firstArgMember _ _) (wpAny_of_eq (a := Value.none) (by first | rfl | (simp only [firstArgMember]; rfl)) ?_)
 refine wpAny_newObj_type ?_ (by size_fits)
 simp only [raiseNew]
 refine wpAny_bind (wpAny_handled ?_)
 rw [show A.in1.handled = none from hh]
 refine wpAny_bind (wpAny_pure (wpAny_throw ?_))
 refine wpAny_bind (wpAny_isInstance (T := "StopIteration") (b := true) ⟨_, Heap.get?_push_size _ rfl, rfl⟩ isSubtype_stop ?_)
 exact wpAny_pure (hQ _ ((((Heap.SameBut.update ..).trans (Heap.SameBut.update ..)).extBut.push _).push _))
end
end Mine
end
section
/- a set, one element after the other: all of it -/
open PySem PySem.Calls PyProof.Rows PySem.W PySem.SeqAt PyProof.V
open PySem.Sem (wp)
set_option maxRecDepth 100000
namespace Mine
inductive vj (w : World) (a I tp : Addr) (es : Array (Int × Value)) (ep : Nat) (t : SetTable) (n : Nat) (ord : List (Int × Value)) (i : Nat) (h : Heap) : Prop
 | text (hb : ByT w = true) (hord : ord = (pickOrder (w.params.setOrder a ep) es).toList) (sl : Int) (tk : Tok) (oI : Obj) (hI : h.get? I = some oI) (hIo : io (.int sl tk) a i n ep oI)
 | led (hb : ByT w = false) (hp : t.plain = true ∨ es.size <= 1) (hord : ord = es.toList) (sl : Nat) (hbel : SetTable.below t.place sl = i) (oI : Obj) (hI : h.get? I = some oI) (hIo : io (.int (sl : Int) 0) a i n ep oI)
 | drawn (πs : List Nat) (m : Nat) (ot : Obj) (ht : h.get? tp = some ot) (htd : ot.data = .seq (πs.map fun (i : Nat) => rawInt i).toArray m) (hlen : πs.length = ord.length) (hπ : ∀ (j pl : Nat), πs[j]? = some pl -> es[pl]? = ord[j]?) (oI : Obj) (hI : h.get? I = some oI) (hIo : io (.ref tp) a i n ep oI)
noncomputable def Fb (w : World) (a : Addr) (S : Int -> Bool) (n : Nat) (es : Array (Int × Value)) (ep : Nat) (t : SetTable) (h : Heap) : Prop := ∃ o, h.get? a = some o /\ o = { cls := .type "set", dict := none, data := .set es ep t } /\ di w S n es t
section
variable {prog : Program} {w : World} {A : Around} {E : Value -> Shared -> Prop} {s : Shared} {S : Int -> Bool} {n : Nat} {es : Array (Int × Value)} {ep : Nat} {t : SetTable} {a I tp : Addr} {i : Nat} {ord : List (Int × Value)}
theorem vj.keep {h h' : Heap} (x : vj w a I tp es ep t n ord i h) (hI : ∀ o, h.get? I = some o -> h'.get? I = some o) (ht : ∀ o, h.get? tp = some o -> h'.get? tp = some o) : vj w a I tp es ep t n ord i h' := by
 cases x with
 | text hb hord sl tk oI h1 h2 => exact .text hb hord sl tk oI (hI _ h1) h2
 | led hb hp hord sl hbel oI h1 h2 => exact .led hb hp hord sl hbel oI (hI _ h1) h2
 | drawn πs m ot h3 htd hlen hπ oI h1 h2 => exact .drawn πs m ot (ht _ h3) htd hlen hπ oI (hI _ h1) h2
theorem vj.typeIs {s : Shared} (x : vj w a I tp es ep t n ord i s.heap) : s.TypeIs (.ref I) "set_iterator" := by
 cases x with
 | text hb hord sl tk oI h1 h2 => exact ⟨oI, h1, h2.1⟩
 | led hb hp hord sl hbel oI h1 h2 => exact ⟨oI, h1, h2.1⟩
 | drawn πs m ot h3 htd hlen hπ oI h1 h2 => exact ⟨oI, h1, h2.1⟩
theorem uk : entryFor table "set_iterator.__iter__" = some Builtin.«dict_keyiterator.__iter__» :=
 entryFor_alias (id' := "dict_keyiterator.__iter__") (by kernel_rfl) rfl (by decide +kernel) (by kernel_rfl)
theorem sk (a : Value) : argsOk "set_iterator.__iter__" ⟨[a], []⟩ := by
 unfold argsOk; rw [signature?_of (id := "set_iterator.__iter__") (n := ['_', '_', 'r', 'e', 't', 'i', '_', '_']) (o := ['r', 'o', 't', 'a', 'r', 'e', 't', 'i', '_', 't', 'e', 's']) (by kernel_rfl) js]; kernel_rfl
theorem B7 {Q : Value -> Shared -> Prop} (hT : s.TypeIs (.ref I) "set_iterator") (h : Q (.ref I) s) : wpAny (model prog w) A (pyIter (.ref I)) Q E s := by
 refine wpAny_pyIter_slot hT mr (wpAny_call_entry mr hT uk ?_ (sk _))
 refine (?_ : wpAny _ _ (ret (.ref I)) _ _ s)
 exact wpAny_pure ⟨_, rfl, "set_iterator", _, hT, b5.lookup, h⟩
theorem Hj (hh : A.handled = none) (hne : a ≠ I) (hnt : tp ≠ I) (hn : ord.length = n) :
  Walks prog w A I [I, a, tp] [I] n (fun i v => ∃ q, ord[i]? = some q /\ v = q.2) (fun i h => vj w a I tp es ep t n ord i h /\ Fb w a S n es ep t h) where
 sub := fun b hb => by simp at hb; simp [hb]
 frame := fun _ _ _ st hk => ⟨st.1.keep (fun o e => hk I (by simp) o e) (fun o e => hk tp (by simp) o e), let ⟨o, h1, h2⟩ := st.2; ⟨o, hk a (by simp) o h1, h2⟩⟩
 item := fun i s Q E hi st hQ => by
  refine byC fun hC1 => ?_
  obtain ⟨st1, o, ho, e, x⟩ := st
  refine hC1 ?_
  have here : ∀ h' : Heap, Heap.SameBut I s.heap h' -> Fb w a S n es ep t h' := fun h' hs => ⟨o, hs.extBut a o hne ho, e, x⟩
  have ext : ∀ h' : Heap, Heap.SameBut I s.heap h' -> ∀ b o, b ∉ [I] -> s.heap.get? b = some o -> h'.get? b = some o := fun h' hs b o hb e => hs.extBut b o (fun h => hb (by simp [h])) e
  have hio : i < ord.length := hn ▸ hi
  cases st1 with
  | text hb hord sl tk oI h1 h2 =>
   have hx : (pickOrder (w.params.setOrder a ep) es)[i]? = some ord[i] := by rw [<- Array.getElem?_toList, <- hord]; exact List.getElem?_eq_getElem hio
   refine yg (v := ord[i].2) (nx := sl.toNat) h1 h2 ho e x (fun A E Q' hq => qg hb ho e x (by rw [hx]; exact hq)) fun h' o' hs ho' hIo' => ?_
   exact hQ _ h' s.toks ⟨_, List.getElem?_eq_getElem hio, rfl⟩ ⟨.text hb hord _ _ o' ho' hIo', here h' hs⟩ (ext h' hs)
  | led hb hp hord sl hbel oI h1 h2 =>
   have hie : i < es.size := by rw [x.size]; exact hi
   have hip : i < t.place.size := by
    have := x.fits
    unfold SetTable.fits at this
    simp at this
    rw [this.1]; exact hie
   have hx : es[i]? = some ord[i] := by rw [<- Array.getElem?_toList, <- hord]; exact List.getElem?_eq_getElem hio
   have hnx := Ed x.inv.1 hip
   refine yg (v := ord[i].2) (nx := t.place[i] + 1) h1 h2 ho e x (fun A E Q' hq => tn hb hp ho e x (by
    rw [Int.toNat_natCast, hbel, hx, Array.getElem?_eq_getElem hip]; exact hq)) fun h' o' hs ho' hIo' => ?_
   exact hQ _ h' s.toks ⟨_, List.getElem?_eq_getElem hio, rfl⟩ ⟨.led hb hp hord _ (by simpa using hnx) o' ho' hIo', here h' hs⟩ (ext h' hs)
  | drawn πs m ot h3 htd hlen hπ oI h1 h2 =>
   have hiπ : i < πs.length := by rw [hlen]; exact hio
   have hpl := List.getElem?_eq_getElem hiπ
   have hq := hπ i _ hpl
   rw [List.getElem?_eq_getElem hio] at hq
   refine Ep h1 h2 ho e x h3 htd hpl hq fun h' o' hs ho' hIo' => ?_
   exact hQ _ h' s.toks ⟨_, List.getElem?_eq_getElem hio, rfl⟩ ⟨.drawn πs m ot (hs.extBut tp ot hnt h3) htd hlen hπ o' ho' hIo', here h' hs⟩ (ext h' hs)
 done := fun s Q E st hQ => by
  refine byC fun hC2 => ?_
  obtain ⟨st1, o, ho, e, x⟩ := st
  refine hC2 ?_
  cases st1 with
  | text hb hord sl tk oI h1 h2 =>
   have hx : (pickOrder (w.params.setOrder a ep) es)[n]? = none := by rw [<- Array.getElem?_toList, <- hord]; exact List.getElem?_eq_none (by lia)
   exact Cu hh h1 h2 ho e x (fun A E Q' hq => qg hb ho e x (by rw [hx]; exact hq)) fun h' he' => hQ h' s.toks fun b o hb e => he' b o (fun h => hb (by simp [h])) e
  | led hb hp hord sl hbel oI h1 h2 =>
   have hx : es[n]? = none := Array.getElem?_eq_none (by rw [x.size]; exact Nat.le_refl _)
   exact Cu hh h1 h2 ho e x (fun A E Q' hq => tn hb hp ho e x (by
    rw [Int.toNat_natCast, hbel, hx]; exact hq)) fun h' he' => hQ h' s.toks fun b o hb e => he' b o (fun h => hb (by simp [h])) e
  | drawn πs m ot h3 htd hlen hπ oI h1 h2 =>
   exact Gv hh h1 h2 ho e x h3 htd (List.getElem?_eq_none (by lia)) fun h' he' => hQ h' s.toks fun b o hb e => he' b o (fun h => hb (by simp [h])) e
 self := fun _ _ _ _ st hQ => B7 st.1.typeIs hQ
end
end Mine
end
section
/- iter(a set) -/
open PySem PySem.Calls PyProof.Rows PySem.W PySem.SeqAt PyProof.V
open PySem.Sem (wp)
set_option maxRecDepth 100000
namespace Mine
section
variable {prog : Program} {w : World} {A : Around} {E : Value -> Shared -> Prop} {s : Shared} {S : Int -> Bool} {n : Nat} {es : Array (Int × Value)} {ep : Nat} {t : SetTable} {a I tp : Addr} {i : Nat} {ord : List (Int × Value)}
theorem Bc {o : Obj} {Q : Bool -> Shared -> Prop} (ho : s.heap.get? a = some o) (e : o = { cls := .type "set", dict := none, data := .set es ep t }) (x : di w S n es t) (h : Q (!ByT w && (!t.plain && decide (es.size > 1))) s) : wpAny (model prog w) A (setDrawn a) Q E s := by
 have hd : o.data = .set es ep t := by rw [e]
 unfold setDrawn
 refine wpAny_bind (wpAny_setState_of ho hd x.fits ?_)
 dsimp only
 unfold setsByText
 refine wpAny_bind (wpAny_bind (wpAny_askSetting (wpAny_pure ?_)))
 exact wpAny_pure h
theorem tz {o : Obj} {Q : Nat -> Shared -> Prop} (ho : s.heap.get? a = some o) (e : o = { cls := .type "set", dict := none, data := .set es ep t }) (x : di w S n es t) (h : Q ep s) : wpAny (model prog w) A (setEpoch a) Q E s := by
 have hd : o.data = .set es ep t := by rw [e]
 unfold setEpoch
 exact wpAny_bind (wpAny_setState_of ho hd x.fits (wpAny_pure h))
noncomputable def tu (es : Array (Int × Value)) (πs : List Nat) : List (Int × Value) := πs.filterMap fun j => es[j]?
theorem ny {es : Array (Int × Value)} : ∀ {πs : List Nat}, (∀ j ∈ πs, j < es.size) -> (tu es πs).length = πs.length /\ ∀ (j pl : Nat), πs[j]? = some pl -> es[pl]? = (tu es πs)[j]?
 | [], _ => ⟨rfl, fun j pl e => by simp at e⟩
 | p :: πs, h => by
  have hlt := h p List.mem_cons_self
  have hp : es[p]? = some es[p] := Array.getElem?_eq_getElem hlt
  obtain ⟨h1, h2⟩ := ny (es := es) (πs := πs) fun j hj => h j (List.mem_cons_of_mem _ hj)
  have e : tu es (p :: πs) = es[p] :: tu es πs := by unfold tu; rw [List.filterMap_cons, hp]
  refine ⟨by rw [e]; simp [h1], fun j pl ej => ?_⟩
  rw [e]
  cases j with
  | zero => simp at ej; subst ej; rw [hp]; rfl
  | succ j => simp at ej ⊢; exact h2 j pl ej
theorem Ao (es : Array (Int × Value)) : tu es (List.range es.size) = es.toList := by
 apply List.ext_getElem?
 intro j
 obtain ⟨h1, h2⟩ := ny (es := es) (πs := List.range es.size) fun j hj => List.mem_range.mp hj
 by_cases hj : j < es.size
 ·rw [<- h2 j j (List.getElem?_range hj), Array.getElem?_toList]
 ·rw [List.getElem?_eq_none (by rw [h1]; simpa using hj), List.getElem?_eq_none (by simpa using hj)]
theorem D1 {es : Array (Int × Value)} {πs : List Nat} (h : πs.Perm (List.range es.size)) : (tu es πs).Perm es.toList := by
 rw [<- Ao es]; exact h.filterMap _
theorem Di {o : Obj} {Q : Value -> Shared -> Prop} (ho : s.heap.get? a = some o) (e : o = { cls := .type "set", dict := none, data := .set es ep t }) (x : di w S n es t)
  (hQ : ∀ I tp ord h' d, (∀ b o, s.heap.get? b = some o -> h'.get? b = some o) -> s.heap.objs.size <= I -> (tp = a ∨ s.heap.objs.size <= tp /\ tp ≠ I) -> ord.Perm es.toList -> vj w a I tp es ep t n ord 0 h' -> Q (.ref I) { s with heap := h', drawn := d }) :
  wpAny (model prog w) A (pyIter (.ref a)) Q E s := by
 have hd : o.data = .set es ep t := by rw [e]
 have hT : s.TypeIs (.ref a) "set" := ⟨o, ho, by rw [e]⟩
 refine wpAny_pyIter_slot hT F.slot_set_iter (wpAny_call_entry F.slot_set_iter hT w4 ?_ (F.args_set_iter_1 _))
 unfold Builtin.«frozenset.__iter__» Builtin.Frozenset.slot0 slotArgs
 simp only [List.isEmpty_nil, Bool.not_true, Bool.false_eq_true, ↓reduceIte, bind_assoc, List.length_nil, bne_self_eq_false]
 unfold Builtin.Frozenset.addrOf Builtin.Frozenset.sizeOf
 refine wpAny_bind (wpAny_pure ?_)
 try dsimp only
 refine wpAny_bind (wpAny_pure ?_)
 refine wpAny_bind (wpAny_bind (wpAny_setEntries_of ho hd x.fits (wpAny_pure ?_)))
 refine wpAny_bind (Bc ho e x ?_)
 by_cases hdr : (!ByT w && (!t.plain && decide (es.size > 1))) = true
 ·rw [if_pos hdr]
  refine wpAny_bind (l7 es.size (List.range es.size) _ _ (by simp) fun πs d hp => ?_)
  refine wpAny_bind ?_
  simp only [newTuple]
  refine wpAny_newObj_type ?_ (by show (List.map (fun (i : Nat) => rawInt i) πs).toArray.size <= sizeLine; rw [List.size_toArray, List.length_map, hp.length_eq, List.length_range]; exact Nat.le_trans (Nat.le_of_lt (x.size ▸ x.few)) (by rw [sizeLine_eq]; decide))
  have hπ : ∀ j ∈ πs, j < es.size := fun j hj => List.mem_range.mp (hp.mem_iff.mp hj)
  have ho1 : (s.heap.push { cls := .type "tuple", data := .seq (πs.map fun (i : Nat) => rawInt i).toArray }).get? a = some o := Heap.get?_push_of_some _ ho
  refine wpAny_bind (tz (s := { s with heap := s.heap.push { cls := .type "tuple", data := .seq (πs.map fun (i : Nat) => rawInt i).toArray }, drawn := d }) ho1 e x ?_)
  refine wpAny_bind (wpAny_newObj_type (wpAny_pure ⟨_, rfl, "set_iterator", _, ⟨_, Heap.get?_push_size _ rfl, rfl⟩, b5.lookup, ?_⟩))
  refine hQ _ s.heap.objs.size (tu es πs) _ d (fun b o e => Heap.get?_push_of_some _ (Heap.get?_push_of_some _ e)) (by rw [size_push']; exact Nat.le_succ _) (.inr ⟨Nat.le_refl _, by rw [size_push']; exact Nat.ne_of_lt (Nat.lt_succ_self _)⟩) (D1 hp) ?_
  exact .drawn πs 0 _ (Heap.get?_push_of_some _ (Heap.get?_push_size _ rfl)) rfl (ny hπ).1.symm (ny hπ).2 _ (Heap.get?_push_size _ rfl) ⟨rfl, by simp [rawInt, x.size]⟩
 ·rw [if_neg hdr]
  refine wpAny_bind (wpAny_pure ?_)
  refine wpAny_bind (tz ho e x ?_)
  refine wpAny_bind (wpAny_newObj_type (wpAny_pure ⟨_, rfl, "set_iterator", _, ⟨_, Heap.get?_push_size _ rfl, rfl⟩, b5.lookup, ?_⟩))
  by_cases hb : ByT w = true
  ·refine hQ _ a _ _ s.drawn (fun b o e => Heap.get?_push_of_some _ e) (Nat.le_refl _) (.inl rfl) (wg (w.params.setOrder a ep) es) ?_
   exact .text hb rfl 0 0 _ (Heap.get?_push_size _ rfl) ⟨rfl, by simp [rawInt, x.size]⟩
  ·have hb : ByT w = false := by simpa using hb
   have hp : t.plain = true ∨ es.size <= 1 := by
    rw [hb] at hdr
    simp at hdr
    rcases Bool.eq_false_or_eq_true t.plain with q | q
    ·exact .inl q
    ·exact .inr (hdr q)
   refine hQ _ a _ _ s.drawn (fun b o e => Heap.get?_push_of_some _ e) (Nat.le_refl _) (.inl rfl) (List.Perm.refl _) ?_
   exact .led hb hp rfl 0 (El x.inv.1) _ (Heap.get?_push_size _ rfl) ⟨rfl, by simp [rawInt, x.size]⟩
end
end Mine
end
section
/- all of a set, in a list -/
open PySem PySem.Calls PyProof.Rows PySem.W PySem.SeqAt PyProof.V
open PySem.Sem (wp)
set_option maxRecDepth 100000
namespace Mine
section
variable {prog : Program} {w : World} {A : Around} {E : Value -> Shared -> Prop} {s : Shared} {S : Int -> Bool} {n : Nat} {es : Array (Int × Value)} {ep : Nat} {t : SetTable} {a : Addr}
theorem Bf {o : Obj} {Q : List Value -> Shared -> Prop} (hh : A.in1.handled = none) (ho : s.heap.get? a = some o) (e : o = { cls := .type "set", dict := none, data := .set es ep t }) (x : di w S n es t)
  (hQ : ∀ h' tk d (ord : List (Int × Value)), (∀ b o, s.heap.get? b = some o -> h'.get? b = some o) -> ord.Perm es.toList -> Q (ord.map (·.2)) { s with heap := h', toks := tk, drawn := d }) : wpAny (model prog w) A (collect (.ref a)) Q E s := by
 have hlt : a < s.heap.objs.size := Heap.lt_size ho
 unfold collect
 refine wpAny_bind (wpAny_runValue (codeAny_builtin F.entry_proto_collect ?_))
 rw [Around.under_plainId F.plain_proto_collect _]
 refine (?_ : wpAny _ A.in1 (newList [] >>= fun l => again (.builtin "list.__iadd__" ⟨[l, .ref a], []⟩)) _ _ s)
 refine wpAny_bind (wpAny_newObj_type ?_)
 refine wpAny_pure ⟨plainId_quiet F.plain_list_iadd _, codeAny_builtin F.entry_list_iadd ?_⟩
 rw [Around.under_plainId F.plain_list_iadd _]
 have hne : s.heap.objs.size ≠ a := Nat.ne_of_gt hlt
 have ho1 : (s.heap.push { cls := .type "list", data := .seq ([] : List Value).toArray }).get? a = some o := Heap.get?_push_of_some _ ho
 have hS0 : (s.heap.push { cls := .type "list", data := .seq ([] : List Value).toArray }).get? s.heap.objs.size = some { cls := .type "list", data := .seq ([] : List Value).toArray } := Heap.get?_push_size _ rfl
 refine (?_ : wpAny _ A.in1 (Builtin.List.listExtendWith (.ref s.heap.objs.size) (.ref a) (.ref s.heap.objs.size)) _ _ _)
 unfold Builtin.List.listExtendWith
 refine wpAny_bind (wpAny_typeOf (T := "set") ⟨o, ho1, by rw [e]⟩ ?_)
 have h1 : Builtin.List.listSameRef (.ref s.heap.objs.size) (.ref a) = false := by simp [Builtin.List.listSameRef, hne]
 rw [if_neg (by rw [h1]; decide)]
 refine wpAny_bind (Di (s := { s with heap := s.heap.push { cls := .type "list", data := .seq ([] : List Value).toArray } }) ho1 e x fun I tp ord h2 d hk hI htp hp hst => ?_)
 have ho2 := hk _ _ ho1
 have hS2 := hk _ _ hS0
 refine wpAny_bind (wpAny_holding ?_)
 unfold Builtin.List.listLengthHint
 refine wpAny_bind (wpAny_specialOf (T := "set") ⟨o, ho2, by rw [e]⟩ F.slot_set_len.lookup ?_)
 generalize hid : ("set.__len__" : String) = id0
 wp_delta
 rw [show splitId id0 = some ("set", "__len__") from by subst hid; decide +kernel]
 subst hid
 refine wpAny_bind (wpAny_isInstance (T := "set") (b := true) ⟨o, ho2, by rw [e]⟩ (by rw [isSubtype_type]; kernel_rfl) ?_)
 rw [if_neg (by decide)]
 dsimp only
 rw [if_pos (by decide +kernel)]
 refine wpAny_bind (wpAny_typeOf (T := "set") ⟨o, ho2, by rw [e]⟩ ?_)
 refine wpAny_pure ?_
 rw [if_pos (by decide +kernel)]
 refine wpAny_bind (wpAny_rule ?_)
 refine wpAny_bind ?_
 refine (?_ : wpAny _ A.in1 (updateSeq s.heap.objs.size (·.push .none) >>= fun _ => updateSeq s.heap.objs.size (·.pop)) _ _ _)
 refine wpAny_bind (wpAny_updateSeq hS2 rfl ?_)
 have hS3 := Heap.get?_update_self (Obj.mapSeq (·.push Value.none)) hS2 rfl
 refine wpAny_updateSeq hS3 rfl ?_
 have hS4 := Heap.get?_update_self (Obj.mapSeq (·.pop)) hS3 rfl
 have oth : ∀ b o, b ≠ s.heap.objs.size -> h2.get? b = some o -> ((h2.update s.heap.objs.size (Obj.mapSeq (·.push Value.none))).update s.heap.objs.size (Obj.mapSeq (·.pop))).get? b = some o :=
  fun b o hb e => (Heap.get?_update_other _ _ (Ne.symm hb)).trans ((Heap.get?_update_other _ _ (Ne.symm hb)).trans e)
 have hI : s.heap.objs.size + 1 <= I := by rw [size_push'] at hI; exact hI
 have htp : tp = a ∨ s.heap.objs.size + 1 <= tp /\ tp ≠ I := by rw [size_push'] at htp; exact htp
 have hIS : I ≠ s.heap.objs.size := by lia
 have htS : tp ≠ s.heap.objs.size := by
  rcases htp with q | q
  ·rw [q]; exact Ne.symm hne
  ·exact Nat.ne_of_gt q.1
 have haI : a ≠ I := Nat.ne_of_lt (Nat.lt_of_lt_of_le hlt (Nat.le_trans (Nat.le_succ _) hI))
 have htI : tp ≠ I := by
  rcases htp with q | q
  ·rw [q]; exact haI
  ·exact q.2
 have hW := (Hj (prog := prog) (w := w) (S := S) (es := es) (ep := ep) (t := t) (ord := ord) (a := a) (I := I) (tp := tp) hh haI htI (hp.length_eq.trans ((Array.length_toList ..).trans x.size))).toS
 refine wpAny_pure ⟨plainId_quiet F.plain_extend_loop _, codeAny_extend_loopS hW (Nat.le_trans (Nat.le_of_lt x.few) (by rw [sizeLine_eq]; decide)) s.heap.objs.size (by simp; exact ⟨Ne.symm hIS, hne, Ne.symm htS⟩) _ n 0 _ _ _ rfl (Nat.zero_le _)
  ⟨hst.keep (fun o e => oth I o hIS e) (fun o e => oth tp o htS e), o, oth a o (Ne.symm hne) ho2, e, x⟩ hS4 (ItemsOf.nil _) fun s' acc' c' hm hS' hacc => ?_⟩
 refine (?_ : wpAny _ A (load s.heap.objs.size >>= _) _ _ s')
 refine wpAny_bind (wpAny_load hS' ?_)
 have hl : acc'.toList = ord.map (·.2) := by
  apply List.ext_getElem?
  intro j
  rw [Array.getElem?_toList, List.getElem?_map]
  by_cases hj : j < n
  ·have hj' : j < acc'.size := by rw [hacc.1]; exact hj
   refine byC fun hC1 => ?_
   obtain ⟨q, hq, hv⟩ := hacc.2 j _ (Array.getElem?_eq_getElem hj')
   refine hC1 ?_
   rw [Array.getElem?_eq_getElem hj', hq, hv]; rfl
  ·rw [Array.getElem?_eq_none (by rw [hacc.1]; lia), List.getElem?_eq_none (by rw [hp.length_eq, Array.length_toList, x.size]; lia)]; rfl
 refine wpAny_pure ?_
 refine (?_ : Q acc'.toList s')
 rw [hl]
 refine byC fun hC2 => ?_
 obtain ⟨hp', g', d', tk', os'⟩ := s'
 refine hC2 ?_
 have hg : g' = s.gens := hm.gens
 have hos : os' = s.os := hm.os
 rw [hg, hos]
 refine hQ hp' tk' d' ord (fun b ob hb => ?_) hp
 have hlb : b < s.heap.objs.size := Heap.lt_size hb
 have hbS : b ≠ s.heap.objs.size := Nat.ne_of_lt hlb
 have hbI : b ≠ I := Nat.ne_of_lt (Nat.lt_of_lt_of_le hlb (Nat.le_trans (Nat.le_succ _) hI))
 exact hm.heap b ob (by simp; exact ⟨hbS, hbI⟩) (oth b ob hbS (hk b ob (Heap.get?_push_of_some _ hb)))
end
end Mine
end
section
/- sorted(a set) -/
open PySem PySem.Calls PyProof.Rows PySem.W PySem.SeqAt PyProof.V
open PySem.Sem (wp)
set_option maxRecDepth 100000
namespace Mine
theorem rz : ∀ {l : List (Int × Value)}, (∀ e ∈ l, ∃ k tk, e = (hashInt k, .int k tk)) -> IntsAre (l.map (·.2)) (l.map fun e => yq e.2)
 | [], _ => .nil
 | e :: l, h => by
  obtain ⟨k, tk, rfl⟩ := h e List.mem_cons_self
  exact .cons k tk (rz fun e he => h e (List.mem_cons_of_mem _ he))
theorem Lh {κ : Kp} {vs : List Value} {l : List Int} (h : IntsAre vs l) : RL κ (l.map .int) vs := by
 induction h with
 | nil => rfl
 | cons n t h ih => exact ⟨_, _, rfl, ⟨_, rfl⟩, ih⟩
section
variable {prog : Program} {w : World} {A : Around} {E : Value -> Shared -> Prop} {s : Shared} {S : Int -> Bool} {n : Nat} {es : Array (Int × Value)} {ep : Nat} {t : SetTable} {a : Addr}
theorem uh {o : Obj} {Q : Value -> Shared -> Prop} (hh : A.handled = none) (ho : s.heap.get? a = some o) (hI : ce w S n o)
  (hQ : ∀ L ob h' tk d (ns : List Int) (vs : List Value) (m : Nat), s.heap.get? L = none -> (∀ b o, s.heap.get? b = some o -> h'.get? b = some o) -> ob = { cls := .type "list", data := .seq vs.toArray m } -> h'.get? L = some ob -> IntsAre vs ns -> ns.Pairwise (· <= ·) -> ns.Nodup -> (∀ k, k ∈ ns ↔ S k = true) -> Q (.ref L) { s with heap := h', toks := tk, drawn := d }) :
  wpAny (model prog w) A (call (.builtin "sorted") [.ref a]) Q E s := by
 refine byC fun hC1 => ?_
 obtain ⟨es, ep, t, e, x⟩ := hI
 refine hC1 ?_
 refine Calls.call_function_entry kind_sorted plain_sorted entry_sorted (args_sorted1 _) ?_
 unfold Builtin.«sorted»
 refine wpAny_bind (m := checkCount "sorted" 1 1 _) (wpAny_pure ?_)
 refine wpAny_bind (Bf (by simpa using hh) ho e x fun h1 tk d ord hk hp => ?_)
 have hlen : ord.length = n := hp.length_eq.trans ((Array.length_toList ..).trans x.size)
 refine wpAny_bind (wpAny_newList ?_ (by show (List.map (fun (x : Int × Value) => x.2) ord).toArray.size <= sizeLine; rw [List.size_toArray, List.length_map, hlen]; exact Nat.le_trans (Nat.le_of_lt x.few) (by rw [sizeLine_eq]; decide)))
 have hoL : (h1.push (seqObj "list" (ord.map (·.2)).toArray 0)).get? h1.objs.size = some (seqObj "list" (ord.map (·.2)).toArray 0) := Heap.get?_push_size _ rfl
 have hI : IntsAre (ord.map (·.2)) (ord.map fun e => yq e.2) := rz fun e he => x.whole e (hp.mem_iff.mp he)
 refine wpAny_bind (wpAny_holding (wpAny_call_entry slot_list_sort ⟨_, hoL, rfl⟩ entry_list_sort (list_sort_tree hoL hI (by rw [List.length_map, hlen]; exact x.few) fun out ns' a1 a2 a3 => ⟨_, rfl, ?_⟩) (args_list_sort _)))
 refine byC fun hC2 => ?_
 obtain ⟨m, hm⟩ := sortedHeap_at (out := out) hoL
 refine hC2 ?_
 refine wpAny_pure ⟨_, rfl, hQ h1.objs.size _ _ tk d ns' out.toList m ?_ (fun b ob hb => ?_) rfl hm a1 a3 ?_ fun k => ?_⟩
 ·exact bz fun o' q => absurd (Heap.lt_size (hk _ _ q)) (Nat.lt_irrefl _)
 ·have h2 := hk b ob hb
  have hlt := Heap.lt_size h2
  rw [sortedHeap_old (Nat.ne_of_lt hlt) (by rw [size_push']; exact Nat.lt_succ_of_lt hlt)]
  exact Heap.get?_push_of_some _ h2
 ·exact (a2.nodup_iff).mpr ((hp.map _).nodup_iff.mpr x.nd)
 ·rw [a2.mem_iff, (hp.map _).mem_iff, x.mem k]
end
section
variable {C : Cx} {A : Around} {G : Gd} {ae : a9} {st : List ac}
theorem Aa {i n : Nat} {S : Int -> Bool} {Q : AV -> List ac -> Prop} (hh : A.handled = none) (hi : st[i]? = some (.raw (ce C.w S n))) (q : ∀ ns : List Int, ns.Pairwise (· <= ·) -> ns.Nodup -> (∀ k, k ∈ ns ↔ S k = true) -> Q (.d (.list (ns.map .int))) st) :
  wBi C A G st (.builtin "sorted") [.obj i] Q := fun κ σ s vs X r => by
 refine byC fun hC1 => ?_
 obtain ⟨v, rfl, b, hb, rfl⟩ := r.one
 obtain ⟨b', o, hb', hκ, hφ, ho, hI⟩ := X.get hi trivial
 refine hC1 ?_
 cases hb.symm.trans hb'
 refine uh hh ho hI fun L ob h' tk d ns vs m hn hk hob hL hv h1 h2 h3 => ?_
 obtain ⟨k1, X1⟩ := X.data (s' := { s with heap := h', toks := tk, drawn := d }) hn hk hL rfl rfl
 refine ⟨_, σ, .d (.list (ns.map .int)), st, k1, List.prefix_refl _, X1, ?_, q ns h1 h2 h3⟩
 simp only [RV, R]
 exact ⟨L, ob, vs.toArray, m, rfl, if_pos rfl, by rw [hob], by rw [hob], by rw [hob], by simpa using Lh hv⟩
end
end Mine
end
section
/- list(enumerate(a list)) -/
open PySem PySem.Calls PyProof.Rows PySem.W PySem.SeqAt PyProof.V
open PySem.Sem (wp)
set_option maxRecDepth 100000
namespace Mine
noncomputable abbrev iu (f0 : Value) (b : Bool) (it : Addr) (i : Nat) (old : Value) : Obj := { cls := .type "enumerate", dict := none, data := .fields #[f0, .bool b, .ref it, rawInt i, .none, old], slots := #[] }
inductive i9 (h : Heap) (e it : Addr) (i : Nat) : Prop
 | mk (f0 : Value) (b : Bool) (old : Value) (h1 : h.get? e = some (iu f0 b it i old)) (hf : f0 = .none ∨ ∃ T : Nat, f0 = rawInt T)
section
variable {prog : Program} {w : World} {A : Around} {E : Value -> Shared -> Prop} {s : Shared}
theorem rq {a : Addr} {Q : Option Obj -> Shared -> Prop} (h : Q (s.heap.get? a) s) : wpAny (model prog w) A (loadIfAlive a) Q E s := fun Γ p hΓ => h
theorem zz {e it : Addr} {i : Nat} {f0 old : Value} {b : Bool} {Q : Bool -> Shared -> Prop} (he : s.heap.get? e = some (iu f0 b it i old)) (hf : f0 = .none ∨ ∃ T : Nat, f0 = rawInt T)
  (hQ : ∀ r h' b', h'.get? e = some (iu f0 b' it i old) -> Heap.SameBut e s.heap h' -> Q r { s with heap := h' }) : wpAny (model prog w) A (Builtin.SmallTypes.ownedTupleIsFree (.ref e)) Q E s := by
 have es : s = { s with heap := s.heap } := by cases s; rfl
 have same : ∀ r, Q r s := fun r => by rw [es]; exact hQ r _ b he (Heap.SameBut.refl e s.heap)
 unfold Builtin.SmallTypes.ownedTupleIsFree
 refine wpAny_bind (wpAny_field he rfl (x := f0) rfl ?_)
 rcases hf with rfl | ⟨T, rfl⟩
 ·exact wpAny_pure (same true)
 ·refine (?_ : wpAny _ _ (loadIfAlive (Int.toNat T) >>= _) _ _ s)
  refine wpAny_bind (rq ?_)
  cases hT : s.heap.get? (Int.toNat T) with
  | none => exact wpAny_pure (same true)
  | some oT =>
   refine (?_ : wpAny _ _ (field (.ref e) 1 >>= _) _ _ s)
   refine wpAny_bind (wpAny_field he rfl (x := .bool b) rfl ?_)
   cases b with
   | true => exact wpAny_pure (same false)
   | false =>
    refine (?_ : wpAny _ _ (setField (.ref e) 1 (.bool true) >>= _) _ _ s)
    refine wpAny_bind (wpAny_setField_rec he (by simp) fun h₂ he₂ hs₂ => ?_)
    exact wpAny_pure (hQ false h₂ true he₂ hs₂)
theorem Gp {e it l : Addr} {i : Nat} {items : Array Value} {x : Value} {Q : Option Value -> Shared -> Prop}
  (he : i9 s.heap e it i) (hit : s.heap.IsListIter it l i) (hl : s.heap.IsList l items) (hx : items[i]? = some x) (hne : e ≠ it)
  (hQ : ∀ h' tk, i9 h' e it (i + 1) -> h'.IsListIter it l (i + 1) -> h'.get? s.heap.objs.size = some { cls := .type "tuple", data := .seq #[.int i tk, x] } -> (∀ b o, b ≠ e -> b ≠ it -> s.heap.get? b = some o -> h'.get? b = some o) -> Q (some (.ref s.heap.objs.size)) { s with heap := h', toks := s.toks + 1 }) :
  wpAny (model prog w) A (pyNext (.ref e)) Q E s := by
 refine byC fun hC1 => ?_
 obtain ⟨f0, b, old, he, hf⟩ := he
 refine hC1 ?_
 have hT : s.TypeIs (.ref e) "enumerate" := ⟨_, he, rfl⟩
 unfold pyNext
 refine wpAny_bind (wpAny_attempt (wpAny_callSpecial?_slot (name := Str.ofString "__next__") hT F.slot_enumerate_next
  (wpAny_call_entry F.slot_enumerate_next hT F.entry_enumerate_next ?_ (F.args_enumerate_next_1 _))))
 refine byC fun hC2 => ?_
 obtain ⟨hp, g, d, tk, os⟩ := s
 refine hC2 ?_
 refine (?_ : wpAny _ _ (field (.ref e) 2 >>= _) _ _ _)
 refine wpAny_bind (wpAny_field he rfl (x := .ref it) rfl ?_)
 refine wpAny_bind (wpAny_nextOf_list_item hit hl hx fun h₁ hit₁ hs₁ => ?_)
 replace hs₁ : Heap.SameBut it hp h₁ := hs₁
 have he₁ : h₁.get? e = some (iu f0 b it i old) := (hs₁.2 e hne).trans he
 refine (?_ : wpAny _ _ (field (.ref e) 3 >>= _) _ _ ⟨h₁, g, d, tk, os⟩)
 refine wpAny_bind (wpAny_field he₁ rfl (x := rawInt i) rfl ?_)
 refine (?_ : wpAny _ _ (field (.ref e) 4 >>= _) _ _ ⟨h₁, g, d, tk, os⟩)
 refine wpAny_bind (wpAny_field he₁ rfl (x := .none) rfl ?_)
 refine (?_ : wpAny _ _ (mkInt i >>= _) _ _ ⟨h₁, g, d, tk, os⟩)
 refine wpAny_bind (wpAny_mkInt ?_)
 refine (?_ : wpAny _ _ (setField (.ref e) 3 (rawInt ((i : Int) + 1)) >>= _) _ _ ⟨h₁, g, d, tk + 1, os⟩)
 refine wpAny_bind (wpAny_setField_rec he₁ (by simp) fun h₂ he₂ hs₂ => ?_)
 replace hs₂ : Heap.SameBut e h₁ h₂ := hs₂
 replace he₂ : h₂.get? e = some (iu f0 b it (i + 1) old) := he₂
 refine (?_ : wpAny _ _ (setField (.ref e) 4 .none >>= _) _ _ ⟨h₂, g, d, tk + 1, os⟩)
 refine wpAny_bind (wpAny_setField_rec he₂ (by simp) fun h₃ he₃ hs₃ => ?_)
 replace hs₃ : Heap.SameBut e h₂ h₃ := hs₃
 replace he₃ : h₃.get? e = some (iu f0 b it (i + 1) old) := he₃
 refine (?_ : wpAny _ _ (newTuple [.int i tk, x] >>= _) _ _ ⟨h₃, g, d, tk + 1, os⟩)
 refine wpAny_bind (wpAny_newTuple ?_)
 have he₄ : (h₃.push { cls := .type "tuple", data := .seq #[.int i tk, x] }).get? e = some (iu f0 b it (i + 1) old) := Heap.get?_push_of_some _ he₃
 generalize hh₄ : h₃.push { cls := .type "tuple", data := .seq #[.int i tk, x] } = h₄ at he₄
 have hsz : h₃.objs.size = hp.objs.size := by rw [hs₃.1, hs₂.1, hs₁.1]
 have hel : e < hp.objs.size := Heap.lt_size he
 have ht₄ : h₄.get? hp.objs.size = some { cls := .type "tuple", data := .seq #[.int i tk, x] } := by rw [<- hh₄, <- hsz]; exact Heap.get?_push_size _ rfl
 have hk₄ : ∀ b o, b ≠ e -> b ≠ it -> hp.get? b = some o -> h₄.get? b = some o := fun b o hbe hbi hb => by
  rw [<- hh₄]; exact Heap.get?_push_of_some _ (hs₃.extBut b o hbe (hs₂.extBut b o hbe (hs₁.extBut b o hbi hb)))
 have hit₄ : h₄.IsListIter it l (i + 1) := by
  rw [<- hh₄]; obtain ⟨o, ho, r⟩ := (hit₁.extBut hs₂.extBut (Ne.symm hne)).extBut hs₃.extBut (Ne.symm hne); exact ⟨o, Heap.get?_push_of_some _ ho, r⟩
 have fin : ∀ h₅ : Heap, Heap.SameBut e h₄ h₅ -> i9 h₅ e it (i + 1) -> Q (some (.ref hp.objs.size)) ⟨h₅, g, d, tk + 1, os⟩ := fun h₅ hs₅ hE =>
  hQ h₅ tk hE (hit₄.extBut hs₅.extBut (Ne.symm hne)) (hs₅.extBut _ _ (Nat.ne_of_gt hel) ht₄) fun b o hbe hbi hb => hs₅.extBut b o hbe (hk₄ b o hbe hbi hb)
 refine (?_ : wpAny _ _ (Builtin.SmallTypes.ownedTupleIsFree (.ref e) >>= _) _ _ ⟨h₄, g, d, tk + 1, os⟩)
 rw [hsz]
 clear hh₄ he₃ hs₃ he₂ hs₂ he₁ hs₁ hit₁ hsz h₃ h₂ h₁
 refine wpAny_bind (zz (s := ⟨h₄, g, d, tk + 1, os⟩) he₄ hf fun r h₅ b' he₅ hs₅ => ?_)
 cases r with
 | false => exact wpAny_pure ⟨_, rfl, wpAny_pure (fin h₅ hs₅ ⟨_, _, _, he₅, hf⟩)⟩
 | true =>
  simp only [if_true]
  refine wpAny_bind (wpAny_rule ?_)
  refine wpAny_bind (wpAny_field (s := ⟨h₅, g, d, tk + 1, os⟩) he₅ rfl (x := old) rfl ?_)
  refine wpAny_bind (wpAny_setField_rec (s := ⟨h₅, g, d, tk + 1, os⟩) he₅ (by simp) fun h₆ he₆ hs₆ => ?_)
  replace hs₆ : Heap.SameBut e h₅ h₆ := hs₆
  replace he₆ : h₆.get? e = some (iu f0 b' it (i + 1) x) := he₆
  refine (?_ : wpAny _ _ (Builtin.SmallTypes.ownedTupleHandOut (.ref e) (.ref hp.objs.size) >>= _) _ _ ⟨h₆, g, d, tk + 1, os⟩)
  refine wpAny_bind ?_
  unfold Builtin.SmallTypes.ownedTupleHandOut
  refine wpAny_bind (wpAny_setField_rec he₆ (by simp) fun h₇ he₇ hs₇ => ?_)
  replace hs₇ : Heap.SameBut e h₆ h₇ := hs₇
  replace he₇ : h₇.get? e = some (iu (rawInt hp.objs.size) b' it (i + 1) x) := he₇
  refine wpAny_setField_rec he₇ (by simp) fun h₈ he₈ hs₈ => ?_
  replace hs₈ : Heap.SameBut e h₇ h₈ := hs₈
  replace he₈ : h₈.get? e = some (iu (rawInt hp.objs.size) false it (i + 1) x) := he₈
  exact wpAny_bind (wpAny_letGo (wpAny_pure ⟨_, rfl, wpAny_pure (fin h₈ (((hs₅.trans hs₆).trans hs₇).trans hs₈) ⟨_, _, _, he₈, .inr ⟨_, rfl⟩⟩)⟩))
end
end Mine
end
section
/- list(enumerate(a list)), made -/
open PySem PySem.Calls PyProof.Rows PySem.W PySem.SeqAt PyProof.V
open PySem.Sem (wp)
set_option maxRecDepth 100000
namespace Mine
theorem Ax : typeLookup (.type "enumerate") "__len__" = pure none := by rw [typeLookup_type, builtinLookup_eq_fast]; kernel_rfl
theorem zr : typeLookup (.type "enumerate") "__length_hint__" = pure none := by rw [typeLookup_type, builtinLookup_eq_fast]; kernel_rfl
theorem i9.typeIs {s : Shared} {e it : Addr} {i : Nat} (h : i9 s.heap e it i) : s.TypeIs (.ref e) "enumerate" := by obtain ⟨f0, b, old, h1, hf⟩ := h; exact ⟨_, h1, rfl⟩
theorem i9.keep {h h' : Heap} {e it : Addr} {i : Nat} (x : i9 h e it i) (k : ∀ o, h.get? e = some o -> h'.get? e = some o) : i9 h' e it i := by obtain ⟨f0, b, old, h1, hf⟩ := x; exact ⟨f0, b, old, k _ h1, hf⟩
inductive ip (h0 h : Heap) (ex : List Addr) (items acc : Array Value) : Prop
 | mk (hl : acc.size <= items.size) (ht : ∀ (m : Nat) (v : Value), acc[m]? = some v -> ∃ (T : Addr) (tk : Tok) (x : Value), v = .ref T /\ T ∉ ex /\ h0.get? T = none /\ items[m]? = some x /\ h.get? T = some { cls := .type "tuple", data := .seq #[.int m tk, x] })
theorem ip.keep {h0 h h' : Heap} {ex : List Addr} {items acc : Array Value} (x : ip h0 h ex items acc) (k : ∀ b o, b ∉ ex -> h.get? b = some o -> h'.get? b = some o) : ip h0 h' ex items acc := by
 refine byC fun hC1 => ?_
 obtain ⟨hl, ht⟩ := x
 refine hC1 ?_
 refine ⟨hl, fun m v e => ?_⟩
 refine byC fun hC2 => ?_
 obtain ⟨T, tk, x, h1, h2, h0, h3, h4⟩ := ht m v e
 refine hC2 ?_
 exact ⟨T, tk, x, h1, h2, h0, h3, k _ _ h2 h4⟩
theorem ip.push {h0 h : Heap} {ex : List Addr} {items acc : Array Value} {T : Addr} {tk : Tok} {v : Value} (x : ip h0 h ex items acc) (hv : items[acc.size]? = some v) (hT : T ∉ ex) (hT0 : h0.get? T = none) (ho : h.get? T = some { cls := .type "tuple", data := .seq #[.int (acc.size : Nat) tk, v] }) : ip h0 h ex items (acc.push (.ref T)) := by
 obtain ⟨hl, ht⟩ := x
 have hlt : acc.size < items.size := (Array.getElem?_eq_some_iff.mp hv).1
 refine ⟨by rw [Array.size_push]; exact hlt, fun m u e => ?_⟩
 rw [Array.getElem?_push] at e
 split at e
 ·next q => cases e; subst q; exact ⟨T, tk, v, rfl, hT, hT0, hv, ho⟩
 ·exact ht m u e
inductive Q2 (h0 : Heap) (L e it l : Addr) (items acc : Array Value) (h : Heap) : Prop
 | mk (c : Nat) (hE : i9 h e it acc.size) (hit : h.IsListIter it l acc.size) (hl : h.IsList l items) (hS : h.get? L = some { cls := .type "list", data := .seq acc c }) (hp : ip h0 h [L, e, it] items acc) (hk : ∀ b o, h0.get? b = some o -> h.get? b = some o)
section
variable {prog : Program} {w : World} {A : Around} {E : Value -> Shared -> Prop} {s : Shared}
theorem J4 {e it l : Addr} {i : Nat} {items : Array Value} {Q : Option Value -> Shared -> Prop} (hh : A.handled = none)
  (he : i9 s.heap e it i) (hit : s.heap.IsListIter it l i) (hl : s.heap.IsList l items) (hx : items[i]? = none)
  (hQ : ∀ h', Heap.ExtBut it s.heap h' -> Q none { s with heap := h' }) : wpAny (model prog w) A (pyNext (.ref e)) Q E s := by
 have hT := he.typeIs
 refine byC fun hC1 => ?_
 obtain ⟨f0, b, old, he, hf⟩ := he
 refine hC1 ?_
 unfold pyNext
 refine wpAny_bind (wpAny_attempt (wpAny_callSpecial?_slot (name := Str.ofString "__next__") hT F.slot_enumerate_next
  (wpAny_call_entry F.slot_enumerate_next hT F.entry_enumerate_next ?_ (F.args_enumerate_next_1 _))))
 refine (?_ : wpAny _ _ (field (.ref e) 2 >>= _) _ _ _)
 refine wpAny_bind (wpAny_field he rfl (x := .ref it) rfl ?_)
 refine wpAny_bind (wpAny_nextOf_list_end hh hit hl hx fun h' x he' hx' => ?_)
 refine byC fun hC2 => ?_
 obtain ⟨o, ho, hc⟩ := hx'
 refine hC2 ?_
 refine wpAny_bind (wpAny_isInstance (T := "StopIteration") (b := true) ⟨o, ho, hc⟩ isSubtype_stop ?_)
 exact wpAny_pure (hQ _ he')
theorem Rd {b L e it : Addr} (h1 : b ≠ L) (h2 : b ≠ e) (h3 : b ≠ it) : b ∉ [L, e, it] := fun h => by
 simp only [List.mem_cons, List.not_mem_nil, or_false] at h
 rcases h with h | h | h
 ·exact h1 h
 ·exact h2 h
 ·exact h3 h
theorem uu {b L e it : Addr} (h : b ∉ [L, e, it]) : b ≠ L /\ b ≠ e /\ b ≠ it := by
 simp only [List.mem_cons, List.not_mem_nil, or_false, not_or] at h
 exact h
theorem G0 {R : Result -> Shared -> Prop} {h0 : Heap} {L e it l : Addr} {items : Array Value} (hh : A.in1.handled = none) (h1 : L ≠ e) (h2 : L ≠ it) (h3 : e ≠ it) (n1 : h0.get? L = none) (n2 : h0.get? e = none) (n3 : h0.get? it = none) (hl0 : ∃ o, h0.get? l = some o) (hz : items.size <= sizeLine) (res : Value) :
  ∀ (k : Nat) (s : Shared) (acc : Array Value), items.size - acc.size = k -> Q2 h0 L e it l items acc s.heap →
  (∀ h' tk (acc' : Array Value) c', acc'.size = items.size -> h'.get? L = some { cls := .type "list", data := .seq acc' c' } -> ip h0 h' [L, e, it] items acc' -> (∀ b o, h0.get? b = some o -> h'.get? b = some o) -> R (.ok (.ret res)) { s with heap := h', toks := tk }) →
  codeAny (model prog w) A (.builtin "list.extend.loop" ⟨[.ref L, .ref e, res], []⟩) R s := by
 have ne : ∀ {b : Addr} {o : Obj} {c : Addr}, h0.get? b = some o -> h0.get? c = none -> b ≠ c := fun hb hc q => by rw [q, hc] at hb; cases hb
 obtain ⟨ol, hl0⟩ := hl0
 have hlL : l ≠ L := ne hl0 n1
 intro k
 induction k with
 | zero =>
  intro s acc hk hI hR
  obtain ⟨c, hE, hit, hl, hS, hp, hkk⟩ := hI
  have hin : acc.size = items.size := by obtain ⟨q, _⟩ := hp; lia
  refine codeAny_builtin F.entry_extend_loop ?_
  rw [Around.under_plainId F.plain_extend_loop _]
  refine (?_ : wpAny _ A.in1 (pyNext (.ref e) >>= _) _ _ s)
  refine wpAny_bind (J4 hh hE hit hl (Array.getElem?_eq_none (Nat.le_of_eq hin.symm)) fun h' hx => ?_)
  exact wpAny_pure (hR h' s.toks acc c hin (hx L _ h2 hS) (hp.keep fun b o hb q => hx b o (uu hb).2.2 q) fun b o q => hx b o (ne q n3) (hkk b o q))
 | succ k ih =>
  intro s acc hk hI hR
  obtain ⟨c, hE, hit, hl, hS, hp, hkk⟩ := hI
  have hlt : acc.size < items.size := by lia
  have hLlt : L < s.heap.objs.size := Heap.lt_size hS
  have helt : e < s.heap.objs.size := by obtain ⟨_, _, _, q, _⟩ := hE; exact Heap.lt_size q
  have hilt : it < s.heap.objs.size := by obtain ⟨_, q, _⟩ := hit; exact Heap.lt_size q
  refine codeAny_builtin F.entry_extend_loop ?_
  rw [Around.under_plainId F.plain_extend_loop _]
  refine (?_ : wpAny _ A.in1 (pyNext (.ref e) >>= _) _ _ s)
  refine wpAny_bind (Gp hE hit hl (Array.getElem?_eq_getElem hlt) h3 fun h' tk hE' hit' hT hk' => ?_)
  have hS' := hk' L _ h1 h2 hS
  have hl' : h'.IsList l items := by obtain ⟨o, a, b⟩ := hl; exact ⟨o, hk' l o (ne hl0 n2) (ne hl0 n3) a, b⟩
  have hTn : s.heap.objs.size ∉ [L, e, it] := Rd (Nat.ne_of_gt hLlt) (Nat.ne_of_gt helt) (Nat.ne_of_gt hilt)
  have hp' := (hp.keep fun b o hb q => hk' b o (uu hb).2.1 (uu hb).2.2 q).push (Array.getElem?_eq_getElem hlt) hTn (bz fun o q => absurd (Heap.lt_size (hkk _ _ q)) (Nat.lt_irrefl _)) hT
  refine (?_ : wpAny _ A.in1 (updateSeq L (·.push (.ref s.heap.objs.size)) >>= _) _ _ _)
  refine wpAny_bind ?_
  have oth : ∀ b o, b ≠ L -> h'.get? b = some o -> (h'.update L (Obj.mapSeq (·.push (.ref s.heap.objs.size)))).get? b = some o := fun b o hb q => (Heap.get?_update_other _ _ (Ne.symm hb)).trans q
  have hS2 := Heap.get?_update_self (Obj.mapSeq (·.push (.ref s.heap.objs.size))) hS' rfl
  refine wpAny_updateSeq hS' rfl (wpAny_pure ⟨plainId_quiet F.plain_extend_loop _, ih _ (acc.push (.ref s.heap.objs.size)) (by rw [Array.size_push]; lia) ⟨_, ?_, ?_, ?_, hS2, hp'.keep fun b o hb q => oth b o (uu hb).1 q, fun b o q => ?_⟩ fun h'' tk' acc' c' a1 a2 a3 a4 => ?_⟩)
   (by lia) (by show (acc.push _).size <= sizeLine + 1; rw [Array.size_push]; lia)
  ·rw [Array.size_push]; exact hE'.keep fun o q => oth e o (Ne.symm h1) q
  ·rw [Array.size_push]; obtain ⟨o, a, b⟩ := hit'; exact ⟨o, oth it o (Ne.symm h2) a, b⟩
  ·obtain ⟨o, a, b⟩ := hl'; exact ⟨o, oth l o hlL a, b⟩
  ·exact oth b o (ne q n1) (hk' b o (ne q n2) (ne q n3) (hkk b o q))
  ·exact hR h'' tk' acc' c' a1 a2 a3 a4
theorem xd {Q : Value -> Shared -> Prop} {h0 : Heap} {e it l : Addr} {items : Array Value} (hh : A.in1.in1.handled = none) (h3 : e ≠ it) (n0 : ∀ b o, h0.get? b = some o -> s.heap.get? b = some o) (n2 : h0.get? e = none) (n3 : h0.get? it = none) (hl0 : ∃ o, h0.get? l = some o)
  (hE : i9 s.heap e it 0) (hit : s.heap.IsListIter it l 0) (hl : s.heap.IsList l items) (hz : items.size <= sizeLine)
  (hQ : ∀ h' tk (acc' : Array Value) c', acc'.size = items.size -> h'.get? s.heap.objs.size = some { cls := .type "list", data := .seq acc' c' } -> ip h0 h' [s.heap.objs.size, e, it] items acc' -> (∀ b o, h0.get? b = some o -> h'.get? b = some o) -> Q (.ref s.heap.objs.size) { s with heap := h', toks := tk }) :
  wpAny (model prog w) A (call (.type "list") [.ref e]) Q E s := by
 refine callType_codes (Q₁ := fun obj s₁ => obj = .ref s.heap.objs.size /\ s₁ = { s with heap := s.heap.push { cls := .type "list", data := .seq #[] } }) F.called_list (F.typeCall_list_1 _) F.entry_list_init
  (code_list_new _ ⟨rfl, rfl⟩) fun obj s₁ h₁ => ?_
 obtain ⟨rfl, rfl⟩ := h₁
 have hS : (s.heap.push { cls := .type "list", data := .seq #[] }).get? s.heap.objs.size = some { cls := .type "list", data := .seq #[] } := Heap.get?_push_size _ rfl
 have helt : e < s.heap.objs.size := by obtain ⟨_, _, _, q, _⟩ := hE; exact Heap.lt_size q
 have hilt : it < s.heap.objs.size := by obtain ⟨_, q, _⟩ := hit; exact Heap.lt_size q
 have hllt : l < s.heap.objs.size := by obtain ⟨_, q⟩ := hl0; exact Heap.lt_size (n0 _ _ q)
 have hSe : s.heap.objs.size ≠ e := Nat.ne_of_gt helt
 have hSi : s.heap.objs.size ≠ it := Nat.ne_of_gt hilt
 have n1 : h0.get? s.heap.objs.size = none := bz fun o q => absurd (Heap.lt_size (n0 _ _ q)) (Nat.lt_irrefl _)
 refine ⟨⟨_, hS, rfl⟩, F.args_list_init_2 _ _, ?_⟩
 show wpAny _ _ (do let old ← Builtin.List.listItems (.ref s.heap.objs.size); Builtin.List.listUpdate (.ref s.heap.objs.size) (fun _ => #[]); letGo old.toList.reverse; Builtin.List.listExtendWith (.ref s.heap.objs.size) (.ref e) .none) _ _ _
 refine wpAny_bind ?_
 unfold Builtin.List.listItems
 refine wpAny_bind (wpAny_seqItems hS rfl (wpAny_pure ?_))
 show wpAny _ _ (updateSeq s.heap.objs.size (fun _ => #[]) >>= fun _ => letGo (#[] : Array Value).toList.reverse >>= fun _ => Builtin.List.listExtendWith (.ref s.heap.objs.size) (.ref e) .none) _ _ _
 refine wpAny_bind (wpAny_updateSeq hS rfl ?_)
 have hS₂ := Heap.get?_update_self (Obj.mapSeq (fun _ => (#[] : Array Value))) hS rfl
 have oth0 : ∀ b o, b ≠ s.heap.objs.size -> s.heap.get? b = some o -> ((s.heap.push { cls := .type "list", data := .seq #[] }).update s.heap.objs.size (Obj.mapSeq (fun _ => (#[] : Array Value)))).get? b = some o :=
  fun b o hb q => (Heap.get?_update_other _ _ (Ne.symm hb)).trans (Heap.get?_push_of_some _ q)
 refine wpAny_bind (wpAny_letGo ?_)
 generalize (s.heap.push { cls := .type "list", data := .seq #[] }).update s.heap.objs.size (Obj.mapSeq (fun _ => (#[] : Array Value))) = H at hS₂ oth0 ⊢
 have hE2 : i9 H e it 0 := hE.keep fun o q => oth0 e o (Ne.symm hSe) q
 unfold Builtin.List.listExtendWith
 refine wpAny_bind (wpAny_typeOf (T := "enumerate") (hE2.typeIs (s := { s with heap := H })) ?_)
 have g1 : Builtin.List.listSameRef (.ref s.heap.objs.size) (.ref e) = false := by simp [Builtin.List.listSameRef, hSe]
 have g2 : (Value.type "enumerate" == Value.type "list") = false := by decide
 have g3 : (Value.type "enumerate" == Value.type "tuple") = false := by decide
 simp only [g1, g2, g3, Bool.or_false, Bool.false_eq_true, if_false]
 have hiter : ∀ {A' : Around} {Q' : Value -> Shared -> Prop} {E' : Value -> Shared -> Prop}, Q' (.ref e) { s with heap := H } -> wpAny (model prog w) A' (pyIter (.ref e)) Q' E' { s with heap := H } := fun hq => by
  have hT := hE2.typeIs (s := { s with heap := H })
  refine wpAny_pyIter_slot hT F.slot_enumerate_iter (wpAny_call_entry F.slot_enumerate_iter hT F.entry_enumerate_iter ?_ (F.args_enumerate_iter_1 _))
  show wpAny _ _ (ret (.ref e)) _ _ _
  exact wpAny_pure ⟨_, rfl, "enumerate", _, hT, F.slot_enumerate_next.lookup, hq⟩
 refine wpAny_bind (hiter ?_)
 refine wpAny_bind (wpAny_holding ?_)
 unfold Builtin.List.listLengthHint
 refine wpAny_bind (wpAny_specialOf (hE2.typeIs (s := { s with heap := H })) Ax ?_)
 show wpAny _ A.in1.in1 (specialOf (Value.ref e) (Str.ofString "__length_hint__") >>= _) _ _ _
 refine wpAny_bind (wpAny_specialOf (hE2.typeIs (s := { s with heap := H })) zr ?_)
 refine wpAny_pure ?_
 show wpAny _ A.in1.in1 (rule "list.extend.makes-room" >>= fun _ => Builtin.List.listTouch (.ref s.heap.objs.size) >>= fun _ =>
  again (.builtin "list.extend.loop" ⟨[.ref s.heap.objs.size, .ref e, .none], []⟩)) _ _ _
 refine wpAny_bind (wpAny_rule ?_)
 refine wpAny_bind ?_
 show wpAny _ A.in1.in1 (updateSeq s.heap.objs.size (·.push .none) >>= fun _ => updateSeq s.heap.objs.size (·.pop)) _ _ _
 refine wpAny_bind (wpAny_updateSeq hS₂ rfl ?_)
 have hS3 := Heap.get?_update_self (Obj.mapSeq (·.push Value.none)) hS₂ rfl
 refine wpAny_updateSeq hS3 rfl ?_
 have hS4 := Heap.get?_update_self (Obj.mapSeq (·.pop)) hS3 rfl
 have oth : ∀ b o, b ≠ s.heap.objs.size -> s.heap.get? b = some o -> ((H.update s.heap.objs.size (Obj.mapSeq (·.push Value.none))).update s.heap.objs.size (Obj.mapSeq (·.pop))).get? b = some o :=
  fun b o hb q => (Heap.get?_update_other _ _ (Ne.symm hb)).trans ((Heap.get?_update_other _ _ (Ne.symm hb)).trans (oth0 b o hb q))
 refine wpAny_pure ⟨plainId_quiet F.plain_extend_loop _, G0 (A := A.in1) (h0 := h0) (l := l) (items := items) hh hSe hSi h3 n1 n2 n3 hl0 hz .none items.size _ #[] rfl ⟨_, hE2.keep (fun o q => ?_), ?_, ?_, hS4, ⟨Nat.zero_le _, fun m v q => by simp at q⟩, fun b o q => ?_⟩ fun h' tk acc' c' a1 a2 a3 a4 => ?_⟩
 ·exact (Heap.get?_update_other _ _ hSe).trans ((Heap.get?_update_other _ _ hSe).trans q)
 ·obtain ⟨o, a, b⟩ := hit; exact ⟨o, oth it o (Ne.symm hSi) a, b⟩
 ·obtain ⟨o, a, b⟩ := hl; exact ⟨o, oth l o (Nat.ne_of_lt hllt) a, b⟩
 ·exact oth b o (fun q' => by rw [q', n1] at q; cases q) (n0 b o q)
 ·exact ⟨rfl, hQ h' tk acc' c' a1 a2 a3 a4⟩
end
end Mine
end
section
/- list(enumerate(e)), data -/
open PySem PySem.Calls PyProof.Rows PySem.W PySem.SeqAt PyProof.V
open PySem.Sem (wp)
set_option maxRecDepth 100000
namespace Mine
noncomputable def grown (κ : Kp) (h h' : Heap) : Kp := fun b => if h.get? b = none then h'.get? b else κ b
theorem yo {κ : Kp} {h h' : Heap} {b : Addr} (e : h.get? b = none) : grown κ h h' b = h'.get? b := if_pos e
theorem Rel.grown {C : Cx} {φ κ₀ κ : Kp} {σ : List Addr} {st : List ac} {s s' : Shared} (X : Rel C φ κ₀ κ σ st s) (hk : ∀ b o, s.heap.get? b = some o -> s'.heap.get? b = some o) (hg : s'.gens = s.gens) (ho : s'.os = s.os) :
  Kle κ (grown κ s.heap s'.heap) /\ Rel C φ κ₀ (grown κ s.heap s'.heap) σ st s' := by
 have kle : Kle κ (Mine.grown κ s.heap s'.heap) := fun b o e => by
  unfold Mine.grown
  rw [if_neg (fun q => bq q (X.keep _ _ e))]; exact e
 refine ⟨kle, (X.moved (own := []) (s' := s') (fun b hb => absurd hb List.not_mem_nil) (fun b o _ e => hk b o e) hg ho kle (fun b o e => ?_) fun b o e => ?_).1⟩
 ·unfold Mine.grown at e
  split at e
  ·next q => exact .inr ⟨q, List.not_mem_nil⟩
  ·exact .inl e
 ·unfold Mine.grown at e
  split at e
  ·exact e
  ·exact hk _ _ (X.keep _ _ e)
theorem Il {κ κ' : Kp} {h0 h : Heap} {ex : List Addr} {items acc : Array Value} {ds : List D} (hr : RL κ ds items.toList) (kle : Kle κ κ') (hz : acc.size = items.size) (hp : ip h0 h ex items acc) (hT : ∀ T o, h.get? T = some o -> h0.get? T = none -> κ' T = some o) : RL κ' (eh 0 ds) acc.toList := by
 refine byC fun hC1 => ?_
 obtain ⟨hl, ht⟩ := hp
 refine hC1 ?_
 refine RL.of_get (by rw [Array.length_toList, dj, hz, <- Array.length_toList, hr.length]) fun j d e => ?_
 refine byC fun hC2 => ?_
 obtain ⟨y, hy, rfl⟩ := jj ds 0 j d e
 obtain ⟨u, hu, ru⟩ := hr.get hy
 rw [Array.getElem?_toList] at hu
 have hj : j < acc.size := by rw [hz]; exact (Array.getElem?_eq_some_iff.mp hu).1
 obtain ⟨T, tk, x, h1, h2, h0, h3, h4⟩ := ht j _ (Array.getElem?_eq_getElem hj)
 refine hC2 ?_
 rw [hu] at h3; cases h3
 refine ⟨_, by rw [Array.getElem?_toList]; exact Array.getElem?_eq_getElem hj, ?_⟩
 simp only [R]
 refine ⟨T, _, _, _, h1, hT T _ h4 h0, rfl, rfl, rfl, ?_⟩
 simp only [RL]
 exact ⟨_, _, rfl, ⟨_, by rw [Nat.zero_add]⟩, _, _, rfl, ru.mono kle, rfl⟩
section
variable {C : Cx} {A : Around} {G : Gd} {ae : a9} {st : List ac}
theorem A8 {xL xE : Str} {pL pE p1 p2 : Pos} {e : Expr} {Q : AV -> List ac -> Prop} (iL iE : Nat) (hh : A.in1.in1.handled = none) (gL : ag C xL (.type "list")) (hL : ae.scope.names[iL]? = some (xL, .globalImplicit))
  (gE : ag C xE (.type "enumerate")) (hE : ae.scope.names[iE]? = some (xE, .globalImplicit)) (he : ∀ env, starEach [e] env = [(false, eval e env)])
  (h : wE C A G ae st e fun a st1 => ∃ ds, ds.length <= 100000 /\ (a = .d (.list ds) ∨ ∃ i : Nat, a = .obj i /\ st1[i]? = some (.frz (.list ds))) /\ Q (.d (.list (eh 0 ds))) st1) :
  wE C A G ae st (.Call (.Name xL pL) [.Call (.Name xE pE) [e] [] p1] [] p2) Q := fun κ σ s en X => by
 refine wpAny_Call_ofName (wpAny_mono (ao iL (Q := fun a st1 => a = .glob (.type "list") /\ st1 = st) gL hL ⟨rfl, rfl⟩ κ σ s en X) (fun vf s1 z => z.go fun κ1 σ1 f st1 k1 p1 X1 r1 q1 => ?_) fun _ _ z => z)
 refine byC fun hC1 => ?_
 obtain ⟨rfl, rfl⟩ := q1
 cases (r1 : vf = _)
 refine hC1 ?_
 refine gf rfl rfl (args_cons (e := .Call (.Name xE pE) [e] [] _) (rest := []) ?_)
 refine wpAny_Call_ofName (wpAny_mono (ao iE (Q := fun a st2 => a = .glob (.type "enumerate") /\ st2 = st1) gE hE ⟨rfl, rfl⟩ κ1 σ1 s1 (en.mono p1) X1) (fun vf s2 z => z.go fun κ2 σ2 f st2 k2 p2 X2 r2 q2 => ?_) fun _ _ z => z)
 refine byC fun hC2 => ?_
 obtain ⟨rfl, rfl⟩ := q2
 cases (r2 : vf = _)
 refine hC2 ?_
 refine gf (by rw [he]; rfl) rfl (wpAny_mono (ad (Q := fun as st3 => ∃ a ds, as = [a] /\ ds.length <= 100000 /\ (a = .d (.list ds) ∨ ∃ i : Nat, a = .obj i /\ st3[i]? = some (.frz (.list ds))) /\ Q (.d (.list (eh 0 ds))) st3) (fun env => by rw [he]; rfl) (W.mono h fun a st2 q => ak ⟨a, q.choose, rfl, q.choose_spec⟩) κ2 σ2 s2 ((en.mono p1).mono p2) X2)
  (fun vs s3 z => z.go fun κ3 σ3 as st3 k3 p3 X3 r3 q3 => wpAny_evalAll_nil ⟨.inr (.inl ⟨_, rfl⟩), ?_⟩) fun _ _ z => z)
 refine byC fun hC3 => ?_
 obtain ⟨a, ds, rfl, hds, ha, q⟩ := q3
 obtain ⟨v, rfl, rv⟩ := r3.one
 have rd := Ci ha X3 rv
 simp only [R] at rd
 obtain ⟨l, o, us, n, rfl, h2, h3, h4, h5, h6⟩ := rd
 refine hC3 ?_
 have hl : s3.heap.IsList l us := ⟨o, X3.keep _ _ h2, h3, n, h5⟩
 have hus : us.size <= sizeLine := by
  have := h6.length
  rw [Array.length_toList] at this
  rw [this, sizeLine_eq]; lia
 refine call_enumerate_list hl fun h' hE hI hsz hkeep => ?_
 refine args_nil ?_
 refine wpAny_evalAll_nil ⟨.inr (.inl ⟨_, rfl⟩), ?_⟩
 have n2 : s3.heap.get? (s3.heap.objs.size + 1) = none := bz fun o' q => absurd (Heap.lt_size q) (Nat.not_lt.mpr (Nat.le_succ _))
 refine xd (s := { s3 with heap := h' }) (h0 := s3.heap) (e := s3.heap.objs.size + 1) (it := s3.heap.objs.size) (l := l) (items := us) hh (Nat.succ_ne_self _) hkeep n2 (b8 _) ⟨o, X3.keep _ _ h2⟩ ⟨_, _, _, hE, .inl rfl⟩ hI ⟨o, hkeep _ _ (X3.keep _ _ h2), h3, n, h5⟩ hus fun h'' tk acc' c' a1 a2 a3 a4 => ?_
 obtain ⟨kle, X4⟩ := X3.grown (s' := { s3 with heap := h'', toks := tk }) a4 rfl rfl
 have n4 : s3.heap.get? h'.objs.size = none := bz fun o' q => absurd (Heap.lt_size (hkeep _ _ q)) (Nat.lt_irrefl _)
 refine ⟨_, σ3, .d (.list (eh 0 ds)), st3, ((k1.trans k2).trans k3).trans kle, (p1.trans p2).trans p3, X4, ?_, q⟩
 simp only [RV, R]
 refine ⟨_, _, acc', c', rfl, (yo n4).trans a2, rfl, rfl, rfl, Il h6 kle a1 a3 fun T oT e1 e2 => (yo e2).trans e1⟩
end
end Mine
end
section
/- lists of lists become data -/
open PySem PySem.Calls PyProof.Rows PySem.W PySem.SeqAt PyProof.V
namespace Mine
section
variable {C : Cx} {A : Around} {G : Gd} {ae : a9} {φ κ₀ κ : Kp} {σ : List Addr} {st : List ac} {s : Shared}
theorem Rel.freezeG (X : Rel C φ κ₀ κ σ st s) {i : Nat} {l : List AV} {ds : List D} (e : st[i]? = some (.list l)) (hl : l.length = ds.length) (h : ∀ (j : Nat) (a : AV) (d : D), l[j]? = some a -> ds[j]? = some d -> DOf st a d) : ∃ κ', Kle κ κ' /\ Rel C φ κ₀ κ' σ (st.set i (.frz (.list ds))) s := by
 refine byC fun hC1 => ?_
 obtain ⟨a, o, ha, hκ, hφ, ho, vs, n, rfl, hr⟩ := X.get e trivial
 refine hC1 ?_
 have hrl : RL κ ds vs.toList := RL.of_get (by rw [hr.1, hl]) fun j d hd => by
  have hj : j < l.length := by rw [hl]; exact (List.getElem?_eq_some_iff.mp hd).1
  obtain ⟨v, h1, h2⟩ := hr.2 j l[j] (List.getElem?_eq_getElem hj)
  exact ⟨v, h1, (h j _ d (List.getElem?_eq_getElem hj) hd).r X h2⟩
 refine ⟨cc κ a { cls := .type "list", data := .seq vs n }, eu hκ, ?_⟩
 have hle := eu (o := { cls := .type "list", data := .seq vs n }) hκ
 have hil : i < st.length := (List.getElem?_eq_some_iff.mp e).1
 refine ⟨X.prog.trans hle, X.k0.trans hle, fun b o e' => ?_, fun b o e' => ?_, X.phi, by simp [X.len], X.nd, fun j b z e1 e2 => ?_, fun P hP => ?_, X.gens, X.os⟩
 ·by_cases q : b = a
  ·subst q; exact .inr hφ
  ·rw [bp q] at e'; exact X.new b o e'
 ·by_cases q : b = a
  ·subst q; unfold cc at e'; rw [if_pos rfl] at e'; cases e'; exact ho
  ·rw [bp q] at e'; exact X.keep b o e'
 ·by_cases hj : i = j
  ·subst hj
   rw [ha] at e1; cases e1
   rw [List.getElem?_set_self hil] at e2; cases e2
   have hs : cc κ a { cls := .type "list", data := .seq vs n } a = some { cls := .type "list", data := .seq vs n } := if_pos rfl
   exact .frz _ rfl (by simp only [R]; exact ⟨a, _, vs, n, rfl, hs, rfl, rfl, rfl, hrl.mono hle⟩) (by rw [hs]; rfl)
  ·rw [List.getElem?_set_ne hj] at e2
   have hba : b ≠ a := fun q => by
    subst q
    refine byC fun hC2 => ?_
    obtain ⟨h1, e3⟩ := List.getElem?_eq_some_iff.mp ha
    obtain ⟨h2, e4⟩ := List.getElem?_eq_some_iff.mp e1
    refine hC2 ?_
    exact hj ((List.getElem_inj X.nd).mp (e3.trans e4.symm))
   exact (X.own j b z e1 e2).map hle (List.prefix_refl _) fun h1 h2 o h3 => ⟨by rw [bp hba]; exact h1, h2, h3⟩
 ·refine byC fun hC3 => ?_
  obtain ⟨h1, h2, h3, h4⟩ := X.tabs P hP
  refine hC3 ?_
  have hPa : P ≠ a := fun q => h4 (q ▸ List.mem_of_getElem? ha)
  exact ⟨h1.keeps hle fun _ e => e, h2, by rw [bp hPa]; exact h3, h4⟩
theorem Rel.freezeSeg {post : List ac} : ∀ (L : List (List D)) (pre : List ac) {κ : Kp}, Rel C φ κ₀ κ σ (pre ++ (L.map fun r => .list (r.map .d)) ++ post) s -> ∃ κ', Kle κ κ' /\ Rel C φ κ₀ κ' σ (pre ++ (L.map fun r => .frz (.list r)) ++ post) s
 | [], pre, κ, X => ⟨κ, Kle.refl _, X⟩
 | r :: L, pre, κ, X => by
  have e : (pre ++ ((r :: L).map fun r => ac.list (r.map .d)) ++ post)[pre.length]? = some (.list (r.map .d)) := by
   rw [List.append_assoc, List.getElem?_append_right (Nat.le_refl _), Nat.sub_self]; rfl
  refine byC fun hC1 => ?_
  obtain ⟨κ1, k1, X1⟩ := X.freeze e
  have e2 : (pre ++ ((r :: L).map fun r => ac.list (r.map .d)) ++ post).set pre.length (.frz (.list r)) = (pre ++ [.frz (.list r)]) ++ (L.map fun r => ac.list (r.map .d)) ++ post := by
   rw [List.append_assoc, List.set_append_right _ _ (Nat.le_refl _), Nat.sub_self, List.append_assoc, List.append_assoc]; rfl
  rw [e2] at X1
  obtain ⟨κ2, k2, X2⟩ := Rel.freezeSeg L _ X1
  refine hC1 ?_
  refine ⟨κ2, k1.trans k2, ?_⟩
  have e3 : (pre ++ [ac.frz (.list r)]) ++ (L.map fun r => ac.frz (.list r)) ++ post = pre ++ ((r :: L).map fun r => ac.frz (.list r)) ++ post := by
   rw [List.append_assoc, List.append_assoc, List.append_assoc]; rfl
  rw [e3] at X2; exact X2
theorem xw {xs : List Stmt} {Q : AF -> List ac -> Prop} (pre post : List ac) (L : List (List D)) (h : wSs C A G ae (pre ++ (L.map fun r => .frz (.list r)) ++ post) xs Q) : wSs C A G ae (pre ++ (L.map fun r => .list (r.map .d)) ++ post) xs Q := u7 h fun X => Rel.freezeSeg L pre X
theorem Cd (i : Nat) {l : List AV} {ds : List D} {xs : List Stmt} {Q : AF -> List ac -> Prop} (hi : st[i]? = some (.list l)) (hl : l.length = ds.length) (hd : ∀ (j : Nat) (a : AV) (d : D), l[j]? = some a -> ds[j]? = some d -> DOf st a d) (h : wSs C A G ae (st.set i (.frz (.list ds))) xs Q) : wSs C A G ae st xs Q := u7 h fun X => X.freezeG hi hl hd
end
end Mine
end
section
open PySem PySem.Calls PyProof.Rows PySem.W PySem.SeqAt
namespace Mine
noncomputable abbrev sst (w : World) (st2 : List ac) (scope : Scope) (acc : List Int) (d : D) : List ac := st2 ++ .raw (ce w (fg acc).1 (fg acc).2) :: .ns (scope.names.map (·.1)) ((List.replicate scope.names.length none).set 1 (some (.d d))) :: []
theorem Ff {w : World} {scope : Scope} {st2 r : List ac} {acc : List Int} {vars : List (Option AV)} (hnc : ar scope.names = 0) (hcl : c6 st2) : Sub (st2.length + (2 + ar scope.names)) (st2 ++ .raw (ce w (fg acc).1 (fg acc).2) :: .ns (scope.names.map (·.1)) vars :: r) (st2 ++ l8 w scope acc []) := by
 rw [hnc]
 refine Sub.of (by simp [l8]) (m6 (base := st2) (g5.cons c8.raw (g5.cons (c8.ns (ka _ _)) g5.nil)) fun y hy => ?_)
 obtain ⟨i, hi, e⟩ := List.getElem_of_mem hy
 exact qj (hcl i y (by rw [List.getElem?_eq_getElem hi, e])) (Nat.le_add_right _ _)
section
variable {C : Cx} {A : Around} {G : Gd} {ae : a9} {st : List ac}
theorem zd.of {scope : Scope} {ca : List (Str × Nat)} {st2 : List ac} {x : Str} {p : Pos} {elt : Expr} {ifs : List Expr} {its : List D} {g : D -> Option Int} (hnc : ar scope.names = 0) (h1 : (fk scope ae.scope).names[1]? = some (x, .local)) (h1' : (scope.names.map (·.1))[1]? = some x) (hcl : c6 st2)
  (h : ∀ φ' E' env' d (acc : List Int), d ∈ its -> env'.frame = G.env.frame -> w8 C A ⟨φ', G.κ₀, env', E'⟩ (bg ae scope st2.length ca) (sst C.w st2 scope acc d) ifs fun ok st4 =>
   if ok then wE C A ⟨φ', G.κ₀, env', E'⟩ (bg ae scope st2.length ca) st4 elt fun a st5 => ∃ y, a = .d (.int y) /\ g d = some y /\ ∃ r, st5 = sst C.w st2 scope acc d ++ r
   else g d = none /\ ∃ r, st4 = sst C.w st2 scope acc d ++ r) : zd C A G ae scope ca st2 (.Name x p) elt ifs its g := by
 intro φ' E' env' d acc cs hd hcs hef
 have hcs0 : cs = [] := List.eq_nil_of_length_eq_zero (by rw [hcs, hnc])
 subst hcs0
 refine d8 (af 1 h1 kl h1' ?_)
 rw [show (st2 ++ l8 C.w scope acc []) = st2 ++ ac.raw (ce C.w (fg acc).1 (fg acc).2) :: .ns (scope.names.map (·.1)) (List.replicate scope.names.length none) :: [] from rfl, show (bg ae scope st2.length ca).L = st2.length + 1 from rfl, Iz]
 refine W.mono (h φ' E' env' d acc hd hef) fun ok st4 q => ?_
 cases ok with
 | false =>
  obtain ⟨hg, r, rfl⟩ := q
  refine ⟨hg, [], hnc.symm, ?_⟩
  rw [List.append_assoc]; exact Ff hnc hcl
 | true =>
  refine W.mono q fun a st5 q => ?_
  obtain ⟨y, ha, hg, r, rfl⟩ := q
  refine ⟨y, ha, hg, [], hnc.symm, ?_⟩
  rw [List.append_assoc]; exact Ff hnc hcl
theorem Fe {x y : Expr} {r : List Expr} {pos : Pos} {Q : AV -> List ac -> Prop}
  (h : wE C A G ae st x fun a st1 => wTr C A G st1 a fun t st2 => if t then wE C A G ae st2 (.BoolOp .And (y :: r) pos) Q else Q a st2) : wE C A G ae st (.BoolOp .And (x :: y :: r) pos) Q := fun κ σ s e X => by
 show wpAny _ A (do
  let v ← eval x G.env
  standAt pos
  let t ← holding [v] (truthy v)
  match BoolOp.And, t with
  | .And, false | .Or, true => pure v
  | _, _ => eval (.BoolOp .And (y :: r) pos) G.env) _ G.E s
 refine wpAny_bind (wpAny_mono (h κ σ s e X) (fun va s1 z => z.go fun κ1 σ1 a st1 k1 p1 X1 r1 q1 => wpAny_bind (wpAny_standAt (wpAny_bind (wpAny_holding (wpAny_mono (q1 κ1 σ1 s1 va X1 r1) (fun t s2 z => z.go fun κ' σ' t' st' k2 p2 X' r q => ?_) fun _ _ z => z))))) fun _ _ z => z)
 cases (r : t = t')
 cases t with
 | false => exact wpAny_pure (PA.up (k1.trans k2) (p1.trans p2) (PA.ret X' (r1.mono k2 p2) q))
 | true => exact PA.wp (k1.trans k2) (p1.trans p2) (q κ' σ' s2 (e.mono (p1.trans p2)) X')
end
end Mine
end
section
namespace Mine
/- the rows of law 01: each number into the first row that holds no near one -/
noncomputable def ek (l : List Nat) : Nat -> Nat -> Nat
 | 0, k => k
 | n + 1, k => if l.contains k then ek l n (k + 1) else k
theorem qq (l : List Nat) : ∀ n k, k <= ek l n k /\ ek l n k <= k + n
 | 0, k => ⟨Nat.le_refl _, Nat.le_refl _⟩
 | n + 1, k => by
  unfold ek
  split
  ·have := qq l n (k + 1); lia
  ·lia
theorem tv (l : List Nat) : ∀ n k j, k <= j -> j < ek l n k -> j ∈ l
 | 0, k, j, h1, h2 => by unfold ek at h2; lia
 | n + 1, k, j, h1, h2 => by
  unfold ek at h2
  split at h2
  ·rename_i hc
   rcases Nat.lt_or_ge k j with h | h
   ·exact tv l n (k + 1) j h h2
   ·have : j = k := by lia
    subst this; simpa using hc
  ·lia
theorem yy (l : List Nat) : ∀ n k, ek l n k < k + n -> ek l n k ∉ l
 | 0, k, h => by unfold ek at h; lia
 | n + 1, k, h => by
  unfold ek at h ⊢
  split at h
  ·rename_i hc; rw [if_pos hc]; exact yy l n (k + 1) (by lia)
  ·rename_i hc; rw [if_neg hc]; simpa using hc
noncomputable def dw (bad : Nat -> Bool) (n : Nat) (row : List Nat) : List Nat := (List.range n).filterMap fun o => if bad (n ^^^ o) then row[o]? else none
noncomputable def cf (bad : Nat -> Bool) : Nat -> List Nat
 | 0 => []
 | n + 1 => cf bad n ++ [ek (dw bad n (cf bad n)) n 0]
variable {bad : Nat -> Bool}
theorem fs : ∀ n, (cf bad n).length = n
 | 0 => rfl
 | n + 1 => by simp [cf, fs n]
theorem Fc : ∀ (n i v : Nat), (cf bad n)[i]? = some v -> v <= i
 | 0, i, v, h => by simp [cf] at h
 | n + 1, i, v, h => by
  unfold cf at h
  rcases Nat.lt_trichotomy i n with q | q | q
  ·rw [List.getElem?_append_left (by rw [fs]; exact q)] at h; exact Fc n i v h
  ·subst q
   rw [List.getElem?_append_right (by rw [fs]; exact Nat.le_refl _), fs, Nat.sub_self] at h
   cases h
   have := (qq (dw bad i (cf bad i)) i 0).2; lia
  ·rw [List.getElem?_eq_none (by simp [fs]; lia)] at h; cases h
theorem sa {n : Nat} {row : List Nat} {v : Nat} : v ∈ dw bad n row ↔ ∃ o, o < n /\ bad (n ^^^ o) = true /\ row[o]? = some v := by
 unfold dw
 rw [List.mem_filterMap]
 constructor
 ·rintro ⟨o, ho, h⟩
  split at h
  ·rename_i hb; exact ⟨o, by simpa using ho, hb, h⟩
  ·cases h
 ·rintro ⟨o, ho, hb, h⟩
  exact ⟨o, by simpa using ho, by rw [if_pos hb]; exact h⟩
theorem F1 {n : Nat} : ∀ v ∈ dw bad n (cf bad n), v < n := fun v h => by
 obtain ⟨o, ho, _, e⟩ := sa.mp h
 have := Fc n o v e; lia
theorem F0 (n : Nat) : ek (dw bad n (cf bad n)) n 0 ∉ dw bad n (cf bad n) := by
 rcases Nat.lt_or_ge (ek (dw bad n (cf bad n)) n 0) (0 + n) with h | h
 ·exact yy _ n 0 h
 ·exact fun hm => by have := F1 _ hm; lia
theorem x6 (n j : Nat) (h : j < ek (dw bad n (cf bad n)) n 0) : j ∈ dw bad n (cf bad n) := tv _ n 0 j (Nat.zero_le _) h
theorem z5 {ns : List Int} (hs : ns.Pairwise (· < ·)) (h0 : ∀ x ∈ ns, 0 <= x) : ∀ (i : Nat) (x : Int), ns[i]? = some x -> (i : Int) <= x := by
 intro i
 induction i with
 | zero => intro x e; simpa using h0 x (List.mem_of_getElem? e)
 | succ i ih =>
  intro x e
  have hi : i + 1 < ns.length := by
   by_cases q : i + 1 < ns.length
   ·exact q
   ·rw [List.getElem?_eq_none (by omega)] at e; cases e
  have e' : ns[i]? = some ns[i] := List.getElem?_eq_getElem (by omega)
  have := ih _ e'
  have h := List.pairwise_iff_getElem.mp hs i (i + 1) (by omega) hi (by omega)
  rw [List.getElem?_eq_getElem hi] at e
  cases e; omega
theorem Jd {ns : List Int} {m : Nat} (hs : ns.Pairwise (· < ·)) (h0 : ∀ x ∈ ns, 0 <= x) (hb : ∀ j : Nat, j < m -> (j : Int) ∈ ns) (hm : (m : Int) ∉ ns) :
  m <= ns.length /\ (∀ (i : Nat) (x : Int), ns[i]? = some x -> (i < m -> x = i) /\ (m <= i -> (i : Int) < x)) := by
 have key : ∀ j : Nat, j < m -> ns[j]? = some (j : Int) := by
  intro j
  induction j using Nat.strongRecOn with
  | _ j ih =>
   intro hj
   obtain ⟨i, hi, e⟩ := List.getElem_of_mem (hb j hj)
   have e' : ns[i]? = some (j : Int) := by rw [List.getElem?_eq_getElem hi, e]
   have h1 := z5 hs h0 i _ e'
   rcases Nat.lt_or_ge i j with h | h
   ·have := ih i h (by lia)
    rw [e'] at this; cases this; lia
   ·have : i = j := by lia
    subst this; exact e'
 constructor
 ·rcases Nat.lt_or_ge ns.length m with h | h
  ·have := key ns.length h
   rw [List.getElem?_eq_none (Nat.le_refl _)] at this; cases this
  ·exact h
 ·intro i x e
  refine ⟨fun hi => ?_, fun hi => ?_⟩
  ·rw [key i hi] at e; cases e; rfl
  ·obtain ⟨d, rfl⟩ := Nat.le.dest hi
   clear hi
   induction d generalizing x with
   | zero =>
    have h1 := z5 hs h0 m x e
    have h2 : x ≠ m := fun q => hm (q ▸ List.mem_of_getElem? e)
    lia
   | succ d ih =>
    have hl : m + d + 1 < ns.length := by
     by_cases q : m + d + 1 < ns.length
     ·exact q
     ·rw [List.getElem?_eq_none (by lia)] at e; cases e
    have := ih _ (List.getElem?_eq_getElem (by lia : m + d < ns.length))
    have h := List.pairwise_iff_getElem.mp hs (m + d) (m + d + 1) (by lia) hl (by lia)
    rw [show m + (d + 1) = m + d + 1 by lia, List.getElem?_eq_getElem hl] at e
    cases e; lia
end Mine
end
section
open PySem PySem.Calls PyProof.Rows PySem.W PySem.SeqAt PyProof.V
set_option maxRecDepth 100000
namespace Mine
noncomputable abbrev dv (o : Option D) : Option AV := o.map AV.d
noncomputable def gj (n : Nat) : D := .int (n : Int)
noncomputable def dn (r : List Nat) : ac := .list ((r.map gj).map .d)
noncomputable def bt (r : List Nat) : D := .list (r.map gj)
noncomputable abbrev Et : List (Str × Nat) := [("row", 3), ("number", 2), ("bad", 1)]
noncomputable abbrev Du (cd : Value) (ql : Str) : a9 := ⟨aq PySem.Challenge.pw_wb0027_01 16, 0, Et, cd, ql⟩
noncomputable def F5 (k : Nat) : Stmt := ((cq PySem.Challenge.pw_wb0027_01 16)[k]?).getD (.Pass ⟨0, 0, 0, 0⟩)
noncomputable abbrev qs (bd : List Bool) : List ac := [i1 16 [none, none, none, none, none, none, none, none, none, none, none, none], .cell (some (.d (.list (bd.map .bool)))), .cell none, .cell none, .raw (ap 0 33)]
noncomputable abbrev uc (k : Nat) (nm : Option D) : List ac := .list ((List.range k).map fun s => .obj (7 + s)) :: .ns [".0", "number"] [none, dv nm] :: List.replicate k (.list [])
noncomputable abbrev Qq (bd : List Bool) (ns : List (Option AV)) : List ac := i1 16 ns :: .cell (some (.d (.list (bd.map .bool)))) :: .cell none :: .cell none :: .raw (ap 0 33) :: .list ((List.range 33).map fun s => .obj (6 + s)) :: List.replicate 33 (.list [])
noncomputable def ly (n : Nat) : List Nat := List.range 6 ++ (List.range n).map (7 + ·)
theorem nw {n j : Nat} (hj : j < 6) : (ly n)[j]? = some j := by
 unfold ly
 rw [List.getElem?_append_left (by simpa using hj), List.getElem?_range hj]
theorem yb {n m : Nat} (hm : m < n) : (ly n)[6 + m]? = some (7 + m) := by
 unfold ly
 rw [List.getElem?_append_right (by simp), List.length_range, Nat.add_sub_cancel_left, List.getElem?_map, List.getElem?_range hm]; rfl
theorem Ei {n : Nat} : 6 ∉ ly n := fun hm => by
 rcases List.mem_append.mp hm with hm | hm
 ·exact absurd (List.mem_range.mp hm) (Nat.lt_irrefl 6)
 ·obtain ⟨m, _, hm⟩ := List.mem_map.mp hm
  lia
theorem Gz {n : Nat} : (ly n).Nodup := by
 unfold ly
 rw [List.nodup_append]
 refine ⟨List.nodup_range, List.Pairwise.map _ (fun a b h e => h (Nat.add_left_cancel e)) List.nodup_range, fun a ha b hb => ?_⟩
 obtain ⟨m, hm, rfl⟩ := List.mem_map.mp hb
 have : a < 6 := List.mem_range.mp ha
 lia
theorem Au {bd : List Bool} {n : Nat} : ∀ x ∈ qs bd, x.below n :=
 bw (u4 (bw dz.none <| bw dz.none <| bw dz.none <| bw dz.none <| bw dz.none <| bw dz.none <| bw dz.none <| bw dz.none <| bw dz.none <| bw dz.none <| bw dz.none <| pj dz.none)) <| bw trivial <| bw trivial <| bw trivial <| pj trivial
theorem Gr {bd : List Bool} {nm : Option D} : Oq (ly 33) (qs bd ++ uc 33 nm) (Qq bd [none, none, none, none, none, none, none, none, none, none, none, none]) := by
 refine ⟨rfl, Gz, fun j i y hi hy => ?_⟩
 by_cases hj : j < 5
 ·cases (nw (Nat.lt_succ_of_lt hj)).symm.trans hi
  have hy' : (qs bd)[j]? = some y := by
   rw [<- hy]
   match j, hj with
   | 0, _ => rfl
   | 1, _ => rfl
   | 2, _ => rfl
   | 3, _ => rfl
   | 4, _ => rfl
  exact ⟨y, (List.getElem?_append_left (by exact hj)).trans hy', w3.self (n := 5) (fun j hj => nw (Nat.lt_succ_of_lt hj)) (Au y (List.mem_of_getElem? hy'))⟩
 ·obtain ⟨m, rfl⟩ : ∃ m, j = 5 + m := ⟨j - 5, by lia⟩
  cases m with
  | zero =>
   cases (nw (show 5 < 6 by decide)).symm.trans hi
   cases (show some (ac.list ((List.range 33).map fun i => .obj (6 + i))) = some y from hy)
   refine ⟨.list ((List.range 33).map fun i => .obj (7 + i)), rfl, rfl, fun m a a' e e' => ?_⟩
   rw [List.getElem?_map] at e e'
   by_cases hm : m < 33
   ·rw [List.getElem?_range hm] at e e'
    cases e; cases e'
    exact yb hm
   ·rw [List.getElem?_eq_none (by simp; lia)] at e; cases e
  | succ m =>
   have hy : (List.replicate 33 (ac.list []))[m]? = some y := by
    rw [<- hy, show 5 + (m + 1) = m + 6 by lia]; rfl
   have hm : m < 33 := by
    by_cases q : m < 33
    ·exact q
    ·rw [List.getElem?_eq_none (by simp; lia)] at hy; cases hy
   rw [List.getElem?_replicate_of_lt hm] at hy
   cases hy
   rw [show 5 + (m + 1) = 6 + m by lia] at hi
   cases (yb hm).symm.trans hi
   refine ⟨.list [], ?_, rfl, fun z a a' e e' => by simp at e⟩
   rw [show 7 + m = m + 7 by lia]
   refine (?_ : (List.replicate 33 (ac.list []))[m]? = _)
   exact List.getElem?_replicate_of_lt hm
theorem Fi {st : List ac} {n : Nat} (hn : st.length = n) (h : ∀ x ∈ st, x.below n) : Sub n st st := by
 refine Sub.of hn ?_
 have := m6 (n := n) (r := []) (r' := []) g5.nil (base := st) h
 simpa using this
theorem Dd {bd : List Bool} {k : Nat} {nm : Option D} : ∀ x ∈ qs bd ++ uc k nm, x.below (7 + k) := fun x hx => by
 rcases List.mem_append.mp hx with hx | hx
 ·exact Au x hx
 ·rcases List.mem_cons.mp hx with rfl | hx
  ·intro a ha
   obtain ⟨s, hs, rfl⟩ := List.mem_map.mp ha
   have : s < k := List.mem_range.mp hs
   refine (?_ : 7 + s < 7 + k)
   lia
  ·rcases List.mem_cons.mp hx with rfl | hx
   ·refine u4 (bw dz.none (pj fun a e => ?_))
    cases nm with
    | none => cases e
    | some d => cases e; trivial
   ·rw [List.eq_of_mem_replicate hx]; exact fun a ha => nomatch ha
variable {C : Cx} {A : Around} {G : Gd}
set_option maxHeartbeats 4000000 in
theorem Pd (cd : Value) (ql : Str) {n : Nat} (hA : AOk A n) (gr : ag C "range" (.type "range")) (bd : List Bool) (Q : AF -> List ac -> Prop)
  (q : Q .next (Qq bd [none, none, some (.obj 5), none, none, none, none, none, none, none, none, none])) :
  wS C A G (Du cd ql) [i1 16 [none, none, none, none, none, none, none, none, none, none, none, none], .cell (some (.d (.list (bd.map .bool)))), .cell none, .cell none] (F5 0) Q := by
 have hS := sizeLine_eq
 refine (?_ : wS _ _ _ _ _ (.Assign _ (.ListComp (.List _ _) _ _ _) _) _)
 refine Ol (its := fb 0 33) (st2 := qs bd) 2 [] rfl rfl rfl
  ⟨rfl, ⟨rfl, by decide +kernel, by decide +kernel⟩, rfl, by show ((cellsFrom 7 _ _).map (·.1)).Nodup; decide +kernel, fun _ _ => rfl, ln (n := 33) 7 gr rfl hA.handled (by decide),
   fun k tl => k <= 33 /\ ∃ nm, tl = uc k nm, ?_, ⟨Nat.zero_le _, none, rfl⟩, ?_, ?_⟩
 ·rintro k tl ⟨hk, nm, rfl⟩
  exact ⟨by show 2 + 0 <= _; simp [uc], _, _, rfl⟩
 ·rintro φ' E' env' k x tl hef hx ⟨hk, nm, rfl⟩
  obtain ⟨rfl, hkl⟩ := j1 hx
  refine d8 (af 1 rfl rfl rfl ?_)
  refine gx ?_
  simp only [if_true]
  refine qh (ak ⟨by simp, ?_⟩)
  refine ⟨(List.range k).map fun i => .obj (7 + i), uc (k + 1) (some (.int (0 + (k : Int)))), rfl, by simp; lia, ?_, hkl, _, rfl⟩
  have e1 : ((qs bd ++ uc k (some (.int (0 + (k : Int))))) ++ [ac.list []]).set 5 (ac.list (((List.range k).map fun i => AV.obj (7 + i)) ++ [AV.obj (qs bd ++ uc k (some (.int (0 + (k : Int))))).length])) = qs bd ++ uc (k + 1) (some (.int (0 + (k : Int)))) := by
   have e2 : (qs bd ++ uc k (some (.int (0 + (k : Int))))).length = 7 + k := by simp; lia
   rw [e2]
   refine (?_ : qs bd ++ (ac.list (((List.range k).map fun i => AV.obj (7 + i)) ++ [AV.obj (7 + k)]) :: .ns [".0", "number"] _ :: (List.replicate k (ac.list []) ++ [.list []])) = _)
   rw [<- List.replicate_succ']
   refine (?_ : _ = qs bd ++ (.list ((List.range (k + 1)).map fun s => .obj (7 + s)) :: _))
   rw [List.range_succ, List.map_append]
   rfl
  refine (?_ : Sub _ (((qs bd ++ uc k (some (.int (0 + (k : Int))))) ++ [ac.list []]).set 5 (ac.list (((List.range k).map fun i => AV.obj (7 + i)) ++ [AV.obj (qs bd ++ uc k (some (.int (0 + (k : Int))))).length]))) _)
  rw [e1]
  refine Fi (List.length_append ..) ?_
  rw [show (qs bd).length + (uc (k + 1) (some (.int (0 + (k : Int))))).length = 7 + (k + 1) by simp; lia]
  exact Dd
 ·rintro tl ⟨_, nm, rfl⟩
  exact ⟨ly 33, _, Gr, fun j hj => nw hj, Ei, fun φ' => af 2 rfl rfl rfl q⟩
end Mine
end
section
open PySem PySem.Calls PyProof.Rows PySem.W PySem.SeqAt PyProof.V
set_option maxRecDepth 100000
namespace Mine
theorem Ds : ∀ a b : Nat, a ||| b = (a ^^^ b) + (a &&& b) := by
 intro a
 induction a using Nat.strongRecOn with
 | _ a ih =>
  intro b
  by_cases h0 : a = 0
  ·subst h0; simp
  ·have h1 := ih (a / 2) (by lia) (b / 2)
   have o1 := Nat.or_div_two (a := a) (b := b)
   have o2 := Nat.xor_div_two (a := a) (b := b)
   have o3 := Nat.and_div_two (a := a) (b := b)
   have m1 := Nat.or_mod_two_pow (a := a) (b := b) (n := 1)
   have m2 := Nat.xor_mod_two_pow (a := a) (b := b) (n := 1)
   have m3 := Nat.and_mod_two_pow (a := a) (b := b) (n := 1)
   rw [Nat.pow_one] at m1 m2 m3
   have key : (a % 2 ||| b % 2) = (a % 2 ^^^ b % 2) + (a % 2 &&& b % 2) := by
    rcases Nat.mod_two_eq_zero_or_one a with x | x <;> rcases Nat.mod_two_eq_zero_or_one b with y | y <;> rw [x, y] <;> rfl
   generalize (a ||| b) = p at *
   generalize (a ^^^ b) = q at *
   generalize (a &&& b) = r at *
   lia
theorem pk (n o : Nat) : Builtin.bitXor (n : Int) (o : Int) = ((n ^^^ o : Nat) : Int) := by
 unfold Builtin.bitXor Builtin.bitOr Builtin.bitAnd Builtin.bitNot
 rw [decide_eq_false (by lia : ¬ (0 : Int) <= -(n : Int) - 1 ), decide_eq_false (by lia : ¬ (0 : Int) <= -(o : Int) - 1), decide_eq_true (Int.natCast_nonneg n), decide_eq_true (Int.natCast_nonneg o)]
 simp only [Int.toNat_natCast]
 rw [show (-(-(n : Int) - 1) - 1).toNat = n by lia, show (-(-(o : Int) - 1) - 1).toNat = o by lia]
 have := Ds n o
 lia
theorem uw (p : Nat -> Bool) (m : Nat) : ∀ n lo hi, hi - lo <= n -> lo <= m -> m <= hi -> (∀ i, lo <= i -> i < hi -> (p i = true ↔ i < m)) -> bB p n lo hi = m
 | 0, lo, hi, h, h1, h2, _ => by show lo = m; lia
 | n + 1, lo, hi, h, h1, h2, hp => by
  unfold bB
  by_cases q : lo < hi
  ·have hm := oj q
   have hpm := hp _ hm.1 hm.2
   rw [if_pos q]
   by_cases hb : p ((lo + hi) / 2) = true
   ·rw [if_pos hb]
    exact uw p m n _ _ (Ml hm.1 hm.2 h) (hpm.mp hb) h2 fun i a b => hp i (by lia) b
   ·rw [if_neg hb]
    exact uw p m n _ _ (Lq hm.1 hm.2 h) h1 (Nat.le_of_not_lt fun c => hb (hpm.mpr c)) fun i a b => hp i a (by lia)
  ·rw [if_neg q]; lia
theorem wf {g : Nat -> Int} {x : Int} {m n : Nat} (h : m <= n) (hp : ∀ i, i < n -> (g i < x ↔ i < m)) : bsL g x n 0 n = m := by
 rw [Ay]
 exact uw _ m n 0 n (by lia) (Nat.zero_le _) h fun i _ hi => by rw [decide_eq_true_eq]; exact hp i hi
theorem B6 {g : Nat -> Int} {x : Int} {m n : Nat} (h : m <= n) (hp : ∀ i, i < n -> (g i <= x ↔ i < m)) : bsR g x n 0 n = m := by
 rw [B2]
 exact uw _ m n 0 n (by lia) (Nat.zero_le _) h fun i _ hi => by rw [decide_eq_true_eq]; exact hp i hi
noncomputable def E8 (p : Pos) : Arguments := { posonlyargs := [], args := [{ arg := "pair", annotation := none, pos := p }], vararg := none, kwonlyargs := [], kw_defaults := [], kwarg := none, defaults := [] }
noncomputable def Nz (p1 p2 p3 p4 p5 p6 p7 : Pos) : Expr := .BinOp (.Subscript (.Name "pair" p1) (.Constant (.int 1) 0 p2) p3) .Sub (.Subscript (.Name "pair" p4) (.Constant (.int 0) 0 p5) p6) p7
noncomputable def Kc : Scope := { kind := .function, names := [(("pair" : Str), .local)], isGenerator := false, isCoroutine := false, more := [] }
theorem D0 {C : Cx} {φf κf : Kp} {kf : Addr} (hl : ci C) (a b : Int) (p0 p1 p2 p3 p4 p5 p6 p7 : Pos) (L : E3 C φf κf kf (E8 p0) (Nz p1 p2 p3 p4 p5 p6 p7) Kc [] []) :
  et C φf κf 1 (.ref kf) [.d (.tuple [.int a, .int b])] [] [] fun r => r = PyData.int (b - a) := by
 refine I4 (x := "pair") (xs := []) (ds := []) hl ⟨rfl, by decide +kernel, by decide +kernel⟩ rfl rfl (by show ((cellsFrom 1 _ _).map (·.1)).Nodup; decide +kernel) (.inr rfl) L (fun name qual cl pm cdv ct v => rfl) ?_
 intro A G A' Ps code qual hA hPs hκ _
 obtain rfl : Ps = [] := List.eq_nil_of_length_eq_zero hPs.1
 simp only [bu]
 refine af 0 rfl rfl rfl ?_
 intro E
 refine aj (bb (fun _ _ => ⟨_, rfl⟩) (aa 0 rfl rfl rfl rfl (ai ?_)))
 refine ii (x := .int b) (by decide) (by decide) rfl ?_
 refine bb (fun _ _ => ⟨_, rfl⟩) (aa 0 rfl rfl rfl rfl (ai ?_))
 refine ii (x := .int a) (by decide) (by decide) rfl ?_
 refine nb ⟨_, rfl, rfl, fun j hj => absurd hj (Nat.not_lt_zero _)⟩
theorem G5 {ns : List Int} {m : Nat} (hs : ns.Pairwise (· < ·)) (h0 : ∀ x ∈ ns, 0 <= x) (hb : ∀ j : Nat, j < m -> (j : Int) ∈ ns) (hm : (m : Int) ∉ ns) :
  bsL (fun i => ns.getD i 0 - (i : Int)) 1 ns.length 0 ns.length = m /\ ns.take m = (List.range m).map fun (i : Nat) => (i : Int) := by
 refine byC fun hC1 => ?_
 obtain ⟨h1, h2⟩ := Jd hs h0 hb hm
 refine hC1 ?_
 constructor
 ·refine wf h1 fun i hi => ?_
  have e : ns[i]? = some ns[i] := List.getElem?_eq_getElem hi
  have := h2 i _ e
  rw [List.getD_eq_getElem?_getD, e]
  refine (?_ : ns[i] - (i : Int) < 1 ↔ _)
  rcases Nat.lt_or_ge i m with q | q
  ·have := this.1 q; lia
  ·have := this.2 q; lia
 ·refine List.ext_getElem? fun i => ?_
  rw [List.getElem?_map]
  rcases Nat.lt_or_ge i m with q | q
  ·rw [List.getElem?_take_of_lt q, List.getElem?_range q, List.getElem?_eq_getElem (by lia : i < ns.length)]
   have := (h2 i _ (List.getElem?_eq_getElem (by lia : i < ns.length))).1 q
   rw [this]; rfl
  ·rw [List.getElem?_eq_none (by rw [List.length_take]; lia), List.getElem?_eq_none (by simpa using q)]; rfl
end Mine
end
section
open PySem PySem.Calls PyProof.Rows PySem.W PySem.SeqAt PyProof.V
set_option maxRecDepth 100000
namespace Mine
noncomputable def da (bd : List Bool) (i : Nat) : Bool := bd.getD i false
noncomputable def bc (bad : Nat -> Bool) : Nat -> List (List Nat)
 | 0 => List.replicate 33 []
 | k + 1 => (bc bad k).modify (ek (dw bad k (cf bad k)) k 0) (· ++ [k])
theorem jg {bad : Nat -> Bool} : ∀ k, (bc bad k).length = 33
 | 0 => rfl
 | k + 1 => by simp [bc, jg k]
noncomputable abbrev rst (bd : List Bool) (num near spot : Option D) (R : List (List Nat)) (row : List Nat) (ext : List ac) : List ac :=
 i1 16 [none, none, some (.obj 5), none, some (.d (.bool true)), dv near, dv spot, none, none, none, none, none] :: .cell (some (.d (.list (bd.map .bool)))) :: .cell (dv num) :: .cell (some (.obj 39)) :: .raw (ap 0 33) :: .list ((List.range 33).map fun s => .obj (6 + s)) :: (R.map dn ++ (dn row :: ext))
theorem zn {bd : List Bool} {num near spot : Option D} {R : List (List Nat)} {row : List Nat} {ext : List ac} (hR : R.length = 33) : (rst bd num near spot R row ext)[39]? = some (dn row) := by
 refine (?_ : (R.map dn ++ (dn row :: ext))[33]? = _)
 rw [List.getElem?_append_right (by simp [hR]), List.length_map, hR]; rfl
theorem B8 {bd : List Bool} {num near spot : Option D} {R : List (List Nat)} {row : List Nat} {ext : List ac} {s : Nat} {r : List Nat} (hr : R[s]? = some r) : (rst bd num near spot R row ext)[6 + s]? = some (dn r) := by
 rw [show 6 + s = s + 6 by lia]
 refine (?_ : (R.map dn ++ (dn row :: ext))[s]? = _)
 have hs : s < R.length := (List.getElem?_eq_some_iff.mp hr).1
 rw [List.getElem?_append_left (by simpa using hs), List.getElem?_map, hr]; rfl
theorem wu (r : List Nat) (k : Nat) : ac.list (((r.map gj).map AV.d) ++ [.d (.int (k : Int))]) = dn (r ++ [k]) := by
 unfold dn gj; simp
theorem Df {bd : List Bool} {num near spot : Option D} {R : List (List Nat)} {row row' : List Nat} {ext : List ac} (hR : R.length = 33) : (rst bd num near spot R row ext).set 39 (dn row') = rst bd num near spot R row' ext := by
 refine (?_ : i1 16 _ :: _ :: _ :: _ :: _ :: _ :: ((R.map dn ++ (dn row :: ext)).set 33 (dn row')) = _)
 rw [List.set_append_right _ _ (by simp [hR]), List.length_map, hR]; rfl
theorem B1 {bd : List Bool} {num near spot : Option D} {R : List (List Nat)} {row r r' : List Nat} {ext : List ac} {s : Nat} (hr : R[s]? = some r) : (rst bd num near spot R row ext).set (6 + s) (dn r') = rst bd num near spot (R.set s r') row ext := by
 rw [show 6 + s = s + 6 by lia]
 refine (?_ : i1 16 _ :: _ :: _ :: _ :: _ :: _ :: ((R.map dn ++ (dn row :: ext)).set s (dn r')) = _)
 have hs : s < R.length := (List.getElem?_eq_some_iff.mp hr).1
 rw [List.set_append_left _ _ (by simpa using hs)]
 refine (?_ : _ :: _ :: _ :: _ :: _ :: _ :: _ = i1 16 _ :: _ :: _ :: _ :: _ :: _ :: ((R.set s r').map dn ++ (dn row :: ext)))
 rw [List.map_set]
theorem th {r : List Nat} {n : Nat} : (dn r).below n := fun a ha => by
 obtain ⟨d, _, rfl⟩ := List.mem_map.mp ha; trivial
theorem dvB {o : Option D} {n : Nat} : dz n (dv o) := fun a e => by
 cases o with
 | none => cases e
 | some d => cases e; trivial
theorem og {o : Option D} {n : Nat} : (ac.cell (dv o)).below n := by
 cases o with
 | none => trivial
 | some d => trivial
theorem yt {bd : List Bool} {num near spot : Option D} {R : List (List Nat)} {row : List Nat} {ext : List ac} {n : Nat} (hR : R.length = 33) (hn : 40 <= n) (hx : ∀ x ∈ ext, x.below n) : ∀ x ∈ rst bd num near spot R row ext, x.below n := by
 refine bw (u4 (bw dz.none <| bw dz.none <| bw (dz.obj (by lia)) <| bw dz.none <| bw (fun a e => by cases e; trivial) <| bw dvB <| bw dvB <| bw dz.none <| bw dz.none <| bw dz.none <| bw dz.none <| pj dz.none)) <| bw trivial <| bw og <| bw (by show 39 < n; lia) <| bw trivial <| bw ?_ ?_
 ·intro a ha
  obtain ⟨s, hs, rfl⟩ := List.mem_map.mp ha
  have : s < 33 := List.mem_range.mp hs
  show 6 + s < n; lia
 ·intro x h
  rcases List.mem_append.mp h with h | h
  ·obtain ⟨r, _, rfl⟩ := List.mem_map.mp h; exact th
  ·rcases List.mem_cons.mp h with rfl | h
   ·exact th
   ·exact hx x h
theorem ur {bd : List Bool} {num near spot : Option D} {R : List (List Nat)} {row : List Nat} {ext : List ac} (hR : R.length = 33) : (rst bd num near spot R row ext).length = 40 + ext.length := by
 simp [hR]; lia
theorem E1 {bd : List Bool} {num near spot : Option D} {R : List (List Nat)} {row : List Nat} {ext more : List ac} : rst bd num near spot R row ext ++ more = rst bd num near spot R row (ext ++ more) := by simp
theorem Jx {bd : List Bool} {num near spot : Option D} {R : List (List Nat)} {row : List Nat} {ext more : List ac} {n : Nat} (hR : R.length = 33) (hn : n = 40 + ext.length) (hx : ∀ x ∈ ext, x.below n) : Sub n (rst bd num near spot R row (ext ++ more)) (rst bd num near spot R row ext) := by
 have hl := ur (bd := bd) (num := num) (near := near) (spot := spot) (row := row) (ext := ext) hR
 refine Sub.of (by rw [hl, hn]) ?_
 have e : rst bd num near spot R row (ext ++ more) = rst bd num near spot R row ext ++ more := by simp
 rw [e]
 have := m6 (n := n) (r := more) (r' := []) g5.nil (base := rst bd num near spot R row ext) (yt hR (by lia) hx)
 rwa [List.append_nil] at this
variable {C : Cx} {A : Around} {G : Gd}
noncomputable def An (bd : List Bool) (n : Nat) (row : List Nat) : D -> Option Int
 | .int o => if da bd (n ^^^ o.toNat) then (row[o.toNat]?).map fun (v : Nat) => (v : Int) else none
 | _ => none
theorem Hg (bd : List Bool) (n : Nat) (row : List Nat) : (fb 0 n).filterMap (An bd n row) = (dw (da bd) n row).map fun (v : Nat) => (v : Int) := by
 unfold fb dw
 rw [List.filterMap_map]
 generalize List.range n = l
 induction l with
 | nil => rfl
 | cons o l ih =>
  rw [List.filterMap_cons, List.filterMap_cons, ih]
  simp only [Function.comp, An]
  rw [show ((0 : Int) + (o : Int)).toNat = o by lia]
  cases da bd (n ^^^ o) with
  | false => rfl
  | true =>
   simp only [if_true]
   cases row[o]? with
   | none => rfl
   | some v => rfl
theorem mz {n o : Nat} (hn : n < 32) (ho : o < 32) : n ^^^ o < 32 := Nat.xor_lt_two_pow (n := 5) hn ho
set_option maxHeartbeats 4000000 in
theorem G7 (cd : Value) (ql : Str) {m : Nat} (hA : AOk A m) (gr : ag C "range" (.type "range")) (gs : ag C "sorted" (.builtin "sorted")) (bd : List Bool) (hbd : bd.length = 33) (n : Nat) (hn : n < 32) (near spot : Option D) (R : List (List Nat)) (hR : R.length = 33) (row : List Nat) (hrow : row.length = n) (p1 p2 p3 p4 p5 p6 p7 p8 p9 p10 p11 p12 p13 p14 p15 p16 p17 : Pos) (Q : AF -> List ac -> Prop)
  (q : ∀ (ns : List Int) (S : ac), ns.Pairwise (· < ·) -> (∀ k, k ∈ ns ↔ k ∈ (dw (da bd) n row).map fun (v : Nat) => (v : Int)) -> (∀ j, S.below j) -> Q .next (rst bd (some (.int (n : Int))) (some (.list (ns.map .int))) spot R row [.raw (ap 0 32), .raw (ap 0 (n : Int)), S])) :
  wS C A G (Du cd ql) (rst bd (some (.int (n : Int))) near spot R row [.raw (ap 0 32)])
   (.Assign [.Name "near" p1] (.Call (.Name "sorted" p2) [.SetComp (.Subscript (.Name "row" p3) (.Name "other" p4) p5) [⟨.Name "other" p6, .Call (.Name "range" p7) [.Name "number" p8] [] p9, [.Subscript (.Name "bad" p10) (.BinOp (.Name "number" p11) .BitXor (.Name "other" p12) p13) p14], 0⟩] { kind := .function, names := [(".0", .local), ("other", .local), ("bad", .free), ("number", .free), ("row", .free)], isGenerator := false, isCoroutine := false, more := [] } p15] [] p16) p17) Q := by
 refine al (fun _ => rfl) ?_
 refine dq (fun _ => rfl) (ao 8 gs rfl ?_)
 have hx0 : ∀ x ∈ [ac.raw (ap 0 32), .raw (ap 0 (n : Int))], ∀ m, x.below m := ng (fun _ => trivial) (fun _ => trivial)
 have hcl : c6 (rst bd (some (.int (n : Int))) near spot R row [.raw (ap 0 32), .raw (ap 0 (n : Int))]) := Bv (ur hR) (yt hR (by simp) fun x hx => hx0 x hx _)
 have hlen : (rst bd (some (.int (n : Int))) near spot R row [.raw (ap 0 32), .raw (ap 0 (n : Int))]).length = 42 := ur hR
 refine Mc (its := fb 0 n) (st2 := rst bd (some (.int (n : Int))) near spot R row [.raw (ap 0 32), .raw (ap 0 (n : Int))]) Et (An bd n row) rfl ⟨rfl, by decide +kernel, by decide +kernel⟩ rfl (by rw [hlen]; show ((cellsFrom 44 _ _).map (·.1)).Nodup; decide +kernel) (fun _ _ => rfl) ?_ (by simp [fb]; lia) hcl ?_ ?_
 ·refine jq (dq (fun _ => rfl) (ao 7 gr rfl (aw 1 1 2 rfl rfl rfl (db (ji ?_)))))
  refine il (i := (rst bd (some (.int (n : Int))) near spot R row [.raw (ap 0 32)]).length) (a := 0) (b := n) hA.handled (by rw [List.getElem?_append_right (Nat.le_refl _), Nat.sub_self]; rfl) (by lia) (by lia) ⟨by simp, by simp⟩
 ·refine zd.of rfl rfl rfl hcl ?_
  intro φ' E' env' d acc hd hef
  obtain ⟨o, ho, rfl⟩ := List.mem_map.mp hd
  have hon : o < n := List.mem_range.mp ho
  have c1 : ∀ {r : List ac}, (rst bd (some (.int (n : Int))) near spot R row [.raw (ap 0 32), .raw (ap 0 (n : Int))] ++ r)[1]? = some (.cell (some (.d (.list (bd.map .bool))))) := rfl
  have c39 : ∀ {r : List ac}, (rst bd (some (.int (n : Int))) near spot R row [.raw (ap 0 32), .raw (ap 0 (n : Int))] ++ r)[39]? = some (dn row) := by
   intro r
   rw [List.getElem?_append_left (by rw [hlen]; decide)]
   exact zn hR
  rw [show ((0 : Int) + (o : Int)) = ((o : Nat) : Int) by lia]
  refine xe ?_
  refine sv (fun _ _ => rfl) ?_
  refine bb (fun _ _ => ⟨_, rfl⟩) (aw 2 2 1 rfl rfl rfl ?_)
  refine aj (aw 3 1 2 rfl rfl rfl (aa 1 rfl kl rfl rfl (Da ?_)))
  rw [pk]
  have hx := mz hn (by lia : o < 32)
  refine cj (l := (bd.map PyData.bool).map .d) (x := .d (.bool (da bd (n ^^^ o)))) rfl (by lia) (by lia) (by rw [Int.toNat_natCast, List.getElem?_map, List.getElem?_map]; unfold da; rw [List.getD_eq_getElem?_getD, List.getElem?_eq_getElem (by lia)]; rfl) ?_
  refine cn ?_
  have hro : row[o]? = some (row[o]'(by lia)) := List.getElem?_eq_getElem (by lia)
  cases hb : da bd (n ^^^ o) with
  | false => exact ⟨by simp [An, hb], [], (List.append_nil _).symm⟩
  | true =>
   refine bb (fun _ _ => ⟨_, rfl⟩) (aw 4 0 3 rfl rfl rfl (aa 1 rfl kl rfl rfl ?_))
   refine cj (l := (row.map gj).map .d) (x := .d (gj (row[o]'(by lia)))) (.inl c39) (by lia) (by lia) (by rw [Int.toNat_natCast, List.getElem?_map, List.getElem?_map, hro]; rfl) ?_
   exact ⟨_, rfl, by simp [An, hb, hro], [], (List.append_nil _).symm⟩
 ·rw [Hg]
  refine d7 (Aa hA.handled (by rw [List.getElem?_append_right (Nat.le_refl _), Nat.sub_self]; rfl) ?_)
  intro ns h1 h2 h3
  refine af 5 rfl rfl rfl ?_
  rw [E1]
  exact q ns (.raw (ce C.w (fg ((dw (da bd) n row).map fun (v : Nat) => (v : Int))).1 (fg ((dw (da bd) n row).map fun (v : Nat) => (v : Int))).2)) (List.Pairwise.imp₂ (fun a b hle hne => Int.lt_iff_le_and_ne.mpr ⟨hle, hne⟩) h1 h2) (fun k => (h3 k).trans (I9 _ k)) fun _ => trivial
end Mine
end
section
open PySem PySem.Calls PyProof.Rows PySem.W PySem.SeqAt PyProof.V
namespace Mine
noncomputable def ShD (n : Nat) (d : D) : Prop := d.canLay0 = true /\ d.depth <= n
theorem K8 {i : Int} {n : Nat} : ShD n (.int i) := ⟨rfl, Nat.zero_le _⟩
theorem ts {x : Str} {n : Nat} (h : (PyData.str x).canLay0 = true) : ShD n (.str x) := ⟨h, Nat.zero_le _⟩
theorem Cf {n : Nat} : ∀ {l : List D}, (∀ x ∈ l, ShD n x) -> PyData.canLayAll0 l = true /\ PyData.depthAll l <= n
 | [], _ => ⟨rfl, Nat.zero_le _⟩
 | x :: r, h => by
  obtain ⟨a, b⟩ := Cf (l := r) fun y hy => h y (List.mem_cons_of_mem _ hy)
  obtain ⟨c, d⟩ := h x List.mem_cons_self
  refine ⟨?_, ?_⟩
  ·show (x.canLay0 && PyData.canLayAll0 r) = true
   rw [a, c]; rfl
  ·show max x.depth (PyData.depthAll r) <= n
   lia
theorem ox {n : Nat} {l : List D} (h : ∀ x ∈ l, ShD n x) : ShD (n + 1) (.list l) := ⟨(Cf h).1, Nat.succ_le_succ (Cf h).2⟩
theorem Mj {n : Nat} {l : List D} (h : ∀ x ∈ l, ShD n x) : ShD (n + 1) (.tuple l) := ⟨(Cf h).1, Nat.succ_le_succ (Cf h).2⟩
theorem ShD.shaped {n : Nat} {d : D} (h : ShD n d) (hn : n <= 64) : SeqAt.shaped d = true := by
 unfold SeqAt.shaped
 rw [h.1, decide_eq_true (Nat.le_trans h.2 hn)]; rfl
theorem ShD.self {n : Nat} {d : D} (h : ShD n d) : PyData.eqv d d = true := eqv_refl d h.1
section
variable {C : Cx} {A : Around} {G : Gd} {ae : a9} {st : List ac} {Q : AV -> List ac -> Prop}
theorem j5 {n m : Nat} (hA : AOk A m) {x : D} (h : ShD n x) (hn : n <= 64) (q : Q (.d (.bool false)) st) : jb C A G st .NotEq (.d x) (.d x) Q :=
 Pp hA.room (h.shaped hn) (h.shaped hn) (by rw [h.self]; exact q)
theorem Ma {n m : Nat} (hA : AOk A m) {x : D} (h : ShD n x) (hn : n <= 64) (q : Q (.d (.bool true)) st) : jb C A G st .Eq (.d x) (.d x) Q :=
 Qy hA.room (h.shaped hn) (h.shaped hn) (by rw [h.self]; exact q)
end
noncomputable def uj (f : Int -> D) : D -> Option D
 | .int t => some (f t)
 | _ => none
theorem Gx (f : Int -> D) (l : List Int) : (l.map PyData.int).filterMap (uj f) = l.map f := by
 rw [List.filterMap_map]
 exact congrFun (List.filterMap_eq_map' ..) l
theorem yx (f : Int -> D) (a : Int) (n : Nat) : (fb a n).filterMap (uj f) = (List.range n).map fun (i : Nat) => f (a + (i : Int)) := by
 unfold fb
 rw [List.filterMap_map]
 exact congrFun (List.filterMap_eq_map' ..) (List.range n)
end Mine
end
section
open PySem PySem.Calls PyProof.Rows PySem.W PySem.SeqAt PyProof.V
set_option maxRecDepth 100000
namespace Mine
variable {C : Cx} {A : Around} {G : Gd}
theorem Gu (cd : Value) (ql : Str) (hl : ci C) {m : Nat} (hA : AOk A 3) {bf : Value} {bfd : FuncData} (B : gk C 5 bf bfd) (gb : ag C "bisect_left" bf) (gl : ag C "len" (.builtin "len")) (gL : ag C "list" (.type "list")) (gE : ag C "enumerate" (.type "enumerate"))
  (P : Addr) (L : l6 C cd P) (htq : ∀ pos' : Pos, ((((115 : Nat) : Int) == pos'.line) = true) -> ((((57 : Nat) : Int) == pos'.col) = true) -> C.tq pos' = ql ++ "<lambda>")
  (bd : List Bool) (n : Nat) (spot : Option D) (R : List (List Nat)) (row : List Nat) (ext : List ac) (ns : List Int) (hns : ns.length <= 1000) (hm : bsL (fun i => ns.getD i 0 - (i : Int)) 1 ns.length 0 ns.length = m)
  (p1 p2 p3 p4 p5 p6 p7 p8 p9 p10 q0 q1 q2 q3 q4 q5 q6 q7 k1 : Pos) (a1 a2 : Nat) (Q : AF -> List ac -> Prop)
  (q : Q .next (rst bd (some (.int (n : Int))) (some (.list (ns.map .int))) (some (.int (m : Int))) R row ext)) :
  wS C A G (Du cd ql) (rst bd (some (.int (n : Int))) (some (.list (ns.map .int))) spot R row ext)
   (.Assign [.Name "spot" p1] (.Call (.Name "bisect_left" p2) [.Call (.Name "list" p3) [.Call (.Name "enumerate" p4) [.Name "near" p5] [] p6] [] p7, .Constant (.int 1) 0 p8] [⟨some "key", .Lambda (E8 q0) (Nz q1 q2 q3 q4 q5 q6 q7) Kc ⟨115, 57, a1, a2⟩, k1⟩] p9) p10) Q := by
 refine al (fun _ => rfl) ?_
 refine pd (P := P) [] (fun _ => rfl) L (fun _ => rfl) rfl htq (htq _ rfl rfl) ?_
 refine ao 9 gb rfl ?_
 refine ad (fun _ => rfl) ?_
 refine A8 10 11 (hA.in1.in1n) gL rfl gE rfl (fun _ => rfl) (aa 5 rfl rfl rfl rfl ⟨ns.map .int, by rw [List.length_map]; lia, .inl rfl, ?_⟩)
 refine ad (fun _ => rfl) (ai (ak ?_))
 have hel : (eh 0 (ns.map PyData.int)).length = ns.length := by rw [dj, List.length_map]
 refine z8 (ds := []) (n := 2) (hA.mono (by decide)) ⟨List.nodup_nil, rfl, fun j x i d e1 e2 => nomatch e1⟩ (ng trivial trivial) (fun φf κf kf hφt hL => z6 (g := fun i => ns.getD i 0 - (i : Int)) (nk := 1) hl gl B hφt (eh 0 (ns.map .int)) 1 (by rw [hel]; lia) rfl (fun i d hd => ?_)) ?_
 ·obtain ⟨y, h1, rfl⟩ := jj _ _ _ _ hd
  rw [List.getElem?_map] at h1
  obtain ⟨v, h2, rfl⟩ := Option.map_eq_some_iff.mp h1
  have := D0 hl ((0 + i : Nat) : Int) v _ _ _ _ _ _ _ _ hL
  rw [show ns.getD i 0 - (i : Int) = v - ((0 + i : Nat) : Int) by rw [List.getD_eq_getElem?_getD, h2, Nat.zero_add]; rfl]
  exact this
 ·rintro d rfl
  rw [hel, hm]
  exact af 6 rfl rfl rfl q
theorem Dw (cd : Value) (ql : Str) {m : Nat} (hA : AOk A 3) (gr : ag C "range" (.type "range")) (gL : ag C "list" (.type "list")) (bd : List Bool) (num : Option D) (R : List (List Nat)) (row : List Nat) (ext : List ac) (ns : List Int) (hns : ns.length <= 1000) (hR : R.length = 33)
  (ht : ns.take m = (List.range m).map fun (i : Nat) => (i : Int)) (hm : (m : Int) ∉ ns) (hmm : m <= 1000) (p1 p2 p3 p4 p5 p6 p7 p8 p9 p10 p11 p12 p13 p14 p15 p16 p17 : Pos) (Q : AF -> List ac -> Prop)
  (q : Q .next (rst bd num (some (.list (ns.map .int))) (some (.int (m : Int))) R row (ext ++ [.raw (ap 0 (m : Int))]))) :
  wS C A G (Du cd ql) (rst bd num (some (.list (ns.map .int))) (some (.int (m : Int))) R row ext)
   (.Assign [.Name "first" p1] (.BoolOp .And [.Name "first" p2, .Compare (.Subscript (.Name "near" p3) (.Slice none (some (.Name "spot" p4)) none p5) p6) [.Eq] [.Call (.Name "list" p7) [.Call (.Name "range" p8) [.Name "spot" p9] [] p10] [] p11] p12, .Compare (.Name "spot" p13) [.NotIn] [.Name "near" p14] p15] p16) p17) Q := by
 have hS := sizeLine_eq
 refine al (fun _ => rfl) ?_
 refine Fe (aa 4 rfl rfl rfl rfl (cn ?_))
 refine (?_ : wE _ _ _ _ _ _ _)
 refine Fe ?_
 refine lq rfl ?_
 refine ie (aa 5 rfl rfl rfl rfl (c5 (dc (aa 6 rfl rfl rfl rfl ⟨(m : Int), rfl, c5 ?_⟩))))
 refine mw (l := ns.map .int) rfl (fun h => nomatch h) (by rw [List.length_map, hS]; lia) ?_
 rw [po, <- List.map_take, ht]
 refine dq (fun _ => rfl) (ao 10 gL rfl ?_)
 refine dq (fun _ => rfl) (ao 7 gr rfl (aa 6 rfl rfl rfl rfl (db (ji ?_))))
 refine db (zc (i := (rst bd num (some (.list (ns.map .int))) (some (.int (m : Int))) R row ext).length) (a := 0) (b := m) hA.in1n (by rw [List.getElem?_append_right (Nat.le_refl _), Nat.sub_self]; rfl) (by lia) (by lia) ?_)
 have e : fb 0 ((m : Int) - 0).toNat = ((List.range m).map fun (i : Nat) => (i : Int)).map PyData.int := by
  unfold fb
  rw [List.map_map, show ((m : Int) - 0).toNat = m by lia]
  refine List.map_congr_left fun i _ => ?_
  refine (?_ : PyData.int (0 + (i : Int)) = .int (i : Int))
  rw [Int.zero_add]
 rw [e]
 refine Ma hA (ox (n := 1) fun x hx => ?_) (by decide) (cn ?_)
 ·obtain ⟨i, _, rfl⟩ := List.mem_map.mp hx; exact K8
 rw [E1]
 refine lq rfl (aa 6 rfl rfl rfl rfl (aa 5 rfl rfl rfl rfl ?_))
 refine C8 (ns := ns) rfl ?_
 have hf : (!ns.any (· == (m : Int))) = true := by
  rw [Bool.not_eq_true', List.any_eq_false]
  intro x hx e
  exact hm (by rw [<- eq_of_beq e]; exact hx)
 rw [hf]
 exact af 4 rfl rfl rfl q
end Mine
end
section
open PySem PySem.Calls PyProof.Rows PySem.W PySem.SeqAt PyProof.V
set_option maxRecDepth 100000
namespace Mine
variable {C : Cx} {A : Around} {G : Gd}
theorem Hk {bad : Nat -> Bool} {n : Nat} {ns : List Int} (hs : ns.Pairwise (· < ·)) (hm : ∀ k, k ∈ ns ↔ k ∈ (dw bad n (cf bad n)).map fun (v : Nat) => (v : Int)) :
  (∀ x ∈ ns, 0 <= x) /\ (∀ j : Nat, j < ek (dw bad n (cf bad n)) n 0 -> (j : Int) ∈ ns) /\ ((ek (dw bad n (cf bad n)) n 0 : Nat) : Int) ∉ ns /\ ns.length <= n := by
 have h0 : ∀ x ∈ ns, 0 <= x := fun x hx => by
  obtain ⟨v, _, rfl⟩ := List.mem_map.mp ((hm x).mp hx); exact Int.natCast_nonneg v
 refine ⟨h0, fun j hj => (hm _).mpr (List.mem_map.mpr ⟨j, x6 n j hj, rfl⟩), fun h => ?_, ?_⟩
 ·obtain ⟨v, hv, e⟩ := List.mem_map.mp ((hm _).mp h)
  have : v = ek (dw bad n (cf bad n)) n 0 := by lia
  exact F0 n (this ▸ hv)
 ·rcases Nat.lt_or_ge n ns.length with h | h
  ·exfalso
   have e : ns[n]? = some ns[n] := List.getElem?_eq_getElem h
   have h1 := z5 hs h0 n _ e
   obtain ⟨v, hv, e2⟩ := List.mem_map.mp ((hm _).mp (List.mem_of_getElem? e))
   have := F1 v hv
   lia
  ·exact h
theorem ig {bad : Nat -> Bool} : ∀ k, ∀ r ∈ bc bad k, r.length <= k
 | 0, r, h => by rw [List.eq_of_mem_replicate h]; exact Nat.le_refl _
 | k + 1, r, h => by
  unfold bc at h
  obtain ⟨i, hi, e⟩ := List.getElem_of_mem h
  rw [List.getElem_modify] at e
  have hm := ig k _ (List.getElem_mem (l := bc bad k) (n := i) (by simpa using hi))
  split at e
  ·rw [<- e, List.length_append]; exact Nat.add_le_add_right hm 1
  ·rw [<- e]; lia
theorem Ef {α : Type} {f : α -> α} {l : List α} {i : Nat} {a : α} (h : l[i]? = some a) : l.modify i f = l.set i (f a) := by
 refine List.ext_getElem? fun j => ?_
 rw [List.getElem?_modify, List.getElem?_set]
 have hi := (List.getElem?_eq_some_iff.mp h).1
 by_cases q : i = j
 ·subst q; rw [h]; simp [hi]
 ·simp only [if_neg q]; cases l[j]? <;> rfl
structure zv (C : Cx) (cd : Value) (ql : Str) (bf : Value) (bfd : FuncData) (P : Addr) : Prop where
 hl : ci C
 gr : ag C "range" (.type "range")
 gs : ag C "sorted" (.builtin "sorted")
 B : gk C 5 bf bfd
 gb : ag C "bisect_left" bf
 gl : ag C "len" (.builtin "len")
 gL : ag C "list" (.type "list")
 gE : ag C "enumerate" (.type "enumerate")
 L : l6 C cd P
 htq : ∀ pos' : Pos, ((((115 : Nat) : Int) == pos'.line) = true) -> ((((57 : Nat) : Int) == pos'.col) = true) -> C.tq pos' = ql ++ "<lambda>"
inductive InR (bd : List Bool) (k : Nat) (st : List ac) : Prop
 | mk (num near spot : Option D) (hk : k <= 32) (hs : st = rst bd num near spot (bc (da bd) k) (cf (da bd) k) [.raw (ap 0 32)])
set_option maxHeartbeats 4000000 in
theorem Gk (cd : Value) (ql : Str) (hA : AOk A 3) {bf : Value} {bfd : FuncData} {P : Addr} (V : zv C cd ql bf bfd P) (bd : List Bool) (hbd : bd.length = 33) (Q : AF -> List ac -> Prop)
  (q : ∀ num near spot, Q .next (rst bd num near spot (bc (da bd) 32) (cf (da bd) 32) [.raw (ap 0 32)])) :
  wS C A G (Du cd ql) (rst bd none none none (bc (da bd) 0) (cf (da bd) 0) []) (F5 3) Q := by
 have hS := sizeLine_eq
 have hx0 : ∀ x ∈ [ac.raw (ap 0 32)], ∀ m, x.below m := pj fun _ => trivial
 refine (?_ : wS _ _ _ _ _ (.For _ _ _ _ _) _)
 refine qk 41 (fb 0 32) (InR bd) (fun _ _ => rfl) ?_ ?_ ?_ ?_
 ·rintro k st1 ⟨num, near, spot, _, rfl⟩
  exact ur (jg k)
 ·refine jq (dq (fun _ => rfl) (ao 7 V.gr rfl (ai (db (ji ?_)))))
  refine il (i := 40) (a := 0) (b := 32) hA.handled rfl (by lia) (by lia) ⟨rfl, none, none, none, by lia, rfl⟩
 ·rintro φ' E' k x st1 hx ⟨num, near, spot, hk, rfl⟩
  refine byC fun hC1 => ?_
  obtain ⟨rfl, hkl⟩ := j1 hx
  refine hC1 ?_
  refine d8 (eg 1 1 2 rfl rfl rfl ?_)
  rw [show ((0 : Int) + (k : Int)) = ((k : Nat) : Int) by lia]
  refine (?_ : wSs _ _ _ _ (rst bd (some (.int (k : Int))) near spot (bc (da bd) k) (cf (da bd) k) [.raw (ap 0 32)]) _ _)
  have hRl := jg (bad := da bd) k
  refine ah (G7 cd ql hA V.gr V.gs bd hbd k hkl near spot _ hRl _ (fs k) _ _ _ _ _ _ _ _ _ _ _ _ _ _ _ _ _ _ ?_)
  intro ns S hs hmem hSb
  refine byC fun hC2 => ?_
  obtain ⟨h0, hb, hm, hln⟩ := Hk hs hmem
  obtain ⟨g1, g2⟩ := G5 hs h0 hb hm
  refine hC2 ?_
  have hml := (qq (dw (da bd) k (cf (da bd) k)) k 0).2
  refine (?_ : wSs _ _ _ _ _ _ _)
  refine ah (Gu cd ql V.hl hA V.B V.gb V.gl V.gL V.gE P V.L V.htq bd k spot _ _ _ ns (by lia) g1 _ _ _ _ _ _ _ _ _ _ _ _ _ _ _ _ _ _ _ _ _ _ ?_)
  refine (?_ : wSs _ _ _ _ _ _ _)
  refine ah (Dw cd ql hA V.gr V.gL bd _ _ _ _ ns (by lia) hRl g2 hm (by lia) _ _ _ _ _ _ _ _ _ _ _ _ _ _ _ _ _ _ ?_)
  refine (?_ : wSs _ _ _ _ _ _ _)
  refine byC fun hC3 => ?_
  obtain ⟨r, hrk⟩ : ∃ r, (bc (da bd) k)[ek (dw (da bd) k (cf (da bd) k)) k 0]? = some r := ⟨_, List.getElem?_eq_getElem (by lia)⟩
  refine hC3 ?_
  have e1 : cf (da bd) (k + 1) = cf (da bd) k ++ [ek (dw (da bd) k (cf (da bd) k)) k 0] := rfl
  have e2 : bc (da bd) (k + 1) = (bc (da bd) k).modify (ek (dw (da bd) k (cf (da bd) k)) k 0) (· ++ [k]) := rfl
  have hrl := fs (bad := da bd) k
  have hrlen : ∀ r ∈ bc (da bd) k, r.length <= 1000 := fun r hr => Nat.le_trans (ig k r hr) (by lia)
  generalize hmx : ek (dw (da bd) k (cf (da bd) k)) k 0 = mx at *
  generalize hRk : bc (da bd) k = Rk at *
  generalize hrw : cf (da bd) k = rw at hrl e1 ⊢
  refine ah (lu (fun _ => rfl) ?_)
  refine jo F.plainAttrs_list F.slot_list_append F.type_list_append ?_ ?_ ?_ ?_
  ·exact fun _ _ => Ju ..
  ·exact fun _ => rfl
  ·rfl
  refine bb (fun _ _ => ⟨_, rfl⟩) (aa 2 rfl rfl rfl rfl (aa 6 rfl rfl rfl rfl ?_))
  refine cj (l := (List.range 33).map fun s => .obj (6 + s)) (x := .obj (6 + mx)) (.inl rfl) (by lia) (by lia) (by rw [Int.toNat_natCast, List.getElem?_map, List.getElem?_range (by lia)]; rfl) ?_
  refine ⟨f8 (B8 hrk), ?_⟩
  refine aw 1 1 2 rfl rfl rfl ?_
  refine ku (B8 hrk) (by rw [List.length_map, List.length_map, hS]; exact Nat.le_trans (hrlen _ (List.mem_of_getElem? hrk)) (by decide)) ?_
  rw [wu, B1 hrk]
  refine (?_ : wSs _ _ _ _ _ _ _)
  have hRl2 : (Rk.set mx (r ++ [k])).length = 33 := by rw [List.length_set]; exact hRl
  refine ah (lu (fun _ => rfl) ?_)
  refine jo F.plainAttrs_list F.slot_list_append F.type_list_append ?_ ?_ ?_ ?_
  ·exact fun _ _ => x8 ..
  ·exact fun _ => rfl
  ·rfl
  refine aw 3 0 3 rfl rfl rfl ?_
  refine ⟨f8 (zn hRl2), ?_⟩
  refine aa 6 rfl rfl rfl rfl ?_
  refine ku (zn hRl2) (by rw [List.length_map, List.length_map, hrl, hS]; lia) ?_
  rw [wu, Df hRl2]
  have e3 : Rk.set mx (r ++ [k]) = bc (da bd) (k + 1) := by
   rw [e2]; exact (Ef (f := (· ++ [k])) hrk).symm
  rw [e3, <- e1]
  exact am ⟨_, Jx (more := [.raw (ap 0 (k : Int)), S, .raw (ap 0 (mx : Int))]) (jg (k + 1)) rfl (fun x hx => hx0 x hx _), _, _, _, hkl, rfl⟩
 ·rintro E' st1 ⟨num, near, spot, _, rfl⟩
  exact am (q num near spot)
noncomputable def lz (R : List (List Nat)) : D := .list (R.map bt)
theorem Pn (R : List (List Nat)) : R.map dn = (R.map fun r => r.map gj).map fun r => ac.list (r.map .d) := by
 rw [List.map_map]; rfl
theorem Ou (R : List (List Nat)) : (R.map fun r => r.map gj).map (fun r => ac.frz (.list r)) = R.map fun r => .frz (bt r) := by
 rw [List.map_map]; rfl
theorem Ih (cd : Value) (ql : Str) (bd : List Bool) (num near spot : Option D) (R : List (List Nat)) (row : List Nat) (ext : List ac) (hR : R.length = 33) (p1 p2 p3 p4 p5 : Pos) (post : D -> Prop) (hp : post (.tuple [lz R, bt row, .bool true])) :
  wSs C A G (Du cd ql) (rst bd num near spot R row ext) [.Return (some (.Tuple [.Name "rows" p1, .Name "row" p2, .Name "first" p3] 0 p4)) p5] (pv post) := by
 have hS := sizeLine_eq
 refine (?_ : wSs _ _ _ _ ([i1 16 _, _, _, _, _, _] ++ (R.map dn ++ (dn row :: ext))) _ _)
 rw [Pn, <- List.append_assoc]
 refine xw _ (dn row :: ext) _ ?_
 rw [Ou]
 refine Cd 5 (l := (List.range 33).map fun s => .obj (6 + s)) (ds := R.map bt) rfl (by simp [hR]) ?_ ?_
 ·intro j a d h1 h2
  rw [List.getElem?_map] at h1 h2
  obtain ⟨s, hs, rfl⟩ := Option.map_eq_some_iff.mp h1
  obtain ⟨r, hr, rfl⟩ := Option.map_eq_some_iff.mp h2
  obtain ⟨hj, rfl⟩ := List.getElem?_eq_some_iff.mp hs
  have hjR := (List.getElem?_eq_some_iff.mp hr).1
  refine .inr ⟨_, rfl, ?_⟩
  rw [List.getElem_range, show 6 + j = j + 6 by lia]
  refine (?_ : ((R.map fun r => ac.frz (bt r)) ++ (dn row :: ext))[j]? = _)
  rw [List.getElem?_append_left (by simpa using hjR), List.getElem?_map, hr]; rfl
 ·refine (?_ : wSs _ _ _ _ (i1 16 _ :: _ :: _ :: _ :: _ :: .frz (lz R) :: ((R.map fun r => ac.frz (bt r)) ++ (dn row :: ext))) _ _)
  have h39 : ∀ (a b c d e f x : ac) (r : List ac), (a :: b :: c :: d :: e :: f :: ((R.map fun r => ac.frz (bt r)) ++ (x :: r)))[39]? = some x := by
   intro a b c d e f x r
   refine (?_ : ((R.map fun r => ac.frz (bt r)) ++ (x :: r))[33]? = _)
   rw [List.getElem?_append_right (by simp [hR]), List.length_map, hR]; rfl
  have s39 : ∀ (a b c d e f x y : ac) (r : List ac), (a :: b :: c :: d :: e :: f :: ((R.map fun r => ac.frz (bt r)) ++ (x :: r))).set 39 y = (a :: b :: c :: d :: e :: f :: ((R.map fun r => ac.frz (bt r)) ++ (y :: r))) := by
   intro a b c d e f x y r
   refine (?_ : a :: b :: c :: d :: e :: f :: ((R.map fun r => ac.frz (bt r)) ++ (x :: r)).set 33 y = _)
   rw [List.set_append_right _ _ (by simp [hR]), List.length_map, hR]; rfl
  refine Dg 39 (ds := row.map gj) (h39 ..) ?_
  rw [s39]
  refine ah (fy (fx ?_))
  refine ad (fun _ => rfl) (N2 (aa 2 rfl rfl rfl rfl ⟨lz R, .inr ⟨5, rfl, rfl⟩, ?_⟩))
  refine ad (fun _ => rfl) (N2 (aw 3 0 3 rfl rfl rfl ⟨bt row, .inr ⟨39, rfl, h39 ..⟩, ?_⟩))
  refine ad (fun _ => rfl) (aa 4 rfl rfl rfl rfl ?_)
  exact ak ⟨[_, _, _], rfl, by rw [hS]; exact Nat.le_of_ble_eq_true rfl, hp⟩
theorem O8 : ew (aq PySem.Challenge.pw_wb0027_01 16) := ⟨rfl, by decide +kernel, by decide +kernel⟩
theorem Go {f : Value} {fd : FuncData} (B : cg C 16 f fd) (v : Value) : bindArgs fd ⟨[v], []⟩ = (pure [(("bad" : Str), v)] : Sem (List (Str × Value))) := B.bind rfl
theorem Mz {f : Value} {fd : FuncData} (BF : cg C 16 f fd) {bf : Value} {bfd : FuncData} {P : Addr} (V : zv C fd.code (fd.qualname ++ ".<locals>.") bf bfd P) (bd : List Bool) (hbd : bd.length = 33) :
  et C (fun _ => none) C.P0 4 f [.d (.list (bd.map .bool))] [] [] fun r => r = PyData.tuple [lz (bc (da bd) 32), bt (cf (da bd) 32), .bool true] := by
 have hsc := BF.scope
 refine x7 (bs := [(("bad" : Str), .d (.list (bd.map .bool)))]) BF.at_ V.hl (by rw [hsc]; exact O8) (by rw [hsc]; decide +kernel) (Jf (Go BF)) ?_
 intro A G A' hA
 rw [hsc]
 simp only [bu]
 refine eg 0 2 1 rfl rfl rfl ?_
 intro E
 refine (?_ : wSs C A (G.at E) (Du _ _) _ [F5 0, .Assign [.Name _ _] (.List [] _) _, .Assign [.Name _ _] (.Constant _ _ _) _, F5 3, .Return _ _] _)
 refine ah (Pd (G := G.at E) _ _ hA V.gr bd _ ?_)
 refine (?_ : wSs _ _ _ _ _ _ _)
 refine ah (al (fun _ => rfl) (qh (ak ⟨by decide, ?_⟩)))
 refine eg 3 0 3 rfl rfl rfl ?_
 refine (?_ : wSs _ _ _ _ _ _ _)
 refine ah (al (fun _ => rfl) (Lx ?_))
 refine af 4 rfl rfl rfl ?_
 refine (?_ : wSs _ _ _ _ (rst bd none none none (bc (da bd) 0) (cf (da bd) 0) []) _ _)
 refine ah (Gk (G := G.at E) _ _ hA V bd hbd _ ?_)
 intro num near spot
 refine (?_ : wSs _ _ _ _ _ _ _)
 exact Ih (G := G.at E) _ _ bd num near spot _ _ _ (jg 32) _ _ _ _ _ _ rfl
end Mine
end
section
open PySem PySem.Calls PyProof.Rows PySem.W PySem.SeqAt PyProof.V
set_option maxRecDepth 100000
namespace Mine
noncomputable def an (x : Int) : List Str := Txt.split (Txt.join ", " (cz x)) ", "
structure i7 (x : Int) : Prop where
 short : zp x
 join : (Txt.join ", " (cz x)).length <= 1000000
structure iz (C : Cx) (f : Value) : Prop where
 glob : ag C "pretty_flags" f
 ok : ∀ x, zp x -> et C (fun _ => none) C.P0 4 f [.d (.int x)] [] [] fun r => r = PyData.str (Txt.join ", " (cz x))
theorem Oe : ew (aq PySem.Challenge.pw_wb0027_01 17) := ⟨rfl, by decide +kernel, by decide +kernel⟩
noncomputable def yr (t1 t2 : List Str) : D -> Option D
 | .str w => if (t1.any (· == w) != t2.any (· == w)) then some (.str w) else none
 | _ => none
noncomputable def Qt (ws : List Str) : D -> Option D
 | .str w => some (.int ((1 : Int) * 2 ^ (ws.idxOf w)))
 | _ => none
noncomputable def du (ws t1 t2 : List Str) : List Str := (ws.take 10).filter fun w => t1.any (· == w) != t2.any (· == w)
theorem ri {C : Cx} {A : Around} {G : Gd} {ae : a9} {st : List ac} {Q : AV -> List ac -> Prop} (hA : AOk A 4) {pf : Value} (hpf : iz C pf) (i : Nat) (hk : ae.scope.names[i]? = some (("pretty_flags" : Str), NameKind.globalImplicit)) {arg : Expr} (he : ∀ env, starEach [arg] env = [(false, eval arg env)]) {x : Int} (hx : i7 x) {p1 p2 p3 p4 p5 : Pos} {k : Nat} (hl : (p3.endLine == p5.line) = true)
  (h : wE C A G ae st arg fun a st1 => a = .d (.int x) /\ Q (.d (.list ((an x).map .str))) st1) : wE C A G ae st (.Call (.Attribute (.Call (.Name "pretty_flags" p1) [arg] [] p2) "split" p3) [.Constant (.str ", ") k p4] [] p5) Q := by
 refine jo F.plainAttrs_str F.slot_str_split F.type_str_split (fun _ _ => Cw ..) (fun _ => rfl) hl (dq he (ao i hpf.glob hk (W.mono h fun a st1 q => ?_)))
 obtain ⟨rfl, q⟩ := q
 refine e7 (hpf.ok x hx.short) hA (pj trivial) (fun a ha => nomatch ha) fun d hd => ?_
 subst hd
 exact ⟨dg, az (rj rfl (by rw [sizeLine_eq]; have := hx.join; lia) q)⟩
set_option maxHeartbeats 4000000 in
theorem Jl {C : Cx} {A : Around} {G : Gd} (cd : Value) (ql : Str) (hA : AOk A 4) {pf : Value} (hpf : iz C pf) (gs : ag C "sum" (.builtin "sum")) (one two : Int) (h1 : i7 one) (h2 : i7 two) (ws : List Str) (hws : ws.length <= 1000) (post : D -> Prop)
  (hp : post (.tuple [.list ((du ws (an one) (an two)).map .str), .int ((du ws (an one) (an two)).map fun w => (1 : Int) * 2 ^ (ws.idxOf w)).sum])) :
  wSs C A G ⟨aq PySem.Challenge.pw_wb0027_01 17, 0, [("told", 2), ("words", 1)], cd, ql⟩ [i1 17 [some (.d (.int one)), some (.d (.int two)), none, none, none, none, none], .cell (some (.d (.list (ws.map .str)))), .cell none] (cq PySem.Challenge.pw_wb0027_01 17) (pv post) := by
 refine ah (al (fun _ => rfl) ?_)
 refine fx ?_
 refine ad (fun _ => rfl) (ri hA hpf 5 rfl (fun _ => rfl) h1 rfl (aa 0 rfl rfl rfl rfl ⟨rfl, ?_⟩))
 refine ad (fun _ => rfl) (ri hA hpf 5 rfl (fun _ => rfl) h2 rfl (aa 1 rfl rfl rfl rfl ⟨rfl, ?_⟩))
 refine ak ⟨[.list ((an one).map .str), .list ((an two).map .str)], rfl, by rw [sizeLine_eq]; exact Nat.le_of_ble_eq_true rfl, ?_⟩
 refine eg 3 0 2 rfl rfl rfl ?_
 show wSs _ _ _ _ _ _ _
 refine ah ?_
 refine Jy (its := d0 (ws.map PyData.str) none (some 10) none) (st2 := [i1 17 [some (.d (.int one)), some (.d (.int two)), none, none, none, none, none], .cell (some (.d (.list (ws.map .str)))), .cell (some (.d (.tuple [.list ((an one).map .str), .list ((an two).map .str)])))])
  4 [("told", 2)] (yr (an one) (an two)) rfl rfl rfl rfl ⟨rfl, by decide +kernel, by decide +kernel⟩ rfl (by show ((cellsFrom 5 _ _).map (·.1)).Nodup; decide +kernel) (fun _ _ => rfl) ?_ ?_ (c6.of (by ktr_unf)) ?_ ?_
 ·refine jq ?_
  refine ie (aw 2 1 1 rfl rfl rfl (c5 (dc (ai ⟨10, rfl, c5 ?_⟩))))
  refine mw (l := ws.map .str) rfl (fun h => nomatch h) (by rw [List.length_map, sizeLine_eq]; lia) ?_
  exact wa (.inl rfl) hA.handled ⟨rfl, rfl⟩
 ·rw [ib, List.length_map, sizeLine_eq]
  have := H5 ws none (some 10) none
  lia
 ·intro φ' E' env' x acc cs hx hcs hef
  rw [ib] at hx
  obtain ⟨w, hw, rfl⟩ := List.mem_map.mp hx
  have hcs0 : cs = [] := List.eq_nil_of_length_eq_zero hcs
  subst hcs0
  refine d8 (af 1 rfl rfl rfl ?_)
  refine xe ?_
  refine a8 rfl ?_
  refine lq rfl (aa 1 rfl rfl rfl rfl ?_)
  refine bb (fun _ _ => ⟨_, rfl⟩) (aw 2 0 2 rfl rfl rfl (ai ?_))
  refine ii (x := .list ((an one).map .str)) (by decide) (by decide) rfl ?_
  refine y9 rfl ?_
  refine lq rfl (aa 1 rfl rfl rfl rfl ?_)
  refine bb (fun _ _ => ⟨_, rfl⟩) (aw 2 0 2 rfl rfl rfl (ai ?_))
  refine ii (x := .list ((an two).map .str)) (by decide) (by decide) rfl ?_
  refine y9 rfl ?_
  refine Qh (cn ?_)
  cases hb : ((an one).any (· == w) != (an two).any (· == w)) with
  | false =>
   refine ⟨by simp only [yr, hb]; rfl, [], rfl, Sub.of rfl (by ktr_unf)⟩
  | true =>
   refine aa 1 rfl rfl rfl rfl ⟨.str w, rfl, by simp only [yr, hb]; rfl, [], rfl, Sub.of rfl (by ktr_unf)⟩
 ·intro φ'
  refine af 4 rfl rfl rfl ?_
  show wSs _ _ _ _ _ _ _
  refine ah ?_
  refine fy ?_
  refine fx ?_
  refine ad (fun _ => rfl) ?_
  refine aa 4 rfl rfl rfl rfl ?_
  refine ad (fun _ => rfl) ?_
  refine dq (fun _ => rfl) (ao 6 gs rfl ?_)
  have hboth : (d0 (ws.map PyData.str) none (some 10) none).filterMap (yr (an one) (an two)) = (du ws (an one) (an two)).map .str := by
   rw [show (some 10 : Option Int) = some ((10 : Nat) : Int) from rfl, po, <- List.map_take]
   unfold du
   generalize ws.take 10 = l
   induction l with
   | nil => rfl
   | cons w r ih =>
    rw [List.map_cons, List.filterMap_cons, List.filter_cons]
    cases hb : ((an one).any (· == w) != (an two).any (· == w)) with
    | false => simp only [yr, hb]; exact ih
    | true => simp only [yr, hb]; exact congrArg (PyData.str w :: ·) ih
  rw [hboth]
  have hmem : ∀ w ∈ du ws (an one) (an two), w ∈ ws := fun w hw => List.mem_of_mem_take (List.mem_filter.mp hw).1
  have hlb : (du ws (an one) (an two)).length <= 10 := Nat.le_trans (List.length_filter_le ..) (by rw [List.length_take]; lia)
  generalize du ws (an one) (an two) = both at hmem hlb hp
  refine nf (its := both.map PyData.str) (st2 := [i1 17 [some (.d (.int one)), some (.d (.int two)), none, none, some (.d (.list (both.map .str))), none, none], .cell (some (.d (.list (ws.map .str)))), .cell (some (.d (.tuple [.list ((an one).map .str), .list ((an two).map .str)])))])
   [("words", 1)] (Qt ws) rfl ⟨rfl, by decide +kernel, by decide +kernel⟩ rfl (by show ((cellsFrom 5 _ _).map (·.1)).Nodup; decide +kernel) (fun _ _ => rfl) ?_ ?_ (c6.of (by ktr_unf)) ?_ ?_
  ·exact jq (aa 4 rfl rfl rfl rfl (wa (.inl rfl) hA.handled ⟨rfl, rfl⟩))
  ·rw [List.length_map, sizeLine_eq]; lia
  ·intro φ' E' env' x acc cs hx hcs hef
   obtain ⟨w, hw, rfl⟩ := List.mem_map.mp hx
   have hcs0 : cs = [] := List.eq_nil_of_length_eq_zero hcs
   subst hcs0
   refine d8 (af 1 rfl rfl rfl ?_)
   refine gx ?_
   show wE _ _ _ _ _ _ _
   refine aj (ai ?_)
   refine jo F.plainAttrs_list F.slot_list_index F.type_list_index ?_ ?_ ?_ ?_
   ·exact fun _ _ => rfl
   ·exact fun _ => rfl
   ·rfl
   refine aw 2 0 1 rfl rfl rfl ⟨i3.ty (l := ws.map .str) rfl, ?_⟩
   refine aa 1 rfl rfl rfl rfl ?_
   refine J1 (ws := ws) rfl (hmem w hw) (by lia) ?_
   have hix : ws.idxOf w < ws.length := List.idxOf_lt_length_iff.mpr (hmem w hw)
   refine D9 (by lia) (by lia) (by decide) ?_
   exact ⟨_, rfl, by rw [Int.toNat_natCast]; rfl, [], rfl, Sub.of rfl (by ktr_unf)⟩
  ·have hfm : (both.map PyData.str).filterMap (Qt ws) = (both.map fun w => (1 : Int) * 2 ^ (ws.idxOf w)).map PyData.int := by
    clear hmem hlb hp hboth
    induction both with
    | nil => rfl
    | cons w r ih => exact congrArg (PyData.int ((1 : Int) * 2 ^ (ws.idxOf w)) :: ·) ih
   rw [hfm]
   refine d7 (H8 (ns := both.map fun w => (1 : Int) * 2 ^ (ws.idxOf w)) rfl hA.in1n ?_)
   refine ak ⟨[_, _], rfl, by rw [sizeLine_eq]; exact Nat.le_of_ble_eq_true rfl, hp⟩
theorem K2 {C : Cx} {f : Value} {fd : FuncData} (B : cg C 17 f fd) (v u w : Value) : bindArgs fd ⟨[v, u, w], []⟩ = (pure [(("one" : Str), v), ("two", u), ("words", w)] : Sem (List (Str × Value))) := B.bind rfl
theorem N0 {C : Cx} {f : Value} {fd : FuncData} (hl : ci C) (B : cg C 17 f fd) {pf : Value} (hpf : iz C pf) (gs : ag C "sum" (.builtin "sum")) (one two : Int) (h1 : i7 one) (h2 : i7 two) (ws : List Str) (hws : ws.length <= 1000) :
  et C (fun _ => none) C.P0 5 f [.d (.int one), .d (.int two), .d (.list (ws.map .str))] [] [] fun r => r = PyData.tuple [.list ((du ws (an one) (an two)).map .str), .int ((du ws (an one) (an two)).map fun w => (1 : Int) * 2 ^ (ws.idxOf w)).sum] := by
 have hsc := B.scope
 refine x7 (bs := [(("one" : Str), .d (.int one)), ("two", .d (.int two)), ("words", .d (.list (ws.map .str)))]) B.at_ hl (by rw [hsc]; exact Oe) (by rw [hsc]; decide +kernel) (Nh (K2 B)) ?_
 intro A G A' hA
 rw [hsc]
 simp only [bu]
 refine af 0 rfl rfl rfl ?_
 refine af 1 rfl rfl rfl ?_
 refine eg 2 1 1 rfl rfl rfl ?_
 intro E
 exact Jl (G := G.at E) _ _ hA hpf gs one two h1 h2 ws hws _ rfl
end Mine
end
section
open PySem PySem.Calls PyProof.Rows PySem.W PySem.SeqAt PyProof.V
set_option maxRecDepth 100000
namespace Mine
noncomputable def jl (n : Int) : Nat := ([124, 33, 58, 47, 36] : List Nat).getD (n.fmod 5).toNat 0
noncomputable def d5 (n : Int) : Str := ⟨#[jl n]⟩
noncomputable def rep (x : Str) (n : Int) : Str := ⟨(List.replicate n.toNat x.cps).foldl (· ++ ·) #[]⟩
noncomputable def jr (n : Int) : Str := Str.ofString (toString n)
noncomputable def jd (port number : Int) : Str := ((((("229 " ++ jr number) ++ ") stands at (") ++ rep (d5 number) 3) ++ jr port) ++ d5 number) ++ ") (so)"
theorem Fd (n : Int) : (seqIndex? (n.fmod 5) (Str.ofString "|!:/$").length).bind ((Str.ofString "|!:/$").cps[·]?) = some (jl n) := by
 have key : ∀ r : Fin 5, (seqIndex? ((r : Nat) : Int) (Str.ofString "|!:/$").length).bind ((Str.ofString "|!:/$").cps[·]?) = some (([124, 33, 58, 47, 36] : List Nat).getD r 0) := by decide +kernel
 have h0 : 0 <= n.fmod 5 := Int.fmod_nonneg_of_pos n (by decide)
 have h1 : n.fmod 5 < 5 := Int.fmod_lt_of_pos n (by decide)
 have := key ⟨(n.fmod 5).toNat, by lia⟩
 simp only [Int.toNat_of_nonneg h0] at this
 exact this
theorem Bs (n : Int) (h : n.natAbs <= 100000) : (jr n).length <= 100002 := by
 have := len_str_of_int n
 unfold jr
 lia
theorem E6 (c : Nat) (n : Int) (h : n.natAbs <= 1000) : (rep ⟨#[c]⟩ n).length <= 1000 := by
 have fold : ∀ (k : Nat) (a : Array Nat), ((List.replicate k (#[c] : Array Nat)).foldl (· ++ ·) a).size = a.size + k := by
  intro k
  induction k with
  | zero => intro a; simp
  | succ k ih => intro a; rw [List.replicate_succ, List.foldl_cons, ih, Array.size_append]; simp; lia
 refine (?_ : ((List.replicate n.toNat (#[c] : Array Nat)).foldl (· ++ ·) #[]).size <= 1000)
 rw [fold]; simp; lia
theorem ow {n : Nat} (h : n <= 2 ^ 60) : n.log2 < 1920 := by
 by_cases h0 : n = 0
 ·subst h0; decide
 ·have : n.log2 < 61 := (Nat.log2_lt h0).mpr (by lia)
  lia
set_option maxHeartbeats 4000000 in
theorem Dn {C : Cx} {A : Around} {G : Gd} (cd : Value) (ql : Str) (gs : ag C "str" (.type "str")) (port number : Int) (hp1 : port.natAbs <= 100000) (hn1 : number.natAbs <= 100000) (post : D -> Prop) (hp : post (.str (jd port number))) :
  wSs C A G ⟨aq PySem.Challenge.pw_wb0027_01 12, 0, [], cd, ql⟩ [i1 12 [some (.d (.int port)), some (.d (.int number)), none, none]] (cq PySem.Challenge.pw_wb0027_01 12) (pv post) := by
 have hS := sizeLine_eq
 have l1 := Bs number hn1
 have l2 := Bs port hp1
 have l3 := E6 (jl number) 3 (by decide)
 have s1 : (Str.ofString "229 ").length = 4 := by decide +kernel
 have s2 : (Str.ofString ") stands at (").length = 13 := by decide +kernel
 have s3 : (Str.ofString ") (so)").length = 6 := by decide +kernel
 have s4 : (d5 number).length = 1 := rfl
 have la := fun a b : Str => PySem.Str.length_append a b
 refine ah (al (fun _ => rfl) ?_)
 refine bb (fun _ _ => ⟨_, rfl⟩) (az (aj (aa 1 rfl rfl rfl rfl (ai (lk (by decide) ?_)))))
 refine fu (c := jl number) ?_ ?_ (Fd number) ?_
 ·have := Int.fmod_nonneg_of_pos number (b := 5) (by decide); lia
 ·have := Int.fmod_lt_of_pos number (b := 5) (by decide); lia
 refine af 2 rfl rfl rfl ?_
 refine (?_ : wSs _ _ _ _ _ _ _)
 refine ah ?_
 refine fy ?_
 refine aj ?_
 refine aj ?_
 refine aj ?_
 refine aj ?_
 refine aj ?_
 refine aj ?_
 refine az ?_
 refine dq (fun _ => rfl) (ao 3 gs rfl (aa 1 rfl rfl rfl rfl (db (Do ?_ ?_))))
 ·exact ow (by lia)
 refine ck (by rw [s1]; show 4 + (jr number).length <= _; lia) ?_
 refine az ?_
 refine ck (by rw [la, s1, s2]; show 4 + (jr number).length + 13 <= _; lia) ?_
 refine aj (aa 2 rfl rfl rfl rfl (ai ?_))
 refine vi (by decide) (by decide) (by show 1 <= 1000; decide) (by show 1 ≠ 0; decide) ?_
 refine ck (by rw [la, la, s1, s2]; show 4 + (jr number).length + 13 + (rep (d5 number) 3).length <= _; unfold d5; lia) ?_
 refine dq (fun _ => rfl) (ao 3 gs rfl (aa 0 rfl rfl rfl rfl (db (Do ?_ ?_))))
 ·exact ow (by lia)
 refine ck (by rw [la, la, la, s1, s2]; show 4 + (jr number).length + 13 + (rep (d5 number) 3).length + (jr port).length <= _; unfold d5; lia) ?_
 refine aa 2 rfl rfl rfl rfl ?_
 refine ck (by rw [la, la, la, la, s1, s2]; show 4 + (jr number).length + 13 + (rep (d5 number) 3).length + (jr port).length + 1 <= _; unfold d5; lia) ?_
 refine az ?_
 refine ck (by rw [la, la, la, la, la, s1, s2, s3]; show 4 + (jr number).length + 13 + (rep (d5 number) 3).length + (jr port).length + 1 + 6 <= _; unfold d5; lia) ?_
 exact hp
theorem Om : ew (aq PySem.Challenge.pw_wb0027_01 12) := ⟨rfl, by decide +kernel, by decide +kernel⟩
theorem Eh {C : Cx} {f : Value} {fd : FuncData} (B : cg C 12 f fd) (v u : Value) : bindArgs fd ⟨[v, u], []⟩ = (pure [(("port" : Str), v), ("number", u)] : Sem (List (Str × Value))) := B.bind rfl
theorem Ja {C : Cx} {f : Value} {fd : FuncData} (hl : ci C) (B : cg C 12 f fd) (gs : ag C "str" (.type "str")) (port number : Int) (hp1 : port.natAbs <= 100000) (hn1 : number.natAbs <= 100000) :
  et C (fun _ => none) C.P0 1 f [.d (.int port), .d (.int number)] [] [] fun r => r = PyData.str (jd port number) := by
 have hsc := B.scope
 refine x7 (bs := [(("port" : Str), .d (.int port)), ("number", .d (.int number))]) B.at_ hl (by rw [hsc]; exact Om) (by rw [hsc]; decide +kernel) (x9 (Eh B)) ?_
 intro A G A' hA
 rw [hsc]
 simp only [bu]
 refine af 0 rfl rfl rfl ?_
 refine af 1 rfl rfl rfl ?_
 intro E
 exact Dn (G := G.at E) _ _ gs port number hp1 hn1 _ rfl
end Mine
end
section
open PySem PySem.Calls PyProof.Rows PySem.W PySem.SeqAt PyProof.V
set_option maxRecDepth 100000
namespace Mine
noncomputable def xr (x : Str) (i : Int) : Option Nat := (seqIndex? i x.length).bind (x.cps[·]?)
structure j3 (x : Str) (n : Int) : Prop where
 size : x.length <= 1000000
 code : Txt.slice x none (some 3) = "229"
 left : 0 <= Txt.find x "("
 lfit : Txt.find x "(" < 2 ^ 60
 right : 0 <= Txt.find3 x ")" (Txt.find x "(" + 1)
 rfit : Txt.find3 x ")" (Txt.find x "(" + 1) < 2 ^ 60
 mark : ∃ c, xr x (Txt.find x "(" + 1) = some c /\ xr x (Txt.find3 x ")" (Txt.find x "(" + 1) - 1) = some c ∧
  ∃ a b d p e, Txt.split (Txt.slice x (some (Txt.find x "(" + 1)) (some (Txt.find3 x ")" (Txt.find x "(" + 1)))) ⟨#[c]⟩ = [a, b, d, p, e] /\ PySem.intText? p = some n /\ p.length <= 640
set_option maxHeartbeats 4000000 in
theorem Dv {C : Cx} {A : Around} {G : Gd} (cd : Value) (ql : Str) (gl : ag C "len" (.builtin "len")) (gi : ag C "int" (.type "int")) (x : Str) (n : Int) (h : j3 x n) (host : D) (port0 : D) (post : D -> Prop) (hp : post (.tuple [host, .int n])) :
  wSs C A G ⟨aq PySem.Challenge.pw_wb0027_01 10, 0, [], cd, ql⟩ [i1 10 [some (.d (.str x)), some (.d (.tuple [host, port0])), none, none, none, none, none, none, none, none, none]] (cq PySem.Challenge.pw_wb0027_01 10) (pv post) := by
 refine byC fun hC1 => ?_
 obtain ⟨hsz, hcode, hl, hlf, hr, hrf, c, hc1, hc2, a, b, d, p, e, hs, hi, hpl⟩ := h
 refine hC1 ?_
 generalize hL : Txt.find x "(" = L at *
 generalize hR : Txt.find3 x ")" (L + 1) = Rr at *
 have hS := sizeLine_eq
 refine ah (cm ?_)
 refine a8 rfl ?_
 refine ie (aa 0 rfl rfl rfl rfl (c5 (dc (ai ⟨3, rfl, c5 ?_⟩))))
 refine j6 (by lia) ?_
 refine az (v4 (cn ?_))
 rw [hcode]
 rw [show ((Str.ofString "229" != Str.ofString "229") = false) by simp]
 refine am ?_
 refine (?_ : wSs _ _ _ _ _ _ _)
 refine ah (al (fun _ => rfl) ?_)
 refine jo F.plainAttrs_str F.slot_str_find F.type_str_find ?_ ?_ ?_ ?_
 ·exact fun _ _ => rfl
 ·exact fun _ => rfl
 ·rfl
 refine aa 0 rfl rfl rfl rfl ⟨dg, ?_⟩
 refine az (zy ?_)
 rw [hL]
 refine af 2 rfl rfl rfl ?_
 refine (?_ : wSs _ _ _ _ _ _ _)
 refine ah (cm ?_)
 refine a8 rfl (aa 2 rfl rfl rfl rfl (ai (g7 (cn ?_))))
 rw [show decide (L < 0) = false from decide_eq_false (by lia)]
 refine am ?_
 refine (?_ : wSs _ _ _ _ _ _ _)
 refine ah (al (fun _ => rfl) ?_)
 refine Jb F.plainAttrs_str F.slot_str_find F.type_str_find ?_ ?_ ?_ ?_ ?_
 ·exact fun _ _ => rfl
 ·exact fun _ => rfl
 ·exact fun _ => rfl
 ·rfl
 refine aa 0 rfl rfl rfl rfl ⟨dg, ?_⟩
 refine az (aj (aa 2 rfl rfl rfl rfl (ai (cu ?_))))
 refine wb ?_
 rw [hR]
 refine af 3 rfl rfl rfl ?_
 refine (?_ : wSs _ _ _ _ _ _ _)
 refine ah (cm ?_)
 refine a8 rfl (aa 3 rfl rfl rfl rfl (ai (g7 (cn ?_))))
 rw [show decide (Rr < 0) = false from decide_eq_false (by lia)]
 refine am ?_
 refine (?_ : wSs _ _ _ _ _ _ _)
 refine ah (cm ?_)
 refine a8 rfl ?_
 refine bb (fun _ _ => ⟨_, rfl⟩) (aa 0 rfl rfl rfl rfl (aj (aa 2 rfl rfl rfl rfl (ai (cu ?_)))))
 refine fu (by lia) (by lia) hc1 ?_
 refine bb (fun _ _ => ⟨_, rfl⟩) (aa 0 rfl rfl rfl rfl (aj (aa 3 rfl rfl rfl rfl (ai (nb ?_)))))
 refine fu (by lia) (by lia) hc2 ?_
 refine v4 (cn ?_)
 rw [show (((⟨#[c]⟩ : Str) != (⟨#[c]⟩ : Str)) = false) by simp]
 refine am ?_
 refine (?_ : wSs _ _ _ _ _ _ _)
 refine ah (al (fun _ => rfl) ?_)
 refine jo F.plainAttrs_str F.slot_str_split F.type_str_split ?_ ?_ ?_ ?_
 ·exact fun _ _ => rfl
 ·exact fun _ => rfl
 ·rfl
 refine ie (aa 0 rfl rfl rfl rfl ?_)
 refine dc (aj (aa 2 rfl rfl rfl rfl (ai (cu ⟨L + 1, rfl, ?_⟩))))
 refine dc (aa 3 rfl rfl rfl rfl ⟨Rr, rfl, c5 ?_⟩)
 refine j6 (by lia) ⟨dg, ?_⟩
 refine bb (fun _ _ => ⟨_, rfl⟩) (aa 0 rfl rfl rfl rfl (aj (aa 2 rfl rfl rfl rfl (ai (cu ?_)))))
 refine fu (by lia) (by lia) hc1 ?_
 refine rj rfl (by have := Txt.slice_le x (some (L + 1)) (some Rr); lia) ?_
 rw [hs]
 refine af 4 rfl rfl rfl ?_
 refine (?_ : wSs _ _ _ _ _ _ _)
 refine ah (cm ?_)
 refine a8 rfl (dq (fun _ => rfl) (ao 9 gl rfl (aa 4 rfl rfl rfl rfl (d7 (sz (l := [.d (.str a), .d (.str b), .d (.str d), .d (.str p), .d (.str e)]) rfl (Nat.le_of_ble_eq_true rfl) ?_)))))
 refine ai (tw (cn ?_))
 refine am ?_
 refine (?_ : wSs _ _ _ _ _ _ _)
 refine ah (al (fun _ => rfl) ?_)
 refine bb (fun _ _ => ⟨_, rfl⟩) (aa 1 rfl rfl rfl rfl (ai ?_))
 refine ii (x := host) (by decide) (by decide) rfl ?_
 refine af 5 rfl rfl rfl ?_
 refine (?_ : wSs _ _ _ _ _ _ _)
 refine ah (al (fun _ => rfl) ?_)
 refine dq (fun _ => rfl) (ao 10 gi rfl ?_)
 refine bb (fun _ _ => ⟨_, rfl⟩) (aa 4 rfl rfl rfl rfl (ai ?_))
 refine cj (l := [.d (.str a), .d (.str b), .d (.str d), .d (.str p), .d (.str e)]) (x := .d (.str p)) rfl (by decide) (by decide) rfl ?_
 refine db (Pi hi hpl ?_)
 refine af 6 rfl rfl rfl ?_
 refine (?_ : wSs _ _ _ _ _ _ _)
 refine ah ?_
 refine fy ?_
 refine fx ?_
 refine ad (fun _ => rfl) (aa 5 rfl rfl rfl rfl ?_)
 refine ad (fun _ => rfl) (aa 6 rfl rfl rfl rfl ?_)
 exact ak ⟨[host, .int n], rfl, by rw [sizeLine_eq]; exact Nat.le_of_ble_eq_true rfl, hp⟩
theorem zj : ew (aq PySem.Challenge.pw_wb0027_01 10) := ⟨rfl, by decide +kernel, by decide +kernel⟩
theorem lv {C : Cx} {f : Value} {fd : FuncData} (B : cg C 10 f fd) (v u : Value) : bindArgs fd ⟨[v, u], []⟩ = (pure [(("resp" : Str), v), ("peer", u)] : Sem (List (Str × Value))) := B.bind rfl
theorem Km {C : Cx} {f : Value} {fd : FuncData} (hl : ci C) (B : cg C 10 f fd) (gl : ag C "len" (.builtin "len")) (gi : ag C "int" (.type "int")) (x : Str) (n : Int) (h : j3 x n) (host port0 : D) :
  et C (fun _ => none) C.P0 1 f [.d (.str x), .d (.tuple [host, port0])] [] [] fun r => r = PyData.tuple [host, .int n] := by
 have hsc := B.scope
 refine x7 (bs := [(("resp" : Str), .d (.str x)), ("peer", .d (.tuple [host, port0]))]) B.at_ hl (by rw [hsc]; exact zj) (by rw [hsc]; decide +kernel) (x9 (lv B)) ?_
 intro A G A' hA
 rw [hsc]
 simp only [bu]
 refine af 0 rfl rfl rfl ?_
 refine af 1 rfl rfl rfl ?_
 intro E
 exact Dv (G := G.at E) _ _ gl gi x n h host port0 _ rfl
theorem O7 : ew (aq PySem.Challenge.pw_wb0027_01 13) := ⟨rfl, by decide +kernel, by decide +kernel⟩
theorem Hn {C : Cx} {f : Value} {fd : FuncData} (B : cg C 13 f fd) (v : Value) : bindArgs fd ⟨[v], []⟩ = (pure [(("reply" : Str), v)] : Sem (List (Str × Value))) := B.bind rfl
structure tc (C : Cx) (f : Value) : Prop where
 glob : ag C "parse229" f
 ok : ∀ x n, j3 x n -> ∀ host port0, et C (fun _ => none) C.P0 1 f [.d (.str x), .d (.tuple [host, port0])] [] [] fun r => r = PyData.tuple [host, .int n]
theorem Ls {C : Cx} {f pf : Value} {fd : FuncData} (hl : ci C) (B : cg C 13 f fd) (gp : tc C pf) (x : Str) (n : Int) (h : j3 x n) :
  et C (fun _ => none) C.P0 2 f [.d (.str x)] [] [] fun r => r = PyData.int n := by
 have hsc := B.scope
 refine x7 (bs := [(("reply" : Str), .d (.str x))]) B.at_ hl (by rw [hsc]; exact O7) (by rw [hsc]; decide +kernel) (Jf (Hn B)) ?_
 intro A G A' hA
 rw [hsc]
 simp only [bu]
 refine af 0 rfl rfl rfl ?_
 intro E
 show wSs _ _ _ _ _ _ _
 refine ah ?_
 refine fy ?_
 refine bb (fun _ _ => ⟨_, rfl⟩) ?_
 refine xn (fun _ => rfl) (fun _ => rfl) (ao 1 gp.glob rfl (aa 0 rfl rfl rfl rfl ?_))
 refine fx ?_
 refine ad (fun _ => rfl) (az ?_)
 refine ad (fun _ => rfl) (ai ?_)
 refine ak ⟨[.str "peer", .int 21], rfl, by rw [sizeLine_eq]; exact Nat.le_of_ble_eq_true rfl, ?_⟩
 refine e7 (gp.ok x n h (.str "peer") (.int 21)) hA (ng trivial trivial) (fun a ha => nomatch ha) ?_
 rintro d rfl
 refine ai (ii (x := .int n) (by decide) (by decide) rfl ?_)
 exact rfl
end Mine
end
section
open PySem PySem.Calls PyProof.Rows PySem.W PySem.SeqAt PyProof.V
open PySem.Sem (wp)
namespace Mine
noncomputable def Mi (Γ : Ctx) : Prop := (Γ.below.map (·.1)).any Code.isCaller = true
noncomputable def Ks (Γ : Ctx) : Prop := ((Γ.code :: Γ.below.map (·.1)).any Code.isCaller) = true
theorem Mi.c {Γ : Ctx} (h : Mi Γ) : Ks Γ := by
 unfold Ks; rw [List.any_cons, show (Γ.below.map (·.1)).any Code.isCaller = true from h, Bool.or_true]
theorem Ks.enter {Γ : Ctx} (h : Ks Γ) (c : Code) (hd : Option Value) (p : Pos) : Mi (Γ.enter c hd p) := h
noncomputable def wpK {α : Type} (M : Model) (A : Around) (t : Sem α) (Q : α -> Shared -> Prop) (E : Value -> Shared -> Prop) (s : Shared) : Prop :=
 ∀ Γ p, Γ.In A -> Ks Γ -> wp M Γ t (fun a _ s' => Q a s') (fun e _ s' => E e s') p s
noncomputable def g6 (M : Model) (A : Around) (c : Code) (R : Result -> Shared -> Prop) (s : Shared) : Prop :=
 ∀ Γ p, Γ.code = c -> Γ.Below A -> Mi Γ -> wpCode M Γ R p s
section
variable {α β : Type} {M : Model} {A : Around} {E : Value -> Shared -> Prop} {s : Shared}
theorem K.of {t : Sem α} {Q : α -> Shared -> Prop} (h : wpAny M A t Q E s) : wpK M A t Q E s := fun Γ p hΓ _ => h Γ p hΓ
theorem K.mono {t : Sem α} {Q Q' : α -> Shared -> Prop} {E' : Value -> Shared -> Prop} (h : wpK M A t Q E s) (hQ : ∀ a s, Q a s -> Q' a s) (hE : ∀ e s, E e s -> E' e s) : wpK M A t Q' E' s :=
 fun Γ p hΓ hk => Sem.wp_mono M Γ t (fun a _ s => hQ a s) (fun e _ s => hE e s) p s (h Γ p hΓ hk)
theorem K.go {t : Sem α} {Q Q' : α -> Shared -> Prop} {E' : Value -> Shared -> Prop} (h : wpAny M A t Q E s) (hQ : ∀ a s, Q a s -> Q' a s) (hE : ∀ e s, E e s -> E' e s) : wpK M A t Q' E' s := K.mono (K.of h) hQ hE
theorem K.pure {a : α} {Q : α -> Shared -> Prop} (h : Q a s) : wpK M A (Pure.pure a) Q E s := K.of (wpAny_pure h)
theorem K.bind {m : Sem α} {f : α -> Sem β} {Q : β -> Shared -> Prop} (h : wpK M A m (fun a s' => wpK M A (f a) Q E s') E s) : wpK M A (m >>= f) Q E s := fun Γ p hΓ hk => by
 rw [Sem.wp_bind']
 exact Sem.wp_mono M Γ m (fun a p' s' h' => h' Γ p' hΓ hk) (fun _ _ _ h' => h') p s (h Γ p hΓ hk)
theorem K.onRaise {m : Sem α} {k : Value -> Sem Unit} {Q : α -> Shared -> Prop} (h : wpK M A m Q (fun e s' => wpK M A (k e) (fun _ s'' => E e s'') E s') s) : wpK M A (m.onRaise k) Q E s := fun Γ p hΓ hk => by
 rw [Sem.wp_onRaise]
 exact Sem.wp_mono M Γ m (fun _ _ _ h' => h') (fun e p' s' h' => h' Γ p' hΓ hk) p s (h Γ p hΓ hk)
theorem K.attempt {m : Sem α} {Q : Except Value α -> Shared -> Prop} (h : wpK M A m (fun a => Q (.ok a)) (fun e => Q (.error e)) s) : wpK M A m.attempt Q E s := fun Γ p hΓ hk => by rw [Sem.wp_attempt]; exact h Γ p hΓ hk
theorem K.holding {vs : List Value} {m : Sem α} {Q : α -> Shared -> Prop} (h : wpK M A m Q E s) : wpK M A (holding vs m) Q E s := fun Γ p hΓ hk => by rw [Sem.wp_holding]; exact h Γ p hΓ hk
theorem K.standAt {pos : Pos} {Q : Unit -> Shared -> Prop} (h : Q () s) : wpK M A (standAt pos) Q E s := K.of (wpAny_standAt h)
theorem K.point {Q : Unit -> Shared -> Prop} (h : Q () s) : wpK M A point Q E s := K.of (wpAny_point h)
theorem K.run {c : Code} {h : Option Value} {Q : Flow -> Shared -> Prop} (hc : g6 M (A.mark h) c (fun r s' => match r with | .ok f => Q f s' | .error e => E e s') s) (hnb : h ≠ some byPass) : wpK M A (run c h) Q E s :=
 fun Γ p hΓ hk => by rw [Sem.wp_run]; exact hc _ p rfl (hΓ.enter c h p hnb) (hk.enter c h p)
theorem K.call {f : Value} {pos : List Value} {kw : List (Str × Value)} {Q : Value -> Shared -> Prop}
  (hc : g6 M A (.call f ⟨pos, kw⟩) (fun r s' => match r with | .ok (.ret v) => Q v s' | .ok _ => False | .error e => E e s') s) : wpK M A (call f pos kw) Q E s :=
 fun Γ p hΓ hk => by
  show wp M Γ (runValue _) _ _ p s
  rw [Sem.wp_runValue]; exact hc _ p rfl (hΓ.enter _ none p (by intro x; cases x)) (hk.enter _ none p)
theorem C0 {c : Code} {R R' : Result -> Shared -> Prop} (h : g6 M A c R s) (hR : ∀ r s, R r s -> R' r s) : g6 M A c R' s := fun Γ p hc hΓ hk => wpCode_mono hR (h Γ p hc hΓ hk)
theorem dk {c : Code} {R : Result -> Shared -> Prop}
  (h : wpK M (A.under c) (M.den c) (fun fin s' => match fin with | .done f => R (.ok f) s' | .again c' => c'.quiet = true /\ g6 M A c' R s') (fun e s' => R (.error e) s') s) : g6 M A c R s := fun Γ p hc hΓ hk => by
 rw [wpCode_iff_wp, hc]
 refine Sem.wp_mono M Γ _ (fun fin p' s' h' => ?_) (fun _ _ _ h' => h') p s (h Γ p (hc ▸ hΓ.in) hk.c)
 cases fin with
 | done f => exact h'
 | again c' => exact ⟨h'.1, h'.2 (Γ.goto c') p' rfl (hΓ.goto c') hk⟩
theorem Cz {c : Code} {R : Result -> Shared -> Prop} (hq : c.quiet = true) (I : Nat -> Shared -> Prop)
  (turn : ∀ n s, I n s -> wpK M (A.under c) (M.den c) (fun fin s' => match fin with | .done f => R (.ok f) s' | .again c' => c' = c /\ ∃ m, m < n /\ I m s') (fun e s' => R (.error e) s') s)
  (n : Nat) (h : I n s) : g6 M A c R s := by
 induction n using Nat.strongRecOn generalizing s with
 | ind n ih =>
  refine dk (K.mono (turn n s h) (fun fin s' hf => ?_) fun _ _ h' => h')
  cases fin with
  | done f => exact hf
  | again c' => obtain ⟨rfl, m, hm, hI⟩ := hf; exact ⟨hq, ih m hm hI⟩
theorem K.markRefusal {own : List String} {e : Value} {Q : Unit -> Shared -> Prop} (h : Q () s) : wpK M A (markTheRefusal own e) Q E s := fun Γ p hΓ hk => by
 have hcal : (((Γ.code, p) :: Γ.below).map (·.1)).any Code.isCaller = true := hk
 have hno : pythonCodeMadeTheCall own (((Γ.code, p) :: Γ.below).map (·.1)) = false := by
  unfold pythonCodeMadeTheCall
  refine Bool.and_eq_false_iff.mpr (.inl (Bool.and_eq_false_iff.mpr (.inl ?_)))
  show (!((((Γ.code, p) :: Γ.below).map (·.1)).any Code.isCaller)) = false
  rw [hcal]; rfl
 show wp M Γ (if pythonCodeMadeTheCall own (((Γ.code, p) :: Γ.below).map (·.1)) = true then _ else _) _ _ p s
 rw [if_neg (by rw [hno]; exact Bool.false_ne_true)]
 exact h
end
section
variable {M : Model} {A : Around} {E : Value -> Shared -> Prop} {s : Shared}
theorem lx {pos : Pos} {f : Value} {first : List Value} {args : List (Bool × Sem Value)} {keywords : List (Option Str × Sem Value)} {Q : Value -> Shared -> Prop} (hs : args.all (fun x => !x.1) = true) (hk : keywords.all (·.1.isSome) = true)
  (h : wpAny M A (spliced args) (fun vs s1 => wpAny M A (evalAll (keywords.map (·.2))) (fun ks s2 => gt s2 f /\ wpK M A (call f (first ++ vs) ((keywords.filterMap (·.1)).zip ks)) Q E s2) E s1) E s) :
  wpK M A (callWith pos f first args keywords) Q E s := by
 unfold callWith
 refine K.bind (K.holding (K.go (j4 (Q := fun x s2 => gt s2 f /\ wpK M A (call f (first ++ x.pos) x.kw) Q E s2) hs hk h) (fun x s1 h1 => K.bind (K.standAt ?_)) fun _ _ z => z))
 have e1 : args.any (·.1) = false := by
  rw [List.any_eq_false]
  intro x hx
  have := List.all_eq_true.mp hs x hx
  simpa using this
 have e2 : keywords.any (·.1.isNone) = false := by
  rw [List.any_eq_false]
  intro x hx
  have := List.all_eq_true.mp hk x hx
  rw [Option.isSome_iff_ne_none] at this
  simpa using this
 have tail : ∀ {t : Sem Value}, wpK M A t Q E s1 -> wpK M A (t >>= fun r => holding [r] point >>= fun _ => pure r) Q E s1 :=
  fun ht => K.bind (K.mono ht (fun r s2 hr => K.bind (K.holding (K.point (K.pure hr)))) fun _ _ z => z)
 simp only [e1, e2, Bool.or_false]
 rcases h1 with ⟨⟨id, rfl⟩ | ⟨T, rfl⟩ | ⟨a, o, fd, rfl, ho, hd⟩, h1⟩
 ·exact K.bind (K.pure (tail h1))
 ·exact K.bind (K.pure (tail h1))
 ·refine K.bind (m := keeperOf (.ref a)) ?_
  have hkp : ∀ {Q' : Keeper -> Shared -> Prop}, Q' .frame s1 -> wpAny M A (keeperOf (.ref a)) Q' E s1 := fun hq => by
   unfold keeperOf
   refine wpAny_bind (wpAny_load ho ?_)
   rw [hd]
   exact wpAny_pure hq
  refine K.of (hkp ?_)
  dsimp only
  split
  ·exact tail h1
  ·exact tail (by
    unfold callMarked
    intro Γ p hΓ hc
    rw [Sem.wp_keep]; exact h1 Γ p hΓ hc)
theorem lg {env : Env} {x : Str} {np pos : Pos} {args : List Expr} {keywords : List Keyword} {Q : Value -> Shared -> Prop}
  (h : wpAny M A (eval (.Name x np) env) (fun f s₁ => wpK M A (callWith pos f [] (backTo pos (starEach args env)) (backToKw pos (keywordEach keywords env))) Q E s₁) E s) :
  wpK M A (eval (.Call (.Name x np) args keywords pos) env) Q E s := by
 show wpK M A (do callWith pos (← eval (.Name x np) env) [] (backTo pos (starEach args env)) (backToKw pos (keywordEach keywords env))) Q E s
 exact K.bind (K.of h)
theorem tt {env : Env} {st rest} {Q : Flow -> Shared -> Prop} (h : wpK M A (exec st env) (fun f s' => match f with | .next => wpK M A (execs rest env) Q E s' | f => Q f s') E s) : wpK M A (execs (st :: rest) env) Q E s := by
 rw [execs_cons]
 refine K.bind (K.mono h (fun f s' h' => ?_) fun _ _ z => z)
 cases f with
 | next => exact h'
 | brk => exact K.pure h'
 | cont => exact K.pure h'
 | ret v => exact K.pure h'
end
section
variable {prog : Program} {w : World} {A : Around} {E : Value -> Shared -> Prop} {s : Shared} {R : Result -> Shared -> Prop}
theorem fj {a : Addr} {args : Args} {o : Obj} {fd : FuncData} {body : List Stmt} (hroom : A.depth < recursionLimit)
  (ho : s.heap.get? a = some o) (hd' : o.data = .func fd) (hco : fd.scope.isCoroutine = false) (hgen : fd.scope.isGenerator = false) (hbody : fd.body = .stmts body) (hcd : s.heap.CodeRec fd.code fd.qualname)
  (h : wpAny (model prog w) A.in1 (bindArgs fd args) (fun binds s₁ => wpAny (model prog w) A.in1 (newFunctionEnv fd.scope fd.globals fd.closure binds (fd.qualname ++ ".<locals>.") (some a) fd.code none fd.builtins)
    (fun env s₂ => s₂.heap.NoLimit /\ g6 (model prog w) A (.func body env) R s₂) (fun e s' => R (.error e) s') s₁) (fun e s' => R (.error e) s') s) :
  g6 (model prog w) A (.call (.ref a) args) R s := by
 refine byC fun hC1 => ?_
 obtain ⟨c, oc, vs, tq, hc, hoc, hdc, hq⟩ := hcd
 refine hC1 ?_
 refine dk ?_
 have hload : ∀ {Q : Obj -> Shared -> Prop}, Q o s -> wpK (model prog w) A.in1 (load a) Q (fun e s' => R (.error e) s') s := fun q => K.of (wpAny_load ho q)
 show wpK _ A.in1 (callAny (.ref a) args) _ _ s
 simp only [callAny]
 refine K.bind (hload ?_)
 simp only [hd', callFunction, hco, hgen, hbody, hc]
 rw [hc] at h
 refine K.bind (m := field (.ref c) 1) (K.of (wpAny_field hoc hdc hq (K.bind (K.pure ?_))))
 exact K.bind (K.go h (fun binds s₁ h₁ => K.bind (K.go h₁ (fun env s₂ h₂ => K.bind (K.of (wpAny_enterFrame h₂.1 hroom (K.pure (And.intro rfl h₂.2))))) fun _ _ h' => h')) fun _ _ h' => h')
theorem oy {body : List Stmt} {env : Env}
  (h : wpK (model prog w) (A.deeper env) (execs body env) (fun f s' => R (.ok (.ret (match f with | .ret v => v | _ => .none))) s')
   (fun e s' => wpAny (model prog w) (A.deeper env) (leaving env e) (fun _ s'' => R (.error e) s'') (fun e' s'' => R (.error e') s'') s') s) :
  g6 (model prog w) A (.func body env) R s := by
 refine dk ?_
 show wpK _ (A.deeper env) (do point; match ← (execs body env).onRaise (leaving env) with | .ret v => ret v | _ => ret .none) _ _ s
 refine K.bind (K.point (K.bind (K.onRaise (K.mono h (fun f s' h' => ?_) fun e s' h' => K.of h'))))
 cases f <;> exact K.pure h'
theorem Cn {env : Env} {body orelse : List Stmt} {h₀ : ExceptHandler} {hs : List ExceptHandler} {pos : Pos} {Q : Flow -> Shared -> Prop}
  (h : wpK (model prog w) A (execs body env) (fun f s₁ => match f with | .next => wpAny (model prog w) A (execs orelse env) Q E s₁ | f => Q f s₁)
   (fun e s₁ => wpAny (model prog w) A (noteFrame e env) (fun _ s₂ => wpAny (model prog w) A (setFlight e none) (fun _ s₃ => wpAny (model prog w) A (handleBy e env (h₀ :: hs)) Q E s₃) E s₂) E s₁) s) :
  wpK (model prog w) A (exec (.Try body (h₀ :: hs) orelse [] pos) env) Q E s := by
 rw [arm_exec_Try]
 refine K.bind (K.standAt ?_)
 unfold tryStmt
 simp only [List.isEmpty_nil, if_true, List.isEmpty_cons, Bool.false_and, Bool.false_eq_true, if_false]
 refine K.bind (K.attempt (K.mono h (fun f s₁ h₁ => ?_) fun e s₁ h₁ => ?_))
 ·cases f <;> first | exact K.of h₁ | exact K.pure h₁
 ·exact K.of (wpAny_bind (wpAny_mono h₁ (fun _ _ h₂ => wpAny_bind h₂) fun _ _ z => z))
theorem Qu {env : Env} {e : Expr} {pos : Pos} {Q : Flow -> Shared -> Prop} (h : wpK (model prog w) A (eval e env) (fun _ => Q .next) E s) (hi : interactive env = false) (hs : swapsWith e none pos.line env = pure false) : wpK (model prog w) A (exec (.Expr e pos) env) Q E s := by
 rw [exec_Expr env e pos hi hs]
 exact K.bind (K.standAt (K.bind (K.mono h (fun v s' h' => K.of (wpAny_dropValue h')) fun _ _ z => z)))
theorem xy {env : Env} {x : Str} {pos' pos : Pos} {value : Expr} {Q : Flow -> Shared -> Prop} (h : wpK (model prog w) A (eval value env) (fun _ _ => False) E s) (hs : swapsWith value (some (.Name x pos')) pos.line env = pure false) : wpK (model prog w) A (exec (.Assign [.Name x pos'] value pos) env) Q E s := by
 rw [exec_Assign_Name env x pos' value pos hs]
 exact K.bind (K.standAt (K.bind (K.mono h (fun _ _ z => z.elim) fun _ _ z => z)))
end
noncomputable def WK {α β : Type} (rel : Kp -> List Addr -> β -> α -> Prop) (C : Cx) (A : Around) (G : Gd) (ae : a9) (st : List ac) (t : Sem α) (Q : β -> List ac -> Prop) : Prop :=
 ∀ κ σ s, cy ae σ G.env -> Rel C G.φ G.κ₀ κ σ st s -> wpK (model C.prog C.w) A t (PA rel C G.φ G.κ₀ κ σ Q) G.E s
theorem PA.wpK {α β : Type} {C : Cx} {rel : Kp -> List Addr -> β -> α -> Prop} {φ κ₀ κ κ' : Kp} {σ σ' : List Addr} {Q : β -> List ac -> Prop} {s : Shared} {M : Model} {A : Around} {E : Value -> Shared -> Prop} {t : Sem α} (k : Kle κ κ') (p : σ <+: σ')
  (h : Mine.wpK M A t (PA rel C φ κ₀ κ' σ' Q) E s) : Mine.wpK M A t (PA rel C φ κ₀ κ σ Q) E s := K.mono h (fun _ _ z => z.up k p) fun _ _ z => z
section
variable {C : Cx} {A : Around} {G : Gd} {ae : a9} {st : List ac}
theorem WK.of {α β : Type} {rel : Kp -> List Addr -> β -> α -> Prop} {t : Sem α} {Q : β -> List ac -> Prop} (h : W rel C A G ae st t Q) : WK rel C A G ae st t Q := fun κ σ s e X => K.of (h κ σ s e X)
noncomputable abbrev wEK (C : Cx) (A : Around) (G : Gd) (ae : a9) (st : List ac) (e : Expr) (Q : AV -> List ac -> Prop) : Prop := WK RV C A G ae st (eval e G.env) Q
noncomputable abbrev wBK (C : Cx) (A : Around) (G : Gd) (ae : a9) (st : List ac) (e : Expr) (Q : Bool -> List ac -> Prop) : Prop := WK RB C A G ae st (isTrue e G.env (eval e G.env)) Q
noncomputable abbrev wSK (C : Cx) (A : Around) (G : Gd) (ae : a9) (st : List ac) (x : Stmt) (Q : AF -> List ac -> Prop) : Prop := WK RF C A G ae st (exec x G.env) Q
noncomputable abbrev gy (C : Cx) (A : Around) (G : Gd) (ae : a9) (st : List ac) (x : List Stmt) (Q : AF -> List ac -> Prop) : Prop := WK RF C A G ae st (execs x G.env) Q
noncomputable def Es (C : Cx) (A : Around) (G : Gd) (ae : a9) (r : List Stmt) (Q : AF -> List ac -> Prop) (f : AF) (st1 : List ac) : Prop := match f with | .next => gy C A G ae st1 r Q | f => Q f st1
theorem e9 {x : Stmt} {r : List Stmt} {Q : AF -> List ac -> Prop} (h : wSK C A G ae st x (Es C A G ae r Q)) : gy C A G ae st (x :: r) Q := fun κ σ s e X =>
 tt (K.mono (h κ σ s e X) (fun f s1 z => z.go fun κ' σ' f' st' k1 p1 X' rr q => by
  cases f' with
  | next => cases (rr : f = .next); exact K.mono (q κ' σ' s1 (e.mono p1) X') (fun _ _ z => z.up k1 p1) fun _ _ z => z
  | brk => cases (rr : f = .brk); exact ⟨κ', σ', .brk, st', k1, p1, X', rfl, q⟩
  | cont => cases (rr : f = .cont); exact ⟨κ', σ', .cont, st', k1, p1, X', rfl, q⟩
  | ret a => obtain ⟨v, rfl, rv⟩ := rr; exact ⟨κ', σ', .ret a, st', k1, p1, X', ⟨v, rfl, rv⟩, q⟩) fun _ _ z => z)
theorem ay {x : Stmt} {r : List Stmt} {Q : AF -> List ac -> Prop} (h : wS C A G ae st x (Es C A G ae r Q)) : gy C A G ae st (x :: r) Q := e9 (WK.of h)
theorem wd {x : Expr} {pos : Pos} {Q : AF -> List ac -> Prop} (hs : ∀ env, swapsWith x none pos.line env = pure false) (h : wEK C A G ae st x fun _ st1 => Q .next st1) : wSK C A G ae st (.Expr x pos) Q := fun κ σ s e X =>
 Qu (K.mono (h κ σ s e X) (fun v s1 z => z.go fun κ1 σ1 a st1 k1 p1 X1 r1 q1 => ⟨κ1, σ1, .next, st1, k1, p1, X1, rfl, q1⟩) fun _ _ z => z) (by unfold interactive; rw [e.kind]; rfl) (hs _)
theorem ui {x : Str} {p pos : Pos} {value : Expr} {Q : AF -> List ac -> Prop} (hs : ∀ env, swapsWith value (some (.Name x p)) pos.line env = pure false)
  (h : wEK C A G ae st value fun _ _ => False) : wSK C A G ae st (.Assign [.Name x p] value pos) Q := fun κ σ s e X =>
 xy (K.mono (h κ σ s e X) (fun v s1 ⟨_, _, _, _, _, _, _, _, q⟩ => q) fun _ _ z => z) (hs _)
end
end Mine
end
section
open PySem PySem.Calls PyProof.Rows PySem.W PySem.SeqAt PyProof.V PySem.NumText
open PySem.Sem (wp)
set_option maxRecDepth 100000
namespace Mine
theorem mn {x : PySem.Str} {u : Tok} {n : PySem.Str} (h : typeLookup (.type "str") n = pure none) : specialOf (.str x u) n = pure none := by
 unfold specialOf
 have f6 : typeOf (.str x u) = pure (.type "str") := rfl
 simp only [f6, pure_bind, h]
theorem um {x : PySem.Str} {u : Tok} {n : PySem.Str} (h : typeLookup (.type "str") n = pure none) : callSpecial? (.str x u) n = pure none := by
 unfold callSpecial?
 rw [mn h]; rfl
set_option maxHeartbeats 1000000 in
theorem Dl (x : PySem.Str) (u : Tok) : (int_private% "intFromObject") (.str x u) = (int_private% "intFromText") (.str x u) (numTextOf x) 10 := by
 show (callSpecial? (.str x u) "__int__" >>= _) = _
 rw [um KIN.str_int, pure_bind]
 show (specialOf (.str x u) "__index__" >>= _) = _
 rw [mn KIN.str_idx, pure_bind]
 show (specialOf (.str x u) "__trunc__" >>= _) = _
 rw [mn KIN.str_trunc, pure_bind]
 rfl
set_option maxHeartbeats 1000000 in
theorem Dy (x : PySem.Str) (u : Tok) : Builtin.«int.__new__» ⟨[.type "int", .str x u], []⟩ = ((int_private% "intFromText") (.str x u) (numTextOf x) 10 >>= fun v => ret v) := by
 have f1 := F.conv_sub_int
 have f2 := F.madeHere_int
 unfold Builtin.«int.__new__»
 simp only [f1, f2, pure_bind, isType]
 rw [<- Dl]
 rfl
theorem Ah {x : PySem.Str} {u : Tok} (hs : (numSeenOf x).length <= 640) (hr : (int_private% "readNumeral") 0 10 (numSeenOf x) = int_private% "Numeral.invalid") :
  (int_private% "intFromText") (.str x u) (numTextOf x) 10 = (rule "int.__new__.invalid-literal" >>= fun _ => pyRepr (.str x u) >>= fun shown =>
   mkStr (((s!"invalid literal for int() with base {10}: " : String) ++ ⟨shown.cps.extract 0 200⟩ : PySem.Str)) >>= fun m => newExc (.type "ValueError") [m] >>= fun refusal => markTheRefusal ["int.__new__"] refusal >>= fun _ => raiseNew refusal) := by
 show (if (numSeenOf x).length <= 640 then _ else _) = _
 rw [if_pos hs, pure_bind]
 dsimp only
 rw [hr]
 rfl
theorem Hz (y : PySem.Str) : ((((s!"invalid literal for int() with base {10}: " : String) : PySem.Str) ++ ⟨y.cps.extract 0 200⟩ : PySem.Str)).length <= sizeLine := by
 have h0 : (s!"invalid literal for int() with base {10}: " : String) = "invalid literal for int() with base 10: " := by decide +kernel
 have h1 : (PySem.Str.ofString (s!"invalid literal for int() with base {10}: " : String)).length <= 60 := by rw [h0]; decide +kernel
 rw [PySem.Str.length_append]
 have h2 : (⟨y.cps.extract 0 200⟩ : PySem.Str).length <= 200 := by
  show (y.cps.extract 0 200).size <= 200
  rw [Array.size_extract]; lia
 rw [sizeLine_eq]
 have h3 : (((s!"invalid literal for int() with base {10}: " : String) : PySem.Str)).length <= 60 := h1
 lia
theorem Ee {prog : Program} {w : World} {A : Around} {E : Value -> Shared -> Prop} {s : Shared} {x : PySem.Str} {u : Tok} {Q : Value -> Shared -> Prop} (hh : A.handled = none) (hs : (numSeenOf x).length <= 640) (hx : (reprText x).length <= sizeLine) (hr : (int_private% "readNumeral") 0 10 (numSeenOf x) = int_private% "Numeral.invalid")
  (h : ∀ h' tk e, Heap.NewExc s.heap h' e "ValueError" -> E (.ref e) { s with heap := h', toks := tk }) : wpK (model prog w) A ((int_private% "intFromText") (.str x u) (numTextOf x) 10) Q E s := by
 rw [Ah hs hr]
 refine K.bind (K.of (wpAny_rule ?_))
 refine K.bind (K.of (wpAny_pyRepr_str ?_ hx))
 refine K.bind (K.of (wpAny_mkStr ?_ (Hz _)))
 have hp := plainExc_ValueError
 refine K.bind (K.of ?_)
 unfold newExc newTuple
 refine wpAny_bind (wpAny_newObj_type ?_)
 refine wpAny_bind (m := firstArgMember _ _) (wpAny_of_eq (a := Value.none) (by simp only [firstArgMember, hp.first]; rfl) ?_)
 rw [hp.own]
 refine wpAny_newObj_type ?_
 refine K.bind (K.markRefusal (K.of ?_))
 unfold raiseNew
 refine wpAny_bind (wpAny_handled ?_)
 rw [hh]
 first
  | refine wpAny_throw ?_
  | refine wpAny_bind (wpAny_pure (wpAny_throw ?_))
 exact h _ _ _ ⟨fun b o hb => Heap.get?_push_of_some _ (Heap.get?_push_of_some _ hb), Heap.get?_none_of_le (by simp), _, .ref s.heap.objs.size, Heap.get?_push_size _ rfl, rfl, by simp⟩
theorem ou {prog : Program} {w : World} {A : Around} {R : Result -> Shared -> Prop} {s : Shared} {id : String} {args : Args} {b : Builtin} (hb : entryFor table id = some b)
  (h : wpK (model prog w) (A.under (.builtin id args)) (b args) (fun fin s' => match fin with | .done f => R (.ok f) s' | .again c' => c'.quiet = true /\ g6 (model prog w) A c' R s') (fun e s' => R (.error e) s') s) :
  g6 (model prog w) A (.builtin id args) R s := by
 refine dk ?_
 show wpK _ _ (match entryFor table id with | some b => b args | none => unsupported ((withoutEnding? id "#data").getD id)) _ _ s
 rw [hb]; exact h
theorem ug {prog : Program} {w : World} {A : Around} {E : Value -> Shared -> Prop} {s : Shared} {x : PySem.Str} {u : Tok} {Q : Value -> Shared -> Prop} (hh : A.handled = none) (hs : (numSeenOf x).length <= 640) (hx : (reprText x).length <= sizeLine) (hr : (int_private% "readNumeral") 0 10 (numSeenOf x) = int_private% "Numeral.invalid")
  (h : ∀ h' tk e, Heap.NewExc s.heap h' e "ValueError" -> E (.ref e) { s with heap := h', toks := tk }) : wpK (model prog w) A (call (.type "int") [.str x u]) Q E s := by
 have ft := F.called_int
 refine K.call (dk ?_)
 show wpK _ _ (callAny (.type "int") _) _ _ _
 refine K.pure ⟨Code.quiet_builtin _ (by decide +kernel), ou F.entry_type_call ?_⟩
 rw [Around.under_plain (weight_type_call_type "int" _ []) (units_type_call_type "int" _ [])]
 have h2 := ft.canCreate
 refine byC fun hC1 => ?_
 obtain ⟨c, tl, hmro⟩ := ft.mro
 have e : ∃ k, Builtin.«type.__call__» ⟨[.type "int", .str x u], []⟩ = (holding [.builtin "int.__new__"] (call (.builtin "int.__new__") [.type "int", .str x u]) >>= k) := by
  refine ⟨?_, ?_⟩
  rotate_left
  ·unfold Builtin.«type.__call__»
   simp only [ft.notType, h2, F.typeCall_int_1, hmro, ft.made, pure_bind, Bool.false_eq_true, if_false]
   exact rfl
 obtain ⟨k, e⟩ := e
 refine hC1 ?_
 rw [e]
 refine K.bind (K.holding (K.mono (Q := fun _ _ => False) ?_ (fun _ _ q => q.elim) fun _ _ z => z))
 refine K.call (dk ?_)
 show wpK _ A.in1.in1 (do checkBuiltinCall "int.__new__" ⟨[.type "int", .str x u], []⟩; again (.builtin "int.__new__" _)) _ _ _
 refine K.bind (K.of (wpAny_of_eq (F.newCall_int_1 _) (show _ from ?_)))
 refine K.pure ⟨plainId_quiet ft.plain _, ou F.entry_int_new ?_⟩
 rw [Around.under_plainId ft.plain, Dy]
 exact K.bind (K.mono (Q := fun _ _ => False) (Ee hh hs hx hr h) (fun _ _ q => q.elim) fun _ _ z => z)
end Mine
end
section
open PySem PySem.Calls PyProof.Rows PySem.W PySem.SeqAt PyProof.V
namespace Mine
noncomputable def frs (outer : List Env) : List Addr := outer.filterMap (·.frame)
structure Cc (C : Cx) (A : Around) (κ : Kp) (s : Shared) (outer : List Env) : Prop where
 frames : A.frames = some outer
 each : ∀ env ∈ outer, env.scope.kind ≠ .module /\ ∃ L o, env.frame = some L /\ κ L = none /\ L ∉ C.tabs /\ s.heap.get? L = some o /\ ∀ vs, o.data ≠ .fields vs
inductive P4 (C : Cx) (κ : Kp) (s : Shared) (env : Env) (L : Addr) : Prop
 | mk (hk : env.scope.kind ≠ .module) (o : Obj) (h3 : κ L = none) (h4 : L ∉ C.tabs) (h5 : s.heap.get? L = some o) (h6 : ∀ vs, o.data ≠ .fields vs)
theorem Cc.eachL {C : Cx} {A : Around} {κ : Kp} {s : Shared} {outer : List Env} (h : Cc C A κ s outer) {env : Env} (hm : env ∈ outer) {L : Addr} (hL : env.frame = some L) : P4 C κ s env L := by
 obtain ⟨h1, L', o, h2, h3, h4, h5, h6⟩ := h.each env hm
 cases hL.symm.trans h2
 exact ⟨h1, o, h3, h4, h5, h6⟩
structure fi where
 cls : Value
 msg : Option Str
noncomputable def fi.at (x : fi) (h h' : Heap) (a0 : Value) : Prop := match x.msg with
 | none => True
 | some m => ∃ t tk, a0 = .ref t /\ h'.get? t = some { cls := .type "tuple", data := .seq [.str m tk].toArray } /\ h.get? t = none
inductive ua (x : fi) (s : Shared) (e : Addr) (s' : Shared) : Prop
 | mk (he : ∃ h' tk, s' = { s with heap := h', toks := tk }) (hkeep : ∀ b o, s.heap.get? b = some o -> s'.heap.get? b = some o) (hnew : s.heap.get? e = none) (oe : Obj) (ws : Array Value) (a0 : Value) (h1 : s'.heap.get? e = some oe) (h2 : oe.cls = x.cls) (h3 : oe.data = .fields ws) (h4 : ws[1]? = some .none) (h5 : ws[0]? = some a0) (h6 : x.at s.heap s'.heap a0)
theorem ua.ofMade {x : fi} {s : Shared} {e : Addr} {h' : Heap} {ms : Str} {tk : Tok} (m : Heap.MadeExcOf s.heap h' e x.cls [.str ms tk]) (hx : x.msg = some ms) : ua x s e { s with heap := h' } := by
 refine byC fun hC1 => ?_
 obtain ⟨t, he, htn, ht⟩ := m.there
 refine hC1 ?_
 refine ⟨⟨h', s.toks, rfl⟩, m.keeps, m.new, _, _, .ref t, he, rfl, rfl, rfl, rfl, ?_⟩
 unfold fi.at; rw [hx]; exact ⟨t, tk, rfl, ht, htn⟩
theorem ua.ofNew {cls : String} {s : Shared} {e : Addr} {h' : Heap} {tk : Tok} (m : Heap.NewExc s.heap h' e cls) : ua ⟨.type cls, none⟩ s e { s with heap := h', toks := tk } := by
 refine byC fun hC1 => ?_
 obtain ⟨ob, t, he, hc, hd⟩ := m.there
 refine hC1 ?_
 exact ⟨⟨h', tk, rfl⟩, m.keeps, m.new, ob, _, t, he, hc, hd, rfl, rfl, trivial⟩
inductive Fly (C : Cx) (κ : Kp) (s : Shared) (outer : List Env) (x : fi) (e : Addr) (s' : Shared) : Prop
 | mk (base : Heap) (κ' : Kp) (a0 : Value) (k : Kle κ κ') (B : ph C κ' s') (hn : ∀ b o, κ' b = some o -> κ b = some o ∨ s.heap.get? b = none) (hb : ∀ b o, b ∉ C.tabs -> b ∉ frs outer -> s.heap.get? b = some o -> base.get? b = some o)
  (hsl : ∀ b ∈ frs outer, ∀ o, s.heap.get? b = some o -> ∃ sl, s'.heap.get? b = some { o with slots := sl }) (hκb : ∀ b o, κ' b = some o -> base.get? b = some o) (htb : ∀ P ∈ C.tabs, ∃ o, base.get? P = some o) (hfl : Heap.FlyingW base outer e x.cls a0 s'.heap)
  (hmsg : match x.msg with | none => True | some m => ∃ t tk, a0 = .ref t /\ s'.heap.TupAt t [.str m tk] /\ base.get? t = none)
noncomputable def im (C : Cx) (n : Nat) (f : Value) (as : List AV) (names : List Str) (ks : List AV) (x : fi) : Prop :=
 ∀ A E κ s vs kvs outer, AOk A n -> ph C κ s -> Cc C A κ s outer -> RVL κ [] as vs -> RVL κ [] ks kvs -> (∀ e s', Fly C κ s outer x e s' -> E (.ref e) s') →
  gt s f /\ wpK (model C.prog C.w) A (call f vs (names.zip kvs)) (fun _ _ => False) E s
noncomputable def kg (C : Cx) (G : Gd) (x : fi) (N : List Str) : Prop := ∀ κ σ st V s e s', Rel C G.φ G.κ₀ κ σ (.ns N V :: st) s -> σ[0]? = some G.env.locals -> ua x s e s' -> G.E (.ref e) s'
theorem qv {h base : Heap} : ∀ {l : List Env}, (∀ env ∈ l, env.scope.kind ≠ .module /\ ∃ L o, env.frame = some L /\ base.get? L = none /\ h.get? L = some o /\ ∀ vs, o.data ≠ .fields vs) -> h.FunFrames base l
 | [], _ => trivial
 | env :: r, h => ⟨(h env List.mem_cons_self).1, (h env List.mem_cons_self).2, qv fun e he => h e (List.mem_cons_of_mem _ he)⟩
theorem Cc.ofMem {C : Cx} {A : Around} {κ : Kp} {s : Shared} {outer : List Env} (h : Cc C A κ s outer) {b : Addr} (hb : b ∈ frs outer) : ∃ env, P4 C κ s env b := by
 obtain ⟨env, hm, hf⟩ := List.mem_filterMap.mp hb
 exact ⟨env, h.eachL hm hf⟩
inductive Oo (h : Heap) (l : List Addr) : Prop
 | mk (base : Heap) (h1 : ∀ b o, base.get? b = some o -> h.get? b = some o) (h2 : ∀ b ∈ l, base.get? b = none) (h3 : ∀ b o, b ∉ l -> h.get? b = some o -> base.get? b = some o)
theorem Pm (h : Heap) (l : List Addr) : Oo h l := ⟨hideAll h l, fun _ _ e => of_hideAll _ e, fun _ hb => hideAll_none _ hb, fun _ _ hb e => hideAll_get _ e hb⟩
theorem mo {C : Cx} {f : Value} {fd : FuncData} {body : List Stmt} {n : Nat} {as : List AV} {names : List Str} {ks : List AV} {bs : List (Str × AV)} {x : fi} (F : zh C f fd body) (hl : ci C) (ok : ew fd.scope)
  (hcn : ((cellsFrom 1 fd.scope.names []).map (·.1)).Nodup)
  (hbind : ∀ (s : Shared) (vs kvs : List Value), (∀ b o, C.P0 b = some o -> s.heap.get? b = some o) -> vs.length = as.length -> kvs.length = ks.length -> ∃ binds, BindsTo s fd ⟨vs, names.zip kvs⟩ binds /\ binds.map (·.1) = bs.map (·.1) ∧
   ∀ κ : Kp, RVL κ [] as vs -> RVL κ [] ks kvs -> RVL κ [] (bs.map (·.2)) (binds.map (·.2)))
  (run : ∀ A G A', AOk A n -> bu C A' G ⟨fd.scope, 0, cellsFrom 1 fd.scope.names [], fd.code, fd.qualname ++ ".<locals>."⟩ bs ([.ns (fd.scope.names.map (·.1)) (List.replicate fd.scope.names.length none)] ++ List.replicate (ar fd.scope.names) (.cell none))
   fun st0 => ∀ E, kg C (G.at E) x (fd.scope.names.map (·.1)) -> gy C A (G.at E) ⟨fd.scope, 0, cellsFrom 1 fd.scope.names [], fd.code, fd.qualname ++ ".<locals>."⟩ st0 body (fun _ _ => False)) :
  im C (n + 1) f as names ks x := by
 intro A E κ s vs kvs outer hA B hFr ra rk hE
 refine byC fun hC1 => ?_
 obtain ⟨a, o, hf, ha, hd⟩ := F.at_
 refine hC1 ?_
 have hp0 : ∀ b o, C.P0 b = some o -> s.heap.get? b = some o := fun b o e => B.keep _ _ (B.prog _ _ e)
 have hs := hp0 _ _ ha
 refine ⟨.inr (.inr ⟨a, o, fd, hf, hs, hd⟩), K.call ?_⟩
 rw [hf]
 refine byC fun hC2 => ?_
 obtain ⟨binds, hB, hn, hr⟩ := hbind s vs kvs hp0 ra.1 rk.1
 refine hC2 ?_
 refine fj (by have := hA.depth; rw [recursionLimit]; omega) hs hd F.co F.gen F.body (F.code.rec hp0) (hB _ _ _ _ ?_)
 rw [F.closure]
 refine ik (bs := bs) (Q' := fun env st0 => ∀ E, kg C ((⟨(jn C s), κ, env, fun _ _ => False⟩ : Gd).at E) x (fd.scope.names.map (·.1)) -> gy C (A.deeper env) ((⟨(jn C s), κ, env, fun _ _ => False⟩ : Gd).at E) ⟨fd.scope, 0, cellsFrom 1 fd.scope.names [], fd.code, fd.qualname ++ ".<locals>."⟩ st0 body (fun _ _ => False)) (Rel.start B) CR.nil ok hcn (fun _ L0 => ⟨L0, rfl, rfl⟩) F.globals F.builtins hn (hr κ ra rk)
  (fun env => ?_) fun κ' σ' st' env s' k p e ⟨cells, he⟩ X q => ?_
 ·exact run (A.deeper env) ⟨_, κ, env, _⟩ A.in1 (hA.deeper env)
 ·refine ⟨hl _ X.p0, oy ?_⟩
  refine K.mono (q _ ?_ κ' σ' s' e X) (fun fl s2 ⟨_, _, _, _, _, _, _, _, q2⟩ => q2.elim) fun _ _ z => z
  intro κ1 σ1 st1 V s1 ex s2 X1 hσ1' hm
  replace X1 : Rel C (jn C s) κ κ1 σ1 (.ns (fd.scope.names.map (·.1)) V :: st1) s1 := X1
  have hframe : env.frame = some s.heap.objs.size := by rw [he]; rfl
  have hσ1 : σ1[0]? = some s.heap.objs.size := by
   have : σ1[0]? = some env.locals := hσ1'
   rw [this, he]; rfl
  have hfr2 : (A.deeper env).frames = some (env :: outer) := Around.frames_deeper hFr.frames
  have hkind : env.scope.kind ≠ .module := by rw [show env.scope = fd.scope from e.scope, ok.kind]; decide
  show wpAny _ (A.deeper env) (leaving env (.ref ex)) _ _ _
  refine byC fun hC3 => ?_
  obtain ⟨⟨h', tk, rfl⟩, hkeep, hnew, oe, ws, a0, hoe, hcls, hdat, h1, h0, hat⟩ := hm
  obtain ⟨L, oL, hL, hκL, hφL, hoL, _, mL, ⟨es, ep, hdL, _⟩, _⟩ := X1.get (i := 0) (x := .ns (fd.scope.names.map (·.1)) V) rfl trivial
  cases hσ1.symm.trans hL
  obtain ⟨base, hb1, hb2, hb3⟩ := Pm s1.heap (s.heap.objs.size :: frs outer)
  refine hC3 ?_
  have old : ∀ b o, b ∉ C.tabs -> s.heap.get? b = some o -> s1.heap.get? b = some o := fun b o hb eo => X1.phi b o ((if_neg hb).trans eo)
  have hff : h'.FunFrames base (env :: outer) := qv fun env' hm => by
   rcases List.mem_cons.mp hm with rfl | hm
   ·exact ⟨hkind, _, oL, hframe, hb2 _ (.head _), hkeep _ _ hoL, fun vs q => by rw [hdL] at q; cases q⟩
   ·obtain ⟨h1, L', o', h2, h3, h4, h5, h6⟩ := hFr.each env' hm
    exact ⟨h1, L', o', h2, hb2 _ (.tail _ (List.mem_filterMap.mpr ⟨env', hm, h2⟩)), hkeep _ _ (old _ _ h4 h5), h6⟩
  have hκfr : ∀ b ∈ s.heap.objs.size :: frs outer, κ1 b = none := fun b hb => by
   rcases List.mem_cons.mp hb with rfl | hb
   ·exact hκL
   ·obtain ⟨env', _, o', h3, h4, h5, _⟩ := hFr.ofMem hb
    exact bz fun o q => (X1.new b o q).elim (fun h => bq h3 h) fun h => bq h ((if_neg h4).trans h5)
  have hκb : ∀ b o, κ1 b = some o -> base.get? b = some o := fun b o eo => hb3 b o (fun hm => bq (hκfr b hm) eo) (X1.keep b o eo)
  have notab : ∀ b ∈ s.heap.objs.size :: frs outer, b ∉ C.tabs := fun b hb hT => by
   rcases List.mem_cons.mp hb with rfl | hb
   ·exact (X1.tabs _ hT).2.2.2 (List.mem_of_getElem? hσ1)
   ·obtain ⟨env', _, o', h3, h4, h5, _⟩ := hFr.ofMem hb
    exact h4 hT
  refine wpAny_leaving_firstW hfr2 hff hframe hoe (fun b o eo => hkeep b o (hb1 b o eo)) (bz fun o q => bq hnew (hb1 _ _ q)) hdat h1 h0 fun h'' hL => ?_
  refine byC fun hC8 => ?_
  obtain ⟨k1, ⟨_, _, k2⟩, k3, k4⟩ := hL
  refine hC8 ?_
  refine hE ex _ ⟨base, κ1, a0, X1.k0, ⟨X1.prog, fun b o eo => k1 b o (hκb b o eo), fun P hP => ?_, X1.gens, X1.os⟩, fun b o eo => ?_, fun b o hb hb2 eo => ?_, fun b hb o eo => ?_, hκb, fun P hP => ?_, ⟨k1, bz fun o q => bq hnew (hb1 _ _ q), k2, by rw [<- hcls]; exact k3⟩, ?_⟩
  ·exact ⟨(X1.tabs P hP).1.keeps (Kle.refl _) fun o' e' => k1 _ _ (hb3 P o' (fun hm => notab P hm hP) e'), (X1.tabs P hP).2.2.1⟩
  ·exact (X1.new b o eo).elim .inl fun h => .inr ((if_neg fun hb => bq (X1.tabs b hb).2.2.1 eo).symm.trans h)
  ·refine hb3 b o (fun hm => ?_) (old b o hb eo)
   rcases List.mem_cons.mp hm with rfl | hm
   ·exact absurd (Heap.lt_size eo) (Nat.lt_irrefl _)
   ·exact hb2 hm
  ·obtain ⟨env', _, o', h3, h4, h5, h6⟩ := hFr.ofMem hb
   cases h5.symm.trans eo
   exact k4 _ _ (hkeep _ _ (old _ _ h4 h5)) h6
  ·obtain ⟨⟨ps, eP, _⟩, _⟩ := X1.tabs P hP
   exact ⟨_, hb3 P _ (fun hm => notab P hm hP) eP⟩
  ·unfold fi.at at hat
   cases q : x.msg with
   | none => trivial
   | some us =>
    rw [q] at hat
    refine byC fun hC12 => ?_
    obtain ⟨t, tk', ht1, ht2, ht3⟩ := hat
    refine hC12 ?_
    exact ⟨t, tk', ht1, Heap.TupAt.of_slots ⟨_, _, ht2, rfl, rfl⟩ k4, bz fun o q => bq ht3 (hb1 _ _ q)⟩
end Mine
end
section
open PySem PySem.Calls PyProof.Rows PySem.W PySem.SeqAt PyProof.V
namespace Mine
inductive ta (C : Cx) (Cl : Addr) : Prop
 | mk (nm q N bs bm hdct sn sub ab col dd k0 k1 k2 k3 k5 newId mN bmB Bn inN bmN B nid initId : _) (h1 : mN "__init__" = none) (h2 : bm.contains (.type "BaseException") = true) (h3 : ExcBaseFacts Bn newId inN bmN) (h4 : bmB.contains (.type Bn) = true) (h5 : ExcBaseFacts B nid initId bmB)
  (h6 : ∀ h : Heap, (∀ b o, C.P0 b = some o -> h.get? b = some o) -> h.get? Cl = some (excClassObj nm q Cl N bs bm hdct sn sub ab col dd k0 k1 k2 k3 k5 newId) /\ h.Ns N mN /\ OwnTail h bmB bm)
section
variable {C : Cx} {A : Around} {G : Gd} {ae : a9} {st : List ac}
theorem i4 {x m : Str} {np cpos pos : Pos} {arg : Expr} {Cl : Addr} {N : List Str} {Q : AF -> List ac -> Prop} (i : Nat) (O : ta C Cl) (g : ag C x (.ref Cl)) (hk : ae.scope.names[i]? = some (x, .globalImplicit)) (hh : A.handled = none) (hL : ae.L = 0)
  (he : ∀ env, starEach [arg] env = [(false, eval arg env)]) (hE : kg C G ⟨.ref Cl, some m⟩ N) (h : wE C A G ae st arg fun a st1 => a = .d (.str m) /\ ∃ V st', st1 = .ns N V :: st') :
  wS C A G ae st (.Raise (some (.Call (.Name x np) [arg] [] cpos)) none pos) Q := fun κ σ s e X => by
 refine byC fun hC1 => ?_
 obtain ⟨nm, q, Nn, bs, bm, hdct, sn, sub, ab, col, dd, k0, k1, k2, k3, k5, newId, mN, bmB, Bn, inN, bmN, B, nid, initId, hni, hbase, Fn, hBn, F, hall⟩ := O
 refine hC1 ?_
 refine wpAny_Raise_call_subU (nm := nm) (q := q) (N := Nn) (bs := bs) (bm := bm) (hdct := hdct) (sn := sn) (sub := sub) (ab := ab) (col := col) (dd := dd) (k0 := k0) (k1 := k1) (k2 := k2) (k3 := k3) (k5 := k5) (C := Cl) (mN := mN) Fn hBn F hbase hh (by rw [he]; rfl) hni ?_
 refine wpAny_mono (ao i (Q := fun a st1 => a = .glob (.ref Cl) /\ st1 = st) g hk ⟨rfl, rfl⟩ κ σ s e X) (fun vf s1 z => z.go fun κ1 σ1 f st1 k1' p1 X1 r1 q1 => ?_) fun _ _ z => z
 cases q1.1; cases q1.2
 refine ⟨r1, j4 (by rw [he]; rfl) rfl (wpAny_mono (ad (Q := fun as st2 => as = [.d (.str m)] /\ ∃ V st', st2 = .ns N V :: st') (fun env => by rw [he]; rfl) (W.mono h fun a st2 q => ak ⟨by rw [q.1], q.2⟩) κ1 σ1 s1 (e.mono p1) X1) (fun vs s2 z => z.go fun κ2 σ2 as st2 k2' p2 X2 r2 q2 => wpAny_evalAll_nil ?_) fun _ _ z => z)⟩
 refine byC fun hC3 => ?_
 obtain ⟨rfl, V, st', rfl⟩ := q2
 obtain ⟨v, rfl, t, rfl⟩ := r2.one
 obtain ⟨c1, c2, c3⟩ := hall s2.heap X2.p0
 refine hC3 ?_
 refine ⟨rfl, by rw [sizeLine_eq]; exact Nat.le_of_ble_eq_true rfl, c1, c2, c3, fun h' ex hm => ?_⟩
 exact hE κ2 σ2 st' V s2 ex _ X2 (by have := (e.mono (p1.trans p2)).loc; rw [hL] at this; exact this) (ua.ofMade (x := ⟨.ref Cl, some m⟩) hm rfl)
theorem v8 {x m : Str} {np cpos pos : Pos} {arg : Expr} {cls newId initId : String} {N : List Str} {Q : AF -> List ac -> Prop} (F : ExcCallFacts cls newId initId) (Gf : ExcRaiseFacts cls) (i : Nat) (g : ag C x (.type cls)) (hk : ae.scope.names[i]? = some (x, .globalImplicit)) (hh : A.handled = none) (hL : ae.L = 0)
  (he : ∀ env, starEach [arg] env = [(false, eval arg env)]) (hE : kg C G ⟨.type cls, some m⟩ N) (h : wE C A G ae st arg fun a st1 => a = .d (.str m) /\ ∃ V st', st1 = .ns N V :: st') :
  wS C A G ae st (.Raise (some (.Call (.Name x np) [arg] [] cpos)) none pos) Q := fun κ σ s e X => by
 refine wpAny_Raise_call F Gf hh (by rw [he]; rfl) ?_
 refine wpAny_mono (ao i (Q := fun a st1 => a = .glob (.type cls) /\ st1 = st) g hk ⟨rfl, rfl⟩ κ σ s e X) (fun vf s1 z => z.go fun κ1 σ1 f st1 k1' p1 X1 r1 q1 => ?_) fun _ _ z => z
 cases q1.1; cases q1.2
 refine ⟨r1, j4 (by rw [he]; rfl) rfl (wpAny_mono (ad (Q := fun as st2 => as = [.d (.str m)] /\ ∃ V st', st2 = .ns N V :: st') (fun env => by rw [he]; rfl) (W.mono h fun a st2 q => ak ⟨by rw [q.1], q.2⟩) κ1 σ1 s1 (e.mono p1) X1) (fun vs s2 z => z.go fun κ2 σ2 as st2 k2' p2 X2 r2 q2 => wpAny_evalAll_nil ?_) fun _ _ z => z)⟩
 refine byC fun hC2 => ?_
 obtain ⟨rfl, V, st', rfl⟩ := q2
 obtain ⟨v, rfl, t, rfl⟩ := r2.one
 refine hC2 ?_
 refine ⟨rfl, by rw [sizeLine_eq]; exact Nat.le_of_ble_eq_true rfl, fun h' ex hm => ?_⟩
 exact hE κ2 σ2 st' V s2 ex _ X2 (by have := (e.mono (p1.trans p2)).loc; rw [hL] at this; exact this) (ua.ofMade (x := ⟨.type cls, some m⟩) (Heap.MadeExc.of hm) rfl)
end
end Mine
end
section
open PySem PySem.Calls PyProof.Rows PySem.W PySem.SeqAt PyProof.V
set_option maxRecDepth 100000
namespace Mine
noncomputable def jx (x : Str) : Prop := x.length <= 1000000 /\ Txt.slice x none (some 3) ≠ "229"
noncomputable def d4 (x : Str) : Prop := x.length <= 1000000 /\ Txt.slice x none (some 3) = "229" /\ Txt.find x "(" < 2 ^ 60 /\ Txt.find3 x ")" (Txt.find x "(" + 1) < 2 ^ 60 ∧
 (Txt.find x "(" < 0 ∨ (0 <= Txt.find x "(" /\ (Txt.find3 x ")" (Txt.find x "(" + 1) < 0 ∨ (0 <= Txt.find3 x ")" (Txt.find x "(" + 1) /\ ∃ c d, xr x (Txt.find x "(" + 1) = some c /\ xr x (Txt.find3 x ")" (Txt.find x "(" + 1) - 1) = some d ∧
  (c ≠ d ∨ (c = d /\ (Txt.split (Txt.slice x (some (Txt.find x "(" + 1)) (some (Txt.find3 x ")" (Txt.find x "(" + 1)))) ⟨#[c]⟩).length ≠ 5 /\ (Txt.split (Txt.slice x (some (Txt.find x "(" + 1)) (some (Txt.find3 x ")" (Txt.find x "(" + 1)))) ⟨#[c]⟩).length < 2 ^ 60))))))
noncomputable abbrev uv : List Str := (aq PySem.Challenge.pw_wb0027_01 10).names.map (·.1)
theorem Az {C : Cx} {A : Around} {G : Gd} {n : Nat} (hA : AOk A n) (cd : Value) (ql : Str) {R : Addr} (O : ta C R) (gr : ag C "error_reply" (.ref R)) (x : Str) (h : jx x) (peer : D) (hE : kg C G ⟨.ref R, some x⟩ uv) :
  wSs C A G ⟨aq PySem.Challenge.pw_wb0027_01 10, 0, [], cd, ql⟩ [i1 10 [some (.d (.str x)), some (.d peer), none, none, none, none, none, none, none, none, none]] (cq PySem.Challenge.pw_wb0027_01 10) (fun _ _ => False) := by
 have hS := sizeLine_eq
 obtain ⟨hsz, hc⟩ := h
 refine ah (cm ?_)
 refine a8 rfl ?_
 refine ie (aa 0 rfl rfl rfl rfl (c5 (dc (ai ⟨3, rfl, c5 ?_⟩))))
 refine j6 (by lia) ?_
 refine az (v4 (cn ?_))
 rw [show ((Txt.slice x none (some 3) != Str.ofString "229") = true) from bne_iff_ne.mpr hc]
 refine ah ?_
 exact i4 7 O gr rfl hA.handled rfl (fun _ => rfl) hE (aa 0 rfl rfl rfl rfl ⟨rfl, _, _, rfl⟩)
set_option maxHeartbeats 4000000 in
theorem Ar {C : Cx} {A : Around} {G : Gd} {n : Nat} (hA : AOk A n) (cd : Value) (ql : Str) {R : Addr} (O : ta C R) (gr : ag C "error_proto" (.ref R)) (gl : ag C "len" (.builtin "len")) (x : Str) (h : d4 x) (peer : D) (hE : kg C G ⟨.ref R, some x⟩ uv) :
  wSs C A G ⟨aq PySem.Challenge.pw_wb0027_01 10, 0, [], cd, ql⟩ [i1 10 [some (.d (.str x)), some (.d peer), none, none, none, none, none, none, none, none, none]] (cq PySem.Challenge.pw_wb0027_01 10) (fun _ _ => False) := by
 have hS := sizeLine_eq
 refine byC fun hC1 => ?_
 obtain ⟨hsz, hcode, hlf, hrf, hcase⟩ := h
 refine hC1 ?_
 generalize hL : Txt.find x "(" = L at *
 generalize hR : Txt.find3 x ")" (L + 1) = Rr at *
 refine ah (cm ?_)
 refine a8 rfl ?_
 refine ie (aa 0 rfl rfl rfl rfl (c5 (dc (ai ⟨3, rfl, c5 ?_⟩))))
 refine j6 (by lia) ?_
 refine az (v4 (cn ?_))
 rw [hcode]
 rw [show ((Str.ofString "229" != Str.ofString "229") = false) by simp]
 refine am ?_
 refine (?_ : wSs _ _ _ _ _ _ _)
 refine ah (al (fun _ => rfl) ?_)
 refine jo F.plainAttrs_str F.slot_str_find F.type_str_find ?_ ?_ ?_ ?_
 ·exact fun _ _ => rfl
 ·exact fun _ => rfl
 ·rfl
 refine aa 0 rfl rfl rfl rfl ⟨dg, ?_⟩
 refine az (zy ?_)
 rw [hL]
 refine af 2 rfl rfl rfl ?_
 refine (?_ : wSs _ _ _ _ _ _ _)
 refine ah (cm ?_)
 refine a8 rfl (aa 2 rfl rfl rfl rfl (ai (g7 (cn ?_))))
 rcases hcase with hl | ⟨hl, hcase⟩
 ·rw [show decide (L < 0) = true from decide_eq_true hl]
  refine ah ?_
  exact i4 8 O gr rfl hA.handled rfl (fun _ => rfl) hE (aa 0 rfl rfl rfl rfl ⟨rfl, _, _, rfl⟩)
 rw [show decide (L < 0) = false from decide_eq_false (by lia)]
 refine am ?_
 refine (?_ : wSs _ _ _ _ _ _ _)
 refine ah (al (fun _ => rfl) ?_)
 refine Jb F.plainAttrs_str F.slot_str_find F.type_str_find ?_ ?_ ?_ ?_ ?_
 ·exact fun _ _ => rfl
 ·exact fun _ => rfl
 ·exact fun _ => rfl
 ·rfl
 refine aa 0 rfl rfl rfl rfl ⟨dg, ?_⟩
 refine az (aj (aa 2 rfl rfl rfl rfl (ai (cu ?_))))
 refine wb ?_
 rw [hR]
 refine af 3 rfl rfl rfl ?_
 refine (?_ : wSs _ _ _ _ _ _ _)
 refine ah (cm ?_)
 refine a8 rfl (aa 3 rfl rfl rfl rfl (ai (g7 (cn ?_))))
 rcases hcase with hr | ⟨hr, c, d, hc, hd, hcase⟩
 ·rw [show decide (Rr < 0) = true from decide_eq_true hr]
  refine ah ?_
  exact i4 8 O gr rfl hA.handled rfl (fun _ => rfl) hE (aa 0 rfl rfl rfl rfl ⟨rfl, _, _, rfl⟩)
 rw [show decide (Rr < 0) = false from decide_eq_false (by lia)]
 refine am ?_
 refine (?_ : wSs _ _ _ _ _ _ _)
 refine ah (cm ?_)
 refine a8 rfl ?_
 refine bb (fun _ _ => ⟨_, rfl⟩) (aa 0 rfl rfl rfl rfl (aj (aa 2 rfl rfl rfl rfl (ai (cu ?_)))))
 refine fu (by lia) (by lia) hc ?_
 refine bb (fun _ _ => ⟨_, rfl⟩) (aa 0 rfl rfl rfl rfl (aj (aa 3 rfl rfl rfl rfl (ai (nb ?_)))))
 refine fu (by lia) (by lia) hd ?_
 refine v4 (cn ?_)
 rcases hcase with hcd | ⟨rfl, hp5, hpf⟩
 ·rw [show (((⟨#[c]⟩ : Str) != (⟨#[d]⟩ : Str)) = true) from bne_iff_ne.mpr (fun q => hcd (by injection q with q; simpa using q))]
  refine ah ?_
  exact i4 8 O gr rfl hA.handled rfl (fun _ => rfl) hE (aa 0 rfl rfl rfl rfl ⟨rfl, _, _, rfl⟩)
 rw [show (((⟨#[c]⟩ : Str) != (⟨#[c]⟩ : Str)) = false) by simp]
 refine am ?_
 refine (?_ : wSs _ _ _ _ _ _ _)
 refine ah (al (fun _ => rfl) ?_)
 refine jo F.plainAttrs_str F.slot_str_split F.type_str_split ?_ ?_ ?_ ?_
 ·exact fun _ _ => rfl
 ·exact fun _ => rfl
 ·rfl
 refine ie (aa 0 rfl rfl rfl rfl ?_)
 refine dc (aj (aa 2 rfl rfl rfl rfl (ai (cu ⟨L + 1, rfl, ?_⟩))))
 refine dc (aa 3 rfl rfl rfl rfl ⟨Rr, rfl, c5 ?_⟩)
 refine j6 (by lia) ⟨dg, ?_⟩
 refine bb (fun _ _ => ⟨_, rfl⟩) (aa 0 rfl rfl rfl rfl (aj (aa 2 rfl rfl rfl rfl (ai (cu ?_)))))
 refine fu (by lia) (by lia) hc ?_
 refine rj rfl (by have := Txt.slice_le x (some (L + 1)) (some Rr); lia) ?_
 generalize Txt.split (Txt.slice x (some (L + 1)) (some Rr)) ⟨#[c]⟩ = parts at hp5 hpf
 refine af 4 rfl rfl rfl ?_
 refine (?_ : wSs _ _ _ _ _ _ _)
 refine ah (cm ?_)
 refine a8 rfl (dq (fun _ => rfl) (ao 9 gl rfl (aa 4 rfl rfl rfl rfl (d7 (sz (l := (parts.map PyData.str).map .d) rfl (by rw [List.length_map, List.length_map]; lia) ?_)))))
 refine ai (tw (cn ?_))
 rw [List.length_map, List.length_map, show (((parts.length : Int) != 5) = true) from bne_iff_ne.mpr (by lia)]
 refine ah ?_
 exact i4 8 O gr rfl hA.handled rfl (fun _ => rfl) hE (aa 0 rfl rfl rfl rfl ⟨rfl, _, _, rfl⟩)
theorem Kd {C : Cx} {A : Around} {G : Gd} {n : Nat} (hA : AOk A n) (cd : Value) (ql : Str) (gv : ag C "ValueError" (.type "ValueError")) (a x hi kv : AV) (lo : Int) (hlo : lo < 0) (hE : kg C G ⟨.type "ValueError", some "lo must be non-negative"⟩ ((aq PySem.Challenge.pw_wb0027_01 4).names.map (·.1))) :
  wSs C A G ⟨aq PySem.Challenge.pw_wb0027_01 4, 0, [], cd, ql⟩ [i1 4 [some a, some x, some (.d (.int lo)), some hi, some kv, none, none, none]] (cq PySem.Challenge.pw_wb0027_01 4) (fun _ _ => False) := by
 refine ah (cm ?_)
 refine a8 rfl (aa 2 rfl rfl rfl rfl (ai (g7 (cn ?_))))
 rw [show decide (lo < 0) = true from decide_eq_true hlo]
 refine ah ?_
 exact v8 PySem.F.excCall_ValueError PySem.F.excRaise_ValueError 6 gv rfl hA.handled rfl (fun _ => rfl) hE (az ⟨rfl, _, _, rfl⟩)
theorem I2 {C : Cx} {A : Around} {G : Gd} {n : Nat} (hA : AOk A n) (cd : Value) (ql : Str) (gv : ag C "ValueError" (.type "ValueError")) (a x hi kv : AV) (lo : Int) (hlo : lo < 0) (hE : kg C G ⟨.type "ValueError", some "lo must be non-negative"⟩ ((aq PySem.Challenge.pw_wb0027_01 5).names.map (·.1))) :
  wSs C A G ⟨aq PySem.Challenge.pw_wb0027_01 5, 0, [], cd, ql⟩ [i1 5 [some a, some x, some (.d (.int lo)), some hi, some kv, none, none, none]] (cq PySem.Challenge.pw_wb0027_01 5) (fun _ _ => False) := by
 refine ah (cm ?_)
 refine a8 rfl (aa 2 rfl rfl rfl rfl (ai (g7 (cn ?_))))
 rw [show decide (lo < 0) = true from decide_eq_true hlo]
 refine ah ?_
 exact v8 PySem.F.excCall_ValueError PySem.F.excRaise_ValueError 6 gv rfl hA.handled rfl (fun _ => rfl) hE (az ⟨rfl, _, _, rfl⟩)
end Mine
end
section
open PySem PySem.Calls PyProof.Rows PySem.W PySem.SeqAt PyProof.V
namespace Mine
noncomputable def Ql (C : Cx) (L : Addr) (s s' : Shared) : Prop := (∀ b o, b ∉ C.tabs -> b ≠ L -> s.heap.get? b = some o -> s'.heap.get? b = some o) /\ ∀ o, s.heap.get? L = some o -> ∃ sl, s'.heap.get? L = some { o with slots := sl }
inductive y2 (C : Cx) (κ : Kp) (s : Shared) (L : Addr) (post : D -> Prop) (r : Value) (s' : Shared) : Prop
 | mk (κ' : Kp) (d : D) (k : Kle κ κ') (B : ph C κ' s') (hn : ∀ b o, κ' b = some o -> κ b = some o ∨ s.heap.get? b = none) (hk : Ql C L s s') (hr : R κ' d r) (hp : post d)
noncomputable def yh (C : Cx) (n : Nat) (f : Value) (as : List AV) (names : List Str) (ks : List AV) (post : D -> Prop) : Prop :=
 ∀ A E κ s vs kvs envL L, AOk A n -> ph C κ s -> Cc C A κ s [envL] -> envL.frame = some L -> RVL κ [] as vs -> RVL κ [] ks kvs -> gt s f /\ wpK (model C.prog C.w) A (call f vs (names.zip kvs)) (y2 C κ s L post) E s
theorem NsO.slots {o : Obj} {m : Str -> Option Value} (h : NsO o m) (sl : Array (Option Value)) : NsO { o with slots := sl } m := let ⟨es, ep, h1, h2, h3⟩ := h; ⟨es, ep, h1, h2, h3⟩
theorem RO.slotsNs {κ : Kp} {σ : List Addr} {N : List Str} {V : List (Option AV)} {o : Obj} (h : RO κ σ (.ns N V) o) (sl : Array (Option Value)) : RO κ σ (.ns N V) { o with slots := sl } := let ⟨h1, m, h2, h3⟩ := h; ⟨h1, m, h2.slots sl, h3⟩
theorem Rel.behindX {C : Cx} {φ κ₀ κ κ' : Kp} {σ : List Addr} {N : List Str} {V : List (Option AV)} {st : List ac} {s s' : Shared} {L : Addr} (X : Rel C φ κ₀ κ σ (.ns N V :: st) s) (hL : σ[0]? = some L) (k : Kle κ κ') (B : ph C κ' s') (hn : ∀ b o, κ' b = some o -> κ b = some o ∨ s.heap.get? b = none) (hk : Ql C L s s') : Rel C φ κ₀ κ' σ (.ns N V :: st) s' := by
 have hφT : ∀ P ∈ C.tabs, φ P = none := fun P hP => (X.tabs P hP).2.1
 have notab : ∀ a, a ∈ σ -> a ∉ C.tabs := fun a ha hT => (X.tabs a hT).2.2.2 ha
 obtain ⟨L', oL, hL', hκL, hφL, hoL, hrL⟩ := X.get (i := 0) (x := .ns N V) rfl trivial
 rw [hL] at hL'; cases hL'
 refine ⟨X.prog.trans k, X.k0.trans k, fun b o e => ?_, B.keep, fun b o e => hk.1 b o (fun hT => by exact bq (hφT b hT) e) (fun q => by rw [q, hφL] at e; cases e) (X.phi b o e), X.len, X.nd, fun i a x e1 e2 => ?_, fun P hP => ?_, B.gens, B.os⟩
 ·rcases hn b o e with e | e
  ·exact X.new b o e
  ·right
   refine bz fun o' q => ?_
   rw [X.phi _ _ q] at e; cases e
 ·have ha := notab a (List.mem_of_getElem? e1)
  have hκ' : ∀ o, s.heap.get? a = some o -> κ a = none -> κ' a = none := fun o h1 h2 => by
   refine bz fun o' q => ?_
   rcases hn a o' q with e | e
   ·exact bq h2 e
   ·rw [h1] at e; cases e
  by_cases h0 : i = 0
  ·subst h0
   rw [hL] at e1; cases e1
   simp at e2; subst e2
   obtain ⟨sl, hs⟩ := hk.2 oL hoL
   exact .own trivial (hκ' oL hoL hκL) hφL _ hs ((RO.slotsNs hrL sl).mono k (List.prefix_refl _))
  ·have hne : a ≠ L := fun q => by
    subst q
    obtain ⟨b1, c1⟩ := List.getElem?_eq_some_iff.mp e1
    obtain ⟨b2, c2⟩ := List.getElem?_eq_some_iff.mp hL
    exact h0 ((List.getElem_inj X.nd).mp (c1.trans c2.symm))
   exact (X.own i a x e1 e2).map k (List.prefix_refl _) fun h1 h2 o h3 => ⟨hκ' o h3 h1, h2, hk.1 _ _ ha hne h3⟩
 ·exact ⟨(B.tabs P hP).1, hφT P hP, (B.tabs P hP).2, (X.tabs P hP).2.2.2⟩
section
variable {C : Cx} {A : Around} {G : Gd} {ae : a9} {st : List ac} {Q : AV -> List ac -> Prop}
theorem xg {x : Str} {np pos : Pos} {args : List Expr} {n : Nat} {f : Value} (i : Nat) (hs : ∀ env, (backTo pos (starEach args env)).all (fun x => !x.1) = true) (g : ag C x f) (hk : ae.scope.names[i]? = some (x, .globalImplicit)) (hA : AOk A n)
  (hF : ∃ envL, A.frames = some [envL] /\ envL.scope.kind ≠ .module /\ envL.frame = G.env.frame) (hnf : ef ae.scope = true)
  (h : ky C A G ae st pos args fun as st2 => ∃ post, yh C n f as [] [] post /\ (∀ a ∈ as, a.flat) /\ (∃ N V r, st2 = .ns N V :: r) /\ ∀ d, post d -> Q (.d d) st2) : wEK C A G ae st (.Call (.Name x np) args [] pos) Q := fun κ σ s e X =>
 lg (wpAny_mono (ao i (Q := fun a st1 => a = .glob f /\ st1 = st) g hk ⟨rfl, rfl⟩ κ σ s e X) (fun vf s1 z => z.go fun κ1 σ1 fa st1 k1 p1 X1 r1 q1 => by
  refine byC fun hC1 => ?_
  obtain ⟨rfl, rfl⟩ := q1
  cases (r1 : vf = _)
  refine hC1 ?_
  refine lx (hs _) rfl (wpAny_mono (h κ1 σ1 s1 (e.mono p1) X1) (fun vs s2 z => z.go fun κ2 σ2 as st2 k2 p2 X2 r2 q2 => ?_) fun _ _ z => z)
  refine byC fun hC2 => ?_
  obtain ⟨post, hok, hflat, ⟨N, V, r, rfl⟩, hq⟩ := q2
  obtain ⟨envL, f1, f2, f3⟩ := hF
  obtain ⟨L, h1, h2⟩ := (e.mono (p1.trans p2)).frame hnf
  obtain ⟨L', oL, hL', hκL, hφL, hoL, hrL⟩ := X2.get (i := 0) (x := .ns N V) rfl trivial
  refine hC2 ?_
  rw [h2] at hL'; cases hL'
  have hFr : Cc C A κ2 s2 [envL] := ⟨f1, fun env he => by
   simp at he; subst he
   refine byC fun hC3 => ?_
   obtain ⟨_, m, ⟨es, ep, hd, _⟩, _⟩ := hrL
   refine hC3 ?_
   exact ⟨f2, L, oL, f3.trans h1, hκL, fun hT => (X2.tabs L hT).2.2.2 (List.mem_of_getElem? h2), hoL, fun vs q => by rw [hd] at q; cases q⟩⟩
  refine byC fun hC4 => ?_
  obtain ⟨c, w⟩ := hok A G.E κ2 s2 vs [] envL L hA X2.base hFr (f3.trans h1) (r2.flat hflat) RVL.nil
  refine hC4 ?_
  exact wpAny_evalAll_nil ⟨c, K.mono w (fun rv s' ⟨κ', d, k, B, hn, hup, hr, hp⟩ => ⟨κ', σ2, .d d, _, (k1.trans k2).trans k, p1.trans p2, X2.behindX h2 k B hn hup, hr, hq d hp⟩) fun _ _ z => z⟩) fun _ _ z => z)
end
end Mine
end
section
open PySem PySem.Calls PyProof.Rows PySem.W PySem.SeqAt PyProof.V
set_option maxRecDepth 100000
namespace Mine
section
variable {M : Model} {A : Around} {E : Value -> Shared -> Prop}
theorem L8 {h : Heap} {g : Array GenState} {d : Drawn} {t : Nat} {os : OsState} {e : Addr} {oe : Obj} {Q : Bool -> Shared -> Prop}
  {nm q : Str} {C N : Addr} {bs bm : List Value} {hdct : Bool} {sn : List Str} {sub : List Value} {ab : Bool} {col : Option Bool} {dd : Option Addr} {k0 k1 k2 k3 k5 : Option Value} {newId : String}
  {nm' q' : Str} {C' N' : Addr} {bs' bm' : List Value} {hdct' : Bool} {sn' : List Str} {sub' : List Value} {ab' : Bool} {col' : Option Bool} {dd' : Option Addr} {k0' k1' k2' k3' k5' : Option Value} {newId' : String}
  (hC : h.get? C = some (excClassObj nm q C N bs bm hdct sn sub ab col dd k0 k1 k2 k3 k5 newId)) (hC' : h.get? C' = some (excClassObj nm' q' C' N' bs' bm' hdct' sn' sub' ab' col' dd' k0' k1' k2' k3' k5' newId'))
  (he : h.get? e = some oe) (hcls : oe.cls = .ref C) (hbase : bm'.contains (.type "BaseException") = true)
  (hq : Q ((Value.ref C :: bm).contains (.ref C')) ⟨h, g, d, t, os⟩) : wpAny M A (excMatches (.ref e) (.ref C')) Q E ⟨h, g, d, t, os⟩ := by
 have hcB : (Value.ref C' :: bm').contains (.type "BaseException") = true := by rw [List.contains_cons, hbase, Bool.or_true]
 have f := tc_notTuple
 unfold excMatches
 repeat (first | (with_reducible refine wpAny_loadPart_at he ?_; rw [hcls]) | with_reducible refine wpAny_loadPart_at hC' ?_ | (with_reducible refine wpAny_isSubtype_exc hC' ?_; rw [hcB]) | (with_reducible refine wpAny_isSubtype_exc hC ?_) | wp_step)
 cases hb : (Value.ref C :: bm).contains (.ref C') <;> (rw [hb] at hq; wp_walk; exact hq)
theorem Bd {h : Heap} {g : Array GenState} {d : Drawn} {t : Nat} {os : OsState} {e : Addr} {oe : Obj} {X : String} {Q : Bool -> Shared -> Prop}
  {nm' q' : Str} {C' N' : Addr} {bs' bm' : List Value} {hdct' : Bool} {sn' : List Str} {sub' : List Value} {ab' : Bool} {col' : Option Bool} {dd' : Option Addr} {k0' k1' k2' k3' k5' : Option Value} {newId' : String}
  (hC' : h.get? C' = some (excClassObj nm' q' C' N' bs' bm' hdct' sn' sub' ab' col' dd' k0' k1' k2' k3' k5' newId'))
  (he : h.get? e = some oe) (hcls : oe.cls = .type X) (hbase : bm'.contains (.type "BaseException") = true) (hsub : isSubtype (.type X) (.ref C') = pure false)
  (hq : Q false ⟨h, g, d, t, os⟩) : wpAny M A (excMatches (.ref e) (.ref C')) Q E ⟨h, g, d, t, os⟩ := by
 have hcB : (Value.ref C' :: bm').contains (.type "BaseException") = true := by rw [List.contains_cons, hbase, Bool.or_true]
 have f := tc_notTuple
 unfold excMatches
 repeat (first | (with_reducible refine wpAny_loadPart_at he ?_; rw [hcls]) | with_reducible refine wpAny_loadPart_at hC' ?_ | (with_reducible refine wpAny_isSubtype_exc hC' ?_; rw [hcB]) | with_reducible refine wpAny_of_eq hsub ?_ | wp_step)
 all_goals (first | exact hq | skip)
end
end Mine
end
section
open PySem PySem.Calls PyProof.Rows PySem.W PySem.SeqAt PyProof.V
open PySem.Sem (wp)
set_option maxRecDepth 100000
namespace Mine
theorem qb {M : Model} {Γ : Ctx} {env : Env} {b : List Stmt} {Q : Flow -> Pos -> Shared -> Prop} {E : Value -> Pos -> Shared -> Prop} : ∀ (a : List Stmt) (p : Pos) (s : Shared),
  wp M Γ (execs a env) (fun f p1 s1 => match f with | .next => wp M Γ (execs b env) Q E p1 s1 | f => Q f p1 s1) E p s -> wp M Γ (execs (a ++ b) env) Q E p s
 | [], p, s, h => by
  have : execs [] env = pure .next := rfl
  rw [this, Sem.wp_pure'] at h
  exact h
 | x :: r, p, s, h => by
  rw [List.cons_append, execs_cons, Sem.wp_bind']
  rw [execs_cons, Sem.wp_bind'] at h
  refine Sem.wp_mono M Γ _ (fun f p' s' h' => ?_) (fun _ _ _ h' => h') _ _ h
  cases f with
  | next => exact qb r p' s' h'
  | brk => rw [Sem.wp_pure'] at h' ⊢; exact h'
  | cont => rw [Sem.wp_pure'] at h' ⊢; exact h'
  | ret v => rw [Sem.wp_pure'] at h' ⊢; exact h'
theorem C7 {M : Model} {A : Around} {E : Value -> Shared -> Prop} {s : Shared} {env : Env} {a b : List Stmt} {Q : Flow -> Shared -> Prop} (h : wpK M A (execs a env) (fun f s1 => match f with | .next => wpK M A (execs b env) Q E s1 | f => Q f s1) E s) : wpK M A (execs (a ++ b) env) Q E s := fun Γ p hΓ hc => by
 refine qb a p s (Sem.wp_mono M Γ _ (fun f p' s' h' => ?_) (fun _ _ _ h' => h') _ _ (h Γ p hΓ hc))
 cases f with
 | next => exact h' Γ p' hΓ hc
 | _ => exact h'
noncomputable def zq (C : Cx) (G : Gd) (ae : a9) (envS envL : Env) (x : fi) (N : List Str) (V : List (Option AV)) (stT : List ac) : Prop := ∀ κ σ r s e s', Rel C G.φ G.κ₀ κ σ (.ns N V :: stT ++ r) s -> cy ae σ G.env -> Fly C κ s [envS, envL] x e s' -> G.E (.ref e) s'
structure Two (C : Cx) (A : Around) (G : Gd) (envS envL : Env) (L : Addr) : Prop where
 frames : A.frames = some [envS, envL]
 kS : envS.scope.kind ≠ .module
 fS : envS.frame = G.env.frame
 lS : G.env.frame = some G.env.locals
 kL : envL.scope.kind ≠ .module
 fL : envL.frame = some L
 oL : ∃ o, G.φ L = some o /\ ∀ vs, o.data ≠ .fields vs
 κL : G.κ₀ L = none
 tL : L ∉ C.tabs
section
variable {C : Cx} {A : Around} {G : Gd} {ae : a9} {st : List ac} {Q : AV -> List ac -> Prop}
theorem li {x : Str} {np pos : Pos} {args : List Expr} {kws : List Keyword} {n : Nat} {f : Value} {ex : fi} {envS envL : Env} {L : Addr} (i : Nat) (names : List Str) (hs : ∀ env, (backTo pos (starEach args env)).all (fun x => !x.1) = true) (hkw : ∀ env, (backToKw pos (keywordEach kws env)).all (·.1.isSome) = true) (hn : ∀ env, (backToKw pos (keywordEach kws env)).filterMap (·.1) = names)
  (g : ag C x f) (hk : ae.scope.names[i]? = some (x, .globalImplicit)) (hA : AOk A n) (hL0 : ae.L = 0) (T : Two C A G envS envL L) {N : List Str} {V : List (Option AV)} {stT : List ac} (hE : zq C G ae envS envL ex N V stT)
  (h : ky C A G ae st pos args fun as st2 => Ka C A G ae st2 pos kws fun ks st3 => im C n f as names ks ex /\ (∀ a ∈ as, a.flat) /\ (∀ a ∈ ks, a.flat) /\ ∃ r, st3 = .ns N V :: stT ++ r) : wEK C A G ae st (.Call (.Name x np) args kws pos) Q := fun κ σ s e X =>
 lg (wpAny_mono (ao i (Q := fun a st1 => a = .glob f /\ st1 = st) g hk ⟨rfl, rfl⟩ κ σ s e X) (fun vf s1 z => z.go fun κ1 σ1 fa st1 k1 p1 X1 r1 q1 => by
  refine byC fun hC1 => ?_
  obtain ⟨rfl, rfl⟩ := q1
  cases (r1 : vf = _)
  refine hC1 ?_
  refine lx (hs _) (hkw _) (wpAny_mono (h κ1 σ1 s1 (e.mono p1) X1) (fun vs s2 z => z.go fun κ2 σ2 as st2 k2 p2 X2 r2 q2 => wpAny_mono (q2 κ2 σ2 s2 (e.mono (p1.trans p2)) X2) (fun kvs s3 z => z.go fun κ3 σ3 ks st3 k3 p3 X3 r3 q3 => ?_) fun _ _ z => z) fun _ _ z => z)
  refine byC fun hC2 => ?_
  obtain ⟨hraise, hf1, hf2, r, rfl⟩ := q3
  have e3 : cy ae σ3 G.env := e.mono ((p1.trans p2).trans p3)
  have h0 : σ3[0]? = some G.env.locals := by have := e3.loc; rw [hL0] at this; exact this
  obtain ⟨L', oL', hL', hκL', hφL', hoL', _, m, ⟨es, ep, hd, _⟩, _⟩ := X3.get (i := 0) (x := .ns N V) rfl trivial
  refine hC2 ?_
  rw [h0] at hL'; cases hL'
  have hFr : Cc C A κ3 s3 [envS, envL] := ⟨T.frames, fun env he => by
   simp at he
   rcases he with rfl | rfl
   ·exact ⟨T.kS, _, oL', T.fS.trans T.lS, hκL', fun hT => (X3.tabs _ hT).2.2.2 (List.mem_of_getElem? h0), hoL', fun vs q => by rw [hd] at q; cases q⟩
   ·refine byC fun hC3 => ?_
    obtain ⟨o, ho, hnf⟩ := T.oL
    refine hC3 ?_
    refine ⟨T.kL, L, o, T.fL, ?_, T.tL, X3.phi _ _ ho, hnf⟩
    cases q : κ3 L with
    | none => rfl
    | some o' => exact (X3.new L o' q).elim (fun h => bq T.κL h) (fun h => by rw [ho] at h; cases h)⟩
  refine byC fun hC4 => ?_
  obtain ⟨c, w⟩ := hraise A G.E κ3 s3 vs kvs [envS, envL] hA X3.base hFr ((r2.mono k3 p3).flat hf1) (r3.flat hf2) fun ee s' hfly => hE κ3 σ3 r s3 ee s' X3 e3 hfly
  refine hC4 ?_
  exact ⟨c, by rw [hn, List.nil_append]; exact K.mono w (fun _ _ q => q.elim) fun _ _ z => z⟩) fun _ _ z => z)
end
end Mine
end
section
open PySem PySem.Calls PyProof.Rows PySem.W PySem.SeqAt PyProof.V
open PySem.Sem (wp)
set_option maxRecDepth 100000
namespace Mine
noncomputable def fh (φ : Kp) (L : Addr) : Kp := fun b => if b = L then none else φ b
theorem Nc {envS envL : Env} {L0 L : Addr} (h1 : envS.frame = some L0) (h2 : envL.frame = some L) : frs [envS, envL] = [L0, L] := by
 unfold frs; simp [h1, h2]
theorem Rel.risen {C : Cx} {φ κ₀ κ κ' : Kp} {σ : List Addr} {N : List Str} {V : List (Option AV)} {st : List ac} {s s' : Shared} {H base : Heap} {envS envL : Env} {L0 L : Addr} {oL : Obj} (X : Rel C φ κ₀ κ σ (.ns N V :: st) s) (h0 : σ[0]? = some L0)
  (hS : envS.frame = some L0) (hLf : envL.frame = some L) (hφL : φ L = some oL) (hκL : κ₀ L = none) (htL : L ∉ C.tabs) (k : Kle κ κ') (B : ph C κ' s') (hn : ∀ b o, κ' b = some o -> κ b = some o ∨ s.heap.get? b = none)
  (hb : ∀ b o, b ∉ C.tabs -> b ∉ frs [envS, envL] -> s.heap.get? b = some o -> base.get? b = some o) (hsl : ∀ b ∈ frs [envS, envL], ∀ o, s.heap.get? b = some o -> ∃ sl, s'.heap.get? b = some { o with slots := sl }) (hκb : ∀ b o, κ' b = some o -> base.get? b = some o) (htb : ∀ P ∈ C.tabs, ∃ o, base.get? P = some o)
  (hbs : base.StaysIn s'.heap) (hbH : base.StaysIn H) (hup : s'.heap.UpToSlots H) :
  Rel C (fh φ L) κ₀ κ' σ (.ns N V :: st) { s' with heap := H } /\ kc C (fh φ L) κ' σ L /\ (∃ sl, H.get? L = some { oL with slots := sl } ∨ ∃ ws, oL.data = .fields ws) ∧
   ∀ a, base.get? a = none -> (∀ o, H.get? a = some o -> ∀ es ep, o.data ≠ .dict es ep) -> (H.get? a).isSome -> kc C (fh φ L) κ' σ a := by
 have hfr := Nc hS hLf
 rw [hfr] at hb hsl
 have sL : s.heap.get? L = some oL := X.phi _ _ hφL
 refine byC fun hC1 => ?_
 obtain ⟨L', o0, hL', hκ0, hφ0, ho0, hN, m, ⟨es, ep, hd0, hm0, hm1⟩, hr0⟩ := X.get (i := 0) (x := .ns N V) rfl trivial
 refine hC1 ?_
 rw [h0] at hL'; cases hL'
 have κL : κ L = none := by
  refine bz fun o q => ?_
  rcases X.new L o q with h | h
  ·exact bq hκL h
  ·rw [hφL] at h; cases h
 have gone : ∀ a o, s.heap.get? a = some o -> κ a = none -> κ' a = none := fun a o e1 e2 => by
  refine bz fun o' q => ?_
  rcases hn a o' q with h | h
  ·exact bq e2 h
  ·rw [e1] at h; cases h
 have hL0L : L0 ≠ L := fun q => by rw [q, hφL] at hφ0; cases hφ0
 have notσ : L ∉ σ := fun hm => X.mem hm (fun o e => bq κL e) fun _ h2 _ _ => bq h2 hφL
 have at_ : ∀ a o, a ∈ σ -> a ≠ L0 -> s.heap.get? a = some o -> base.get? a = some o := fun a o ha hne e =>
  hb a o (fun hT => (X.tabs a hT).2.2.2 ha) (fun hm => by
   simp at hm; rcases hm with q | q
   ·exact hne q
   ·exact notσ (q ▸ ha)) e
 have nsH : ∃ sl, H.get? L0 = some { o0 with slots := sl } := by
  refine byC fun hC3 => ?_
  obtain ⟨sl, h1⟩ := hsl L0 (by simp) o0 ho0
  obtain ⟨sl2, h2⟩ := hup L0 _ h1 fun ws q => by
   have q : o0.data = .fields ws := q
   rw [hd0] at q; cases q
  refine hC3 ?_
  exact ⟨sl2, h2⟩
 have idx : ∀ (i : Nat) (a : Addr), σ[i]? = some a -> i ≠ 0 -> a ≠ L0 := fun i a e1 hi q => by
  subst q
  refine byC fun hC4 => ?_
  obtain ⟨b1, c1⟩ := List.getElem?_eq_some_iff.mp e1
  obtain ⟨b2, c2⟩ := List.getElem?_eq_some_iff.mp h0
  refine hC4 ?_
  exact hi ((List.getElem_inj X.nd).mp (c1.trans c2.symm))
 refine ⟨⟨X.prog.trans k, X.k0.trans k, fun b o eo => ?_, fun b o eo => hbH b o (hκb b o eo), fun b o eo => ?_, X.len, X.nd, fun i a x e1 e2 => ?_, fun P hP => ?_, B.gens, B.os⟩, ⟨gone L _ sL κL, if_pos rfl, notσ, htL⟩, ?_, fun a ha hnd hsome => ⟨?_, ?_, fun hm => ?_, fun hm => ?_⟩⟩
 ·rcases hn b o eo with h | h
  ·rcases X.new b o h with h | h
   ·exact .inl h
   ·right; unfold fh; split
    ·rfl
    ·exact h
  ·right; unfold fh; split
   ·rfl
   ·refine bz fun o' q => ?_
    rw [X.phi _ _ q] at h; cases h
 ·unfold fh at eo
  split at eo
  ·cases eo
  ·rename_i hne
   refine hbH b o (hb b o (fun hT => by exact bq ((X.tabs b hT).2.1) eo) (fun hm => ?_) (X.phi b o eo))
   simp at hm; rcases hm with q | q
   ·rw [q, hφ0] at eo; cases eo
   ·exact hne q
 ·have hmin : ∀ a, φ a = none -> fh φ L a = none := fun a h => by unfold fh; split; rfl; exact h
  by_cases hi : i = 0
  ·subst hi
   rw [h0] at e1; cases e1
   simp at e2; subst e2
   refine byC fun hC5 => ?_
   obtain ⟨sl, h1⟩ := nsH
   refine hC5 ?_
   exact .own trivial (gone L0 _ ho0 hκ0) (hmin _ hφ0) _ h1 ((RO.slotsNs (show RO κ σ (.ns N V) o0 from ⟨hN, m, ⟨es, ep, hd0, hm0, hm1⟩, hr0⟩) sl).mono k (List.prefix_refl _))
  ·have hne := idx i a e1 hi
   have hmem := List.mem_of_getElem? e1
   exact (X.own i a x e1 e2).map k (List.prefix_refl _) fun h1 h2 o h3 => ⟨gone a o h3 h1, hmin _ h2, hbH _ _ (at_ a o hmem hne h3)⟩
 ·refine byC fun hC6 => ?_
  obtain ⟨o, h1⟩ := htb P hP
  obtain ⟨⟨ps, h2, r⟩, h3⟩ := B.tabs P hP
  refine hC6 ?_
  have h4 := hbs P o h1
  rw [h2] at h4; cases h4
  have hφP := (X.tabs P hP).2.1
  exact ⟨⟨ps, hbH _ _ h1, r⟩, by unfold fh; split; rfl; exact hφP, h3, (X.tabs P hP).2.2.2⟩
 ·refine byC fun hC7 => ?_
  obtain ⟨sl, h1⟩ := hsl L (by simp) oL sL
  refine hC7 ?_
  by_cases hw : ∃ ws, oL.data = .fields ws
  ·exact ⟨sl, .inr hw⟩
  ·refine byC fun hC8 => ?_
   obtain ⟨sl2, h2⟩ := hup L _ h1 fun ws q => hw ⟨ws, q⟩
   refine hC8 ?_
   exact ⟨sl2, .inl h2⟩
 ·refine bz fun o q => ?_
  rw [hκb a o q] at ha; cases ha
 ·unfold fh
  split
  ·rfl
  ·rename_i hne
   refine bz fun o q => ?_
   ·have := hb a o (fun hT => by exact bq ((X.tabs a hT).2.1) q) (fun hm => by
     simp at hm; rcases hm with q' | q'
     ·rw [q', hφ0] at q; cases q
     ·exact hne q') (X.phi a o q)
    exact bq ha this
 ·by_cases h00 : a = L0
  ·exact nsH.elim fun sl h1 => hnd { o0 with slots := sl } (by rw [h00]; exact h1) es ep hd0
  ·exact X.mem hm (fun o' e => bq ha (hκb a o' (k _ _ e))) fun _ _ o' h3 => bq ha (at_ a o' hm h00 h3)
 ·exact (htb a hm).elim fun o h1 => bq ha h1
end Mine
end
section
open PySem PySem.Calls PyProof.Rows PySem.W PySem.SeqAt PyProof.V
open PySem.Sem (wp)
set_option maxRecDepth 100000
namespace Mine
theorem Cm {C : Cx} {ae : a9} {σ : List Addr} {env : Env} {A : Around} {E : Value -> Shared -> Prop} {s : Shared} {x : Str} {v : Value} {pos : Pos} {Q : Value -> Shared -> Prop} (e : cy ae σ env) (i : Nat) (g : ag C x v) (hk : ae.scope.names[i]? = some (x, .globalImplicit))
  (hp0 : ∀ b o, C.P0 b = some o -> s.heap.get? b = some o) (q : Q v s) : wpAny (model C.prog C.w) A (eval (.Name x pos) env) Q E s := by
 refine Name_function_global e.kind (e.kindOf hk) ?_ (e.ok.nodebug _ (List.mem_of_getElem? hk)).1
 rcases g s.heap hp0 with ⟨mg, h1, h2⟩ | ⟨mg, mb, h1, h2, h3, h4⟩
 ·exact loadGlobal_global (by rw [e.globals]; exact h1) h2 q
 ·exact loadGlobal_builtin (by rw [e.globals]; exact h1) h2 (by rw [e.builtins]; exact h3) h4 q
noncomputable def jz (C : Cx) (x : fi) (cv : Value) (b : Bool) : Prop := ∀ (A : Around) (E : Value -> Shared -> Prop) (s : Shared) (e : Addr) (oe : Obj) (ws : Array Value) (Q : Bool -> Shared -> Prop), (∀ b o, C.P0 b = some o -> s.heap.get? b = some o) -> s.heap.get? e = some oe -> oe.cls = x.cls -> oe.data = .fields ws -> Q b s -> wpAny (model C.prog C.w) A (excMatches (.ref e) cv) Q E s
inductive Iq (C : Cx) (ae : a9) (x : fi) : List ExceptHandler -> Option Str -> List Stmt -> Pos -> Prop
 | here {y : Str} {np pos : Pos} {nm : Option Str} {suite : List Stmt} {rest : List ExceptHandler} {cv : Value} (i : Nat) : ae.scope.names[i]? = some (y, .globalImplicit) -> ag C y cv -> jz C x cv true -> Iq C ae x (.ExceptHandler (some (.Name y np)) nm suite pos :: rest) nm suite pos
 | skip {y : Str} {np pos pos' : Pos} {nm nm' : Option Str} {suite suite' : List Stmt} {rest : List ExceptHandler} {cv : Value} (i : Nat) : ae.scope.names[i]? = some (y, .globalImplicit) -> ag C y cv -> jz C x cv false -> Iq C ae x rest nm suite pos -> Iq C ae x (.ExceptHandler (some (.Name y np)) nm' suite' pos' :: rest) nm suite pos
noncomputable def Nf (C : Cx) (A : Around) (E : Value -> Shared -> Prop) (env : Env) (Q : Flow -> Shared -> Prop) (pos : Pos) : Option Str -> Flow -> Shared -> Prop
 | none, f, s => Q f s
 | some n, f, s => wpAny (model C.prog C.w) A (do bindName env n .none; unbindBehindTheSuite env n pos) (fun _ s₃ => Q f s₃) E s
noncomputable def P6 (C : Cx) (A : Around) (E : Value -> Shared -> Prop) (env : Env) (Q : Flow -> Shared -> Prop) (pos : Pos) (nm : Option Str) : Result -> Shared -> Prop
 | .ok f, s => Nf C A E env Q pos nm f s
 | .error x, s => cameBackBy (model C.prog C.w) A env E x s
theorem Hm {C : Cx} {ae : a9} {σ : List Addr} {env : Env} {A : Around} {E : Value -> Shared -> Prop} {x : fi} {hs : List ExceptHandler} {nm : Option Str} {suite : List Stmt} {pos : Pos} {Q : Flow -> Shared -> Prop} {e : Addr} (en : cy ae σ env) (H : Iq C ae x hs nm suite pos) :
  ∀ s : Shared, (∀ b o, C.P0 b = some o -> s.heap.get? b = some o) -> (∃ oe ws, s.heap.get? e = some oe /\ oe.cls = x.cls /\ oe.data = .fields ws) →
  codeAny (model C.prog C.w) (A.mark (some (.ref e))) (.handlers (.ref e) [.ExceptHandler none nm suite pos] env) (P6 C A E env Q pos nm) s →
  wpAny (model C.prog C.w) A (handleBy (.ref e) env hs) Q E s := by
 induction H with
 | here i hk g hm =>
  intro s hp0 ⟨oe, ws, h1, h2, h3⟩ cont
  refine wpAny_handleBy_cons (codeAny_handlers_test (Cm en i g hk hp0 ?_)) (by intro q; cases q)
  refine hm _ _ s e oe ws _ hp0 h1 h2 h3 ?_
  refine codeAny_mono cont fun r s₂ h => ?_
  cases r with
  | error x => exact h
  | ok f => rename_i nm' _ _ _; cases nm' <;> exact h
 | skip i hk g hm _ ih =>
  intro s hp0 hex cont
  refine byC fun hC1 => ?_
  obtain ⟨oe, ws, h1, h2, h3⟩ := id hex
  refine hC1 ?_
  refine wpAny_handleBy_cons (codeAny_handlers_test (Cm en i g hk hp0 ?_)) (by intro q; cases q)
  exact hm _ _ s e oe ws _ hp0 h1 h2 h3 (ih s hp0 hex cont)
inductive Mh (φ : Kp) (x : fi) (e : Addr) : Prop
 | mk (oe : Obj) (ws : Array Value) (a0 : Value) (h1 : φ e = some oe) (h2 : oe.cls = x.cls) (h3 : oe.data = .fields ws) (h4 : ws[0]? = some a0) (h5 : match x.msg with
  | none => True
  | some m => ∃ t ot tk n, a0 = .ref t /\ φ t = some ot /\ ot.cls = .type "tuple" /\ ot.data = .seq [.str m tk].toArray n)
end Mine
end
section
open PySem PySem.Calls PyProof.Rows PySem.W PySem.SeqAt PyProof.V
open PySem.Sem (wp)
set_option maxRecDepth 100000
namespace Mine
noncomputable abbrev ul (fd : FuncData) : a9 := ⟨fd.scope, 0, cellsFrom 1 fd.scope.names [], fd.code, fd.qualname ++ ".<locals>."⟩
theorem K.hide {M : Model} {A : Around} {t : Sem Flow} {P : Value -> Shared -> Prop} {Q0 : Flow -> Shared -> Prop} {E0 : Value -> Shared -> Prop} {s : Shared} (h0 : ∀ v s, P v s -> Q0 (.ret v) s)
  (h : ∀ Q E, (∀ v s, P v s -> Q (.ret v) s) -> wpK M A t Q E s) : wpK M A t Q0 E0 s := h Q0 E0 h0
theorem PA.next {C : Cx} {φ κ₀ κ : Kp} {σ : List Addr} {S : List ac} {fl : Flow} {s : Shared} {N : Prop} {Q : Flow -> Prop} (h : PA RF C φ κ₀ κ σ (fun fl st' => fl = .next /\ st' = S) fl s)
  (k : ∀ κ' σ', Kle κ κ' -> σ <+: σ' -> Rel C φ κ₀ κ' σ' S s -> N) : (match (generalizing := false) fl with | .next => N | f => Q f) := by
 cases h with
 | mk κ' σ' b st' k1 p1 X r q => cases q.1; cases q.2; cases (r : fl = .next); exact k κ' σ' k1 p1 X
inductive Mr (C : Cx) (φ κ₀ κ4 : Kp) (σ : List Addr) (st : List ac) (s : Shared) (h7 : Heap) (x : fi) (ex L : Addr) (oL : Obj) : Prop
 | mk (own : List Addr) (sl : Array (Option Value)) (hfr : ∀ b ∈ own, kc C (fh φ L) κ4 σ b) (X7 : Rel C (fh φ L) κ₀ κ4 σ st { s with heap := h7 }) (hLo : L ∈ own) (hex7 : ∀ b ∈ own, ∃ o, h7.get? b = some o) (hin : Mh (d3 (fh φ L) own h7) x ex) (hL7 : h7.get? L = some { oL with slots := sl })
inductive Nt (C : Cx) (φ κ₀ κ : Kp) (σ : List Addr) (N : List Str) (post : D -> Prop) (f : Flow) (s : Shared) : Prop
 | mk (κ' : Kp) (σ' : List Addr) (d : D) (V2 : List (Option AV)) (r2 : List ac) (v : Value) (hf : f = .ret v) (p : σ <+: σ') (X : Rel C φ κ₀ κ' σ' (.ns N V2 :: r2) s) (r : R κ' d v) (hp : post d)
theorem PA.retAt {C : Cx} {φ κ₀ κ : Kp} {σ : List Addr} {N : List Str} {post : D -> Prop} {f : Flow} {s : Shared} (h : PA RF C φ κ₀ κ σ (fun fl st' => ∃ d, fl = .ret (.d d) /\ post d /\ ∃ V2 r2, st' = .ns N V2 :: r2) f s) : Nt C φ κ₀ κ σ N post f s := by
 cases h with
 | mk κ' σ' b st' k p X r q =>
  obtain ⟨d, rfl, hp, V2, r2, rfl⟩ := q
  obtain ⟨v, hf, r⟩ := r
  exact ⟨κ', σ', d, V2, r2, v, hf, p, X, r, hp⟩
theorem ux {C : Cx} {f : Value} {fd : FuncData} {body pre tb rest : List Stmt} {h0 : ExceptHandler} {hds : List ExceptHandler} {tpos : Pos} {n : Nat} {as : List AV} {names : List Str} {ks : List AV} {bs : List (Str × AV)} {post : D -> Prop} {x : fi}
  {nm : Option Str} {b0 : Stmt} {suite : List Stmt} {hpos : Pos} {V : List (Option AV)} {stT : List ac}
  (F : zh C f fd body) (hbody : body = pre ++ (.Try tb (h0 :: hds) [] [] tpos :: rest)) (hl : ci C) (ok : ew fd.scope) (hnf : ef fd.scope = true)
  (hcn : ((cellsFrom 1 fd.scope.names []).map (·.1)).Nodup)
  (hbind : ∀ (s : Shared) (vs kvs : List Value), (∀ b o, C.P0 b = some o -> s.heap.get? b = some o) -> vs.length = as.length -> kvs.length = ks.length -> ∃ binds, BindsTo s fd ⟨vs, names.zip kvs⟩ binds /\ binds.map (·.1) = bs.map (·.1) ∧
   ∀ κ : Kp, RVL κ [] as vs -> RVL κ [] ks kvs -> RVL κ [] (bs.map (·.2)) (binds.map (·.2)))
  (run : ∀ A G A', AOk A n -> bu C A' G (ul fd) bs ([.ns (nmz fd) (List.replicate fd.scope.names.length none)] ++ List.replicate (ar fd.scope.names) (.cell none))
   fun st0 => ∀ E, wSs C A (G.at E) (ul fd) st0 pre (fun fl st' => fl = .next /\ st' = .ns (nmz fd) V :: stT))
  (tbrun : ∀ A G envS envL L, AOk A n -> Two C A G envS envL L -> zq C G (ul fd) envS envL x (nmz fd) V stT -> gy C A G (ul fd) (.ns (nmz fd) V :: stT) tb (fun _ _ => False))
  (sel : Iq C (ul fd) x (h0 :: hds) nm (b0 :: suite) hpos) (iN : Nat) (hnm : ∀ m, nm = some m -> fd.scope.names[iN]? = some (m, .local))
  (suiterun : ∀ A G ex r, A.units + 100 <= 9100 -> Mh G.φ x ex -> wSs C A G (ul fd) (.ns (nmz fd) (if nm.isSome then V.set iN (some (.glob (.ref ex))) else V) :: stT ++ r) (b0 :: suite) (fun fl st' => ∃ d, fl = .ret (.d d) /\ post d /\ ∃ V2 r2, st' = .ns (nmz fd) V2 :: r2)) :
  yh C (n + 1) f as names ks post := by
 intro A E κ s vs kvs envL L hA B hFr hLf ra rk
 refine byC fun hC1 => ?_
 obtain ⟨a, o, hf, ha, hd⟩ := F.at_
 refine hC1 ?_
 have hp0 : ∀ b o, C.P0 b = some o -> s.heap.get? b = some o := fun b o e => B.keep _ _ (B.prog _ _ e)
 have hs' := hp0 _ _ ha
 refine ⟨.inr (.inr ⟨a, o, fd, hf, hs', hd⟩), K.call ?_⟩
 rw [hf]
 refine byC fun hC2 => ?_
 obtain ⟨binds, hB, hn, hr⟩ := hbind s vs kvs hp0 ra.1 rk.1
 refine hC2 ?_
 refine fj (by have := hA.depth; rw [recursionLimit]; omega) hs' hd F.co F.gen F.body (F.code.rec hp0) (hB _ _ _ _ ?_)
 rw [F.closure]
 refine ik (bs := bs) (Q' := fun env st0 => ∀ E, wSs C (A.deeper env) ((⟨(jn C s), κ, env, fun _ _ => False⟩ : Gd).at E) (ul fd) st0 pre (fun fl st' => fl = .next /\ st' = .ns (nmz fd) V :: stT)) (Rel.start B) CR.nil ok hcn (fun _ L0 => ⟨L0, rfl, rfl⟩) F.globals F.builtins hn (hr κ ra rk)
  (fun env => ?_) fun κ' σ' st' env s' k p e ⟨cells, he⟩ X q => ?_
 ·exact run (A.deeper env) ⟨_, κ, env, _⟩ A.in1 (hA.deeper env)
 ·refine ⟨hl _ X.p0, oy (K.hide (P := y2 C κ s L post) (fun _ _ z => z) fun Q E hQ => ?_)⟩
  rw [hbody]
  refine C7 (K.go (q _ κ' σ' s' e X) (fun fl s2 z => z.next fun κ2 σ2 k2 p2 X2 => ?_) fun _ _ z => z)
  have e2 := e.mono p2
  have hframe : env.frame = some s.heap.objs.size := by rw [he]; rfl
  have hloc : env.locals = s.heap.objs.size := by rw [he]; rfl
  refine byC fun hC3 => ?_
  obtain ⟨hk1, oL, hκL, htL, hoL, hnfl⟩ := hFr.eachL (.head _) hLf
  refine hC3 ?_
  have hfr2 : (A.deeper env).frames = some [env, envL] := Around.frames_deeper hFr.frames
  have hkind : env.scope.kind ≠ .module := by rw [show env.scope = fd.scope from e.scope, ok.kind]; decide
  have hφL : (if L ∈ C.tabs then none else s.heap.get? L) = some oL := by rw [if_neg htL]; exact hoL
  refine tt (K.hide hQ fun Q E hQ => Cn ?_)
  have key : ∀ (EE : Value -> Shared -> Prop), zq C ⟨(jn C s), κ, env, EE⟩ (ul fd) env envL x (nmz fd) V stT -> wpK (model C.prog C.w) (A.deeper env) (execs tb env) (fun _ _ => False) EE s2 := fun EE hEE =>
   K.mono (tbrun (A.deeper env) ⟨(jn C s), κ, env, EE⟩ env envL L (hA.deeper env) ⟨hfr2, hkind, rfl, by rw [hframe, hloc], hk1, hLf, ⟨oL, hφL, hnfl⟩, hκL, htL⟩ hEE κ2 σ2 s2 e2 X2) (fun _ _ ⟨_, _, _, _, _, _, _, _, q⟩ => q.elim) fun _ _ z => z
  refine K.mono (key _ ?_) (fun _ _ q => q.elim) fun _ _ z => z
  intro κ3 σ3 r3 s3 ex s4 X3 e3 hfly
  replace e3 : cy (ul fd) σ3 env := e3
  replace X3 : Rel C (jn C s) κ κ3 σ3 (.ns (nmz fd) V :: (stT ++ r3)) s3 := X3
  refine byC fun hC4 => ?_
  obtain ⟨base, κ4, a0, k4, B4, hn4, hb4, hsl4, hκb4, htb4, hfl4, hmsg4⟩ := hfly
  refine hC4 ?_
  show wpAny _ (A.deeper env) (noteFrame (.ref ex) env) _ _ s4
  refine wpAny_looks_onW hfr2 hframe hfl4 fun h5 hheld5 hup5 => ?_
  refine wpAny_landsW hheld5 fun h6 hfl6 hup6 => ?_
  have h00 : σ3[0]? = some s.heap.objs.size := by rw [<- hloc]; exact e3.loc
  refine Hm e3 sel _ (fun b o eo => hfl6.1 b o (hκb4 b o (B4.prog b o eo))) (let ⟨oe, ws, q1, q2, q3, _⟩ := hfl6.first; ⟨oe, ws, q1, q2, q3⟩) ?_
  have ground : ∀ h7, Heap.FlyingW base [env, envL] ex x.cls a0 h7 -> h6.UpToSlots h7 -> Mr C (jn C s) κ κ4 σ3 (.ns (nmz fd) V :: (stT ++ r3)) s4 h7 x ex L oL := by
   intro h7 hfl7 hup7
   refine byC fun hC5 => ?_
   obtain ⟨X7, hFL, ⟨sl, hsl⟩, hfree⟩ := Rel.risen (V := V) (N := nmz fd) (st := stT ++ r3) X3 h00 hframe hLf hφL hκL htL k4 B4 hn4 hb4 hsl4 hκb4 htb4 hfl4.1 hfl7.1 ((hup5.trans hup6).trans hup7)
   have hL7 : h7.get? L = some { oL with slots := sl } := by
    rcases hsl with h | ⟨ws, h⟩
    ·exact h
    ·exact absurd h (hnfl ws)
   obtain ⟨oe, ws, q1, q2, q3, q4⟩ := hfl7.first
   refine hC5 ?_
   have fe := hfree ex hfl7.2.1 (fun o eo es ep q => by rw [q1] at eo; cases eo; rw [q3] at q; cases q) (by rw [q1]; rfl)
   cases hmx : x.msg with
   | none => exact ⟨[ex, L], sl, ng fe hFL, X7, .tail _ (.head _), ng ⟨_, q1⟩ ⟨_, hL7⟩, ⟨oe, ws, a0, (ml (.head _)).trans q1, q2, q3, q4, by rw [hmx]; trivial⟩, hL7⟩
   | some m =>
    rw [hmx] at hmsg4
    refine byC fun hC6 => ?_
    obtain ⟨t, tk, rfl, htup, htn⟩ := hmsg4
    obtain ⟨ot, nt, t1, t2, t3⟩ := ((htup.of_slots hup5).of_slots hup6).of_slots hup7
    refine hC6 ?_
    have ft := hfree t htn (fun o eo es ep q => by rw [t1] at eo; cases eo; rw [t3] at q; cases q) (by rw [t1]; rfl)
    exact ⟨[ex, t, L], sl, Ms fe ft hFL, X7, .tail _ (.tail _ (.head _)), Ms ⟨_, q1⟩ ⟨_, t1⟩ ⟨_, hL7⟩, ⟨oe, ws, .ref t, (ml (.head _)).trans q1, q2, q3, q4, by rw [hmx]; exact ⟨t, ot, tk, nt, rfl, (ml (.tail _ (.head _))).trans t1, t2, t3⟩⟩, hL7⟩
  have fin : ∀ {own : List Addr} {h7 : Heap} {κ8 : Kp} {σ8 : List Addr} {V2 : List (Option AV)} {r2 : List ac} {s8 : Shared} {v : Value} {d : D} {sl : Array (Option Value)}, (∀ b ∈ own, kc C (fh (jn C s) L) κ4 σ3 b) -> L ∈ own -> (∀ b ∈ own, ∃ o, h7.get? b = some o) -> h7.get? L = some { oL with slots := sl } →
    Rel C (d3 (fh (jn C s) L) own h7) κ κ8 σ8 (.ns (nmz fd) V2 :: r2) s8 -> R κ8 d v -> post d -> y2 C κ s L post v s8 := by
   intro own h7 κ8 σ8 V2 r2 s8 v d sl hfr hLo hex7 hL7 X8 hr8 hp8
   refine byC fun hC7 => ?_
   obtain ⟨X9, hf9, hh9⟩ := X8.leave (fun b hb => (hfr b hb).2.1) (fun b hb => by
    refine bz fun o q => ?_
    have := k4 b o (X3.k0 b o q); rw [(hfr b hb).1] at this; cases this) hex7
   refine hC7 ?_
   refine ⟨κ8, d, X9.k0, X9.base, fun b o eo => ?_, ⟨fun b o hb hbL eo => X9.phi b o (by unfold fh; rw [if_neg hbL]; show (if b ∈ C.tabs then none else s.heap.get? b) = some o; rw [if_neg hb]; exact eo), fun o eo => ⟨sl, by rw [hh9 L hLo, hL7]; rw [hoL] at eo; cases eo; rfl⟩⟩, hr8, hp8⟩
   rcases X9.new b o eo with h | h
   ·exact .inl h
   ·by_cases hbL : b = L
    ·rw [hbL, (hf9 L hLo).1] at eo; cases eo
    ·unfold fh at h
     rw [if_neg hbL] at h
     have h : (if b ∈ C.tabs then none else s.heap.get? b) = none := h
     by_cases hbt : b ∈ C.tabs
     ·rw [(X9.tabs b hbt).2.2.1] at eo; cases eo
     ·rw [if_neg hbt] at h; exact .inr h
  have hun : ((A.deeper env).mark (some (.ref ex))).units + 100 <= 9100 := by
   have := (hA.deeper env).units
   show (A.deeper env).units + 100 <= 9100
   omega
  cases nm with
  | none =>
   refine codeAny_handlers_suite (lands_againW hfl6 fun h7 hfl7 hup7 => ?_)
   refine byC fun hC8 => ?_
   obtain ⟨own, sl, hfr, X7, hLo, hex7, hin, hL7⟩ := ground h7 hfl7 hup7
   refine hC8 ?_
   have key2 : ∀ (EE : Value -> Shared -> Prop), wpAny (model C.prog C.w) ((A.deeper env).mark (some (.ref ex))) (execs (b0 :: suite) env) (fun f s8 => Q f s8) EE { s4 with heap := h7 } := fun EE =>
    wpAny_mono (suiterun _ ⟨d3 (fh (jn C s) L) own h7, κ, env, EE⟩ ex r3 hun hin κ4 σ3 _ e3 (X7.enter hfr)) (fun fl s8 z => by
     obtain ⟨κ8, σ8, d, V2, r2, v, hf, p8, X8, r8, hp⟩ := z.retAt
     rw [hf]; exact hQ v s8 (fin hfr hLo hex7 hL7 X8 r8 hp)) fun _ _ z => z
   exact key2 _
  | some m =>
   refine codeAny_handlers_suite_as (lands_againW hfl6 fun h7 hfl7 hup7 => ?_)
   refine byC fun hC9 => ?_
   obtain ⟨own, sl, hfr, X7, hLo, hex7, hin, hL7⟩ := ground h7 hfl7 hup7
   refine hC9 ?_
   have hN : (nmz fd)[iN]? = some m := by rw [List.getElem?_map, hnm m rfl]; rfl
   have key1 : ∀ (EE : Value -> Shared -> Prop), wpAny (model C.prog C.w) ((A.deeper env).mark (some (.ref ex))) (storeName env m (.ref ex)) (PA RU C (d3 (fh (jn C s) L) own h7) κ κ4 σ3 fun _ st' => st' = .ns (nmz fd) (V.set iN (some (.glob (.ref ex)))) :: (stT ++ r3)) EE { s4 with heap := h7 } := fun EE =>
    af (C := C) (A := (A.deeper env).mark (some (.ref ex))) (G := ⟨d3 (fh (jn C s) L) own h7, κ, env, EE⟩) (ae := ul fd) (st := .ns (nmz fd) V :: (stT ++ r3)) (a := .glob (.ref ex)) (Q := fun st' => st' = .ns (nmz fd) (V.set iN (some (.glob (.ref ex)))) :: (stT ++ r3)) iN (hnm m rfl) rfl hN rfl κ4 σ3 _ _ e3 (X7.enter hfr) rfl
   refine wpAny_mono (key1 _) (fun _ s7 z => z.go fun κ7 σ7 _ st7 k7 p7 X7' _ hst7 => ?_) fun _ _ z => z
   subst hst7
   have key2 : ∀ (EE : Value -> Shared -> Prop), wpAny (model C.prog C.w) ((A.deeper env).mark (some (.ref ex))) (execs (b0 :: suite) env) (Nt C (d3 (fh (jn C s) L) own h7) κ κ7 σ7 (nmz fd) post) EE s7 := fun EE =>
    wpAny_mono (suiterun _ ⟨d3 (fh (jn C s) L) own h7, κ, env, EE⟩ ex r3 hun hin κ7 σ7 _ (e3.mono p7) X7') (fun fl s8 z => z.retAt) fun _ _ z => z
   refine wpAny_mono (key2 _) (fun f s8 z => ?_) fun _ _ z => z
   obtain ⟨κ8, σ8, d, V2, r2, v, hf, p8, X8, rv, hpost⟩ := z
   rw [hf]
   have hσ8 : σ8[0]? = some env.locals := cx (p7.trans p8) e3.loc
   refine byC fun hC11 => ?_
   obtain ⟨L', o8, hL', _, _, ho8, hN8, m8, hm8, _⟩ := X8.get (i := 0) (x := .ns (nmz fd) V2) rfl trivial
   refine hC11 ?_
   rw [hσ8] at hL'; cases hL'
   show wpAny _ _ (do bindName env m .none; unbindBehindTheSuite env m hpos) _ _ s8
   refine wpAny_nameGoes (e3.kindOf (hnm m rfl)) (hm8.ns ho8) (by rw [e3.kind]; rfl) fun h9 m9 hn9 hs9 => ?_
   refine byC fun hC12 => ?_
   obtain ⟨o9, es9, ep9, ho9, hd9, hs91, hs92⟩ := hn9
   refine hC12 ?_
   have X9 := X8.upd (s' := { s8 with heap := h9, toks := s8.toks + 1 }) (i := 0) (a := env.locals) (o := o9) (y := .ns (nmz fd) (List.replicate fd.scope.names.length none)) rfl trivial hσ8 (fun b o hb eo => (hs9.2 b hb).trans eo) ho9 rfl rfl ⟨ok.nd, m9, ⟨es9, ep9, hd9, hs91, hs92⟩, fun i z a e1 e2 => by
    rw [List.getElem?_replicate] at e2
    split at e2 <;> cases e2⟩ trivial
   exact hQ _ _ (fin hfr hLo hex7 hL7 X9 rv hpost)
end Mine
end
section
open PySem PySem.Calls PyProof.Rows PySem.W PySem.SeqAt PyProof.V PySem.NumText
set_option maxRecDepth 100000
namespace Mine
structure xm (p : Str) : Prop where
 seen : (numSeenOf p).length <= 640
 rep : (reprText p).length <= sizeLine
 bad : (int_private% "readNumeral") 0 10 (numSeenOf p) = int_private% "Numeral.invalid"
structure nj (x : Str) : Prop where
 size : x.length <= 1000000
 code : Txt.slice x none (some 3) = "229"
 left : 0 <= Txt.find x "("
 lfit : Txt.find x "(" < 2 ^ 60
 right : 0 <= Txt.find3 x ")" (Txt.find x "(" + 1)
 rfit : Txt.find3 x ")" (Txt.find x "(" + 1) < 2 ^ 60
 mark : ∃ c, xr x (Txt.find x "(" + 1) = some c /\ xr x (Txt.find3 x ")" (Txt.find x "(" + 1) - 1) = some c ∧
  ∃ a b d p e, Txt.split (Txt.slice x (some (Txt.find x "(" + 1)) (some (Txt.find3 x ")" (Txt.find x "(" + 1)))) ⟨#[c]⟩ = [a, b, d, p, e] /\ xm p
section
variable {C : Cx} {A : Around} {G : Gd} {ae : a9} {st : List ac}
theorem zo {x p : Str} {np pos : Pos} {arg : Expr} {N : List Str} {Q : AV -> List ac -> Prop} (i : Nat) (gi : ag C x (.type "int")) (hk : ae.scope.names[i]? = some (x, .globalImplicit)) (hh : A.handled = none) (hL : ae.L = 0)
  (he : ∀ env, starEach [arg] env = [(false, eval arg env)]) (hE : kg C G ⟨.type "ValueError", none⟩ N) (hp : xm p) (h : wE C A G ae st arg fun a st1 => a = .d (.str p) /\ ∃ V st', st1 = .ns N V :: st') :
  wEK C A G ae st (.Call (.Name x np) [arg] [] pos) Q := fun κ σ s e X =>
 lg (wpAny_mono (ao i (Q := fun a st1 => a = .glob (.type "int") /\ st1 = st) gi hk ⟨rfl, rfl⟩ κ σ s e X) (fun vf s1 z => z.go fun κ1 σ1 fa st1 k1 p1 X1 r1 q1 => by
  refine byC fun hC1 => ?_
  obtain ⟨rfl, rfl⟩ := q1
  cases (r1 : vf = _)
  refine hC1 ?_
  refine lx (by rw [he]; rfl) rfl (wpAny_mono (ad (Q := fun as st2 => as = [.d (.str p)] /\ ∃ V st', st2 = .ns N V :: st') (fun env => by rw [he]; rfl) (W.mono h fun a st2 q => ak ⟨by rw [q.1], q.2⟩) κ1 σ1 s1 (e.mono p1) X1) (fun vs s2 z => z.go fun κ2 σ2 as st2 k2' p2 X2 r2 q2 => wpAny_evalAll_nil ?_) fun _ _ z => z)
  refine byC fun hC2 => ?_
  obtain ⟨rfl, V, st', rfl⟩ := q2
  obtain ⟨v, rfl, t, rfl⟩ := r2.one
  refine hC2 ?_
  refine ⟨.inr (.inl ⟨_, rfl⟩), ug hh hp.seen hp.rep hp.bad fun h' tk ex hm => ?_⟩
  exact hE κ2 σ2 st' V s2 ex _ X2 (by have := (e.mono (p1.trans p2)).loc; rw [hL] at this; exact this) (ua.ofNew hm)) fun _ _ z => z)
end
set_option maxHeartbeats 4000000 in
theorem Jm {C : Cx} {A : Around} {G : Gd} {k : Nat} (hA : AOk A k) (cd : Value) (ql : Str) (gl : ag C "len" (.builtin "len")) (gi : ag C "int" (.type "int")) (x : Str) (h : nj x) (host port0 : D) (hE : kg C G ⟨.type "ValueError", none⟩ uv) :
  gy C A G ⟨aq PySem.Challenge.pw_wb0027_01 10, 0, [], cd, ql⟩ [i1 10 [some (.d (.str x)), some (.d (.tuple [host, port0])), none, none, none, none, none, none, none, none, none]] (cq PySem.Challenge.pw_wb0027_01 10) (fun _ _ => False) := by
 refine byC fun hC1 => ?_
 obtain ⟨hsz, hcode, hl, hlf, hr, hrf, c, hc1, hc2, a, b, d, p, e, hs, hbad⟩ := h
 refine hC1 ?_
 generalize hL : Txt.find x "(" = L at *
 generalize hR : Txt.find3 x ")" (L + 1) = Rr at *
 have hS := sizeLine_eq
 refine ay (cm ?_)
 refine a8 rfl ?_
 refine ie (aa 0 rfl rfl rfl rfl (c5 (dc (ai ⟨3, rfl, c5 ?_⟩))))
 refine j6 (by lia) ?_
 refine az (v4 (cn ?_))
 rw [hcode]
 rw [show ((Str.ofString "229" != Str.ofString "229") = false) by simp]
 refine am ?_
 refine (?_ : gy _ _ _ _ _ _ _)
 refine ay (al (fun _ => rfl) ?_)
 refine jo F.plainAttrs_str F.slot_str_find F.type_str_find ?_ ?_ ?_ ?_
 ·exact fun _ _ => rfl
 ·exact fun _ => rfl
 ·rfl
 refine aa 0 rfl rfl rfl rfl ⟨dg, ?_⟩
 refine az (zy ?_)
 rw [hL]
 refine af 2 rfl rfl rfl ?_
 refine (?_ : gy _ _ _ _ _ _ _)
 refine ay (cm ?_)
 refine a8 rfl (aa 2 rfl rfl rfl rfl (ai (g7 (cn ?_))))
 rw [show decide (L < 0) = false from decide_eq_false (by lia)]
 refine am ?_
 refine (?_ : gy _ _ _ _ _ _ _)
 refine ay (al (fun _ => rfl) ?_)
 refine Jb F.plainAttrs_str F.slot_str_find F.type_str_find ?_ ?_ ?_ ?_ ?_
 ·exact fun _ _ => rfl
 ·exact fun _ => rfl
 ·exact fun _ => rfl
 ·rfl
 refine aa 0 rfl rfl rfl rfl ⟨dg, ?_⟩
 refine az (aj (aa 2 rfl rfl rfl rfl (ai (cu ?_))))
 refine wb ?_
 rw [hR]
 refine af 3 rfl rfl rfl ?_
 refine (?_ : gy _ _ _ _ _ _ _)
 refine ay (cm ?_)
 refine a8 rfl (aa 3 rfl rfl rfl rfl (ai (g7 (cn ?_))))
 rw [show decide (Rr < 0) = false from decide_eq_false (by lia)]
 refine am ?_
 refine (?_ : gy _ _ _ _ _ _ _)
 refine ay (cm ?_)
 refine a8 rfl ?_
 refine bb (fun _ _ => ⟨_, rfl⟩) (aa 0 rfl rfl rfl rfl (aj (aa 2 rfl rfl rfl rfl (ai (cu ?_)))))
 refine fu (by lia) (by lia) hc1 ?_
 refine bb (fun _ _ => ⟨_, rfl⟩) (aa 0 rfl rfl rfl rfl (aj (aa 3 rfl rfl rfl rfl (ai (nb ?_)))))
 refine fu (by lia) (by lia) hc2 ?_
 refine v4 (cn ?_)
 rw [show (((⟨#[c]⟩ : Str) != (⟨#[c]⟩ : Str)) = false) by simp]
 refine am ?_
 refine (?_ : gy _ _ _ _ _ _ _)
 refine ay (al (fun _ => rfl) ?_)
 refine jo F.plainAttrs_str F.slot_str_split F.type_str_split ?_ ?_ ?_ ?_
 ·exact fun _ _ => rfl
 ·exact fun _ => rfl
 ·rfl
 refine ie (aa 0 rfl rfl rfl rfl ?_)
 refine dc (aj (aa 2 rfl rfl rfl rfl (ai (cu ⟨L + 1, rfl, ?_⟩))))
 refine dc (aa 3 rfl rfl rfl rfl ⟨Rr, rfl, c5 ?_⟩)
 refine j6 (by lia) ⟨dg, ?_⟩
 refine bb (fun _ _ => ⟨_, rfl⟩) (aa 0 rfl rfl rfl rfl (aj (aa 2 rfl rfl rfl rfl (ai (cu ?_)))))
 refine fu (by lia) (by lia) hc1 ?_
 refine rj rfl (by have := Txt.slice_le x (some (L + 1)) (some Rr); lia) ?_
 rw [hs]
 refine af 4 rfl rfl rfl ?_
 refine (?_ : gy _ _ _ _ _ _ _)
 refine ay (cm ?_)
 refine a8 rfl (dq (fun _ => rfl) (ao 9 gl rfl (aa 4 rfl rfl rfl rfl (d7 (sz (l := [.d (.str a), .d (.str b), .d (.str d), .d (.str p), .d (.str e)]) rfl (Nat.le_of_ble_eq_true rfl) ?_)))))
 refine ai (tw (cn ?_))
 refine am ?_
 refine (?_ : gy _ _ _ _ _ _ _)
 refine ay (al (fun _ => rfl) ?_)
 refine bb (fun _ _ => ⟨_, rfl⟩) (aa 1 rfl rfl rfl rfl (ai ?_))
 refine ii (x := host) (by decide) (by decide) rfl ?_
 refine af 5 rfl rfl rfl ?_
 refine (?_ : gy _ _ _ _ _ _ _)
 refine e9 (ui (fun _ => rfl) ?_)
 refine zo (p := p) (N := uv) 10 gi rfl hA.handled rfl (fun _ => rfl) hE hbad ?_
 refine bb (fun _ _ => ⟨_, rfl⟩) (aa 4 rfl rfl rfl rfl (ai ?_))
 refine cj (l := [.d (.str a), .d (.str b), .d (.str d), .d (.str p), .d (.str e)]) (x := .d (.str p)) rfl (by decide) (by decide) rfl ?_
 exact ⟨rfl, _, _, rfl⟩
structure Er (C : Cx) (f : Value) (R1 R2 : Addr) : Prop where
 glob : ag C "parse229" f
 reply : ∀ x, jx x -> ∀ peer, im C 2 f [.d (.str x), .d peer] [] [] ⟨.ref R1, some x⟩
 proto : ∀ x, d4 x -> ∀ peer, im C 2 f [.d (.str x), .d peer] [] [] ⟨.ref R2, some x⟩
 ve : ∀ x, nj x -> ∀ host port0, im C 2 f [.d (.str x), .d (.tuple [host, port0])] [] [] ⟨.type "ValueError", none⟩
theorem zm {C : Cx} {f : Value} {fd : FuncData} {R1 R2 : Addr} (hl : ci C) (B : cg C 10 f fd) (gp : ag C "parse229" f) (O1 : ta C R1) (g1 : ag C "error_reply" (.ref R1)) (O2 : ta C R2) (g2 : ag C "error_proto" (.ref R2)) (gl : ag C "len" (.builtin "len")) (gi : ag C "int" (.type "int")) : Er C f R1 R2 := by
 have hsc := B.scope
 refine ⟨gp, fun x h peer => ?_, fun x h peer => ?_, fun x h host port0 => ?_⟩
 ·refine mo (bs := [(("resp" : Str), .d (.str x)), ("peer", .d peer)]) B.at_ hl (by rw [hsc]; exact zj) (by rw [hsc]; decide +kernel) (x9 (lv B)) ?_
  intro A G A' hA
  rw [hsc]
  simp only [bu]
  refine af 0 rfl rfl rfl ?_
  refine af 1 rfl rfl rfl ?_
  intro E hE
  exact WK.of (Az (G := G.at E) hA _ _ O1 g1 x h peer hE)
 ·refine mo (bs := [(("resp" : Str), .d (.str x)), ("peer", .d peer)]) B.at_ hl (by rw [hsc]; exact zj) (by rw [hsc]; decide +kernel) (x9 (lv B)) ?_
  intro A G A' hA
  rw [hsc]
  simp only [bu]
  refine af 0 rfl rfl rfl ?_
  refine af 1 rfl rfl rfl ?_
  intro E hE
  exact WK.of (Ar (G := G.at E) hA _ _ O2 g2 gl x h peer hE)
 ·refine mo (bs := [(("resp" : Str), .d (.str x)), ("peer", .d (.tuple [host, port0]))]) B.at_ hl (by rw [hsc]; exact zj) (by rw [hsc]; decide +kernel) (x9 (lv B)) ?_
  intro A G A' hA
  rw [hsc]
  simp only [bu]
  refine af 0 rfl rfl rfl ?_
  refine af 1 rfl rfl rfl ?_
  intro E hE
  exact Jm (G := G.at E) hA _ _ gl gi x h host port0 hE
end Mine
end
section
set_option maxRecDepth 100000
set_option maxHeartbeats 1000000
open PySem
open Sem (wp)
namespace Mine
noncomputable def z4 (C : Cx) (R : Addr) (bm : List Value) : Prop := bm.contains (.type "BaseException") = true ∧
 ∀ h : Heap, (∀ b o, C.P0 b = some o -> h.get? b = some o) -> ∃ nm q N bs hdct sn sub ab col dd k0 k1 k2 k3 k5 newId, h.get? R = some (excClassObj nm q R N bs bm hdct sn sub ab col dd k0 k1 k2 k3 k5 newId)
theorem sp {C : Cx} {R R' : Addr} {bm bm' : List Value} {m : Option Str} (h1 : z4 C R bm) (h2 : z4 C R' bm') : jz C ⟨.ref R, m⟩ (.ref R') ((Value.ref R :: bm).contains (.ref R')) := by
 intro A E s e oe ws Q hp0 he hcls _ hq
 obtain ⟨hb, k⟩ := h1
 obtain ⟨hb', k'⟩ := h2
 obtain ⟨h, g, d, t, os⟩ := s
 obtain ⟨_, _, _, _, _, _, _, _, _, _, _, _, _, _, _, _, hC⟩ := k h hp0
 obtain ⟨_, _, _, _, _, _, _, _, _, _, _, _, _, _, _, _, hC'⟩ := k' h hp0
 exact L8 hC hC' he hcls hb' hq
theorem tj {C : Cx} {X : String} {R' : Addr} {bm' : List Value} {m : Option Str} (h2 : z4 C R' bm') (hsub : isSubtype (.type X) (.ref R') = pure false) : jz C ⟨.type X, m⟩ (.ref R') false := by
 intro A E s e oe ws Q hp0 he hcls _ hq
 obtain ⟨hb', k'⟩ := h2
 obtain ⟨h, g, d, t, os⟩ := s
 obtain ⟨_, _, _, _, _, _, _, _, _, _, _, _, _, _, _, _, hC'⟩ := k' h hp0
 exact Bd hC' he hcls hb' hsub hq
theorem Jr {C : Cx} {X T : String} {b : Bool} {m : Option Str} (hexc : isSubtype (.type T) (.type "BaseException") = pure true) (hnt : isSubtype (.type ((Manifest.find? T).elim "type" fun x => x.metatype)) (.type "tuple") = pure false)
  (hsub : isSubtype (.type X) (.type T) = pure b) : jz C ⟨.type X, m⟩ (.type T) b := by
 intro A E s e oe ws Q hp0 he hcls _ hq
 exact wpAny_excMatches_type ⟨oe, he, hcls⟩ hexc hnt hsub hq
theorem G9 : isSubtype (.type "ValueError") (.type "ValueError") = pure true := by rw [isSubtype_type]; kernel_rfl
theorem Ae {C : Cx} {m : Option Str} : jz C ⟨.type "ValueError", m⟩ (.type "ValueError") true := Jr PySem.F.isExc_ValueError PySem.F.notTuple_ValueError G9
theorem vg (a : Addr) : isSubtype (.type "ValueError") (.ref a) = pure false := by rw [isSubtype_type]; kernel_rfl
end Mine
end
section
set_option maxRecDepth 100000
set_option maxHeartbeats 1000000
open PySem
open Sem (wp)
open Builtin Builtin.Str
namespace Mine
inductive i8 (h : Heap) (n : Str) (bmB : List Value) : List Value -> Prop
 | base : i8 h n bmB bmB
 | own {a : Addr} {c0 : Value} {dd : Option Addr} {cd : ClassData} {sl : Array (Option Value)} {mA : Str -> Option Value} {tl : List Value} :
   h.get? a = some { cls := c0, dict := dd, data := .cls cd, slots := sl } -> h.Ns cd.ns mA -> mA n = none -> i8 h n bmB tl -> i8 h n bmB (.ref a :: tl)
theorem i8.has {h : Heap} {n : Str} {bmB tl : List Value} (T : i8 h n bmB tl) {X : String} (hb : bmB.contains (.type X) = true) : tl.contains (.type X) = true := by
 induction T with
 | base => exact hb
 | own _ _ _ _ ih => rw [List.contains_cons, ih, Bool.or_true]
noncomputable abbrev gm : List Value := [.type "Exception", .type "BaseException", .type "object"]
section
variable {M : Model} {A : Around} {E : Value -> Shared -> Prop} {h : Heap} {g : Array GenState} {d : Drawn} {t : Nat} {os : OsState}
theorem Kk {bmB tl : List Value} {n : Str} {y : Option Value} {Q : Option Value -> Shared -> Prop} (T : i8 h n bmB tl) (hrest : lookupAlong bmB n = pure y) (hq : Q y ⟨h, g, d, t, os⟩) : wpAny M A (lookupAlong tl n) Q E ⟨h, g, d, t, os⟩ := by
 induction T with
 | base => rw [hrest]; exact wpAny_pure hq
 | own hA hN hni _ ih =>
  rw [lookupAlong_cons]
  refine wpAny_bind (wpAny_classOwn_cls hA hN ?_)
  rw [hni]
  exact ih
theorem Hf : mroOf (.type "Exception") = pure gm := by kernel_rfl
theorem Lv : lookupAlong gm "__str__" = pure (some (.builtin "BaseException.__str__")) := by
 have h := F.excStr_Exception.str.lookup
 rw [typeLookup_eq, Hf] at h
 exact h
variable {nm q : Str} {C N : Addr} {bs bm bmB : List Value} {hdct : Bool} {sn : List Str} {sub : List Value} {ab : Bool} {col : Option Bool} {dd : Option Addr} {k0 k1 k2 k3 k5 : Option Value} {newId : String} {e t0 : Addr} {o : Obj}
theorem Gg {n : Str} {y : Option Value} {Q : Option Value -> Shared -> Prop} (hx : h.get? e = some o) (hc : o.cls = .ref C) (hC : h.get? C = some (excClassObj nm q C N bs bm hdct sn sub ab col dd k0 k1 k2 k3 k5 newId)) (T : i8 h n bmB (.ref C :: bm))
  (hrest : lookupAlong bmB n = pure y) (hq : Q y ⟨h, g, d, t, os⟩) : wpAny M A (specialOf (.ref e) n) Q E ⟨h, g, d, t, os⟩ := by
 unfold specialOf
 refine wpAny_bind ?_
 repeat (first | (with_reducible refine wpAny_loadPart_at hx ?_; rw [hc]) | wp_step)
 rw [typeLookup_eq]
 exact wpAny_bind (wpAny_mroOf_exc hC (Kk T hrest hq))
end
section
variable {prog : Program} {w : World} {A : Around} {E : Value -> Shared -> Prop} {h : Heap} {g : Array GenState} {d : Drawn} {tk : Nat} {os : OsState}
variable {nm q : Str} {C N : Addr} {bs bm bmB : List Value} {hdct : Bool} {sn : List Str} {sub : List Value} {ab : Bool} {col : Option Bool} {dd : Option Addr} {k0 k1 k2 k3 k5 : Option Value} {newId : String} {e t0 : Addr} {o : Obj} {vs : Array Value}
theorem A9 {M : Model} {Q : Unit -> Shared -> Prop} (hC : h.get? C = some (excClassObj nm q C N bs bm hdct sn sub ab col dd k0 k1 k2 k3 k5 newId)) (T : i8 h "__str__" gm (.ref C :: bm))
  (hx : h.get? e = some o) (hc : o.cls = .ref C) (hq : Q () ⟨h, g, d, tk, os⟩) : wpAny M A (checkBuiltinCall "BaseException.__str__" ⟨[.ref e], []⟩) Q E ⟨h, g, d, tk, os⟩ := by
 have hk : builtinKind "BaseException.__str__" = some .slot := by decide +kernel
 have hsplit : splitId "BaseException.__str__" = some ("BaseException", "__str__") := by decide +kernel
 have hcB : (Value.ref C :: bm).contains (.type "BaseException") = true := T.has (by decide)
 have ha := F.args_bexc_str (.ref e)
 simp only [checkBuiltinCall, hk, hsplit]
 refine wpAny_bind ?_
 ·unfold isInstance
  repeat (first | (with_reducible refine wpAny_loadPart_at hx ?_; rw [hc]) | (with_reducible refine wpAny_isSubtype_exc hC ?_; rw [hcB]) | wp_step)
  exact hq
theorem Mo {M : Model} {items : List Value} {Q : Value × List Value -> Shared -> Prop} (hx : h.get? e = some o) (hd : o.data = .fields vs) (h0 : vs[0]? = some (.ref t0)) (ht : h.TupAt t0 items) (hq : Q (.ref t0, items) ⟨h, g, d, tk, os⟩) :
  wpAny M A (Builtin.BaseException.bexcArgs (.ref e)) Q E ⟨h, g, d, tk, os⟩ := by
 refine byC fun hC1 => ?_
 obtain ⟨ot, k, hto, _, htd⟩ := ht
 refine hC1 ?_
 unfold Builtin.BaseException.bexcArgs
 refine wpAny_bind (wpAny_field hx hd h0 (wpAny_bind (wpAny_seqItems hto htd ?_)))
 have : items.toArray.toList = items := by simp
 show wpAny M A (pure (Value.ref t0, items.toArray.toList)) Q E _
 rw [this]; exact wpAny_pure hq
theorem Cv {m : Str} {mt : Tok} {Q : Value -> Shared -> Prop} (hC : h.get? C = some (excClassObj nm q C N bs bm hdct sn sub ab col dd k0 k1 k2 k3 k5 newId)) (T : i8 h "__str__" gm (.ref C :: bm))
  (hx : h.get? e = some o) (hc : o.cls = .ref C) (hd : o.data = .fields vs) (h0 : vs[0]? = some (.ref t0)) (ht : h.TupAt t0 [.str m mt]) (hq : Q (.str m mt) ⟨h, g, d, tk, os⟩) :
  wpAny (model prog w) A (call (.builtin "BaseException.__str__") [.ref e]) Q E ⟨h, g, d, tk, os⟩ := by
 refine wpAny_call (codeAny_call_builtin F.excStr_Exception.str.plain F.entry_bexc_str (A9 hC T hx hc ?_))
 show wpAny (model prog w) A.in1 (Builtin.«BaseException.__str__» ⟨[.ref e], []⟩) _ _ _
 unfold Builtin.«BaseException.__str__»
 repeat (first | with_reducible refine Mo hx hd h0 ht ?_ | wp_step)
 exact hq
theorem Ip (hu : A.units < cLine) {m : Str} {mt : Tok} {Q : Value -> Shared -> Prop} (hC : h.get? C = some (excClassObj nm q C N bs bm hdct sn sub ab col dd k0 k1 k2 k3 k5 newId)) (T : i8 h "__str__" gm (.ref C :: bm))
  (hx : h.get? e = some o) (hc : o.cls = .ref C) (hd : o.data = .fields vs) (h0 : vs[0]? = some (.ref t0)) (ht : h.TupAt t0 [.str m mt]) (hq : Q (.str m mt) ⟨h, g, d, tk, os⟩) :
  wpAny (model prog w) A (Builtin.Str.strOf (.ref e)) Q E ⟨h, g, d, tk, os⟩ := by
 unfold Builtin.Str.strOf
 have key : ∀ {Q : Option Value -> Shared -> Prop}, Q (some (.str m mt)) ⟨h, g, d, tk, os⟩ -> wpAny (model prog w) A (callSpecial? (.ref e) "__str__") Q E ⟨h, g, d, tk, os⟩ := fun {Q} hq => by
  simp only [callSpecial?]
  refine wpAny_bind (Gg hx hc hC T Lv ?_)
  simp only [F.excStr_Exception.str.bind]
  exact wpAny_holding (wpAny_bind (wpAny_pure (wpAny_bind (Cv hC T hx hc hd h0 ht (wpAny_pure hq)))))
 repeat (first | with_reducible refine wpAny_cRoomFor hu ?_ | with_reducible refine key ?_ | wp_step)
 exact hq
theorem O6 (hu : A.units + 2 < cLine) {m : Str} {mt : Tok} {Q : Value -> Shared -> Prop} (hC : h.get? C = some (excClassObj nm q C N bs bm hdct sn sub ab col dd k0 k1 k2 k3 k5 newId)) (T : i8 h "__str__" gm (.ref C :: bm))
  (hx : h.get? e = some o) (hc : o.cls = .ref C) (hd : o.data = .fields vs) (h0 : vs[0]? = some (.ref t0)) (ht : h.TupAt t0 [.str m mt]) (hq : Q (.str m mt) ⟨h, g, d, tk, os⟩) :
  wpAny (model prog w) A (call (.type "str") [.ref e]) Q E ⟨h, g, d, tk, os⟩ :=
 callType_new F.called_str (by decide) (F.typeCall_str_1 _) (F.newCall_str_1 _) (fun obj => F.args_object_init_2 obj _) F.entry_str_new
  (meets_str_new (S := fun A' R s' => A'.units + 1 < cLine /\ s' = ⟨h, g, d, tk, os⟩ /\ R (.ok (.ret (.str m mt))) s')
   fun _ _ A' _ s' hq => by obtain ⟨h1, rfl, h3⟩ := hq; exact Ip (A := A'.in1) h1 hC T hx hc hd h0 ht h3)
  ⟨(show A.units + 1 + 1 < cLine from hu), rfl, typeIs_str _ _ _, hq⟩
end
end Mine
end
section
set_option maxRecDepth 100000
set_option maxHeartbeats 1000000
open PySem
open Sem (wp)
namespace Mine
noncomputable def xi (C : Cx) (cls : Value) : Prop := ∀ (A : Around) (E : Value -> Shared -> Prop) (s : Shared) (e t : Addr) (oe ot : Obj) (ws : Array Value) (n : Nat) (m : Str) (mt : Tok) (Q : Value -> Shared -> Prop), (∀ b o, C.P0 b = some o -> s.heap.get? b = some o) -> A.units + 2 < cLine →
 s.heap.get? e = some oe -> oe.cls = cls -> oe.data = .fields ws -> ws[0]? = some (.ref t) -> s.heap.get? t = some ot -> ot.cls = .type "tuple" -> ot.data = .seq [.str m mt].toArray n -> Q (.str m mt) s -> wpAny (model C.prog C.w) A (call (.type "str") [.ref e]) Q E s
theorem Ph {C : Cx} {X n : String} (FX : ExcStrFacts X n) : xi C (.type X) := fun A E s e t oe ot ws n m mt Q _ hu h1 h2 h3 h4 h5 h6 h7 hq =>
 P.str_of_exc_one FX hu ⟨oe, ws, h1, h2, h3, h4⟩ ⟨ot, n, h5, h6, h7⟩ hq
noncomputable def Kw (C : Cx) (R : Addr) : Prop := ∀ h : Heap, (∀ b o, C.P0 b = some o -> h.get? b = some o) -> ∃ nm q N bs bm hdct sn sub ab col dd k0 k1 k2 k3 k5 newId, h.get? R = some (excClassObj nm q R N bs bm hdct sn sub ab col dd k0 k1 k2 k3 k5 newId) /\ i8 h "__str__" gm (.ref R :: bm)
theorem Fg {C : Cx} {R : Addr} (O : Kw C R) : xi C (.ref R) := fun A E s e t oe ot ws n m mt Q hp0 hu h1 h2 h3 h4 h5 h6 h7 hq => by
 refine byC fun hC1 => ?_
 obtain ⟨h, g, d, tk, os⟩ := s
 obtain ⟨_, _, _, _, _, _, _, _, _, _, _, _, _, _, _, _, _, hC, T⟩ := O h hp0
 refine hC1 ?_
 exact O6 hu hC T h1 h2 h3 h4 ⟨ot, n, h5, h6, h7⟩ hq
theorem Al {C : Cx} {A : Around} {G : Gd} {st : List ac} {Q : AV -> List ac -> Prop} {x : fi} {ex : Addr} {m : Str} (h : Mh G.φ x ex) (hm : x.msg = some m) (S : xi C x.cls) (hu : A.units + 100 <= 9100) (q : Q (.d (.str m)) st) :
  wBi C A G st (.type "str") [.glob (.ref ex)] Q := fun κ σ s vs X r => by
 refine byC fun hC1 => ?_
 obtain ⟨v, rfl, e⟩ := r.one
 cases (e : v = _)
 obtain ⟨oe, ws, a0, h1, h2, h3, h4, h5⟩ := h
 rw [hm] at h5
 obtain ⟨t, ot, mt, n, rfl, h6, h7, h8⟩ := h5
 refine hC1 ?_
 exact S A G.E s ex t oe ot ws n m mt _ X.p0 (by have h9 : (cLine : Nat) > 9064 := (by decide); lia) (X.phi _ _ h1) h2 h3 h4 (X.phi _ _ h6) h7 h8 (PA.str X q)
end Mine
end
section
open PySem PySem.Calls PyProof.Rows PySem.W PySem.SeqAt PyProof.V
set_option maxRecDepth 100000
namespace Mine
noncomputable def bx (m : Str) (p : Int) : Str := (rep m 3 ++ jr p) ++ m
noncomputable def spoiled (m : Str) (p : Int) : List Str :=
 [("228 (" ++ bx m p) ++ ")", ("129 (" ++ bx m p) ++ ")", "229 272)", ("229 (" ++ bx m p) ++ "]", ("229 (" ++ bx m p) ++ "=)",
  ("229 (" ++ Txt.slice (bx m p) (some 1) none) ++ ")", (("229 (" ++ m) ++ bx m p) ++ ")", ("229 (" ++ rep m 4) ++ ")", ((("229 (" ++ rep m 3) ++ "x") ++ m) ++ ")"]
theorem Am {m : Str} (hm : m.length = 1) (n : Int) (h : n.natAbs <= 1000) : (rep m n).length <= 1000 := by
 obtain ⟨cs⟩ := m
 obtain ⟨c, rfl⟩ : ∃ c, cs = #[c] := by
  have h1 : cs.size = 1 := hm
  exact Array.size_eq_one_iff.mp h1
 exact E6 c n h
noncomputable abbrev Q9 (m : Str) (p k : Int) : List ac := [i1 14 [some (.d (.str m)), some (.d (.int p)), some (.d (.int k)), some (.d (.str (bx m p))), some (.obj 1), none, none, none, none, none, none], .list (((spoiled m p).map PyData.str).map .d)]
set_option maxHeartbeats 4000000 in
theorem Ad {C : Cx} {A : Around} {G : Gd} (cd : Value) (ql : Str) (gs : ag C "str" (.type "str")) (m : Str) (hm : m.length = 1) (p : Int) (hp : p.natAbs <= 2 ^ 60) (hn : (jr p).length <= 1000) (k : Int) :
  wSs C A G ⟨aq PySem.Challenge.pw_wb0027_01 14, 0, [], cd, ql⟩ [i1 14 [some (.d (.str m)), some (.d (.int p)), some (.d (.int k)), none, none, none, none, none, none, none, none]] ((cq PySem.Challenge.pw_wb0027_01 14).take 4) (fun fl st' => fl = .next /\ st' = Q9 m p k) := by
 have hS := sizeLine_eq
 have l3 := Am hm 3 (by decide)
 have l4 := Am hm 4 (by decide)
 have la := fun a b : Str => PySem.Str.length_append a b
 have lB : (bx m p).length <= 2001 := by unfold bx; rw [la, la]; lia
 have lC : (Txt.slice (bx m p) (some 1) none).length <= 2001 := Nat.le_trans (Txt.slice_le ..) lB
 have t1 : (Str.ofString "228 (").length = 5 := by decide +kernel
 have t2 : (Str.ofString "129 (").length = 5 := by decide +kernel
 have t3 : (Str.ofString "229 (").length = 5 := by decide +kernel
 have t4 : (Str.ofString ")").length = 1 := by decide +kernel
 have t5 : (Str.ofString "]").length = 1 := by decide +kernel
 have t6 : (Str.ofString "=)").length = 2 := by decide +kernel
 have t7 : (Str.ofString "x").length = 1 := by decide +kernel
 refine ah (al (fun _ => rfl) ?_)
 refine aj (aj (aj (aa 0 rfl rfl rfl rfl (ai ?_))))
 refine vi (by decide) (by decide) (by lia) (by lia) ?_
 refine dq (fun _ => rfl) (ao 6 gs rfl (aa 1 rfl rfl rfl rfl (db (Do (ow hp) ?_))))
 refine ck (by show (rep m 3).length + (jr p).length <= _; lia) ?_
 refine aa 0 rfl rfl rfl rfl ?_
 refine ck (by show (rep m 3 ++ jr p).length + m.length <= _; rw [la]; lia) ?_
 refine af 3 rfl rfl rfl ?_
 refine (?_ : wSs _ _ _ _ _ _ _)
 generalize hB : (⟨(List.replicate (3 : Int).toNat m.cps).foldl (· ++ ·) #[]⟩ ++ Str.ofString (toString p) ++ m : Str) = B
 have hB' : B = bx m p := hB.symm
 subst hB'
 clear hB
 refine ah (al (fun _ => rfl) ?_)
 refine qh ?_
 refine ad (fun _ => rfl) (aj (aj (az (aa 3 rfl rfl rfl rfl (ck (by lia) (az (ck (by rw [la]; lia) ?_)))))))
 refine ad (fun _ => rfl) (aj (aj (az (aa 3 rfl rfl rfl rfl (ck (by lia) (az (ck (by rw [la]; lia) ?_)))))))
 refine ad (fun _ => rfl) (az ?_)
 refine ad (fun _ => rfl) (aj (aj (az (aa 3 rfl rfl rfl rfl (ck (by lia) (az (ck (by rw [la]; lia) ?_)))))))
 refine ad (fun _ => rfl) (aj (aj (az (aa 3 rfl rfl rfl rfl (ck (by lia) (az (ck (by rw [la]; lia) ?_)))))))
 refine ak ⟨by rw [sizeLine_eq]; exact Nat.le_of_ble_eq_true rfl, ?_⟩
 refine af 4 rfl rfl rfl ?_
 refine (?_ : wSs _ _ _ _ _ _ _)
 refine ah (lu (fun _ => rfl) ?_)
 refine jo F.plainAttrs_list F.slot_list_extend F.type_list_extend ?_ ?_ ?_ ?_
 ·exact fun _ _ => rfl
 ·exact fun _ => rfl
 ·rfl
 refine aa 4 rfl rfl rfl rfl ⟨f8 rfl, ?_⟩
 refine jv ?_
 refine ad (fun _ => rfl) (aj (aj (az (ie (aa 3 rfl rfl rfl rfl (dc (ai ⟨1, rfl, c5 (c5 ?_)⟩)))))))
 refine j6 (by lia) (ck (by lia) (az (ck (by rw [la]; lia) ?_)))
 refine ad (fun _ => rfl) (aj (aj (aj (az (aa 0 rfl rfl rfl rfl (ck (by lia) (aa 3 rfl rfl rfl rfl (ck (by rw [la]; lia) (az (ck (by rw [la, la]; lia) ?_))))))))))
 refine ak ⟨[.str _, .str _], rfl, by rw [sizeLine_eq]; exact Nat.le_of_ble_eq_true rfl, ?_⟩
 refine se (l := [.d (.str _), .d (.str _), .d (.str _), .d (.str _), .d (.str _)]) (m := [.str _, .str _]) rfl rfl (fun h => nomatch h) (Nat.le_of_ble_eq_true rfl) ?_
 refine (?_ : wSs _ _ _ _ _ _ _)
 refine ah (lu (fun _ => rfl) ?_)
 refine jo F.plainAttrs_list F.slot_list_extend F.type_list_extend ?_ ?_ ?_ ?_
 ·exact fun _ _ => rfl
 ·exact fun _ => rfl
 ·rfl
 refine aa 4 rfl rfl rfl rfl ⟨f8 rfl, ?_⟩
 refine jv ?_
 refine ad (fun _ => rfl) (aj (aj (az (aj (aa 0 rfl rfl rfl rfl (ai ?_))))))
 refine vi (by decide) (by decide) (by lia) (by lia) (ck (by show 5 + (rep m 4).length <= _; lia) (az (ck (by rw [la]; show 5 + (rep m 4).length + 1 <= _; lia) ?_)))
 refine ad (fun _ => rfl) (aj (aj (aj (aj (az (aj (aa 0 rfl rfl rfl rfl (ai ?_))))))))
 refine vi (by decide) (by decide) (by lia) (by lia) (ck (by show 5 + (rep m 3).length <= _; lia) (az (ck (by rw [la]; show 5 + (rep m 3).length + 1 <= _; lia) (aa 0 rfl rfl rfl rfl (ck (by rw [la, la]; show 5 + (rep m 3).length + 1 + m.length <= _; lia) (az (ck (by rw [la, la, la]; show 5 + (rep m 3).length + 1 + m.length + 1 <= _; lia) ?_)))))))
 refine ak ⟨[.str _, .str _], rfl, by rw [sizeLine_eq]; exact Nat.le_of_ble_eq_true rfl, ?_⟩
 refine se (l := [.d (.str _), .d (.str _), .d (.str _), .d (.str _), .d (.str _), .d (.str _), .d (.str _)]) (m := [.str _, .str _]) rfl rfl (fun h => nomatch h) (Nat.le_of_ble_eq_true rfl) ?_
 refine (?_ : wSs _ _ _ _ _ _ _)
 exact am ⟨rfl, rfl⟩
end Mine
end
section
open PySem PySem.Calls PyProof.Rows PySem.W PySem.SeqAt PyProof.V
set_option maxRecDepth 100000
namespace Mine
structure P8 (C : Cx) (R1 R2 : Addr) : Prop where
 g1 : ag C "error_reply" (.ref R1)
 g2 : ag C "error_proto" (.ref R2)
 gv : ag C "ValueError" (.type "ValueError")
 m11 : ∀ m, jz C ⟨.ref R1, m⟩ (.ref R1) true
 m21 : ∀ m, jz C ⟨.ref R2, m⟩ (.ref R1) false
 m22 : ∀ m, jz C ⟨.ref R2, m⟩ (.ref R2) true
 mv1 : ∀ m, jz C ⟨.type "ValueError", m⟩ (.ref R1) false
 mv2 : ∀ m, jz C ⟨.type "ValueError", m⟩ (.ref R2) false
 s1 : xi C (.ref R1)
 s2 : xi C (.ref R2)
structure Ic (m : Str) (p : Int) : Prop where
 r : ∀ k : Nat, k < 2 -> ∃ x, (spoiled m p)[k]? = some x /\ jx x
 pr : ∀ k : Nat, 2 <= k -> k < 7 -> ∃ x, (spoiled m p)[k]? = some x /\ d4 x
 ve : ∀ k : Nat, 7 <= k -> k < 9 -> ∃ x, (spoiled m p)[k]? = some x /\ nj x
theorem C4 : ew (aq PySem.Challenge.pw_wb0027_01 14) := ⟨rfl, by decide +kernel, by decide +kernel⟩
theorem O9 : ((cellsFrom 1 (aq PySem.Challenge.pw_wb0027_01 14).names []).map (·.1)).Nodup := by decide +kernel
theorem zg {C : Cx} {f : Value} {fd : FuncData} (B : cg C 14 f fd) (v u w : Value) : bindArgs fd ⟨[v, u, w], []⟩ = (pure [(("mark" : Str), v), ("port", u), ("kind", w)] : Sem (List (Str × Value))) := B.bind rfl
noncomputable abbrev iq : List Str := (aq PySem.Challenge.pw_wb0027_01 14).names.map (·.1)
noncomputable abbrev V14 (m : Str) (p k : Int) : List (Option AV) := [some (.d (.str m)), some (.d (.int p)), some (.d (.int k)), some (.d (.str (bx m p))), some (.obj 1), none, none, none, none, none, none]
noncomputable abbrev T14 (m : Str) (p : Int) : List ac := [.list (((spoiled m p).map PyData.str).map .d)]
theorem pc {C : Cx} {A : Around} {G : Gd} {ae : a9} {n : Nat} {envS envL : Env} {L : Addr} {pf : Value} {es : fi} (hae : ae.scope = aq PySem.Challenge.pw_wb0027_01 14) (hL0 : ae.L = 0) (hA : AOk A n) (T : Two C A G envS envL L) (gp : ag C "parse229" pf) (m : Str) (p : Int) (k : Nat) (x : Str) (hx : (spoiled m p)[k]? = some x)
  (hE : zq C G ae envS envL es iq (V14 m p k) (T14 m p)) (hr : im C n pf [.d (.str x), .d (.tuple [.str "peer", .int 21])] [] [] es) (e1 e2 : Pos) (p1 p2 p3 p4 p5 p6 p7 : Pos) :
  gy C A G ae (.ns iq (V14 m p k) :: T14 m p) [.Expr (.Call (.Name "parse229" p1) [.Subscript (.Name "spoiled" p2) (.Name "kind" p3) p4, .Tuple [.Constant (.str "peer") 0 p5, .Constant (.int 21) 0 p6] 0 p7] [] e1) e2] (fun _ _ => False) := by
 have hk9 : k < 2 ^ 60 := by
  have : k < (spoiled m p).length := by
   rcases Nat.lt_or_ge k (spoiled m p).length with h | h
   ·exact h
   ·rw [List.getElem?_eq_none h] at hx; cases hx
  have : (spoiled m p).length = 9 := rfl
  lia
 have h2 : ae.scope.names[2]? = some (("kind" : Str), NameKind.local) := by rw [hae]; rfl
 have h4 : ae.scope.names[4]? = some (("spoiled" : Str), NameKind.local) := by rw [hae]; rfl
 have hns : (.ns iq (V14 m p k) :: T14 m p : List ac)[ae.L]? = some (.ns iq (V14 m p k)) := by rw [hL0]; rfl
 refine e9 (wd (fun _ => rfl) ?_)
 refine li 7 [] (fun _ => rfl) (fun _ => rfl) (fun _ => rfl) gp (by rw [hae]; rfl) hA hL0 T hE ?_
 refine ad (fun _ => rfl) (bb (fun _ _ => ⟨_, rfl⟩) (aa 4 h4 hns rfl rfl (aa 2 h2 hns rfl rfl ?_)))
 refine cj (l := (((spoiled m p).map PyData.str).map .d)) (x := .d (.str x)) (.inl rfl) (by lia) (by lia) (by rw [Int.toNat_natCast, List.getElem?_map, List.getElem?_map, hx]; rfl) ?_
 refine ad (fun _ => rfl) (fx ?_)
 refine ad (fun _ => rfl) (az ?_)
 refine ad (fun _ => rfl) (ai ?_)
 refine ak ⟨[.str "peer", .int 21], rfl, by rw [sizeLine_eq]; exact Nat.le_of_ble_eq_true rfl, ?_⟩
 exact ak (ko ⟨hr, ng trivial trivial, (fun a ha => nomatch ha), [], rfl⟩)
theorem vn {C : Cx} {A : Around} {G : Gd} {ae : a9} {ex : Addr} {es : fi} {r : List ac} {Q : AV -> List ac -> Prop} (hae : ae.scope = aq PySem.Challenge.pw_wb0027_01 14) (hL0 : ae.L = 0) (hu : A.units + 100 <= 9100) (gs : ag C "str" (.type "str")) (hin : Mh G.φ es ex) (m : Str) (p : Int) (k : Nat) (x : Str) (hx : (spoiled m p)[k]? = some x) (hm : es.msg = some x) (S : xi C es.cls)
  (p1 p2 p3 p4 p5 p6 p7 : Pos) (q : Q (.d (.bool true)) (.ns iq ((V14 m p k).set 5 (some (.glob (.ref ex)))) :: T14 m p ++ r)) :
  wE C A G ae (.ns iq ((V14 m p k).set 5 (some (.glob (.ref ex)))) :: T14 m p ++ r) (.Compare (.Call (.Name "str" p1) [.Name "error" p2] [] p3) [.Eq] [.Subscript (.Name "spoiled" p4) (.Name "kind" p5) p6] p7) Q := by
 have hk9 : k < 2 ^ 60 := by
  have : k < (spoiled m p).length := by
   rcases Nat.lt_or_ge k (spoiled m p).length with h | h
   ·exact h
   ·rw [List.getElem?_eq_none h] at hx; cases hx
  have : (spoiled m p).length = 9 := rfl
  lia
 have h2 : ae.scope.names[2]? = some (("kind" : Str), NameKind.local) := by rw [hae]; rfl
 have h4 : ae.scope.names[4]? = some (("spoiled" : Str), NameKind.local) := by rw [hae]; rfl
 have h5 : ae.scope.names[5]? = some (("error" : Str), NameKind.local) := by rw [hae]; rfl
 have h6 : ae.scope.names[6]? = some (("str" : Str), NameKind.globalImplicit) := by rw [hae]; rfl
 have hns : (.ns iq ((V14 m p k).set 5 (some (.glob (.ref ex)))) :: T14 m p ++ r : List ac)[ae.L]? = some (.ns iq ((V14 m p k).set 5 (some (.glob (.ref ex))))) := by rw [hL0]; rfl
 refine lq rfl (dq (fun _ => rfl) (ao 6 gs h6 (aa 5 h5 hns rfl rfl (db (Al hin hm S hu ?_)))))
 refine bb (fun _ _ => ⟨_, rfl⟩) (aa 4 h4 hns rfl rfl (aa 2 h2 hns rfl rfl ?_))
 refine cj (l := (((spoiled m p).map PyData.str).map .d)) (x := .d (.str x)) (.inl rfl) (by lia) (by lia) (by rw [Int.toNat_natCast, List.getElem?_map, List.getElem?_map, hx]; rfl) ?_
 refine Nq ?_
 rw [show (x == x) = true from beq_self_eq_true x]
 exact q
set_option maxHeartbeats 4000000 in
theorem C1 {C : Cx} {f pf : Value} {fd : FuncData} {R1 R2 : Addr} (hl : ci C) (B : cg C 14 f fd) (gs : ag C "str" (.type "str")) (P : Er C pf R1 R2) (X : P8 C R1 R2) (m : Str) (hm : m.length = 1) (p : Int) (hp : p.natAbs <= 2 ^ 60) (hn : (jr p).length <= 1000) (H : Ic m p) (k : Nat) (hk : k < 9) :
  yh C 3 f [.d (.str m), .d (.int p), .d (.int k)] [] [] fun r => r = PyData.bool true := by
 have hbind := Nh (C := C) (a := .d (.str m)) (b := .d (.int p)) (c := .d (.int k)) (zg B)
 refine byC fun hC1 => ?_
 obtain ⟨name, qual, params, fbody, scope, globals, closure, defaults, kwdefaults, doc, pm, ann, code, ct, bi⟩ := fd
 obtain ⟨hat, hs, hpar, hd, hkw⟩ := B
 cases hs
 refine hC1 ?_
 have run : ∀ A G A', AOk A 2 -> bu C A' G (ul ⟨name, qual, params, fbody, aq PySem.Challenge.pw_wb0027_01 14, globals, closure, defaults, kwdefaults, doc, pm, ann, code, ct, bi⟩) [(("mark" : Str), .d (.str m)), ("port", .d (.int p)), ("kind", .d (.int k))] ([.ns iq (List.replicate (aq PySem.Challenge.pw_wb0027_01 14).names.length none)] ++ List.replicate (ar (aq PySem.Challenge.pw_wb0027_01 14).names) (.cell none))
   fun st0 => ∀ E, wSs C A (G.at E) (ul ⟨name, qual, params, fbody, aq PySem.Challenge.pw_wb0027_01 14, globals, closure, defaults, kwdefaults, doc, pm, ann, code, ct, bi⟩) st0 ((cq PySem.Challenge.pw_wb0027_01 14).take 4) (fun fl st' => fl = .next /\ st' = .ns iq (V14 m p k) :: T14 m p) := by
  intro A G A' hA
  simp only [bu]
  refine af 0 rfl rfl rfl ?_
  refine af 1 rfl rfl rfl ?_
  refine af 2 rfl rfl rfl ?_
  intro E
  exact Ad (G := G.at E) _ _ gs m hm p hp hn k
 by_cases h2 : k < 2
 ·refine byC fun hC2 => ?_
  obtain ⟨x, hx, hpx⟩ := H.r k h2
  refine hC2 ?_
  refine ux (pre := (cq PySem.Challenge.pw_wb0027_01 14).take 4) (V := V14 m p k) (stT := T14 m p) (x := ⟨.ref R1, some x⟩) (nm := some "error") hat rfl hl C4 rfl O9 hbind run ?_ (.here 8 rfl X.g1 (X.m11 _)) 5 (fun m' h => by cases h; rfl) ?_
  ·intro A G envS envL L hA T hE
   exact pc rfl rfl hA T P.glob m p k x hx hE (P.reply x hpx _) _ _ _ _ _ _ _ _ _
  ·intro A G ex r hu hin
   refine ah (fy (Le (lq rfl (aa 2 rfl rfl rfl rfl (ai (g7 (cn ?_)))))))
   rw [show decide ((k : Int) < 2) = true from decide_eq_true (by lia)]
   exact vn rfl rfl hu gs hin m p k x hx rfl X.s1 _ _ _ _ _ _ _ ⟨_, rfl, rfl, _, _, rfl⟩
 by_cases h7 : k < 7
 ·refine byC fun hC3 => ?_
  obtain ⟨x, hx, hpx⟩ := H.pr k (by lia) h7
  refine hC3 ?_
  refine ux (pre := (cq PySem.Challenge.pw_wb0027_01 14).take 4) (V := V14 m p k) (stT := T14 m p) (x := ⟨.ref R2, some x⟩) (nm := some "error") hat rfl hl C4 rfl O9 hbind run ?_ (.skip 8 rfl X.g1 (X.m21 _) (.here 9 rfl X.g2 (X.m22 _))) 5 (fun m' h => by cases h; rfl) ?_
  ·intro A G envS envL L hA T hE
   exact pc rfl rfl hA T P.glob m p k x hx hE (P.proto x hpx _) _ _ _ _ _ _ _ _ _
  ·intro A G ex r hu hin
   refine ah (fy (Le (Iu rfl (ai (Kn (aa 2 rfl rfl rfl rfl (g7 (cn ?_))))))))
   rw [show decide ((1 : Int) < (k : Int)) = true from decide_eq_true (by lia)]
   refine Ij (ai (g7 (cn ?_)))
   rw [show decide ((k : Int) < 7) = true from decide_eq_true (by lia)]
   exact vn rfl rfl hu gs hin m p k x hx rfl X.s2 _ _ _ _ _ _ _ ⟨_, rfl, rfl, _, _, rfl⟩
 ·refine byC fun hC4 => ?_
  obtain ⟨x, hx, hpx⟩ := H.ve k (by lia) hk
  refine hC4 ?_
  refine ux (pre := (cq PySem.Challenge.pw_wb0027_01 14).take 4) (V := V14 m p k) (stT := T14 m p) (x := ⟨.type "ValueError", none⟩) (nm := none) hat rfl hl C4 rfl O9 hbind run ?_ (.skip 8 rfl X.g1 (X.mv1 _) (.skip 9 rfl X.g2 (X.mv2 _) (.here 10 rfl X.gv Ae))) 5 (fun m' h => by cases h) ?_
  ·intro A G envS envL L hA T hE
   exact pc rfl rfl hA T P.glob m p k x hx hE (P.ve x hpx _ _) _ _ _ _ _ _ _ _ _
  ·intro A G ex r hu hin
   refine ah (fy (lq rfl (aa 2 rfl rfl rfl rfl (ai (Qm ?_)))))
   rw [show decide ((6 : Int) < (k : Int)) = true from decide_eq_true (by lia)]
   exact ⟨_, rfl, rfl, _, _, rfl⟩
end Mine
end
section
open PySem PySem.Calls PyProof.Rows PySem.W PySem.SeqAt PyProof.V
set_option maxRecDepth 100000
namespace Mine
section
variable {C : Cx} {A : Around} {G : Gd} {ae : a9} {st : List ac}
theorem Oz {t : Expr} {b o : List Stmt} {pos : Pos} {Q : AF -> List ac -> Prop} (h : wB C A G ae st t fun c st1 => if c then gy C A G ae st1 b Q else gy C A G ae st1 o Q) : wSK C A G ae st (.If t b o pos) Q := fun κ σ s e X => by
 show wpK _ A (exec (.If t b o pos) G.env) _ _ s
 rw [exec_If]
 refine K.bind (K.standAt (K.bind (K.go (h κ σ s e X) (fun c s1 z => z.go fun κ' σ' c' st' k1 p1 X' r q => ?_) fun _ _ z => z)))
 cases (r : c = c')
 cases c with
 | true => exact PA.wpK k1 p1 (q κ' σ' s1 (e.mono p1) X')
 | false => exact PA.wpK k1 p1 (q κ' σ' s1 (e.mono p1) X')
end
noncomputable def F8 : Str := "lo must be non-negative"
noncomputable abbrev vh : fi := ⟨.type "ValueError", some F8⟩
theorem D3 {C : Cx} {f : Value} {fd : FuncData} (hl : ci C) (B : gk C 4 f fd) (gv : ag C "ValueError" (.type "ValueError")) (a x kv : AV) (lo : Int) (hlo : lo < 0) : im C 2 f [a, x, .d (.int lo)] ["key"] [kv] vh := by
 have hsc := B.scope
 refine mo (bs := [(("a" : Str), a), ("x", x), ("lo", .d (.int lo)), ("hi", .d .none), ("key", kv)]) B.at_ hl (by rw [hsc]; exact Nm) (by rw [hsc]; decide +kernel) (fun s vs kvs hp hv hkv => ?_) ?_
 ·obtain ⟨v, u, w, rfl⟩ := K6 hv
  obtain ⟨f1, rfl⟩ := G6 hkv
  obtain ⟨t, hb⟩ := wv B rfl v u w f1 s hp
  exact ⟨_, hb, rfl, fun κ r rk => by
   obtain ⟨r1, r2, r3⟩ := r.three'
   obtain ⟨f1', e, r4⟩ := rk.one; cases e
   exact .cons r1 (.cons r2 (.cons r3 (.cons RV.none (.cons r4 .nil))))⟩
 ·intro A G A' hA
  rw [hsc]
  simp only [bu]
  refine af 0 rfl rfl rfl ?_
  refine af 1 rfl rfl rfl ?_
  refine af 2 rfl rfl rfl ?_
  refine af 3 rfl rfl rfl ?_
  refine af 4 rfl rfl rfl ?_
  intro E hE
  exact WK.of (Kd (G := G.at E) hA _ _ gv a x (.d .none) kv lo hlo hE)
theorem De {C : Cx} {f : Value} {fd : FuncData} (hl : ci C) (B : gk C 5 f fd) (gv : ag C "ValueError" (.type "ValueError")) (a x kv : AV) (lo : Int) (hlo : lo < 0) : im C 2 f [a, x, .d (.int lo)] ["key"] [kv] vh := by
 have hsc := B.scope
 refine mo (bs := [(("a" : Str), a), ("x", x), ("lo", .d (.int lo)), ("hi", .d .none), ("key", kv)]) B.at_ hl (by rw [hsc]; exact Nx) (by rw [hsc]; decide +kernel) (fun s vs kvs hp hv hkv => ?_) ?_
 ·obtain ⟨v, u, w, rfl⟩ := K6 hv
  obtain ⟨f1, rfl⟩ := G6 hkv
  obtain ⟨t, hb⟩ := wv B rfl v u w f1 s hp
  exact ⟨_, hb, rfl, fun κ r rk => by
   obtain ⟨r1, r2, r3⟩ := r.three'
   obtain ⟨f1', e, r4⟩ := rk.one; cases e
   exact .cons r1 (.cons r2 (.cons r3 (.cons RV.none (.cons r4 .nil))))⟩
 ·intro A G A' hA
  rw [hsc]
  simp only [bu]
  refine af 0 rfl rfl rfl ?_
  refine af 1 rfl rfl rfl ?_
  refine af 2 rfl rfl rfl ?_
  refine af 3 rfl rfl rfl ?_
  refine af 4 rfl rfl rfl ?_
  intro E hE
  exact WK.of (I2 (G := G.at E) hA _ _ gv a x (.d .none) kv lo hlo hE)
theorem O3 : ew (aq PySem.Challenge.pw_wb0027_01 15) := ⟨rfl, by decide +kernel, by decide +kernel⟩
theorem Rc : ((cellsFrom 1 (aq PySem.Challenge.pw_wb0027_01 15).names []).map (·.1)).Nodup := by decide +kernel
theorem K9 {C : Cx} {f : Value} {fd : FuncData} (B : cg C 15 f fd) (v u : Value) : bindArgs fd ⟨[v, u], []⟩ = (pure [(("replies" : Str), v), ("kind", u)] : Sem (List (Str × Value))) := B.bind rfl
noncomputable abbrev V15 (rs : D) (k : Int) : List (Option AV) := [some (.d rs), some (.d (.int k)), none, none, none, none, none, none]
set_option maxHeartbeats 4000000 in
theorem Pf {C : Cx} {f bl br lp : Value} {fd : FuncData} (hl : ci C) (B : cg C 15 f fd) (gs : ag C "str" (.type "str")) (gl : ag C "bisect_left" bl) (gr : ag C "bisect_right" br) (gp : ag C "_law_port" lp) (gv : ag C "ValueError" (.type "ValueError"))
  (SV : xi C (.type "ValueError")) (hL : ∀ a x kv, im C 2 bl [a, x, .d (.int (-1))] ["key"] [kv] vh) (hR : ∀ a x kv, im C 2 br [a, x, .d (.int (-1))] ["key"] [kv] vh) (rs : D) (k : Int) :
  yh C 3 f [.d rs, .d (.int k)] [] [] fun r => r = PyData.bool true := by
 have hbind := x9 (C := C) (a := .d rs) (b := .d (.int k)) (K9 B)
 obtain ⟨name, qual, params, fbody, scope, globals, closure, defaults, kwdefaults, doc, pm, ann, code, ct, bi⟩ := fd
 obtain ⟨hat, hs, hpar, hd, hkw⟩ := B
 cases hs
 refine ux (pre := []) (V := V15 rs k) (stT := []) (x := vh) (nm := some "error") hat rfl hl O3 rfl Rc hbind ?_ ?_ (.here 6 rfl gv Ae) 2 (fun m' h => by cases h; rfl) ?_
 ·intro A G A' hA
  simp only [bu]
  refine af 0 rfl rfl rfl ?_
  refine af 1 rfl rfl rfl ?_
  intro E
  exact am ⟨rfl, rfl⟩
 ·intro A G envS envL L hA T hE
  refine e9 (Oz (a8 rfl (aa 1 rfl rfl rfl rfl (ai (Ni (cn ?_))))))
  cases (k == 0) with
  | true =>
   refine e9 (wd (fun _ => rfl) ?_)
   refine li 3 ["key"] (fun _ => rfl) (fun _ => rfl) (fun _ => rfl) gl rfl hA rfl T hE ?_
   refine ad (fun _ => rfl) (aa 0 rfl rfl rfl rfl (ad (fun _ => rfl) (ai (ad (fun _ => rfl) (F3 (ai (F2 (ak ?_))))))))
   refine nu (ao 4 gp rfl (ko ⟨hL _ _ _, ?_, ?_, [], rfl⟩))
   ·intro a ha; simp at ha; rcases ha with rfl | rfl | rfl <;> trivial
   ·intro a ha; simp at ha; subst ha; trivial
  | false =>
   refine e9 (wd (fun _ => rfl) ?_)
   refine li 5 ["key"] (fun _ => rfl) (fun _ => rfl) (fun _ => rfl) gr rfl hA rfl T hE ?_
   refine ad (fun _ => rfl) (aa 0 rfl rfl rfl rfl (ad (fun _ => rfl) (ai (ad (fun _ => rfl) (F3 (ai (F2 (ak ?_))))))))
   refine nu (ao 4 gp rfl (ko ⟨hR _ _ _, ?_, ?_, [], rfl⟩))
   ·intro a ha; simp at ha; rcases ha with rfl | rfl | rfl <;> trivial
   ·intro a ha; simp at ha; subst ha; trivial
 ·intro A G ex r hu hin
  refine ah (fy (lq rfl (dq (fun _ => rfl) (ao 7 gs rfl (aa 2 rfl rfl rfl rfl (db (Al hin rfl SV hu ?_))))) ))
  refine az (Nq ?_)
  rw [show (F8 == Str.ofString "lo must be non-negative") = true from beq_self_eq_true _]
  exact ⟨_, rfl, rfl, _, _, rfl⟩
end Mine
end
section
open PySem PySem.Calls PyProof.Rows PySem.W PySem.SeqAt PyProof.V
open PySem.Sem (wp)
set_option maxRecDepth 100000
namespace Mine
section
variable {M : Model} {A : Around} {E : Value -> Shared -> Prop} {s : Shared} {env : Env} {α : Type}
theorem K.eq {t t' : Sem α} {Q : α -> Shared -> Prop} (e : t = t') (h : wpK M A t' Q E s) : wpK M A t Q E s := by rw [e]; exact h
theorem K.noted {m : Sem α} {Q : α -> Shared -> Prop} (h : wpK M A m Q (notedBy M A env E) s) : wpK M A (m.onRaise fun x => do noteFrame x env; theTreesLotGoes x) Q E s :=
 K.onRaise (K.mono h (fun _ _ q => q) fun _ _ hx => K.of (wpAny_bind (wpAny_mono hx (fun _ _ e => wpAny_theTreesLotGoes e) fun _ _ e => e)))
theorem oa {e : Expr} {scope : Scope} {pos : Pos} {newAcc first : Sem Value} {g : Comprehension} {gs : List Comprehension} {cl : List (Str × Addr)}
  {Q : Value -> Shared -> Prop}
  (hcl : clausesOf e = g :: gs) (hs : ∀ x, foldedSetIterable g.iter env x = pure x) (hclos : closureFor scope env = pure cl)
  (hkind : scope.kind = .function) (hnames : ∀ x ∈ scope.names, x.2 = .local -> scope.names.lookup x.1 = some .local)
  (h : wpAny M A first (fun x s₁ => wpAny M A (pyIter x) (fun it s₂ => wpAny M A newAcc (fun acc s₃ =>
   wpAny M A (newFunctionEnv scope env.globals cl [] env.qual none .none (some env)) (fun cenv s₄ =>
    g6 M A (.compStart e 0 it acc { cenv with scope := relabel scope env }) (compPost M A E none Q acc cenv.locals) s₄) E s₃) E s₂) E s₁) E s) :
  wpK M A (comprehension e scope env pos newAcc false first none) Q E s := by
 unfold comprehension
 rw [hclos, hcl]
 refine K.bind (K.go h (fun x s₁ h₁ => ?_) fun _ _ h' => h')
 refine K.bind (K.standAt ?_)
 refine K.bind (K.eq (hs x) (K.pure ?_))
 refine K.bind (K.holding (K.go h₁ (fun it s₂ h₂ => ?_) fun _ _ h' => h'))
 simp only [Option.isSome_none, Bool.false_eq_true, if_false]
 refine K.bind (K.go h₂ (fun acc s₃ h₃ => ?_) fun _ _ h' => h')
 refine K.bind (K.pure ?_)
 refine K.bind (K.go h₃ (fun cenv s₄ h₄ => ?_) fun _ _ h' => h')
 have hv : ∀ x ∈ (scope.names.filter fun x => (x.2 == .local || x.2 == .cell) && x.1 != (".0" : Str)).reverse, x.2 = .local →
   Env.kindOf { cenv with scope := relabel scope env } x.1 = some .local := fun x hx hl => lookup_relabel_local (hnames x (List.mem_filter.mp (List.mem_reverse.mp hx)).1 hl)
 refine K.holding (K.bind (K.attempt (K.holding (K.run (C0 h₄ fun r s' hr => ?_) (by intro x; cases x)))))
 cases r with
 | ok f =>
  obtain ⟨m, hn, hr⟩ := hr
  exact K.of (wpAny_bind (wpAny_holding (wpAny_comp_letGo (cenv := { cenv with scope := relabel scope env }) hkind _ s' m hv hn fun h' m' _ hs' => wpAny_pure (hr h' hs'))))
 | error x =>
  obtain ⟨m, hn, hr⟩ := hr
  exact K.of (wpAny_bind (wpAny_holding (wpAny_comp_letGo (cenv := { cenv with scope := relabel scope env }) hkind _ s' m hv hn fun h' m' _ hs' => wpAny_mono (hr h' hs' _ rfl) (fun _ _ f => f.elim) fun _ _ y => y)))
end
section
variable {prog : Program} {w : World} {A : Around} {E : Value -> Shared -> Prop} {R : Result -> Shared -> Prop} {s : Shared}
theorem uf {elt target iter ifs rest scope pos it acc env}
  (h0 : g6 (model prog w) A (.compLoop (.ListComp elt (⟨target, iter, ifs, 0⟩ :: rest) scope pos) 0 it acc env) R s)
  (h : wpAny (model prog w) A (pyIter it) (fun it' s' => g6 (model prog w) A (.compLoop (.ListComp elt (⟨target, iter, ifs, 0⟩ :: rest) scope pos) 0 it' acc env) R s')
   (notedBy (model prog w) A env fun x s' => R (.error x) s') s) :
  g6 (model prog w) A (.compStart (.ListComp elt (⟨target, iter, ifs, 0⟩ :: rest) scope pos) 0 it acc env) R s := by
 refine dk (K.of ?_)
 show wpAny _ _ ((compStart (.ListComp elt (⟨target, iter, ifs, 0⟩ :: rest) scope pos) 0 it acc env).onRaise (fun x => do noteFrame x env; standAt theWindowsPlace)) _ _ s
 refine wpAny_notedAt ?_
 unfold compStart
 show wpAny _ _ (ask >>= _) _ _ s
 refine wpAny_bind (wpAny_askSetting (wpAny_ite ?_))
 split
 ·first
   | exact wpAny_bind (wpAny_pure (wpAny_pure (And.intro rfl h0)))
   | exact wpAny_pure (And.intro rfl h0)
 ·first
   | exact wpAny_bind (wpAny_rule (wpAny_bind (wpAny_standAt (wpAny_bind (wpAny_mono h (fun it' s' h' => wpAny_pure (And.intro rfl h')) fun _ _ x => x)))))
   | (refine wpAny_bind (wpAny_rule ?_); show wpAny _ _ (standAt iter.pos >>= _) _ _ s; exact wpAny_bind (wpAny_standAt (wpAny_bind (wpAny_mono h (fun it' s' h' => wpAny_pure (And.intro rfl h')) fun _ _ x => x))))
theorem Hi {elt target iter : Expr} {ifs : List Expr} {scope : Scope} {pos : Pos} {it acc : Value} {env : Env} (I : Nat -> Shared -> Prop)
  (turn : ∀ n s, I n s -> wpAny (model prog w) A (pyNext it) (fun r s₁ => match r with
   | none => R (.ok .next) s₁
   | some v => wpAny (model prog w) A (letOwnedTupleGo target it v) (fun _ s₁' => wpAny (model prog w) A (assign target env v) (fun _ s₂ =>
     wpK (model prog w) A (forIn ifs true fun c r => if r = true then do let ok ← isTrue c env (eval c env); pure (ForInStep.yield ok) else pure (ForInStep.yield r)) (fun ok s₃ =>
      if ok = true then wpAny (model prog w) A (eval elt env) (fun x s₄ =>
       wpAny (model prog w) A (call (.builtin "list.append") [acc, x]) (fun _ s₅ => ∃ m, m < n /\ I m s₅) (notedBy (model prog w) A env fun e s' => R (.error e) s') s₄) (notedBy (model prog w) A env fun e s' => R (.error e) s') s₃
      else ∃ m, m < n /\ I m s₃) (notedBy (model prog w) A env fun e s' => R (.error e) s') s₂) (notedBy (model prog w) A env fun e s' => R (.error e) s') s₁') (notedBy (model prog w) A env fun e s' => R (.error e) s') s₁) (notedBy (model prog w) A env fun e s' => R (.error e) s') s)
  (n : Nat) (h : I n s) :
  g6 (model prog w) A (.compLoop (.ListComp elt [⟨target, iter, ifs, 0⟩] scope pos) 0 it acc env) R s := by
 refine Cz rfl I (fun n s hI => ?_) n h
 show wpK _ A ((compTurn (.ListComp elt [⟨target, iter, ifs, 0⟩] scope pos) 0 it acc env).onRaise (fun x => do noteFrame x env; theTreesLotGoes x)) _ _ s
 refine K.noted ?_
 rw [compTurn_list]
 refine K.bind (K.standAt (K.bind (K.go (turn n s hI) (fun r s₁ h₁ => ?_) fun _ _ h' => h')))
 cases r with
 | none => exact K.pure h₁
 | some v =>
  refine K.bind (K.go h₁ (fun _ s₁' h₁' => ?_) fun _ _ h' => h')
  refine K.bind (K.go h₁' (fun _ s₂ h₂ => K.bind (K.mono h₂ (fun ok s₃ h₃ => ?_) fun _ _ h' => h')) fun _ _ h' => h')
  cases ok with
  | false => exact K.pure ⟨rfl, h₃⟩
  | true =>
   exact K.of (wpAny_bind (wpAny_bind (wpAny_mono h₃ (fun x s₄ h₄ => wpAny_bind (wpAny_mono h₄ (fun _ s₅ h₅ => wpAny_pure (wpAny_pure ⟨rfl, h₅⟩)) fun _ _ h' => h')) fun _ _ h' => h')))
theorem C5 {env : Env} {c : Expr} {Q : Bool -> Shared -> Prop} (h : wpK (model prog w) A (isTrue c env (eval c env)) Q E s) :
  wpK (model prog w) A (forIn [c] true fun c r => if r = true then do let ok ← isTrue c env (eval c env); pure (ForInStep.yield ok) else pure (ForInStep.yield r)) Q E s := by
 simp only [List.forIn_cons, List.forIn_nil, if_true]
 exact K.bind (K.bind (K.mono h (fun b s' hb => K.pure (K.pure hb)) fun _ _ x => x))
theorem Q7 {env : Env} {x : Expr} {pos : Pos} {whole : Sem Value} {Q : Bool -> Shared -> Prop} (h : wpK (model prog w) A (isTrue x env (eval x env)) (fun b s₁ => Q (!b) s₁) E s) :
  wpK (model prog w) A (isTrue (.UnaryOp .Not x pos) env whole) Q E s := by
 rw [arm_isTrue_UnaryOp]
 exact K.bind (K.mono h (fun b s₁ h₁ => K.pure h₁) fun _ _ x => x)
theorem Hb {env : Env} {l r : Expr} {op : CmpOp} {pos : Pos} {whole : Sem Value} {Q : Bool -> Shared -> Prop}
  (h : wpK (model prog w) A (eval l env) (fun a s₁ => wpAny (model prog w) A (eval r env) (fun b s₂ => wpAny (model prog w) A (compareOp op a b)
   (fun c s₃ => wpAny (model prog w) A (truthy c) Q E s₃) E s₂) E s₁) E s)
  (hm : behindInMarks op r = false) : wpK (model prog w) A (isTrue (.Compare l [op] [r] pos) env whole) Q E s := fun Γ p hΓ hc => by
 simp only [isTrue_Compare1, markedBehindIn_of_false hm, Sem.wp_bind', Sem.wp_holding, Sem.wp_cmd_standAt, Sem.wp_operate]
 exact Sem.wp_mono _ Γ _ (fun a p₁ s₁ h₁ => Sem.wp_mono _ Γ _ (fun b _ s₂ h₂ => Sem.wp_mono _ Γ _ (fun c p₃ s₃ h₃ => h₃ Γ p₃ hΓ)
  (fun _ _ _ h' => h') _ _ (h₂ Γ _ hΓ)) (fun _ _ _ h' => h') _ _ (h₁ Γ p₁ hΓ)) (fun _ _ _ h' => h') _ _ (h Γ p hΓ hc)
end
end Mine
end
section
open PySem PySem.Calls PyProof.Rows PySem.W PySem.SeqAt PyProof.V
namespace Mine
section
variable {C : Cx} {A : Around} {G : Gd} {ae : a9} {st : List ac}
noncomputable def E4 (C : Cx) (A : Around) (G : Gd) (ae : a9) (st : List ac) (ifs : List Expr) (Q : Bool -> List ac -> Prop) : Prop :=
 WK RB C A G ae st (forIn ifs true fun c r => if r = true then do let ok ← isTrue c G.env (eval c G.env); pure (ForInStep.yield ok) else pure (ForInStep.yield r)) Q
theorem Hw {c : Expr} {Q : Bool -> List ac -> Prop} (h : wBK C A G ae st c Q) : E4 C A G ae st [c] Q := fun κ σ s e X => C5 (h κ σ s e X)
theorem WK.mono {α β : Type} {rel : Kp -> List Addr -> β -> α -> Prop} {t : Sem α} {Q Q' : β -> List ac -> Prop} (h : WK rel C A G ae st t Q) (hq : ∀ a st, Q a st -> Q' a st) : WK rel C A G ae st t Q' := fun κ σ s e X =>
 K.mono (h κ σ s e X) (fun _ _ z => z.go fun κ' σ' b st' k p X' r q => ⟨κ', σ', b, st', k, p, X', r, hq _ _ q⟩) fun _ _ z => z
theorem Mv {x : Expr} {pos : Pos} {Q : Bool -> List ac -> Prop} (h : wBK C A G ae st x fun b st1 => Q (!b) st1) : wBK C A G ae st (.UnaryOp .Not x pos) Q := fun κ σ s e X =>
 Q7 (K.mono (h κ σ s e X) (fun _ _ z => z.go fun κ' σ' b st' k p X' r q => ⟨κ', σ', !b, st', k, p, X', by cases r; rfl, q⟩) fun _ _ z => z)
theorem Mw {x : Expr} {Q : Bool -> List ac -> Prop} (he : ∀ env whole, isTrue x env whole = (do let v ← whole; standAt x.pos; holding [v] (truthy v))) (h : wEK C A G ae st x fun a st1 => wTr C A G st1 a Q) : wBK C A G ae st x Q := fun κ σ s e X => by
 show wpK _ A (isTrue x G.env _) _ _ s
 rw [he]
 exact K.bind (K.mono (h κ σ s e X) (fun v s1 z => z.go fun κ1 σ1 a st1 k1 p1 X1 r1 q1 => K.bind (K.standAt (K.holding (K.of (wpAny_mono (q1 κ1 σ1 s1 v X1 r1) (fun _ _ z => z.up k1 p1) fun _ _ z => z))))) fun _ _ z => z)
theorem L5 {l r : Expr} {op : CmpOp} {pos : Pos} {Q : Bool -> List ac -> Prop} (hm : behindInMarks op r = false)
  (h : wEK C A G ae st l fun a st1 => wE C A G ae st1 r fun b st2 => jb C A G st2 op a b fun c st3 => wTr C A G st3 c Q) : wBK C A G ae st (.Compare l [op] [r] pos) Q := fun κ σ s e X =>
 Hb (K.mono (h κ σ s e X) (fun va s1 z => z.go fun κ1 σ1 a st1 k1 p1 X1 r1 q1 => wpAny_mono (q1 κ1 σ1 s1 (e.mono p1) X1) (fun vb s2 z => z.go fun κ2 σ2 b st2 k2 p2 X2 r2 q2 =>
  wpAny_mono (q2 κ2 σ2 s2 va vb X2 (r1.mono k2 p2) r2) (fun vc s3 z => z.go fun κ3 σ3 c st3 k3 p3 X3 r3 q3 => wpAny_mono (q3 κ3 σ3 s3 vc X3 r3) (fun _ _ z => z.up ((k1.trans k2).trans k3) ((p1.trans p2).trans p3)) fun _ _ z => z) fun _ _ z => z) fun _ _ z => z) fun _ _ z => z) hm
theorem Md {t : Expr} {b o : List Stmt} {pos : Pos} {Q : AF -> List ac -> Prop} (h : wBK C A G ae st t fun c st1 => if c then gy C A G ae st1 b Q else gy C A G ae st1 o Q) : wSK C A G ae st (.If t b o pos) Q := fun κ σ s e X => by
 show wpK _ A (exec (.If t b o pos) G.env) _ _ s
 rw [exec_If]
 refine K.bind (K.standAt (K.bind (K.mono (h κ σ s e X) (fun c s1 z => z.go fun κ' σ' c' st' k1 p1 X' r q => ?_) fun _ _ z => z)))
 cases (r : c = c')
 cases c with
 | true => exact PA.wpK k1 p1 (q κ' σ' s1 (e.mono p1) X')
 | false => exact PA.wpK k1 p1 (q κ' σ' s1 (e.mono p1) X')
theorem C3 {elt target iter : Expr} {ifs : List Expr} {scope : Scope} {pos fpos : Pos} {ca : List (Str × Nat)} {Qf : Kp -> List Addr -> Value -> Shared -> Prop} {its : List D} {st2 : List ac}
  (hnf : ef ae.scope = true) (ok : ew scope) (hca : ll ae.cells scope.names [] = some ca) (hcn : ((cellsFrom (st2.length + 2) scope.names ca).map (·.1)).Nodup)
  (hs : ∀ env x, foldedSetIterable iter env x = pure x) (hiter : wEI C A G ae target st iter fun its' st2' => its' = its /\ st2' = st2)
  (J : Nat -> List ac -> Prop) (hJ : ∀ k tl, J k tl -> 2 + ar scope.names <= tl.length /\ ∃ N V, tl[1]? = some (.ns N V))
  (h0 : J 0 (.list [] :: .ns (scope.names.map (·.1)) (List.replicate scope.names.length none) :: List.replicate (ar scope.names) (.cell none)))
  (turn : ∀ φ' E' env' k x tl, env'.frame = G.env.frame -> its[k]? = some x -> J k tl -> sb C A ⟨φ', G.κ₀, env', E'⟩ (bg ae scope st2.length ca) (st2 ++ tl) target (.d x) fun st3 => E4 C A ⟨φ', G.κ₀, env', E'⟩ (bg ae scope st2.length ca) st3 ifs fun ok st4 =>
   if ok then wE C A ⟨φ', G.κ₀, env', E'⟩ (bg ae scope st2.length ca) st4 elt (lm J st2 k)
   else dt J st2 k st4)
  (fin : ∀ κ σ σ2 κ' σ' tl s' acc Ca m, cy ae σ G.env -> σ <+: σ2 -> σ2.length = st2.length -> σ2 <+: σ' -> Kle κ κ' -> J its.length tl -> Rel C G.φ G.κ₀ κ' σ' (st2 ++ tl) s' -> σ'[st2.length]? = some acc -> σ'[st2.length + 1]? = some Ca -> s'.heap.Ns Ca m →
   compPost (model C.prog C.w) A G.E none (Qf κ σ) (.ref acc) Ca (.ok .next) s') :
  ∀ κ σ s, cy ae σ G.env -> Rel C G.φ G.κ₀ κ σ st s -> wpK (model C.prog C.w) A (comprehension (.ListComp elt [⟨target, iter, ifs, 0⟩] scope pos) scope G.env fpos (newList []) false (eval iter G.env) none) (Qf κ σ) G.E s := by
 intro κ σ s e X
 refine byC fun hC1 => ?_
 obtain ⟨cl, hcl, hcr⟩ := kh e hca
 refine hC1 ?_
 refine oa (g := ⟨target, iter, ifs, 0⟩) (gs := []) rfl (fun x => hs _ x) hcl ok.kind (fun x hx hl => ?_) ?_
 ·refine byC fun hC2 => ?_
  obtain ⟨i, hi, ex⟩ := List.getElem_of_mem hx
  refine hC2 ?_
  exact kq ok.nd (i := i) (by rw [List.getElem?_eq_getElem hi, ex, <- hl])
 refine wpAny_mono (hiter κ σ s e X) (fun v s1 z => wpAny_mono z (fun it s2 z => z.goS fun κ2 σ2 Ia own St hit k2 p2 X2 hfree hItr hst => ?_) fun _ _ z => z) fun _ _ z => z
 subst hit
 have e2 : cy ae σ2 G.env := e.mono p2
 have hlen : σ2.length = st2.length := X2.len
 have hφκ := hItr.freeOf X2 hfree
 have hex := hItr.ex _ _ hst
 refine wpAny_newList (items := []) ?_ (by simp [sizeLine_eq])
 have p3 : σ2 <+: σ2 ++ [s2.heap.objs.size] := List.prefix_append ..
 have X3 := (X2.enter hfree).alloc (s' := { s2 with heap := s2.heap.push { cls := .type "list", data := .seq ([] : List Value).toArray } }) (a := s2.heap.objs.size) (x := .list []) (b8 _) (fun b o e => Heap.get?_push_of_some _ e) (Heap.get?_push_size _ rfl) rfl rfl ⟨_, _, rfl, RVL.nil⟩ trivial
 have hfr2 : ∀ L0 : Addr, ∃ L, qz L0 (some G.env) = some L /\ (σ2 ++ [s2.heap.objs.size] ++ [L0])[0]? = some L := fun L0 => (e2.frame hnf).elim fun L h => ⟨L, h.1, cx (p3.trans (List.prefix_append ..)) h.2⟩
 refine ik (bs := []) (Q' := fun _ st0 => st0 = st2 ++ [.list []] ++ [.ns (scope.names.map (·.1)) (List.replicate scope.names.length none)] ++ List.replicate (ar scope.names) (.cell none)) X3 ((hcr.mono p2).mono p3) ok
  (by simpa using hcn) (fun _ L0 => hfr2 L0) e.globals e.builtins rfl RVL.nil (fun env => by simp only [bu]) fun κ4 σ4 st4 env4 s4 k4 p4 e4 he4 X4 q4 => ?_
 cases q4
 have e4' : cy ⟨scope, st2.length + 1, cellsFrom (st2.length + 2) scope.names ca, pw .none (some G.env), G.env.qual⟩ σ4 env4 := by simpa using e4
 have hfacts : env4.qual = G.env.qual /\ env4.code = G.env.code /\ env4.frame = G.env.frame := by
  obtain ⟨cells4, he4⟩ := he4
  rw [he4]; exact ⟨rfl, rfl, rfl⟩
 have e5 : cy (bg ae scope st2.length ca) σ4 { env4 with scope := relabel scope G.env } := Bu hnf ok e2 (p3.trans p4) e4' hfacts.1 hfacts.2.1 hfacts.2.2
 have hL4 : σ4[st2.length + 1]? = some env4.locals := e4'.loc
 have hacc4 : σ4[st2.length]? = some s2.heap.objs.size := cx p4 (by rw [<- hlen]; simp)
 have hlen4 : σ4.length = st2.length + (2 + ar scope.names) := by rw [X4.len]; simp; lia
 have hst4 : St 0 s4.heap := hItr.frame _ _ _ hst (fun b hb o eo => X4.phi b o ((ml hb).trans eo)) fun b o eo => X4.keep b o (k4 b o eo)
 generalize hcenv : ({ env4 with scope := relabel scope G.env } : Env) = cenv at e5
 have hcf : cenv.frame = G.env.frame := by rw [<- hcenv]; exact hfacts.2.2
 have loop : g6 (model C.prog C.w) A (.compLoop (.ListComp elt [⟨target, iter, ifs, 0⟩] scope pos) 0 (.ref Ia) (.ref s2.heap.objs.size) cenv) (compPost (model C.prog C.w) A G.E none (Qf κ σ) (.ref s2.heap.objs.size) env4.locals) s4 := by
  refine Hi (j7 C G own St J st2 its.length κ4 σ4) ?_ (its.length - 0) ⟨0, κ4, σ4, _, rfl, Nat.zero_le _, Kle.refl _, List.prefix_refl _, by simpa using (X4.leave hφκ.1 hφκ.2 hex).1, (X4.leave hφκ.1 hφκ.2 hex).2.1, hst4, h0⟩
  generalize (notedBy (model C.prog C.w) A cenv fun e s' => compPost (model C.prog C.w) A G.E none (Qf κ σ) (.ref s2.heap.objs.size) env4.locals (.error e) s') = EE
  rintro n s' ⟨k, κ', σ', tl, rfl, hk, kle, ple, X', hf', hstk, hj⟩
  by_cases hlt : k < its.length
  ·refine hItr.item _ k its[k] s' _ _ (List.getElem?_eq_getElem hlt) hstk fun v h' tk hst1 hkeep hR => ?_
   refine byC fun hN => ?_
   obtain ⟨κc, hkc, X6, rv⟩ := Itr.took (tk := tk) X' hf' (k4.trans kle) hkeep hR
   refine hN ?_
   have e6 : cy (bg ae scope st2.length ca) σ' cenv := e5.mono ple
   refine wpAny_mono (turn (d3 G.φ own h') EE cenv k its[k] tl hcf (List.getElem?_eq_getElem hlt) hj κc σ' _ v e6 X6 rv) (fun _ s7 z => z.go fun κ7 σ7 _ st7 k7 p7 X7 _ q7 => ?_) fun _ _ z => z
   refine K.mono (q7 κ7 σ7 s7 (e6.mono p7) X7) (fun okv s8 z => z.go fun κ8 σ8 okb st8 k8 p8 X8 r8 q8 => ?_) fun _ _ z => z
   cases (r8 : okv = okb)
   have k48 : Kle κ4 κ8 := kle.trans (hkc.trans (k7.trans k8))
   have p48 : σ4 <+: σ8 := ple.trans (p7.trans p8)
   cases okv with
   | false => exact j7.next hItr hφκ hlen4 hJ hlt k4 k48 p48 X8 hst1 q8
   | true => exact H9 (G := ⟨d3 G.φ own h', G.κ₀, cenv, EE⟩) q8 (e6.mono (p7.trans p8)) X8 rfl (cx p48 hacc4) fun κ10 σ10 st10 s10 k10 p10 X10 q10 => j7.next hItr hφκ hlen4 hJ hlt k4 (k48.trans k10) (p48.trans p10) X10 hst1 q10
  ·obtain rfl : k = its.length := by lia
   refine hItr.done s' _ _ hstk fun h' tk hkeep => ?_
   have X5 := X'.keepsButs (s' := { s' with heap := h', toks := tk }) hf' hkeep rfl rfl
   have hLk : σ'[st2.length + 1]? = some env4.locals := cx ple hL4
   refine (wj X5 (hJ _ _ hj).2 hLk).elim fun m hm => ?_
   exact fin κ σ σ2 κ' σ' tl _ _ _ m e p2 hlen ((p3.trans p4).trans ple) (k2.trans (k4.trans kle)) hj X5 (cx ple hacc4) hLk hm
 exact uf loop (hItr.self 0 s4 _ _ hst4 loop)
noncomputable def rl (C : Cx) (A : Around) (G : Gd) (ae : a9) (scope : Scope) (ca : List (Str × Nat)) (st2 : List ac) (target elt : Expr) (ifs : List Expr) (its : List D) (g : D -> Option D) : Prop :=
 ∀ φ' E' env' x (acc : List D) (cs : List (Option AV)), x ∈ its -> cs.length = ar scope.names -> env'.frame = G.env.frame -> sb C A ⟨φ', G.κ₀, env', E'⟩ (bg ae scope st2.length ca) (st2 ++ kt scope acc cs) target (.d x) fun st3 => E4 C A ⟨φ', G.κ₀, env', E'⟩ (bg ae scope st2.length ca) st3 ifs fun ok st4 =>
   if ok then wE C A ⟨φ', G.κ₀, env', E'⟩ (bg ae scope st2.length ca) st4 elt (v6 scope st2 acc g x)
   else pn scope st2 acc g x st4
theorem Kr {elt target iter : Expr} {ifs : List Expr} {scope : Scope} {pos fpos : Pos} {ca : List (Str × Nat)} {Qf : Kp -> List Addr -> Value -> Shared -> Prop} {its : List D} {st2 : List ac} (g : D -> Option D)
  (hnf : ef ae.scope = true) (ok : ew scope) (hca : ll ae.cells scope.names [] = some ca) (hcn : ((cellsFrom (st2.length + 2) scope.names ca).map (·.1)).Nodup)
  (hs : ∀ env x, foldedSetIterable iter env x = pure x) (hiter : wEI C A G ae target st iter fun its' st2' => its' = its /\ st2' = st2) (hsz : its.length <= sizeLine) (hcl : c6 st2)
  (turn : rl C A G ae scope ca st2 target elt ifs its g) {Qa : AV -> List ac -> Prop} (hq : Qa (.d (.list (its.filterMap g))) st2)
  (fin : ∀ κ σ s acc Ca m, cy ae σ G.env -> w6 C G Qa κ σ acc Ca s -> s.heap.Ns Ca m -> compPost (model C.prog C.w) A G.E none (Qf κ σ) (.ref acc) Ca (.ok .next) s) :
  ∀ κ σ s, cy ae σ G.env -> Rel C G.φ G.κ₀ κ σ st s -> wpK (model C.prog C.w) A (comprehension (.ListComp elt [⟨target, iter, ifs, 0⟩] scope pos) scope G.env fpos (newList []) false (eval iter G.env) none) (Qf κ σ) G.E s := by
 refine C3 hnf ok hca hcn hs hiter (LcJ scope its g) Ge Cs ?_ ?_
 ·rintro φ' E' env' k x tl hef hx ⟨cs, hc, rfl⟩
  intro κ σ s v e X r
  refine wpAny_mono (turn φ' E' env' x _ cs (List.mem_of_getElem? hx) hc hef κ σ s v e X r) (fun _ s1 z => z.go fun κ1 σ1 _ st3 k1 p1 X1 _ q1 => ⟨κ1, σ1, (), st3, k1, p1, X1, trivial, ?_⟩) fun _ _ z => z
  refine WK.mono q1 fun okb st4 q4 => ?_
  cases okb with
  | false => exact pn.next hx q4
  | true => exact W.mono q4 fun a st5 q5 => v6.post hsz hx q5
 ·exact fun κ σ σ2 κ' σ' tl s' acc Ca m e p hl p' k hj X hacc hCa hm => fin κ σ s' acc Ca m e (Ld hcl hq p hl p' k hj X hacc hCa) hm
theorem Mm {elt target iter : Expr} {ifs : List Expr} {scope : Scope} {pos : Pos} {its : List D} {st2 : List ac} {Q : AV -> List ac -> Prop} (ca : List (Str × Nat)) (g : D -> Option D)
  (hnf : ef ae.scope = true) (ok : ew scope) (hca : ll ae.cells scope.names [] = some ca) (hcn : ((cellsFrom (st2.length + 2) scope.names ca).map (·.1)).Nodup)
  (hs : ∀ env x, foldedSetIterable iter env x = pure x) (hiter : wEI C A G ae target st iter fun its' st2' => its' = its /\ st2' = st2) (hsz : its.length <= sizeLine) (hcl : c6 st2)
  (turn : rl C A G ae scope ca st2 target elt ifs its g) (hq : Q (.d (.list (its.filterMap g))) st2) : wEK C A G ae st (.ListComp elt [⟨target, iter, ifs, 0⟩] scope pos) Q := fun κ σ s e X => by
 rw [eval_ListComp]
 exact Kr (Qf := fun κ σ v s' => PA RV C G.φ G.κ₀ κ σ Q v s') g hnf ok hca hcn hs hiter hsz hcl turn hq (fun κ σ s acc Ca m _ h hm => y6 h hm) κ σ s e X
theorem rl.of {scope : Scope} {ca : List (Str × Nat)} {st2 : List ac} {x : Str} {p : Pos} {elt : Expr} {ifs : List Expr} {its : List D} {g : D -> Option D} (hnc : ar scope.names = 0) (h1 : (fk scope ae.scope).names[1]? = some (x, .local)) (h1' : (scope.names.map (·.1))[1]? = some x) (hcl : c6 st2)
  (h : ∀ φ' E' env' d (acc : List D), d ∈ its -> env'.frame = G.env.frame -> E4 C A ⟨φ', G.κ₀, env', E'⟩ (bg ae scope st2.length ca) (cst st2 scope acc d) ifs fun ok st4 =>
   if ok then wE C A ⟨φ', G.κ₀, env', E'⟩ (bg ae scope st2.length ca) st4 elt fun a st5 => ∃ y, a = .d y /\ g d = some y /\ ∃ r, st5 = cst st2 scope acc d ++ r
   else g d = none /\ ∃ r, st4 = cst st2 scope acc d ++ r) : rl C A G ae scope ca st2 (.Name x p) elt ifs its g := by
 intro φ' E' env' d acc cs hd hcs hef
 have hcs0 : cs = [] := List.eq_nil_of_length_eq_zero (by rw [hcs, hnc])
 subst hcs0
 refine d8 (af 1 h1 kl h1' ?_)
 rw [show (st2 ++ kt scope acc []) = st2 ++ ac.list (acc.map .d) :: .ns (scope.names.map (·.1)) (List.replicate scope.names.length none) :: [] from rfl, show (bg ae scope st2.length ca).L = st2.length + 1 from rfl, Iz]
 refine WK.mono (h φ' E' env' d acc hd hef) fun ok st4 q => ?_
 cases ok with
 | false => exact xl hnc hcl q
 | true => exact W.mono q fun a st5 q => z1 hnc hcl q
end
end Mine
end
section
open PySem PySem.Calls PyProof.Rows PySem.W PySem.SeqAt PyProof.V
set_option maxRecDepth 100000
namespace Mine
set_option genInjectivity false in
set_option genSizeOf false in
structure LV where
 script : Option D := none
 one : Option D := none
 three : Option D := none
 mask : Option D := none
 flag : Option D := none
 first : Option D := none
 number : Option D := none
 rest : Option D := none
 turn : Option D := none
 replies : Option Nat := none
 line : Option D := none
 left : Option D := none
 right : Option D := none
 ports : Option D := none
 both : Option D := none
 found : Option D := none
 host : Option D := none
 heard : Option D := none
 begins : Option D := none
 ends : Option D := none
 two : Option D := none
 words : Option D := none
 low : Option D := none
 told : Option D := none
 rows : Option D := none
 row : Option D := none
 spot : Option D := none
 place : Option D := none
 port : Option D := none
noncomputable abbrev LV.sOne (v : LV) (x : Option D) : LV := { v with one := x }
noncomputable abbrev LV.sTwo (v : LV) (x : Option D) : LV := { v with two := x }
noncomputable abbrev LV.sThree (v : LV) (x : Option D) : LV := { v with three := x }
noncomputable abbrev LV.sWords (v : LV) (x : Option D) : LV := { v with words := x }
noncomputable abbrev LV.sLow (v : LV) (x : Option D) : LV := { v with low := x }
noncomputable abbrev LV.sMask (v : LV) (x : Option D) : LV := { v with mask := x }
noncomputable abbrev LV.sTold (v : LV) (x : Option D) : LV := { v with told := x }
noncomputable abbrev LV.sPlace (v : LV) (x : Option D) : LV := { v with place := x }
noncomputable abbrev LV.sRest (v : LV) (x : Option D) : LV := { v with rest := x }
noncomputable abbrev LV.sReplies (v : LV) (x : Option Nat) : LV := { v with replies := x }
noncomputable abbrev LV.sPorts (v : LV) (x : Option D) : LV := { v with ports := x }
noncomputable abbrev LV.sFound (v : LV) (x : Option D) : LV := { v with found := x }
noncomputable abbrev LV.sRows3 (v : LV) (a b c : Option D) : LV := { v with rows := a, row := b, first := c }
noncomputable abbrev LV.sLeft2 (v : LV) (a b : Option D) : LV := { v with left := a, right := b }
noncomputable abbrev LV.sBoth2 (v : LV) (a b : Option D) : LV := { v with both := a, port := b }
noncomputable abbrev LV.sHost2 (v : LV) (a b : Option D) : LV := { v with host := a, heard := b }
noncomputable abbrev LV.sBegins2 (v : LV) (a b : Option D) : LV := { v with begins := a, ends := b }
noncomputable abbrev ov (o : Option Nat) : Option AV := o.map AV.obj
noncomputable abbrev Pv (v : LV) : List (Option AV) := [dv v.script, dv v.one, none, dv v.three, none, dv v.flag, none, dv v.mask, none, none, none, dv v.first, dv v.number, none, none, dv v.rest, dv v.turn, ov v.replies, dv v.line, dv v.left, dv v.right, dv v.ports, dv v.both, none, dv v.found, dv v.host, dv v.heard, dv v.begins, dv v.ends, none, none, none, none, none, none, none, none, none, none, none, none, none, none]
noncomputable abbrev lst (v : LV) (ext : List ac) : List ac := i1 18 (Pv v) :: .cell (dv v.two) :: .cell (dv v.words) :: .cell (dv v.low) :: .cell (dv v.told) :: .cell (dv v.rows) :: .cell (dv v.row) :: .cell (dv v.spot) :: .cell (dv v.place) :: .cell (dv v.port) :: ext
noncomputable abbrev K1 : List (Str × Nat) := [("port", 9), ("place", 8), ("spot", 7), ("row", 6), ("rows", 5), ("told", 4), ("low", 3), ("words", 2), ("two", 1)]
noncomputable abbrev lae (cd : Value) (ql : Str) : a9 := ⟨aq PySem.Challenge.pw_wb0027_01 18, 0, K1, cd, ql⟩
noncomputable def stm (k : Nat) : Stmt := ((cq PySem.Challenge.pw_wb0027_01 18)[k]?).getD (.Pass ⟨0, 0, 0, 0⟩)
structure d9 (v : LV) (ext : List ac) : Prop where
 replies : ∀ i, v.replies = some i -> i < 10 + ext.length
 ext : ∀ x ∈ ext, x.below (10 + ext.length)
theorem ir (v : LV) (ext : List ac) : (lst v ext).length = 10 + ext.length := by simp [lst]; lia
theorem ovB {o : Option Nat} {n : Nat} (h : ∀ i, o = some i -> i < n) : dz n (ov o) := fun a e => by
 cases o with
 | none => cases e
 | some i => cases e; exact h i rfl
theorem Qv {n : Nat} : ∀ k, ∀ o ∈ List.replicate k (none : Option AV), dz n o := fun k o h => by rw [List.eq_of_mem_replicate h]; exact dz.none
theorem bo {v : LV} {ext : List ac} (h : d9 v ext) : c6 (lst v ext) :=
 Bv (ir v ext) <| bw (u4 <| bw dvB <| bw dvB <| bw dz.none <| bw dvB <| bw dz.none <| bw dvB <| bw dz.none <| bw dvB <| bw dz.none <| bw dz.none <| bw dz.none <| bw dvB <| bw dvB <| bw dz.none <| bw dz.none <| bw dvB <| bw dvB <| bw (ovB h.replies) <| bw dvB <| bw dvB <| bw dvB <| bw dvB <| bw dvB <| bw dz.none <| bw dvB <| bw dvB <| bw dvB <| bw dvB <| bw dvB <| Qv 14) <| bw og <| bw og <| bw og <| bw og <| bw og <| bw og <| bw og <| bw og <| bw og <| h.ext
theorem d9.more {v : LV} {ext : List ac} (h : d9 v ext) {x : ac} (hx : x.below (10 + ext.length)) : d9 v (ext ++ [x]) := by
 refine ⟨fun i e => ?_, fun y hy => ?_⟩
 ·have := h.replies i e; simp; lia
 ·rw [List.length_append]
  rcases List.mem_append.mp hy with hy | hy
  ·exact qj (h.ext y hy) (by lia)
  ·simp at hy; subst hy; exact qj hx (by lia)
theorem d9.up {v w : LV} {ext : List ac} (h : d9 v ext) (h1 : w.replies = v.replies) : d9 w ext := ⟨by rw [h1]; exact h.replies, h.ext⟩
theorem rg (w : LV) (ext r : List ac) : lst w ext ++ r = lst w (ext ++ r) := by simp [lst]
theorem Gw {w : LV} {ext : List ac} {r : List ac} : (lst w (ext ++ r))[10 + ext.length]? = r[0]? := by
 rw [<- rg, List.getElem?_append_right (by rw [ir]; lia), ir, Nat.sub_self]
theorem z9 {w : LV} {e1 e2 : List ac} {x : ac} : (lst w (e1 ++ x :: e2))[10 + e1.length]? = some x := Gw (r := x :: e2)
theorem Fs {w : LV} {e1 e2 : List ac} {x y : ac} : (lst w (e1 ++ x :: e2)).set (10 + e1.length) y = lst w (e1 ++ y :: e2) := by
 rw [<- rg w e1 (x :: e2), <- rg w e1 (y :: e2), List.set_append_right _ _ (by rw [ir]; lia), ir, Nat.sub_self]; rfl
theorem J2 {o : Option Nat} {x : Nat} (h : o = some x) : some (o.map AV.obj) = some (some (AV.obj x)) := by rw [h]; rfl
noncomputable def l0 (S : List Int) : Int := 18290558 + 2654435761 * (d0 S (some 0) (some 60) (some 3)).sum
noncomputable def dr (S : List Int) : Int := -1 + 40503 * (d0 S (some 1) (some 60) (some 3)).sum
noncomputable def iv (S : List Int) : Int := 1 + (d0 S (some 2) (some 60) (some 3)).sum
noncomputable def v5 (S : List Int) : Int := if ((iv S).fdiv 3).fmod 2 != 0 then Builtin.bitOr (l0 S) (dr S) else Builtin.bitAnd (l0 S) (dr S)
noncomputable def cb (S : List Int) : Int := (v5 S).fmod (2 ^ 32)
noncomputable def bh (S : List Int) : Int := cb S + 2 ^ 32 * ((iv S + 2).fmod 7 - 3)
noncomputable def B3 (l : List Int) : D := .list (l.map .int)
noncomputable def g8 (l : List Str) : D := .list (l.map .str)
theorem i2 {a b : Int} (h : a.natAbs < 2 ^ 60) : IntMulOk a b := IntMulOk.of_left (intBits_le_64 (by omega) (by omega))
section
variable {C : Cx} {A : Around} {G : Gd} {cd : Value} {ql : Str} {v : LV} {ext : List ac} {S : List Int} {Q : AF -> List ac -> Prop}
theorem vp {n : Nat} (hA : AOk A n) (gs : ag C "sum" (.builtin "sum")) {Q : AV -> List ac -> Prop} (k : Int) (hs : v.script = some (B3 S)) (hS : S.length <= 1000) {k1 k2 k3 : Nat} (p1 p2 p3 p4 p5 p6 p7 p8 : Pos)
  (q : Q (.d (.int (d0 S (some k) (some 60) (some 3)).sum)) (lst v ext)) : wE C A G (lae cd ql) (lst v ext) (.Call (.Name "sum" p1) [.Subscript (.Name "script" p2) (.Slice (some (.Constant (.int k) k1 p3)) (some (.Constant (.int 60) k2 p4)) (some (.Constant (.int 3) k3 p5)) p6) p7] [] p8) Q := by
 have hsz := sizeLine_eq
 refine dq (fun _ => rfl) (ao 29 gs rfl ?_)
 refine ie (aa 0 rfl rfl rfl (b7 hs) (dc (ai ⟨k, rfl, dc (ai ⟨60, rfl, dc (ai ⟨3, rfl, ?_⟩)⟩)⟩)))
 refine mw (l := S.map .int) rfl (fun h => nomatch h) (by rw [List.length_map, hsz]; lia) ?_
 rw [ib]
 exact d7 (H8 (ns := d0 S (some k) (some 60) (some 3)) rfl hA.in1n q)
theorem s0 {n : Nat} (hA : AOk A n) (gs : ag C "sum" (.builtin "sum")) (hs : v.script = some (B3 S)) (hS : S.length <= 1000) (q : Q .next (lst (v.sOne (some (.int (l0 S)))) ext)) : wS C A G (lae cd ql) (lst v ext) (stm 0) Q := by
 refine al (fun _ => rfl) (aj (ai (aj (ai (vp hA gs 0 hs hS _ _ _ _ _ _ _ _ (m0 (i2 (by decide)) (cu ?_)))))))
 exact af 1 rfl rfl rfl q
theorem s1 {n : Nat} (hA : AOk A n) (gs : ag C "sum" (.builtin "sum")) (hs : v.script = some (B3 S)) (hS : S.length <= 1000) (q : Q .next (lst (v.sTwo (some (.int (dr S)))) ext)) : wS C A G (lae cd ql) (lst v ext) (stm 1) Q := by
 refine al (fun _ => rfl) (aj (F3 (ai (F2 (aj (ai (vp hA gs 1 hs hS _ _ _ _ _ _ _ _ (m0 (i2 (by decide)) (cu ?_)))))))))
 exact eg 2 8 1 rfl rfl rfl q
theorem s2 {n : Nat} (hA : AOk A n) (gs : ag C "sum" (.builtin "sum")) (hs : v.script = some (B3 S)) (hS : S.length <= 1000) (q : Q .next (lst (v.sThree (some (.int (iv S)))) ext)) : wS C A G (lae cd ql) (lst v ext) (stm 2) Q := by
 refine al (fun _ => rfl) (aj (ai (vp hA gs 2 hs hS _ _ _ _ _ _ _ _ (cu ?_))))
 exact af 3 rfl rfl rfl q
theorem s3 {n : Nat} (hA : AOk A (n + 4)) {pf : Value} (hpf : iz C pf) {ws : List Str} (hk : i7 (2 ^ 34 - 1)) (hw : an (2 ^ 34 - 1) = ws) (q : Q .next (lst (v.sWords (some (g8 ws))) ext)) : wS C A G (lae cd ql) (lst v ext) (stm 3) Q := by
 subst hw
 refine al (fun _ => rfl) (ri (hA.mono (Nat.le_add_left _ _)) hpf 30 rfl (fun _ => rfl) hk rfl (aj (aj (ai (ai (sj (by decide) (by decide) (ai (nb ⟨rfl, ?_⟩))))))))
 exact eg 4 7 2 rfl rfl rfl q
theorem s6 (h1 : v.one = some (.int (l0 S))) (h2 : v.two = some (.int (dr S))) (h3 : v.three = some (.int (iv S))) (q : Q .next (lst (v.sLow (some (.int (cb S)))) ext)) : wS C A G (lae cd ql) (lst v ext) (stm 6) Q := by
 refine al (fun _ => rfl) (aj (Nk (sv (fun _ _ => rfl) (aj (aj (aa 3 rfl rfl rfl (b7 h3) (ai (sx (by decide) (PyProof.noPylong_small (by decide)) (ai (lk (by decide) (Lz ?_)))))))))))
 have hl : ∀ b : Int, b = v5 S -> od C A G (lst v ext) .Mod (.d (.int b)) (.d (.int (2 ^ 32))) fun a st1 => dx C A G (lae cd ql) st1 "low" a fun st2 => Q .next st2 := by
  rintro b rfl
  refine lk (by decide) ?_
  exact eg 6 6 3 rfl rfl rfl q
 have hb : v5 S = if ((iv S).fdiv 3).fmod 2 != 0 then Builtin.bitOr (l0 S) (dr S) else Builtin.bitAnd (l0 S) (dr S) := rfl
 cases hc : (((iv S).fdiv 3).fmod 2 != 0) with
 | true =>
  rw [hc, if_pos rfl] at hb
  rw [if_pos rfl]
  exact aj (aa 1 rfl rfl rfl (b7 h1) (aw 2 8 1 rfl rfl (bn h2) (Qe (aj (ai (ai (sj (by decide) (by decide) (hl _ hb.symm))))))))
 | false =>
  rw [hc, if_neg (by decide)] at hb
  rw [if_neg (by decide)]
  exact aj (aa 1 rfl rfl rfl (b7 h1) (aw 2 8 1 rfl rfl (bn h2) (zf (aj (ai (ai (sj (by decide) (by decide) (hl _ hb.symm))))))))
theorem s7 (h2 : v.low = some (.int (cb S))) (h3 : v.three = some (.int (iv S))) (q : Q .next (lst (v.sMask (some (.int (bh S)))) ext)) : wS C A G (lae cd ql) (lst v ext) (stm 7) Q := by
 refine al (fun _ => rfl) (aj (aw 6 6 3 rfl rfl (bn h2) (aj (aj (ai (ai (sj (by decide) (by decide) ?_)))))))
 refine aj (aj (aj (aa 3 rfl rfl rfl (b7 h3) (ai (cu (ai (lk (by decide) (ai (nb (m0 (i2 (by decide)) (cu ?_)))))))))))
 exact af 7 rfl rfl rfl q
theorem s8 {n : Nat} (hA : AOk A (n + 4)) {pf : Value} (hpf : iz C pf) (hk : i7 (bh S)) (hm : v.mask = some (.int (bh S))) (q : Q .next (lst (v.sTold (some (g8 (an (bh S))))) ext)) : wS C A G (lae cd ql) (lst v ext) (stm 8) Q := by
 refine al (fun _ => rfl) (ri (hA.mono (Nat.le_add_left _ _)) hpf 30 rfl (fun _ => rfl) hk rfl (aa 7 rfl rfl rfl (b7 hm) ⟨rfl, ?_⟩))
 exact eg 8 5 4 rfl rfl rfl q
end
end Mine
end
section
open PySem PySem.Calls PyProof.Rows PySem.W PySem.SeqAt PyProof.V
set_option maxRecDepth 100000
namespace Mine
theorem qw (a : Int) (n : Nat) : (fb a n).length = n := by simp [fb]
theorem Hc {n k : Nat} {x : D} (h : (fb 0 n)[k]? = some x) : x = .int (k : Int) /\ k < n := by
 have := j1 h
 rwa [Int.zero_add] at this
noncomputable def mf : List D := (List.range 10).map fun i => .str (a7 i)
noncomputable def jh : List D := (List.range 22).map fun i => .str (a7 (10 + i))
noncomputable def jp : List Str := (List.range 32).map a7
noncomputable def bj : List Str := jp ++ [Str.ofString "0x300000000"]
theorem J9 : ∀ t : Nat, t < 10 -> PySem.Spec.lookup (.int (1 * 2 ^ t)) fc = some (.str (a7 t)) := by
 intro t ht
 match t, ht with
 | 0, _ | 1, _ | 2, _ | 3, _ | 4, _ | 5, _ | 6, _ | 7, _ | 8, _ | 9, _ => rfl
noncomputable def I5 (t : Nat) : Nat := ([52, 56, 49, 50] : List Nat).getD (t % 4) 0
theorem N8 : ∀ t : Fin 22, (seqIndex? (((10 : Int) + ((t : Nat) : Int)).fmod 4) (Str.ofString "1248").length).bind ((Str.ofString "1248").cps[·]?) = some (I5 t) := by decide +kernel
theorem Nd : ∀ t : Fin 22, ((Str.ofString "0x" ++ (⟨#[I5 t]⟩ : Str)) ++ rep (Str.ofString "0") (((10 : Int) + ((t : Nat) : Int)).fdiv 4)) = a7 (10 + t) /\ (rep (Str.ofString "0") (((10 : Int) + ((t : Nat) : Int)).fdiv 4)).length <= 100 /\ 1 <= ((10 : Int) + ((t : Nat) : Int)).fdiv 4 /\ ((10 : Int) + ((t : Nat) : Int)).fdiv 4 <= 1000 := by decide +kernel
theorem K0 : d0 (bj.map PyData.str) none (some 10) none = mf := by
 rw [show (some 10 : Option Int) = some ((10 : Nat) : Int) from rfl, po, <- List.map_take]
 unfold mf bj jp
 rw [List.take_append_of_le_length (by simp), <- List.map_take, List.map_map]
 rfl
theorem H6 : d0 (bj.map PyData.str) (some 10) none none = jh ++ [.str "0x300000000"] := by
 rw [show (some 10 : Option Int) = some ((10 : Nat) : Int) from rfl, Ej, <- List.map_drop]
 unfold jh bj jp
 rw [List.drop_append_of_le_length (by simp), <- List.map_drop, List.map_append, List.map_map]
 rfl
theorem ic : bj.length = 33 := by simp [bj, jp]
theorem mv : ∀ w ∈ bj, (PyData.str w).canLay0 = true := by decide +kernel
theorem Bl : ∀ x ∈ mf, ShD 0 x := fun x hx => by
 obtain ⟨i, hi, rfl⟩ := List.mem_map.mp hx
 have : i < 10 := List.mem_range.mp hi
 exact ts (mv _ (List.mem_append_left _ (List.mem_map_of_mem (List.mem_range.mpr (by lia)))))
theorem y7 : ∀ x ∈ jh ++ [.str "0x300000000"], ShD 0 x := fun x hx => by
 rcases List.mem_append.mp hx with hx | hx
 ·obtain ⟨i, hi, rfl⟩ := List.mem_map.mp hx
  have : i < 22 := List.mem_range.mp hi
  exact ts (mv _ (List.mem_append_left _ (List.mem_map_of_mem (List.mem_range.mpr (by lia)))))
 ·obtain rfl := List.mem_singleton.mp hx
  exact ts (mv _ (List.mem_append_right _ List.mem_cons_self))
section
variable {C : Cx} {A : Around} {G : Gd} {cd : Value} {ql : Str} {v : LV} {ext : List ac} {S : List Int} {Q : AF -> List ac -> Prop}
theorem s4 {n : Nat} (hA : AOk A n) (gr : ag C "range" (.type "range")) {dv : Value} (gd : ag C "COMPILER_FLAG_NAMES" dv) (hd : je C dv fc) (hv : d9 v ext) (hw : v.words = some (g8 bj))
  (q : Q .next (lst v (ext ++ [ac.raw (ap 0 10)]))) : wS C A G (lae cd ql) (lst v ext) (stm 4) Q := by
 have hsz := sizeLine_eq
 refine cm (a8 rfl ?_)
 refine ie (aw 4 7 2 rfl rfl (bn hw) (c5 (dc (ai ⟨10, rfl, c5 ?_⟩))))
 refine mw (l := bj.map .str) rfl (fun h => nomatch h) (by rw [List.length_map, ic, hsz]; decide) ?_
 rw [K0]
 refine nf (its := fb 0 10) (st2 := lst v (ext ++ [.raw (ap 0 10)])) []
  (uj fun t => .str (a7 t.toNat)) rfl ⟨rfl, by decide +kernel, by decide +kernel⟩ rfl (by show (([] : List (Str × Nat)).map (·.1)).Nodup; decide +kernel) (fun _ _ => rfl) (ln 31 gr rfl hA.handled (by decide)) (by rw [qw, hsz]; decide) (bo (hv.more dh)) (fz.of rfl rfl rfl (bo (hv.more dh)) ?_) ?_
 ·intro φ' E' env' d acc hdd hef
  obtain ⟨t, ht, rfl⟩ := List.mem_map.mp hdd
  have ht10 : t < 10 := by simpa using ht
  rw [show ((0 : Int) + (t : Int)) = (t : Int) by lia]
  refine gx ?_
  simp only [if_true]
  refine bb (fun _ _ => ⟨_, rfl⟩) (ao 2 gd rfl (aj (ai (aa 1 rfl kl rfl rfl (D9 (by lia) (by lia) (by decide) ?_)))))
  rw [Int.toNat_natCast]
  exact Kt hd (J9 t ht10) trivial ⟨_, rfl, by simp [uj], [], (List.append_nil _).symm⟩
 ·rw [yx]
  have e : ((List.range 10).map fun (i : Nat) => PyData.str (a7 ((0 : Int) + (i : Int)).toNat)) = mf := by
   unfold mf; congr 1; funext i; simp
  rw [e]
  exact j5 hA (ox (n := 0) Bl) (by decide) (cn (am q))
set_option maxHeartbeats 4000000 in
theorem s5 {n : Nat} (hA : AOk A n) (gr : ag C "range" (.type "range")) (hv : d9 v ext) (hw : v.words = some (g8 bj))
  (q : Q .next (lst v (ext ++ [ac.raw (ap 10 32)]))) : wS C A G (lae cd ql) (lst v ext) (stm 5) Q := by
 have hsz := sizeLine_eq
 have hv2 := hv.more (x := .raw (ap 10 32)) dh
 refine cm (a8 rfl ?_)
 refine ie (aw 4 7 2 rfl rfl (bn hw) (dc (ai ⟨10, rfl, c5 (c5 ?_)⟩)))
 refine mw (l := bj.map .str) rfl (fun h => nomatch h) (by rw [List.length_map, ic, hsz]; decide) ?_
 rw [H6]
 refine aj ?_
 refine nf (its := fb 10 22) (st2 := lst v (ext ++ [.raw (ap 10 32)])) [] (uj fun t => .str (a7 t.toNat)) rfl ⟨rfl, by decide +kernel, by decide +kernel⟩ rfl (by show (([] : List (Str × Nat)).map (·.1)).Nodup; decide +kernel) (fun _ _ => rfl)
  (B5 31 gr rfl hA.handled (by decide) (by decide)) (by rw [qw, hsz]; decide) (bo hv2) (fz.of rfl rfl rfl (bo hv2) ?_) ?_
 ·intro φ' E' env' d acc hdd hef
  refine byC fun hC1 => ?_
  obtain ⟨t, ht, rfl⟩ := List.mem_map.mp hdd
  have ht22 : t < 22 := by simpa using ht
  obtain ⟨h1, h2, h3, h4⟩ := Nd ⟨t, ht22⟩
  refine hC1 ?_
  refine gx ?_
  simp only [if_true]
  refine aj (aj (az (bb (fun _ _ => ⟨_, rfl⟩) (az (aj (aa 1 rfl kl rfl rfl (ai (lk (by decide) ?_))))))))
  refine fu (by have := Int.fmod_nonneg_of_pos ((10 : Int) + (t : Int)) (b := 4) (by decide); lia) (by have := Int.fmod_lt_of_pos ((10 : Int) + (t : Int)) (b := 4) (by decide); lia) (N8 ⟨t, ht22⟩) ?_
  refine ck (by rw [hsz]; exact Nat.le_of_ble_eq_true rfl) ?_
  refine aj (az (aj (aa 1 rfl kl rfl rfl (ai (sx (by decide) (PyProof.noPylong_small (by decide)) ?_)))))
  refine vi h3 h4 (by decide) (by decide) ?_
  refine ck (x := Str.ofString "0x" ++ (⟨#[I5 t]⟩ : Str)) (y := rep (Str.ofString "0") (((10 : Int) + (t : Int)).fdiv 4)) (by rw [hsz]; have : (Str.ofString "0x" ++ (⟨#[I5 t]⟩ : Str)).length = 3 := rfl; have h2 : (rep (Str.ofString "0") (((10 : Int) + (t : Int)).fdiv 4)).length <= 100 := h2; lia) ?_
  refine ⟨_, rfl, ?_, [], (List.append_nil _).symm⟩
  have h1 : Str.ofString "0x" ++ (⟨#[I5 t]⟩ : Str) ++ rep (Str.ofString "0") (((10 : Int) + (t : Int)).fdiv 4) = a7 (10 + t) := h1
  rw [h1]
  simp only [uj]
  rw [show ((10 : Int) + (t : Int)).toNat = 10 + t by lia]
 ·rw [yx]
  have e : ((List.range 22).map fun (i : Nat) => PyData.str (a7 ((10 : Int) + (i : Int)).toNat)) = jh := by
   unfold jh; congr 1
  rw [e]
  refine jv (ad (fun _ => rfl) (az (ak ⟨[.str "0x300000000"], rfl, by rw [hsz]; exact Nat.le_of_ble_eq_true rfl, ?_⟩)))
  refine Jw (l := jh) (m := [.str "0x300000000"]) rfl rfl (by rw [hsz]; exact Nat.le_of_ble_eq_true rfl) ?_
  exact j5 hA (ox (n := 0) y7) (by decide) (cn (am q))
end
end Mine
end
section
open PySem PySem.Calls PyProof.Rows PySem.W PySem.SeqAt PyProof.V
set_option maxRecDepth 100000
namespace Mine
section
variable {C : Cx} {A : Around} {G : Gd} {ae : a9} {st : List ac}
theorem zi {elts : List Expr} {k : Nat} {tpos pos : Pos} {value : Expr} {Q : AF -> List ac -> Prop} (hs : ∀ env, swapsWithSole [.Tuple elts k tpos] value pos.line env = pure false) (hw : ∀ env, swappedStores [.Tuple elts k tpos] value env = pure none)
  (h : wE C A G ae st value fun a st1 => sb C A G ae st1 (.Tuple elts k tpos) a fun st2 => Q .next st2) : wS C A G ae st (.Assign [.Tuple elts k tpos] value pos) Q := fun κ σ s e X =>
 Assign_Tuple (wpAny_mono (h κ σ s e X) (fun v s1 z => z.go fun κ1 σ1 a st1 k1 p1 X1 r1 q1 =>
  wpAny_mono (q1 κ1 σ1 s1 v (e.mono p1) X1 r1) (fun _ s2 z => z.go fun κ2 σ2 _ st2 k2 p2 X2 _ q2 => ⟨κ2, σ2, .next, st2, k1.trans k2, p1.trans p2, X2, rfl, q2⟩) fun _ _ z => z) fun _ _ z => z) (hs _) (hw _)
theorem Gs {x y z : Str} {px py pz pos : Pos} {k : Nat} {a b c : D} {Q : List ac -> Prop} (hh : A.handled = none) (h : dx C A G ae st x (.d a) fun st1 => dx C A G ae st1 y (.d b) fun st2 => dx C A G ae st2 z (.d c) Q) :
  sb C A G ae st (.Tuple [.Name x px, .Name y py, .Name z pz] k pos) (.d (.tuple [a, b, c])) Q := fun κ σ s v e X r => by
 refine byC fun hC1 => ?_
 obtain ⟨t, items, rfl, ht, hr⟩ := R.tupAt r X.keep
 refine hC1 ?_
 have hl := hr.length
 refine wpAny_assign_Tuple hh ht (by rw [<- Array.length_toList, hl]; rfl) rfl fun h' he => ?_
 have X' := X.keeps (s' := { s with heap := h' }) (xf he) rfl rfl
 refine byC fun hC2 => ?_
 obtain ⟨v1, h1, r1⟩ := hr.get (i := 0) rfl
 obtain ⟨v2, h2, r2⟩ := hr.get (i := 1) rfl
 obtain ⟨v3, h3, r3⟩ := hr.get (i := 2) rfl
 refine hC2 ?_
 have e1 : items.toList = [v1, v2, v3] := by
  obtain ⟨u1, u2, u3, q⟩ := K6 hl
  rw [q] at h1 h2 h3 ⊢; cases h1; cases h2; cases h3; rfl
 rw [e1]
 refine (?_ : wpAny _ _ (assignInOrder [assign (.Name x px) G.env, assign (.Name y py) G.env, assign (.Name z pz) G.env] [v1, v2, v3]) _ _ _)
 refine assignInOrder_cons (assign_Name (wpAny_mono (h κ σ _ v1 e X' r1) (fun _ s1 z => z.go fun κ1 σ1 _ st1 k1 p1 X1 _ q1 => ?_) fun _ _ z => z))
 refine assignInOrder_cons (assign_Name (wpAny_mono (q1 κ1 σ1 s1 v2 (e.mono p1) X1 (r2.mono k1)) (fun _ s2 z => z.go fun κ2 σ2 _ st2 k2 p2 X2 _ q2 => ?_) fun _ _ z => z))
 refine assignInOrder_cons (assign_Name (wpAny_mono (q2 κ2 σ2 s2 v3 (e.mono (p1.trans p2)) X2 (r3.mono (k1.trans k2))) (fun _ s3 z => z.go fun κ3 σ3 _ st3 k3 p3 X3 _ q3 => ?_) fun _ _ z => z))
 exact assignInOrder_nil ⟨κ3, σ3, (), st3, (k1.trans k2).trans k3, (p1.trans p2).trans p3, X3, trivial, q3⟩
end
structure Nl (C : Cx) (f : Value) : Prop where
 glob : ag C "_law_rows" f
 ok : ∀ bd : List Bool, bd.length = 33 -> et C (fun _ => none) C.P0 4 f [.d (.list (bd.map .bool))] [] [] fun r => r = PyData.tuple [lz (bc (da bd) 32), bt (cf (da bd) 32), .bool true]
noncomputable def Dz (ws told : List Str) : List Bool := ws.map fun w => told.any (· == w)
noncomputable def inG (told : List Str) : D -> Option D
 | .str w => some (.bool (told.any (· == w)))
 | _ => none
theorem Lu (ws told : List Str) : (ws.map PyData.str).filterMap (inG told) = (Dz ws told).map .bool := by
 unfold Dz
 induction ws with
 | nil => rfl
 | cons w r ih => exact congrArg (PyData.bool (told.any (· == w)) :: ·) ih
section
variable {C : Cx} {A : Around} {G : Gd} {cd : Value} {ql : Str} {v : LV} {ext : List ac} {S : List Int} {Q : AF -> List ac -> Prop}
set_option maxHeartbeats 4000000 in
theorem s9 {n : Nat} (hA : AOk A (n + 4)) {rf : Value} (Rg : Nl C rf) (hv : d9 v ext) {told : List Str} (hw : v.words = some (g8 bj)) (ht : v.told = some (g8 told))
  (q : Q .next (lst (v.sRows3 (some (lz (bc (da (Dz bj told)) 32))) (some (bt (cf (da (Dz bj told)) 32))) (some (.bool true))) ext)) : wS C A G (lae cd ql) (lst v ext) (stm 9) Q := by
 have hsz := sizeLine_eq
 refine zi (fun _ => rfl) (fun _ => rfl) ?_
 refine dq (fun _ => rfl) (ao 32 Rg.glob rfl ?_)
 refine nf (its := bj.map .str) (st2 := lst v ext) [("told", 4)] (inG told) rfl ⟨rfl, by decide +kernel, by decide +kernel⟩ rfl (by show (([("told", 4)] : List (Str × Nat)).map (·.1)).Nodup; decide +kernel) (fun _ _ => rfl)
  (Ce hA.handled (aw 4 7 2 rfl rfl (bn hw) ⟨rfl, rfl⟩)) (by rw [List.length_map, ic, hsz]; decide) (bo hv) (fz.of rfl rfl rfl (bo hv) ?_) ?_
 ·intro φ' E' env' d acc hdd hef
  refine byC fun hC1 => ?_
  obtain ⟨w, hwm, rfl⟩ := List.mem_map.mp hdd
  refine hC1 ?_
  refine gx ?_
  simp only [if_true]
  refine lq rfl (aa 1 rfl kl rfl rfl (aw 2 0 4 rfl rfl (bn ht) (y9 (ns := told) rfl ?_)))
  exact ⟨_, rfl, rfl, [], (List.append_nil _).symm⟩
 ·rw [Lu]
  refine e7 (n := 4) (Rg.ok (Dz bj told) (by unfold Dz; rw [List.length_map, ic])) (hA.mono (by lia)) (pj trivial) (fun a ha => nomatch ha) ?_
  rintro d rfl
  refine Gs hA.handled ?_
  refine eg 9 4 5 rfl rfl rfl ?_
  refine eg 10 3 6 rfl rfl rfl ?_
  exact af 11 rfl rfl rfl q
end
end Mine
end
section
open PySem PySem.Calls PyProof.Rows PySem.W PySem.SeqAt PyProof.V
set_option maxRecDepth 100000
namespace Mine
noncomputable abbrev Pb (st2 : List ac) (scope : Scope) (acc : List D) (a b : D) : List ac := st2 ++ .list (acc.map .d) :: .ns (scope.names.map (·.1)) (((List.replicate scope.names.length none).set 1 (some (.d a))).set 2 (some (.d b))) :: []
section
variable {C : Cx} {A : Around} {G : Gd} {ae : a9} {st : List ac}
theorem fz.of2 {scope : Scope} {ca : List (Str × Nat)} {st2 : List ac} {x y : Str} {px py p : Pos} {kk : Nat} {elt : Expr} {ifs : List Expr} {ds : List D} {i0 : Nat} {g : D -> Option D} (hh : A.handled = none) (hnc : ar scope.names = 0) (h1 : (fk scope ae.scope).names[1]? = some (x, .local)) (h1' : (scope.names.map (·.1))[1]? = some x) (h2 : (fk scope ae.scope).names[2]? = some (y, .local)) (h2' : (scope.names.map (·.1))[2]? = some y) (hcl : c6 st2)
  (h : ∀ φ' E' env' (k : Nat) b (acc : List D), ds[k]? = some b -> env'.frame = G.env.frame -> w8 C A ⟨φ', G.κ₀, env', E'⟩ (bg ae scope st2.length ca) (Pb st2 scope acc (.int ((i0 + k : Nat) : Int)) b) ifs fun ok st4 =>
   if ok then wE C A ⟨φ', G.κ₀, env', E'⟩ (bg ae scope st2.length ca) st4 elt fun z st5 => ∃ y, z = .d y /\ g (.tuple [.int ((i0 + k : Nat) : Int), b]) = some y /\ ∃ r, st5 = Pb st2 scope acc (.int ((i0 + k : Nat) : Int)) b ++ r
   else g (.tuple [.int ((i0 + k : Nat) : Int), b]) = none /\ ∃ r, st4 = Pb st2 scope acc (.int ((i0 + k : Nat) : Int)) b ++ r) : fz C A G ae scope ca st2 (.Tuple [.Name x px, .Name y py] kk p) elt ifs (eh i0 ds) g := by
 intro φ' E' env' d acc cs hd hcs hef
 have hcs0 : cs = [] := List.eq_nil_of_length_eq_zero (by rw [hcs, hnc])
 subst hcs0
 refine byC fun hC1 => ?_
 obtain ⟨k, hk, e⟩ := List.getElem_of_mem hd
 obtain ⟨b, hb, rfl⟩ := jj ds i0 k d (by rw [List.getElem?_eq_getElem hk, e])
 refine hC1 ?_
 refine nr hh (af 1 h1 kl h1' ?_)
 rw [show (st2 ++ kt scope acc []) = st2 ++ ac.list (acc.map .d) :: .ns (scope.names.map (·.1)) (List.replicate scope.names.length none) :: [] from rfl, show (bg ae scope st2.length ca).L = st2.length + 1 from rfl, Iz]
 refine af 2 h2 kl h2' ?_
 rw [show (bg ae scope st2.length ca).L = st2.length + 1 from rfl, Iz]
 refine W.mono (h φ' E' env' k b acc hb hef) fun ok st4 q => ?_
 cases ok with
 | false => exact xl hnc hcl q
 | true => exact W.mono q fun a st5 q => z1 hnc hcl q
end
noncomputable def xk (R : List (List Nat)) (n s : Nat) : Nat := bsL (fun i => (((R.getD s []).getD i 0 : Nat) : Int)) (n : Int) (R.getD s []).length 0 (R.getD s []).length
noncomputable def yw (R : List (List Nat)) (n s : Nat) : Nat := bsR (fun i => (((R.getD s []).getD i 0 : Nat) : Int)) (n : Int) (R.getD s []).length 0 (R.getD s []).length
noncomputable def dy (R : List (List Nat)) (row : List Nat) : List Nat := (List.range row.length).map fun n => xk R n (row.getD n 0)
noncomputable def Gj (f : Nat -> Nat -> D) : D -> Option D
 | .tuple [.int a, .int b] => some (f a.toNat b.toNat)
 | _ => none
theorem vr (f : Nat -> Nat -> D) : ∀ (l : List Nat) (i : Nat), (eh i (l.map gj)).filterMap (Gj f) = (List.range l.length).map fun k => f (i + k) (l.getD k 0)
 | [], i => rfl
 | a :: l, i => by
  rw [List.map_cons]
  unfold eh
  rw [List.filterMap_cons]
  simp only [gj, Gj, Int.toNat_natCast]
  have ih := vr f l (i + 1)
  rw [ih, List.length_cons, List.range_succ_eq_map, List.map_cons, List.map_map]
  have e : ((List.range l.length).map fun k => f (i + 1 + k) (l.getD k 0)) = (List.range l.length).map ((fun k => f (i + k) ((a :: l).getD k 0)) ∘ Nat.succ) := by
   refine List.map_congr_left fun k _ => ?_
   refine (?_ : f (i + 1 + k) _ = f (i + (k + 1)) _)
   rw [show i + 1 + k = i + (k + 1) by lia]; rfl
  rw [e]; rfl
structure om (R : List (List Nat)) (row : List Nat) : Prop where
 len : R.length = 33
 few : ∀ r ∈ R, r.length <= 32
 rlen : row.length = 32
 lt : ∀ n, row.getD n 0 < 32
theorem On {l : List Nat} {i : Nat} (h : i < l.length) : ((l.map gj).map AV.d)[i]? = some (.d (.int ((l.getD i 0 : Nat) : Int))) := by
 rw [List.getElem?_map, List.getElem?_map, List.getD_eq_getElem?_getD, List.getElem?_eq_getElem h]; rfl
theorem Fm (r : List Nat) (i : Nat) (d : D) (h : (r.map gj)[i]? = some d) : d = PyData.int ((r.getD i 0 : Nat) : Int) := by
 rw [List.getElem?_map] at h
 obtain ⟨a, h1, rfl⟩ := Option.map_eq_some_iff.mp h
 rw [List.getD_eq_getElem?_getD, h1]; rfl
theorem Ku {R : List (List Nat)} {i : Nat} (h : i < R.length) : ((R.map bt).map AV.d)[i]? = some (.d (bt (R.getD i []))) := by
 rw [List.getElem?_map, List.getElem?_map, List.getD_eq_getElem?_getD, List.getElem?_eq_getElem h]; rfl
theorem n8 {R : List (List Nat)} (h : ∀ r ∈ R, r.length <= 32) (s : Nat) : (R.getD s []).length <= 32 := by
 rw [List.getD_eq_getElem?_getD]
 cases q : R[s]? with
 | none => exact Nat.zero_le _
 | some r => exact h r (List.mem_of_getElem? q)
section
variable {C : Cx} {A : Around} {G : Gd} {cd : Value} {ql : Str} {v : LV} {ext : List ac} {S : List Int} {Q : AF -> List ac -> Prop}
noncomputable abbrev J0 (x : Str) : Scope := { kind := .function, names := [(".0", .local), ("number", .local), ("spot", .local), (x, .globalImplicit), ("rows", .free)], isGenerator := false, isCoroutine := false, more := [] }
theorem Bj {n : Nat} (hA : AOk A (n + 1)) (ge : ag C "enumerate" (.type "enumerate")) {x : Str} {f : Value} (g : ag C x f) (hs : ew (J0 x)) {F : Nat -> Nat -> Nat} (hv : d9 v ext) {R : List (List Nat)} {row : List Nat} (T : om R row) (hR : v.rows = some (lz R)) (hr : v.row = some (bt row))
  (ok : ∀ s m : Nat, et C (fun _ => none) C.P0 1 f [.d (bt (R.getD s [])), .d (.int (m : Int))] [] [] fun r => r = PyData.int (F m s : Int)) {Q : AV -> List ac -> Prop} {p1 p2 p3 p4 p5 p6 p7 p8 p9 p10 p11 p12 p13 : Pos}
  (q : Q (.d (.list ((List.range row.length).map fun k => gj (F k (row.getD k 0))))) (lst v ext)) : wE C A G (lae cd ql) (lst v ext) (.ListComp (.Call (.Name x p1) [.Subscript (.Name "rows" p2) (.Name "spot" p3) p4, .Name "number" p5] [] p6) [⟨.Tuple [.Name "number" p7, .Name "spot" p8] 0 p9, .Call (.Name "enumerate" p10) [.Name "row" p11] [] p12, [], 0⟩] (J0 x) p13) Q := by
 have hsz := sizeLine_eq
 refine nf (its := eh 0 (row.map gj)) (st2 := lst v ext) [("rows", 5)] (Gj fun n s => gj (F n s)) rfl hs rfl (by show (([("rows", 5)] : List (Str × Nat)).map (·.1)).Nodup; decide +kernel) (fun _ _ => rfl)
  (ww 33 hA.handled ge rfl (fun _ => rfl) (aw 10 3 6 rfl rfl (bn hr) ⟨_, .inl rfl, rfl, rfl⟩)) (by rw [dj, List.length_map, T.rlen, hsz]; decide) (bo hv) (fz.of2 hA.handled rfl rfl rfl rfl rfl (bo hv) ?_) ?_
 ·intro φ' E' env' k b acc hb hef
  obtain ⟨s, hs, rfl⟩ := Option.map_eq_some_iff.mp ((List.getElem?_map ..).symm.trans hb)
  have hsl : s < 32 := by
   have := T.lt k
   rw [List.getD_eq_getElem?_getD, hs] at this; exact this
  refine gx (?_ : wE _ _ _ _ _ _ _)
  refine xn (fun _ => rfl) (fun _ => rfl) (ao 3 g rfl (bb (fun _ _ => ⟨_, rfl⟩) (aw 4 0 5 rfl rfl (bn hR) (aa 2 rfl kl rfl rfl ?_))))
  refine cj (l := (R.map bt).map .d) (x := .d (bt (R.getD s []))) rfl (by lia) (by lia) (Ku (Nat.lt_of_lt_of_eq (Nat.lt_succ_of_lt hsl) T.len.symm)) ?_
  refine aa 1 rfl kl rfl rfl ?_
  refine e7 (n := 1) (ok s (0 + k)) (hA.mono (Nat.le_add_left _ _)) (ng trivial trivial) (fun a ha => nomatch ha) ?_
  rintro d rfl
  exact ⟨_, rfl, rfl, [], (List.append_nil _).symm⟩
 ·rw [vr]
  simp only [Nat.zero_add]
  exact q
theorem Jk (hl : ci C) (gl : ag C "len" (.builtin "len")) {bf : Value} {bfd : FuncData} (B : gk C 5 bf bfd) {R : List (List Nat)} (few : ∀ r ∈ R, r.length <= 32) (s m : Nat) : et C (fun _ => none) C.P0 1 bf [.d (bt (R.getD s [])), .d (.int (m : Int))] [] [] fun r => r = PyData.int (xk R m s : Int) := by
 have hf := n8 few s
 have := Pl (nk := 0) hl gl B (φf := fun _ => none) (κf := C.P0) (fun _ _ => rfl) ((R.getD s []).map gj) (m : Int) (by rw [List.length_map]; lia) (fun i => (((R.getD s []).getD i 0 : Nat) : Int)) (Fm _)
 rwa [List.length_map] at this
theorem Ke (hl : ci C) (gl : ag C "len" (.builtin "len")) {bf : Value} {bfd : FuncData} (B : gk C 4 bf bfd) {R : List (List Nat)} (few : ∀ r ∈ R, r.length <= 32) (s m : Nat) : et C (fun _ => none) C.P0 1 bf [.d (bt (R.getD s [])), .d (.int (m : Int))] [] [] fun r => r = PyData.int (yw R m s : Int) := by
 have hf := n8 few s
 have := O0 (nk := 0) hl gl B (φf := fun _ => none) (κf := C.P0) (fun _ _ => rfl) ((R.getD s []).map gj) (m : Int) (by rw [List.length_map]; lia) (fun i => (((R.getD s []).getD i 0 : Nat) : Int)) (Fm _)
 rwa [List.length_map] at this
set_option maxHeartbeats 4000000 in
theorem s10 {n : Nat} (hA : AOk A (n + 1)) (hl : ci C) (gl : ag C "len" (.builtin "len")) (ge : ag C "enumerate" (.type "enumerate")) {bf : Value} {bfd : FuncData} (B : gk C 5 bf bfd) (gb : ag C "bisect_left" bf) (hv : d9 v ext) {R : List (List Nat)} {row : List Nat} (T : om R row) (hR : v.rows = some (lz R)) (hr : v.row = some (bt row))
  (q : Q .next (lst (v.sPlace (some (bt (dy R row)))) ext)) : wS C A G (lae cd ql) (lst v ext) (stm 10) Q := by
 refine xu 14 rfl (Bj hA ge gb ⟨rfl, by decide +kernel, by decide +kernel⟩ hv T hR hr (Jk hl gl B T.few) ?_)
 have e : ((List.range row.length).map fun k => gj (xk R k (row.getD k 0))) = (dy R row).map gj := by
  unfold dy
  rw [List.map_map]; rfl
 rw [e]
 exact eg 14 1 8 rfl rfl rfl q
set_option maxHeartbeats 4000000 in
theorem s14 {n : Nat} (hA : AOk A (n + 1)) (hl : ci C) (gl : ag C "len" (.builtin "len")) (ge : ag C "enumerate" (.type "enumerate")) {bf : Value} {bfd : FuncData} (B : gk C 4 bf bfd) (gb : ag C "bisect_right" bf) (hv : d9 v ext) {R : List (List Nat)} {row : List Nat} (T : om R row) (hR : v.rows = some (lz R)) (hr : v.row = some (bt row)) (hp : v.place = some (bt (dy R row)))
  (hlr : ∀ n, n < 32 -> yw R n (row.getD n 0) = xk R n (row.getD n 0) + 1)
  (q : Q .next (lst v ext)) : wS C A G (lae cd ql) (lst v ext) (stm 14) Q := by
 have hsz := sizeLine_eq
 refine cm (a8 rfl (Bj hA ge gb ⟨rfl, by decide +kernel, by decide +kernel⟩ hv T hR hr (Ke hl gl B T.few) ?_))
 refine nf (its := (dy R row).map gj) (st2 := lst v ext) [] (uj fun t => .int (t + 1)) rfl ⟨rfl, by decide +kernel, by decide +kernel⟩ rfl (by show (([] : List (Str × Nat)).map (·.1)).Nodup; decide +kernel) (fun _ _ => rfl)
  (Ce hA.handled (aw 14 1 8 rfl rfl (bn hp) ⟨rfl, rfl⟩)) (by rw [List.length_map]; unfold dy; rw [List.length_map, List.length_range, T.rlen, hsz]; decide) (bo hv) (fz.of rfl rfl rfl (bo hv) ?_) ?_
 ·intro φ' E' env' d acc hdd hef
  obtain ⟨t, ht, rfl⟩ := List.mem_map.mp hdd
  refine gx ?_
  simp only [if_true]
  exact aj (aa 1 rfl kl rfl rfl (ai (cu ⟨_, rfl, rfl, [], (List.append_nil _).symm⟩)))
 ·have e1 : ((dy R row).map gj).filterMap (uj fun t => .int (t + 1)) = (List.range row.length).map fun k => gj (yw R k (row.getD k 0)) := by
   have e0 : (dy R row).map gj = ((dy R row).map fun (n : Nat) => (n : Int)).map PyData.int := by rw [List.map_map]; rfl
   rw [e0, Gx]
   unfold dy
   rw [List.map_map, List.map_map]
   refine List.map_congr_left fun k hk => ?_
   have hk : k < row.length := List.mem_range.mp hk
   have := hlr k (by rw [<- T.rlen]; exact hk)
   rw [this]
   unfold gj
   simp only [Function.comp]
   rw [Int.natCast_add]; rfl
  rw [e1]
  refine j5 hA (ox (n := 0) fun x hx => ?_) (by decide) (cn (am q))
  obtain ⟨k, _, rfl⟩ := List.mem_map.mp hx
  exact K8
end
end Mine
end
section
open PySem PySem.Calls PyProof.Rows PySem.W PySem.SeqAt PyProof.V
set_option maxRecDepth 100000
namespace Mine
noncomputable def wk (n : Nat) : Nat := (Builtin.bitAnd (n : Int) (-(n : Int))).toNat
theorem Mq : ∀ n : Fin 32, 1 <= (n : Nat) -> Builtin.bitAnd ((n : Nat) : Int) (-((n : Nat) : Int)) = ((wk n : Nat) : Int) /\ wk n <= (n : Nat) := by decide +kernel
theorem Gb {m : Nat} (h1 : 1 <= m) (h2 : m < 32) : Builtin.bitAnd (m : Int) (-(m : Int)) = ((wk m : Nat) : Int) /\ wk m <= m := Mq ⟨m, h2⟩ h1
noncomputable def qe (l : List Nat) : Prop := ∀ n, 1 <= n -> n < 32 -> l.getD n 0 = l.getD (wk n) 0 ^^^ l.getD (n - wk n) 0
noncomputable def ia (S : List Int) : List Str := if (bh S != cb S || cb S == 0) = true then [g0 (bh S - cb S)] else []
noncomputable def Kh (low : Int) (ws : List Str) : D -> Option D
 | .int f => if Builtin.bitAnd (low.fdiv (2 ^ f.toNat)) 1 != 0 then some (.str (ws.getD f.toNat Str.empty)) else none
 | _ => none
noncomputable def gw (low : Int) (ws : List Str) : List Str := (List.range 32).filterMap fun f => if Builtin.bitAnd (low.fdiv (2 ^ f)) 1 != 0 then some (ws.getD f Str.empty) else none
theorem Kv (low : Int) (ws : List Str) : (fb 0 32).filterMap (Kh low ws) = (gw low ws).map .str := by
 unfold fb gw
 rw [List.filterMap_map]
 generalize List.range 32 = l
 induction l with
 | nil => rfl
 | cons f l ih =>
  rw [List.filterMap_cons, List.filterMap_cons, ih]
  simp only [Function.comp, Kh]
  rw [show ((0 : Int) + (f : Int)).toNat = f by lia]
  cases Builtin.bitAnd (low.fdiv (2 ^ f)) 1 != 0 <;> rfl
theorem Ot {l : List Str} {i : Nat} (h : i < l.length) : ((l.map PyData.str).map AV.d)[i]? = some (.d (.str (l.getD i Str.empty))) := by
 rw [List.getElem?_map, List.getElem?_map, List.getD_eq_getElem?_getD, List.getElem?_eq_getElem h]; rfl
theorem Br (low : Int) : ∀ w ∈ gw low bj, w ∈ bj := fun w hw => by
 unfold gw at hw
 obtain ⟨f, hf, e⟩ := List.mem_filterMap.mp hw
 split at e
 ·cases e
  have hf : f < 32 := List.mem_range.mp hf
  rw [List.getD_eq_getElem?_getD, List.getElem?_eq_getElem (by rw [ic]; lia)]
  exact List.getElem_mem _
 ·cases e
section
variable {C : Cx} {A : Around} {G : Gd} {cd : Value} {ql : Str} {v : LV} {ext : List ac} {S : List Int} {Q : AF -> List ac -> Prop}
theorem te {l : List Nat} (hl : l.length = 32) {Q : AV -> List ac -> Prop} {st : List ac} (n : Nat) (hn : n < 32) (q : Q (.d (.int ((l.getD n 0 : Nat) : Int))) st) : Gh C A G st (.d (bt l)) (.d (.int (n : Int))) Q :=
 cj (l := (l.map gj).map .d) (x := .d (.int ((l.getD n 0 : Nat) : Int))) rfl (by lia) (by lia) (by rw [Int.toNat_natCast]; exact On (by lia)) q
theorem wz {w : LV} {ext : List ac} (h : d9 w ext) : Sub (lst w ext).length (lst w ext) (lst w ext) := Fi rfl fun x hx => by
 obtain ⟨i, hi, e⟩ := List.getElem_of_mem hx
 exact bo h i x (by rw [List.getElem?_eq_getElem hi, e])
noncomputable abbrev C2 (v : LV) (a b : Option D) : LV := { v with number := a, flag := b }
theorem Fh {l : List Nat} (hl : l.length = 32) {x : Str} (i j k : Nat) (hx : (aq PySem.Challenge.pw_wb0027_01 18).names[i]? = some (x, NameKind.cell)) (hc : K1[j]? = some (x, k)) (hv : (lst v ext)[k]? = some (.cell (some (.d (bt l))))) {m f : Nat} (hm : m < 32) (hf : f <= m) (hn : v.number = some (.int (m : Int))) (hfl : v.flag = some (.int (f : Int))) (e : l.getD m 0 = l.getD f 0 ^^^ l.getD (m - f) 0) {Q : Bool -> List ac -> Prop} {p1 p2 p3 p4 p5 p6 p7 p8 p9 p10 p11 p12 p13 : Pos}
  (q : Q false (lst v ext)) : wB C A G (lae cd ql) (lst v ext) (.Compare (.Subscript (.Name x p1) (.Name "number" p2) p3) [.NotEq] [.BinOp (.Subscript (.Name x p4) (.Name "flag" p5) p6) .BitXor (.Subscript (.Name x p7) (.BinOp (.Name "number" p8) .Sub (.Name "flag" p9) p10) p11) p12] p13) Q := by
 refine a8 rfl (bb (fun _ _ => ⟨_, rfl⟩) (aw i j k hx hc hv (aa 12 rfl rfl rfl (b7 hn) (te hl m hm ?_))))
 refine aj (bb (fun _ _ => ⟨_, rfl⟩) (aw i j k hx hc hv (aa 5 rfl rfl rfl (b7 hfl) (te hl f (Nat.lt_of_le_of_lt hf hm) ?_))))
 refine bb (fun _ _ => ⟨_, rfl⟩) (aw i j k hx hc hv (aj (aa 12 rfl rfl rfl (b7 hn) (aa 5 rfl rfl rfl (b7 hfl) (nb ?_)))))
 rw [<- Int.ofNat_sub hf]
 refine te hl (m - f) (Nat.lt_of_le_of_lt (Nat.sub_le _ _) hm) (Da ?_)
 rw [pk, <- e]
 refine tw (cn ?_)
 rw [bne_self_eq_false]
 exact q
inductive Q5 (v : LV) (ext : List ac) (st : List ac) : Prop
 | mk (a b : Option D) (hs : st = lst (C2 v a b) ext)
set_option maxHeartbeats 4000000 in
theorem s11 {n : Nat} (hA : AOk A n) (gr : ag C "range" (.type "range")) (hv : d9 v ext) {row pl : List Nat} (hrl : row.length = 32) (hpl : pl.length = 32) (hr : v.row = some (bt row)) (hp : v.place = some (bt pl)) (Fr : qe row) (Fp : qe pl)
  (q : ∀ a b, Q .next (lst (C2 v a b) (ext ++ [.raw (ap 1 32)]))) : wS C A G (lae cd ql) (lst v ext) (stm 11) Q := by
 refine qk (lst v (ext ++ [.raw (ap 1 32)])).length (fb 1 31) (fun _ => Q5 v (ext ++ [.raw (ap 1 32)])) (fun _ _ => rfl) ?_ ?_ ?_ ?_
 ·rintro k st1 ⟨a, b, rfl⟩; rfl
 ·refine jq (xn (fun _ => rfl) (fun _ => rfl) (ao 31 gr rfl (ai (ai (db (x5 ?_))))))
  exact il (i := (lst v ext).length) (a := 1) (b := 32) hA.handled (by simp) (by lia) (by lia) ⟨rfl, _, _, rfl⟩
 ·rintro φ' E' k x st1 hx ⟨a, b, rfl⟩
  obtain ⟨rfl, hk⟩ := j1 hx
  obtain ⟨m, h1, hm, hme⟩ : ∃ m : Nat, 1 <= m /\ m < 32 /\ (1 : Int) + (k : Int) = (m : Int) := ⟨1 + k, by lia, by lia, by lia⟩
  obtain ⟨hb1, hb2⟩ := Gb h1 hm
  have f1 := Fr m h1 hm
  have f2 := Fp m h1 hm
  rw [hme]
  generalize wk m = f at hb1 hb2 f1 f2
  refine d8 (af 12 rfl rfl rfl ?_)
  refine (?_ : wSs _ _ _ _ (lst (C2 v (some (.int (m : Int))) b) (ext ++ [.raw (ap 1 32)])) _ _)
  refine ah (al (fun _ => rfl) (aj (aa 12 rfl rfl rfl rfl (F3 (aa 12 rfl rfl rfl rfl (F2 (zf ?_)))))))
  rw [hb1]
  refine af 5 rfl rfl rfl ?_
  refine (?_ : wSs _ _ _ _ (lst (C2 v (some (.int (m : Int))) (some (.int (f : Int)))) (ext ++ [.raw (ap 1 32)])) _ _)
  refine ah (cm (rm (iw (Fh (v := C2 v (some (.int (m : Int))) (some (.int (f : Int)))) hrl 10 3 6 rfl rfl (bn hr) hm hb2 rfl rfl f1 ?_))))
  rw [if_neg (by decide)]
  refine iw (Fh (v := C2 v (some (.int (m : Int))) (some (.int (f : Int)))) hpl 14 1 8 rfl rfl (bn hp) hm hb2 rfl rfl f2 ?_)
  rw [if_neg (by decide)]
  refine i5 (am (am ⟨_, wz (w := C2 v (some (.int (m : Int))) (some (.int (f : Int)))) ((hv.more dh).up rfl), _, _, rfl⟩))
 ·rintro E' st1 ⟨a, b, rfl⟩
  exact am (q a b)
theorem s12 (gh : ag C "hex" (.builtin "hex")) (hm : v.mask = some (.int (bh S))) (hlo : v.low = some (.int (cb S))) (hx : (g0 (bh S - cb S)).length <= 100)
  (q : Q .next (lst (v.sRest (some (g8 (ia S)))) ext)) : wS C A G (lae cd ql) (lst v ext) (stm 12) Q := by
 have hsz := sizeLine_eq
 have hr : ia S = if (bh S != cb S || cb S == 0) = true then [g0 (bh S - cb S)] else [] := rfl
 have yes : (bh S != cb S || cb S == 0) = true -> wE C A G (lae cd ql) (lst v ext) (.List [.Call (.Name "hex" ⟨142, 12, 142, 15⟩) [.BinOp (.Name "mask" ⟨142, 16, 142, 20⟩) .Sub (.Name "low" ⟨142, 23, 142, 26⟩) ⟨142, 16, 142, 26⟩] [] ⟨142, 12, 142, 27⟩] ⟨142, 11, 142, 28⟩) fun a st1 => dx C A G (lae cd ql) st1 "rest" a fun st2 => Q .next st2 := by
  intro h
  rw [if_pos h] at hr
  refine jv (ad (fun _ => rfl) (dq (fun _ => rfl) (ao 34 gh rfl (aj (aa 7 rfl rfl rfl (b7 hm) (aw 6 6 3 rfl rfl (bn hlo) (nb ?_)))))))
  refine d7 (Ea (by rw [hsz]; exact Nat.le_trans hx (by decide)) (ak ⟨[.str (g0 (bh S - cb S))], rfl, by rw [hsz]; exact Nat.le_of_ble_eq_true rfl, ?_⟩))
  refine af 15 rfl rfl rfl ?_
  rw [hr] at q
  exact q
 refine al (fun _ => rfl) (Nk (rm (iw (a8 rfl (aa 7 rfl rfl rfl (b7 hm) (aw 6 6 3 rfl rfl (bn hlo) (tw (cn ?_))))))))
 cases h1 : (bh S != cb S) with
 | true => rw [if_pos rfl, if_pos rfl]; exact yes (by rw [h1]; rfl)
 | false =>
  rw [if_neg (by decide)]
  refine iw (a8 rfl (aw 6 6 3 rfl rfl (bn hlo) (ai (Ni (cn ?_)))))
  cases h2 : (cb S == 0) with
  | true => rw [if_pos rfl, if_pos rfl]; exact yes (by rw [h1, h2]; rfl)
  | false =>
   rw [if_neg (by decide)]
   refine i5 ?_
   rw [if_neg (by decide)]
   refine jv (ak ⟨[], rfl, by rw [hsz]; exact Nat.le_of_ble_eq_true rfl, ?_⟩)
   refine af 15 rfl rfl rfl ?_
   rw [hr, h1, h2] at q
   exact q
set_option maxHeartbeats 4000000 in
theorem s13 {n : Nat} (hA : AOk A n) (gr : ag C "range" (.type "range")) (hv : d9 v ext) (hf : v.first = some (.bool true)) (ht : v.told = some (g8 (an (bh S)))) (hw : v.words = some (g8 bj)) (hlo : v.low = some (.int (cb S))) (hre : v.rest = some (g8 (ia S)))
  (hsame : an (bh S) = gw (cb S) bj ++ ia S) (hsh : ∀ w ∈ ia S, (PyData.str w).canLay0 = true)
  (q : Q .next (lst v (ext ++ [.raw (ap 0 32)]))) : wS C A G (lae cd ql) (lst v ext) (stm 13) Q := by
 have hsz := sizeLine_eq
 have hv2 := hv.more (x := .raw (ap 0 32)) dh
 refine cm (rm (iw (Kb (sv (fun _ _ => rfl) (aa 11 rfl rfl rfl (b7 hf) (cn ?_))))))
 refine iw (a8 rfl (aw 8 5 4 rfl rfl (bn ht) (aj ?_)))
 refine nf (its := fb 0 32) (st2 := lst v (ext ++ [.raw (ap 0 32)])) [("words", 2), ("low", 3)] (Kh (cb S) bj) rfl ⟨rfl, by decide +kernel, by decide +kernel⟩ rfl (by show (([("words", 2), ("low", 3)] : List (Str × Nat)).map (·.1)).Nodup; decide +kernel) (fun _ _ => rfl)
  (ln 31 gr rfl hA.handled (by decide)) (by rw [qw, hsz]; decide) (bo hv2) (fz.of rfl rfl rfl (bo hv2) ?_) ?_
 ·intro φ' E' env' d acc hdd hef
  obtain ⟨f, hfm, rfl⟩ := List.mem_map.mp hdd
  have hf32 : f < 32 := List.mem_range.mp hfm
  rw [show ((0 : Int) + (f : Int)) = (f : Int) by lia]
  refine xe (sv (fun _ _ => rfl) (aj (aj (aw 2 1 3 rfl rfl (bn hlo) (aa 1 rfl kl rfl rfl (Pc (by lia) (ai (zf (Lz ?_)))))))))
  rw [Int.toNat_natCast]
  cases hb : (Builtin.bitAnd ((cb S).fdiv (2 ^ f)) 1 != 0) with
  | false => exact ⟨by simp [Kh, hb], [], (List.append_nil _).symm⟩
  | true =>
   refine bb (fun _ _ => ⟨_, rfl⟩) (aw 3 0 2 rfl rfl (bn hw) (aa 1 rfl kl rfl rfl ?_))
   refine cj (l := (bj.map PyData.str).map .d) (x := .d (.str (bj.getD f Str.empty))) rfl (by lia) (by lia) (by rw [Int.toNat_natCast]; exact Ot (by rw [ic]; lia)) ?_
   exact ⟨_, rfl, by simp [Kh, hb], [], (List.append_nil _).symm⟩
 ·rw [Kv]
  have hll : (gw (cb S) bj).length <= 32 := by
   have := List.length_filterMap_le (fun f => if (Builtin.bitAnd ((cb S).fdiv (2 ^ f)) 1 != 0) = true then some (bj.getD f Str.empty) else none) (List.range 32)
   rwa [List.length_range] at this
  have hrl : (ia S).length <= 1 := by unfold ia; split <;> simp
  refine aa 15 rfl rfl rfl (b7 hre) (Jw (l := (gw (cb S) bj).map .str) (m := (ia S).map .str) rfl rfl (by rw [hsz, List.length_map, List.length_map]; lia) ?_)
  rw [<- List.map_append, <- hsame]
  refine j5 hA (x := g8 (an (bh S))) (ox (n := 0) fun x hx => ?_) (by decide) (cn ?_)
  ·obtain ⟨w, hwm, rfl⟩ := List.mem_map.mp hx
   rw [hsame] at hwm
   rcases List.mem_append.mp hwm with h | h
   ·exact ts (mv w (Br _ w h))
   ·exact ts (hsh w h)
  ·rw [if_neg (by decide)]
   exact i5 (am q)
end
end Mine
end
section
open PySem PySem.Calls PyProof.Rows PySem.W PySem.SeqAt PyProof.V
set_option maxRecDepth 100000
namespace Mine
structure vm (C : Cx) (f : Value) : Prop where
 glob : ag C "_law_reply" f
 ok : ∀ port number : Int, port.natAbs <= 100000 -> number.natAbs <= 100000 -> et C (fun _ => none) C.P0 1 f [.d (.int port), .d (.int number)] [] [] fun r => r = PyData.str (jd port number)
noncomputable def ga (s : Nat) (r : List Nat) : List (Nat × Nat) := (List.range r.length).map fun t => (32 * s + t, r.getD t 0)
noncomputable def au (R : List (List Nat)) (k : Nat) : List (Nat × Nat) := (List.range k).flatMap fun s => ga s (R.getD s [])
noncomputable def Ly (p : Nat × Nat) : Str := jd (p.1 : Int) (p.2 : Int)
noncomputable def l9 (p : Nat × Nat) : D := .str (Ly p)
theorem j2 (R : List (List Nat)) (k : Nat) : au R (k + 1) = au R k ++ ga k (R.getD k []) := by
 unfold au
 rw [List.range_succ, List.flatMap_append]
 simp
theorem sy {R : List (List Nat)} (h : ∀ r ∈ R, r.length <= 32) : ∀ k, (au R k).length <= 32 * k
 | 0 => Nat.le_refl _
 | k + 1 => by
  rw [j2, List.length_append]
  have h1 := sy h k
  have h2 := n8 h k
  have h3 : (ga k (R.getD k [])).length = (R.getD k []).length := by simp [ga]
  lia
section
variable {C : Cx} {A : Around} {G : Gd} {cd : Value} {ql : Str} {v : LV} {ext : List ac} {S : List Int} {Q : AF -> List ac -> Prop}
theorem s15 (q : Q .next (lst (v.sReplies (some (10 + ext.length))) (ext ++ [.list []]))) : wS C A G (lae cd ql) (lst v ext) (stm 15) Q := by
 refine al (fun _ => rfl) (qh (ak ⟨Nat.zero_le _, ?_⟩))
 rw [ir, rg]
 exact af 17 rfl rfl rfl q
noncomputable abbrev Db (v : LV) (a b : Option D) : LV := { v with spot := a, line := b }
theorem d9.swap {v : LV} {ext : List ac} {x y : ac} (h : d9 v (ext ++ [x])) (hy : y.below (10 + (ext ++ [x]).length)) : d9 v (ext ++ [y]) := by
 refine ⟨fun i e => ?_, fun z hz => ?_⟩
 ·have := h.replies i e; simpa using this
 ·rcases List.mem_append.mp hz with hz | hz
  ·have := h.ext z (List.mem_append_left _ hz); simpa using this
  ·simp at hz; subst hz; simpa using hy
inductive Q4 (v : LV) (R : List (List Nat)) (ext : List ac) (k : Nat) (st : List ac) : Prop
 | mk (a b : Option D) (hs : st = lst (Db v a b) (ext ++ [.list (((au R k).map l9).map .d)]))
set_option maxHeartbeats 4000000 in
theorem s16 {n : Nat} (hA : AOk A (n + 1)) (ge : ag C "enumerate" (.type "enumerate")) {rf : Value} (Rg : vm C rf) (hv : d9 v (ext ++ [.list []])) {R : List (List Nat)} (hR : R.length = 33) (few : ∀ r ∈ R, r.length <= 32) (small : ∀ r ∈ R, ∀ x ∈ r, x < 32) (hrows : v.rows = some (lz R)) (hre : v.replies = some (10 + ext.length))
  (q : ∀ a b, Q .next (lst (Db v a b) (ext ++ [.list (((au R 33).map l9).map .d)]))) : wS C A G (lae cd ql) (lst v (ext ++ [.list []])) (stm 16) Q := by
 have hsz := sizeLine_eq
 have hed : (eh 0 (R.map bt)).length = 33 := by rw [dj, List.length_map, hR]
 refine qk (lst v (ext ++ [.list []])).length (eh 0 (R.map bt)) (Q4 v R ext) (fun _ _ => rfl) ?_ ?_ ?_ ?_
 ·rintro k st1 ⟨a, b, rfl⟩; rw [ir, ir]; simp
 ·exact ww 33 hA.handled ge rfl (fun _ => rfl) (aw 9 4 5 rfl rfl (bn hrows) ⟨_, .inl rfl, rfl, v.spot, v.line, rfl⟩)
 ·rintro φ' E' k x st1 hx ⟨a, b, rfl⟩
  have hk : k < 33 := by have := (List.getElem?_eq_some_iff.mp hx).1; lia
  obtain ⟨y, hy, rfl⟩ := jj _ _ _ _ hx
  rw [List.getElem?_map] at hy
  obtain ⟨r, hr, rfl⟩ := Option.map_eq_some_iff.mp hy
  have hrm := List.mem_of_getElem? hr
  have hrd : R.getD k [] = r := by rw [List.getD_eq_getElem?_getD, hr]; rfl
  have hrl := few r hrm
  have hrs := small r hrm
  rw [Nat.zero_add]
  refine nr hA.handled (eg 13 2 7 rfl rfl rfl ?_)
  refine af 18 rfl rfl rfl ?_
  refine (?_ : wSs _ _ _ _ (lst (Db v (some (.int (k : Int))) (some (bt r))) (ext ++ [.list (((au R k).map l9).map .d)])) _ _)
  have hv3 : d9 (Db v (some (.int (k : Int))) (some (bt r))) (ext ++ [.list (((au R k).map l9).map .d)]) := (hv.swap qp).up rfl
  refine ah (lu (fun _ => rfl) ?_)
  refine jo F.plainAttrs_list F.slot_list_extend F.type_list_extend ?_ ?_ ?_ ?_
  ·exact fun _ _ => x8 ..
  ·exact fun _ => rfl
  ·rfl
  refine aa 17 rfl rfl rfl (J2 hre) ⟨f8 z9, ?_⟩
  refine nf (its := eh 0 (r.map gj)) (st2 := lst (Db v (some (.int (k : Int))) (some (bt r))) (ext ++ [.list (((au R k).map l9).map .d)])) [("spot", 7)] (Gj fun t x => l9 (32 * k + t, x)) rfl ⟨rfl, by decide +kernel, by decide +kernel⟩ rfl (by show (([("spot", 7)] : List (Str × Nat)).map (·.1)).Nodup; decide +kernel) (fun _ _ => rfl)
   (ww 33 hA.handled ge rfl (fun _ => rfl) (aa 18 rfl rfl rfl rfl ⟨_, .inl rfl, rfl, rfl⟩)) (by rw [dj, List.length_map, hsz]; lia) (bo hv3) (fz.of2 hA.handled rfl rfl rfl rfl rfl (bo hv3) ?_) ?_
  ·intro φ2 E2 env2 t b2 acc hb hef
   have htl : t < r.length := by have := (List.getElem?_eq_some_iff.mp hb).1; simpa using this
   rw [List.getElem?_map] at hb
   obtain ⟨x, hx2, rfl⟩ := Option.map_eq_some_iff.mp hb
   have hx32 : x < 32 := hrs x (List.mem_of_getElem? hx2)
   refine gx ?_
   simp only [if_true]
   rw [Nat.zero_add]
   refine xn (fun _ => rfl) (fun _ => rfl) (ao 3 Rg.glob rfl (aj (aj (ai (aw 4 0 7 rfl rfl rfl (m0 (i2 (by decide)) (aa 1 rfl kl rfl rfl (cu ?_))))))))
   rw [show (32 * (k : Int) + (t : Int)) = ((32 * k + t : Nat) : Int) by lia]
   refine aa 2 rfl kl rfl rfl ?_
   refine e7 (n := 1) (Rg.ok ((32 * k + t : Nat) : Int) (x : Int) (by lia) (by lia)) (hA.mono (by lia)) (ng trivial trivial) (fun a ha => nomatch ha) ?_
   rintro d rfl
   refine ⟨_, rfl, ?_, [], (List.append_nil _).symm⟩
   simp only [gj, Gj, Int.toNat_natCast]
   rfl
  ·have e : (eh 0 (r.map gj)).filterMap (Gj fun t x => l9 (32 * k + t, x)) = (ga k (R.getD k [])).map l9 := by
    rw [vr, hrd]
    unfold ga
    rw [List.map_map]
    refine List.map_congr_left fun t _ => ?_
    rw [Nat.zero_add]; rfl
   rw [e]
   have h1 := sy few k
   have h3 : (ga k (R.getD k [])).length = r.length := by rw [hrd]; simp [ga]
   refine se (l := ((au R k).map l9).map .d) (m := (ga k (R.getD k [])).map l9) z9 rfl (by intro h; cases h) (by rw [List.length_map, List.length_map, List.length_map]; lia) ?_
   rw [<- List.map_append, <- List.map_append, <- j2, Fs]
   refine am ⟨_, ?_, some (.int (k : Int)), some (bt r), rfl⟩
   have hv4 : d9 (Db v (some (.int (k : Int))) (some (bt r))) (ext ++ [.list (((au R (k + 1)).map l9).map .d)]) := (hv.swap qp).up rfl
   have hs := wz hv4
   have hn : (lst v (ext ++ [ac.list []])).length = (lst (Db v (some (.int (k : Int))) (some (bt r))) (ext ++ [.list (((au R (k + 1)).map l9).map .d)])).length := by rw [ir, ir]; simp
   rw [hn]
   exact hs
 ·rintro E' st1 ⟨a, b, rfl⟩
  rw [hed]
  exact am (q a b)
end
end Mine
end
section
open PySem PySem.Calls PyProof.Rows PySem.W PySem.SeqAt PyProof.V
set_option maxRecDepth 100000
namespace Mine
theorem M2 {C : Cx} {A : Around} {G : Gd} {st : List ac} {l : List D} (hl : l.length <= 100000) {Q : Bool -> List ac -> Prop} (q : Q (!l.isEmpty) st) : wTr C A G st (.d (.list l)) Q := fun κ σ s va X r => by
 refine byC fun hC1 => ?_
 obtain ⟨x, o, vs, n, rfl, ho, hc, hd, hdat, hr⟩ := i3.get (st := st) (a := .d (.list l)) (l := l) rfl X r
 refine hC1 ?_
 have hle := hr.length
 refine wpAny_truthy_list (items := vs) ⟨o, ho, hc, n, hdat⟩ (by rw [<- Array.length_toList, hle]; lia) ?_
 refine PA.ret (b := !l.isEmpty) (X.toks _ _) ?_ q
 refine (?_ : (!vs.isEmpty) = (!l.isEmpty))
 congr 1
 cases l with
 | nil => cases vs; simp at hle; subst hle; rfl
 | cons a l => cases vs with | mk xs => cases xs with | nil => simp at hle | cons => rfl
structure Mx (C : Cx) (f : Value) : Prop where
 glob : ag C "_law_sum" f
 ok : ∀ one two : Int, i7 one -> i7 two -> ∀ ws : List Str, ws.length <= 1000 -> et C (fun _ => none) C.P0 5 f [.d (.int one), .d (.int two), .d (.list (ws.map .str))] [] [] fun r => r = PyData.tuple [.list ((du ws (an one) (an two)).map .str), .int ((du ws (an one) (an two)).map fun w => (1 : Int) * 2 ^ (ws.idxOf w)).sum]
structure rn (C : Cx) (f : Value) : Prop where
 glob : ag C "_law_port" f
 ne : (f == Value.none) = false
 ok : ∀ x n, j3 x n -> et C (fun _ => none) C.P0 2 f [.d (.str x)] [] [] fun r => r = PyData.int n
noncomputable def ze (S : List Int) (t : Nat) : Nat := (((l0 S).fdiv (7 ^ t)).fmod 32).toNat
noncomputable def ut (S : List Int) (t : Nat) : Nat := (((dr S).fdiv (5 ^ t) + 11 * (t : Int)).fmod 32).toNat
theorem lh (x : Int) : x.fmod 32 = (((x.fmod 32).toNat : Nat) : Int) /\ (x.fmod 32).toNat < 32 := by
 have h1 := Int.fmod_nonneg_of_pos x (b := 32) (by decide)
 have h2 := Int.fmod_lt_of_pos x (b := 32) (by decide)
 lia
noncomputable def ba (row pl : List Nat) (n : Nat) : Nat := 32 * row.getD n 0 + pl.getD n 0
noncomputable def gu (R : List (List Nat)) (i : Nat) : Int := ((((au R 33).getD i (0, 0)).1 : Nat) : Int)
structure jt (R : List (List Nat)) : Prop where
 parse : ∀ q ∈ au R 33, j3 (Ly q) (q.1 : Int)
 shape : ∀ q ∈ au R 33, (PyData.str (Ly q)).canLay0 = true
structure Dc (R : List (List Nat)) (row pl : List Nat) (a b : Nat) : Prop where
 small : ba row pl a ^^^ ba row pl b <= 2000
 f1 : i7 (ba row pl a : Int)
 f2 : i7 (ba row pl b : Int)
 sum : ((du bj (an (ba row pl a : Int)) (an (ba row pl b : Int))).map fun w => (1 : Int) * 2 ^ (bj.idxOf w)).sum = ((ba row pl a ^^^ ba row pl b : Nat) : Int)
 found : ∃ i, (au R 33)[i]? = some (ba row pl a ^^^ ba row pl b, a ^^^ b) /\ bsL (gu R) ((ba row pl a ^^^ ba row pl b : Nat) : Int) (au R 33).length 0 (au R 33).length = i /\ bsR (gu R) ((ba row pl a ^^^ ba row pl b : Nat) : Int) (au R 33).length 0 (au R 33).length = i + 1
 f3 : i7 ((ba row pl a ^^^ ba row pl b : Nat) : Int)
 told : an ((ba row pl a ^^^ ba row pl b : Nat) : Int) = if (du bj (an (ba row pl a : Int)) (an (ba row pl b : Int))).isEmpty then [Str.ofString "0x0"] else du bj (an (ba row pl a : Int)) (an (ba row pl b : Int))
noncomputable abbrev b6 (R : List (List Nat)) : List D := (au R 33).map l9
theorem Mp (R : List (List Nat)) (i : Nat) (d : D) (h : (b6 R)[i]? = some d) : ∃ q, q ∈ au R 33 /\ d = .str (Ly q) /\ gu R i = (q.1 : Int) := by
 unfold b6 at h
 rw [List.getElem?_map] at h
 refine byC fun hC1 => ?_
 obtain ⟨q, h1, rfl⟩ := Option.map_eq_some_iff.mp h
 refine hC1 ?_
 refine ⟨q, List.mem_of_getElem? h1, rfl, ?_⟩
 unfold gu
 rw [List.getD_eq_getElem?_getD, h1]; rfl
noncomputable def En : List Stmt := match stm 17 with | .For _ _ b _ _ => b | _ => []
noncomputable def tuS (k : Nat) : Stmt := (En[k]?).getD (.Pass ⟨0, 0, 0, 0⟩)
theorem G8 : En = [tuS 0, tuS 1, tuS 2, tuS 3, tuS 4, tuS 5, tuS 6] := rfl
theorem G3 (t : Nat) (ht : t < 2) : (7 : Int) ^ t ≠ 0 /\ (7 : Int) ^ t < 100 /\ 0 < (7 : Int) ^ t /\ (5 : Int) ^ t ≠ 0 /\ (5 : Int) ^ t < 100 /\ 0 < (5 : Int) ^ t := by
 match t, ht with
 | 0, _ => decide
 | 1, _ => decide
section
variable {C : Cx} {A : Around} {G : Gd} {cd : Value} {ql : Str} {v : LV} {ext : List ac} {S : List Int} {Q : AF -> List ac -> Prop}
theorem tu0 {n : Nat} (hA : AOk A n) (t : Nat) (ht : t < 2) (h1 : v.one = some (.int (l0 S))) (h2 : v.two = some (.int (dr S))) (htn : v.turn = some (.int (t : Int))) {l r : Nat} (e1 : ((l0 S).fdiv (7 ^ t)).fmod 32 = (l : Int)) (e2 : ((dr S).fdiv (5 ^ t) + 11 * (t : Int)).fmod 32 = (r : Int))
  (q : Q .next (lst (v.sLeft2 (some (.int (l : Int))) (some (.int (r : Int)))) ext)) : wS C A G (lae cd ql) (lst v ext) (tuS 0) Q := by
 have hsz := sizeLine_eq
 refine byC fun hC1 => ?_
 obtain ⟨a1, a2, a3, b1, b2, b3⟩ := G3 t ht
 refine hC1 ?_
 refine Aw 19 20 hA.handled rfl rfl rfl rfl rfl rfl rfl ?_
 refine fx ?_
 refine ad (fun _ => rfl) (aj (aj (aa 1 rfl rfl rfl (b7 h1) (aj (ai (aa 16 rfl rfl rfl (b7 htn) (sj (by lia) (by rw [show (Builtin.Int.intBits 7 : Int) = 3 by decide]; lia) ?_)))))))
 rw [Int.toNat_natCast]
 refine sx a1 (PyProof.noPylong_small (by lia)) (ai (lk (by decide) ?_))
 refine ad (fun _ => rfl) (aj (aj (aj (aw 2 8 1 rfl rfl (bn h2) (aj (ai (aa 16 rfl rfl rfl (b7 htn) (sj (by lia) (by rw [show (Builtin.Int.intBits 5 : Int) = 3 by decide]; lia) ?_))))))))
 rw [Int.toNat_natCast]
 refine sx b1 (PyProof.noPylong_small (by lia)) (aj (ai (aa 16 rfl rfl rfl (b7 htn) (m0 (i2 (by decide)) (cu (ai (lk (by decide) ?_)))))))
 rw [e1, e2]
 refine ak ⟨[.int (l : Int), .int (r : Int)], rfl, by rw [hsz]; exact Nat.le_of_ble_eq_true rfl, _, _, rfl, ?_⟩
 refine af 20 rfl rfl rfl ?_
 exact af 19 rfl rfl rfl q
set_option maxHeartbeats 4000000 in
theorem tu1 {n : Nat} (hA : AOk A n) (hv : d9 v ext) {row pl : List Nat} (hrl : row.length = 32) (hpl : pl.length = 32) (hr : v.row = some (bt row)) (hp : v.place = some (bt pl)) {a b : Nat} (ha : a < 32) (hb : b < 32) (hl : v.left = some (.int (a : Int))) (hri : v.right = some (.int (b : Int)))
  (q : Q .next (lst (v.sPorts (some (.list [.int (ba row pl a : Int), .int (ba row pl b : Int)]))) ext)) : wS C A G (lae cd ql) (lst v ext) (tuS 1) Q := by
 have hsz := sizeLine_eq
 refine Jy (its := [.int (a : Int), .int (b : Int)]) (st2 := lst v ext) 21 [("row", 6), ("place", 8)] (uj fun t => .int (ba row pl t.toNat : Int)) rfl rfl rfl rfl ⟨rfl, by decide +kernel, by decide +kernel⟩ rfl (by show (([("row", 6), ("place", 8)] : List (Str × Nat)).map (·.1)).Nodup; decide +kernel) (fun _ _ => rfl)
  (jq (fx (ad (fun _ => rfl) (aa 19 rfl rfl rfl (b7 hl) (ad (fun _ => rfl) (aa 20 rfl rfl rfl (b7 hri) (ak ⟨[.int (a : Int), .int (b : Int)], rfl, by rw [hsz]; exact Nat.le_of_ble_eq_true rfl, Ha hA.handled ⟨rfl, rfl⟩⟩))))))) (by rw [hsz]; exact Nat.le_of_ble_eq_true rfl) (bo hv) (fz.of rfl rfl rfl (bo hv) ?_) ?_
 ·intro φ' E' env' d acc hd hef
  obtain ⟨m, hm, rfl⟩ : ∃ m : Nat, m < 32 /\ d = .int (m : Int) := by
   rcases List.mem_cons.mp hd with rfl | hd
   ·exact ⟨a, ha, rfl⟩
   ·exact ⟨b, hb, List.mem_singleton.mp hd⟩
  refine gx ?_
  simp only [if_true]
  refine aj (aj (ai (bb (fun _ _ => ⟨_, rfl⟩) (aw 3 0 6 rfl rfl (bn hr) (aa 1 rfl kl rfl rfl (te hrl m hm (m0 (i2 (by decide)) ?_)))))))
  refine bb (fun _ _ => ⟨_, rfl⟩) (aw 2 1 8 rfl rfl (bn hp) (aa 1 rfl kl rfl rfl (te hpl m hm (cu ?_))))
  refine ⟨_, rfl, ?_, [], (List.append_nil _).symm⟩
  simp only [uj, Int.toNat_natCast]
  unfold ba
  rw [Int.natCast_add, Int.natCast_mul]; rfl
 ·intro φ'
  have e : [PyData.int (a : Int), .int (b : Int)].filterMap (uj fun t => .int (ba row pl t.toNat : Int)) = [.int (ba row pl a : Int), .int (ba row pl b : Int)] := by
   simp only [List.filterMap_cons, uj, Int.toNat_natCast, List.filterMap_nil]
  rw [e]
  exact af 21 rfl rfl rfl q
theorem tu2 {n : Nat} (hA : AOk A (n + 5)) {sf : Value} (Sg : Mx C sf) {p1 p2 p : Int} {both : List Str} (f1 : i7 p1) (f2 : i7 p2) (hbo : du bj (an p1) (an p2) = both) (hs : (both.map fun w => (1 : Int) * 2 ^ (bj.idxOf w)).sum = p) (hw : v.words = some (g8 bj)) (hpo : v.ports = some (.list [.int p1, .int p2]))
  (q : Q .next (lst (v.sBoth2 (some (g8 both)) (some (.int p))) ext)) : wS C A G (lae cd ql) (lst v ext) (tuS 2) Q := by
 refine zi (fun _ => rfl) (fun _ => rfl) ?_
 refine Qp (fun _ => rfl) (fun _ => rfl) (fun _ => rfl) (ao 35 Sg.glob rfl (bb (fun _ _ => ⟨_, rfl⟩) (aa 21 rfl rfl rfl (b7 hpo) (ai ?_))))
 refine cj (l := [.d (.int p1), .d (.int p2)]) (x := .d (.int p1)) rfl (by decide) (by decide) rfl ?_
 refine bb (fun _ _ => ⟨_, rfl⟩) (aa 21 rfl rfl rfl (b7 hpo) (ai ?_))
 refine cj (l := [.d (.int p1), .d (.int p2)]) (x := .d (.int p2)) rfl (by decide) (by decide) rfl ?_
 refine aw 4 7 2 rfl rfl (bn hw) ?_
 refine e7 (n := 5) (Sg.ok p1 p2 f1 f2 bj (by rw [ic]; decide)) (hA.mono (by lia)) (Ms trivial trivial trivial) (fun a ha => nomatch ha) ?_
 rintro d rfl
 rw [hbo, hs]
 refine nr hA.handled (af 22 rfl rfl rfl ?_)
 exact eg 23 0 9 rfl rfl rfl q
end
end Mine
end
section
open PySem PySem.Calls PyProof.Rows PySem.W PySem.SeqAt PyProof.V
set_option maxRecDepth 100000
namespace Mine
section
variable {C : Cx} {A : Around} {G : Gd} {cd : Value} {ql : Str} {v : LV} {ext : List ac} {S : List Int} {Q : AF -> List ac -> Prop}
theorem em {Q : AV -> List ac -> Prop} {e1 e2 : List ac} {p : Pos} {R : List (List Nat)} (hre : v.replies = some (10 + e1.length)) (q : Q (.d (.list (b6 R))) (lst v (e1 ++ .frz (.list (b6 R)) :: e2))) :
  wE C A G (lae cd ql) (lst v (e1 ++ .frz (.list (b6 R)) :: e2)) (.Name "replies" p) Q :=
 N2 (aa 17 rfl rfl rfl (J2 hre) ⟨_, .inr ⟨_, rfl, z9⟩, q⟩)
theorem mc {R : List (List Nat)} (few : ∀ r ∈ R, r.length <= 32) : (b6 R).length <= 1056 /\ (au R 33).length <= 1056 := by
 have := sy few 33
 unfold b6
 rw [List.length_map]; lia
theorem u5 {lp : Value} (Lp : rn C lp) {R : List (List Nat)} (H : jt R) (i : Nat) (d : D) (h : (b6 R)[i]? = some d) : et C (fun _ => none) C.P0 2 lp [.d d] [] [] fun r => r = PyData.int (gu R i) := by
 refine byC fun hC1 => ?_
 obtain ⟨x, hx, rfl, hk⟩ := Mp R i d h
 refine hC1 ?_
 rw [hk]
 exact Lp.ok _ _ (H.parse x hx)
theorem nz (R : List (List Nat)) : (b6 R).length = (au R 33).length := by unfold b6; rw [List.length_map]
set_option maxHeartbeats 4000000 in
theorem tu3 {n : Nat} (hA : AOk A (n + 3)) (hl : ci C) (gl : ag C "len" (.builtin "len")) {bf lp : Value} {bfd : FuncData} (B : gk C 5 bf bfd) (gb : ag C "bisect_left" bf) (Lp : rn C lp) {e1 e2 : List ac} {R : List (List Nat)} (few : ∀ r ∈ R, r.length <= 32) (H : jt R) (hre : v.replies = some (10 + e1.length)) {p : Int} (hp : v.port = some (.int p))
  (q : Q .next (lst (v.sFound (some (.int (bsL (gu R) p (au R 33).length 0 (au R 33).length : Int)))) (e1 ++ .frz (.list (b6 R)) :: e2))) : wS C A G (lae cd ql) (lst v (e1 ++ .frz (.list (b6 R)) :: e2)) (tuS 3) Q := by
 refine al (fun _ => rfl) ?_
 refine zk (fun _ => rfl) (fun _ => rfl) ["key"] (fun _ => rfl) (ao 36 gb rfl ?_)
 refine ad (fun _ => rfl) (em hre (ad (fun _ => rfl) (aw 23 0 9 rfl rfl (bn hp) (ak ?_))))
 refine nu (ao 37 Lp.glob rfl (ko ?_))
 refine e7 (n := 3) (z6 (nk := 2) (g := gu R) hl gl B (fun _ _ => rfl) (b6 R) p (by have := (mc few).1; lia) Lp.ne (u5 Lp H)) (hA.mono (by lia)) (ng trivial trivial) (pj trivial) ?_
 rintro d rfl
 rw [nz]
 exact af 24 rfl rfl rfl q
theorem J7 {R : List (List Nat)} {i : Nat} {x : Nat × Nat} (h : (au R 33)[i]? = some x) : ((b6 R).map AV.d)[i]? = some (.d (l9 x)) := by
 unfold b6
 rw [List.getElem?_map, List.getElem?_map, h]; rfl
set_option maxHeartbeats 4000000 in
theorem tu4 {n : Nat} (hA : AOk A (n + 3)) (hl : ci C) (gl : ag C "len" (.builtin "len")) {bf lp rf : Value} {bfd : FuncData} (B : gk C 4 bf bfd) (gb : ag C "bisect_right" bf) (Lp : rn C lp) (Rg : vm C rf) {e1 e2 : List ac} {R : List (List Nat)} (few : ∀ r ∈ R, r.length <= 32) (H : jt R) (hre : v.replies = some (10 + e1.length)) {p a b i : Nat} (hp : v.port = some (.int (p : Int)))
  (hps : p <= 2000) (ha : a < 32) (hb : b < 32) (hlf : v.left = some (.int (a : Int))) (hri : v.right = some (.int (b : Int))) (hfo : v.found = some (.int (i : Int))) (hat : (au R 33)[i]? = some (p, a ^^^ b)) (hr : bsR (gu R) (p : Int) (au R 33).length 0 (au R 33).length = i + 1)
  (q : Q .next (lst v (e1 ++ .frz (.list (b6 R)) :: e2))) : wS C A G (lae cd ql) (lst v (e1 ++ .frz (.list (b6 R)) :: e2)) (tuS 4) Q := by
 have hx := mz ha hb
 have hil : i < (au R 33).length := (List.getElem?_eq_some_iff.mp hat).1
 have hf := mc few
 refine cm (rm (iw (a8 rfl ?_)))
 refine bb (fun _ _ => ⟨_, rfl⟩) (em hre (aa 24 rfl rfl rfl (b7 hfo) ?_))
 refine cj (l := (b6 R).map .d) (x := .d (l9 (p, a ^^^ b))) rfl (by lia) (by lia) (by rw [Int.toNat_natCast]; exact J7 hat) ?_
 refine xn (fun _ => rfl) (fun _ => rfl) (ao 38 Rg.glob rfl (aw 23 0 9 rfl rfl (bn hp) (aj (aa 19 rfl rfl rfl (b7 hlf) (aa 20 rfl rfl rfl (b7 hri) (Da ?_))))))
 rw [pk]
 refine e7 (n := 1) (Rg.ok (p : Int) ((a ^^^ b : Nat) : Int) (by lia) (by lia)) (hA.mono (by lia)) (ng trivial trivial) (fun a ha => nomatch ha) ?_
 rintro d rfl
 refine (?_ : jb C A G _ .NotEq (.d (l9 (p, a ^^^ b))) (.d (l9 (p, a ^^^ b))) _)
 refine j5 hA (n := 0) (ts (H.shape _ (List.mem_of_getElem? hat))) (by decide) (cn ?_)
 rw [if_neg (by decide)]
 refine iw (a8 rfl ?_)
 refine zk (fun _ => rfl) (fun _ => rfl) ["key"] (fun _ => rfl) (ao 39 gb rfl ?_)
 refine ad (fun _ => rfl) (em hre (ad (fun _ => rfl) (aw 23 0 9 rfl rfl (bn hp) (ak ?_))))
 refine nu (ao 37 Lp.glob rfl (ko ?_))
 refine e7 (n := 3) (Ex (nk := 2) (g := gu R) hl gl B (fun _ _ => rfl) (b6 R) (p : Int) (by lia) Lp.ne (u5 Lp H)) (hA.mono (by lia)) (ng trivial trivial) (pj trivial) ?_
 rintro d rfl
 rw [nz, hr]
 refine aj (aa 24 rfl rfl rfl (b7 hfo) (ai (cu (tw (cn ?_)))))
 rw [show (((i + 1 : Nat) : Int) != (i : Int) + 1) = false by rw [Int.natCast_add]; exact bne_self_eq_false _, if_neg (by decide)]
 exact i5 (am q)
theorem tu5 {n : Nat} (hA : AOk A (n + 1)) {pf : Value} (Pg : tc C pf) {e1 e2 : List ac} {R : List (List Nat)} (H : jt R) (hre : v.replies = some (10 + e1.length)) {i : Nat} {x : Nat × Nat} (hat : (au R 33)[i]? = some x) (few : ∀ r ∈ R, r.length <= 32) (hfo : v.found = some (.int (i : Int)))
  (q : Q .next (lst (v.sHost2 (some (.str "peer")) (some (.int (x.1 : Int)))) (e1 ++ .frz (.list (b6 R)) :: e2))) : wS C A G (lae cd ql) (lst v (e1 ++ .frz (.list (b6 R)) :: e2)) (tuS 5) Q := by
 have hsz := sizeLine_eq
 have hil : i < (au R 33).length := (List.getElem?_eq_some_iff.mp hat).1
 have hf := mc few
 refine zi (fun _ => rfl) (fun _ => rfl) ?_
 refine xn (fun _ => rfl) (fun _ => rfl) (ao 40 Pg.glob rfl (bb (fun _ _ => ⟨_, rfl⟩) (em hre (aa 24 rfl rfl rfl (b7 hfo) ?_))))
 refine cj (l := (b6 R).map .d) (x := .d (l9 x)) rfl (by lia) (by lia) (by rw [Int.toNat_natCast]; exact J7 hat) ?_
 refine fx (ad (fun _ => rfl) (az (ad (fun _ => rfl) (ai (ak ⟨[.str "peer", .int 21], rfl, by rw [hsz]; exact Nat.le_of_ble_eq_true rfl, ?_⟩)))))
 refine e7 (n := 1) (Pg.ok _ _ (H.parse x (List.mem_of_getElem? hat)) _ _) (hA.mono (by lia)) (ng trivial trivial) (fun a ha => nomatch ha) ?_
 rintro d rfl
 refine nr hA.handled (af 25 rfl rfl rfl ?_)
 exact af 26 rfl rfl rfl q
theorem Ll {l : List Str} (h : ∀ w ∈ l, (PyData.str w).canLay0 = true) : ShD 1 (g8 l) := ox (n := 0) fun x hx => by
 obtain ⟨w, hw, rfl⟩ := List.mem_map.mp hx
 exact ts (h w hw)
set_option maxHeartbeats 4000000 in
theorem tu6 {n : Nat} (hA : AOk A (n + 4)) {pf : Value} (Pg : iz C pf) {p : Int} {both : List Str} (hbl : both.length <= 1000) (hbs : ∀ w ∈ both, (PyData.str w).canLay0 = true) (f3 : i7 p) (told : an p = if both.isEmpty then [Str.ofString "0x0"] else both)
  (hp : v.port = some (.int p)) (hh : v.host = some (.str "peer")) (hhe : v.heard = some (.int p)) (hbo : v.both = some (g8 both))
  (q : Q .next (lst v ext)) : wS C A G (lae cd ql) (lst v ext) (tuS 6) Q := by
 have hsz := sizeLine_eq
 refine cm (rm (iw (a8 rfl ?_)))
 refine fx (ad (fun _ => rfl) (aa 25 rfl rfl rfl (b7 hh) (ad (fun _ => rfl) (aa 26 rfl rfl rfl (b7 hhe) (ak ⟨[.str "peer", .int p], rfl, by rw [hsz]; exact Nat.le_of_ble_eq_true rfl, ?_⟩)))))
 refine fx (ad (fun _ => rfl) (az (ad (fun _ => rfl) (aw 23 0 9 rfl rfl (bn hp) (ak ⟨[.str "peer", .int p], rfl, by rw [hsz]; exact Nat.le_of_ble_eq_true rfl, ?_⟩)))))
 refine j5 hA (Mj (n := 0) (bw (ts (by decide +kernel)) (pj K8))) (by decide) (cn ?_)
 rw [if_neg (by decide)]
 refine iw (a8 rfl ?_)
 refine ri (hA.mono (Nat.le_add_left _ _)) Pg 30 rfl (fun _ => rfl) f3 rfl (aa 26 rfl rfl rfl (b7 hhe) ⟨rfl, ?_⟩)
 refine (?_ : wE C A G _ _ _ _)
 refine Pz (aa 22 rfl rfl rfl (b7 hbo) (M2 (by rw [List.length_map]; lia) ?_))
 have hfin : ∀ l : List Str, an p = l -> (∀ w ∈ l, (PyData.str w).canLay0 = true) -> jb C A G (lst v ext) .NotEq (.d (.list ((an p).map .str))) (.d (g8 l)) fun c st3 => wTr C A G st3 c fun b st1 => if b = true then wSs C A G (lae cd ql) st1 [.Return (some (.Constant (.bool false) 0 ⟨159, 19, 159, 24⟩)) ⟨159, 12, 159, 24⟩] Q else Kg C A G (lae cd ql) st1 .Or [] fun b st2 => if b = true then wSs C A G (lae cd ql) st2 [.Return (some (.Constant (.bool false) 0 ⟨159, 19, 159, 24⟩)) ⟨159, 12, 159, 24⟩] Q else wSs C A G (lae cd ql) st2 [] Q := by
  intro l hl hs
  rw [hl]
  refine j5 hA (Ll hs) (by decide) (cn ?_)
  rw [if_neg (by decide)]
  exact i5 (am q)
 cases hb : both with
 | nil =>
  rw [hb] at told
  refine (?_ : wE C A G _ _ _ _)
  refine jv (ad (fun _ => rfl) (az (ak ⟨[.str "0x0"], rfl, by rw [hsz]; exact Nat.le_of_ble_eq_true rfl, ?_⟩)))
  exact hfin [Str.ofString "0x0"] told (pj (by decide +kernel))
 | cons w r =>
  rw [hb] at told
  exact hfin (w :: r) told (hb ▸ hbs)
end
end Mine
end
section
open PySem PySem.Calls PyProof.Rows PySem.W PySem.SeqAt PyProof.V
set_option maxRecDepth 100000
namespace Mine
noncomputable def xt (S : List Int) (row pl : List Nat) (t : Nat) : Nat := ba row pl (ze S t) ^^^ ba row pl (ut S t)
noncomputable def Qb (S : List Int) (row pl : List Nat) (o : Option D) : Nat -> Option D
 | 0 => o
 | t + 1 => some (.int (xt S row pl t : Int))
noncomputable abbrev Ie (v : LV) (a b c d e f g h i : Option D) : LV := { v with turn := a, left := b, right := c, ports := d, both := e, found := f, host := g, heard := h, port := i }
theorem Ec (ws t1 t2 : List Str) : (∀ w ∈ du ws t1 t2, w ∈ ws) /\ (du ws t1 t2).length <= 10 := by
 constructor
 ·exact fun w hw => List.mem_of_mem_take (List.mem_filter.mp hw).1
 ·exact Nat.le_trans (List.length_filter_le ..) (by rw [List.length_take]; lia)
section
variable {C : Cx} {A : Around} {G : Gd} {cd : Value} {ql : Str} {v : LV} {ext : List ac} {S : List Int} {Q : AF -> List ac -> Prop}
set_option maxHeartbeats 4000000 in
theorem Pa {n : Nat} (hA : AOk A (n + 5)) (hl : ci C) (gl : ag C "len" (.builtin "len")) {bl br lp rf sf pf pp : Value} {bld brd : FuncData} (BL : gk C 5 bl bld) (gbl : ag C "bisect_left" bl) (BR : gk C 4 br brd) (gbr : ag C "bisect_right" br) (Lp : rn C lp) (Rg : vm C rf) (Sg : Mx C sf) (Pg : tc C pf) (PP : iz C pp)
  {e1 e2 : List ac} {R : List (List Nat)} {row pl : List Nat} (T : om R row) (hpl : pl.length = 32) (H : jt R) (hv : d9 v (e1 ++ .frz (.list (b6 R)) :: e2)) (h1 : v.one = some (.int (l0 S))) (h2 : v.two = some (.int (dr S))) (hw : v.words = some (g8 bj)) (hr : v.row = some (bt row)) (hp : v.place = some (bt pl)) (hre : v.replies = some (10 + e1.length))
  {k l r xp i : Nat} {both : List Str} (hk : k < 2) (htn : v.turn = some (.int (k : Int))) (el : ((l0 S).fdiv (7 ^ k)).fmod 32 = (l : Int)) (er : ((dr S).fdiv (5 ^ k) + 11 * (k : Int)).fmod 32 = (r : Int)) (la : l < 32) (lb : r < 32) (small : xp <= 2000) (f1 : i7 (ba row pl l : Int)) (f2 : i7 (ba row pl r : Int)) (hbo : du bj (an (ba row pl l : Int)) (an (ba row pl r : Int)) = both) (sum : (both.map fun w => (1 : Int) * 2 ^ (bj.idxOf w)).sum = (xp : Int))
  (hat : (au R 33)[i]? = some (xp, l ^^^ r)) (bl1 : bsL (gu R) (xp : Int) (au R 33).length 0 (au R 33).length = i) (br1 : bsR (gu R) (xp : Int) (au R 33).length 0 (au R 33).length = i + 1) (f3 : i7 (xp : Int)) (told : an (xp : Int) = if both.isEmpty then [Str.ofString "0x0"] else both)
  (q : ∀ b c d e f g h, Q .next (lst (Ie v v.turn b c d e f g h (some (.int (xp : Int)))) (e1 ++ .frz (.list (b6 R)) :: e2))) : wSs C A G (lae cd ql) (lst v (e1 ++ .frz (.list (b6 R)) :: e2)) En Q := by
 have hb := Ec bj (an (ba row pl l : Int)) (an (ba row pl r : Int))
 rw [hbo] at hb
 rw [G8]
 refine ah (tu0 hA k hk h1 h2 htn el er ?_)
 refine ah (tu1 (v := v.sLeft2 _ _) hA (hv.up rfl) T.rlen hpl hr hp la lb rfl rfl ?_)
 refine ah (tu2 (v := (v.sLeft2 _ _).sPorts _) hA Sg f1 f2 hbo sum hw rfl ?_)
 refine ah (tu3 (n := n + 2) (v := ((v.sLeft2 _ _).sPorts _).sBoth2 _ _) hA hl gl BL gbl Lp T.few H hre rfl ?_)
 rw [bl1]
 refine ah (tu4 (n := n + 2) (v := (((v.sLeft2 _ _).sPorts _).sBoth2 _ _).sFound _) hA hl gl BR gbr Lp Rg T.few H hre rfl small la lb rfl rfl rfl hat br1 ?_)
 refine ah (tu5 (n := n + 4) (v := (((v.sLeft2 _ _).sPorts _).sBoth2 _ _).sFound _) hA Pg H hre hat T.few rfl ?_)
 exact ah (tu6 (n := n + 1) (v := ((((v.sLeft2 _ _).sPorts _).sBoth2 _ _).sFound _).sHost2 _ _) hA PP (by lia) (fun w hw => mv w (hb.1 w hw)) f3 told rfl rfl rfl rfl (am (q _ _ _ _ _ _ _)))
inductive Rf (S : List Int) (v : LV) (row pl : List Nat) (ext : List ac) (k : Nat) (st : List ac) : Prop
 | mk (a b c d e f g h : Option D) (hk : k <= 2) (hs : st = lst (Ie v a b c d e f g h (Qb S row pl v.port k)) ext)
set_option maxHeartbeats 4000000 in
theorem s17 {n : Nat} (hA : AOk A (n + 5)) (hl : ci C) (gr : ag C "range" (.type "range")) (gl : ag C "len" (.builtin "len")) {bl br lp rf sf pf pp : Value} {bld brd : FuncData} (BL : gk C 5 bl bld) (gbl : ag C "bisect_left" bl) (BR : gk C 4 br brd) (gbr : ag C "bisect_right" br) (Lp : rn C lp) (Rg : vm C rf) (Sg : Mx C sf) (Pg : tc C pf) (PP : iz C pp)
  {e1 e2 : List ac} {R : List (List Nat)} {row pl : List Nat} (T : om R row) (hpl : pl.length = 32) (H : jt R) (hP : ∀ t, t < 2 -> Dc R row pl (ze S t) (ut S t)) (hv : d9 v (e1 ++ .frz (.list (b6 R)) :: e2)) (h1 : v.one = some (.int (l0 S))) (h2 : v.two = some (.int (dr S))) (hw : v.words = some (g8 bj)) (hr : v.row = some (bt row)) (hp : v.place = some (bt pl)) (hre : v.replies = some (10 + e1.length))
  (q : ∀ a b c d e f g h, Q .next (lst (Ie v a b c d e f g h (some (.int (xt S row pl 1 : Int)))) (e1 ++ .frz (.list (b6 R)) :: (e2 ++ [.raw (ap 0 2)])))) : wS C A G (lae cd ql) (lst v (e1 ++ .frz (.list (b6 R)) :: e2)) (stm 17) Q := by
 have hv1 : d9 v (e1 ++ .frz (.list (b6 R)) :: (e2 ++ [.raw (ap 0 2)])) := by
  have := hv.more (x := .raw (ap 0 2)) dh
  rwa [List.append_assoc, List.cons_append] at this
 have he : lst v (e1 ++ .frz (.list (b6 R)) :: e2) ++ [.raw (ap 0 2)] = lst v (e1 ++ .frz (.list (b6 R)) :: (e2 ++ [.raw (ap 0 2)])) := by rw [rg, List.append_assoc, List.cons_append]
 refine qk (lst v (e1 ++ .frz (.list (b6 R)) :: (e2 ++ [.raw (ap 0 2)]))).length (fb 0 2) (Rf S v row pl (e1 ++ .frz (.list (b6 R)) :: (e2 ++ [.raw (ap 0 2)]))) (fun _ _ => rfl) ?_ ?_ ?_ ?_
 ·rintro k st1 ⟨a, b, c, d, e, f, g, h, _, rfl⟩; rfl
 ·refine jq (dq (fun _ => rfl) (ao 31 gr rfl (ai (db (ji ?_)))))
  rw [he]
  exact il (i := (lst v (e1 ++ .frz (.list (b6 R)) :: e2)).length) (a := 0) (b := 2) hA.handled (by rw [<- he, List.getElem?_append_right (Nat.le_refl _), Nat.sub_self]; rfl) (by lia) (by lia) ⟨rfl, _, _, _, _, _, _, _, _, Nat.zero_le _, rfl⟩
 ·rintro φ' E' k x st1 hx ⟨a, b, c, d, e, f, g, h, _, rfl⟩
  obtain ⟨rfl, hk⟩ := Hc hx
  refine d8 (af 16 rfl rfl rfl ?_)
  have PO := hP k hk
  obtain ⟨i, hat, bl1, br1⟩ := PO.found
  exact Pa (v := Ie v (some (.int (k : Int))) b c d e f g h (Qb S row pl v.port k)) hA hl gl BL gbl BR gbr Lp Rg Sg Pg PP T hpl H (hv1.up rfl) h1 h2 hw hr hp hre hk rfl (lh _).1 (lh _).1 (lh _).2 (lh _).2 PO.small PO.f1 PO.f2 rfl PO.sum hat bl1 br1 PO.f3 PO.told
   fun b c d e f g h => ⟨_, wz (w := Ie v (some (.int (k : Int))) b c d e f g h (some (.int (xt S row pl k : Int)))) (hv1.up rfl), _, _, _, _, _, _, _, _, hk, rfl⟩
 ·rintro E' st1 ⟨a, b, c, d, e, f, g, h, _, rfl⟩
  exact am (q a b c d e f g h)
end
noncomputable def Mg (p : Pos) : Arguments := { posonlyargs := [], args := [{ arg := "reply", annotation := none, pos := p }], vararg := none, kwonlyargs := [], kw_defaults := [], kwarg := none, defaults := [] }
noncomputable def Qr (p1 p2 p3 p4 p5 : Pos) : Expr := .BinOp (.Call (.Name "_law_port" p1) [.Name "reply" p2] [] p3) .FloorDiv (.Constant (.int 32) 0 p4) p5
noncomputable def Oy : Scope := { kind := .function, names := [(("reply" : Str), .local), ("_law_port", .globalImplicit)], isGenerator := false, isCoroutine := false, more := [] }
noncomputable def g4 (R : List (List Nat)) (i : Nat) : Int := ((((au R 33).getD i (0, 0)).1 / 32 : Nat) : Int)
theorem yl {C : Cx} {φf κf : Kp} {kf : Addr} (hl : ci C) {lp : Value} (Lp : rn C lp) {R : List (List Nat)} (H : jt R) (i : Nat) (d : D) (hd : (b6 R)[i]? = some d) (p0 p1 p2 p3 p4 p5 : Pos) (L : E3 C φf κf kf (Mg p0) (Qr p1 p2 p3 p4 p5) Oy [] []) :
  et C φf κf 3 (.ref kf) [.d d] [] [] fun r => r = PyData.int (g4 R i) := by
 refine I4 (x := "reply") (xs := []) (ds := []) hl ⟨rfl, by decide +kernel, by decide +kernel⟩ rfl rfl (by show ((cellsFrom 1 _ _).map (·.1)).Nodup; decide +kernel) (.inr rfl) L (fun name qual cl pm cdv ct v => rfl) ?_
 intro A G A' Ps code qual hA hPs hκ _
 obtain rfl : Ps = [] := List.eq_nil_of_length_eq_zero hPs.1
 simp only [bu]
 refine af 0 rfl rfl rfl ?_
 intro E
 refine aj (dq (fun _ => rfl) (ao 1 Lp.glob rfl (aa 0 rfl rfl rfl rfl ?_)))
 refine e7 (n := 2) (u5 Lp H i d hd) hA (pj trivial) (fun a ha => nomatch ha) ?_
 rintro d rfl
 refine ai (sx (by decide) (PyProof.noPylong_small (by decide)) ?_)
 refine ⟨_, rfl, ?_, fun j hj => absurd hj (Nat.not_lt_zero _)⟩
 unfold gu g4
 rw [Int.fdiv_eq_ediv_of_nonneg _ (by decide)]; rfl
noncomputable def f9 (S : List Int) : Nat := ((dr S).fmod 32).toNat
section
variable {C : Cx} {A : Around} {G : Gd} {cd : Value} {ql : Str} {v : LV} {ext : List ac} {S : List Int} {Q : AF -> List ac -> Prop}
theorem n6 {Q : AV -> List ac -> Prop} {row : List Nat} (hrl : row.length = 32) (h2 : v.two = some (.int (dr S))) (hr : v.row = some (bt row)) {k : Nat} (p1 p2 p3 p4 p5 : Pos) (q : Q (.d (.int ((row.getD (f9 S) 0 : Nat) : Int))) (lst v ext)) :
  wE C A G (lae cd ql) (lst v ext) (.Subscript (.Name "row" p1) (.BinOp (.Name "two" p2) .Mod (.Constant (.int 32) k p3) p4) p5) Q := by
 refine bb (fun _ _ => ⟨_, rfl⟩) (aw 10 3 6 rfl rfl (bn hr) (aj (aw 2 8 1 rfl rfl (bn h2) (ai (lk (by decide) ?_)))))
 rw [(lh (dr S)).1]
 exact te hrl _ (lh _).2 q
theorem yc {Q : AV -> List ac -> Prop} (gl : ag C "len" (.builtin "len")) {R : List (List Nat)} (hR : R.length = 33) (few : ∀ r ∈ R, r.length <= 32) (hrows : v.rows = some (lz R)) {k : Nat} (p1 p2 p3 p4 p5 : Pos) (q : Q (.d (.int (((R.getD 0 []).length : Nat) : Int))) (lst v ext)) :
  wE C A G (lae cd ql) (lst v ext) (.Call (.Name "len" p1) [.Subscript (.Name "rows" p2) (.Constant (.int 0) k p3) p4] [] p5) Q := by
 refine dq (fun _ => rfl) (ao 41 gl rfl (bb (fun _ _ => ⟨_, rfl⟩) (aw 9 4 5 rfl rfl (bn hrows) (ai ?_))))
 refine cj (l := (R.map bt).map .d) (x := .d (bt (R.getD 0 []))) rfl (by decide) (by decide) (Ku (by rw [hR]; decide)) ?_
 refine d7 (sz (l := ((R.getD 0 []).map gj).map .d) rfl (by rw [List.length_map, List.length_map]; have := n8 few 0; lia) ?_)
 rw [List.length_map, List.length_map]
 exact q
noncomputable def jy (S : List Int) (R : List (List Nat)) (row : List Nat) : Nat := (R.getD 0 []).length * row.getD (f9 S) 0
noncomputable def pu (S : List Int) (R : List (List Nat)) (row : List Nat) : Nat := (R.getD 0 []).length * (row.getD (f9 S) 0 + 1)
theorem s18 {n : Nat} (hA : AOk A n) (gl : ag C "len" (.builtin "len")) {R : List (List Nat)} {row : List Nat} (T : om R row) (h2 : v.two = some (.int (dr S))) (hrows : v.rows = some (lz R)) (hr : v.row = some (bt row))
  (q : Q .next (lst (v.sBegins2 (some (.int (jy S R row : Int))) (some (.int (pu S R row : Int)))) ext)) : wS C A G (lae cd ql) (lst v ext) (stm 18) Q := by
 have hsz := sizeLine_eq
 have hf := n8 T.few 0
 refine Aw 27 28 hA.handled rfl rfl rfl rfl rfl rfl rfl ?_
 refine fx ?_
 refine ad (fun _ => rfl) (aj (yc gl T.len T.few hrows _ _ _ _ _ (n6 T.rlen h2 hr _ _ _ _ _ (m0 (i2 (by omega)) ?_))))
 refine ad (fun _ => rfl) (aj (yc gl T.len T.few hrows _ _ _ _ _ (aj (n6 T.rlen h2 hr _ _ _ _ _ (ai (cu (m0 (i2 (by omega)) ?_)))))))
 have e1 : (((R.getD 0 []).length : Nat) : Int) * ((row.getD (f9 S) 0 : Nat) : Int) = (jy S R row : Int) := by unfold jy; rw [Int.natCast_mul]
 have e2 : (((R.getD 0 []).length : Nat) : Int) * (((row.getD (f9 S) 0 : Nat) : Int) + 1) = (pu S R row : Int) := by unfold pu; rw [Int.natCast_mul, Int.natCast_add]; rfl
 rw [e1, e2]
 refine ak ⟨[.int (jy S R row : Int), .int (pu S R row : Int)], rfl, by rw [hsz]; exact Nat.le_of_ble_eq_true rfl, _, _, rfl, ?_⟩
 refine af 28 rfl rfl rfl ?_
 exact af 27 rfl rfl rfl q
set_option maxHeartbeats 4000000 in
theorem s19 {n : Nat} (hA : AOk A (n + 4)) (hl : ci C) (gl : ag C "len" (.builtin "len")) {bl lp : Value} {bld : FuncData} (BL : gk C 5 bl bld) (gbl : ag C "bisect_left" bl) (Lp : rn C lp) (P : Addr) (L : l6 C cd P) (htq : ∀ pos' : Pos, ((((161 : Nat) : Int) == pos'.line) = true) -> ((((47 : Nat) : Int) == pos'.col) = true) -> C.tq pos' = ql ++ "<lambda>")
  {e1 e2 : List ac} {R : List (List Nat)} {row : List Nat} (T : om R row) (H : jt R) (h2 : v.two = some (.int (dr S))) (hr : v.row = some (bt row)) (hre : v.replies = some (10 + e1.length)) (hb : v.begins = some (.int (jy S R row : Int))) (hbl : bsL (g4 R) ((row.getD (f9 S) 0 : Nat) : Int) (au R 33).length 0 (au R 33).length = jy S R row)
  (q : Q .next (lst v (e1 ++ .frz (.list (b6 R)) :: e2))) : wS C A G (lae cd ql) (lst v (e1 ++ .frz (.list (b6 R)) :: e2)) (stm 19) Q := by
 refine cm (a8 rfl ?_)
 refine pd (P := P) [] (fun _ => rfl) L (fun _ => rfl) rfl htq (htq _ rfl rfl) ?_
 refine ao 36 gbl rfl ?_
 refine ad (fun _ => rfl) (em hre (ad (fun _ => rfl) (n6 T.rlen h2 hr _ _ _ _ _ (ak ?_))))
 refine z8 (ds := []) (n := 4) (hA.mono (by lia)) ⟨List.nodup_nil, rfl, fun j x i d e1 e2 => nomatch e1⟩ (ng trivial trivial) (fun φf κf kf hφt hL => z6 (g := g4 R) (nk := 3) hl gl BL hφt (b6 R) _ (by have := (mc T.few).1; lia) rfl (fun i d hd => yl hl Lp H i d hd _ _ _ _ _ _ hL)) ?_
 rintro d rfl
 rw [nz, hbl]
 refine aa 27 rfl rfl rfl (b7 hb) (tw (cn ?_))
 rw [bne_self_eq_false, if_neg (by decide)]
 exact am q
set_option maxHeartbeats 4000000 in
theorem s20 {n : Nat} (hA : AOk A (n + 4)) (hl : ci C) (gl : ag C "len" (.builtin "len")) {bl lp : Value} {bld : FuncData} (BR : gk C 4 bl bld) (gbr : ag C "bisect_right" bl) (Lp : rn C lp) (P : Addr) (L : l6 C cd P) (htq : ∀ pos' : Pos, ((((163 : Nat) : Int) == pos'.line) = true) -> ((((48 : Nat) : Int) == pos'.col) = true) -> C.tq pos' = ql ++ "<lambda>")
  {e1 e2 : List ac} {R : List (List Nat)} {row : List Nat} (T : om R row) (H : jt R) (h2 : v.two = some (.int (dr S))) (hr : v.row = some (bt row)) (hre : v.replies = some (10 + e1.length)) (hb : v.ends = some (.int (pu S R row : Int))) (hbr : bsR (g4 R) ((row.getD (f9 S) 0 : Nat) : Int) (au R 33).length 0 (au R 33).length = pu S R row)
  (q : Q .next (lst v (e1 ++ .frz (.list (b6 R)) :: e2))) : wS C A G (lae cd ql) (lst v (e1 ++ .frz (.list (b6 R)) :: e2)) (stm 20) Q := by
 refine cm (a8 rfl ?_)
 refine pd (P := P) [] (fun _ => rfl) L (fun _ => rfl) rfl htq (htq _ rfl rfl) ?_
 refine ao 39 gbr rfl ?_
 refine ad (fun _ => rfl) (em hre (ad (fun _ => rfl) (n6 T.rlen h2 hr _ _ _ _ _ (ak ?_))))
 refine z8 (ds := []) (n := 4) (hA.mono (by omega)) ⟨List.nodup_nil, rfl, fun j x i d e1 e2 => nomatch e1⟩ (ng trivial trivial) (fun φf κf kf hφt hL => Ex (g := g4 R) (nk := 3) hl gl BR hφt (b6 R) _ (by have := (mc T.few).1; omega) rfl (fun i d hd => yl hl Lp H i d hd _ _ _ _ _ _ hL)) ?_
 rintro d rfl
 rw [nz, hbr]
 refine aa 28 rfl rfl rfl (b7 hb) (tw (cn ?_))
 rw [bne_self_eq_false, if_neg (by decide)]
 exact am q
end
end Mine
end
section
open PySem PySem.Calls PyProof.Rows PySem.W PySem.SeqAt PyProof.V
open PySem.Sem (wp)
set_option maxRecDepth 100000
namespace Mine
structure vo (C : Cx) (f : Value) (m : Str) (p : Int) : Prop where
 glob : ag C "_law_refused" f
 ok : ∀ k : Nat, k < 9 -> yh C 3 f [.d (.str m), .d (.int p), .d (.int (k : Int))] [] [] fun r => r = PyData.bool true
structure P3 (C : Cx) (f : Value) : Prop where
 glob : ag C "_law_low_refused" f
 ok : ∀ (rs : D) (k : Int), yh C 3 f [.d rs, .d (.int k)] [] [] fun r => r = PyData.bool true
theorem Q6 (x : Int) : (x.fmod 5).toNat < 5 /\ 0 <= x.fmod 5 /\ x.fmod 5 < 5 := by
 have h1 := Int.fmod_nonneg_of_pos x (b := 5) (by decide)
 have h2 := Int.fmod_lt_of_pos x (b := 5) (by decide)
 omega
section
variable {C : Cx} {A : Around} {G : Gd} {cd : Value} {ql : Str} {v : LV} {ext : List ac} {S : List Int} {Q : AF -> List ac -> Prop}
set_option maxHeartbeats 4000000 in
theorem s21 {n : Nat} (hA : AOk A (n + 3)) (hF : ∃ envL, A.frames = some [envL] /\ envL.scope.kind ≠ .module /\ envL.frame = G.env.frame) (gr : ag C "range" (.type "range")) {rf : Value} {p : Int} (R : vo C rf (d5 (dr S)) p) (hv : d9 v ext) (h2 : v.two = some (.int (dr S))) (hp : v.port = some (.int p))
  (q : gy C A G (lae cd ql) (lst v (ext ++ [.raw (ap 0 9)])) [] Q) : wSK C A G (lae cd ql) (lst v ext) (stm 21) Q := by
 have hsz := sizeLine_eq
 have hv2 := hv.more (x := .raw (ap 0 9)) dh
 have m5 := Q6 (dr S)
 refine Md (L5 rfl ?_)
 refine Mm (its := fb 0 9) (st2 := lst v (ext ++ [.raw (ap 0 9)])) [("two", 1), ("port", 9)] (fun _ => none) rfl ⟨rfl, by decide +kernel, by decide +kernel⟩ rfl (by show (([("two", 1), ("port", 9)] : List (Str × Nat)).map (·.1)).Nodup; decide +kernel) (fun _ _ => rfl)
  (ln 31 gr rfl hA.handled (by decide)) (by rw [qw, hsz]; decide) (bo hv2) (rl.of rfl rfl rfl (bo hv2) ?_) ?_
 ·intro φ' E' env' d acc hdd hef
  obtain ⟨t, ht, rfl⟩ := List.mem_map.mp hdd
  have ht9 : t < 9 := by simpa using ht
  rw [show ((0 : Int) + (t : Int)) = (t : Int) by lia]
  refine Hw (Mv (Mw (fun _ _ => rfl) ?_))
  refine xg (n := 3) 2 (fun _ => rfl) R.glob rfl (hA.mono (by lia)) ?_ rfl ?_
  ·obtain ⟨envL, f1, f2, f3⟩ := hF
   exact ⟨envL, f1, f2, f3.trans hef.symm⟩
  refine ad (fun _ => rfl) (bb (fun _ _ => ⟨_, rfl⟩) (az (aj (aw 4 0 1 rfl rfl (bn h2) (ai (lk (by decide) (fu (by lia) (by lia) (Fd (dr S)) ?_)))))))
  refine ad (fun _ => rfl) (aw 3 1 9 rfl rfl (bn hp) ?_)
  refine ad (fun _ => rfl) (aa 1 rfl kl rfl rfl (ak ?_))
  refine ⟨_, R.ok t ht9, Ms trivial trivial trivial, ⟨_, _, _, rfl⟩, ?_⟩
  rintro d rfl
  refine cn ?_
  exact ⟨rfl, [], (List.append_nil _).symm⟩
 ·rw [show (fb 0 9).filterMap (fun _ => (none : Option D)) = [] from rfl]
  refine jv (ak ⟨[], rfl, Nat.zero_le _, ?_⟩)
  exact j5 hA (ox (n := 0) fun y hy => nomatch hy) (by decide) (cn q)
theorem Qg {M : Model} {E : Value -> Shared -> Prop} {s : Shared} {env : Env} {x y : Expr} {pos : Pos} {Q : Value -> Shared -> Prop}
  (h : wpK M A (eval x env) (fun v s₁ => wpAny M A (truthy v) (fun t s₂ => if t then wpK M A (eval y env) Q E s₂ else Q v s₂) E s₁) E s) :
  wpK M A (eval (.BoolOp .And [x, y] pos) env) Q E s := by
 show wpK M A (do
  let v ← eval x env
  standAt pos
  let t ← holding [v] (truthy v)
  match BoolOp.And, t with
  | .And, false | .Or, true => pure v
  | _, _ => boolOp pos .And [eval y env]) Q E s
 refine K.bind (K.mono h (fun v s₁ h₁ => K.bind (K.standAt (K.bind (K.holding (K.go h₁ (fun t s₂ h₂ => ?_) fun _ _ x => x))))) fun _ _ x => x)
 cases t with
 | false => exact K.pure h₂
 | true => exact h₂
theorem Li {M : Model} {E : Value -> Shared -> Prop} {s : Shared} {env : Env} {e : Expr} {pos : Pos} {Q : Flow -> Shared -> Prop} (h : wpK M A (eval e env) (fun v => Q (.ret v)) E s) : wpK M A (exec (.Return (some e) pos) env) Q E s := by
 rw [exec_Return_some]
 exact K.bind (K.standAt (K.bind (K.mono h (fun v s' h' => K.pure h') fun _ _ z => z)))
theorem M7 {ae : a9} {st : List ac} {x y : Expr} {pos : Pos} {Q : AV -> List ac -> Prop} (h : wEK C A G ae st x fun a st1 => wTr C A G st1 a fun t st2 => if t then wEK C A G ae st2 y Q else Q a st2) : wEK C A G ae st (.BoolOp .And [x, y] pos) Q := fun κ σ s e X =>
 Qg (K.mono (h κ σ s e X) (fun v s1 z => z.go fun κ1 σ1 a st1 k1 p1 X1 r1 q1 => wpAny_mono (q1 κ1 σ1 s1 v X1 r1) (fun t s2 z => z.go fun κ2 σ2 t' st2 k2 p2 X2 r2 q2 => by
  cases (r2 : t = t')
  cases t with
  | false => exact ⟨κ2, σ2, a, st2, k1.trans k2, p1.trans p2, X2, r1.mono k2 p2, q2⟩
  | true => exact PA.wpK (k1.trans k2) (p1.trans p2) (q2 κ2 σ2 s2 (e.mono (p1.trans p2)) X2)) fun _ _ z => z) fun _ _ z => z)
theorem Lw {ae : a9} {st : List ac} {x : Expr} {pos : Pos} {Q : AF -> List ac -> Prop} (h : wEK C A G ae st x fun a st1 => Q (.ret a) st1) : wSK C A G ae st (.Return (some x) pos) Q := fun κ σ s e X =>
 Li (K.mono (h κ σ s e X) (fun v s1 z => z.go fun κ' σ' a st' k1 p1 X' r q => ⟨κ', σ', .ret a, st', k1, p1, X', ⟨v, rfl, r⟩, q⟩) fun _ _ z => z)
theorem s22 {n : Nat} (hA : AOk A (n + 3)) (hF : ∃ envL, A.frames = some [envL] /\ envL.scope.kind ≠ .module /\ envL.frame = G.env.frame) {lf : Value} (Lg : P3 C lf) {e1 e2 : List ac} {R : List (List Nat)} (hre : v.replies = some (10 + e1.length)) (q : Q (.ret (.d (.bool true))) (lst v (e1 ++ .frz (.list (b6 R)) :: e2))) : wSK C A G (lae cd ql) (lst v (e1 ++ .frz (.list (b6 R)) :: e2)) (stm 22) Q := by
 refine Lw (M7 ?_)
 refine xg (n := 3) 42 (fun _ => rfl) Lg.glob rfl (hA.mono (by lia)) hF rfl (ad (fun _ => rfl) (em hre (ad (fun _ => rfl) (ai (ak ⟨_, Lg.ok _ 0, ng trivial trivial, ⟨_, _, _, rfl⟩, ?_⟩)))))
 rintro d rfl
 refine cn ?_
 rw [if_pos rfl]
 refine xg (n := 3) 42 (fun _ => rfl) Lg.glob rfl (hA.mono (by lia)) hF rfl (ad (fun _ => rfl) (em hre (ad (fun _ => rfl) (ai (ak ⟨_, Lg.ok _ 1, ng trivial trivial, ⟨_, _, _, rfl⟩, ?_⟩)))))
 rintro d rfl
 exact q
end
noncomputable def gq (S : List Int) : Nat -> Bool := da (Dz bj (an (bh S)))
noncomputable def ey (S : List Int) : List (List Nat) := bc (gq S) 32
noncomputable def g9 (S : List Int) : List Nat := cf (gq S) 32
noncomputable def gz (S : List Int) : List Nat := dy (ey S) (g9 S)
structure L7 (S : List Int) : Prop where
 len : S.length <= 1000
 k0 : i7 (2 ^ 34 - 1)
 w0 : an (2 ^ 34 - 1) = bj
 km : i7 (bh S)
 hx : (g0 (bh S - cb S)).length <= 100
 same : an (bh S) = gw (cb S) bj ++ ia S
 sh : ∀ w ∈ ia S, (PyData.str w).canLay0 = true
 T : om (ey S) (g9 S)
 plen : (gz S).length = 32
 Fr : qe (g9 S)
 Fp : qe (gz S)
 lr : ∀ n, n < 32 -> yw (ey S) n ((g9 S).getD n 0) = xk (ey S) n ((g9 S).getD n 0) + 1
 small : ∀ r ∈ ey S, ∀ x ∈ r, x < 32
 reps : jt (ey S)
 pair : ∀ t, t < 2 -> Dc (ey S) (g9 S) (gz S) (ze S t) (ut S t)
 bl : bsL (g4 (ey S)) (((g9 S).getD (f9 S) 0 : Nat) : Int) (au (ey S) 33).length 0 (au (ey S) 33).length = jy S (ey S) (g9 S)
 br : bsR (g4 (ey S)) (((g9 S).getD (f9 S) 0 : Nat) : Int) (au (ey S) 33).length 0 (au (ey S) 33).length = pu S (ey S) (g9 S)
structure D8 (C : Cx) (cd : Value) (ql : Str) (S : List Int) : Prop where
 nl : ci C
 gr : ag C "range" (.type "range")
 gsu : ag C "sum" (.builtin "sum")
 gle : ag C "len" (.builtin "len")
 ghe : ag C "hex" (.builtin "hex")
 gen : ag C "enumerate" (.type "enumerate")
 rows : ∃ f, Nl C f
 reply : ∃ f, vm C f
 parse : ∃ f, tc C f
 port : ∃ f, rn C f
 sum : ∃ f, Mx C f
 pretty : ∃ f, iz C f
 names : ∃ dv, ag C "COMPILER_FLAG_NAMES" dv /\ je C dv fc
 bisR : ∃ f fd, gk C 4 f fd /\ ag C "bisect_right" f
 bisL : ∃ f fd, gk C 5 f fd /\ ag C "bisect_left" f
 refused : ∃ f, vo C f (d5 (dr S)) (xt S (g9 S) (gz S) 1 : Int)
 low : ∃ f, P3 C f
 lam : ∃ P, l6 C cd P
 tq1 : ∀ pos' : Pos, ((((161 : Nat) : Int) == pos'.line) = true) -> ((((47 : Nat) : Int) == pos'.col) = true) -> C.tq pos' = ql ++ "<lambda>"
 tq2 : ∀ pos' : Pos, ((((163 : Nat) : Int) == pos'.line) = true) -> ((((48 : Nat) : Int) == pos'.col) = true) -> C.tq pos' = ql ++ "<lambda>"
theorem Hl : cq PySem.Challenge.pw_wb0027_01 18 = [stm 0, stm 1, stm 2, stm 3, stm 4, stm 5, stm 6, stm 7, stm 8, stm 9, stm 10, stm 11, stm 12, stm 13, stm 14, stm 15, stm 16, stm 17, stm 18, stm 19, stm 20, stm 21, stm 22] := rfl
theorem d9.nil (S : List Int) : d9 { script := some (B3 S) } [] := ⟨fun i e => (nomatch e), fun x hx => (nomatch hx)⟩
theorem d9.repliesUp {v : LV} {ext : List ac} (h : d9 v ext) {x : ac} (hx : x.below (10 + ext.length)) : d9 (v.sReplies (some (10 + ext.length))) (ext ++ [x]) := by
 have h1 := h.more hx
 refine ⟨fun i e => ?_, h1.ext⟩
 cases e; simp
theorem B0 {C : Cx} {A : Around} {G : Gd} {ae : a9} {st : List ac} (i : Nat) {ds : List D} {xs : List Stmt} {Q : AF -> List ac -> Prop} (hi : st[i]? = some (.list (ds.map .d))) (h : gy C A G ae (st.set i (.frz (.list ds))) xs Q) : gy C A G ae st xs Q := fun κ σ s e X => by
 refine byC fun hC1 => ?_
 obtain ⟨κ', k, X'⟩ := X.freeze hi
 refine hC1 ?_
 exact PA.wpK k (List.prefix_refl _) (h κ' σ s e X')
end Mine
end
section
open PySem PySem.StrLaws Builtin Builtin.Str
namespace Mine
theorem o4 (s sub : Str) (hi limit : Nat) (hno : ∀ i j, At s sub hi i -> At s sub hi j -> i < j -> i + sub.length <= j) : ∀ (l : List Nat) (acc : Array Nat) (free : Nat), l.Pairwise (· < ·) -> (∀ i ∈ l, At s sub hi i -> free <= i) -> acc.size + l.length <= limit →
  (forIn l (acc, free) (occBody s sub hi limit)).run.fst.toList = acc.toList ++ l.filter (fun i => decide (i + sub.length <= hi) && subAt s sub i)
 | [], acc, free, _, _, _ => by simp
 | a :: l, acc, free, hp, hf, hl => by
  rw [List.forIn_cons]
  unfold occBody
  obtain ⟨hp1, hp2⟩ := List.pairwise_cons.mp hp
  simp only [List.length_cons] at hl
  by_cases hc : At s sub hi a
  ·have c1 : ((acc.size < limit /\ free <= a) /\ a + sub.length <= hi) /\ subAt s sub a = true := ⟨⟨⟨by lia, hf a List.mem_cons_self hc⟩, hc.1⟩, hc.2⟩
   rw [if_pos c1]
   have ih := o4 s sub hi limit hno l (acc.push a) (a + sub.length) hp2 (fun i hm ha => hno a i hc ha (hp1 i hm)) (by simp; lia)
   rw [List.filter_cons, if_pos (by simp [hc.1, hc.2])]
   refine Eq.trans ih ?_
   simp
  ·have c2 : ¬ (((acc.size < limit /\ free <= a) /\ a + sub.length <= hi) /\ subAt s sub a = true) := fun h => hc ⟨h.1.2, h.2⟩
   rw [if_neg c2]
   have ih := o4 s sub hi limit hno l acc free hp2 (fun i hm ha => hf i (List.mem_cons_of_mem _ hm) ha) (by lia)
   rw [List.filter_cons, if_neg (by intro q; simp at q; exact hc q)]
   exact ih
theorem L4 (s sub : Str) (lo hi limit : Nat) (hlo : ∀ i, At s sub hi i -> True) (hno : ∀ i j, At s sub hi i -> At s sub hi j -> i < j -> i + sub.length <= j) (hl : hi + 1 - lo <= limit) :
  occurrences s sub lo hi limit = (List.range' lo (hi + 1 - lo)).filter (fun i => decide (i + sub.length <= hi) && subAt s sub i) := by
 rw [occ_eq, o4 s sub hi limit hno _ _ _ List.pairwise_lt_range' (fun i hm _ => by rw [List.mem_range'] at hm; lia) (by simp; lia)]
 simp
theorem F9 (s sub : Str) (lo hi k : Nat) (hk : At s sub hi k) (hlo : lo <= k) (hn : ∀ i, lo <= i -> i < k -> ¬ At s sub hi i) : ∃ r, occurrences s sub lo hi 1 = k :: r := by
 have hmem : k ∈ List.range' lo (hi + 1 - lo) := by rw [List.mem_range'_1]; have := hk.1; lia
 rw [occ_eq]
 rcases occ_first s sub hi 1 (Nat.le_refl _) (List.range' lo (hi + 1 - lo)) lo (fun i hm => by rw [List.mem_range'_1] at hm; exact hm.1) with ⟨_, h⟩ | ⟨pre, a, post, e, h0, ha, hpre⟩
 ·exact absurd hk (h k hmem)
 ·have hak : a = k := by
   have hpw : (List.range' lo (hi + 1 - lo)).Pairwise (· < ·) := List.pairwise_lt_range'
   rw [e] at hmem hpw
   have ham : a ∈ List.range' lo (hi + 1 - lo) := by rw [e]; simp
   rw [List.mem_range'_1] at ham
   rcases Nat.lt_trichotomy a k with q | q | q
   ·exact absurd ha (hn a ham.1 q)
   ·exact q
   ·rcases List.mem_append.mp hmem with m | m
    ·exact absurd hk (hpre k m)
    ·rcases List.mem_cons.mp m with m | m
     ·exact m.symm
     ·have := (List.pairwise_cons.mp (List.pairwise_append.mp hpw).2.1).1 k m
      lia
  subst hak
  generalize (forIn (List.range' lo (hi + 1 - lo)) ((#[] : Array Nat), lo) (occBody s sub hi 1)).run.fst = r at h0 ⊢
  obtain ⟨l⟩ := r
  cases l with
  | nil => simp at h0
  | cons b t => simp at h0; subst h0; exact ⟨t, rfl⟩
theorem N3 (s sub : Str) (lo hi : Nat) (hn : ∀ i, lo <= i -> ¬ At s sub hi i) : occurrences s sub lo hi 1 = [] := by
 rw [occ_eq]
 have := (occ_none s sub hi (List.range' lo (hi + 1 - lo)) lo (fun i hm => by rw [List.mem_range'_1] at hm; exact hm.1)).mpr fun i hm q => hn i (by rw [List.mem_range'_1] at hm; exact hm.1) q
 rw [this]
theorem jw (a : Array Nat) (i j : Nat) : (a.extract i j).toList = (a.toList.drop i).take (j - i) := by simp
theorem yp (l m : List Nat) (i : Nat) : subAt ⟨l.toArray⟩ ⟨m.toArray⟩ i = true ↔ (l.drop i).take m.length = m := by
 unfold subAt
 rw [beq_iff_eq]
 constructor
 ·intro h
  have := congrArg Array.toList h
  rw [jw] at this
  simpa [Str.length] using this
 ·intro h
  apply Array.toList_inj.mp
  rw [jw]
  simpa [Str.length] using h
theorem C9 (l m : List Nat) (i : Nat) : At ⟨l.toArray⟩ ⟨m.toArray⟩ l.length i ↔ i + m.length <= l.length /\ (l.drop i).take m.length = m := by
 unfold At
 rw [yp]; rfl
theorem Fl {l : List Nat} {c : Nat} {m : List Nat} {i : Nat} (h : At ⟨l.toArray⟩ ⟨(c :: m).toArray⟩ l.length i) : l[i]? = some c := by
 rw [C9] at h
 have := congrArg (·[0]?) h.2
 simpa using this
theorem wq {l : List Nat} {c i : Nat} : At ⟨l.toArray⟩ ⟨#[c]⟩ l.length i ↔ l[i]? = some c := by
 constructor
 ·exact fun h => Fl (m := []) h
 ·intro h
  refine (C9 l [c] i).mpr ?_
  refine byC fun hC1 => ?_
  obtain ⟨h1, h2⟩ := List.getElem?_eq_some_iff.mp h
  refine hC1 ?_
  refine ⟨by simp; lia, ?_⟩
  rw [show [c].length = 1 from rfl, List.drop_eq_getElem_cons h1, h2]; rfl
noncomputable def c9 (m : List Nat) : List (List Nat) -> List Nat
 | [] => []
 | [w] => w
 | w :: r => w ++ m ++ c9 m r
noncomputable def pq (n : Nat) : List (List Nat) -> Nat -> List Nat
 | [], _ => []
 | [_], _ => []
 | w :: r, o => (o + w.length) :: pq n r (o + w.length + n)
theorem lw (m w w2 : List Nat) (r : List (List Nat)) : c9 m (w :: w2 :: r) = w ++ m ++ c9 m (w2 :: r) := rfl
theorem m4 (n : Nat) (w w2 : List Nat) (r : List (List Nat)) (o : Nat) : pq n (w :: w2 :: r) o = (o + w.length) :: pq n (w2 :: r) (o + w.length + n) := rfl
section
variable {c : Nat} {m : List Nat}
theorem ti (hm : c ∉ m) : ∀ (ws : List (List Nat)) (pre : List Nat), ws ≠ [] -> (∀ w ∈ ws, c ∉ w) →
  (List.range' pre.length ((c9 (c :: m) ws).length + 1)).filter (fun i => decide (((pre ++ c9 (c :: m) ws).drop i).take (m.length + 1) = c :: m)) = pq (m.length + 1) ws pre.length
 | [], _, h, _ => absurd rfl h
 | [w], pre, _, hw => by
  show _ = []
  rw [List.filter_eq_nil_iff]
  intro i hi q
  rw [List.mem_range'_1] at hi
  have q := of_decide_eq_true q
  have h0 := congrArg (·[0]?) q
  simp only [List.getElem?_cons_zero] at h0
  rw [List.getElem?_take_of_lt (by lia), List.getElem?_drop, Nat.add_zero, List.getElem?_append_right hi.1] at h0
  exact hw w List.mem_cons_self (List.mem_of_getElem? h0)
 | w :: w2 :: r, pre, _, hw => by
  rw [m4, lw]
  have ih := ti hm (w2 :: r) (pre ++ w ++ (c :: m)) (by simp) (fun x hx => hw x (List.mem_cons_of_mem _ hx))
  generalize c9 (c :: m) (w2 :: r) = l2 at ih ⊢
  have e1 : pre ++ (w ++ (c :: m) ++ l2) = pre ++ w ++ (c :: m) ++ l2 := by simp
  rw [e1]
  have e2 : (w ++ (c :: m) ++ l2).length + 1 = w.length + (1 + (m.length + (l2.length + 1))) := by simp; lia
  rw [e2, <- List.range'_append_1, List.filter_append, <- List.range'_append_1, List.filter_append, <- List.range'_append_1, List.filter_append]
  have no : ∀ i x, (pre ++ w ++ (c :: m) ++ l2)[i]? = some x -> x ≠ c -> (decide (((pre ++ w ++ (c :: m) ++ l2).drop i).take (m.length + 1) = c :: m)) = false := fun i x hx hne => by
   refine decide_eq_false fun q => ?_
   have h0 := congrArg (·[0]?) q
   simp only [List.getElem?_cons_zero] at h0
   rw [List.getElem?_take_of_lt (by lia), List.getElem?_drop, Nat.add_zero, hx] at h0
   exact hne (Option.some.inj h0)
  have p1 : (List.range' pre.length w.length).filter (fun i => decide (((pre ++ w ++ (c :: m) ++ l2).drop i).take (m.length + 1) = c :: m)) = [] := by
   rw [List.filter_eq_nil_iff]
   intro i hi q
   rw [List.mem_range'_1] at hi
   have hx : (pre ++ w ++ (c :: m) ++ l2)[i]? = some (w[i - pre.length]'(by lia)) := by
    rw [List.append_assoc, List.append_assoc, List.getElem?_append_right hi.1, List.getElem?_append_left (by lia), List.getElem?_eq_getElem]
   rw [no i _ hx (fun q => hw w List.mem_cons_self (q ▸ List.getElem_mem _))] at q
   cases q
  have p2 : (List.range' (pre.length + w.length) 1).filter (fun i => decide (((pre ++ w ++ (c :: m) ++ l2).drop i).take (m.length + 1) = c :: m)) = [pre.length + w.length] := by
   show List.filter _ [pre.length + w.length] = _
   rw [List.filter_cons, if_pos]
   ·rfl
   ·refine decide_eq_true ?_
    rw [show pre ++ w ++ (c :: m) ++ l2 = (pre ++ w) ++ ((c :: m) ++ l2) by simp, List.drop_append_of_le_length (by simp), List.drop_eq_nil_of_le (by simp), List.nil_append, List.take_append_of_le_length (by simp)]
    exact List.take_of_length_le (by simp)
  have p3 : (List.range' (pre.length + w.length + 1) m.length).filter (fun i => decide (((pre ++ w ++ (c :: m) ++ l2).drop i).take (m.length + 1) = c :: m)) = [] := by
   rw [List.filter_eq_nil_iff]
   intro i hi q
   rw [List.mem_range'_1] at hi
   have hx : (pre ++ w ++ (c :: m) ++ l2)[i]? = some (m[i - pre.length - w.length - 1]'(by lia)) := by
    rw [show pre ++ w ++ (c :: m) ++ l2 = (pre ++ w ++ [c]) ++ (m ++ l2) by simp, List.getElem?_append_right (by simp; lia), List.getElem?_append_left (by simp; lia), List.getElem?_eq_getElem (by simp; lia)]
    congr 1
    simp; congr 1; lia
   rw [no i _ hx (fun q => hm (q ▸ List.getElem_mem _))] at q
   cases q
  rw [p1, p2, p3]
  have e3 : (pre ++ w ++ (c :: m)).length = pre.length + w.length + 1 + m.length := by simp; lia
  rw [e3] at ih
  rw [show pre.length + w.length + (m.length + 1) = pre.length + w.length + 1 + m.length by lia, <- ih]
  simp
end
end Mine
end
section
open PySem PySem.StrLaws Builtin Builtin.Str
namespace Mine
theorem oh (l : List Nat) (i j : Nat) : strSub ⟨l.toArray⟩ i j = ⟨((l.drop i).take (j - i)).toArray⟩ := by
 unfold strSub
 congr 1
 apply Array.toList_inj.mp
 rw [jw]
theorem Fy (pre w post : List Nat) : ((pre ++ w ++ post).drop pre.length).take (pre.length + w.length - pre.length) = w := by
 rw [List.append_assoc, List.drop_append_of_le_length (Nat.le_refl _), List.drop_eq_nil_of_le (Nat.le_refl _), List.nil_append, show pre.length + w.length - pre.length = w.length by lia, List.take_append_of_le_length (Nat.le_refl _)]
 exact List.take_of_length_le (Nat.le_refl _)
theorem vd (sep : List Nat) : ∀ (ws : List (List Nat)) (pre : List Nat), ws ≠ [] →
  ((pre.length :: (pq sep.length ws pre.length).map (· + sep.length)).zip (pq sep.length ws pre.length ++ [(pre ++ c9 sep ws).length])).map (fun p => strSub ⟨(pre ++ c9 sep ws).toArray⟩ p.1 p.2) = ws.map fun w => ⟨w.toArray⟩
 | [], _, h => absurd rfl h
 | [w], pre, _ => by
  show [strSub ⟨(pre ++ w).toArray⟩ pre.length (pre ++ w).length] = [⟨w.toArray⟩]
  rw [oh, List.length_append]
  have := Fy pre w []
  simp only [List.append_nil] at this
  rw [this]
 | w :: w2 :: r, pre, _ => by
  have ih := vd sep (w2 :: r) (pre ++ w ++ sep) (by simp)
  rw [m4, lw]
  have e1 : pre ++ (w ++ sep ++ c9 sep (w2 :: r)) = pre ++ w ++ sep ++ c9 sep (w2 :: r) := by simp
  have e2 : (pre ++ w ++ sep).length = pre.length + w.length + sep.length := by simp; lia
  rw [e1]
  rw [e2] at ih
  rw [List.map_cons, List.cons_append, List.zip_cons_cons, List.map_cons, ih, List.map_cons]
  congr 1
  rw [oh, List.append_assoc, Fy]
theorem Str.eta (x : Str) : (⟨x.cps.toList.toArray⟩ : Str) = x := by cases x; simp
section
variable {c : Nat} {m : List Nat}
theorem Jv (hm : c ∉ m) {ws : List (List Nat)} (hne : ws ≠ []) (hw : ∀ w ∈ ws, c ∉ w) :
  occurrences ⟨(c9 (c :: m) ws).toArray⟩ ⟨(c :: m).toArray⟩ 0 (c9 (c :: m) ws).length ((c9 (c :: m) ws).length + 1) = pq (m.length + 1) ws 0 := by
 have hno : ∀ i j, At ⟨(c9 (c :: m) ws).toArray⟩ ⟨(c :: m).toArray⟩ (c9 (c :: m) ws).length i -> At ⟨(c9 (c :: m) ws).toArray⟩ ⟨(c :: m).toArray⟩ (c9 (c :: m) ws).length j -> i < j -> i + (⟨(c :: m).toArray⟩ : Str).length <= j := by
  intro i j hi hj hij
  have hl : (⟨(c :: m).toArray⟩ : Str).length = m.length + 1 := rfl
  rcases Nat.lt_or_ge j (i + (m.length + 1)) with q | q
  ·exfalso
   have h1 := Fl hj
   have h2 := ((C9 _ _ _).mp hi).2
   have h3 := congrArg (·[j - i]?) h2
   simp only [List.length_cons] at h3
   rw [List.getElem?_take_of_lt (by lia), List.getElem?_drop, show i + (j - i) = j by lia, h1] at h3
   obtain ⟨k, hk⟩ : ∃ k, j - i = k + 1 := ⟨j - i - 1, by lia⟩
   rw [hk, List.getElem?_cons_succ] at h3
   exact hm (List.mem_of_getElem? h3.symm)
  ·lia
 rw [L4 _ _ _ _ _ (fun _ _ => trivial) hno (by lia)]
 have := ti hm ws [] hne hw
 simp only [List.nil_append, List.length_nil] at this
 rw [<- this, Nat.sub_zero]
 congr 1
 funext i
 have hl : (⟨(c :: m).toArray⟩ : Str).length = m.length + 1 := rfl
 rw [hl]
 apply Bool.eq_iff_iff.mpr
 rw [Bool.and_eq_true, decide_eq_true_iff, decide_eq_true_iff, yp]
 constructor
 ·exact fun h => h.2
 ·intro h
  refine ⟨?_, h⟩
  have := congrArg List.length h
  simp at this
  lia
theorem Cj (x : Str) : 1 <= PySem.Builtin.Str.strKind x := by unfold PySem.Builtin.Str.strKind; split <;> (try split) <;> lia
theorem pi (hm : c ∉ m) {ws : List (List Nat)} (hne : ws ≠ []) (hw : ∀ w ∈ ws, c ∉ w) (hs : ∀ x ∈ c :: m, x < 256) :
  Txt.split ⟨(c9 (c :: m) ws).toArray⟩ ⟨(c :: m).toArray⟩ = ws.map fun w => ⟨w.toArray⟩ := by
 have hk : PySem.Builtin.Str.strKind ⟨(c :: m).toArray⟩ = 1 := by
  unfold PySem.Builtin.Str.strKind
  rw [if_pos]
  rw [Array.all_eq_true']
  intro x hx
  exact decide_eq_true (hs x (by simpa using hx))
 have hkx := Cj ⟨(c9 (c :: m) ws).toArray⟩
 have hl : (⟨(c9 (c :: m) ws).toArray⟩ : Str).length = (c9 (c :: m) ws).length := rfl
 have ho := Jv hm hne hw
 have hp := vd (c :: m) ws [] hne
 simp only [List.nil_append, List.length_nil, List.length_cons] at hp
 unfold Txt.split
 rw [hl, ho]
 match ws, hne with
 | [w], _ =>
  show (if _ then [(⟨w.toArray⟩ : Str)] else if _ then [⟨w.toArray⟩] else _) = [⟨w.toArray⟩]
  split
  ·rfl
  ·exact if_pos rfl
 | w :: w2 :: r, _ =>
  rw [if_neg, if_neg]
  ·exact hp
  ·rw [m4]; simp
  ·rw [hk]
   intro q
   rw [Bool.or_eq_true, decide_eq_true_iff, decide_eq_true_iff] at q
   rcases q with q | q
   ·have : (⟨(c :: m).toArray⟩ : Str).length = m.length + 1 := rfl
    rw [lw] at q
    simp at q
    lia
   ·lia
end
theorem z7 {pre post : List Nat} {c : Nat} (h : c ∉ pre) : Txt.find ⟨(pre ++ c :: post).toArray⟩ ⟨#[c]⟩ = (pre.length : Int) := by
 obtain ⟨r, hr⟩ := F9 ⟨(pre ++ c :: post).toArray⟩ ⟨#[c]⟩ 0 (pre ++ c :: post).length pre.length (wq.mpr (by simp)) (Nat.zero_le _) (fun i _ hi ha => by
  have := wq.mp ha
  rw [List.getElem?_append_left hi] at this
  exact h (List.mem_of_getElem? this))
 unfold Txt.find
 rw [show (⟨(pre ++ c :: post).toArray⟩ : Str).length = (pre ++ c :: post).length from rfl, hr]
theorem Bh {pre mid post : List Nat} {c : Nat} (h : c ∉ mid) : Txt.find3 ⟨(pre ++ mid ++ c :: post).toArray⟩ ⟨#[c]⟩ (pre.length : Int) = ((pre.length + mid.length : Nat) : Int) := by
 have hf : fromIndex (⟨(pre ++ mid ++ c :: post).toArray⟩ : Str).length (pre.length : Int) = pre.length := by
  unfold fromIndex; rw [if_neg (by lia)]; lia
 obtain ⟨r, hr⟩ := F9 ⟨(pre ++ mid ++ c :: post).toArray⟩ ⟨#[c]⟩ pre.length (pre ++ mid ++ c :: post).length (pre.length + mid.length) (wq.mpr (by rw [List.getElem?_append_right (by simp)]; simp)) (by lia) (fun i h1 hi ha => by
  have := wq.mp ha
  rw [List.append_assoc, List.getElem?_append_right h1, List.getElem?_append_left (by lia)] at this
  exact h (List.mem_of_getElem? this))
 unfold Txt.find3
 rw [hf, show (⟨(pre ++ mid ++ c :: post).toArray⟩ : Str).length = (pre ++ mid ++ c :: post).length from rfl, hr]
theorem Je {pre post : List Nat} {c : Nat} (h : c ∉ post) : Txt.find3 ⟨(pre ++ post).toArray⟩ ⟨#[c]⟩ (pre.length : Int) = -1 := by
 have hf : fromIndex (⟨(pre ++ post).toArray⟩ : Str).length (pre.length : Int) = pre.length := by
  unfold fromIndex; rw [if_neg (by lia)]; lia
 unfold Txt.find3
 rw [hf, show (⟨(pre ++ post).toArray⟩ : Str).length = (pre ++ post).length from rfl, N3 ⟨(pre ++ post).toArray⟩ ⟨#[c]⟩ pre.length (pre ++ post).length (fun i h1 ha => by
  have := wq.mp ha
  rw [List.getElem?_append_right h1] at this
  exact h (List.mem_of_getElem? this))]
end Mine
end
section
open PySem
namespace Mine
noncomputable def tb (x : Int) (i : Nat) : Bool := x.fdiv (2 ^ i) % 2 == 1
noncomputable def hiP (x : Int) (i : Nat) : Int := 2 ^ i * x.fdiv (2 ^ i)
theorem i6 (i : Nat) : (0 : Int) < 2 ^ i := Int.pow_pos (by decide)
theorem A0 (n i : Nat) : (n : Int).fdiv (2 ^ i) = ((n / 2 ^ i : Nat) : Int) := by
 rw [Int.fdiv_eq_ediv_of_nonneg _ (Int.le_of_lt (i6 i))]
 rw [show ((2 : Int) ^ i) = ((2 ^ i : Nat) : Int) by simp]
 rfl
theorem oz (n i : Nat) : tb (n : Int) i = n.testBit i := by
 unfold tb
 rw [A0, Nat.testBit_eq_decide_div_mod_eq]
 generalize n / 2 ^ i = k
 by_cases h : k % 2 = 1
 ·have : (k : Int) % 2 = 1 := by lia
  simp [h, this]
 ·have : ¬ (k : Int) % 2 = 1 := by lia
  simp [h, this]
theorem Kz (n i : Nat) : (-(n : Int) - 1).fdiv (2 ^ i) = -((n / 2 ^ i : Nat) : Int) - 1 := by
 have hp := i6 i
 rw [Int.fdiv_eq_ediv_of_nonneg _ (Int.le_of_lt hp)]
 have hd : (n : Int) = 2 ^ i * ((n / 2 ^ i : Nat) : Int) + ((n % 2 ^ i : Nat) : Int) := by
  have := Nat.div_add_mod n (2 ^ i)
  have h2 : ((2 ^ i : Nat) : Int) = 2 ^ i := by simp
  rw [<- h2]; exact_mod_cast this.symm
 have hm : ((n % 2 ^ i : Nat) : Int) < 2 ^ i := by
  have := Nat.mod_lt n (Nat.two_pow_pos i)
  have h2 : ((2 ^ i : Nat) : Int) = 2 ^ i := by simp
  rw [<- h2]; exact_mod_cast this
 have e : -(n : Int) - 1 = (2 ^ i - 1 - ((n % 2 ^ i : Nat) : Int)) + 2 ^ i * (-((n / 2 ^ i : Nat) : Int) - 1) := by
  rw [hd]; grind
 rw [e, Int.add_mul_ediv_left _ _ (by lia), Int.ediv_eq_zero_of_lt (by lia) (by lia)]
 lia
theorem Id (n i : Nat) : tb (-(n : Int) - 1) i = !n.testBit i := by
 rw [<- oz]
 unfold tb
 rw [Kz, A0]
 generalize n / 2 ^ i = k
 by_cases h : k % 2 = 1
 ·have h1 : (k : Int) % 2 = 1 := by lia
  have h2 : (-(k : Int) - 1) % 2 = 0 := by lia
  simp [h1, h2]
 ·have h1 : (k : Int) % 2 = 0 := by lia
  have h2 : (-(k : Int) - 1) % 2 = 1 := by lia
  simp [h1, h2]
theorem Eb (n i : Nat) : n &&& 2 ^ i = if n.testBit i then 2 ^ i else 0 := by
 apply Nat.eq_of_testBit_eq
 intro j
 rw [Nat.testBit_and, Nat.testBit_two_pow]
 by_cases q : i = j
 ·subst q; cases h : n.testBit i <;> simp
 ·cases h : n.testBit i <;> simp [q, Nat.testBit_two_pow]
theorem Ey (i : Nat) : (1 * 2 ^ i : Int) = ((2 ^ i : Nat) : Int) := by simp
theorem sm (x : Int) : Builtin.bitNot x = -x - 1 := by unfold Builtin.bitNot; lia
theorem sw (x : Int) (i : Nat) : Builtin.bitAnd x (1 * 2 ^ i) = if tb x i then 2 ^ i else 0 := by
 rw [Ey]
 unfold Builtin.bitAnd
 have h2 : (0 : Int) <= ((2 ^ i : Nat) : Int) := Int.natCast_nonneg _
 have e2 : ((2 ^ i : Nat) : Int) = 2 ^ i := by simp
 by_cases h : 0 <= x
 ·obtain ⟨n, rfl⟩ := Int.eq_ofNat_of_zero_le h
  rw [decide_eq_true h, decide_eq_true h2]
  simp only [Int.toNat_natCast]
  rw [Eb, oz]
  split <;> simp
 ·obtain ⟨n, rfl⟩ : ∃ n : Nat, x = -(n : Int) - 1 := ⟨(-x - 1).toNat, by lia⟩
  rw [decide_eq_false h, decide_eq_true h2]
  simp only [Int.toNat_natCast, sm]
  rw [show (-(-(n : Int) - 1) - 1).toNat = n by lia, Nat.and_comm, Eb, Id]
  cases n.testBit i <;> simp
theorem Hh {x : Int} {i : Nat} (h : tb x i = true) : Builtin.bitXor x (1 * 2 ^ i) = x - 2 ^ i := by
 unfold Builtin.bitXor
 rw [sw, h, if_pos rfl]
 suffices Builtin.bitOr x (1 * 2 ^ i) = x by rw [this]
 rw [Ey]
 unfold Builtin.bitOr
 have e2 : (0 : Int) <= ((2 ^ i : Nat) : Int) := Int.natCast_nonneg _
 by_cases hx : 0 <= x
 ·obtain ⟨n, rfl⟩ := Int.eq_ofNat_of_zero_le hx
  unfold Builtin.bitAnd
  simp only [sm]
  rw [decide_eq_false (by lia), decide_eq_false (by lia)]
  simp only
  rw [show (-(-(n : Int) - 1) - 1).toNat = n by lia, show (-(-((2 ^ i : Nat) : Int) - 1) - 1).toNat = 2 ^ i by lia]
  rw [oz] at h
  have : n ||| 2 ^ i = n := by
   apply Nat.eq_of_testBit_eq
   intro j
   rw [Nat.testBit_or, Nat.testBit_two_pow]
   by_cases q : i = j
   ·subst q; simp [h]
   ·simp [q]
  rw [this]; lia
 ·obtain ⟨n, rfl⟩ : ∃ n : Nat, x = -(n : Int) - 1 := ⟨(-x - 1).toNat, by lia⟩
  unfold Builtin.bitAnd
  simp only [sm]
  rw [decide_eq_true (by lia), decide_eq_false (by lia)]
  simp only
  rw [show (-(-(n : Int) - 1) - 1).toNat = n by lia, show (-(-((2 ^ i : Nat) : Int) - 1) - 1).toNat = 2 ^ i by lia, Eb]
  rw [Id] at h
  rw [if_neg (by simpa using h)]
  simp; lia
theorem Ib (x : Int) (i : Nat) : hiP x i = hiP x (i + 1) + (if tb x i then 2 ^ i else 0) := by
 unfold hiP tb
 have hp := i6 i
 have hp1 := i6 (i + 1)
 have e1 : x.fdiv (2 ^ (i + 1)) = (x.fdiv (2 ^ i)) / 2 := by
  rw [Int.fdiv_eq_ediv_of_nonneg _ (Int.le_of_lt hp1), Int.fdiv_eq_ediv_of_nonneg _ (Int.le_of_lt hp), Int.pow_succ, Int.ediv_ediv_of_nonneg (Int.le_of_lt hp)]
 rw [e1, Int.pow_succ]
 generalize x.fdiv (2 ^ i) = q
 generalize (2 : Int) ^ i = p at *
 by_cases h : q % 2 = 1
 ·have hq : q = 2 * (q / 2) + 1 := by lia
  simp only [h, beq_self_eq_true, if_true]
  generalize q / 2 = r at hq ⊢
  subst hq; grind
 ·have hq : q = 2 * (q / 2) := by lia
  have : (q % 2 == 1) = false := by simpa using h
  simp only [this, Bool.false_eq_true, if_false]
  generalize q / 2 = r at hq ⊢
  subst hq; grind
theorem Jj (x : Int) (i : Nat) : tb (hiP x i) i = tb x i := by
 unfold tb hiP
 rw [Int.mul_fdiv_cancel_left _ (by have := i6 i; lia)]
noncomputable def b9 (x : Int) (i n : Nat) : List Str := (List.range' i n).filterMap fun j => if tb x j then some (a7 j) else none
theorem L1 {x : Int} {i j : Nat} (h : x.fdiv (2 ^ i) = 0) (hij : i <= j) : tb x j = false := by
 have hp := i6 i
 rw [Int.fdiv_eq_ediv_of_nonneg _ (Int.le_of_lt hp)] at h
 have h0 : 0 <= x := by
  rcases Int.lt_or_le x 0 with q | q
  ·have := Int.ediv_neg_of_neg_of_pos q hp; lia
  ·exact q
 obtain ⟨n, rfl⟩ := Int.eq_ofNat_of_zero_le h0
 rw [oz]
 have hlt : n < 2 ^ i := by
  have : (n : Int) < 2 ^ i := by
   have h2 := Int.emod_add_mul_ediv (n : Int) (2 ^ i)
   rw [h] at h2
   have := Int.emod_lt_of_pos (n : Int) hp
   lia
  have h2 : ((2 ^ i : Nat) : Int) = 2 ^ i := by simp
  rw [<- h2] at this; exact_mod_cast this
 exact Nat.testBit_lt_two_pow (Nat.lt_of_lt_of_le hlt (Nat.pow_le_pow_right (by decide) hij))
noncomputable def k6 (x : Int) : List Str := if hiP x 32 ≠ 0 then [g0 (hiP x 32)] else []
theorem G1 (x : Int) (i : Nat) : x.fdiv (2 ^ (i + 1)) = (x.fdiv (2 ^ i)) / 2 := by
 rw [Int.fdiv_eq_ediv_of_nonneg _ (Int.le_of_lt (i6 (i + 1))), Int.fdiv_eq_ediv_of_nonneg _ (Int.le_of_lt (i6 i)), Int.pow_succ, Int.ediv_ediv_of_nonneg (Int.le_of_lt (i6 i))]
theorem yn {x : Int} {i : Nat} (h : x.fdiv (2 ^ i) = 0) : ∀ d, x.fdiv (2 ^ (i + d)) = 0
 | 0 => h
 | d + 1 => by rw [<- Nat.add_assoc, G1, yn h d]; rfl
theorem I1 {x : Int} {i : Nat} (h : hiP x i = 0) : x.fdiv (2 ^ i) = 0 := by
 unfold hiP at h
 rcases Int.mul_eq_zero.mp h with q | q
 ·have := i6 i; lia
 ·exact q
theorem M3 (x : Int) : ∀ (n i : Nat) (ns : List Str), n + i = 32 -> hiP x i ≠ 0 -> ju n i (hiP x i) ns = ns ++ b9 x i n ++ k6 x := by
 intro n
 induction n with
 | zero =>
  intro i ns hi hne
  obtain rfl : i = 32 := by lia
  refine (?_ : ns ++ [g0 (hiP x 32)] = _)
  unfold b9 k6
  rw [if_pos hne]; simp
 | succ n ih =>
  intro i ns hi hne
  have hs := Ib x i
  unfold ju
  rw [sw, Jj]
  have hr : b9 x i (n + 1) = (if tb x i then [a7 i] else []) ++ b9 x (i + 1) n := by
   unfold b9
   rw [List.range'_succ, List.filterMap_cons]
   cases tb x i <;> rfl
  cases hb : tb x i with
  | true =>
   rw [hb] at hs hr
   simp only [if_true] at hs hr ⊢
   rw [Hh (by rw [Jj]; exact hb), show hiP x i - 2 ^ i = hiP x (i + 1) by lia]
   have hp : ((2 : Int) ^ i != 0) = true := by have := i6 i; simp; lia
   rw [if_pos hp]
   by_cases q : hiP x (i + 1) = 0
   ·rw [q, if_neg (by simp), hr]
    have hz := I1 q
    have h0 : b9 x (i + 1) n = [] := by
     unfold b9
     rw [List.filterMap_eq_nil_iff]
     intro j hj
     rw [List.mem_range'_1] at hj
     rw [L1 hz hj.1]; rfl
    have ht : k6 x = [] := by
     unfold k6
     have := yn hz n
     rw [show i + 1 + n = 32 by lia] at this
     unfold hiP
     rw [this]; simp
    rw [h0, ht]; simp
   ·rw [if_pos (by simpa using q), ih (i + 1) _ (by lia) q, hr]; simp
  | false =>
   rw [hb] at hs hr
   simp only [Bool.false_eq_true, if_false, Int.add_zero, List.nil_append] at hs hr ⊢
   rw [if_neg (by simp), hs, ih (i + 1) ns (by lia) (by rw [<- hs]; exact hne), hr]
theorem Nu (x : Int) : hiP x 0 = x := by unfold hiP; simp
theorem pt {x : Int} (h0 : x ≠ 0) : cz x = b9 x 0 32 ++ k6 x := by
 have h := M3 x 32 0 [] rfl (by rw [Nu]; exact h0)
 rw [Nu] at h
 unfold cz; rw [h]; rfl
theorem sg : cz 0 = [Str.ofString "0x0"] := by decide +kernel
theorem Na (x : Int) (i : Nat) : (Builtin.bitAnd (x.fdiv (2 ^ i)) 1 != 0) = tb x i := by
 have h := sw (x.fdiv (2 ^ i)) 0
 rw [show (1 * 2 ^ 0 : Int) = 1 from rfl] at h
 rw [h]
 have e : tb (x.fdiv (2 ^ i)) 0 = tb x i := by unfold tb; simp
 rw [e]
 cases tb x i <;> rfl
theorem Kq {f : Nat} (h : f < 32) : bj.getD f Str.empty = a7 f := by
 unfold bj
 rw [List.getD_eq_getElem?_getD, List.getElem?_append_left (by simp [jp]; lia)]
 unfold jp
 rw [List.getElem?_map, List.getElem?_range h]; rfl
theorem Dq (x : Int) : gw x bj = b9 x 0 32 := by
 unfold gw b9
 rw [List.range_eq_range']
 refine rp fun f hf => ?_
 rw [List.mem_range'_1] at hf
 rw [Na, Kq (by lia)]
theorem Ji : ∀ j : Fin 32, 44 ∉ (a7 j).cps.toList /\ (a7 j).length <= 20 := by decide +kernel
theorem Ig {x : Int} {w : Str} (h : w ∈ b9 x 0 32) : ∃ j : Fin 32, w = a7 j := by
 unfold b9 at h
 obtain ⟨j, hj, e⟩ := List.mem_filterMap.mp h
 rw [List.mem_range'_1] at hj
 split at e
 ·cases e; exact ⟨⟨j, by lia⟩, rfl⟩
 ·cases e
noncomputable def G4 (w : Str) : Prop := 44 ∉ w.cps.toList /\ w.length <= 20
theorem Gq : ∀ (n i : Nat) (x : Int) (ns : List Str), ju n i x ns ≠ [] := by
 intro n
 induction n with
 | zero => intro i x ns; show ns ++ [g0 x] ≠ []; simp
 | succ n ih =>
  intro i x ns
  unfold ju
  split
  ·split
   ·exact ih _ _ _
   ·simp
  ·exact ih _ _ _
theorem join_list (ws : List Str) : Str.join ", " ws = ⟨(c9 [44, 32] (ws.map fun w => w.cps.toList)).toArray⟩ := by
 have hc : (Str.ofString ", ") = ⟨#[44, 32]⟩ := by decide +kernel
 induction ws with
 | nil => rfl
 | cons w r ih =>
  cases r with
  | nil => show w = _; exact (Str.eta w).symm
  | cons w2 r =>
   refine (?_ : w ++ Str.ofString ", " ++ Str.join (Str.ofString ", ") (w2 :: r) = _)
   have ih : Str.join (Str.ofString ", ") (w2 :: r) = _ := ih
   rw [ih, hc, show ((w :: w2 :: r).map fun w => w.cps.toList) = w.cps.toList :: w2.cps.toList :: r.map (fun w => w.cps.toList) from rfl, lw]
   refine (?_ : (⟨(w.cps ++ #[44, 32]) ++ _⟩ : Str) = _)
   congr 1
   apply Array.toList_inj.mp
   simp
theorem M4 {ws : List Str} (hne : ws ≠ []) (hw : ∀ w ∈ ws, 44 ∉ w.cps.toList) : Txt.split (Txt.join ", " ws) ", " = ws := by
 have e : Txt.join ", " ws = Str.join ", " ws := StrLaws.glued_eq_join _ _
 have hc : (Str.ofString ", ") = ⟨[44, 32].toArray⟩ := by decide +kernel
 rw [e, join_list, hc, pi (c := 44) (m := [32]) (by decide) (by simpa using hne) (fun w h => by
  obtain ⟨v, hv, rfl⟩ := List.mem_map.mp h
  exact hw v hv) (by decide), List.map_map]
 refine Eq.trans (List.map_congr_left fun w _ => ?_) (List.map_id ws)
 exact Str.eta w
theorem Fq {x : Int} (hf : ∀ w ∈ cz x, G4 w) (hlen : (cz x).length <= 33) : i7 x /\ an x = cz x := by
 refine ⟨⟨fun y ns h => ?_, ?_⟩, M4 (Gq _ _ _ _) fun w h => (hf w h).1⟩
 ·have := (hf (g0 y) (by rw [<- h]; simp)).2
  lia
 ·have e : Txt.join ", " (cz x) = Str.join ", " (cz x) := StrLaws.glued_eq_join _ _
  rw [e]
  have h1 := StrLaws.join_length_le ", " (cz x)
  have h2 := qn (cz x) 33 20 hlen fun w h => (hf w h).2
  have h3 : (cz x).length * (Str.ofString ", ").length <= 33 * 2 := Nat.mul_le_mul hlen (by decide +kernel)
  lia
theorem y1 : ∀ k : Fin 7, G4 (g0 (2 ^ 32 * (((k : Nat) : Int) - 3))) /\ (PyData.str (g0 (2 ^ 32 * (((k : Nat) : Int) - 3)))).canLay0 = true := by unfold G4; decide +kernel
theorem zw {x : Int} (h1 : -3 <= x.fdiv (2 ^ 32)) (h2 : x.fdiv (2 ^ 32) <= 3) : i7 x /\ an x = if x = 0 then [Str.ofString "0x0"] else b9 x 0 32 ++ k6 x := by
 have ht : ∀ w ∈ k6 x, G4 w := by
  intro w hw
  unfold k6 at hw
  split at hw
  ·have hw := List.mem_singleton.mp hw
   subst hw
   unfold hiP
   have := (y1 ⟨(x.fdiv (2 ^ 32) + 3).toNat, by lia⟩).1
   rw [show (((x.fdiv (2 ^ 32) + 3).toNat : Nat) : Int) - 3 = x.fdiv (2 ^ 32) by lia] at this
   exact this
  ·cases hw
 by_cases h0 : x = 0
 ·subst h0
  rw [if_pos rfl, <- sg]
  refine Fq ?_ ?_
  ·rw [sg]; unfold G4; decide +kernel
  ·rw [sg]; decide
 ·rw [if_neg h0, <- pt h0]
  refine Fq (fun w hw => ?_) ?_
  ·rw [pt h0] at hw
   rcases List.mem_append.mp hw with h | h
   ·obtain ⟨j, rfl⟩ := Ig h; exact Ji j
   ·exact ht w h
  ·rw [pt h0, List.length_append]
   have h1 : (b9 x 0 32).length <= 32 := Nat.le_trans (List.length_filterMap_le _ _) (by simp)
   have h2 : (k6 x).length <= 1 := by unfold k6; split <;> simp
   lia
end Mine
end
section
open PySem
namespace Mine
/- the mask's words, and those of ports -/
theorem yd (S : List Int) : 0 <= cb S /\ cb S < 2 ^ 32 := by
 unfold cb
 exact ⟨Int.fmod_nonneg_of_pos _ (by decide), Int.fmod_lt_of_pos _ (by decide)⟩
noncomputable def u9 (S : List Int) : Int := (iv S + 2).fmod 7 - 3
theorem Bi (S : List Int) : -3 <= u9 S /\ u9 S <= 3 := by
 unfold u9
 have h1 := Int.fmod_nonneg_of_pos (iv S + 2) (b := 7) (by decide)
 have h2 := Int.fmod_lt_of_pos (iv S + 2) (b := 7) (by decide)
 omega
theorem uz (S : List Int) : bh S = cb S + 2 ^ 32 * u9 S := rfl
theorem qi (S : List Int) : (bh S).fdiv (2 ^ 32) = u9 S := by
 obtain ⟨h1, h2⟩ := yd S
 rw [uz, Int.fdiv_eq_ediv_of_nonneg _ (by decide), Int.add_mul_ediv_left _ _ (by decide), Int.ediv_eq_zero_of_lt h1 h2, Int.zero_add]
theorem M1 (S : List Int) {j : Nat} (hj : j < 32) : tb (bh S) j = tb (cb S) j := by
 unfold tb
 have hp := i6 j
 obtain ⟨d, hd⟩ := Nat.le.dest (show j + 1 <= 32 from hj)
 have e : bh S = cb S + 2 ^ j * (2 * (2 ^ d * u9 S)) := by
  rw [uz, <- hd, Int.pow_add, Int.pow_succ, Int.mul_assoc, Int.mul_assoc]
 rw [e, Int.fdiv_eq_ediv_of_nonneg _ (Int.le_of_lt hp), Int.add_mul_ediv_left _ _ (by lia), Int.fdiv_eq_ediv_of_nonneg _ (Int.le_of_lt hp)]
 generalize cb S / 2 ^ j = q
 generalize 2 ^ d * u9 S = r
 have : (q + 2 * r) % 2 = q % 2 := by lia
 rw [this]
theorem Ho (S : List Int) : b9 (bh S) 0 32 = b9 (cb S) 0 32 := by
 unfold b9
 refine rp fun j hj => ?_
 rw [List.mem_range'_1] at hj
 rw [M1 S (by omega)]
theorem Fu (S : List Int) : bh S - cb S = hiP (bh S) 32 := by
 unfold hiP
 rw [qi, uz]; lia
theorem H0 (S : List Int) : G4 (g0 (bh S - cb S)) /\ (PyData.str (g0 (bh S - cb S))).canLay0 = true := by
 refine byC fun hC1 => ?_
 obtain ⟨h1, h2⟩ := Bi S
 refine hC1 ?_
 have := y1 ⟨(u9 S + 3).toNat, by lia⟩
 rw [show (((u9 S + 3).toNat : Nat) : Int) - 3 = u9 S by lia] at this
 rw [Fu]
 unfold hiP
 rw [qi]
 exact this
theorem Gn (S : List Int) : i7 (bh S) /\ an (bh S) = gw (cb S) bj ++ ia S := by
 refine byC fun hC1 => ?_
 obtain ⟨h1, h2⟩ := Bi S
 obtain ⟨l1, l2⟩ := yd S
 obtain ⟨k, ht⟩ := zw (x := bh S) (by rw [qi]; exact h1) (by rw [qi]; exact h2)
 refine hC1 ?_
 refine ⟨k, ?_⟩
 rw [ht, Dq]
 have hm := uz S
 have hb := Ho S
 have hre := Fu S
 have htl : k6 (bh S) = if hiP (bh S) 32 ≠ 0 then [g0 (hiP (bh S) 32)] else [] := rfl
 have hr : ia S = if (bh S != cb S || cb S == 0) = true then [g0 (bh S - cb S)] else [] := rfl
 by_cases q : u9 S = 0
 ·have e : bh S = cb S := by rw [hm, q]; lia
  have h0 : hiP (bh S) 32 = 0 := by rw [<- hre, e]; lia
  by_cases z : cb S = 0
  ·have z2 : bh S = 0 := by rw [e, z]
   rw [if_pos z2, hr, if_pos (by rw [z]; simp)]
   rw [z2, z]
   decide +kernel
  ·rw [if_neg (by rw [e]; exact z), hb, hr, if_neg (by rw [e]; simpa using z), htl, if_neg (by rw [h0]; simp)]
 ·have hne : hiP (bh S) 32 ≠ 0 := by
   unfold hiP; rw [qi]; lia
  rw [if_neg (by rw [hm]; lia), hb, hr, if_pos (by
   have : (bh S != cb S) = true := by
    rw [bne_iff_ne]; intro h; rw [<- hre] at hne; lia
   rw [this]; rfl), htl, if_pos hne, hre]
theorem Ek : i7 (2 ^ 34 - 1) /\ an (2 ^ 34 - 1) = bj := by
 obtain ⟨k, ht⟩ := zw (x := 2 ^ 34 - 1) (by decide +kernel) (by decide +kernel)
 refine ⟨k, ?_⟩
 rw [ht, if_neg (by decide)]
 decide +kernel
theorem Kj : ∀ i j : Fin 32, a7 i = a7 j -> i = j := by decide +kernel
theorem Hs : ∀ i : Fin 32, a7 i ≠ Str.ofString "0x0" := by decide +kernel
theorem Jc : ∀ i : Fin 10, bj.idxOf (a7 i) = (i : Nat) := by decide +kernel
theorem Px : bj.take 10 = (List.range 10).map a7 := by
 unfold bj jp
 rw [List.take_append_of_le_length (by simp), <- List.map_take]
 rfl
theorem kr {n : Nat} (h : n < 1024) : i7 (n : Int) /\ an (n : Int) = if n = 0 then [Str.ofString "0x0"] else b9 (n : Int) 0 32 := by
 have e : (n : Int).fdiv (2 ^ 32) = 0 := by
  rw [Int.fdiv_eq_ediv_of_nonneg _ (by decide)]
  exact Int.ediv_eq_zero_of_lt (by lia) (by lia)
 obtain ⟨k, ht⟩ := zw (x := (n : Int)) (by rw [e]; decide) (by rw [e]; decide)
 refine ⟨k, ?_⟩
 rw [ht]
 by_cases q : n = 0
 ·subst q; rfl
 ·rw [if_neg (by lia), if_neg q]
  have : k6 (n : Int) = [] := by unfold k6 hiP; rw [e]; simp
  rw [this, List.append_nil]
theorem Cg {n : Nat} (h : n < 1024) {i : Nat} (hi : i < 10) : (an (n : Int)).any (· == a7 i) = n.testBit i := by
 rw [(kr h).2]
 by_cases q : n = 0
 ·subst q
  rw [if_pos rfl, Nat.zero_testBit]
  have := Hs ⟨i, by lia⟩
  simp only [List.any_cons, List.any_nil, Bool.or_false]
  exact beq_eq_false_iff_ne.mpr fun e => this e.symm
 ·rw [if_neg q, Bool.eq_iff_iff, List.any_eq_true]
  unfold b9
  constructor
  ·rintro ⟨w, hw, he⟩
   obtain ⟨j, hj, e⟩ := List.mem_filterMap.mp hw
   rw [List.mem_range'_1] at hj
   split at e
   ·rename_i ht
    cases e
    have := Kj ⟨j, by lia⟩ ⟨i, by lia⟩ (eq_of_beq he)
    cases this
    rwa [oz] at ht
   ·cases e
  ·intro ht
   exact ⟨a7 i, List.mem_filterMap.mpr ⟨i, List.mem_range'_1.mpr ⟨by lia, by lia⟩, by rw [oz, ht]; rfl⟩, beq_self_eq_true _⟩
noncomputable def ke (x : Nat) : List Str := ((List.range 10).filter x.testBit).map a7
theorem M6 {m n : Nat} (hm : m < 1024) (hn : n < 1024) : du bj (an (m : Int)) (an (n : Int)) = ke (m ^^^ n) := by
 unfold du ke
 rw [Px, List.filter_map]
 congr 1
 refine List.filter_congr fun i hi => ?_
 have hi := List.mem_range.mp hi
 refine (?_ : ((an (m : Int)).any (· == a7 i) != (an (n : Int)).any (· == a7 i)) = _)
 rw [Cg hm hi, Cg hn hi, Nat.testBit_xor]
theorem Bb (x : Nat) : ∀ k, (((List.range k).filter x.testBit).map (2 ^ ·)).sum = x % 2 ^ k
 | 0 => by simp [Nat.mod_one]
 | k + 1 => by
  rw [List.range_succ, List.filter_append, List.map_append, List.sum_append, Bb x k, Nat.mod_pow_succ]
  congr 1
  have hb := Nat.testBit_eq_decide_div_mod_eq (x := x) (i := k)
  by_cases q : x / 2 ^ k % 2 = 1
  ·rw [q, decide_eq_true rfl] at hb
   simp [hb, q]
  ·rw [decide_eq_false q] at hb
   have : x / 2 ^ k % 2 = 0 := by lia
   simp [hb, this]
theorem Nj {x : Nat} (h : x < 1024) : ((ke x).map fun w => (1 : Int) * 2 ^ (bj.idxOf w)).sum = (x : Int) := by
 have e : ((ke x).map fun w => (1 : Int) * 2 ^ (bj.idxOf w)) = (((List.range 10).filter x.testBit).map (2 ^ ·)).map fun (n : Nat) => (n : Int) := by
  unfold ke
  rw [List.map_map, List.map_map]
  refine List.map_congr_left fun i hi => ?_
  have hi := List.mem_range.mp (List.mem_filter.mp hi).1
  have := Jc ⟨i, hi⟩
  refine (?_ : (1 : Int) * 2 ^ (bj.idxOf (a7 i)) = ((2 ^ i : Nat) : Int))
  have this : bj.idxOf (a7 i) = i := this
  rw [this]; simp
 have hs : ∀ l : List Nat, (l.map fun (n : Nat) => (n : Int)).sum = ((l.sum : Nat) : Int) := by
  intro l
  induction l with
  | nil => rfl
  | cons a l ih => rw [List.map_cons, List.sum_cons, ih, List.sum_cons]; lia
 rw [e, hs, Bb, Nat.mod_eq_of_lt h]
theorem Pe {x : Nat} (h : x < 1024) : b9 (x : Int) 0 32 = ke x := by
 have fm : ∀ l : List Nat, (l.filterMap fun j => if tb (x : Int) j then some (a7 j) else none) = (l.filter x.testBit).map a7 := by
  intro l
  induction l with
  | nil => rfl
  | cons j l ih =>
   rw [List.filterMap_cons, ih, List.filter_cons, oz]
   cases x.testBit j <;> rfl
 unfold b9 ke
 rw [fm, <- List.range_eq_range', show List.range 32 = List.range 10 ++ List.range' 10 22 by decide, List.filter_append]
 have : (List.range' 10 22).filter x.testBit = [] := by
  rw [List.filter_eq_nil_iff]
  intro j hj
  rw [List.mem_range'_1] at hj
  rw [Nat.testBit_lt_two_pow (Nat.lt_of_lt_of_le h (show 2 ^ 10 <= 2 ^ j from Nat.pow_le_pow_right (by decide) hj.1))]
  decide
 rw [this, List.append_nil]
theorem Oa {x : Nat} (h : x < 1024) : an (x : Int) = if (ke x).isEmpty then [Str.ofString "0x0"] else ke x := by
 rw [(kr h).2, Pe h]
 by_cases q : x = 0
 ·subst q; rw [if_pos rfl]; decide +kernel
 ·rw [if_neg q]
  cases hb : ke x with
  | nil =>
   exfalso
   have := Nj h
   rw [hb] at this
   simp at this; lia
  | cons a l => rfl
end Mine
end
section
open PySem PySem.NumText
namespace Mine
noncomputable def dl (m : Nat) : List Nat := (Nat.toDigits 10 m).map Char.toNat
noncomputable def f7 (p : Int) : List Nat := if p < 0 then 45 :: dl p.natAbs else dl p.natAbs
theorem ld (m : Nat) : AllDigits (dl m) := by
 intro c hc
 refine byC fun hC1 => ?_
 obtain ⟨ch, hch, e⟩ := List.mem_map.mp hc
 refine hC1 ?_
 have h := Nat.isDigit_of_mem_toDigits (by decide) (by decide) hch
 rw [<- e]
 unfold Char.isDigit at h
 rw [Bool.and_eq_true, decide_eq_true_iff, decide_eq_true_iff] at h
 exact ⟨h.1, h.2⟩
theorem Pw (m : Nat) : dl m ≠ [] := by unfold dl; simp
theorem Ab {m : Nat} (h : m < 10 ^ 16) : (dl m).length <= 16 := by
 unfold dl; rw [List.length_map]; exact (Nat.length_toDigits_le_iff (by decide) (by decide)).mpr h
theorem Oi (m : Nat) : digitsVal (dl m) = m := PySem.W.KIN.val_back m
theorem nn (p : Int) : jr p = ⟨(f7 p).toArray⟩ := by
 have key : (jr p).cps.toList = f7 p := by
  unfold jr
  rw [PyProof.Rows.signs_ofString]
  unfold f7 dl
  cases p with
  | ofNat m =>
   rw [if_neg (by simp)]
   refine (?_ : (Nat.repr m).toList.map Char.toNat = _)
   rw [Nat.toList_repr]
   try rfl
  | negSucc m =>
   rw [if_pos (Int.negSucc_lt_zero m)]
   refine (?_ : (("-" ++ Nat.repr (m + 1)).toList).map Char.toNat = _)
   rw [String.toList_append, List.map_append, Nat.toList_repr]
   try rfl
 rw [<- key]
 first | done | exact (Str.eta _).symm
theorem Bk {p : Int} (h : p.natAbs <= 10 ^ 15) : (jr p).length <= 17 := by
 rw [nn]
 refine (?_ : (f7 p).length <= 17)
 have := Ab (m := p.natAbs) (by lia)
 unfold f7; split <;> simp <;> lia
theorem Jo (l : List Nat) (a : Nat) : ∀ k, a + k <= l.length -> ((List.range k).map fun j => a + j).filterMap (l[·]?) = (l.drop a).take k := by
 intro k
 induction k with
 | zero => intro _; simp
 | succ k ih =>
  intro h
  rw [List.range_succ, List.map_append, List.filterMap_append, ih (by lia)]
  have : (l.drop a).take (k + 1) = (l.drop a).take k ++ [l[a + k]] := by
   rw [List.take_add_one, List.getElem?_drop, List.getElem?_eq_getElem (by lia)]; rfl
  rw [this]
  simp [List.getElem?_eq_getElem (show a + k < l.length by lia)]
theorem J5 (a b : Nat) (h : a <= b) : sliceRange (a : Int) (b : Int) 1 = (List.range (b - a)).map fun j => a + j := by
 unfold sliceRange
 simp only [show (1 : Int) > 0 by decide, if_true]
 have e : (if (a : Int) < b then ((b : Int) - a + 1 - 1) / 1 else 0).toNat = b - a := by split <;> lia
 rw [e]
 refine List.map_congr_left fun j _ => ?_
 lia
theorem o5 (l : List Nat) (lo hi : Option Int) (a b : Nat) (h1 : a <= b) (h2 : b <= l.length) (e : Builtin.Str.strSliceIndices lo hi 1 l.length = sliceRange (a : Int) (b : Int) 1) : Txt.slice ⟨l.toArray⟩ lo hi = ⟨((l.drop a).take (b - a)).toArray⟩ := by
 unfold Txt.slice
 rw [show (⟨l.toArray⟩ : Str).length = l.length from rfl, e, J5 a b h1]
 have hf := Jo l a (b - a) (by lia)
 by_cases q : ((1 : Int) == 1 && ((List.range (b - a)).map fun j => a + j).length == l.length) = true
 ·rw [if_pos q]
  simp at q
  obtain rfl : a = 0 := by lia
  congr 1
  rw [List.drop_zero, List.take_of_length_le (by lia)]
 ·rw [if_neg q]
  congr 2
  rw [<- hf]
  congr 1
  funext i
  simp
theorem Ak (l : List Nat) (a b : Nat) (h1 : a <= b) (h2 : b <= l.length) : Txt.slice ⟨l.toArray⟩ (some (a : Int)) (some (b : Int)) = ⟨((l.drop a).take (b - a)).toArray⟩ := by
 refine o5 l _ _ a b h1 h2 ?_
 unfold Builtin.Str.strSliceIndices
 simp only [show (1 : Int) > 0 by decide, if_true]
 rw [if_neg (by lia), if_neg (by lia)]
 congr 1 <;> lia
theorem mh (l : List Nat) (b : Nat) (h2 : b <= l.length) : Txt.slice ⟨l.toArray⟩ none (some (b : Int)) = ⟨(l.take b).toArray⟩ := by
 rw [o5 l none (some (b : Int)) 0 b (Nat.zero_le _) h2 (by
  unfold Builtin.Str.strSliceIndices
  simp only [show (1 : Int) > 0 by decide, if_true]
  rw [if_neg (by lia)]
  congr 1; lia)]
 simp
theorem Dk (l : List Nat) (a : Nat) (h2 : a <= l.length) : Txt.slice ⟨l.toArray⟩ (some (a : Int)) none = ⟨(l.drop a).toArray⟩ := by
 rw [o5 l (some (a : Int)) none a l.length h2 (Nat.le_refl _) (by
  unfold Builtin.Str.strSliceIndices
  simp only [show (1 : Int) > 0 by decide, if_true]
  rw [if_neg (by lia)]
  congr 1; lia)]
 rw [List.take_of_length_le (by simp)]
theorem Fw (l : List Nat) (i : Nat) (c : Nat) (h : l[i]? = some c) : xr ⟨l.toArray⟩ (i : Int) = some c := by
 obtain ⟨hi, _⟩ := List.getElem?_eq_some_iff.mp h
 unfold xr
 rw [show (⟨l.toArray⟩ : Str).length = l.length from rfl]
 have : seqIndex? (i : Int) l.length = some i := by
  unfold seqIndex?
  simp; lia
 rw [this]
 simpa using h
end Mine
end
section
open PySem PySem.NumText
namespace Mine
theorem O4 : (Str.ofString "(") = ⟨#[40]⟩ := by decide +kernel
theorem Og : (Str.ofString ")") = ⟨#[41]⟩ := by decide +kernel
theorem Iw : (Str.ofString "229") = ⟨[50, 50, 57].toArray⟩ := by decide +kernel
theorem bk (a b : Str) : (a ++ b).cps.toList = a.cps.toList ++ b.cps.toList := by
 refine (?_ : (a.cps ++ b.cps).toList = _)
 simp
theorem w7 (c : Nat) : (rep ⟨#[c]⟩ 3).cps.toList = [c, c, c] := by
 refine (?_ : ((List.replicate 3 #[c]).foldl (· ++ ·) #[]).toList = _)
 simp [List.replicate]
theorem o7 (n : Int) : jl n = 124 ∨ jl n = 33 ∨ jl n = 58 ∨ jl n = 47 ∨ jl n = 36 := by
 have h0 : 0 <= n.fmod 5 := Int.fmod_nonneg_of_pos n (by decide)
 have h1 : n.fmod 5 < 5 := Int.fmod_lt_of_pos n (by decide)
 have hk : (n.fmod 5).toNat < 5 := by lia
 unfold jl
 generalize (n.fmod 5).toNat = k at hk
 match k, hk with
 | 0, _ | 1, _ | 2, _ | 3, _ | 4, _ => decide
noncomputable def de (pre : List Nat) (c : Nat) (d : List Nat) : List Nat := pre ++ 40 :: (([c, c, c] ++ d ++ [c]) ++ 41 :: [32, 40, 115, 111, 41])
theorem Io {pre : List Nat} {c : Nat} {d : List Nat} {p : Int} (hpre : 40 ∉ pre) (h3 : ∃ r, pre = 50 :: 50 :: 57 :: r) (hpl : pre.length <= 100) (hc : c ∉ d) (h41 : 41 ∉ d) (c41 : c ≠ 41) (c256 : c < 256) (hl : d.length <= 100) (hp : intText? ⟨d.toArray⟩ = some p) : j3 ⟨(de pre c d).toArray⟩ p := by
 have hm : ([c, c, c] ++ d ++ [c]).length = d.length + 4 := by simp
 have hlen : (de pre c d).length = pre.length + d.length + 11 := by simp [de]; lia
 have hf : Txt.find ⟨(de pre c d).toArray⟩ "(" = (pre.length : Int) := by
  refine (?_ : Txt.find ⟨(de pre c d).toArray⟩ (Str.ofString "(") = (pre.length : Int))
  rw [O4]
  exact z7 hpre
 have hf3 : Txt.find3 ⟨(de pre c d).toArray⟩ ")" ((pre.length : Int) + 1) = ((pre.length + 5 + d.length : Nat) : Int) := by
  refine (?_ : Txt.find3 ⟨(de pre c d).toArray⟩ (Str.ofString ")") ((pre.length : Int) + 1) = _)
  rw [Og]
  have h := Bh (pre := pre ++ [40]) (mid := [c, c, c] ++ d ++ [c]) (c := 41) (post := [32, 40, 115, 111, 41]) (by
   intro q
   simp only [List.mem_append, List.mem_cons, List.not_mem_nil, or_false] at q
   rcases q with (q | q) | q
   ·lia
   ·exact h41 q
   ·lia)
  rw [hm] at h
  have e1 : ((pre ++ [40]).length : Int) = (pre.length : Int) + 1 := by simp
  rw [e1] at h
  have e2 : de pre c d = pre ++ [40] ++ ([c, c, c] ++ d ++ [c]) ++ 41 :: [32, 40, 115, 111, 41] := by simp [de]
  rw [e2]
  refine Eq.trans h ?_
  congr 1
  simp; lia
 refine ⟨by show (de pre c d).length <= _; lia, ?_, by rw [hf]; lia, by rw [hf]; lia, by rw [hf, hf3]; lia, by rw [hf, hf3]; lia, c, ?_, ?_, ?_⟩
 ·refine (?_ : Txt.slice _ none (some ((3 : Nat) : Int)) = Str.ofString "229")
  rw [mh _ _ (by lia), Iw]
  obtain ⟨r, rfl⟩ := h3
  rfl
 ·rw [hf, show (pre.length : Int) + 1 = ((pre.length + 1 : Nat) : Int) by lia]
  refine Fw _ _ c ?_
  unfold de
  rw [List.getElem?_append_right (by lia), show pre.length + 1 - pre.length = 1 by lia]; rfl
 ·rw [hf, hf3]
  rw [show ((pre.length + 5 + d.length : Nat) : Int) - 1 = ((pre.length + 4 + d.length : Nat) : Int) by lia]
  refine Fw _ _ c ?_
  rw [show de pre c d = (pre ++ [40, c, c, c] ++ d) ++ c :: 41 :: [32, 40, 115, 111, 41] by simp [de]]
  have hq : (pre ++ [40, c, c, c] ++ d).length = pre.length + 4 + d.length := by simp; lia
  rw [List.getElem?_append_right (by lia), hq, Nat.sub_self]; rfl
 ·rw [hf, hf3]
  have hs := Ak (de pre c d) (pre.length + 1) (pre.length + 5 + d.length) (by lia) (by lia)
  have e5 : (pre.length : Int) + 1 = ((pre.length + 1 : Nat) : Int) := by lia
  rw [e5, hs]
  have ed : ((de pre c d).drop (pre.length + 1)).take (pre.length + 5 + d.length - (pre.length + 1)) = c9 [c] [[], [], [], d, []] := by
   rw [show pre.length + 5 + d.length - (pre.length + 1) = ([c, c, c] ++ d ++ [c]).length by rw [hm]; lia]
   unfold de
   rw [<- List.drop_drop, List.drop_left]
   refine (?_ : List.take _ (([c, c, c] ++ d ++ [c]) ++ 41 :: [32, 40, 115, 111, 41]) = _)
   rw [List.take_append_of_le_length (Nat.le_refl _), List.take_of_length_le (Nat.le_refl _)]
   simp [c9]
  rw [ed]
  have hsp := pi (c := c) (m := []) (by simp) (ws := [[], [], [], d, []]) (by simp) (by
   intro w hw
   simp only [List.mem_cons, List.not_mem_nil, or_false] at hw
   rcases hw with rfl | rfl | rfl | rfl | rfl <;> first | exact hc | simp) (by simpa using c256)
  exact ⟨_, _, _, _, _, hsp, hp, by show d.length <= 640; lia⟩
theorem Ft (m : Nat) : f7 (m : Int) = dl m := by
 unfold f7
 rw [if_neg (by lia)]; simp
noncomputable def Bw (n : Nat) : List Nat := [50, 50, 57, 32] ++ dl n ++ [41, 32, 115, 116, 97, 110, 100, 115, 32, 97, 116, 32]
theorem xb (p n : Nat) : jd (p : Int) (n : Int) = ⟨(de (Bw n) (jl n) (dl p)).toArray⟩ := by
 have key : (jd (p : Int) (n : Int)).cps.toList = de (Bw n) (jl n) (dl p) := by
  unfold jd
  rw [bk, bk, bk, bk, bk, bk, nn, nn, Ft, Ft]
  unfold d5
  rw [w7, show (Str.ofString "229 ").cps.toList = [50, 50, 57, 32] by decide +kernel, show (Str.ofString ") stands at (").cps.toList = [41, 32, 115, 116, 97, 110, 100, 115, 32, 97, 116, 32] ++ [40] by decide +kernel, show (Str.ofString ") (so)").cps.toList = 41 :: [32, 40, 115, 111, 41] by decide +kernel]
  simp [de, Bw]
 rw [<- key]
 first | done | exact (Str.eta _).symm
theorem w5 {p n : Nat} (hp : p <= 10 ^ 15) (hn : n <= 10 ^ 15) : j3 (jd (p : Int) (n : Int)) (p : Int) := by
 rw [xb]
 have hd := ld p
 have hl := Ab (m := p) (by lia)
 have hdn := ld n
 have hln := Ab (m := n) (by lia)
 have hm := o7 n
 refine Io (fun q => ?_) ⟨_, rfl⟩ (by simp [Bw]; lia) (fun q => by have := hd _ q; lia) (fun q => by have := hd _ q; lia) (by lia) (by lia) (by lia) ?_
 ·simp only [Bw, List.mem_append] at q
  rcases q with (q | q) | q
  ·simp at q
  ·have := hdn _ q; lia
  ·simp at q
 ·rw [intText_digits (x := ⟨(dl p).toArray⟩) hd (Pw p) (by show (dl p).length <= _; lia)]
  refine (?_ : some ((digitsVal (dl p) : Nat) : Int) = _)
  rw [Oi]
end Mine
end
section
open PySem
namespace Mine
noncomputable def shp (mid post : List Nat) : List Nat := [50, 50, 57, 32, 40] ++ mid ++ 41 :: post
theorem u6 (mid post : List Nat) : Txt.find ⟨(shp mid post).toArray⟩ "(" = 4 := by
 show Txt.find _ (Str.ofString "(") = 4
 rw [O4]
 have h := z7 (pre := [50, 50, 57, 32]) (c := 40) (post := mid ++ 41 :: post) (by decide)
 rw [show shp mid post = [50, 50, 57, 32] ++ 40 :: (mid ++ 41 :: post) by simp [shp]]
 exact h
theorem td {mid : List Nat} (post : List Nat) (h41 : 41 ∉ mid) : Txt.find3 ⟨(shp mid post).toArray⟩ ")" (4 + 1) = ((5 + mid.length : Nat) : Int) := by
 refine (?_ : Txt.find3 _ (Str.ofString ")") 5 = _)
 rw [Og]
 exact Bh (pre := [50, 50, 57, 32, 40]) (mid := mid) (c := 41) (post := post) h41
theorem qy (mid post : List Nat) : (shp mid post).length = 6 + mid.length + post.length := by simp [shp]; lia
theorem xj (mid post : List Nat) : Txt.slice ⟨(shp mid post).toArray⟩ none (some 3) = "229" := by
 refine (?_ : Txt.slice _ none (some ((3 : Nat) : Int)) = Str.ofString "229")
 rw [mh _ _ (by rw [qy]; lia), Iw]; rfl
theorem E7 (mid post : List Nat) : Txt.slice ⟨(shp mid post).toArray⟩ (some (4 + 1)) (some ((5 + mid.length : Nat) : Int)) = ⟨mid.toArray⟩ := by
 have hs := Ak (shp mid post) 5 (5 + mid.length) (by lia) (by rw [qy]; lia)
 refine Eq.trans hs ?_
 congr 2
 refine (?_ : List.take _ (mid ++ 41 :: post) = _)
 rw [show 5 + mid.length - 5 = mid.length by lia, List.take_append_of_le_length (Nat.le_refl _), List.take_of_length_le (Nat.le_refl _)]
theorem si {c : Nat} (mid post : List Nat) : xr ⟨(shp (c :: mid) post).toArray⟩ (4 + 1) = some c := Fw _ 5 c rfl
theorem wl {c : Nat} (mid post : List Nat) : xr ⟨(shp (mid ++ [c]) post).toArray⟩ (((5 + (mid ++ [c]).length : Nat) : Int) - 1) = some c := by
 have e : ((5 + (mid ++ [c]).length : Nat) : Int) - 1 = ((5 + mid.length : Nat) : Int) := by simp; lia
 rw [e]
 refine Fw _ _ c ?_
 have hpl : ([50, 50, 57, 32, 40] ++ mid).length = 5 + mid.length := by simp; lia
 rw [show shp (mid ++ [c]) post = ([50, 50, 57, 32, 40] ++ mid) ++ c :: 41 :: post by simp [shp], List.getElem?_append_right (by lia), hpl, Nat.sub_self]; rfl
section
variable {c : Nat} {d : List Nat}
theorem v0 (hc : c ∉ d) (c256 : c < 256) (ws : List (List Nat)) (hne : ws ≠ []) (hw : ∀ w ∈ ws, w = [] ∨ w = d) : Txt.split ⟨(c9 [c] ws).toArray⟩ ⟨#[c]⟩ = ws.map fun w => ⟨w.toArray⟩ :=
 pi (c := c) (m := []) (by simp) hne (fun w h => by rcases hw w h with rfl | rfl; simp; exact hc) (by simpa using c256)
theorem Co {n : Nat} (hn : n ≠ 5) (hn2 : n < 100) (mid : List Nat) (first rest : List Nat) (h1 : mid = c :: first) (h2 : mid = rest ++ [c]) (h41 : 41 ∉ mid) (hl : mid.length <= 100) (hs : (Txt.split ⟨mid.toArray⟩ ⟨#[c]⟩).length = n) : d4 ⟨(shp mid []).toArray⟩ := by
 have hf := u6 mid []
 have hf3 := td [] h41
 refine ⟨by show (shp mid []).length <= _; rw [qy]; simp; lia, xj _ _, by rw [hf]; decide, by rw [hf, hf3]; lia, .inr ⟨by rw [hf]; decide, .inr ⟨by rw [hf, hf3]; lia, c, c, ?_, ?_, .inr ⟨rfl, ?_⟩⟩⟩⟩
 ·rw [hf, h1]; exact si _ _
 ·rw [hf, hf3]; rw [h2]; exact wl _ _
 ·rw [hf, hf3, E7, hs]; exact ⟨hn, by lia⟩
theorem Nv (hc : c ∉ d) (c256 : c < 256) (c41 : c ≠ 41) (h41 : 41 ∉ d) (hl : d.length <= 10) (hb : xm ⟨d.toArray⟩) : nj ⟨(shp ([c, c, c] ++ d ++ [c]) []).toArray⟩ := by
 have h41' : 41 ∉ [c, c, c] ++ d ++ [c] := by
  intro q
  simp only [List.mem_append, List.mem_cons, List.not_mem_nil, or_false] at q
  rcases q with (q | q) | q
  ·lia
  ·exact h41 q
  ·lia
 have hf := u6 ([c, c, c] ++ d ++ [c]) []
 have hf3 := td [] h41'
 refine ⟨by show (shp ([c, c, c] ++ d ++ [c]) []).length <= _; rw [qy]; simp; lia, xj _ _, by rw [hf]; decide, by rw [hf]; decide, by rw [hf, hf3]; lia, by rw [hf, hf3]; simp; lia, c, ?_, ?_, ?_⟩
 ·rw [hf]; exact si _ _
 ·rw [hf, hf3]; exact wl _ _
 ·rw [hf, hf3, E7]
  have h := v0 hc c256 [[], [], [], d, []] (by simp) (by simp)
  rw [show c9 [c] [[], [], [], d, []] = [c, c, c] ++ d ++ [c] by simp [c9]] at h
  exact ⟨_, _, _, _, _, h, hb⟩
end
theorem Mk : xm ⟨([] : List Nat).toArray⟩ := ⟨by decide +kernel, by rw [PySem.sizeLine_eq]; decide +kernel, by kernel_rfl⟩
theorem Qj : xm ⟨[120].toArray⟩ := ⟨by decide +kernel, by rw [PySem.sizeLine_eq]; decide +kernel, by kernel_rfl⟩
end Mine
end
section
open PySem
namespace Mine
theorem jc {x : Str} {l : List Nat} (h : x.cps.toList = l) : x = ⟨l.toArray⟩ := by
 rw [<- h]
 first | done | exact (Str.eta _).symm
theorem Gi (c : Nat) : (rep ⟨#[c]⟩ 4).cps.toList = [c, c, c, c] := by
 refine (?_ : ((List.replicate 4 #[c]).foldl (· ++ ·) #[]).toList = _)
 simp [List.replicate]
noncomputable def d6 (c : Nat) (p : Int) : List Nat := [c, c, c] ++ f7 p ++ [c]
theorem jk (c : Nat) (p : Int) : (bx ⟨#[c]⟩ p).cps.toList = d6 c p := by
 unfold bx
 rw [bk, bk, w7, nn]; rfl
theorem Lo (c : Nat) (p : Int) : bx ⟨#[c]⟩ p = ⟨(d6 c p).toArray⟩ := jc (jk c p)
theorem Dx (p : Int) : ∀ x ∈ f7 p, x = 45 ∨ (48 <= x /\ x <= 57) := by
 intro x hx
 have hd := ld p.natAbs
 unfold f7 at hx
 split at hx
 ·rcases List.mem_cons.mp hx with rfl | h
  ·lia
  ·have := hd x h; lia
 ·have := hd x hx; lia
theorem K5 {p : Int} (hp : p.natAbs <= 10 ^ 15) : (f7 p).length <= 17 := by
 have := Ab (m := p.natAbs) (by lia)
 unfold f7; split <;> simp <;> lia
theorem tx1 : (Str.ofString "229 (").cps.toList = [50, 50, 57, 32, 40] := by decide +kernel
theorem tx2 : (Str.ofString ")").cps.toList = [41] := by decide +kernel
theorem N6 : d4 "229 272)" := by
 refine ⟨by decide +kernel, by decide +kernel, ?_, ?_, .inl ?_⟩ <;> decide +kernel
set_option maxHeartbeats 2000000 in
theorem P5 (n : Int) {p : Int} (hp : p.natAbs <= 10 ^ 15) : Ic (d5 n) p := by
 have hm := o7 n
 unfold d5
 generalize jl n = c at hm
 have hch := Dx p
 have hl := K5 hp
 have hc : c ∉ f7 p := fun q => by have := hch _ q; lia
 have h41 : 41 ∉ f7 p := fun q => by have := hch _ q; lia
 have hb41 : ∀ l : List Nat, (∀ x ∈ l, x = c ∨ x ∈ f7 p ∨ x = 61) -> 41 ∉ l := fun l hl q => by
  rcases hl _ q with h | h | h
  ·lia
  ·exact h41 h
  ·lia
 have hbl : (d6 c p).length = (f7 p).length + 4 := by simp [d6]
 have bmem : ∀ x ∈ d6 c p, x = c ∨ x ∈ f7 p := by
  intro x hx
  simp only [d6, List.mem_append, List.mem_cons, List.not_mem_nil, or_false] at hx
  rcases hx with (h | h) | h
  ·lia
  ·exact .inr h
  ·exact .inl h
 refine ⟨fun k hk => ?_, fun k h2 h7 => ?_, fun k h7 h9 => ?_⟩
 ·match k, hk with
  | 0, _ =>
   refine ⟨_, rfl, ?_⟩
   have e : ((Str.ofString "228 (" ++ bx ⟨#[c]⟩ p) ++ Str.ofString ")") = ⟨([50, 50, 56, 32, 40] ++ d6 c p ++ [41]).toArray⟩ := jc (by rw [bk, bk, jk, tx2, show (Str.ofString "228 (").cps.toList = [50, 50, 56, 32, 40] by decide +kernel])
   refine (?_ : jx ((Str.ofString "228 (" ++ bx ⟨#[c]⟩ p) ++ Str.ofString ")"))
   rw [e]
   refine ⟨by show ([50, 50, 56, 32, 40] ++ d6 c p ++ [41]).length <= _; simp; lia, ?_⟩
   refine (?_ : Txt.slice _ none (some ((3 : Nat) : Int)) ≠ Str.ofString "229")
   rw [mh _ _ (by simp), Iw]
   intro q
   have := congrArg (fun x : Str => x.cps.toList) q
   simp at this
  | 1, _ =>
   refine ⟨_, rfl, ?_⟩
   have e : ((Str.ofString "129 (" ++ bx ⟨#[c]⟩ p) ++ Str.ofString ")") = ⟨([49, 50, 57, 32, 40] ++ d6 c p ++ [41]).toArray⟩ := jc (by rw [bk, bk, jk, tx2, show (Str.ofString "129 (").cps.toList = [49, 50, 57, 32, 40] by decide +kernel])
   refine (?_ : jx ((Str.ofString "129 (" ++ bx ⟨#[c]⟩ p) ++ Str.ofString ")"))
   rw [e]
   refine ⟨by show ([49, 50, 57, 32, 40] ++ d6 c p ++ [41]).length <= _; simp; lia, ?_⟩
   refine (?_ : Txt.slice _ none (some ((3 : Nat) : Int)) ≠ Str.ofString "229")
   rw [mh _ _ (by simp), Iw]
   intro q
   have := congrArg (fun x : Str => x.cps.toList) q
   simp at this
 ·match k, h2, h7 with
  | 2, _, _ => exact ⟨_, rfl, N6⟩
  | 3, _, _ =>
   refine ⟨_, rfl, ?_⟩
   have e : ((Str.ofString "229 (" ++ bx ⟨#[c]⟩ p) ++ Str.ofString "]") = ⟨([50, 50, 57, 32, 40] ++ (d6 c p ++ [93])).toArray⟩ := jc (by rw [bk, bk, jk, tx1, show (Str.ofString "]").cps.toList = [93] by decide +kernel, List.append_assoc])
   refine (?_ : d4 ((Str.ofString "229 (" ++ bx ⟨#[c]⟩ p) ++ Str.ofString "]"))
   rw [e]
   have hf : Txt.find ⟨([50, 50, 57, 32, 40] ++ (d6 c p ++ [93])).toArray⟩ "(" = 4 := by
    refine (?_ : Txt.find _ (Str.ofString "(") = 4)
    rw [O4]
    exact z7 (pre := [50, 50, 57, 32]) (c := 40) (post := d6 c p ++ [93]) (by decide)
   have hf3 : Txt.find3 ⟨([50, 50, 57, 32, 40] ++ (d6 c p ++ [93])).toArray⟩ ")" (4 + 1) = -1 := by
    refine (?_ : Txt.find3 _ (Str.ofString ")") 5 = _)
    rw [Og]
    exact Je (pre := [50, 50, 57, 32, 40]) (c := 41) (post := d6 c p ++ [93]) (by
     intro q
     rcases List.mem_append.mp q with q | q
     ·rcases bmem _ q with h | h
      ·lia
      ·exact h41 h
     ·simp at q)
   refine ⟨by show ([50, 50, 57, 32, 40] ++ (d6 c p ++ [93])).length <= _; simp; lia, ?_, by rw [hf]; decide, by rw [hf, hf3]; decide, .inr ⟨by rw [hf]; decide, .inl (by rw [hf, hf3]; decide)⟩⟩
   refine (?_ : Txt.slice _ none (some ((3 : Nat) : Int)) = Str.ofString "229")
   rw [mh _ _ (by simp), Iw]; rfl
  | 4, _, _ =>
   refine ⟨_, rfl, ?_⟩
   have e : ((Str.ofString "229 (" ++ bx ⟨#[c]⟩ p) ++ Str.ofString "=)") = ⟨(shp (d6 c p ++ [61]) []).toArray⟩ := jc (by rw [bk, bk, jk, tx1, show (Str.ofString "=)").cps.toList = [61, 41] by decide +kernel]; simp [shp])
   refine (?_ : d4 ((Str.ofString "229 (" ++ bx ⟨#[c]⟩ p) ++ Str.ofString "=)"))
   rw [e]
   have hn : 41 ∉ d6 c p ++ [61] := hb41 _ (fun x hx => by
    rcases List.mem_append.mp hx with q | q
    ·rcases bmem _ q with h | h
     ·exact .inl h
     ·exact .inr (.inl h)
    ·simp at q; exact .inr (.inr q))
   have hf := u6 (d6 c p ++ [61]) []
   have hf3 := td [] hn
   refine ⟨by show (shp (d6 c p ++ [61]) []).length <= _; rw [qy]; simp; lia, xj _ _, by rw [hf]; decide, by rw [hf, hf3]; simp; lia, .inr ⟨by rw [hf]; decide, .inr ⟨by rw [hf, hf3]; lia, c, 61, ?_, ?_, .inl (by lia)⟩⟩⟩
   ·have eb : d6 c p ++ [61] = c :: ([c, c] ++ f7 p ++ [c] ++ [61]) := by simp [d6]
    rw [hf, eb]; exact si _ _
   ·rw [hf, hf3]; exact wl (c := 61) (d6 c p) []
  | 5, _, _ =>
   refine ⟨_, rfl, ?_⟩
   have e5 : Txt.slice (bx ⟨#[c]⟩ p) (some 1) none = ⟨([c, c] ++ f7 p ++ [c]).toArray⟩ := by
    rw [Lo]
    exact Dk (d6 c p) 1 (by lia)
   have e : ((Str.ofString "229 (" ++ Txt.slice (bx ⟨#[c]⟩ p) (some 1) none) ++ Str.ofString ")") = ⟨(shp ([c, c] ++ f7 p ++ [c]) []).toArray⟩ := jc (by rw [bk, bk, e5, tx1, tx2]; simp [shp])
   refine (?_ : d4 ((Str.ofString "229 (" ++ Txt.slice (bx ⟨#[c]⟩ p) (some 1) none) ++ Str.ofString ")"))
   rw [e]
   have h := v0 hc (by lia) [[], [], f7 p, []] (by simp) (by simp)
   rw [show c9 [c] [[], [], f7 p, []] = [c, c] ++ f7 p ++ [c] by simp [c9]] at h
   exact Co (n := 4) (by decide) (by decide) _ ([c] ++ f7 p ++ [c]) ([c, c] ++ f7 p) rfl rfl (hb41 _ (fun x hx => by
    simp only [List.mem_append, List.mem_cons, List.not_mem_nil, or_false] at hx
    rcases hx with (h | h) | h
    ·exact .inl (by lia)
    ·exact .inr (.inl h)
    ·exact .inl h)) (by simp; lia) (by rw [h]; rfl)
  | 6, _, _ =>
   refine ⟨_, rfl, ?_⟩
   have e : (((Str.ofString "229 (" ++ (⟨#[c]⟩ : Str)) ++ bx ⟨#[c]⟩ p) ++ Str.ofString ")") = ⟨(shp ([c, c, c, c] ++ f7 p ++ [c]) []).toArray⟩ := jc (by rw [bk, bk, bk, jk, tx1, tx2]; simp [shp, d6])
   refine (?_ : d4 (((Str.ofString "229 (" ++ (⟨#[c]⟩ : Str)) ++ bx ⟨#[c]⟩ p) ++ Str.ofString ")"))
   rw [e]
   have h := v0 hc (by lia) [[], [], [], [], f7 p, []] (by simp) (by simp)
   rw [show c9 [c] [[], [], [], [], f7 p, []] = [c, c, c, c] ++ f7 p ++ [c] by simp [c9]] at h
   exact Co (n := 6) (by decide) (by decide) _ ([c, c, c] ++ f7 p ++ [c]) ([c, c, c, c] ++ f7 p) rfl rfl (hb41 _ (fun x hx => by
    simp only [List.mem_append, List.mem_cons, List.not_mem_nil, or_false] at hx
    rcases hx with (h | h) | h
    ·exact .inl (by lia)
    ·exact .inr (.inl h)
    ·exact .inl h)) (by simp; lia) (by rw [h]; rfl)
 ·match k, h7, h9 with
  | 7, _, _ =>
   refine ⟨_, rfl, ?_⟩
   have e : ((Str.ofString "229 (" ++ rep ⟨#[c]⟩ 4) ++ Str.ofString ")") = ⟨(shp ([c, c, c] ++ [] ++ [c]) []).toArray⟩ := jc (by rw [bk, bk, Gi, tx1, tx2]; rfl)
   refine (?_ : nj ((Str.ofString "229 (" ++ rep ⟨#[c]⟩ 4) ++ Str.ofString ")"))
   rw [e]
   exact Nv (by simp) (by lia) (by lia) (by simp) (by simp) Mk
  | 8, _, _ =>
   refine ⟨_, rfl, ?_⟩
   have e : ((((Str.ofString "229 (" ++ rep ⟨#[c]⟩ 3) ++ Str.ofString "x") ++ (⟨#[c]⟩ : Str)) ++ Str.ofString ")") = ⟨(shp ([c, c, c] ++ [120] ++ [c]) []).toArray⟩ := jc (by rw [bk, bk, bk, bk, w7, tx1, tx2, show (Str.ofString "x").cps.toList = [120] by decide +kernel]; rfl)
   refine (?_ : nj ((((Str.ofString "229 (" ++ rep ⟨#[c]⟩ 3) ++ Str.ofString "x") ++ (⟨#[c]⟩ : Str)) ++ Str.ofString ")"))
   rw [e]
   exact Nv (by simp; lia) (by lia) (by lia) (by simp) (by simp) Qj
end Mine
end
section
namespace Mine
/- first fit is a sum without carry: Sprague and Grundy, Conway and Sloane -/
theorem Hx {x y t : Nat} (hy : y.testBit t = false) (hx : x.testBit t = true) (h : ∀ j, t < j -> y.testBit j = x.testBit j) : y < x := by
 have hq : y / 2 ^ (t + 1) = x / 2 ^ (t + 1) := by
  apply Nat.eq_of_testBit_eq
  intro j
  rw [Nat.testBit_div_two_pow, Nat.testBit_div_two_pow]
  exact h _ (by lia)
 have h1 := Nat.div_add_mod x (2 ^ (t + 1))
 have h2 := Nat.div_add_mod y (2 ^ (t + 1))
 rw [Nat.mod_pow_succ] at h1 h2
 rw [Nat.testBit_eq_decide_div_mod_eq] at hx hy
 have hx := of_decide_eq_true hx
 have hy := of_decide_eq_false hy
 have hy0 : y / 2 ^ t % 2 = 0 := by lia
 rw [hx, Nat.mul_one] at h1
 rw [hy0, Nat.mul_zero] at h2
 have := Nat.mod_lt y (Nat.two_pow_pos t)
 rw [hq] at h2
 lia
theorem Re {a b c : Nat} (h : a ^^^ b ^^^ c ≠ 0) : b ^^^ c < a ∨ c ^^^ a < b ∨ a ^^^ b < c := by
 have key : ∀ x y : Nat, (a ^^^ b ^^^ c) = x ^^^ y -> x.testBit (a ^^^ b ^^^ c).log2 = true -> y < x := by
  intro x y e hx
  have hz : ∀ j, (a ^^^ b ^^^ c).log2 < j -> (a ^^^ b ^^^ c).testBit j = false := fun j hj =>
   Nat.testBit_lt_two_pow (Nat.lt_of_lt_of_le Nat.lt_log2_self (Nat.pow_le_pow_right (by decide) hj))
  have ht : (a ^^^ b ^^^ c).testBit (a ^^^ b ^^^ c).log2 = true := Nat.testBit_log2 h
  refine Hx (t := (a ^^^ b ^^^ c).log2) ?_ hx fun j hj => ?_
  ·rw [e, Nat.testBit_xor, <- e, hx] at ht
   simpa using ht
  ·have := hz j hj
   rw [e, Nat.testBit_xor] at this
   revert this
   cases x.testBit j <;> cases y.testBit j <;> simp
 have ht : (a ^^^ b ^^^ c).testBit (a ^^^ b ^^^ c).log2 = true := Nat.testBit_log2 h
 have hb : (a.testBit (a ^^^ b ^^^ c).log2 ^^ b.testBit (a ^^^ b ^^^ c).log2 ^^ c.testBit (a ^^^ b ^^^ c).log2) = true := by
  rw [<- Nat.testBit_xor, <- Nat.testBit_xor]; exact ht
 cases ha : a.testBit (a ^^^ b ^^^ c).log2 with
 | true => exact .inl (key a (b ^^^ c) (by rw [Nat.xor_assoc]) ha)
 | false =>
  cases hbb : b.testBit (a ^^^ b ^^^ c).log2 with
  | true => exact .inr (.inl (key b (c ^^^ a) (by rw [Nat.xor_comm a b, Nat.xor_assoc, Nat.xor_comm a c]) hbb))
  | false =>
   rw [ha, hbb] at hb
   have hc : c.testBit (a ^^^ b ^^^ c).log2 = true := by simpa using hb
   exact .inr (.inr (key c (a ^^^ b) (by rw [Nat.xor_comm]) hc))
theorem xx (a b : Nat) : a ^^^ (a ^^^ b) = b := by rw [<- Nat.xor_assoc, Nat.xor_self, Nat.zero_xor]
theorem xx' (a b : Nat) : (a ^^^ b) ^^^ b = a := by rw [Nat.xor_assoc, Nat.xor_self, Nat.xor_zero]
theorem P7 {a b c : Nat} (h : a ^^^ b = a ^^^ c) : b = c := by rw [<- xx a b, h, xx]
theorem nim {a b v : Nat} (h : v < a ^^^ b) : v ^^^ a < b ∨ v ^^^ b < a := by
 have hne : a ^^^ b ^^^ v ≠ 0 := fun e => by
  have : a ^^^ b = v := by rw [<- xx' (a ^^^ b) v, e, Nat.zero_xor]
  omega
 rcases Re hne with q | q | q
 ·exact .inr (by rwa [Nat.xor_comm])
 ·exact .inl q
 ·omega
theorem lj {k r : Nat} (h : r < 2 ^ k) : 2 ^ k ^^^ r = 2 ^ k + r := by
 have e : 2 ^ k ||| r = 2 ^ k + r := by
  have := Nat.two_pow_add_eq_or_of_lt h 1
  rw [Nat.mul_one] at this
  exact this.symm
 rw [<- e]
 apply Nat.eq_of_testBit_eq
 intro j
 rw [Nat.testBit_xor, Nat.testBit_or, Nat.testBit_two_pow]
 by_cases q : k = j
 ·subst q; rw [Nat.testBit_lt_two_pow h]; simp
 ·simp [q]
theorem kz {k n : Nat} (h1 : 2 ^ k <= n) (h2 : n < 2 ^ (k + 1)) : ∃ r, r < 2 ^ k /\ n = 2 ^ k ^^^ r := by
 have h : n - 2 ^ k < 2 ^ k := by rw [Nat.pow_succ] at h2; omega
 exact ⟨n - 2 ^ k, h, by rw [lj h]; omega⟩
structure Fit (K : Nat) (bad : Nat -> Prop) (g : Nat -> Nat) : Prop where
 off : ∀ n m, n < 2 ^ K -> m < n -> bad (n ^^^ m) -> g m ≠ g n
 on : ∀ n v, n < 2 ^ K -> v < g n -> ∃ m, m < n /\ bad (n ^^^ m) /\ g m = v
variable {K : Nat} {bad : Nat -> Prop} {g : Nat -> Nat}
noncomputable def x4 (g : Nat -> Nat) (k : Nat) : Prop := ∀ a b, a < 2 ^ k -> b < 2 ^ k -> g (a ^^^ b) = g a ^^^ g b
theorem Nb (F : Fit K bad g) {k : Nat} (hk : k < K) (L : x4 g k) : ∀ r, r < 2 ^ k -> g (2 ^ k ^^^ r) = g (2 ^ k) ^^^ g r := by
 intro r
 induction r using Nat.strongRecOn with
 | _ r ih =>
  intro hr
  have hp : 2 ^ (k + 1) <= 2 ^ K := Nat.pow_le_pow_right (by decide) hk
  have hp2 : 2 ^ (k + 1) = 2 ^ k + 2 ^ k := by rw [Nat.pow_succ]; lia
  have e := lj hr
  have hn : 2 ^ k ^^^ r < 2 ^ K := by lia
  have hk2 : 2 ^ k < 2 ^ K := by lia
  have no : ∀ m, m < 2 ^ k ^^^ r -> bad ((2 ^ k ^^^ r) ^^^ m) -> g m ≠ g (2 ^ k) ^^^ g r := by
   intro m hm hb hg
   rcases Nat.lt_or_ge m (2 ^ k) with q | q
   ·-- m = r ^ u
    have hu : r ^^^ m < 2 ^ k := Nat.xor_lt_two_pow hr q
    have h1 : g m = g r ^^^ g (r ^^^ m) := by
     have := L r (r ^^^ m) hr hu
     rwa [xx] at this
    have h2 : g (r ^^^ m) = g (2 ^ k) := by
     rw [h1, Nat.xor_comm (g (2 ^ k))] at hg
     exact P7 hg
    exact F.off (2 ^ k) (r ^^^ m) hk2 hu (by rwa [Nat.xor_assoc] at hb) h2
   ·obtain ⟨r', hr', rfl⟩ := kz q (by lia)
    have e' := lj hr'
    have hlt : r' < r := by lia
    rw [ih r' hlt hr'] at hg
    have h2 := P7 hg
    refine F.off r r' (by lia) hlt ?_ h2
    have : (2 ^ k ^^^ r) ^^^ (2 ^ k ^^^ r') = r ^^^ r' := by
     rw [Nat.xor_comm (2 ^ k) r, Nat.xor_assoc, xx]
    rwa [this] at hb
  have all : ∀ v, v < g (2 ^ k) ^^^ g r -> ∃ m, m < 2 ^ k ^^^ r /\ bad ((2 ^ k ^^^ r) ^^^ m) /\ g m = v := by
   intro v hv
   rcases nim hv with q | q
   ·obtain ⟨r', h1, h2, h3⟩ := F.on r _ (by lia) q
    have hr' : r' < 2 ^ k := by lia
    have e' := lj hr'
    refine ⟨2 ^ k ^^^ r', by lia, ?_, ?_⟩
    ·have : (2 ^ k ^^^ r) ^^^ (2 ^ k ^^^ r') = r ^^^ r' := by
      rw [Nat.xor_comm (2 ^ k) r, Nat.xor_assoc, xx]
     rw [this]; exact h2
    ·rw [ih r' h1 hr', h3, Nat.xor_comm v, xx]
   ·obtain ⟨u, h1, h2, h3⟩ := F.on (2 ^ k) _ hk2 q
    have hru : r ^^^ u < 2 ^ k := Nat.xor_lt_two_pow hr h1
    refine ⟨r ^^^ u, by lia, ?_, ?_⟩
    ·rw [Nat.xor_assoc, xx]; exact h2
    ·rw [L r u hr h1, h3, Nat.xor_comm v, xx]
  rcases Nat.lt_trichotomy (g (2 ^ k ^^^ r)) (g (2 ^ k) ^^^ g r) with q | q | q
  ·obtain ⟨m, h1, h2, h3⟩ := all _ q
   exact absurd h3 (F.off _ m hn h1 h2)
  ·exact q
  ·obtain ⟨m, h1, h2, h3⟩ := F.on _ _ hn q
   exact absurd h3 (no m h1 h2)
theorem Cp {k : Nat} (L : x4 g k) (T : ∀ r, r < 2 ^ k -> g (2 ^ k ^^^ r) = g (2 ^ k) ^^^ g r) : x4 g (k + 1) := by
 intro a b ha hb
 rcases Nat.lt_or_ge a (2 ^ k) with p | p <;> rcases Nat.lt_or_ge b (2 ^ k) with q | q
 ·exact L a b p q
 ·obtain ⟨s, hs, rfl⟩ := kz q hb
  have : a ^^^ (2 ^ k ^^^ s) = 2 ^ k ^^^ (a ^^^ s) := by rw [<- Nat.xor_assoc, Nat.xor_comm a, Nat.xor_assoc]
  rw [this, T _ (Nat.xor_lt_two_pow p hs), T s hs, L a s p hs, <- Nat.xor_assoc, Nat.xor_comm (g (2 ^ k)), Nat.xor_assoc]
 ·obtain ⟨r, hr, rfl⟩ := kz p ha
  rw [Nat.xor_assoc, T _ (Nat.xor_lt_two_pow hr q), T r hr, L r b hr q, Nat.xor_assoc]
 ·obtain ⟨r, hr, rfl⟩ := kz p ha
  obtain ⟨s, hs, rfl⟩ := kz q hb
  have e1 : ∀ t a b : Nat, (t ^^^ a) ^^^ (t ^^^ b) = a ^^^ b := fun t a b => by rw [Nat.xor_comm t a, Nat.xor_assoc, xx]
  rw [e1, T r hr, T s hs, e1, L r s hr hs]
theorem y8 (F : Fit K bad g) : ∀ k, k <= K -> x4 g k
 | 0, _ => fun a b ha hb => by
  have ha : a = 0 := by simpa using ha
  have hb : b = 0 := by simpa using hb
  subst ha; subst hb
  have h0 : g 0 = 0 := by
   rcases Nat.eq_zero_or_pos (g 0) with q | q
   ·exact q
   ·obtain ⟨m, h, _⟩ := F.on 0 0 (Nat.two_pow_pos K) q
    lia
  simp [h0]
 | k + 1, hk => Cp (y8 F k (by lia)) (Nb F hk (y8 F k (by lia)))
end Mine
end
section
namespace Mine
/- rows are of one size, places are sums without carry -/
noncomputable def cnt (p : Nat -> Bool) : Nat -> Nat
 | 0 => 0
 | n + 1 => cnt p n + if p n then 1 else 0
theorem j0 (p : Nat -> Bool) : ∀ n, ((List.range n).filter p).length = cnt p n
 | 0 => rfl
 | n + 1 => by
  rw [List.range_succ, List.filter_append, List.length_append, j0 p n]
  refine (?_ : cnt p n + _ = cnt p n + _)
  cases h : p n <;> simp [h]
theorem uq (p : Nat -> Bool) (a : Nat) : ∀ b, cnt p (a + b) = cnt p a + cnt (fun i => p (a + i)) b
 | 0 => rfl
 | b + 1 => by
  refine (?_ : cnt p (a + b) + _ = cnt p a + (cnt _ b + _))
  rw [uq p a b, Nat.add_assoc]; rfl
theorem ye {p q : Nat -> Bool} : ∀ n, (∀ i, i < n -> p i = q i) -> cnt p n = cnt q n
 | 0, _ => rfl
 | n + 1, h => by
  refine (?_ : cnt p n + _ = cnt q n + _)
  rw [ye n fun i hi => h i (by lia), h n (by lia)]
theorem Jz (p : Nat -> Bool) {a b : Nat} (h : a <= b) : cnt p a <= cnt p b := by
 obtain ⟨d, rfl⟩ := Nat.le.dest h
 rw [uq]; lia
theorem Ky {p : Nat -> Bool} {a b : Nat} (h : a < b) (hp : p a = true) : cnt p a < cnt p b := by
 have := Jz p (show a + 1 <= b from h)
 have e : cnt p (a + 1) = cnt p a + 1 := by show cnt p a + _ = _; rw [hp]; rfl
 lia
noncomputable def eqP (g : Nat -> Nat) (v : Nat) : Nat -> Bool := fun m => g m == v
noncomputable def plc (g : Nat -> Nat) (n : Nat) : Nat := cnt (eqP g (g n)) n
structure Cos (g : Nat -> Nat) (k j : Nat) (I : Nat -> Prop) : Prop where
 zero : I 0
 xor : ∀ u v, I u -> I v -> I (u ^^^ v)
 yes : ∀ v, I v -> cnt (eqP g v) (2 ^ k) = 2 ^ j
 no : ∀ v, ¬ I v -> cnt (eqP g v) (2 ^ k) = 0
variable {g : Nat -> Nat} {k j : Nat} {I : Nat -> Prop}
theorem Cos.of (c : Cos g k j I) {r : Nat} (h : r < 2 ^ k) : I (g r) := by
 refine Classical.byContradiction fun hn => ?_
 have h1 := c.no _ hn
 have h2 := Ky (p := eqP g (g r)) h (by simp [eqP])
 lia
theorem Cos.back (c : Cos g k j I) {w v : Nat} (hw : I w) (h : I (v ^^^ w)) : I v := by
 have := c.xor _ _ h hw
 rwa [xx'] at this
theorem Fa (T : ∀ r, r < 2 ^ k -> g (2 ^ k ^^^ r) = g (2 ^ k) ^^^ g r) (v n : Nat) (hn : n <= 2 ^ k) : cnt (fun i => eqP g v (2 ^ k + i)) n = cnt (eqP g (v ^^^ g (2 ^ k))) n := by
 refine ye n fun i hi => ?_
 unfold eqP
 rw [<- lj (by omega : i < 2 ^ k), T i (by omega)]
 rw [Bool.eq_iff_iff, beq_iff_eq, beq_iff_eq]
 constructor
 ·intro h; rw [<- h, Nat.xor_comm (g (2 ^ k)), xx']
 ·intro h; rw [h, Nat.xor_comm v, xx]
theorem Lj (T : ∀ r, r < 2 ^ k -> g (2 ^ k ^^^ r) = g (2 ^ k) ^^^ g r) (v : Nat) : cnt (eqP g v) (2 ^ (k + 1)) = cnt (eqP g v) (2 ^ k) + cnt (eqP g (v ^^^ g (2 ^ k))) (2 ^ k) := by
 rw [show 2 ^ (k + 1) = 2 ^ k + 2 ^ k by rw [Nat.pow_succ]; lia, uq]
 rw [Fa T v _ (Nat.le_refl _)]
theorem H7 (c : Cos g k j I) (T : ∀ r, r < 2 ^ k -> g (2 ^ k ^^^ r) = g (2 ^ k) ^^^ g r) : ∃ j' I', Cos g (k + 1) j' I' := by
 have h2 := Lj T
 generalize g (2 ^ k) = w at h2
 by_cases hw : I w
 ·refine ⟨j + 1, I, c.zero, c.xor, fun v hv => ?_, fun v hv => ?_⟩
  ·rw [h2, c.yes v hv, c.yes _ (c.xor _ _ hv hw), Nat.pow_succ]; lia
  ·rw [h2, c.no v hv, c.no _ fun h => hv (c.back hw h)]
 ·have ex : ∀ v, I v -> ¬ I (v ^^^ w) := fun v hv h => hw (by
   have := c.xor _ _ hv h
   rwa [xx] at this)
  refine ⟨j, fun v => I v ∨ I (v ^^^ w), .inl c.zero, fun u v hu hv => ?_, fun v hv => ?_, fun v hv => ?_⟩
  ·rcases hu with hu | hu <;> rcases hv with hv | hv
   ·exact .inl (c.xor _ _ hu hv)
   ·right
    have := c.xor _ _ hu hv
    rwa [<- Nat.xor_assoc] at this
   ·right
    have := c.xor _ _ hu hv
    rwa [Nat.xor_assoc, Nat.xor_comm w, <- Nat.xor_assoc] at this
   ·left
    have := c.xor _ _ hu hv
    rwa [Nat.xor_assoc, Nat.xor_comm w, Nat.xor_assoc, Nat.xor_self, Nat.xor_zero] at this
  ·rw [h2]
   by_cases q : I v
   ·rw [c.yes v q, c.no _ (ex v q)]; rfl
   ·have hv := hv.resolve_left q
    rw [c.no v q, c.yes _ hv]; lia
  ·rw [h2, c.no v fun h => hv (.inl h), c.no _ fun h => hv (.inr h)]
theorem Lb (c : Cos g k j I) {r : Nat} (h : r < 2 ^ k) : plc g r < 2 ^ j := by
 have h1 := c.yes _ (c.of h)
 have h2 := Ky (p := eqP g (g r)) h (by simp [eqP])
 unfold plc; lia
theorem L9 (c : Cos g k j I) (T : ∀ r, r < 2 ^ k -> g (2 ^ k ^^^ r) = g (2 ^ k) ^^^ g r) : ∀ r, r < 2 ^ k -> plc g (2 ^ k ^^^ r) = plc g (2 ^ k) ^^^ plc g r := by
 have key : ∃ e, (e = 0 ∨ e = 2 ^ j) /\ ∀ r, r < 2 ^ k -> plc g (2 ^ k ^^^ r) = e + plc g r := by
  have hb : ∀ r, r < 2 ^ k -> plc g (2 ^ k ^^^ r) = cnt (eqP g (g (2 ^ k) ^^^ g r)) (2 ^ k) + plc g r := by
   intro r hr
   unfold plc
   rw [T r hr, lj hr, uq, Fa T _ _ (by lia), Nat.xor_comm (g (2 ^ k)), xx']
  by_cases hw : I (g (2 ^ k))
  ·refine ⟨2 ^ j, .inr rfl, fun r hr => ?_⟩
   rw [hb r hr, c.yes _ (c.xor _ _ hw (c.of hr))]
  ·refine ⟨0, .inl rfl, fun r hr => ?_⟩
   rw [hb r hr, c.no _ fun h => hw (c.back (c.of hr) h)]
 obtain ⟨e, he, hk⟩ := key
 have h0 : plc g (2 ^ k) = e := by
  have := hk 0 (Nat.two_pow_pos k)
  rw [Nat.xor_zero] at this
  rw [this]; rfl
 intro r hr
 have hl := Lb c hr
 rw [hk r hr, h0]
 rcases he with rfl | rfl
 ·rw [Nat.zero_xor, Nat.zero_add]
 ·rw [lj hl]
theorem Js {K : Nat} (L : x4 g K) : g 0 = 0 := by
 have := L 0 0 (Nat.two_pow_pos K) (Nat.two_pow_pos K)
 rwa [Nat.xor_self, Nat.xor_self] at this
theorem uy {K : Nat} (L : x4 g K) : ∀ k, k <= K -> (∃ j I, Cos g k j I) /\ x4 (plc g) k
 | 0, _ => by
  have h0 := Js L
  refine ⟨⟨0, fun v => v = 0, rfl, fun u v hu hv => by rw [hu, hv]; rfl, fun v hv => ?_, fun v hv => ?_⟩, fun a b ha hb => ?_⟩
  ·subst hv
   refine (?_ : 0 + (if eqP g 0 0 then 1 else 0) = 1)
   unfold eqP; rw [h0]; rfl
  ·refine (?_ : 0 + (if eqP g v 0 then 1 else 0) = 0)
   unfold eqP; rw [h0]
   have : (0 == v) = false := by simpa using fun h : 0 = v => hv h.symm
   rw [this]; rfl
  ·have ha : a = 0 := by simpa using ha
   have hb : b = 0 := by simpa using hb
   subst ha; subst hb
   rw [Nat.xor_self, Nat.xor_self]; rfl
 | k + 1, hk => by
  have hp : 2 ^ (k + 1) <= 2 ^ K := Nat.pow_le_pow_right (by decide) hk
  have hp2 : 2 ^ (k + 1) = 2 ^ k + 2 ^ k := by rw [Nat.pow_succ]; lia
  have T : ∀ r, r < 2 ^ k -> g (2 ^ k ^^^ r) = g (2 ^ k) ^^^ g r := fun r hr => L _ _ (by lia) (by lia)
  obtain ⟨⟨j, I, c⟩, hl⟩ := uy L k (by lia)
  exact ⟨H7 c T, Cp hl (L9 c T)⟩
end Mine
end
section
open PySem
namespace Mine
/- rows and places, as the law makes them -/
noncomputable def gOf (bad : Nat -> Bool) (n : Nat) : Nat := ek (dw bad n (cf bad n)) n 0
variable {bad : Nat -> Bool}
theorem Bg : ∀ n, cf bad n = (List.range n).map (gOf bad)
 | 0 => rfl
 | n + 1 => by
  refine (?_ : cf bad n ++ [gOf bad n] = _)
  rw [Bg n, List.range_succ, List.map_append]; rfl
theorem u8 {n i : Nat} (h : i < n) : (cf bad n)[i]? = some (gOf bad i) := by
 rw [Bg, List.getElem?_map, List.getElem?_range h]; rfl
theorem sr (n : Nat) : gOf bad n <= n := by
 have := (qq (dw bad n (cf bad n)) n 0).2
 unfold gOf; lia
theorem I3 : Fit 5 (fun d => bad d = true) (gOf bad) where
 off := fun n m hn hm hb e => F0 (bad := bad) n (sa.mpr ⟨m, hm, hb, by rw [u8 hm, e]; rfl⟩)
 on := fun n v hn hv => by
  refine byC fun hC1 => ?_
  obtain ⟨o, h1, h2, h3⟩ := sa.mp (x6 (bad := bad) n v hv)
  rw [u8 h1] at h3
  cases h3
  refine hC1 ?_
  exact ⟨o, h1, h2, rfl⟩
theorem Av : x4 (gOf bad) 5 := y8 I3 5 (Nat.le_refl _)
theorem No : x4 (plc (gOf bad)) 5 := (uy Av 5 (Nat.le_refl _)).2
noncomputable def fil (g : Nat -> Nat) (s n : Nat) : List Nat := (List.range n).filter (eqP g s)
theorem r7 : ∀ k, bc bad k = (List.range 33).map fun s => fil (gOf bad) s k
 | 0 => by
  refine (?_ : List.replicate 33 [] = _)
  rfl
 | k + 1 => by
  refine (?_ : (bc bad k).modify (gOf bad k) (· ++ [k]) = _)
  rw [r7 k]
  refine List.ext_getElem? fun s => ?_
  rw [List.getElem?_modify, List.getElem?_map, List.getElem?_map]
  by_cases hs : s < 33
  ·rw [List.getElem?_range hs]
   refine (?_ : some (if gOf bad k = s then fil (gOf bad) s k ++ [k] else fil (gOf bad) s k) = some (fil (gOf bad) s (k + 1)))
   congr 1
   unfold fil
   rw [List.range_succ, List.filter_append]
   by_cases q : gOf bad k = s
   ·rw [if_pos q]
    congr 1
    have : eqP (gOf bad) s k = true := by unfold eqP; simpa using q
    simp [this]
   ·rw [if_neg q]
    have : eqP (gOf bad) s k = false := by unfold eqP; simpa using q
    simp [this]
  ·rw [List.getElem?_eq_none (by simp; lia)]; rfl
theorem mu {n : Nat} (h : n < 32) : (cf bad 32).getD n 0 = gOf bad n := by
 rw [List.getD_eq_getElem?_getD, u8 h]; rfl
theorem qo {s : Nat} (h : s < 33) : (bc bad 32).getD s [] = fil (gOf bad) s 32 := by
 rw [r7, List.getD_eq_getElem?_getD, List.getElem?_map, List.getElem?_range h]; rfl
theorem Pj : om (bc bad 32) (cf bad 32) where
 len := jg 32
 few := ig 32
 rlen := fs 32
 lt := fun n => by
  by_cases h : n < 32
  ·rw [mu h]; have := sr (bad := bad) n; omega
  ·rw [List.getD_eq_getElem?_getD, List.getElem?_eq_none (by rw [fs]; omega)]; decide
theorem Em : ∀ r ∈ bc bad 32, ∀ x ∈ r, x < 32 := fun r hr x hx => by
 rw [r7] at hr
 obtain ⟨s, _, rfl⟩ := List.mem_map.mp hr
 exact List.mem_range.mp (List.mem_filter.mp hx).1
theorem P9 {α : Type} (f : α -> Nat) (d : α) {L : List α} (hp : L.Pairwise fun a b => f a < f b) {i : Nat} {x : α} (hi : L[i]? = some x) :
  bsL (fun i => ((f (L.getD i d) : Nat) : Int)) ((f x : Nat) : Int) L.length 0 L.length = i /\ bsR (fun i => ((f (L.getD i d) : Nat) : Int)) ((f x : Nat) : Int) L.length 0 L.length = i + 1 := by
 obtain ⟨hl, rfl⟩ := List.getElem?_eq_some_iff.mp hi
 have hpw := List.pairwise_iff_getElem.mp hp
 have at_ : ∀ m (h : m < L.length), f (L.getD m d) = f L[m] := fun m h => by rw [List.getD_eq_getElem?_getD, List.getElem?_eq_getElem h]; rfl
 constructor
 ·refine wf (Nat.le_of_lt hl) fun m hm => ?_
  show ((f (L.getD m d) : Nat) : Int) < _ ↔ _
  rw [at_ m hm]
  rcases Nat.lt_trichotomy m i with q | q | q
  ·have := hpw m i hm hl q; lia
  ·subst q; lia
  ·have := hpw i m hl hm q; lia
 ·refine B6 hl fun m hm => ?_
  show ((f (L.getD m d) : Nat) : Int) <= _ ↔ _
  rw [at_ m hm]
  rcases Nat.lt_trichotomy m i with q | q | q
  ·have := hpw m i hm hl q; lia
  ·subst q; lia
  ·have := hpw i m hl hm q; lia
theorem Ir (g : Nat -> Nat) (s n : Nat) : (fil g s n).Pairwise (· < ·) := List.Pairwise.filter _ List.pairwise_lt_range
theorem Hv {n m : Nat} (h : n < m) : ∃ r, List.range m = List.range n ++ n :: r := by
 obtain ⟨d, rfl⟩ := Nat.le.dest (show n + 1 <= m from h)
 refine ⟨(List.range d).map (n + 1 + ·), ?_⟩
 induction d with
 | zero => rw [Nat.add_zero, List.range_succ]; rfl
 | succ d ih => rw [<- Nat.add_assoc, List.range_succ, ih (by lia), List.range_succ, List.map_append, List.append_assoc]; rfl
theorem Ik (g : Nat -> Nat) {n m : Nat} (h : n < m) : (fil g (g n) m)[plc g n]? = some n := by
 refine byC fun hC1 => ?_
 obtain ⟨r, e⟩ := Hv h
 refine hC1 ?_
 unfold fil
 rw [e, List.filter_append]
 have hl : ((List.range n).filter (eqP g (g n))).length = plc g n := j0 _ _
 have ht : eqP g (g n) n = true := by simp [eqP]
 rw [List.filter_cons, if_pos ht, List.getElem?_append_right (by lia), hl, Nat.sub_self]; rfl
theorem Gc {n : Nat} (h : n < 32) : xk (bc bad 32) n ((cf bad 32).getD n 0) = plc (gOf bad) n /\ yw (bc bad 32) n ((cf bad 32).getD n 0) = plc (gOf bad) n + 1 := by
 have hg := sr (bad := bad) n
 unfold xk yw
 rw [mu h, qo (by lia)]
 exact P9 (fun n : Nat => n) 0 (Ir _ _ _) (Ik (gOf bad) h)
theorem Ag : dy (bc bad 32) (cf bad 32) = (List.range 32).map (plc (gOf bad)) := by
 unfold dy
 rw [fs]
 exact List.map_congr_left fun n hn => (Gc (List.mem_range.mp hn)).1
theorem my {n : Nat} (h : n < 32) : (dy (bc bad 32) (cf bad 32)).getD n 0 = plc (gOf bad) n := by
 rw [Ag, List.getD_eq_getElem?_getD, List.getElem?_map, List.getElem?_range h]; rfl
theorem Kl : ∀ n : Fin 32, 1 <= (n : Nat) -> wk n ^^^ ((n : Nat) - wk n) = (n : Nat) := by decide +kernel
theorem E5 {l : List Nat} {g : Nat -> Nat} (L : x4 g 5) (h : ∀ n, n < 32 -> l.getD n 0 = g n) : qe l := fun n h1 h2 => by
 have e := Kl ⟨n, h2⟩ h1
 have e : wk n ^^^ (n - wk n) = n := e
 have hb := (Gb h1 h2).2
 rw [h n h2, h _ (by lia), h _ (by lia), <- L _ _ (by show _ < 32; lia) (by show _ < 32; lia), e]
end Mine
end
section
open PySem
namespace Mine
variable {bad : Nat -> Bool}
/- the replies in the order of rows and places -/
theorem ls {s : Nat} {r : List Nat} {q : Nat × Nat} (h : q ∈ ga s r) : ∃ t, t < r.length /\ q = (32 * s + t, r.getD t 0) := by
 obtain ⟨t, ht, rfl⟩ := List.mem_map.mp h
 exact ⟨t, List.mem_range.mp ht, rfl⟩
theorem sd {R : List (List Nat)} {k : Nat} {q : Nat × Nat} : q ∈ au R k ↔ ∃ s, s < k /\ q ∈ ga s (R.getD s []) := by
 unfold au
 rw [List.mem_flatMap]
 constructor
 ·rintro ⟨s, h1, h2⟩; exact ⟨s, List.mem_range.mp h1, h2⟩
 ·rintro ⟨s, h1, h2⟩; exact ⟨s, List.mem_range.mpr h1, h2⟩
theorem j9 {R : List (List Nat)} (few : ∀ r ∈ R, r.length <= 32) {k : Nat} {q : Nat × Nat} (h : q ∈ au R k) : q.1 < 32 * k := by
 obtain ⟨s, h1, h2⟩ := sd.mp h
 obtain ⟨t, ht, rfl⟩ := ls h2
 have := n8 few s
 refine (?_ : 32 * s + t < 32 * k)
 lia
theorem xh {R : List (List Nat)} (few : ∀ r ∈ R, r.length <= 32) : ∀ k, (au R k).Pairwise fun a b => a.1 < b.1
 | 0 => List.Pairwise.nil
 | k + 1 => by
  rw [j2, List.pairwise_append]
  refine ⟨xh few k, ?_, fun a ha b hb => ?_⟩
  ·unfold ga
   rw [List.pairwise_map]
   exact List.Pairwise.imp (fun {a b} h => by show 32 * k + a < 32 * k + b; lia) List.pairwise_lt_range
  ·have h1 := j9 few ha
   obtain ⟨t, ht, rfl⟩ := ls hb
   refine (?_ : a.1 < 32 * k + t)
   lia
theorem ss {R : List (List Nat)} (k : Nat) : ∀ d, ∃ rest, au R (k + d) = au R k ++ rest /\ ∀ q ∈ rest, 32 * k <= q.1
 | 0 => ⟨[], by simp, fun q h => nomatch h⟩
 | d + 1 => by
  obtain ⟨rest, h1, h2⟩ := ss (R := R) k d
  refine ⟨rest ++ ga (k + d) (R.getD (k + d) []), ?_, fun q hq => ?_⟩
  ·rw [<- Nat.add_assoc, j2, h1, List.append_assoc]
  ·rcases List.mem_append.mp hq with h | h
   ·exact h2 q h
   ·obtain ⟨t, ht, rfl⟩ := ls h
    refine (?_ : 32 * k <= 32 * (k + d) + t)
    lia
theorem H1 {R : List (List Nat)} (few : ∀ r ∈ R, r.length <= 32) {r : Nat} (hr : r <= 33) : bsL (g4 R) (r : Int) (au R 33).length 0 (au R 33).length = (au R r).length := by
 refine byC fun hC1 => ?_
 obtain ⟨d, hd⟩ := Nat.le.dest hr
 obtain ⟨rest, h1, h2⟩ := ss (R := R) r d
 refine hC1 ?_
 rw [hd] at h1
 refine wf (by rw [h1, List.length_append]; lia) fun i hi => ?_
 unfold g4
 rw [h1] at hi ⊢
 rw [List.length_append] at hi
 rcases Nat.lt_or_ge i (au R r).length with q | q
 ·have e : (au R r ++ rest).getD i (0, 0) = (au R r)[i] := by rw [List.getD_eq_getElem?_getD, List.getElem?_append_left q, List.getElem?_eq_getElem q]; rfl
  have hb := j9 few (List.getElem_mem q)
  rw [e]; lia
 ·have hr2 : i - (au R r).length < rest.length := by lia
  have e : (au R r ++ rest).getD i (0, 0) = rest[i - (au R r).length] := by rw [List.getD_eq_getElem?_getD, List.getElem?_append_right q, List.getElem?_eq_getElem hr2]; rfl
  have hb := h2 _ (List.getElem_mem hr2)
  rw [e]; lia
theorem Mn {R : List (List Nat)} (few : ∀ r ∈ R, r.length <= 32) {r : Nat} (hr : r < 33) : bsR (g4 R) (r : Int) (au R 33).length 0 (au R 33).length = (au R (r + 1)).length := by
 refine byC fun hC1 => ?_
 obtain ⟨d, hd⟩ := Nat.le.dest (show r + 1 <= 33 from hr)
 obtain ⟨rest, h1, h2⟩ := ss (R := R) (r + 1) d
 refine hC1 ?_
 rw [hd] at h1
 refine B6 (by rw [h1, List.length_append]; lia) fun i hi => ?_
 unfold g4
 rw [h1] at hi ⊢
 rw [List.length_append] at hi
 rcases Nat.lt_or_ge i (au R (r + 1)).length with q | q
 ·have e : (au R (r + 1) ++ rest).getD i (0, 0) = (au R (r + 1))[i] := by rw [List.getD_eq_getElem?_getD, List.getElem?_append_left q, List.getElem?_eq_getElem q]; rfl
  have hb := j9 few (List.getElem_mem q)
  rw [e]; lia
 ·have hr2 : i - (au R (r + 1)).length < rest.length := by lia
  have e : (au R (r + 1) ++ rest).getD i (0, 0) = rest[i - (au R (r + 1)).length] := by rw [List.getD_eq_getElem?_getD, List.getElem?_append_right q, List.getElem?_eq_getElem hr2]; rfl
  have hb := h2 _ (List.getElem_mem hr2)
  rw [e]; lia
theorem J8 {n : Nat} (hn : n < 32) : ((bc bad 32).getD (gOf bad n) []).length = ((bc bad 32).getD 0 []).length := by
 refine byC fun hC1 => ?_
 obtain ⟨⟨j, I, c⟩, _⟩ := uy (Av (bad := bad)) 5 (Nat.le_refl _)
 refine hC1 ?_
 have hg := sr (bad := bad) n
 rw [qo (by lia), qo (by lia)]
 unfold fil
 rw [j0, j0]
 exact (c.yes _ (c.of (show n < 2 ^ 5 from hn))).trans (c.yes _ c.zero).symm
theorem su {n : Nat} (hn : n < 32) : ∀ r, r <= gOf bad n + 1 -> (au (bc bad 32) r).length = ((bc bad 32).getD 0 []).length * r
 | 0, _ => by simp [au]
 | r + 1, h => by
  have hr : ∃ m, m < 32 /\ gOf bad m = r := by
   rcases Nat.lt_or_ge r (gOf bad n) with q | q
   ·refine byC fun hC1 => ?_
    obtain ⟨m, h1, _, h3⟩ := I3.on n r hn q
    refine hC1 ?_
    exact ⟨m, by lia, h3⟩
   ·exact ⟨n, hn, by lia⟩
  refine byC fun hC2 => ?_
  obtain ⟨m, hm, rfl⟩ := hr
  refine hC2 ?_
  rw [j2, List.length_append, su hn _ (by lia)]
  have e : (ga (gOf bad m) ((bc bad 32).getD (gOf bad m) [])).length = ((bc bad 32).getD 0 []).length := by
   rw [<- J8 hm]; simp [ga]
  rw [e, Nat.mul_succ]
theorem tf {n : Nat} (hn : n < 32) : plc (gOf bad) n < 32 := by
 obtain ⟨⟨j, I, c⟩, _⟩ := uy (Av (bad := bad)) 5 (Nat.le_refl _)
 have h1 := Lb c (show n < 2 ^ 5 from hn)
 have h2 := c.yes _ c.zero
 have h3 : cnt (eqP (gOf bad) 0) (2 ^ 5) <= 32 := by
  rw [<- j0]
  exact Nat.le_trans (List.length_filter_le ..) (by rw [List.length_range]; decide)
 lia
theorem Fv {y j : Nat} (h : y < 32) (q : 5 <= j) : y < 2 ^ j := Nat.lt_of_lt_of_le h (show 2 ^ 5 <= 2 ^ j from Nat.pow_le_pow_right (by decide) q)
theorem Kf {x y x' y' : Nat} (h : y < 32) (h' : y' < 32) : (32 * x + y) ^^^ (32 * x' + y') = 32 * (x ^^^ x') + (y ^^^ y') := by
 have e : ∀ a b : Nat, b < 32 -> 32 * a + b = 2 ^ 5 * a ||| b := fun a b hb => Nat.two_pow_add_eq_or_of_lt (i := 5) hb a
 have hyy : y ^^^ y' < 32 := Nat.xor_lt_two_pow (n := 5) h h'
 rw [e _ _ h, e _ _ h', e _ _ hyy]
 apply Nat.eq_of_testBit_eq
 intro j
 simp only [Nat.testBit_xor, Nat.testBit_or, Nat.testBit_two_pow_mul]
 by_cases q : 5 <= j
 ·rw [Nat.testBit_lt_two_pow (Fv h q), Nat.testBit_lt_two_pow (Fv h' q)]
  simp [q]
 ·simp [q]
theorem A7 {a b : Nat} (ha : a < 32) (hb : b < 32) : ba (cf bad 32) (dy (bc bad 32) (cf bad 32)) a ^^^ ba (cf bad 32) (dy (bc bad 32) (cf bad 32)) b = 32 * gOf bad (a ^^^ b) + plc (gOf bad) (a ^^^ b) := by
 unfold ba
 rw [mu ha, mu hb, my ha, my hb, Kf (tf ha) (tf hb), <- Av a b ha hb, <- No a b ha hb]
theorem Ki {n : Nat} (hn : n < 32) : (32 * gOf bad n + plc (gOf bad) n, n) ∈ au (bc bad 32) 33 := by
 have hg := sr (bad := bad) n
 have hf := Ik (gOf bad) hn
 refine sd.mpr ⟨gOf bad n, by lia, ?_⟩
 rw [qo (by lia)]
 refine List.mem_map.mpr ⟨plc (gOf bad) n, List.mem_range.mpr (List.getElem?_eq_some_iff.mp hf).1, ?_⟩
 rw [List.getD_eq_getElem?_getD, hf]; rfl
theorem uo {n : Nat} (hn : n < 32) : 32 * gOf bad n + plc (gOf bad) n < 1024 := by
 have := sr (bad := bad) n
 have := tf (bad := bad) hn
 lia
theorem Dj {a b : Nat} (ha : a < 32) (hb : b < 32) : ∃ i, (au (bc bad 32) 33)[i]? = some (32 * gOf bad (a ^^^ b) + plc (gOf bad) (a ^^^ b), a ^^^ b) ∧
  bsL (gu (bc bad 32)) ((32 * gOf bad (a ^^^ b) + plc (gOf bad) (a ^^^ b) : Nat) : Int) (au (bc bad 32) 33).length 0 (au (bc bad 32) 33).length = i /\ bsR (gu (bc bad 32)) ((32 * gOf bad (a ^^^ b) + plc (gOf bad) (a ^^^ b) : Nat) : Int) (au (bc bad 32) 33).length 0 (au (bc bad 32) 33).length = i + 1 := by
 refine byC fun hC1 => ?_
 obtain ⟨i, hi, e⟩ := List.getElem_of_mem (Ki (bad := bad) (mz ha hb))
 refine hC1 ?_
 have hi2 : (au (bc bad 32) 33)[i]? = some (32 * gOf bad (a ^^^ b) + plc (gOf bad) (a ^^^ b), a ^^^ b) := by rw [List.getElem?_eq_getElem hi, e]
 have := P9 (fun q : Nat × Nat => q.1) (0, 0) (xh (ig 32) 33) hi2
 exact ⟨i, hi2, this.1, this.2⟩
end Mine
end
section
open PySem PySem.NumText
namespace Mine
/- the plain law of law 01 -/
theorem Be {p n : Nat} : (PyData.str (jd (p : Int) (n : Int))).canLay0 = true := by
 rw [xb]
 have h : ∀ c ∈ de (Bw n) (jl n) (dl p), c < 0x110000 := by
  intro c hc
  have hm := o7 n
  simp only [de, Bw, List.mem_append, List.mem_cons, List.not_mem_nil, or_false] at hc
  rcases hc with ((h | h) | h) | h | ((h | h) | h) | h
  ·omega
  ·have := ld n c h; omega
  ·omega
  ·omega
  ·omega
  ·have := ld p c h; omega
  ·omega
  ·omega
 refine (?_ : (de (Bw n) (jl n) (dl p)).toArray.all (· < 0x110000) = true)
 rw [List.all_toArray, List.all_eq_true]
 exact fun c hc => decide_eq_true (h c hc)
theorem My (bad : Nat -> Bool) : jt (bc bad 32) := by
 have h : ∀ q ∈ au (bc bad 32) 33, q.1 < 1056 /\ q.2 < 32 := fun q hq => by
  have h1 := j9 (ig 32) hq
  obtain ⟨s, hs, h2⟩ := sd.mp hq
  obtain ⟨t, ht, rfl⟩ := ls h2
  refine ⟨h1, ?_⟩
  rw [qo hs] at ht ⊢
  refine (?_ : (fil (gOf bad) s 32).getD t 0 < 32)
  rw [List.getD_eq_getElem?_getD, List.getElem?_eq_getElem ht]
  exact List.mem_range.mp (List.mem_filter.mp (List.getElem_mem ht)).1
 exact ⟨fun q hq => w5 (by have := (h q hq).1; lia) (by have := (h q hq).2; lia), fun q hq => Be⟩
theorem Mt (bad : Nat -> Bool) {a b : Nat} (ha : a < 32) (hb : b < 32) : Dc (bc bad 32) (cf bad 32) (dy (bc bad 32) (cf bad 32)) a b := by
 have pa : ba (cf bad 32) (dy (bc bad 32) (cf bad 32)) a < 1024 := by
  unfold ba; rw [mu ha, my ha]; exact uo ha
 have pb : ba (cf bad 32) (dy (bc bad 32) (cf bad 32)) b < 1024 := by
  unfold ba; rw [mu hb, my hb]; exact uo hb
 have px := A7 (bad := bad) ha hb
 have pl := uo (bad := bad) (mz ha hb)
 have pf := Dj (bad := bad) ha hb
 have be := M6 pa pb
 rw [<- px] at pl pf
 exact {
  small := Nat.le_trans (Nat.le_of_lt pl) (by decide)
  f1 := (kr pa).1
  f2 := (kr pb).1
  sum := (congrArg (fun l : List Str => (l.map fun w => (1 : Int) * 2 ^ (bj.idxOf w)).sum) be).trans (Nj pl)
  found := pf
  f3 := (kr pl).1
  told := (Oa pl).trans (by rw [be]) }
theorem nv (S : List Int) (t : Nat) : ze S t < 32 /\ ut S t < 32 := ⟨(lh _).2, (lh _).2⟩
theorem M0 (S : List Int) (hS : S.length <= 1000) : L7 S := by
 have hw := Ek
 have hm := Gn S
 have hr := H0 S
 have h2 : f9 S < 32 := (lh _).2
 have ra := mu (bad := gq S) h2
 have hg := sr (bad := gq S) (f9 S)
 exact {
  len := hS
  k0 := hw.1
  w0 := hw.2
  km := hm.1
  hx := Nat.le_trans hr.1.2 (by decide)
  same := hm.2
  sh := fun w hw => by
   unfold ia at hw
   split at hw
   ·rw [List.mem_singleton.mp hw]; exact hr.2
   ·cases hw
  T := Pj
  plen := by show (dy (bc (gq S) 32) (cf (gq S) 32)).length = 32; rw [Ag, List.length_map, List.length_range]
  Fr := E5 Av fun n hn => mu hn
  Fp := E5 No fun n hn => my hn
  lr := fun n hn => by
   have := Gc (bad := gq S) hn
   exact this.2.trans (congrArg (· + 1) this.1.symm)
  small := Em
  reps := My (gq S)
  pair := fun t ht => Mt (gq S) (nv S t).1 (nv S t).2
  bl := by
   refine (?_ : bsL (g4 (bc (gq S) 32)) (((cf (gq S) 32).getD (f9 S) 0 : Nat) : Int) _ 0 _ = ((bc (gq S) 32).getD 0 []).length * (cf (gq S) 32).getD (f9 S) 0)
   rw [ra]
   exact (H1 (ig 32) (by lia)).trans (su h2 _ (Nat.le_succ _))
  br := by
   refine (?_ : bsR (g4 (bc (gq S) 32)) (((cf (gq S) 32).getD (f9 S) 0 : Nat) : Int) _ 0 _ = ((bc (gq S) 32).getD 0 []).length * ((cf (gq S) 32).getD (f9 S) 0 + 1))
   rw [ra]
   exact (Mn (ig 32) (by lia)).trans (su h2 _ (Nat.le_refl _)) }
end Mine
end
section
open PySem PySem.W PyProof.Rows PySem.Calls
open PySem.Sem (wp)
namespace Mine
noncomputable def gg (st : List (Code × Pos)) : Bool := (st.map (·.1)).any Code.isCaller
noncomputable def Oc (t : Sem Value) : Sem Value := .stack fun st => if gg st then t else pure (.bool true)
noncomputable def tg (t : Sem PySem.Fin) : Sem PySem.Fin := .stack fun st => if gg st then t else pure (.done (.ret (.bool true)))
theorem Dp {den : Code -> Sem PySem.Fin} {p : Program} {w : World} {s : Shared} {t : Sem PySem.Fin} (hz : s.asleep) :
  sstep den p w (.single s ⟨tg t, .builtin "claim.caller" {}, default, []⟩) = .go (.single s ⟨t, .builtin "claim.caller" {}, default, []⟩) := by
 have hs : step den p w s ⟨tg t, .builtin "claim.caller" {}, default, []⟩ = .go s ⟨t, .builtin "claim.caller" {}, default, []⟩ := by
  show Step.go s ⟨(if gg [(.builtin "claim.caller" {}, default)] then t else _), _, _, _⟩ = _
  rfl
 rcases sstep_single den p w s ⟨tg t, .builtin "claim.caller" {}, default, []⟩ rfl hz with h | h
 ·rw [h, hs]; rfl
 ·rw [hs] at h; cases h
theorem N1 {α β γ δ : Type} {A : α -> β -> Prop} {B B' : α -> β -> Nat -> γ -> δ -> Prop} {R : α -> β -> γ -> δ -> Prop} (h : ∃ vs s₁, A vs s₁ /\ ∃ n o s', B vs s₁ n o s' /\ R vs s₁ o s') (k : ∀ vs s₁ n o s', A vs s₁ -> B vs s₁ n o s' -> ∃ n', B' vs s₁ n' o s') :
  ∃ vs s₁, A vs s₁ /\ ∃ n o s', B' vs s₁ n o s' /\ R vs s₁ o s' := by
 obtain ⟨vs, s₁, hA, n, o, s', hB, hR⟩ := h
 obtain ⟨n', hB'⟩ := k _ _ _ _ _ hA hB
 exact ⟨vs, s₁, hA, n', o, s', hB', hR⟩
theorem vw {c : ClaimW} {tree : List Value -> Sem PySem.Fin} {w : World} {free : Addr -> Prop} {gens : Prop} {kept : Heap -> Prop} {s : Shared} (hz : s.asleep)
  (h : c.CallFrom (fun vs => ⟨tg (tree vs), .builtin "claim.caller" {}, default, []⟩) w free gens kept s) : c.CallFrom (fun vs => ⟨tree vs, .builtin "claim.caller" {}, default, []⟩) w free gens kept s := fun args hpre hlay ord hord => by
 refine N1 (h args hpre hlay ord hord) fun vs s₁ n o s' hlaid hn => ?_
 have hz1 : s₁.asleep := Shared.asleep_of_life (layAllW_rest _ _ _ hlaid).2.2.2 hz
 cases n with
 | zero => cases hn
 | succ n =>
  simp only [schedN, Dp hz1] at hn
  exact ⟨n, hn⟩
theorem O5 {α β : Type} {P1 P2 : α -> Prop} {T A3 A4 A5 A6 A6' : α -> β -> Prop} (h : ∃ s₀, P1 s₀ /\ P2 s₀ /\ ∃ s₁, T s₀ s₁ /\ A3 s₀ s₁ /\ A4 s₀ s₁ /\ A5 s₀ s₁ /\ A6 s₀ s₁) (k : ∀ s₀ s₁, P1 s₀ -> T s₀ s₁ -> A6 s₀ s₁ -> A6' s₀ s₁) :
  ∃ s₀, P1 s₀ /\ P2 s₀ /\ ∃ s₁, T s₀ s₁ /\ A3 s₀ s₁ /\ A4 s₀ s₁ /\ A5 s₀ s₁ /\ A6' s₀ s₁ := by
 obtain ⟨s₀, a1, a2, s₁, T, a3, a4, a5, a6⟩ := h
 exact ⟨s₀, a1, a2, s₁, T, a3, a4, a5, k _ _ a1 T a6⟩
theorem ue {c : ClaimW} {tree : List Value -> Sem PySem.Fin} {defs kps : List Str} {writes : Bool} (h : c.HoldsOpenBy (fun vs => ⟨tg (tree vs), .builtin "claim.caller" {}, default, []⟩) defs kps writes) :
  c.HoldsOpenBy (fun vs => ⟨tree vs, .builtin "claim.caller" {}, default, []⟩) defs kps writes :=
 ⟨h.1, h.2.1, fun w => ⟨(h.2.2 w).1, fun s hs => O5 ((h.2.2 w).2 s hs) fun s₀ s₁ a1 T a6 =>
  vw (Shared.asleep_of_life T.2.1 (Shared.asleep_of_life (fence_lifeW a1) (AfterImport.life hs))) a6⟩⟩
noncomputable abbrev Jh (q : Program) (loose : List Str) (XP : (Str -> Option Value) -> Heap -> Prop) (YP : World -> Heap -> Prop) (r : RowW) (d : DefRec) (kwd : List (Str × Expr)) : Prop :=
 ∀ (w : World) (s₀ s₁ : Shared) (mg mb : Str -> Option Value), Ground q loose r.records XP w s₀ mg mb s₁.heap -> YP w s₁.heap -> ∀ (a : Addr) (o : Obj) (pm cd doc dV kV : Value), s₁.heap.get? a = some o →
  o.data = .func { docDef d.name d.params d.body d.scope pm cd doc with defaults := dV, kwdefaults := kV } -> s₁.heap.CodeRec cd d.name -> Dflts mg s₁.heap d.params kwd dV kV -> mg d.name = some (.ref a) -> s₁.gens = #[] →
  ∀ (args : List WData) (vals : List Value) (as : List Addr), r.claim.pre args = true -> WData.layableAll args = true -> ReadsAllW r.records (classAt s₀.heap) s₁.heap vals args as -> WellAll w.params s₁.heap vals args -> (∀ a ∈ as, (a == sysModules) = false) →
   GoodWG r.claim (classAt s₀.heap) (ExcName.means s₀.heap) args s₁ (.ok (.ret (.bool true))) s₁ ∧
   wpK (model r.prog w) callerA (PySem.call (.ref a) vals) (fun v s' => GoodWG r.claim (classAt s₀.heap) (ExcName.means s₀.heap) args s₁ (.ok (.ret v)) s')
    (fun e s' => GoodWG r.claim (classAt s₀.heap) (ExcName.means s₀.heap) args s₁ (.error e) s') s₁
theorem Dr {r : OpenRow} {q : Program} {loose : List Str} {Xt : Shared -> Bool} {XP : (Str -> Option Value) -> Heap -> Prop} {α : Type} {Yf : Shared -> α} {Ya : World -> α} {YP : World -> Heap -> Prop} {d : DefRec} {kwd : List (Str × Expr)} {N : Nat}
  (left : LeftO r.prog q loose Xt Yf Ya N) (hY : ∀ w s, Yf s = Ya w -> YP w s.heap) (hYk : ∀ w h h', YP w h -> (∀ b o, h.get? b = some o -> h'.get? b = some o) -> YP w h')
  (hX : ∀ s, Xt s = true -> XP (s.heap.nsMap mainGlobals) s.heap) (hXk : ∀ mg h h', XP mg h -> (∀ b o, h.get? b = some o -> h'.get? b = some o) -> XP mg h')
  (hdef : defOf q r.name = some (d, kwd)) (hp : r.prog.theDef r.name = some (d.params, d.body, d.scope)) (hk : kwWritten? d.params.kwonlyargs d.params.kw_defaults = some kwd) (hRf : ∀ s, Xt s = true -> RecFacts r.records s.heap) (hwr : (!r.writes || r.records.isEmpty) = true)
  (k1 : r.wellSaid = true) (ok : (chainsOk q && opensWell r.prog && (frees r.toRowW && r.within.isEmpty)) = true) (hb : r.prog.bare) (hw : r.toRowW.promised)
  (call : Jh q loose XP YP r.toRowW d kwd) : r.Holds := by
 refine ⟨k1, hw, ue (open_anyG (r := r.toRowW) (run := fun f vs => Oc (PySem.call f vs)) (tree := fun vs => tg (do match ← nsGet mainNs r.name with
   | some f => do ret (← PySem.call f vs)
   | none => unsupported "claim.caller:no-such-global")) left hY hYk hX hXk hRf hwr ok hb hw
  (fun vs w s mg f Q E hg hf h Γ p hΓ => ?_) (fun w s hg G n hn => ?_) fun w s₀ s₁ mg mb G Y args vs as hpre hlay L low => ?_)⟩
 ·have h' := h Γ p hΓ
  have e1 : wp (model r.prog w) Γ (if gg ((Γ.code, p) :: Γ.below) then PySem.call f vs else pure (.bool true)) (fun v _ s' => Q (.done (.ret v)) s') (fun e _ s' => E e s') p s := h'
  show wp (model r.prog w) Γ (if gg ((Γ.code, p) :: Γ.below) then _ else _) _ _ p s
  cases hc : gg ((Γ.code, p) :: Γ.below) with
  | false => rw [hc] at e1; exact e1
  | true =>
   rw [hc] at e1
   simp only [if_true] at e1 ⊢
   rw [Sem.wp_bind']
   show wp (model r.prog w) Γ (nsGet mainGlobals r.name) _ _ p s
   rw [Sem.wp_nsGet _ Γ _ p s hg, hf]
   show wp (model r.prog w) Γ (PySem.call f vs >>= fun v => ret v) _ _ p s
   rw [Sem.wp_bind']
   exact Sem.wp_mono _ Γ _ (fun _ _ _ z => z) (fun _ _ _ z => z) p s e1
 ·obtain rfl : n = r.name := by split at hn <;> simp_all
  exact pinned_of_view hg G hdef hp hk
 ·refine byC fun hC1 => ?_
  obtain ⟨a, o, pm, cd, doc, dV, kV, h1, h2, h3, h4, h5⟩ := G.fn hdef
  obtain ⟨c1, c2⟩ := call w s₀ s₁ mg mb G Y a o pm cd doc dV kV h2 h3 h4 h5 (defOf_name hdef ▸ h1) L.gens args vs as hpre hlay L.reads L.well (L.low low)
  refine hC1 ?_
  refine ⟨.ref a, h1, fun Γ p hΓ => ?_⟩
  show wp (model r.prog w) Γ (if gg ((Γ.code, p) :: Γ.below) then _ else _) _ _ p s₁
  cases hc : gg ((Γ.code, p) :: Γ.below) with
  | false => exact c1
  | true => exact c2 Γ p hΓ hc
end Mine
end
section
set_option maxRecDepth 100000
open PySem PySem.W PySem.Calls PyProof.Rows PyProof.V PySem.SeqAt
open PySem.Sem (wp)
namespace Mine
noncomputable def mkC (p : Program) (w : World) (s : Shared) (tabs : List (Addr × Addr)) (tq : Pos -> Str) : Cx := ⟨p, w, fun b => if b ∈ tabs.map (·.2) then none else s.heap.get? b, tabs.map (·.2), tq, s.os⟩
noncomputable def oAt (K : Frag) (a : Addr) : Obj := match K.lookup a with | some o => o | none => { cls := .none, data := .plain }
noncomputable def c7 (K : Frag) (a : Addr) : FuncData := match (oAt K a).data with | .func fd => fd | _ => default
noncomputable def Kx (K : Frag) (a : Addr) : Array Value := match (oAt K a).data with | .fields vs => vs | _ => #[]
noncomputable def Nr (K : Frag) (a : Addr) : Tok := match ((Kx K a)[1]? : Option Value) with | some (.str _ t) => t | _ => default
structure KIn (C : Cx) (K : Frag) : Prop where
 at_ : ∀ a o, K.lookup a = some o -> C.P0 a = some o
theorem Iy {K : Frag} : ∀ {a : Addr} {o : Obj}, K.lookup a = some o -> a ∈ K.map (·.1) := by
 induction K with
 | nil => intro a o h; cases h
 | cons p r ih =>
  intro a o h
  obtain ⟨b, q⟩ := p
  rw [List.lookup_cons] at h
  cases e : a == b with
  | true => rw [eq_of_beq e]; exact List.mem_cons_self
  | false => rw [e] at h; exact List.mem_cons_of_mem _ (ih h)
theorem Oh {p : Program} {w : World} {s : Shared} {tabs : List (Addr × Addr)} {tq : Pos -> Str} {K : Frag} (X : K.In s.heap) (h : (K.map (·.1)).all (fun a => !(tabs.map (·.2)).contains a) = true) : KIn (mkC p w s tabs tq) K := ⟨fun a o e => by
 have hm := List.all_eq_true.mp h a (Iy e)
 have hn : a ∉ tabs.map (·.2) := fun q => by
  rw [List.contains_iff_mem.mpr q] at hm; cases hm
 show (if _ then _ else _) = _
 rw [if_neg hn]; exact X a o e⟩
section
variable {C : Cx} {K : Frag}
theorem KIn.o (X : KIn C K) {a : Addr} (h : (K.lookup a).isSome = true) : C.P0 a = some (oAt K a) := by
 unfold oAt
 cases q : K.lookup a with
 | none => rw [q] at h; cases h
 | some o => exact X.at_ a o q
theorem KIn.in_ (X : KIn C K) {h : Heap} (k : ∀ b o, C.P0 b = some o -> h.get? b = some o) : K.In h := fun a o e => k _ _ (X.at_ a o e)
theorem zu (X : KIn C K) (a c : Addr) (body : List Stmt) (h0 : (K.lookup a).isSome = true) (h1 : (oAt K a).data = .func (c7 K a)) (hb : (c7 K a).body = .stmts body) (hcl : (c7 K a).closure = []) (hg : (c7 K a).globals = mainGlobals) (hbi : (c7 K a).builtins = builtinsNs)
  (hco : (c7 K a).scope.isCoroutine = false) (hge : (c7 K a).scope.isGenerator = false) (hc : (c7 K a).code = .ref c) (h2 : (K.lookup c).isSome = true) (h3 : (oAt K c).data = .fields (Kx K c)) (h4 : (Kx K c)[1]? = some (.str (c7 K a).qualname (Nr K c))) : zh C (.ref a) (c7 K a) body :=
 ⟨⟨a, _, rfl, X.o h0, h1⟩, hb, hcl, hg, hbi, ⟨c, _, _, _, hc, X.o h2, h3, h4⟩, hco, hge⟩
end
structure NsG (C : Cx) (K : Frag) (mg mb : Str -> Option Value) : Prop where
 g : ∀ h : Heap, (∀ b o, C.P0 b = some o -> h.get? b = some o) -> h.Ns mainGlobals mg
 b : ∀ h : Heap, (∀ b o, C.P0 b = some o -> h.get? b = some o) -> h.Ns builtinsNs mb
 builtins : ∀ x : Str, x ≠ "__name__" -> mb x = bootBuiltins x
 get : ∀ x v, nsIn K mainGlobals x = some (some v) -> mg x = some v
 no : ∀ x, nsIn K mainGlobals x = some none -> mg x = none
section
variable {C : Cx} {K : Frag} {mg mb : Str -> Option Value}
theorem NsG.user (N : NsG C K mg mb) {x : Str} {v : Value} (e : nsIn K mainGlobals x = some (some v)) : ag C x v := fun h k => .inl ⟨mg, N.g h k, N.get x v e⟩
theorem NsG.boot (N : NsG C K mg mb) {x : Str} {v : Value} (e : nsIn K mainGlobals x = some none) (hn : x ≠ "__name__") (hv : bootBuiltins x = some v) : ag C x v := fun h k => .inr ⟨mg, mb, N.g h k, N.no x e, N.b h k, (N.builtins x hn).trans hv⟩
end
theorem zl {h h' : Heap} {a : Addr} {m : Str -> Option Value} (n : h.Ns a m) (k : ∀ o, h.get? a = some o -> h'.get? a = some o) : h'.Ns a m := let ⟨o, es, ep, e, r⟩ := n; ⟨o, es, ep, k o e, r⟩
theorem qc {p : Program} {w : World} {s : Shared} {tabs : List (Addr × Addr)} {tq : Pos -> Str} {h : Heap} {a : Addr} {o : Obj} (hn : a ∉ tabs.map (·.2)) (k : ∀ b o, (mkC p w s tabs tq).P0 b = some o -> h.get? b = some o) (e : s.heap.get? a = some o) : h.get? a = some o := k a o (by
 show (if _ then _ else _) = _
 rw [if_neg hn]; exact e)
theorem N7 {p q : Program} {loose : List Str} {mean : ExcName -> Option Value} {w : World} {s : Shared} {tabs : List (Addr × Addr)} {tq : Pos -> Str} {K : Frag} {mg mb : Str -> Option Value} (X : K.In s.heap) (T : Top q loose mean mg mb s.heap)
  (h3 : mainGlobals ∉ tabs.map (·.2)) (h0 : builtinsNs ∉ tabs.map (·.2)) : NsG (mkC p w s tabs tq) K mg mb where
 g := fun h k => zl T.g fun o e => qc h3 k e
 b := fun h k => zl T.b fun o e => qc h0 k e
 builtins := T.builtins
 get := fun x v e => mg_of X T.g e
 no := fun x e => mg_none_of X T.g e
theorem Jp {p q : Program} {loose : List Str} {mean : ExcName -> Option Value} {w : World} {s : Shared} {tabs : List (Addr × Addr)} {tq : Pos -> Str} {mg mb : Str -> Option Value} (T : Top q loose mean mg mb s.heap) (h3 : cStatics ∉ tabs.map (·.2)) : ci (mkC p w s tabs tq) := fun h k =>
 T.nolimit.at fun o e => qc h3 k e
theorem Ch {p q : Program} {loose : List Str} {mean : ExcName -> Option Value} {w : World} {s : Shared} {tabs : List (Addr × Addr)} {tq : Pos -> Str} {K : Frag} {mg mb : Str -> Option Value} (X : K.In s.heap) (XC : KIn (mkC p w s tabs tq) K) (T : Top q loose mean mg mb s.heap) {c P bm : Addr} (hm : (c, P) ∈ tabs)
  (h3 : mainGlobals ∉ tabs.map (·.2)) (hcd : codeHdIn K c P = true) (hbm : nsIn K mainGlobals "__builtins__" = some (some (.ref bm))) (hb : bm ∉ tabs.map (·.2)) (hb3 : bm ≠ mainGlobals) : l6 (mkC p w s tabs tq) (.ref c) P where
 mem := List.mem_map_of_mem hm
 code := ⟨c, rfl, fun h k => codeHd_of_K (XC.in_ k) hcd⟩
 main := fun h k => by
  refine byC fun hC1 => ?_
  obtain ⟨bm', ob, e1, e2, e3, e4, e5, e6⟩ := T.bmain
  refine hC1 ?_
  have e := mg_of X T.g hbm
  rw [e] at e1; cases e1
  have hP : ∀ a, a ∉ tabs.map (·.2) -> a ≠ P := fun a ha q => ha (q ▸ List.mem_map_of_mem hm)
  exact ⟨mg, zl T.g fun o e => qc h3 k e, hP _ h3, bm, ob, e, e2, hb3, hP _ hb, qc hb k e3, e4, e5, e6⟩
theorem Lf {p : Program} {w : World} {s : Shared} {tabs : List (Addr × Addr)} {tq : Pos -> Str} (hT : TabsAt tabs s.heap) (hg : s.gens = #[]) : ph (mkC p w s tabs tq) (mkC p w s tabs tq).P0 s where
 prog := Kle.refl _
 keep := fun b o e => by
  have e : (if b ∈ tabs.map (·.2) then none else s.heap.get? b) = some o := e
  split at e
  ·cases e
  ·exact e
 tabs := fun P hP => by
  refine byC fun hC1 => ?_
  obtain ⟨q, hq, rfl⟩ := List.mem_map.mp hP
  refine hC1 ?_
  refine ⟨⟨#[], (hT q hq).2, ?_, fun pos cv e => ?_⟩, ?_⟩
  ·trivial
  ·cases e
  ·show (if _ then _ else _) = _
   exact if_pos hP
 gens := hg
 os := rfl
theorem Ba {cw : ClaimW} {cl : Str -> Option Addr} {mean : ExcName -> Option Value} {args : List WData} {s₁ s' : Shared} {tabs : List (Addr × Addr)} (hT : TabsAt tabs s₁.heap) (hr : ∀ a x, cw.raises a x = false) (hp : cw.post args (.bool true) args = true)
  (keep : ∀ b o, b ∉ tabs.map (·.2) -> s₁.heap.get? b = some o -> s'.heap.get? b = some o) (hgr : ∀ q ∈ tabs, GrownAt q.2 s'.heap) (hos : s'.os = s₁.os) (hg : s'.gens = #[]) : GoodWG cw cl mean args s₁ (.ok (.ret (.bool true))) s' := by
 have grown : ∀ b o, b ∈ tabs.map (·.2) -> s₁.heap.get? b = some o -> isCodeTable s₁.heap b /\ o = tabObj #[] /\ ∃ ps, s'.heap.get? b = some (tabObj ps) := fun b o hb e => by
  obtain ⟨q, hq, rfl⟩ := List.mem_map.mp hb
  have e2 := (hT q hq).2
  rw [e] at e2
  exact ⟨((hT q hq).1.tab (hT q hq).2).isCodeTable, Option.some.inj e2, hgr q hq⟩
 refine ⟨.inl ⟨.bool true, .bool true, [], rfl, hr args, .bool true, hp, fun _ => ⟨.nil, fun _ ha => nomatch ha⟩⟩, ⟨fun b o e => ?_, fun b o e => ?_⟩, hos, .of_eq hg⟩
 ·by_cases hb : b ∈ tabs.map (·.2)
  ·obtain ⟨ht, rfl, ps, hP⟩ := grown b o hb e
   exact .inr (.inl ⟨ht, rfl, #[], ps, rfl, by rw [Array.empty_append]; exact hP⟩)
  ·exact .inl (keep b o hb e)
 ·by_cases hb : b ∈ tabs.map (·.2)
  ·obtain ⟨_, _, ps, hP⟩ := grown b o hb e
   exact ⟨_, hP⟩
  ·exact ⟨o, keep b o hb e⟩
theorem H2 {C : Cx} {A : Around} {E : Value -> Shared -> Prop} {κ : Kp} {s : Shared} {f : Value} {fd : FuncData} {body : List Stmt} {n : Nat} {x : Str} {a : AV} {v : Value} (F : zh C f fd body) (hl : ci C) (ok : ew fd.scope) (hcn : ((cellsFrom 1 fd.scope.names []).map (·.1)).Nodup)
  (hbind : ∀ v, bindArgs fd ⟨[v], []⟩ = pure [(x, v)])
  (run : ∀ G A', bu C A' G ⟨fd.scope, 0, cellsFrom 1 fd.scope.names [], fd.code, fd.qualname ++ ".<locals>."⟩ [(x, a)] ([.ns (fd.scope.names.map (·.1)) (List.replicate fd.scope.names.length none)] ++ List.replicate (ar fd.scope.names) (.cell none))
   fun st0 => ∀ E, G.env.scope.kind = .function -> gy C (A.deeper G.env) (G.at E) ⟨fd.scope, 0, cellsFrom 1 fd.scope.names [], fd.code, fd.qualname ++ ".<locals>."⟩ st0 body (pv fun d => d = .bool true))
  (hA : AOk A (n + 1)) (B : ph C κ s) (ra : RVL κ [] [a] [v]) : wpK (model C.prog C.w) A (call f [v]) (wi C κ s fun d => d = .bool true) E s := by
 refine byC fun hC1 => ?_
 obtain ⟨b, o, rfl, ha, hd⟩ := F.at_
 refine hC1 ?_
 have hp0 : ∀ b o, C.P0 b = some o -> s.heap.get? b = some o := fun b o e => B.keep _ _ (B.prog _ _ e)
 have hs := hp0 _ _ ha
 refine K.call (fj (by have := hA.depth; rw [recursionLimit]; omega) hs hd F.co F.gen F.body (F.code.rec hp0) ?_)
 rw [hbind]
 refine wpAny_pure ?_
 rw [F.closure]
 refine ik (bs := [(x, a)]) (Q' := fun env st0 => ∀ E, env.scope.kind = .function -> gy C (A.deeper env) ((⟨(jn C s), κ, env, fun _ _ => False⟩ : Gd).at E) ⟨fd.scope, 0, cellsFrom 1 fd.scope.names [], fd.code, fd.qualname ++ ".<locals>."⟩ st0 body (pv fun d => d = .bool true)) (Rel.start B) CR.nil ok hcn (fun _ L0 => ⟨L0, rfl, rfl⟩) F.globals F.builtins rfl ra
  (fun env => ?_) fun κ' σ' st' env s' k p e ⟨cells, he⟩ X q => ?_
 ·exact run ⟨_, κ, env, _⟩ A.in1
 ·refine ⟨hl _ X.p0, oy ?_⟩
  refine K.mono (q (fun _ _ => False) e.kind κ' σ' s' e X) (fun fl s2 z => z.go fun κ2 σ2 f st2 k2 p2 X2 r2 q2 => ?_) fun _ _ z => z.elim
  have := Rel.finish (k.trans k2) X2 r2 q2
  cases fl <;> exact this
end Mine
end
section
open PySem PySem.Calls PyProof.Rows PySem.W PySem.SeqAt PyProof.V
open PySem.Sem (wp)
set_option maxRecDepth 100000
namespace Mine
section
variable {C : Cx} {A : Around} {G : Gd} {cd : Value} {ql : Str} {S : List Int} {Q : AF -> List ac -> Prop}
theorem d9.moreC {v : LV} {e1 e2 : List ac} {y : ac} (h : d9 v (e1 ++ y :: e2)) {x : ac} (hx : x.below (10 + (e1 ++ y :: e2).length)) : d9 v (e1 ++ y :: (e2 ++ [x])) := by
 have := h.more hx
 rwa [List.append_assoc, List.cons_append] at this
theorem Rb {v : LV} {e1 e2 : List ac} {y : ac} {n : Nat} (hA : AOk A (n + 3)) (hF : ∃ envL, A.frames = some [envL] /\ envL.scope.kind ≠ .module /\ envL.frame = G.env.frame) (gr : ag C "range" (.type "range")) {rf : Value} {p : Int} (R : vo C rf (d5 (dr S)) p) (hv : d9 v (e1 ++ y :: e2)) (h2 : v.two = some (.int (dr S))) (hp : v.port = some (.int p))
  (q : gy C A G (lae cd ql) (lst v (e1 ++ y :: (e2 ++ [.raw (ap 0 9)]))) [] Q) : wSK C A G (lae cd ql) (lst v (e1 ++ y :: e2)) (stm 21) Q := by
 refine s21 hA hF gr R hv h2 hp ?_
 rw [List.append_assoc, List.cons_append]
 exact q
set_option maxHeartbeats 400000 in
theorem H4 {n : Nat} (hA : AOk A (n + 8)) (hF : ∃ envL, A.frames = some [envL] /\ envL.scope.kind ≠ .module /\ envL.frame = G.env.frame) (g : D8 C cd ql S) (L : L7 S) (q : ∀ st, Q (.ret (.d (.bool true))) st) :
  gy C A G (lae cd ql) (lst { script := some (B3 S) } []) (cq PySem.Challenge.pw_wb0027_01 18) Q := by
 refine byC fun hC1 => ?_
 obtain ⟨nl, gr, gsu, gle, ghe, gen, ⟨fro, ROg⟩, ⟨fre, REg⟩, ⟨fpa, PAg⟩, ⟨fpo, POg⟩, ⟨fsu, SUg⟩, ⟨fpf, PFg⟩, ⟨dv, gd, hdv⟩, ⟨br, brd, BR, gbr⟩, ⟨bl, bld, BL, gbl⟩, ⟨frf, Reg⟩, ⟨flo, Lg⟩, ⟨P, lam⟩, tq1, tq2⟩ := g
 refine hC1 ?_
 have h0 := d9.nil S
 rw [Hl]
 refine ay (s0 (n := n + 8) hA gsu rfl L.len ?_)
 refine ay (s1 (n := n + 8) hA gsu rfl L.len ?_)
 refine ay (s2 (n := n + 8) hA gsu rfl L.len ?_)
 refine ay (s3 (n := n + 4) hA PFg L.k0 L.w0 ?_)
 refine ay (s4 (n := n + 8) hA gr gd hdv (h0.up rfl) rfl ?_)
 have h1 := h0.more (x := .raw (ap 0 10)) dh
 refine ay (s5 (n := n + 8) hA gr (h1.up rfl) rfl ?_)
 have h2 := h1.more (x := .raw (ap 10 32)) dh
 refine ay (s6 rfl rfl rfl ?_)
 refine ay (s7 rfl rfl ?_)
 refine ay (s8 (n := n + 4) hA PFg L.km rfl ?_)
 refine ay (s9 (n := n + 4) hA ROg (h2.up rfl) rfl rfl ?_)
 refine ay (s10 (n := n + 7) hA nl gle gen BL gbl (h2.up rfl) L.T rfl rfl ?_)
 refine ay (s11 (n := n + 8) hA gr (h2.up rfl) L.T.rlen L.plen rfl rfl L.Fr L.Fp fun a b => ?_)
 have h3 := h2.more (x := .raw (ap 1 32)) dh
 refine ay (s12 ghe rfl rfl L.hx ?_)
 refine ay (s13 (n := n + 8) hA gr (h3.up rfl) rfl rfl rfl rfl rfl L.same L.sh ?_)
 have h4 := h3.more (x := .raw (ap 0 32)) dh
 refine ay (s14 (n := n + 7) hA nl gle gen BR gbr (h4.up rfl) L.T rfl rfl rfl L.lr ?_)
 refine ay (s15 ?_)
 have h5 := h4.repliesUp (x := .list []) (fun a ha => nomatch ha)
 refine ay (s16 (n := n + 7) hA gen REg (h5.up rfl) L.T.len L.T.few L.small rfl rfl fun c d => ?_)
 refine B0 _ (ds := b6 (ey S)) z9 ?_
 rw [Fs]
 have h6 := h5.swap (y := .frz (.list (b6 (ey S)))) trivial
 refine ay (s17 (n := n + 3) (row := g9 S) (pl := gz S) hA nl gr gle BL gbl BR gbr POg REg SUg PAg PFg L.T L.plen L.reps L.pair (h6.up rfl) rfl rfl rfl rfl rfl rfl fun t1 t2 t3 t4 t5 t6 t7 t8 => ?_)
 refine ay (s18 (n := n + 8) hA gle L.T rfl rfl rfl ?_)
 refine ay (s19 (n := n + 4) hA nl gle BL gbl POg P lam tq1 L.T L.reps rfl rfl rfl rfl L.bl ?_)
 refine ay (s20 (n := n + 4) hA nl gle BR gbr POg P lam tq2 L.T L.reps rfl rfl rfl rfl L.br ?_)
 refine e9 (Rb (n := n + 5) hA hF gr Reg ((h6.moreC (e2 := []) (x := .raw (ap 0 2)) dh).up rfl) rfl rfl ?_)
 refine WK.of (am ?_)
 refine e9 (s22 (n := n + 5) hA hF Lg rfl ?_)
 exact q _
end
end Mine
end
section
open PySem PySem.W PySem.Calls PyProof.Rows
namespace Mine
noncomputable abbrev hpS (x : Str) (t : Nat) : Value := .str x t
noncomputable abbrev hpE (P : Params) (x : Str) (t : Nat) (v : Value) : DictEntry := ⟨PyData.keyHash P x, .str x t, v⟩
noncomputable abbrev hpF (k : Nat) (m : Str) (t : Nat) (d kd c : Value) : Obj := { cls := .type "function", data := .func { name := It PySem.Challenge.pw_wb0027_01 k, qualname := It PySem.Challenge.pw_wb0027_01 k, params := fq PySem.Challenge.pw_wb0027_01 k, body := .stmts (cq PySem.Challenge.pw_wb0027_01 k), scope := aq PySem.Challenge.pw_wb0027_01 k, globals := 3, closure := [], defaults := d, kwdefaults := kd, pyModule := .str m t, code := c } }
noncomputable def Cy (P : Params) : Frag := [
 (2, { cls := .none, data := .dict #[hpE P "type.__subclasses__.Exception.0" 278 (.int 50 0), hpE P "type.__subclasses__.Exception.n" 279 (.int 1 0)] 2 }),
 (3, { cls := .type "dict", data := .dict #[hpE P "__name__" 165 (hpS "law_wb0027_01" 327), hpE P "__doc__" 166 (.none), hpE P "__package__" 167 (.none), hpE P "__loader__" 168 (.builtin "__main__.__loader__#opaque"), hpE P "__spec__" 169 (.none), hpE P "__annotations__" 170 (.ref 6), hpE P "__builtins__" 171 (.ref 4), hpE P "__file__" 173 (hpS "/claim/cut.py" 172), hpE P "__cached__" 174 (.none), hpE P "COMPILER_FLAG_NAMES" 219 (.ref 15), hpE P "pretty_flags" 229 (.ref 22), hpE P "bisect_right" 245 (.ref 31), hpE P "bisect_left" 259 (.ref 40), hpE P "Error" 281 (.ref 50), hpE P "error_reply" 297 (.ref 63), hpE P "error_proto" 313 (.ref 75), hpE P "parse229" 326 (.ref 84), hpE P "_law_reply" 337 (.ref 91), hpE P "_law_port" 344 (.ref 98), hpE P "_law_refused" 356 (.ref 105), hpE P "_law_low_refused" 365 (.ref 112), hpE P "_law_rows" 371 (.ref 117), hpE P "_law_sum" 377 (.ref 122), hpE P "law" 383 (.ref 127)] 24 }),
 (15, { cls := .type "dict", data := .dict #[{ hash := 1, key := .int 1 189, val := hpS "OPTIMIZED" 190 }, { hash := 2, key := .int 2 191, val := hpS "NEWLOCALS" 192 }, { hash := 4, key := .int 4 193, val := hpS "VARARGS" 194 }, { hash := 8, key := .int 8 195, val := hpS "VARKEYWORDS" 196 }, { hash := 16, key := .int 16 197, val := hpS "NESTED" 198 }, { hash := 32, key := .int 32 199, val := hpS "GENERATOR" 200 }, { hash := 64, key := .int 64 201, val := hpS "NOFREE" 202 }, { hash := 128, key := .int 128 203, val := hpS "COROUTINE" 204 }, { hash := 256, key := .int 256 205, val := hpS "ITERABLE_COROUTINE" 206 }, { hash := 512, key := .int 512 207, val := hpS "ASYNC_GENERATOR" 208 }] 10 }),
 (21, { cls := .type "code", data := .fields #[hpS "pretty_flags" 220, hpS "pretty_flags" 221, hpS "/claim/cut.py" 222, .int 3 0, .int 1 0, .int 0 0, .int 0 0, .int 3 0, .ref 16, .bool Bool.true, .int 181 0, .ref 17, .none, .ref 18, .ref 19, .ref 20, .int 227 0, .int 3 0, hpS "/claim/cut.py" 228] }),
 (22, hpF 2 "cpy313.dis" 187 (.none) (.none) (.ref 21)),
 (23, { cls := .type "tuple", data := .seq #[.int 0 232, .none] }),
 (24, { cls := .type "dict", data := .dict #[hpE P "key" 233 (.none)] 1 }),
 (30, { cls := .type "code", data := .fields #[hpS "bisect_right" 234, hpS "bisect_right" 235, hpS "/claim/cut.py" 236, .int 16 0, .int 4 0, .int 0 0, .int 1 0, .int 3 0, .ref 25, .bool Bool.true, .int 181 0, .ref 26, .none, .ref 27, .ref 28, .ref 29, .int 243 0, .int 16 0, hpS "/claim/cut.py" 244] }),
 (31, hpF 4 "cpy313.bisect" 230 (.ref 23) (.ref 24) (.ref 30)),
 (32, { cls := .type "tuple", data := .seq #[.int 0 246, .none] }),
 (33, { cls := .type "dict", data := .dict #[hpE P "key" 247 (.none)] 1 }),
 (39, { cls := .type "code", data := .fields #[hpS "bisect_left" 248, hpS "bisect_left" 249, hpS "/claim/cut.py" 250, .int 36 0, .int 4 0, .int 0 0, .int 1 0, .int 3 0, .ref 34, .bool Bool.true, .int 181 0, .ref 35, .none, .ref 36, .ref 37, .ref 38, .int 257 0, .int 36 0, hpS "/claim/cut.py" 258] }),
 (40, hpF 5 "cpy313.bisect" 230 (.ref 32) (.ref 33) (.ref 39)),
 (49, { cls := .type "dict", data := .dict #[hpE P "__module__" 269 (hpS "cpy313.ftplib" 260), hpE P "__firstlineno__" 273 (.int 57 272), hpE P "__static_attributes__" 274 (.ref 48), hpE P "__weakref__" 276 (.ref 51), hpE P "__doc__" 277 (.none)] 3 }),
 (50, { cls := .type "type", data := .cls { name := "Error", bases := [.type "Exception"], mro := [.ref 50, .type "Exception", .type "BaseException", .type "object"], ns := 49, qualname := "Error", subclasses := [.ref 63, .ref 75] }, slots := #[Option.some (.ref 41), Option.none, Option.some (hpS "Error" 262), Option.some (hpS "Error" 270), Option.some (.builtin "Exception.__new__"), Option.some (.bool Bool.true)] }),
 (62, { cls := .type "dict", data := .dict #[hpE P "__module__" 289 (hpS "cpy313.ftplib" 260), hpE P "__firstlineno__" 293 (.int 59 292), hpE P "__static_attributes__" 294 (.ref 61), hpE P "__doc__" 295 (.none)] 2 }),
 (63, { cls := .type "type", data := .cls { name := "error_reply", bases := [.ref 50], mro := [.ref 63, .ref 50, .type "Exception", .type "BaseException", .type "object"], ns := 62, qualname := "error_reply" }, slots := #[Option.some (.ref 54), Option.none, Option.some (hpS "error_reply" 282), Option.some (hpS "error_reply" 290), Option.some (.builtin "Exception.__new__"), Option.some (.bool Bool.true)] }),
 (74, { cls := .type "dict", data := .dict #[hpE P "__module__" 305 (hpS "cpy313.ftplib" 260), hpE P "__firstlineno__" 309 (.int 61 308), hpE P "__static_attributes__" 310 (.ref 73), hpE P "__doc__" 311 (.none)] 2 }),
 (75, { cls := .type "type", data := .cls { name := "error_proto", bases := [.ref 50], mro := [.ref 75, .ref 50, .type "Exception", .type "BaseException", .type "object"], ns := 74, qualname := "error_proto" }, slots := #[Option.some (.ref 66), Option.none, Option.some (hpS "error_proto" 298), Option.some (hpS "error_proto" 306), Option.some (.builtin "Exception.__new__"), Option.some (.bool Bool.true)] }),
 (83, { cls := .type "code", data := .fields #[hpS "parse229" 314, hpS "parse229" 315, hpS "/claim/cut.py" 316, .int 63 0, .int 2 0, .int 0 0, .int 0 0, .int 3 0, .ref 78, .bool Bool.true, .int 181 0, .ref 79, .none, .ref 80, .ref 81, .ref 82, .int 324 0, .int 63 0, hpS "/claim/cut.py" 325] }),
 (84, hpF 10 "cpy313.ftplib" 260 (.none) (.none) (.ref 83)),
 (90, { cls := .type "code", data := .fields #[hpS "_law_reply" 329, hpS "_law_reply" 330, hpS "/claim/cut.py" 331, .int 81 0, .int 2 0, .int 0 0, .int 0 0, .int 3 0, .ref 85, .bool Bool.true, .int 181 0, .ref 86, .none, .ref 87, .ref 88, .ref 89, .int 335 0, .int 81 0, hpS "/claim/cut.py" 336] }),
 (91, hpF 12 "law_wb0027_01" 327 (.none) (.none) (.ref 90)),
 (97, { cls := .type "code", data := .fields #[hpS "_law_port" 338, hpS "_law_port" 339, hpS "/claim/cut.py" 340, .int 84 0, .int 1 0, .int 0 0, .int 0 0, .int 3 0, .ref 92, .bool Bool.true, .int 181 0, .ref 93, .none, .ref 94, .ref 95, .ref 96, .int 342 0, .int 84 0, hpS "/claim/cut.py" 343] }),
 (98, hpF 13 "law_wb0027_01" 327 (.none) (.none) (.ref 97)),
 (104, { cls := .type "code", data := .fields #[hpS "_law_refused" 345, hpS "_law_refused" 346, hpS "/claim/cut.py" 347, .int 86 0, .int 3 0, .int 0 0, .int 0 0, .int 3 0, .ref 99, .bool Bool.true, .int 181 0, .ref 100, .none, .ref 101, .ref 102, .ref 103, .int 354 0, .int 86 0, hpS "/claim/cut.py" 355] }),
 (105, hpF 14 "law_wb0027_01" 327 (.none) (.none) (.ref 104)),
 (111, { cls := .type "code", data := .fields #[hpS "_law_low_refused" 357, hpS "_law_low_refused" 358, hpS "/claim/cut.py" 359, .int 100 0, .int 2 0, .int 0 0, .int 0 0, .int 3 0, .ref 106, .bool Bool.true, .int 181 0, .ref 107, .none, .ref 108, .ref 109, .ref 110, .int 363 0, .int 100 0, hpS "/claim/cut.py" 364] }),
 (112, hpF 15 "law_wb0027_01" 327 (.none) (.none) (.ref 111)),
 (116, { cls := .type "code", data := .fields #[hpS "_law_rows" 366, hpS "_law_rows" 367, hpS "/claim/cut.py" 368, .int 109 0, .int 1 0, .int 0 0, .int 0 0, .int 3 0, .ref 113, .bool Bool.true, .int 181 0, .ref 114, .none, .none, .none, .ref 115, .int 369 0, .int 109 0, hpS "/claim/cut.py" 370] }),
 (117, hpF 16 "law_wb0027_01" 327 (.none) (.none) (.ref 116)),
 (121, { cls := .type "code", data := .fields #[hpS "_law_sum" 372, hpS "_law_sum" 373, hpS "/claim/cut.py" 374, .int 120 0, .int 3 0, .int 0 0, .int 0 0, .int 3 0, .ref 118, .bool Bool.true, .int 181 0, .ref 119, .none, .none, .none, .ref 120, .int 375 0, .int 120 0, hpS "/claim/cut.py" 376] }),
 (122, hpF 17 "law_wb0027_01" 327 (.none) (.none) (.ref 121)),
 (126, { cls := .type "code", data := .fields #[hpS "law" 378, hpS "law" 379, hpS "/claim/cut.py" 380, .int 124 0, .int 1 0, .int 0 0, .int 0 0, .int 3 0, .ref 123, .bool Bool.true, .int 181 0, .ref 124, .none, .none, .none, .ref 125, .int 381 0, .int 124 0, hpS "/claim/cut.py" 382] }),
 (127, hpF 18 "law_wb0027_01" 327 (.none) (.none) (.ref 126))]
end Mine
end
section
set_option maxRecDepth 100000
open PySem PySem.W PyProof.Rows
namespace Mine
/- the head, in one run of the kernel -/
noncomputable abbrev Bm : Program := PySem.Challenge.pw_wb0027_01
noncomputable def q01 : Program := { Bm with main := { Bm.main with body := (Bm.main.body[18]?).toList } }
noncomputable def y5 : List Str := ["COMPILER_FLAG_NAMES", "pretty_flags", "bisect_right", "bisect_left", "Error", "error_reply", "error_proto", "parse229", "_law_reply", "_law_port", "_law_refused", "_law_low_refused", "_law_rows", "_law_sum"]
noncomputable def Ra : List Addr := [2, 3, 15, 21, 22, 23, 24, 30, 31, 32, 33, 39, 40, 49, 50, 62, 63, 74, 75, 83, 84, 90, 91, 97, 98, 104, 105, 111, 112, 116, 117, 121, 122, 126, 127]
noncomputable def Qc (p : Program) (k : Nat) : Pos := match p.main.body[k]? with | some (Stmt.FunctionDef _ _ _ _ _ _ _ _ _ q) => q | _ => ⟨0, 0, 0, 0⟩
noncomputable def d01 : DefRec := { name := "law", params := fq Bm 18, body := cq Bm 18, scope := aq Bm 18, pos := Qc Bm 18 }
noncomputable def m7 : Hook := kmHook Cy Ra (fun _ => by kernel_rfl) [114, 124]
theorem Ov : LeftO Bm q01 y5 (fun s => xlAt q01 [] s && recOk PySem.Challenge.rw_wb0027_01.row.toRowW.records s) m7.obs m7.val 2500 := LeftO.of_split "special-get-raises" fun w => by kernel_rfl
theorem Os : PySem.Challenge.rw_wb0027_01.wellSaid = true := by kernel_rfl
theorem Ox : PySem.Challenge.rw_wb0027_01.row.toRowW.promised := by w_witness2
theorem Q3 (call : Jh q01 y5 (XL q01 []) m7.says PySem.Challenge.rw_wb0027_01.row.toRowW d01 []) : PySem.Challenge.rw_wb0027_01.Holds :=
 holds_law Os fun said => Dr (q := q01) (loose := y5) (Xt := fun s => xlAt q01 [] s && recOk PySem.Challenge.rw_wb0027_01.row.toRowW.records s) (XP := XL q01 []) (Yf := m7.obs) (Ya := m7.val) (YP := m7.says) (N := 2500)
  Ov m7.of m7.keeps (fun s e => xl_of s (Bool.and_eq_true_iff.mp e).1) XL.keeps (by kernel_rfl) (by kernel_rfl) (by kernel_rfl) (fun s e => recFacts_of (Bool.and_eq_true_iff.mp e).2) (by kernel_rfl) said (by decide +kernel) ⟨rfl, rfl, rfl, rfl, rfl, by decide +kernel⟩ Ox call
end Mine
end
section
set_option maxRecDepth 100000
open PySem PySem.W PySem.Calls PyProof.Rows PyProof.V PySem.SeqAt
namespace Mine
noncomputable def ki : List (Addr × Addr) := [(116, 114), (126, 124)]
noncomputable def rh (p : Pos) : Str := if (((161 : Nat) : Int) == p.line) = true then ("law" ++ ".<locals>.") ++ "<lambda>" else if (((163 : Nat) : Int) == p.line) = true then ("law" ++ ".<locals>.") ++ "<lambda>" else ("_law_rows" ++ ".<locals>.") ++ "<lambda>"
noncomputable abbrev K01 (w : World) : Frag := Cy w.params
theorem gn {C : Cx} {K : Frag} (X : KIn C K) (k : Nat) (a c : Addr) (h0 : (K.lookup a).isSome = true) (h1 : (oAt K a).data = .func (c7 K a)) (hb : (c7 K a).body = .stmts (cq PySem.Challenge.pw_wb0027_01 k)) (hcl : (c7 K a).closure = []) (hg : (c7 K a).globals = mainGlobals) (hbi : (c7 K a).builtins = builtinsNs)
  (hco : (c7 K a).scope.isCoroutine = false) (hge : (c7 K a).scope.isGenerator = false) (hc : (c7 K a).code = .ref c) (h2 : (K.lookup c).isSome = true) (h3 : (oAt K c).data = .fields (Kx K c)) (h4 : (Kx K c)[1]? = some (.str (c7 K a).qualname (Nr K c)))
  (hs : (c7 K a).scope = aq PySem.Challenge.pw_wb0027_01 k) (hp : (c7 K a).params = fq PySem.Challenge.pw_wb0027_01 k) (hd : (c7 K a).defaults = .none) (hk : (c7 K a).kwdefaults = .none) : cg C k (.ref a) (c7 K a) :=
 ⟨zu X a c _ h0 h1 hb hcl hg hbi hco hge hc h2 h3 h4, hs, hp, hd, hk⟩
section
variable {C : Cx} {w : World} {mg mb : Str -> Option Value}
theorem Ix (X : KIn C (K01 w)) : cg C 2 (.ref 22) (c7 (K01 w) 22) := gn X 2 22 21 (by kernel_rfl) (by kernel_rfl) (by kernel_rfl) (by kernel_rfl) (by kernel_rfl) (by kernel_rfl) (by kernel_rfl) (by kernel_rfl) (by kernel_rfl) (by kernel_rfl) (by kernel_rfl) (by kernel_rfl) (by kernel_rfl) (by kernel_rfl) (by kernel_rfl) (by kernel_rfl)
theorem F6 (X : KIn C (K01 w)) : cg C 10 (.ref 84) (c7 (K01 w) 84) := gn X 10 84 83 (by kernel_rfl) (by kernel_rfl) (by kernel_rfl) (by kernel_rfl) (by kernel_rfl) (by kernel_rfl) (by kernel_rfl) (by kernel_rfl) (by kernel_rfl) (by kernel_rfl) (by kernel_rfl) (by kernel_rfl) (by kernel_rfl) (by kernel_rfl) (by kernel_rfl) (by kernel_rfl)
theorem L6 (X : KIn C (K01 w)) : cg C 12 (.ref 91) (c7 (K01 w) 91) := gn X 12 91 90 (by kernel_rfl) (by kernel_rfl) (by kernel_rfl) (by kernel_rfl) (by kernel_rfl) (by kernel_rfl) (by kernel_rfl) (by kernel_rfl) (by kernel_rfl) (by kernel_rfl) (by kernel_rfl) (by kernel_rfl) (by kernel_rfl) (by kernel_rfl) (by kernel_rfl) (by kernel_rfl)
theorem N4 (X : KIn C (K01 w)) : cg C 13 (.ref 98) (c7 (K01 w) 98) := gn X 13 98 97 (by kernel_rfl) (by kernel_rfl) (by kernel_rfl) (by kernel_rfl) (by kernel_rfl) (by kernel_rfl) (by kernel_rfl) (by kernel_rfl) (by kernel_rfl) (by kernel_rfl) (by kernel_rfl) (by kernel_rfl) (by kernel_rfl) (by kernel_rfl) (by kernel_rfl) (by kernel_rfl)
theorem Ht (X : KIn C (K01 w)) : cg C 14 (.ref 105) (c7 (K01 w) 105) := gn X 14 105 104 (by kernel_rfl) (by kernel_rfl) (by kernel_rfl) (by kernel_rfl) (by kernel_rfl) (by kernel_rfl) (by kernel_rfl) (by kernel_rfl) (by kernel_rfl) (by kernel_rfl) (by kernel_rfl) (by kernel_rfl) (by kernel_rfl) (by kernel_rfl) (by kernel_rfl) (by kernel_rfl)
theorem Qd (X : KIn C (K01 w)) : cg C 15 (.ref 112) (c7 (K01 w) 112) := gn X 15 112 111 (by kernel_rfl) (by kernel_rfl) (by kernel_rfl) (by kernel_rfl) (by kernel_rfl) (by kernel_rfl) (by kernel_rfl) (by kernel_rfl) (by kernel_rfl) (by kernel_rfl) (by kernel_rfl) (by kernel_rfl) (by kernel_rfl) (by kernel_rfl) (by kernel_rfl) (by kernel_rfl)
theorem Ow (X : KIn C (K01 w)) : cg C 16 (.ref 117) (c7 (K01 w) 117) := gn X 16 117 116 (by kernel_rfl) (by kernel_rfl) (by kernel_rfl) (by kernel_rfl) (by kernel_rfl) (by kernel_rfl) (by kernel_rfl) (by kernel_rfl) (by kernel_rfl) (by kernel_rfl) (by kernel_rfl) (by kernel_rfl) (by kernel_rfl) (by kernel_rfl) (by kernel_rfl) (by kernel_rfl)
theorem Qx (X : KIn C (K01 w)) : cg C 17 (.ref 122) (c7 (K01 w) 122) := gn X 17 122 121 (by kernel_rfl) (by kernel_rfl) (by kernel_rfl) (by kernel_rfl) (by kernel_rfl) (by kernel_rfl) (by kernel_rfl) (by kernel_rfl) (by kernel_rfl) (by kernel_rfl) (by kernel_rfl) (by kernel_rfl) (by kernel_rfl) (by kernel_rfl) (by kernel_rfl) (by kernel_rfl)
theorem Qz (X : KIn C (K01 w)) : cg C 18 (.ref 127) (c7 (K01 w) 127) := gn X 18 127 126 (by kernel_rfl) (by kernel_rfl) (by kernel_rfl) (by kernel_rfl) (by kernel_rfl) (by kernel_rfl) (by kernel_rfl) (by kernel_rfl) (by kernel_rfl) (by kernel_rfl) (by kernel_rfl) (by kernel_rfl) (by kernel_rfl) (by kernel_rfl) (by kernel_rfl) (by kernel_rfl)
end
end Mine
end
section
set_option maxRecDepth 100000
open PySem PySem.W PySem.Calls PyProof.Rows PyProof.V PySem.SeqAt
namespace Mine
noncomputable def n9 (K : Frag) (a : Addr) : Array DictEntry := match (oAt K a).data with | .dict es _ => es | _ => #[]
noncomputable def K4 (K : Frag) (a : Addr) : Nat := match (oAt K a).data with | .dict _ n => n | _ => 0
noncomputable def oi (K : Frag) (a : Addr) : ClassData := match (oAt K a).data with | .cls cd => cd | _ => { name := "", bases := [], mro := [], ns := 0, qualname := "" }
noncomputable def Jt (K : Frag) (a i : Nat) : Option Value := (oAt K a).slots.getD i none
noncomputable def lc (es : Array DictEntry) : Bool := es.all fun e => match e.key with | .str _ _ => true | _ => false
theorem As {es : Array DictEntry} (h : lc es = true) : StrKeys es := fun e he => by
 unfold lc at h
 rw [Array.all_eq_true] at h
 obtain ⟨i, hi, q⟩ := Array.getElem_of_mem he
 have := h i hi
 rw [q] at this
 cases k : e.key with
 | str x t => exact ⟨x, t, rfl⟩
 | _ => rw [k] at this; cases this
section
variable {C : Cx} {K : Frag}
theorem KIn.get (X : KIn C K) {a : Addr} (h : (K.lookup a).isSome = true) {hp : Heap} (k : ∀ b o, C.P0 b = some o -> hp.get? b = some o) : hp.get? a = some (oAt K a) := k _ _ (X.o h)
theorem KIn.ns (X : KIn C K) {a : Addr} (h : (K.lookup a).isSome = true) (h1 : (oAt K a).data = .dict (n9 K a) (K4 K a)) (h2 : lc (n9 K a) = true) {hp : Heap} (k : ∀ b o, C.P0 b = some o -> hp.get? b = some o) : hp.Ns a (nsFind (n9 K a)) :=
 ⟨_, _, _, X.get h k, h1, As h2, fun _ => rfl⟩
theorem D2 (X : KIn C K) {d : Addr} {T : List (PyData × PyData)} (h : (K.lookup d).isSome = true) (h1 : oAt K d = { cls := .type "dict", data := .dict (n9 K d) (K4 K d) }) (h2 : entriesAreInt (n9 K d).toList T = true) (h3 : keysApartInt T = true) (h4 : (d == sysModules) = false) : je C (.ref d) T :=
 ⟨d, rfl, fun hp k => by
  have ho := X.get h k
  rw [h1] at ho
  refine byC fun hC1 => ?_
  obtain ⟨kvs, p, f, ks⟩ := entries_spec (prog := C.prog) (w := C.w) h2
  refine hC1 ?_
  exact ⟨⟨h4, kvs, ⟨_, _, _, ho, ⟨rfl, rfl, rfl⟩, rfl, fun e he => ks e (by simpa using he), p, nodup_of_apart f h3⟩, f⟩, _, ho, rfl, rfl⟩⟩
structure A1 (K : Frag) (R N E M : Addr) : Prop where
 r : (K.lookup R).isSome = true
 ro : oAt K R = excClassObj (oi K R).name (oi K R).qualname R N (oi K R).bases (.ref E :: gm) (oi K R).hasDict (oi K R).slotNames (oi K R).subclasses (oi K R).abstract (oi K R).collection (oAt K R).dict (Jt K R 0) (Jt K R 1) (Jt K R 2) (Jt K R 3) (Jt K R 5) "Exception.__new__"
 n : (K.lookup N).isSome = true
 nd : (oAt K N).data = .dict (n9 K N) (K4 K N)
 nk : lc (n9 K N) = true
 ni : nsFind (n9 K N) "__init__" = none
 nstr : nsFind (n9 K N) "__str__" = none
 e : (K.lookup E).isSome = true
 eo : oAt K E = { cls := (oAt K E).cls, dict := (oAt K E).dict, data := .cls (oi K E), slots := (oAt K E).slots }
 en : (oi K E).ns = M
 m : (K.lookup M).isSome = true
 md : (oAt K M).data = .dict (n9 K M) (K4 K M)
 mk_ : lc (n9 K M) = true
 mi : nsFind (n9 K M) "__init__" = none
 mstr : nsFind (n9 K M) "__str__" = none
theorem yi (X : KIn C K) {R N E M : Addr} (O : A1 K R N E M) : ta C R :=
 ⟨_, _, N, _, (.ref E :: gm), _, _, _, _, _, _, _, _, _, _, _, _, _, gm, "Exception", _, _, "Exception", _, _, O.ni, by rfl, PySem.F.excBase_Exception, by rfl, PySem.F.excBase_Exception, fun h k => by
  have hr := X.get O.r k
  rw [O.ro] at hr
  have he := X.get O.e k
  rw [O.eo] at he
  refine ⟨hr, X.ns O.n O.nd O.nk k, .own he ?_ O.mi .base⟩
  rw [O.en]; exact X.ns O.m O.md O.mk_ k⟩
theorem ya (X : KIn C K) {R N E M : Addr} (O : A1 K R N E M) : Kw C R := fun h k => by
 have hr := X.get O.r k
 rw [O.ro] at hr
 have he := X.get O.e k
 rw [O.eo] at he
 refine ⟨_, _, _, _, _, _, _, _, _, _, _, _, _, _, _, _, _, hr, .own hr (X.ns O.n O.nd O.nk k) O.nstr (.own he ?_ O.mstr .base)⟩
 rw [O.en]; exact X.ns O.m O.md O.mk_ k
theorem gc (X : KIn C K) {R N E M : Addr} (O : A1 K R N E M) : z4 C R (.ref E :: gm) := ⟨by rfl, fun h k => by
 have hr := X.get O.r k
 rw [O.ro] at hr
 exact ⟨_, _, _, _, _, _, _, _, _, _, _, _, _, _, _, _, hr⟩⟩
end
section
variable {C : Cx} {w : World} {mg mb : Str -> Option Value}
theorem yf : A1 (K01 w) 63 62 50 49 := ⟨by kernel_rfl, by kernel_rfl, by kernel_rfl, by kernel_rfl, by kernel_rfl, by kernel_rfl, by kernel_rfl, by kernel_rfl, by kernel_rfl, by kernel_rfl, by kernel_rfl, by kernel_rfl, by kernel_rfl, by kernel_rfl, by kernel_rfl⟩
theorem yu : A1 (K01 w) 75 74 50 49 := ⟨by kernel_rfl, by kernel_rfl, by kernel_rfl, by kernel_rfl, by kernel_rfl, by kernel_rfl, by kernel_rfl, by kernel_rfl, by kernel_rfl, by kernel_rfl, by kernel_rfl, by kernel_rfl, by kernel_rfl, by kernel_rfl, by kernel_rfl⟩
theorem E9 (X : KIn C (K01 w)) : je C (.ref 15) fc := D2 X (by kernel_rfl) (by kernel_rfl) (by kernel_rfl) (by kernel_rfl) (by kernel_rfl)
theorem K7 (X : KIn C (K01 w)) (k : Nat) (a c T W : Addr) (t : Tok) (F : zh C (.ref a) (c7 (K01 w) a) (cq PySem.Challenge.pw_wb0027_01 k)) (hs : (c7 (K01 w) a).scope = aq PySem.Challenge.pw_wb0027_01 k) (hp : (c7 (K01 w) a).params = fq PySem.Challenge.pw_wb0027_01 k)
  (hd : (c7 (K01 w) a).defaults = .ref T) (hT : ((K01 w).lookup T).isSome = true) (hTd : (oAt (K01 w) T).data = .seq #[.int 0 t, .none] 0) (hk : (c7 (K01 w) a).kwdefaults = .ref W) (hW : ((K01 w).lookup W).isSome = true) (hWd : (oAt (K01 w) W).data = .dict (n9 (K01 w) W) (K4 (K01 w) W)) (hWk : lc (n9 (K01 w) W) = true) (hWn : nsFind (n9 (K01 w) W) "key" = some .none) : gk C k (.ref a) (c7 (K01 w) a) :=
 ⟨F, hs, hp, ⟨T, hd, fun h kp => ⟨_, _, _, X.get hT kp, hTd⟩⟩, ⟨W, hk, fun h kp => ⟨_, X.ns hW hWd hWk kp, hWn⟩⟩⟩
theorem Jq (X : KIn C (K01 w)) : gk C 4 (.ref 31) (c7 (K01 w) 31) := K7 X 4 31 30 23 24 232 (zu X 31 30 _ (by kernel_rfl) (by kernel_rfl) (by kernel_rfl) (by kernel_rfl) (by kernel_rfl) (by kernel_rfl) (by kernel_rfl) (by kernel_rfl) (by kernel_rfl) (by kernel_rfl) (by kernel_rfl) (by kernel_rfl)) (by kernel_rfl) (by kernel_rfl) (by kernel_rfl) (by kernel_rfl) (by kernel_rfl) (by kernel_rfl) (by kernel_rfl) (by kernel_rfl) (by kernel_rfl) (by kernel_rfl)
theorem D6 (X : KIn C (K01 w)) : gk C 5 (.ref 40) (c7 (K01 w) 40) := K7 X 5 40 39 32 33 246 (zu X 40 39 _ (by kernel_rfl) (by kernel_rfl) (by kernel_rfl) (by kernel_rfl) (by kernel_rfl) (by kernel_rfl) (by kernel_rfl) (by kernel_rfl) (by kernel_rfl) (by kernel_rfl) (by kernel_rfl) (by kernel_rfl)) (by kernel_rfl) (by kernel_rfl) (by kernel_rfl) (by kernel_rfl) (by kernel_rfl) (by kernel_rfl) (by kernel_rfl) (by kernel_rfl) (by kernel_rfl) (by kernel_rfl)
end
end Mine
end
section
set_option maxRecDepth 100000
open PySem PySem.W PySem.Calls PyProof.Rows PyProof.V PySem.SeqAt
namespace Mine
section
variable {C : Cx} {w : World} {mg mb : Str -> Option Value}
theorem Mb (X : KIn C (K01 w)) (N : NsG C (K01 w) mg mb) : P8 C 63 75 where
 g1 := N.user (by kernel_rfl)
 g2 := N.user (by kernel_rfl)
 gv := N.boot (by kernel_rfl) (by decide) (by kernel_rfl)
 m11 := fun m => by
  have h := sp (m := m) (gc X yf) (gc X yf)
  rwa [show (Value.ref 63 :: .ref 50 :: gm).contains (.ref 63) = true by kernel_rfl] at h
 m21 := fun m => by
  have h := sp (m := m) (gc X yu) (gc X yf)
  rwa [show (Value.ref 75 :: .ref 50 :: gm).contains (.ref 63) = false by kernel_rfl] at h
 m22 := fun m => by
  have h := sp (m := m) (gc X yu) (gc X yu)
  rwa [show (Value.ref 75 :: .ref 50 :: gm).contains (.ref 75) = true by kernel_rfl] at h
 mv1 := fun m => tj (gc X yf) (vg 63)
 mv2 := fun m => tj (gc X yu) (vg 75)
 s1 := Fg (ya X yf)
 s2 := Fg (ya X yu)
structure Dh (S : List Int) : Prop where
 ok : Ic (d5 (dr S)) (xt S (g9 S) (gz S) 1 : Int)
 small : (xt S (g9 S) (gz S) 1 : Int).natAbs <= 2 ^ 60
 len : (jr (xt S (g9 S) (gz S) 1 : Int)).length <= 1000
theorem Q8 {pos' : Pos} (h : (((115 : Nat) : Int) == pos'.line) = true) : rh pos' = ("_law_rows" ++ ".<locals>.") ++ "<lambda>" := by
 have h := eq_of_beq h
 unfold rh
 rw [if_neg, if_neg]
 ·rw [<- h]; decide
 ·rw [<- h]; decide
theorem Qo {pos' : Pos} (h : (((161 : Nat) : Int) == pos'.line) = true) : rh pos' = ("law" ++ ".<locals>.") ++ "<lambda>" := by
 unfold rh
 rw [if_pos h]
theorem Pu {pos' : Pos} (h : (((163 : Nat) : Int) == pos'.line) = true) : rh pos' = ("law" ++ ".<locals>.") ++ "<lambda>" := by
 unfold rh
 rw [if_pos h]
 split <;> rfl
theorem Hy (X : KIn C (K01 w)) (N : NsG C (K01 w) mg mb) (nl : ci C) (lamR : l6 C (.ref 116) 114) (lamL : l6 C (.ref 126) 124) (htq : C.tq = rh) {S : List Int} (R : Dh S) : D8 C (c7 (K01 w) 127).code ((c7 (K01 w) 127).qualname ++ ".<locals>.") S := by
 have gr : ag C "range" (.type "range") := N.boot (by kernel_rfl) (by decide) (by kernel_rfl)
 have gli : ag C "list" (.type "list") := N.boot (by kernel_rfl) (by decide) (by kernel_rfl)
 have gen : ag C "enumerate" (.type "enumerate") := N.boot (by kernel_rfl) (by decide) (by kernel_rfl)
 have gso : ag C "sorted" (.builtin "sorted") := N.boot (by kernel_rfl) (by decide) (by kernel_rfl)
 have gst : ag C "str" (.type "str") := N.boot (by kernel_rfl) (by decide) (by kernel_rfl)
 have gin : ag C "int" (.type "int") := N.boot (by kernel_rfl) (by decide) (by kernel_rfl)
 have gsu : ag C "sum" (.builtin "sum") := N.boot (by kernel_rfl) (by decide) (by kernel_rfl)
 have gle : ag C "len" (.builtin "len") := N.boot (by kernel_rfl) (by decide) (by kernel_rfl)
 have ghx : ag C "hex" (.builtin "hex") := N.boot (by kernel_rfl) (by decide) (by kernel_rfl)
 have gve : ag C "ValueError" (.type "ValueError") := N.boot (by kernel_rfl) (by decide) (by kernel_rfl)
 have gbr : ag C "bisect_right" (.ref 31) := N.user (by kernel_rfl)
 have gbl : ag C "bisect_left" (.ref 40) := N.user (by kernel_rfl)
 have gcf : ag C "COMPILER_FLAG_NAMES" (.ref 15) := N.user (by kernel_rfl)
 have gp : ag C "parse229" (.ref 84) := N.user (by kernel_rfl)
 have glp : ag C "_law_port" (.ref 98) := N.user (by kernel_rfl)
 have E := Mb X N
 have pg : tc C (.ref 84) := ⟨gp, fun x n h host port0 => Km nl (F6 X) gle gin x n h host port0⟩
 have pr : Er C (.ref 84) 63 75 := zm nl (F6 X) gp (yi X yf) E.g1 (yi X yu) E.g2 gle gin
 have pf : iz C (.ref 22) := ⟨N.user (by kernel_rfl), fun x hx => Hq nl (Ix X) gr _ gcf (E9 X) ghx x hx⟩
 have RE : zv C (c7 (K01 w) 117).code ((c7 (K01 w) 117).qualname ++ ".<locals>.") (.ref 40) (c7 (K01 w) 40) 114 := {
  hl := nl, gr := gr, gs := gso, B := D6 X, gb := gbl, gl := gle, gL := gli, gE := gen
  L := by rw [show (c7 (K01 w) 117).code = .ref 116 by kernel_rfl]; exact lamR
  htq := fun pos' h1 h2 => by rw [htq, Q8 h1, show (c7 (K01 w) 117).qualname = "_law_rows" by kernel_rfl] }
 exact {
  nl := nl, gr := gr, gsu := gsu, gle := gle, ghe := ghx, gen := gen
  rows := ⟨.ref 117, N.user (by kernel_rfl), fun bd hbd => Mz (Ow X) RE bd hbd⟩
  reply := ⟨.ref 91, N.user (by kernel_rfl), fun p n h1 h2 => Ja nl (L6 X) gst p n h1 h2⟩
  parse := ⟨_, pg⟩
  port := ⟨.ref 98, glp, rfl, fun x n h => Ls nl (N4 X) pg x n h⟩
  sum := ⟨.ref 122, N.user (by kernel_rfl), fun one two h1 h2 ws hws => N0 nl (Qx X) pf gsu one two h1 h2 ws hws⟩
  pretty := ⟨_, pf⟩
  names := ⟨_, gcf, E9 X⟩
  bisR := ⟨_, _, Jq X, gbr⟩
  bisL := ⟨_, _, D6 X, gbl⟩
  refused := ⟨.ref 105, N.user (by kernel_rfl), fun k hk => C1 nl (Ht X) gst pr E (d5 (dr S)) rfl (xt S (g9 S) (gz S) 1 : Int) R.small R.len R.ok k hk⟩
  low := ⟨.ref 112, N.user (by kernel_rfl), fun rs k => Pf nl (Qd X) gst gbl gbr glp gve (Ph PySem.F.excStr_ValueError) (fun a x kv => De nl (D6 X) gve a x kv (-1) (by decide)) (fun a x kv => D3 nl (Jq X) gve a x kv (-1) (by decide)) rs k⟩
  lam := ⟨124, by rw [show (c7 (K01 w) 127).code = .ref 126 by kernel_rfl]; exact lamL⟩
  tq1 := fun pos' h1 h2 => by rw [htq, Qo h1, show (c7 (K01 w) 127).qualname = "law" by kernel_rfl]
  tq2 := fun pos' h1 h2 => by rw [htq, Pu h1, show (c7 (K01 w) 127).qualname = "law" by kernel_rfl] }
end
end Mine
end
section
set_option maxRecDepth 100000
set_option maxHeartbeats 1000000
open PySem PySem.W PySem.Calls PyProof.Rows PyProof.V PySem.SeqAt
namespace Mine
theorem Pq {κ : Kp} {vs : List Value} {S : List Int} (h : IntsAre vs S) : RL κ (S.map .int) vs := by
 induction h with
 | nil => rfl
 | cons t ih => exact ⟨_, _, rfl, ⟨_, rfl⟩, by assumption⟩
theorem Aj : AOk callerA 9 := ⟨rfl, by decide +kernel, by decide +kernel⟩
theorem I6 {C : Cx} {f : Value} {fd : FuncData} (B : cg C 18 f fd) (v : Value) : bindArgs fd ⟨[v], []⟩ = (pure [(("script" : Str), v)] : Sem (List (Str × Value))) := B.bind rfl
theorem Q1 : ew (aq PySem.Challenge.pw_wb0027_01 18) := ⟨rfl, by decide +kernel, by decide +kernel⟩
theorem L2 {C : Cx} {w : World} {κ : Kp} {s : Shared} {v : Value} {E : Value -> Shared -> Prop} {S : List Int} (X : KIn C (K01 w)) (nl : ci C) (g : D8 C (c7 (K01 w) 127).code ((c7 (K01 w) 127).qualname ++ ".<locals>.") S) (L : L7 S) (B : ph C κ s) (r : R κ (.list (S.map .int)) v) :
  wpK (model C.prog C.w) callerA (call (.ref 127) [v]) (wi C κ s fun d => d = .bool true) E s := by
 have P := Qz X
 have hsc := P.scope
 refine H2 (n := 8) (x := "script") (a := .d (B3 S)) P.at_ nl (by rw [hsc]; exact Q1) (by rw [hsc]; decide +kernel) (I6 P) ?_ Aj B (RVL.cons r RVL.nil)
 intro G A'
 rw [hsc]
 simp only [bu]
 refine af 0 rfl rfl rfl ?_
 intro E hk
 refine (?_ : gy _ _ _ (lae _ _) (lst { script := some (B3 S) } []) _ _)
 exact H4 (n := 0) (Aj.deeper _) ⟨G.env, rfl, by rw [hk]; decide, rfl⟩ g L fun st => rfl
theorem Qn (hL : ∀ S : List Int, S.length <= 63 -> L7 S /\ Dh S) : PySem.Challenge.rw_wb0027_01.Holds := by
 refine Q3 ?_
 intro w s₀ s₁ mg mb G Y fa o pm cd doc dV kV ho hd hcd hD hmg hg args vals as hpre hlay hrd hwl hlo
 have KX : (Cy w.params).In s₁.heap := Y.1
 have hT8 : ∀ P ∈ [114, 124], s₁.heap.get? P = some (tabObj #[]) := Y.2
 have T := G.T
 have hT : TabsAt ki s₁.heap := List.forall_mem_cons.mpr ⟨⟨codeHd_of_K (c := 116) (P := 114) KX (by kernel_rfl), hT8 114 (by decide)⟩, List.forall_mem_cons.mpr ⟨⟨codeHd_of_K (c := 126) (P := 124) KX (by kernel_rfl), hT8 124 (by decide)⟩, fun _ h => nomatch h⟩⟩
 clear G Y hD hd ho hcd
 have hfa : (mg "law") = some (.ref 127) := mg_of KX T.g (by kernel_rfl)
 have hfa2 : fa = 127 := (Value.ref.inj (Option.some.inj (hfa.symm.trans (show mg "law" = some (.ref fa) from hmg)))).symm
 clear hmg hfa
 refine byC fun hN => ?_
 wrow_args hpre hlay hrd hwl hlo
 rename_i S _ _ _ _ _ _ _ la vs _ hIL _ w1 _ hI _ hlen _
 refine hN ?_
 clear hN
 have hS : S.length <= 63 := by lia
 obtain ⟨L, RA⟩ := hL S hS
 have hpost : PySem.Challenge.rw_wb0027_01.row.claim.post [ofPy (PyData.list (List.map PyData.int S))] (.bool true) [ofPy (PyData.list (List.map PyData.int S))] = true := by wrow_post
 have hgood : ∀ s' : Shared, (∀ b o, b ∉ ki.map (·.2) -> s₁.heap.get? b = some o -> s'.heap.get? b = some o) -> (∀ q ∈ ki, GrownAt q.2 s'.heap) -> s'.os = s₁.os -> s'.gens = #[] →
   GoodWG PySem.Challenge.rw_wb0027_01.row.claim (classAt s₀.heap) (ExcName.means s₀.heap) [ofPy (PyData.list (List.map PyData.int S))] s₁ (.ok (.ret (.bool true))) s' := fun s' k gr ho hg => Ba hT (fun _ _ => rfl) hpost k gr ho hg
 refine ⟨hgood s₁ (fun _ _ _ e => e) (fun q hq => ⟨#[], (hT q hq).2⟩) rfl hg, ?_⟩
 have XC : KIn (mkC PySem.Challenge.rw_wb0027_01.row.prog w s₁ ki rh) (K01 w) := Oh KX (by kernel_rfl)
 have N := N7 (p := PySem.Challenge.rw_wb0027_01.row.prog) (w := w) (tabs := ki) (tq := rh) KX T (by decide) (by decide)
 have nl := Jp (p := PySem.Challenge.rw_wb0027_01.row.prog) (w := w) (tabs := ki) (tq := rh) T (by decide)
 have lamR : l6 (mkC PySem.Challenge.rw_wb0027_01.row.prog w s₁ ki rh) (.ref 116) 114 := Ch KX XC T (bm := 4) (by decide) (by decide) (by kernel_rfl) (by kernel_rfl) (by decide) (by decide)
 have lamL : l6 (mkC PySem.Challenge.rw_wb0027_01.row.prog w s₁ ki rh) (.ref 126) 124 := Ch KX XC T (bm := 4) (by decide) (by decide) (by kernel_rfl) (by kernel_rfl) (by decide) (by decide)
 have B := Lf (p := PySem.Challenge.rw_wb0027_01.row.prog) (w := w) (tq := rh) hT hg
 have g := Hy XC N nl lamR lamL rfl RA
 have hr : R (mkC PySem.Challenge.rw_wb0027_01.row.prog w s₁ ki rh).P0 (.list (S.map .int)) (.ref la) := by
  cases w1 with
  | list ho hw =>
   obtain ⟨o2, e1, e2, n2, e3⟩ := hIL
   rw [ho] at e1; cases e1
   injection e3 with q1 q2
   have hn : la ∉ ki.map (·.2) := fun hm => by
    have h1 := hT8 la hm
    rw [ho] at h1
    cases h1
   refine ⟨la, { cls := .type "list", data := .seq vs.toArray }, vs.toArray, 0, rfl, ?_, rfl, rfl, rfl, ?_⟩
   ·show (if _ then _ else _) = _
    rw [if_neg hn, ho, q1]
   ·simpa using Pq hI
 refine hfa2 ▸ K.mono (L2 XC nl g L B hr) (fun v s' ⟨κ', d, k, B', hn, hkeep, hrr, hd⟩ => ?_) fun _ _ z => z
 subst hd
 cases (hrr : v = .bool true)
 refine hgood s' hkeep (fun q hq => ?_) B'.os B'.gens
 obtain ⟨⟨ps, h1, _⟩, _⟩ := B'.tabs q.2 (List.mem_map_of_mem hq)
 exact ⟨ps, h1⟩
end Mine
end
section
open PySem
namespace Mine
theorem Pr (S : List Int) (t : Nat) : xt S (g9 S) (gz S) t < 1024 := by
 have px := A7 (bad := gq S) (nv S t).1 (nv S t).2
 have pl := uo (bad := gq S) (mz (nv S t).1 (nv S t).2)
 rw [<- px] at pl
 exact pl
theorem Ok (S : List Int) : Dh S := by
 have h := Pr S 1
 exact ⟨P5 _ (by lia), by lia, by have := Bk (p := (xt S (g9 S) (gz S) 1 : Int)) (by lia); lia⟩
theorem cw01 : PySem.Challenge.rw_wb0027_01.Holds := Qn fun S hS => ⟨M0 S (by lia), Ok S⟩
end Mine
end
theorem PySem.Challenge.cw_wb0027_01_holds : PySem.Challenge.rw_wb0027_01.Holds :=
 Mine.cw01
