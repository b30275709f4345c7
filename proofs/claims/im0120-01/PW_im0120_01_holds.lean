import PyProof.Rows.All
import Wide.All
import OpenK.AllK
import Wide.FinOn
import PySem.Challenge.RW_im0120_01
set_option Elab.async false
namespace Mj
open PySem PySem.W PyProof.Rows
/-! abstract values and objects -/
inductive AV where
 | none | bool (b : Bool) | int (i : Int) | str (x : Str) | ref (k : Nat) | con (v : Value)
inductive AO where
 | list (xs : List AV) | tuple (xs : List AV) | range (lo hi st : Int) | ns (es : List (Str × AV)) | inst (C : Addr) (d : Nat) | fset (xs : List AV) | imap (es : List (Int × AV)) (n : Nat)
structure Cl where
 wr : Bool
 o : AO
noncomputable abbrev Sto := List Cl
noncomputable abbrev Rho := List Addr
noncomputable def VR (ρ : Rho) : AV → Value → Prop
 | .none, v => v = .none
 | .bool b, v => v = .bool b
 | .int i, v => ∃ t, v = .int i t
 | .str x, v => ∃ t, v = .str x t
 | .ref k, v => ∃ a, ρ[k]? = some a ∧ v = .ref a
 | .con c, v => v = c
noncomputable def VRs (ρ : Rho) : List AV → List Value → Prop
 | [], [] => True
 | a :: as, v :: vs => VR ρ a v ∧ VRs ρ as vs
 | _, _ => False
theorem get_prefix {α : Type} {l l' : List α} (h : l <+: l') {k : Nat} {a : α} (e : l[k]? = some a) : l'[k]? = some a := by
 obtain ⟨t, rfl⟩ := h
 rw [List.getElem?_append_left (List.getElem?_eq_some_iff.mp e).1]; exact e
theorem VR.mono {ρ ρ' : Rho} (hp : ρ <+: ρ') : ∀ {a : AV} {v : Value}, VR ρ a v → VR ρ' a v
 | .none, _, h | .bool _, _, h | .int _, _, h | .str _, _, h | .con _, _, h => h
 | .ref _, _, ⟨a, e, hv⟩ => ⟨a, get_prefix hp e, hv⟩
theorem VRs.nil_iff {ρ : Rho} {vs : List Value} : VRs ρ [] vs ↔ vs = [] := by cases vs <;> simp [VRs]
theorem VRs.mono {ρ ρ' : Rho} (hp : ρ <+: ρ') : ∀ {as : List AV} {vs : List Value}, VRs ρ as vs → VRs ρ' as vs := by
 intro as
 induction as with
 | nil => intro vs h; cases vs with
  | nil => trivial
  | cons => exact h.elim
 | cons a as ih => intro vs h; cases vs with
  | nil => exact h.elim
  | cons v vs => exact ⟨h.1.mono hp, ih h.2⟩
theorem VRs.length {ρ : Rho} : ∀ {as : List AV} {vs : List Value}, VRs ρ as vs → vs.length = as.length := by
 intro as
 induction as with
 | nil => intro vs h; cases vs with
  | nil => rfl
  | cons => exact h.elim
 | cons a as ih => intro vs h; cases vs with
  | nil => exact h.elim
  | cons v vs => simp [ih h.2]
theorem VRs.get {ρ : Rho} : ∀ {as : List AV} {vs : List Value} {i : Nat} {a : AV}, VRs ρ as vs → as[i]? = some a → ∃ v, vs[i]? = some v ∧ VR ρ a v := by
 intro as
 induction as with
 | nil => intro vs i a _ e; simp at e
 | cons b as ih => intro vs i a h e; cases vs with
  | nil => exact h.elim
  | cons v vs => cases i with
   | zero => cases e; exact ⟨v, rfl, h.1⟩
   | succ i => have := ih (vs := vs) (i := i) h.2 (by simpa using e); simpa using this
theorem VRs.getV {ρ : Rho} : ∀ {as : List AV} {vs : List Value} {i : Nat} {v : Value}, VRs ρ as vs → vs[i]? = some v → ∃ a, as[i]? = some a ∧ VR ρ a v := by
 intro as
 induction as with
 | nil => intro vs i v h e; cases vs with
  | nil => simp at e
  | cons => exact h.elim
 | cons b as ih => intro vs i a h e; cases vs with
  | nil => exact h.elim
  | cons v vs => cases i with
   | zero => cases e; exact ⟨b, rfl, h.1⟩
   | succ i => have := ih (vs := vs) (i := i) h.2 (by simpa using e); simpa using this
theorem VRs.append {ρ : Rho} : ∀ {as bs : List AV} {vs ws : List Value}, VRs ρ as vs → VRs ρ bs ws → VRs ρ (as ++ bs) (vs ++ ws) := by
 intro as
 induction as with
 | nil => intro bs vs ws h h'; cases vs with
  | nil => exact h'
  | cons => exact h.elim
 | cons a as ih => intro bs vs ws h h'; cases vs with
  | nil => exact h.elim
  | cons v vs => exact ⟨h.1, ih h.2 h'⟩
theorem VRs.set {ρ : Rho} : ∀ {as : List AV} {vs : List Value} {i : Nat} {a : AV} {v : Value}, VRs ρ as vs → VR ρ a v → VRs ρ (as.set i a) (vs.set i v) := by
 intro as
 induction as with
 | nil => intro vs i a v h _; cases vs with
  | nil => trivial
  | cons => exact h.elim
 | cons b as ih => intro vs i a v h h'; cases vs with
  | nil => exact h.elim
  | cons w vs => cases i with
   | zero => exact ⟨h', h.2⟩
   | succ i => exact ⟨h.1, ih h.2 h'⟩
theorem VRs.take {ρ : Rho} : ∀ {as : List AV} {vs : List Value} (i : Nat), VRs ρ as vs → VRs ρ (as.take i) (vs.take i) := by
 intro as
 induction as with
 | nil => intro vs i h; rw [VRs.nil_iff] at h; subst h; simp [VRs]
 | cons b as ih => intro vs i h; cases vs with
  | nil => exact h.elim
  | cons w vs => cases i with
   | zero => simp [VRs]
   | succ i => exact ⟨h.1, ih i h.2⟩
theorem VRs.drop {ρ : Rho} : ∀ {as : List AV} {vs : List Value} (i : Nat), VRs ρ as vs → VRs ρ (as.drop i) (vs.drop i) := by
 intro as
 induction as with
 | nil => intro vs i h; rw [VRs.nil_iff] at h; subst h; simp [VRs]
 | cons b as ih => intro vs i h; cases vs with
  | nil => exact h.elim
  | cons w vs => cases i with
   | zero => exact h
   | succ i => exact ih i h.2
theorem VRs.one {ρ : Rho} {a : AV} {vs : List Value} (h : VRs ρ [a] vs) : ∃ v, vs = [v] ∧ VR ρ a v := by
 match vs, h with
 | [v], h => exact ⟨v, rfl, h.1⟩
/-- an object's own names, entry by entry -/
noncomputable def NsR (ρ : Rho) : List (Str × AV) → List DictEntry → Prop
 | [], [] => True
 | (x, v) :: es, e :: rs => (∃ t, e.key = .str x t) ∧ VR ρ v e.val ∧ NsR ρ es rs
 | _, _ => False
theorem NsR.mono {ρ ρ' : Rho} (hp : ρ <+: ρ') : ∀ {es : List (Str × AV)} {rs : List DictEntry}, NsR ρ es rs → NsR ρ' es rs := by
 intro es
 induction es with
 | nil => intro rs h; cases rs with
  | nil => trivial
  | cons => exact h.elim
 | cons e es ih => intro rs h; cases rs with
  | nil => exact h.elim
  | cons r rs => exact ⟨h.1, h.2.1.mono hp, ih h.2.2⟩
/-- how the world's frozensets lie, and their iterators -/
class SetW where
 rel : Addr → Obj → List Value → Prop
 it : Addr → Obj → Nat → Obj → Prop
variable [SetW]
/-- how the real heap bears an abstract object at an address -/
noncomputable def OR (ρ : Rho) (h : Heap) (a : Addr) : AO → Prop
 | .list xs => ∃ vs n, h.get? a = some { cls := .type "list", data := .seq vs n } ∧ VRs ρ xs vs.toList
 | .tuple xs => ∃ vs n, h.get? a = some { cls := .type "tuple", data := .seq vs n } ∧ VRs ρ xs vs.toList
 | .range lo hi st => ∃ t u v, IsRange h a lo hi st t u v
 | .ns es => ∃ rs n, h.get? a = some (dictOf rs n) ∧ NsR ρ es rs
 | .inst C k => ∃ d, ρ[k]? = some d ∧ h.get? a = some { cls := .ref C, dict := some d }
 | .fset xs => ∃ o vs, h.get? a = some o ∧ SetW.rel a o vs ∧ VRs ρ xs vs
 | .imap es n => ∃ f, h.IntMap a f ∧ h.DictLe a n ∧ ∀ k, match es.lookup k with | some v => ∃ rv, f k = some rv ∧ VR ρ v rv | none => f k = none
theorem IntMap.to {h h' : Heap} {a : Addr} {f : Int → Option Value} (x : h.IntMap a f) (hh : ∀ o, h.get? a = some o → h'.get? a = some o) : h'.IntMap a f :=
 let ⟨o, es, ep, ho, r⟩ := x; ⟨o, es, ep, hh _ ho, r⟩
theorem DictLe.to {h h' : Heap} {a : Addr} {f : Int → Option Value} {n : Nat} (x : h.DictLe a n) (y : h.IntMap a f) (hh : ∀ o, h.get? a = some o → h'.get? a = some o) : h'.DictLe a n :=
 let ⟨_, _, _, ho, _⟩ := y; x.of_same ho (hh _ ho)
theorem OR.mono {ρ ρ' : Rho} {h h' : Heap} {a : Addr} (hp : ρ <+: ρ') (hh : ∀ o, h.get? a = some o → h'.get? a = some o) : ∀ {c : AO}, OR ρ h a c → OR ρ' h' a c
 | .list _, ⟨vs, n, e, r⟩ => ⟨vs, n, hh _ e, r.mono hp⟩
 | .tuple _, ⟨vs, n, e, r⟩ => ⟨vs, n, hh _ e, r.mono hp⟩
 | .range .., ⟨t, u, v, e⟩ => ⟨t, u, v, hh _ e⟩
 | .ns _, ⟨rs, n, e, r⟩ => ⟨rs, n, hh _ e, r.mono hp⟩
 | .inst _ _, ⟨d, e, e'⟩ => ⟨d, get_prefix hp e, hh _ e'⟩
 | .fset _, ⟨o, vs, e, q, r⟩ => ⟨o, vs, hh _ e, q, r.mono hp⟩
 | .imap es n, ⟨f, x, y, r⟩ => ⟨f, IntMap.to x hh, DictLe.to y x hh, fun k => by
  have := r k
  split at this
  ·obtain ⟨rv, a, b⟩ := this; exact ⟨rv, a, b.mono hp⟩
  ·exact this⟩
theorem OR.live {ρ : Rho} {h : Heap} {a : Addr} : ∀ {c : AO}, OR ρ h a c → ∃ o, h.get? a = some o
 | .list _, ⟨_, _, e, _⟩ => ⟨_, e⟩
 | .tuple _, ⟨_, _, e, _⟩ => ⟨_, e⟩
 | .range .., ⟨_, _, _, e⟩ => ⟨_, e⟩
 | .ns _, ⟨_, _, e, _⟩ => ⟨_, e⟩
 | .inst _ _, ⟨_, _, e⟩ => ⟨_, e⟩
 | .fset _, ⟨o, _, e, _⟩ => ⟨o, e⟩
 | .imap .., ⟨_, ⟨o, _, _, ho, _⟩, _⟩ => ⟨o, ho⟩
theorem nodup_inj {α : Type} : ∀ {l : List α}, l.Nodup → ∀ {i j : Nat} (hi : i < l.length) (hj : j < l.length), l[i] = l[j] → i = j := by
 intro l
 induction l with
 | nil => intro _ i j hi; simp at hi
 | cons x l ih =>
  intro hn i j hi hj e
  obtain ⟨h1, h2⟩ := List.nodup_cons.mp hn
  cases i with
  | zero => cases j with
   | zero => rfl
   | succ j => simp at e; exact absurd (e ▸ List.getElem_mem _) h1
  | succ i => cases j with
   | zero => simp at e; exact absurd (e ▸ List.getElem_mem _) h1
   | succ j => simp at e; rw [ih h2 _ _ e]
/-- the whole heap: the base B as it was, the ledger F exact, the store σ at ρ -/
structure HR (B : Heap) (F : List (Addr × Obj)) (ρ : Rho) (σ : Sto) (h : Heap) : Prop where
 base : ∀ b o, B.get? b = some o → h.get? b = some o
 fr : ∀ p ∈ F, h.get? p.1 = some p.2
 fB : ∀ p ∈ F, B.get? p.1 = none
 fN : (F.map (·.1)).Nodup
 len : ρ.length = σ.length
 nd : ρ.Nodup
 obj : ∀ (k : Nat) (c : Cl) (a : Addr), σ[k]? = some c → ρ[k]? = some a → OR ρ h a c.o
 sepB : ∀ (k : Nat) (c : Cl) (a : Addr), σ[k]? = some c → ρ[k]? = some a → c.wr = true → B.get? a = none
 sepF : ∀ a ∈ ρ, ∀ p ∈ F, p.1 ≠ a
namespace HR
variable {B : Heap} {F : List (Addr × Obj)} {ρ : Rho} {σ : Sto} {h h' : Heap}
theorem lt (H : HR B F ρ σ h) {a : Addr} (ha : a ∈ ρ) : a < h.objs.size := by
 obtain ⟨k, hk, e⟩ := List.getElem_of_mem ha
 have hk' : k < σ.length := H.len ▸ hk
 obtain ⟨o, ho⟩ := OR.live (H.obj k σ[k] a (by simp [hk']) (by simp [hk, e]))
 exact Heap.lt_size ho
theorem at_ (H : HR B F ρ σ h) {k : Nat} {c : Cl} (e : σ[k]? = some c) : ∃ a, ρ[k]? = some a ∧ OR ρ h a c.o := by
 have hk : k < σ.length := (List.getElem?_eq_some_iff.mp e).1
 have hk' : k < ρ.length := H.len ▸ hk
 exact ⟨ρ[k], by simp [hk'], H.obj k c _ e (by simp [hk'])⟩
theorem fresh (H : HR B F ρ σ h) : B.get? h.objs.size = none := by
 cases e : B.get? h.objs.size with
 | none => rfl
 | some o => exact absurd (Heap.lt_size (H.base _ _ e)) (Nat.lt_irrefl _)
theorem keeps (H : HR B F ρ σ h) (hk : ∀ b o, h.get? b = some o → h'.get? b = some o) : HR B F ρ σ h' :=
 {H with base := fun b o e => hk _ _ (H.base b o e), fr := fun p hp => hk _ _ (H.fr p hp), obj := fun k c a e e' => (H.obj k c a e e').mono (List.prefix_refl _) fun o => hk _ o }
theorem push (H : HR B F ρ σ h) (o : Obj) : HR B F ρ σ (h.push o) := H.keeps fun _ _ e => Heap.get?_push_of_some o e
/-- a new object that the store is to know -/
theorem alloc (H : HR B F ρ σ h) (hk : ∀ b o, h.get? b = some o → h'.get? b = some o) {a : Addr} {c : Cl} (ha : h.objs.size ≤ a) (ho : OR (ρ ++ [a]) h' a c.o) : HR B F (ρ ++ [a]) (σ ++ [c]) h' := by
 have H' := H.keeps hk
 have hna : a ∉ ρ := fun hm => Nat.lt_irrefl _ (Nat.lt_of_lt_of_le (H.lt hm) ha)
 have hBa : B.get? a = none := by
  cases e : B.get? a with
  | none => rfl
  | some o => exact absurd (Heap.lt_size (H.base _ _ e)) (Nat.not_lt.mpr ha)
 refine ⟨H'.base, H'.fr, H'.fB, H'.fN, by simp [H.len], ?_, ?_, ?_, ?_⟩
 ·rw [List.nodup_append]; exact ⟨H.nd, by simp, fun x hx y hy => by simp at hy; subst hy; exact fun e => hna (e ▸ hx)⟩
 ·intro k d b hk1 hk2
  by_cases hlt : k < σ.length
  ·rw [List.getElem?_append_left hlt] at hk1
   rw [List.getElem?_append_left (H.len ▸ hlt)] at hk2
   exact (H'.obj k d b hk1 hk2).mono (List.prefix_append _ _) fun _ e => e
  ·have hk3 := (List.getElem?_eq_some_iff.mp hk1).1
   have : k = σ.length := by simp at hk3; lia
   subst this
   simp at hk1
   rw [← H.len] at hk2
   simp at hk2
   subst hk1; subst hk2; exact ho
 ·intro k d b hk1 hk2 hw
  by_cases hlt : k < σ.length
  ·rw [List.getElem?_append_left hlt] at hk1
   rw [List.getElem?_append_left (H.len ▸ hlt)] at hk2
   exact H.sepB k d b hk1 hk2 hw
  ·have hk3 := (List.getElem?_eq_some_iff.mp hk1).1
   have : k = σ.length := by simp at hk3; lia
   subst this
   rw [← H.len] at hk2
   simp at hk2
   subst hk2; exact hBa
 ·intro b hb p hp e
  rcases List.mem_append.mp hb with hb | hb
  ·exact H.sepF b hb p hp e
  ·simp at hb; subst hb
   exact Nat.lt_irrefl _ (Nat.lt_of_lt_of_le (e ▸ Heap.lt_size (H.fr p hp)) ha)
/-- an object of the store is changed -/
theorem upd (H : HR B F ρ σ h) {k : Nat} {c : Cl} {a : Addr} (e : σ[k]? = some c) (ea : ρ[k]? = some a) (hw : c.wr = true) (hs : ∀ b o, b ≠ a → h.get? b = some o → h'.get? b = some o) {o' : AO} (ho : OR ρ h' a o') :
  HR B F ρ (σ.set k ⟨true, o'⟩) h' := by
 have hBa := H.sepB k c a e ea hw
 have ham : a ∈ ρ := List.mem_of_getElem? ea
 refine ⟨fun b o eb => hs b o (fun q => by subst q; rw [hBa] at eb; cases eb) (H.base b o eb), fun p hp => hs _ _ (H.sepF a ham p hp) (H.fr p hp), H.fB, H.fN, by simp [H.len], H.nd, ?_, ?_, H.sepF⟩
 ·intro j d b hj hb
  rw [List.getElem?_set] at hj
  split at hj
  ·rename_i hkj
   subst hkj
   split at hj
   ·cases hj
    rw [ea] at hb; cases hb; exact ho
   ·cases hj
  ·rename_i hkj
   have hba : b ≠ a := by
    rintro rfl
    have h1 := (List.getElem?_eq_some_iff.mp ea)
    have h2 := (List.getElem?_eq_some_iff.mp hb)
    obtain ⟨p1, q1⟩ := h1
    obtain ⟨p2, q2⟩ := h2
    exact hkj (nodup_inj H.nd p1 p2 (q1.trans q2.symm))
   exact (H.obj j d b hj hb).mono (List.prefix_refl _) fun o => hs _ o hba
 ·intro j d b hj hb hw'
  rw [List.getElem?_set] at hj
  split at hj
  ·rename_i hkj
   subst hkj
   rw [ea] at hb; cases hb; exact hBa
  ·exact H.sepB j d b hj hb hw'
/-- a fresh object goes onto the ledger -/
theorem pushF (H : HR B F ρ σ h) (hk : ∀ b o, h.get? b = some o → h'.get? b = some o) {a : Addr} {o : Obj} (ha : h.objs.size ≤ a) (ho : h'.get? a = some o) : HR B ((a, o) :: F) ρ σ h' := by
 have H' := H.keeps hk
 refine ⟨H'.base, ?_, ?_, ?_, H'.len, H'.nd, H'.obj, H'.sepB, ?_⟩
 ·intro p hp
  rcases List.mem_cons.mp hp with rfl | hp
  ·exact ho
  ·exact H'.fr p hp
 ·intro p hp
  rcases List.mem_cons.mp hp with rfl | hp
  ·show B.get? a = none
   cases e : B.get? a with
   | none => rfl
   | some o => exact absurd (Heap.lt_size (H.base _ _ e)) (Nat.not_lt.mpr ha)
  ·exact H.fB p hp
 ·rw [List.map_cons, List.nodup_cons]
  refine ⟨fun hm => ?_, H.fN⟩
  obtain ⟨p, hp, e⟩ := List.mem_map.mp hm
  have e' : p.1 = a := e
  exact Nat.lt_irrefl _ (Nat.lt_of_lt_of_le (e' ▸ Heap.lt_size (H.fr p hp)) ha)
 ·intro b hb p hp
  rcases List.mem_cons.mp hp with rfl | hp
  ·rintro rfl; exact Nat.lt_irrefl _ (Nat.lt_of_lt_of_le (H.lt hb) ha)
  ·exact H.sepF b hb p hp
theorem popF {p : Addr × Obj} (H : HR B (p :: F) ρ σ h) : HR B F ρ σ h :=
 ⟨H.base, fun q hq => H.fr q (List.mem_cons_of_mem _ hq), fun q hq => H.fB q (List.mem_cons_of_mem _ hq), (List.nodup_cons.mp H.fN).2, H.len, H.nd, H.obj, H.sepB, fun a ha q hq => H.sepF a ha q (List.mem_cons_of_mem _ hq)⟩
/-- the ledger's entry at a turned to o -/
noncomputable def turnF (a : Addr) (o : Obj) (F : List (Addr × Obj)) : List (Addr × Obj) := F.map fun p => if p.1 = a then (a, o) else p
theorem turnF_fst (a : Addr) (o : Obj) (F : List (Addr × Obj)) : (turnF a o F).map (·.1) = F.map (·.1) := by
 unfold turnF
 rw [List.map_map]
 apply List.map_congr_left
 intro p _
 simp only [Function.comp]
 split
 ·rename_i e; exact e.symm
 ·rfl
theorem mem_turnF {a : Addr} {o : Obj} {F : List (Addr × Obj)} {p : Addr × Obj} (hp : p ∈ turnF a o F) : p = (a, o) ∨ (p ∈ F ∧ p.1 ≠ a) := by
 unfold turnF at hp
 obtain ⟨q, hq, e⟩ := List.mem_map.mp hp
 split at e
 ·exact .inl e.symm
 ·rename_i hne; subst e; exact .inr ⟨hq, hne⟩
theorem turnF_mem {a b : Addr} {o o' : Obj} {F : List (Addr × Obj)} (hp : (b, o') ∈ F) (hne : b ≠ a) : (b, o') ∈ turnF a o F := by
 unfold turnF
 exact List.mem_map.mpr ⟨(b, o'), hp, by simp [hne]⟩
theorem turnF_self {a : Addr} {o o' : Obj} {F : List (Addr × Obj)} (hp : (a, o') ∈ F) : (a, o) ∈ turnF a o F := by
 unfold turnF
 exact List.mem_map.mpr ⟨(a, o'), hp, by simp⟩
theorem turn (H : HR B F ρ σ h) {a : Addr} {o o' : Obj} (hm : (a, o') ∈ F) (hs : ∀ b o, b ≠ a → h.get? b = some o → h'.get? b = some o) (ho : h'.get? a = some o) : HR B (turnF a o F) ρ σ h' := by
 have hBa := H.fB _ hm
 refine ⟨fun b x eb => hs b x (fun q => by subst q; rw [hBa] at eb; cases eb) (H.base b x eb), ?_, ?_, by rw [turnF_fst]; exact H.fN, H.len, H.nd, ?_, H.sepB, ?_⟩
 ·intro p hp
  rcases mem_turnF hp with rfl | ⟨hp, hne⟩
  ·exact ho
  ·exact hs _ _ hne (H.fr p hp)
 ·intro p hp
  rcases mem_turnF hp with rfl | ⟨hp, hne⟩
  ·exact hBa
  ·exact H.fB p hp
 ·intro k c b e e'
  have hb : b ≠ a := fun q => H.sepF b (List.mem_of_getElem? e') _ hm q.symm
  exact (H.obj k c b e e').mono (List.prefix_refl _) fun o => hs _ o hb
 ·intro b hb p hp
  rcases mem_turnF hp with rfl | ⟨hp, hne⟩
  ·exact H.sepF b hb (a, o') hm
  ·exact H.sepF b hb p hp
end HR
end Mj
namespace Mj
open PySem PySem.W PyProof.Rows
noncomputable abbrev Loc := List (Str × AV)
structure Fn where
 name : Str
 params : List Str
 dflts : List AV
 body : List Stmt
 scope : Scope
structure Ctx where
 glob : List (Str × AV)
 cattr : Addr → Str → Option AV
 stat : Addr → Str → Option Addr
 meth : Addr → Str → Option Addr
 fn : Addr → Option Fn
 cls : Addr → Option Addr
 own : Addr → Str → Bool
 N : Nat
noncomputable abbrev KE := AV → Sto → Prop
noncomputable abbrev XE := KE → Prop
/-- a side condition; a test on what is not known; an object of the store -/
@[irreducible] def wG (p q : Prop) : Prop := p ∧ q
@[irreducible] def wIf (c : Bool) (p q : Prop) : Prop := (c = true → p) ∧ (c = false → q)
@[irreducible] def wAt (k : Nat) (σ : Sto) (K : Cl → Prop) : Prop := ∃ c, σ[k]? = some c ∧ K c
theorem wG.out {p q : Prop} (h : wG p q) : p ∧ q := by unfold wG at h; exact h
theorem wIf.out {c : Bool} {p q : Prop} (h : wIf c p q) : (c = true → p) ∧ (c = false → q) := by unfold wIf at h; exact h
theorem wAt.out {k : Nat} {σ : Sto} {K : Cl → Prop} (h : wAt k σ K) : ∃ c, σ[k]? = some c ∧ K c := by unfold wAt at h; exact h
@[irreducible] def wLst (k : Nat) (σ : Sto) (K : Bool → List AV → Prop) : Prop := ∃ b xs, σ[k]? = some ⟨b, .list xs⟩ ∧ K b xs
theorem wLst.out {k : Nat} {σ : Sto} {K : Bool → List AV → Prop} (h : wLst k σ K) : ∃ b xs, σ[k]? = some ⟨b, .list xs⟩ ∧ K b xs := by unfold wLst at h; exact h
/-- where the walk stops -/
@[irreducible] def lockG (p : Prop) : Prop := p
theorem lockG.out {p : Prop} (h : lockG p) : p := by unfold lockG at h; exact h
theorem lockG.mk {p : Prop} (h : p) : lockG p := by unfold lockG; exact h
@[irreducible] def lockW (p : Prop) : Prop := p
theorem lockW.out {p : Prop} (h : lockW p) : p := by unfold lockW at h; exact h
theorem lockW.mk {p : Prop} (h : p) : lockW p := by unfold lockW; exact h
@[irreducible] def lockF (p : Prop) : Prop := p
theorem lockF.out {p : Prop} (h : lockF p) : p := by unfold lockF at h; exact h
theorem lockF.mk {p : Prop} (h : p) : lockF p := by unfold lockF; exact h
/-- a written test -/
noncomputable def wB (b : Bool) (p : Prop) : Prop := match b with
 | true => p
 | false => False
theorem wB.out {b : Bool} {p : Prop} (h : wB b p) : b = true ∧ p := by cases b with | true => exact ⟨rfl, h⟩ | false => exact h.elim
noncomputable def wO {α : Type} (o : Option α) (K : α → Prop) : Prop := match o with
 | some a => K a
 | none => False
theorem wO.out {α : Type} {o : Option α} {K : α → Prop} (h : wO o K) : ∃ a, o = some a ∧ K a := by cases o with | some a => exact ⟨a, rfl, h⟩ | none => exact h.elim
noncomputable def wTruth (σ : Sto) (v : AV) (K : Bool → Prop) : Prop := match v with
 | .none => K false
 | .bool b => K b
 | .int i => K (i != 0)
 | .ref k => wLst k σ fun _ xs => wG (xs.length ≤ 100000) (K (!xs.isEmpty))
 | _ => False
noncomputable def b2iA (b : Bool) : Int := if b = true then 1 else 0
noncomputable def small (x : Int) : Prop := x.natAbs < 2 ^ 64
noncomputable def wArith (op : Operator) (x y : Int) (K : AV → Prop) : Prop := match op with
 | .Add => K (.int (x + y))
 | .Sub => K (.int (x - y))
 | .Mult => wG (small x ∧ small y) (K (.int (x * y)))
 | .FloorDiv => wG (0 < y ∧ y < 2 ^ 30) (K (.int (x.fdiv y)))
 | .Mod => wG (y ≠ 0) (K (.int (x.fmod y)))
 | .LShift => wG (0 ≤ y ∧ y ≤ 1000 ∧ small x) (K (.int (x * 2 ^ y.toNat)))
 | .BitAnd => K (.int (Builtin.bitAnd x y))
 | .BitOr => K (.int (Builtin.bitOr x y))
 | .RShift => wG (0 ≤ y) (K (.int (x.fdiv (2 ^ y.toNat))))
 | _ => False
noncomputable def wAddB (op : Operator) (x y : Int) (K : AV → Prop) : Prop := match op with
 | .Add => K (.int (x + y))
 | _ => False
noncomputable def wBoolInt (op : Operator) (p : Bool) (y : Int) (K : AV → Prop) : Prop := match op with
 | .Add => K (.int (b2iA p + y))
 | .LShift => wG (0 ≤ y ∧ y ≤ 1000) (K (.int (b2iA p * 2 ^ y.toNat)))
 | _ => False
noncomputable def wCat (op : Operator) (i j : Nat) (σ : Sto) (K : KE) : Prop := match op with
 | .Add => wLst i σ fun _ xs => wLst j σ fun _ ys => wG (xs.length + ys.length ≤ 100000) (K (.ref σ.length) (σ ++ [⟨true, .list (xs ++ ys)⟩]))
 | _ => False
noncomputable def wRep (op : Operator) (i : Nat) (n : Int) (σ : Sto) (K : KE) : Prop := match op with
 | .Mult => wLst i σ fun _ xs => wG (xs.length * n.toNat ≤ 100000 ∧ n.natAbs ≤ 100000) (K (.ref σ.length) (σ ++ [⟨true, .list (List.replicate n.toNat xs).flatten⟩]))
 | _ => False
noncomputable def wBin (op : Operator) (a b : AV) (σ : Sto) (K : KE) : Prop := match a with
 | .int x => (match b with
  | .int y => wArith op x y fun v => K v σ
  | .bool q => wAddB op x (b2iA q) fun v => K v σ
  | _ => False)
 | .bool p => (match b with
  | .int y => wBoolInt op p y fun v => K v σ
  | .bool q => wAddB op (b2iA p) (b2iA q) fun v => K v σ
  | _ => False)
 | .ref i => (match b with
  | .ref j => wCat op i j σ K
  | .int n => wRep op i n σ K
  | _ => False)
 | _ => False
noncomputable def wExt (op : Operator) (i j : Nat) (σ : Sto) (K : KE) : Prop := match op with
 | .Add => wLst i σ fun b xs => wLst j σ fun _ ys => wB b <| wG (i ≠ j ∧ xs.length + ys.length ≤ 100000) (K (.ref i) (σ.set i ⟨true, .list (xs ++ ys)⟩))
 | _ => False
noncomputable def wAug (op : Operator) (a b : AV) (σ : Sto) (K : KE) : Prop := match a with
 | .int x => (match b with
  | .int y => wArith op x y fun v => K v σ
  | .bool q => wAddB op x (b2iA q) fun v => K v σ
  | _ => False)
 | .bool p => (match b with
  | .int y => wAddB op (b2iA p) y fun v => K v σ
  | .bool q => wAddB op (b2iA p) (b2iA q) fun v => K v σ
  | _ => False)
 | .ref i => (match b with
  | .ref j => wExt op i j σ K
  | _ => False)
 | _ => False
noncomputable def wUn (op : UnaryOp) (a : AV) (σ : Sto) (K : AV → Prop) : Prop := match op with
 | .Not => wTruth σ a fun b => K (.bool (!b))
 | .USub => (match a with
  | .int x => K (.int (-x))
  | _ => False)
 | .Invert => (match a with
  | .int x => K (.int (Builtin.bitNot x))
  | _ => False)
 | _ => False
noncomputable def wOrd (op : CmpOp) (x y : Int) (K : Bool → Prop) : Prop := match op with
 | .Eq => K (x == y) | .NotEq => K (x != y) | .Lt => K (decide (x < y)) | .LtE => K (decide (x ≤ y)) | .Gt => K (decide (x > y)) | .GtE => K (decide (x ≥ y))
 | _ => False
/-- a list of exact ints -/
noncomputable def intsA : List AV → Option (List Int)
 | [] => some []
 | .int i :: r => (intsA r).map (i :: ·)
 | _ => none
/-- ints, bools as ints -/
noncomputable def numsA : List AV → Option (List Int)
 | [] => some []
 | .int i :: r => (numsA r).map (i :: ·)
 | .bool b :: r => (numsA r).map (b2iA b :: ·)
 | _ => none
/-- what the ints of a list are; told by the walk -/
@[irreducible] def wInts (xs : List AV) (K : List Int → Prop) : Prop := ∃ ns, intsA xs = some ns ∧ K ns
@[irreducible] def wNums (xs : List AV) (K : List Int → Prop) : Prop := ∃ ns, numsA xs = some ns ∧ K ns
theorem wInts.out {xs : List AV} {K : List Int → Prop} (h : wInts xs K) : ∃ ns, intsA xs = some ns ∧ K ns := by unfold wInts at h; exact h
theorem wNums.out {xs : List AV} {K : List Int → Prop} (h : wNums xs K) : ∃ ns, numsA xs = some ns ∧ K ns := by unfold wNums at h; exact h
noncomputable def wEqB (op : CmpOp) (p q : Bool) (K : Bool → Prop) : Prop := match op with
 | .Eq => K (p == q) | .NotEq => K (p != q)
 | _ => False
noncomputable def wEqL (op : CmpOp) (us vs : List Int) (K : Bool → Prop) : Prop := match op with
 | .Eq => K (us == vs)
 | _ => False
noncomputable def wIn (op : CmpOp) (b : Bool) (K : Bool → Prop) : Prop := match op with
 | .In => K b
 | .NotIn => K (!b)
 | _ => False
noncomputable def wCmp (op : CmpOp) (a b : AV) (σ : Sto) (K : Bool → Prop) : Prop := match a with
 | .int x => (match b with
  | .int y => wOrd op x y K
  | .ref j => wAt j σ fun c => match c.o with
   | .list ys => wInts ys fun vs => wIn op (vs.contains x) K
   | .imap es _ => wIn op (es.lookup x).isSome K
   | _ => False
  | _ => False)
 | .bool p => (match b with
  | .bool q => wEqB op p q K
  | .int y => (match op with
   | .Eq => K (b2iA p == y)
   | _ => False)
  | _ => False)
 | .ref i => (match b with
  | .ref j => wLst i σ fun _ xs => wLst j σ fun _ ys => wInts xs fun us => wInts ys fun vs => wEqL op us vs K
  | _ => False)
 | _ => False
/-- the place of an index in a sequence of n items -/
noncomputable def placeA (i : Int) (n : Nat) : Option Nat := if 0 ≤ i then (if i < n then some i.toNat else none) else if 0 ≤ i + n then some (i + n).toNat else none
@[irreducible] def wIdx (xs : List AV) (j : Int) (K : AV → Prop) : Prop := ∃ v, xs.length ≤ 100000 ∧ (placeA j xs.length).bind (xs[·]?) = some v ∧ K v
theorem wIdx.out {xs : List AV} {j : Int} {K : AV → Prop} (h : wIdx xs j K) : ∃ v, xs.length ≤ 100000 ∧ (placeA j xs.length).bind (xs[·]?) = some v ∧ K v := by unfold wIdx at h; exact h
@[irreducible] def wKey (es : List (Int × AV)) (j : Int) (K : AV → Prop) : Prop := ∃ v, es.lookup j = some v ∧ K v
theorem wKey.out {es : List (Int × AV)} {j : Int} {K : AV → Prop} (h : wKey es j K) : ∃ v, es.lookup j = some v ∧ K v := by unfold wKey at h; exact h
noncomputable def wItem (a i : AV) (σ : Sto) (K : AV → Prop) : Prop := match a with
 | .ref k => (match i with
  | .int j => wAt k σ fun c => match c.o with
   | .list xs => wIdx xs j K
   | .tuple xs => wIdx xs j K
   | .imap es _ => wKey es j K
   | _ => False
  | _ => False)
 | _ => False
noncomputable def putKey (k : Int) (v : AV) : List (Int × AV) → List (Int × AV)
 | [] => [(k, v)]
 | (n, u) :: r => if n == k then (n, v) :: r else (n, u) :: putKey k v r
noncomputable def wPut (a i v : AV) (σ : Sto) (K : Sto → Prop) : Prop := match a with
 | .ref k => (match i with
  | .int j => wAt k σ fun c => match c.o with
   | .list xs => wB c.wr <| wG (0 ≤ j ∧ j < xs.length ∧ xs.length ≤ 100000) (K (σ.set k ⟨true, .list (xs.set j.toNat v)⟩))
   | .imap es n => wB c.wr <| wG (n ≤ 1000) (K (σ.set k ⟨true, .imap (putKey j v es) (n + 1)⟩))
   | _ => False
  | _ => False)
 | _ => False
/-- xs[lo:hi] of a list -/
noncomputable def boundA (n : Nat) (v : AV) (d : Nat) : Option Nat := match v with
 | .none => some d
 | .int i => some (PySem.clipAt n i)
 | _ => none
noncomputable def wSlice (a lo hi : AV) (σ : Sto) (K : KE) : Prop := match a with
 | .ref k => wLst k σ fun _ xs => wG (xs.length ≤ 100000) (wO (boundA xs.length lo 0) fun l => wO (boundA xs.length hi xs.length) fun h => K (.ref σ.length) (σ ++ [⟨true, .list ((xs.drop l).take (h - l))⟩]))
 | _ => False
noncomputable def noCon : AV → Bool
 | .con _ => false
 | _ => true
noncomputable def wGet (X : Ctx) (a : AV) (name : Str) (σ : Sto) (K : AV → Prop) : Prop := match a with
 | .ref k => wAt k σ fun c => match c.o with
  | .inst C d => wAt d σ fun e => match e.o with
   | .ns es => wB (X.own C name) (wO (es.lookup name) fun v => wB (noCon v) (K v))
   | _ => False
  | _ => False
 | .con c => (match c with
  | .ref C => wO (X.cattr C name) K
  | _ => False)
 | _ => False
noncomputable def putField (name : Str) (v : AV) : List (Str × AV) → List (Str × AV)
 | [] => [(name, v)]
 | (n, u) :: r => if n == name then (n, v) :: r else (n, u) :: putField name v r
noncomputable def wSet (X : Ctx) (a : AV) (name : Str) (v : AV) (σ : Sto) (K : Sto → Prop) : Prop := match a with
 | .ref k => wAt k σ fun c => match c.o with
  | .inst C d => wAt d σ fun e => match e.o with
   | .ns es => wB (e.wr && X.own C name && Nat.ble es.length 100) (K (σ.set d ⟨true, .ns (putField name v es)⟩))
   | _ => False
  | _ => False
 | _ => False
@[irreducible] def lGet (X : Ctx) (a : AV) (name : Str) (σ : Sto) (K : AV → Prop) : Prop := wGet X a name σ K
theorem lGet.out {X : Ctx} {a : AV} {name : Str} {σ : Sto} {K : AV → Prop} (h : lGet X a name σ K) : wGet X a name σ K := by unfold lGet at h; exact h
theorem lGet.mk {X : Ctx} {a : AV} {name : Str} {σ : Sto} {K : AV → Prop} (h : wGet X a name σ K) : lGet X a name σ K := by unfold lGet; exact h
@[irreducible] def lSet (X : Ctx) (a : AV) (name : Str) (v : AV) (σ : Sto) (K : Sto → Prop) : Prop := wSet X a name v σ K
theorem lSet.out {X : Ctx} {a : AV} {name : Str} {v : AV} {σ : Sto} {K : Sto → Prop} (h : lSet X a name v σ K) : wSet X a name v σ K := by unfold lSet at h; exact h
theorem lSet.mk {X : Ctx} {a : AV} {name : Str} {v : AV} {σ : Sto} {K : Sto → Prop} (h : wSet X a name v σ K) : lSet X a name v σ K := by unfold lSet; exact h
@[irreducible] def lItem (a : AV) (i : AV) (σ : Sto) (K : AV → Prop) : Prop := wItem a i σ K
theorem lItem.out {a : AV} {i : AV} {σ : Sto} {K : AV → Prop} (h : lItem a i σ K) : wItem a i σ K := by unfold lItem at h; exact h
theorem lItem.mk {a : AV} {i : AV} {σ : Sto} {K : AV → Prop} (h : wItem a i σ K) : lItem a i σ K := by unfold lItem; exact h
@[irreducible] def lPut (a : AV) (i : AV) (v : AV) (σ : Sto) (K : Sto → Prop) : Prop := wPut a i v σ K
theorem lPut.out {a : AV} {i : AV} {v : AV} {σ : Sto} {K : Sto → Prop} (h : lPut a i v σ K) : wPut a i v σ K := by unfold lPut at h; exact h
theorem lPut.mk {a : AV} {i : AV} {v : AV} {σ : Sto} {K : Sto → Prop} (h : wPut a i v σ K) : lPut a i v σ K := by unfold lPut; exact h
@[irreducible] def lSlice (a : AV) (lo : AV) (hi : AV) (σ : Sto) (K : KE) : Prop := wSlice a lo hi σ K
theorem lSlice.out {a : AV} {lo : AV} {hi : AV} {σ : Sto} {K : KE} (h : lSlice a lo hi σ K) : wSlice a lo hi σ K := by unfold lSlice at h; exact h
theorem lSlice.mk {a : AV} {lo : AV} {hi : AV} {σ : Sto} {K : KE} (h : wSlice a lo hi σ K) : lSlice a lo hi σ K := by unfold lSlice; exact h
@[irreducible] def lCall (call : Addr → List AV → Sto → XE) (f : Addr) (args : List AV) (σ : Sto) (K : KE) : Prop := call f args σ K
theorem lCall.out {call : Addr → List AV → Sto → XE} {f : Addr} {args : List AV} {σ : Sto} {K : KE} (h : lCall call f args σ K) : call f args σ K := by unfold lCall at h; exact h
theorem lCall.mk {call : Addr → List AV → Sto → XE} {f : Addr} {args : List AV} {σ : Sto} {K : KE} (h : call f args σ K) : lCall call f args σ K := by unfold lCall; exact h
/-- iterators -/
inductive It where
 | list (k i : Nat)
 | rng (x : Int) (left : Nat) (st : Int)
 | enum (k i : Nat)
 | fset (k i : Nat)
noncomputable def rangeN (lo hi st : Int) : Nat := (Builtin.Range.rangeSize lo hi st).toNat
noncomputable def rangeFrom (x : Int) (st : Int) : Nat → List AV
 | 0 => []
 | n + 1 => .int x :: rangeFrom (x + st) st n
noncomputable def wIter (a : AV) (σ : Sto) (K : It → Prop) : Prop := match a with
 | .ref k => wAt k σ fun c => match c.o with
  | .list _ => K (.list k 0)
  | .range lo hi st => wG (Builtin.Range.small lo hi st = true) (K (.rng lo (rangeN lo hi st) st))
  | .fset _ => K (.fset k 0)
  | _ => False
 | _ => False
@[irreducible] def lIter (a : AV) (σ : Sto) (K : It → Prop) : Prop := wIter a σ K
theorem lIter.out {a : AV} {σ : Sto} {K : It → Prop} (h : lIter a σ K) : wIter a σ K := by unfold lIter at h; exact h
theorem lIter.mk {a : AV} {σ : Sto} {K : It → Prop} (h : wIter a σ K) : lIter a σ K := by unfold lIter; exact h
noncomputable def wNext (it : It) (σ : Sto) (done : Prop) (K : AV → It → Sto → Prop) : Prop := match it with
 | .list k i => wLst k σ fun _ xs => (match xs[i]? with
  | some x => K x (.list k (i + 1)) σ
  | none => done)
 | .rng x left st => (match left with
  | 0 => done
  | n + 1 => K (.int x) (.rng (x + st) n st) σ)
 | .enum k i => wLst k σ fun _ xs => (match xs[i]? with
  | some x => K (.ref σ.length) (.enum k (i + 1)) (σ ++ [⟨true, .tuple [.int i, x]⟩])
  | none => done)
 | .fset k i => wAt k σ fun c => match c.o with
  | .fset xs => (match xs[i]? with
   | some x => K x (.fset k (i + 1)) σ
   | none => done)
  | _ => False
/-- which of the ints is best, the first of them -/
noncomputable def bestA (lt : Int → Int → Bool) (ns : List Int) : Int := ns.getD (argBest (fun i j => lt (ns.getD i 0) (ns.getD j 0)) (ns.length - 1)) 0
noncomputable def sumA (ns : List Int) : Int := preSum (fun i => ns.getD i 0) ns.length
inductive Fl where
 | next | brk | cont | ret (v : AV)
end Mj
namespace Mj
open PySem PySem.W PyProof.Rows
noncomputable def constA : Const → Option AV
 | .none => some .none
 | .bool b => some (.bool b)
 | .int i => some (.int i)
 | .str s => some (.str s)
 | _ => none
/-- true: a global name; false: a name of the frame -/
noncomputable def kindA (sc : Scope) (x : Str) : Option Bool := match sc.names.lookup x with
 | some .globalImplicit => some true
 | some .local | some .cell | some .free => some false
 | _ => none
noncomputable def nameA (X : Ctx) (sc : Scope) (x : Str) (ae : Loc) : Option AV :=
 if x == ("__debug__" : Str) then none else match kindA sc x with
 | some true => X.glob.lookup x
 | some false => ae.lookup x
 | none => none
noncomputable def asgName (sc : Scope) (x : Str) (v : AV) (ae : Loc) : Option Loc := match sc.names.lookup x with
 | some .local | some .cell => some (putField x v ae)
 | _ => none
noncomputable def ifNone (v : AV) (p : Prop) : Prop := match v with
 | .none => p
 | _ => False
noncomputable def wList (σ : Sto) (v : AV) (K : List AV → Prop) : Prop := match v with
 | .ref k => wLst k σ fun _ xs => K xs
 | _ => False
noncomputable def isInt2 (args : List AV) (K : Int → Int → Prop) (K1 : AV → Prop) : Prop := match args with
 | [] => False
 | a :: r => match r with
  | [] => K1 a
  | b :: r => match r with
   | [] => (match a with
    | .int x => (match b with
     | .int y => K x y
     | _ => False)
    | _ => False)
   | _ :: _ => False
noncomputable def wBuiltin (id : String) (args : List AV) (σ : Sto) (K : KE) : Prop :=
 if id = "len" then isInt2 args (fun _ _ => False) fun a => wList σ a fun xs => wG (xs.length ≤ 100000) (K (.int xs.length) σ)
 else if id = "sum" then isInt2 args (fun _ _ => False) fun a => wList σ a fun xs => wNums xs fun ns => K (.int (sumA ns)) σ
 else if id = "any" then isInt2 args (fun _ _ => False) fun a => wList σ a fun xs => wInts xs fun ns => K (.bool ((List.range ns.length).any fun i => ns.getD i 0 != 0)) σ
 else if id = "min" then isInt2 args (fun a b => K (.int (if b < a then b else a)) σ) fun a => wList σ a fun xs => wInts xs fun ns => wG (ns ≠ []) (K (.int (bestA (fun x y => decide (x < y)) ns)) σ)
 else if id = "max" then isInt2 args (fun a b => K (.int (if b > a then b else a)) σ) fun a => wList σ a fun xs => wInts xs fun ns => wG (ns ≠ []) (K (.int (bestA (fun x y => decide (x > y)) ns)) σ)
 else False
noncomputable def wRange (args : List AV) (K : Int → Int → Int → Prop) : Prop := match args with
 | [] => False
 | a :: r => match a with
  | .int x => (match r with
   | [] => K 0 x 1
   | b :: r => match b with
    | .int y => (match r with
     | [] => K x y 1
     | c :: r => match c with
      | .int z => (match r with
       | [] => wG (z ≠ 0 ∧ z.natAbs < 2 ^ 29) (K x y z)
       | _ :: _ => False)
      | _ => False)
    | _ => False)
  | _ => False
noncomputable def wListOf (args : List AV) (σ : Sto) (K : KE) : Prop := match args with
 | [] => False
 | a :: r => match r with
  | [] => (match a with
   | .ref k => wAt k σ fun c => match c.o with
    | .list xs => wG (xs.length ≤ 100000) (K (.ref σ.length) (σ ++ [⟨true, .list xs⟩]))
    | .range lo hi st => wG (Builtin.Range.small lo hi st = true ∧ rangeN lo hi st ≤ 100000) (K (.ref σ.length) (σ ++ [⟨true, .list (rangeFrom lo st (rangeN lo hi st))⟩]))
    | _ => False
   | _ => False)
  | _ :: _ => False
noncomputable def wType (T : String) (args : List AV) (σ : Sto) (K : KE) : Prop :=
 if T = "range" then wRange args fun lo hi st => K (.ref σ.length) (σ ++ [⟨true, .range lo hi st⟩])
 else if T = "list" then wListOf args σ K
 else False
noncomputable def wAppend (k : Nat) (v : AV) (σ : Sto) (K : KE) : Prop := wLst k σ fun b xs => wB b <| wG (xs.length ≤ 100000) (K .none (σ.set k ⟨true, .list (xs ++ [v])⟩))
noncomputable def wExtend (k : Nat) (v : AV) (σ : Sto) (K : KE) : Prop := match v with
 | .ref j => wLst k σ fun b xs => wLst j σ fun _ ys => wB b <| wG (j ≠ k ∧ xs.length + ys.length ≤ 100000) (K .none (σ.set k ⟨true, .list (xs ++ ys)⟩))
 | _ => False
/-- a list's method: true append, false extend -/
noncomputable def listMeth (name : Str) : Option Bool := if name == ("append" : Str) then some true else if name == ("extend" : Str) then some false else none
noncomputable def wMeth (m : Bool) (k : Nat) (args : List AV) (σ : Sto) (K : KE) : Prop := match args with
 | [v] => (match m with
  | true => wAppend k v σ K
  | false => wExtend k v σ K)
 | _ => False
/-- which form an expression has, of those that are told apart -/
noncomputable def tagE : Expr → Nat
 | .Slice .. => 1
 | .Set .. => 2
 | .Tuple .. => 3
 | .List .. => 4
 | .Starred .. => 5
 | .Name .. => 6
 | _ => 0
noncomputable def notSl (e : Expr) : Bool := tagE e != 1
noncomputable def noSet (e : Expr) : Bool := tagE e != 2
noncomputable def isTup (e : Expr) : Bool := tagE e == 3
noncomputable def notStar (e : Expr) : Bool := tagE e != 5
noncomputable def tsTup (ts : List Expr) : Bool := match ts with
 | [t] => tagE t == 3 || tagE t == 4
 | _ => false
/-- no super() -/
noncomputable def baseOk (e : Expr) : Bool := match e with
 | .Call f as ks _ => !(tagE f == 6 && as.isEmpty && ks.isEmpty)
 | _ => true
section
variable (X : Ctx) (call : Addr → List AV → Sto → XE)
noncomputable def evalsA (f : Expr → Loc → Sto → XE) : List Expr → Loc → Sto → (List AV → Sto → Prop) → Prop
 | [], _, σ, K => K [] σ
 | e :: r, ae, σ, K => f e ae σ fun v σ => evalsA f r ae σ fun vs σ => K (v :: vs) σ
noncomputable def boolA (f : Expr → Loc → Sto → XE) (op : BoolOp) : List Expr → Loc → Sto → XE
 | [], _, _, _ => False
 | e :: r, ae, σ, K => match r with
  | [] => f e ae σ K
  | _ :: _ => f e ae σ fun v σ => wTruth σ v fun t => match op with
   | .And => wIf t (boolA f op r ae σ K) (K v σ)
   | .Or => wIf t (K v σ) (boolA f op r ae σ K)
noncomputable def allA (f : Expr → Loc → Sto → (Bool → Sto → Prop) → Prop) (op : BoolOp) : List Expr → Loc → Sto → (Bool → Sto → Prop) → Prop
 | [], _, σ, K => K (match op with | .And => true | .Or => false) σ
 | e :: r, ae, σ, K => f e ae σ fun t σ => match op with
  | .And => wIf t (allA f op r ae σ K) (K false σ)
  | .Or => wIf t (K true σ) (allA f op r ae σ K)
noncomputable def constIntsA : List Expr → Option (List Int)
 | [] => some []
 | .Constant (.int i) _ _ :: r => (constIntsA r).map (i :: ·)
 | _ => none
/-- a call of a value that is no method's -/
noncomputable def wApply (f : AV) (args : List AV) (σ : Sto) (K : KE) : Prop := match f with
 | .con c => (match c with
  | .builtin id => wBuiltin id args σ K
  | .type T => wType T args σ K
  | .ref a => (match X.cls a with
   | some ini => lCall call ini (.ref (σ.length + 1) :: args) (σ ++ [⟨true, .ns []⟩, ⟨true, .inst a σ.length⟩]) fun v σ' => ifNone v (K (.ref (σ.length + 1)) σ')
   | none => lCall call a args σ K)
  | _ => False)
 | _ => False
/-- a callee that is known -/
noncomputable def calleeOk (f : AV) : Bool := match f with
 | .con c => (match c with
  | .builtin _ => true
  | .type _ => true
  | .ref a => (X.cls a).isSome || (X.fn a).isSome
  | _ => false)
 | _ => false
noncomputable def compOk (sc scope : Scope) (ae : Loc) : Bool := scope.kind == .function && (scope.names.lookup ("__classdict__" : Str)).isNone && scope.names.all fun p => p.2 != .cell && scope.names.lookup p.1 == some p.2 && (if p.2 == .free then (ae.lookup p.1).isSome && (sc.names.lookup p.1 == some .cell || sc.names.lookup p.1 == some .free) else true)
/-- who answers to o.name(..): a function with its first arguments, or a list's own method -/
noncomputable def wResolve (o : AV) (name : Str) (σ : Sto) (Kf : Addr → List AV → Prop) (Kl : Nat → Bool → Prop) : Prop := match o with
 | .con c => (match c with
  | .ref C => wO (X.stat C name) fun f => Kf f []
  | _ => False)
 | .ref k => wAt k σ fun c => match c.o with
  | .inst C d => wAt d σ fun e => match e.o with
   | .ns es => wB (es.lookup name).isNone (wO (X.meth C name) fun f => Kf f [.ref k])
   | _ => False
  | .list _ => wO (listMeth name) fun m => Kl k m
  | _ => False
 | _ => False
end
@[irreducible] def lRes (X : Ctx) (o : AV) (name : Str) (σ : Sto) (Kf : Addr → List AV → Prop) (Kl : Nat → Bool → Prop) : Prop := wResolve X o name σ Kf Kl
theorem lRes.out {X : Ctx} {o : AV} {name : Str} {σ : Sto} {Kf : Addr → List AV → Prop} {Kl : Nat → Bool → Prop} (h : lRes X o name σ Kf Kl) : wResolve X o name σ Kf Kl := by unfold lRes at h; exact h
theorem lRes.mk {X : Ctx} {o : AV} {name : Str} {σ : Sto} {Kf : Addr → List AV → Prop} {Kl : Nat → Bool → Prop} (h : wResolve X o name σ Kf Kl) : lRes X o name σ Kf Kl := by unfold lRes; exact h
section
variable (X : Ctx) (call : Addr → List AV → Sto → XE)
/-- a loop over an iterator, its state a -/
noncomputable def wLoop {α : Type} (turn : AV → α → Sto → (α → Sto → Prop) → Prop) : Nat → It → α → Sto → (α → Sto → Prop) → Prop
 | 0, _, _, _, _ => False
 | n + 1, it, a, σ, K => wNext it σ (K a σ) fun v it' σ => ∃ K0, turn v a σ K0 ∧ ∀ a σ, K0 a σ → wLoop turn n it' a σ K
noncomputable def turnG (sc : Scope) (x : Str) (tests : Loc → Sto → (Bool → Sto → Prop) → Prop) (body : Loc → Sto → (Loc → Sto → Prop) → Prop) (v : AV) (ae : Loc) (σ : Sto) (K : Loc → Sto → Prop) : Prop :=
 wB (sc.names.lookup x == some .local) <| tests (putField x v ae) σ fun ok σ => wIf ok (body (putField x v ae) σ K) (K (putField x v ae) σ)
mutual
noncomputable def evalE : Nat → Scope → Expr → Loc → Sto → XE
 | 0, _, _, _, _, _ => False
 | n + 1, sc, e, ae, σ, K => match e with
  | .Constant c _ _ => wO (constA c) fun v => K v σ
  | .Name x _ => wO (nameA X sc x ae) fun v => K v σ
  | .BinOp l op r _ => evalE n sc l ae σ fun a σ => evalE n sc r ae σ fun b σ => wBin op a b σ K
  | .UnaryOp op x _ => evalE n sc x ae σ fun a σ => wUn op a σ fun v => K v σ
  | .BoolOp op vs _ => boolA (evalE n sc) op vs ae σ K
  | .IfExp t b o _ => testE n sc t ae σ fun c σ => wIf c (evalE n sc b ae σ K) (evalE n sc o ae σ K)
  | .Compare l ops rs _ => (match ops with
   | [op] => (match rs with
    | [r] => cmpE n sc l op r ae σ fun b σ => K (.bool b) σ
    | _ => False)
   | _ => False)
  | .List es _ => wB (Nat.ble es.length 1000 && es.all notStar) <| evalsA (evalE n sc) es ae σ fun vs σ => K (.ref σ.length) (σ ++ [⟨true, .list vs⟩])
  | .Tuple es _ _ => wB (Nat.ble es.length 1000 && es.all notStar) <| evalsA (evalE n sc) es ae σ fun vs σ => K (.ref σ.length) (σ ++ [⟨true, .tuple vs⟩])
  | .Dict ks vs _ => (match ks with
   | [some ke] => (match vs with
    | [ve] => evalE n sc ke ae σ fun k σ => evalE n sc ve ae σ fun v σ => (match k with
     | .int i => K (.ref σ.length) (σ ++ [⟨true, .imap [(i, v)] 1⟩])
     | _ => False)
    | _ => False)
   | _ => False)
  | .Subscript v i _ => (match i with
   | .Slice lo hi st _ => (match st with
    | none => evalE n sc v ae σ fun a σ => partE n sc lo ae σ fun l σ => partE n sc hi ae σ fun h σ => lSlice a l h σ K
    | some _ => False)
   | i => evalE n sc v ae σ fun a σ => evalE n sc i ae σ fun b σ => lItem a b σ fun u => K u σ)
  | .Attribute v name _ => wB (baseOk v) <| evalE n sc v ae σ fun a σ => lGet X a name σ fun u => K u σ
  | .Call f args ks pos => (match ks with
   | [] => (match f with
    | .Attribute o name apos => wB (baseOk o && apos.endLine == pos.line && Nat.ble args.length 19 && args.all notStar) <| evalE n sc o ae σ fun a σ =>
      lRes X a name σ (fun g first => wB (X.fn g).isSome <| evalsA (evalE n sc) args ae σ fun vs σ => lCall call g (first ++ vs) σ K) fun k m => evalsA (evalE n sc) args ae σ fun vs σ => wMeth m k vs σ K
    | f => wB (args.all notStar) <| evalE n sc f ae σ fun a σ => wB (calleeOk X a) <| evalsA (evalE n sc) args ae σ fun vs σ => wApply X call a vs σ K)
   | _ => False)
  | .ListComp elt gens scope _ => (match gens with
   | ⟨t, iter, ifs, as⟩ :: gs => wB (compOk sc scope ae && noSet iter && as == 0) <| evalE n sc iter ae σ fun x σ => lIter x σ fun it =>
     lockG <| gensA n scope elt σ.length (⟨t, iter, ifs, as⟩ :: gs) it (ae.filter fun p => scope.names.lookup p.1 == some .free) (σ ++ [⟨true, .list []⟩]) fun _ σ' => K (.ref σ.length) σ'
   | [] => False)
  | _ => False
noncomputable def partE : Nat → Scope → Option Expr → Loc → Sto → XE
 | 0, _, _, _, _, _ => False
 | n + 1, sc, e, ae, σ, K => match e with
  | none => K .none σ
  | some e => evalE n sc e ae σ K
noncomputable def cmpE : Nat → Scope → Expr → CmpOp → Expr → Loc → Sto → (Bool → Sto → Prop) → Prop
 | 0, _, _, _, _, _, _, _ => False
 | n + 1, sc, l, op, r, ae, σ, K => match r with
  | .Set es k _ => wB (k == 0 && Nat.ble es.length 2 && op == .In) <| evalE n sc l ae σ fun a σ => (match a with
   | .int x => wO (constIntsA es) fun ns => K (ns.contains x) σ
   | _ => False)
  | r => evalE n sc l ae σ fun a σ => evalE n sc r ae σ fun b σ => wCmp op a b σ fun c => K c σ
noncomputable def testE : Nat → Scope → Expr → Loc → Sto → (Bool → Sto → Prop) → Prop
 | 0, _, _, _, _, _ => False
 | n + 1, sc, e, ae, σ, K => match e with
  | .UnaryOp op x p => (match op with
   | .Not => testE n sc x ae σ fun b σ => K (!b) σ
   | op => evalE n sc (.UnaryOp op x p) ae σ fun v σ => wTruth σ v fun b => K b σ)
  | .BoolOp op vs _ => allA (testE n sc) op vs ae σ K
  | .IfExp t b o _ => testE n sc t ae σ fun c σ => wIf c (testE n sc b ae σ K) (testE n sc o ae σ K)
  | .Compare l ops rs _ => (match ops with
   | [op] => (match rs with
    | [r] => cmpE n sc l op r ae σ K
    | _ => False)
   | _ => False)
  | e => evalE n sc e ae σ fun v σ => wTruth σ v fun b => K b σ
noncomputable def gensA : Nat → Scope → Expr → Nat → List Comprehension → It → Loc → Sto → (Loc → Sto → Prop) → Prop
 | 0, _, _, _, _, _, _, _, _ => False
 | n + 1, sc, elt, k, gens, it, ae, σ, K => match gens with
  | ⟨t, _, ifs, as⟩ :: gs => wB (as == 0) (match t with
   | .Name x _ => (match gs with
    | [] => wLoop (turnG sc x (allA (testE n sc) .And ifs) fun ae σ K => evalE n sc elt ae σ fun u σ => wAppend k u σ fun _ σ => K ae σ) X.N it ae σ K
    | _ :: _ => False)
   | _ => False)
  | [] => False
end
noncomputable abbrev KS := Fl → Loc → Sto → Prop
noncomputable abbrev XS := KS → Prop
noncomputable def seqA (f : Stmt → Loc → Sto → XS) : List Stmt → Loc → Sto → XS
 | [], ae, σ, K => K .next ae σ
 | s :: r, ae, σ, K => ∃ K0, f s ae σ K0 ∧ ∀ fl ae σ, K0 fl ae σ → match fl with
  | .next => seqA f r ae σ K
  | .brk => K .brk ae σ
  | .cont => K .cont ae σ
  | .ret v => K (.ret v) ae σ
noncomputable def whileA (test : Loc → Sto → (Bool → Sto → Prop) → Prop) (body : Loc → Sto → XS) : Nat → Loc → Sto → XS
 | 0, _, _, _ => False
 | n + 1, ae, σ, K => test ae σ fun c σ => wIf c (∃ K0, body ae σ K0 ∧ ∀ fl ae σ, K0 fl ae σ → match fl with
   | .next => whileA test body n ae σ K
   | .cont => whileA test body n ae σ K
   | .brk => K .next ae σ
   | .ret v => K (.ret v) ae σ) (K .next ae σ)
noncomputable def forA (asg : AV → Loc → Sto → (Loc → Sto → Prop) → Prop) (body : Loc → Sto → XS) : Nat → It → Loc → Sto → XS
 | 0, _, _, _, _ => False
 | n + 1, it, ae, σ, K => wNext it σ (K .next ae σ) fun v it' σ => ∃ K0, (asg v ae σ fun ae σ => body ae σ K0) ∧ ∀ fl ae σ, K0 fl ae σ → match fl with
   | .next => forA asg body n it' ae σ K
   | .cont => forA asg body n it' ae σ K
   | .brk => K .next ae σ
   | .ret v => K (.ret v) ae σ
/-- the items of a tuple, as many as names -/
noncomputable def wUnpack (v : AV) (n : Nat) (σ : Sto) (K : List AV → Prop) : Prop := match v with
 | .ref k => wAt k σ fun c => match c.o with
  | .tuple xs => wG (xs.length = n) (K xs)
  | _ => False
 | _ => False
noncomputable def namesA : List Expr → Option (List Str)
 | [] => some []
 | .Name x _ :: r => (namesA r).map (x :: ·)
 | _ => none
noncomputable def asgNames (sc : Scope) : List Str → List AV → Loc → Option Loc
 | [], [], ae => some ae
 | x :: xs, v :: vs, ae => (asgName sc x v ae).bind fun ae => asgNames sc xs vs ae
 | _, _, _ => none
noncomputable def asgA (n : Nat) (sc : Scope) (t : Expr) (v : AV) (ae : Loc) (σ : Sto) (K : Loc → Sto → Prop) : Prop := match t with
 | .Name x _ => wO (asgName sc x v ae) fun ae => K ae σ
 | .Attribute o name _ => evalE X call n sc o ae σ fun a σ => lSet X a name v σ fun σ => K ae σ
 | .Subscript o i _ => wB (notSl i) <| evalE X call n sc o ae σ fun a σ => evalE X call n sc i ae σ fun b σ => lPut a b v σ fun σ => K ae σ
 | .Tuple ts _ _ => wO (namesA ts) fun xs => wUnpack v xs.length σ fun vs => wO (asgNames sc xs vs ae) fun ae => K ae σ
 | _ => False
noncomputable def wEnumK (a : AV) (σ : Sto) (K : It → Sto → Prop) : Prop := match a with
 | .ref k => wLst k σ fun _ _ => K (.enum k 0) σ
 | _ => False
/-- enumerate(x) -/
noncomputable def enumArg (sc : Scope) (e : Expr) (ae : Loc) : Option Expr := match e with
 | .Call (.Name f _) [x] [] _ => match nameA X sc f ae with
  | some (.con (.type "enumerate")) => some x
  | _ => none
 | _ => none
noncomputable def wIterE (n : Nat) (sc : Scope) (t e : Expr) (ae : Loc) (σ : Sto) (K : It → Sto → Prop) : Prop := match enumArg X sc e ae with
 | some x => wB (isTup t && notStar x) <| evalE X call n sc x ae σ fun a σ => wEnumK a σ K
 | none => wB (noSet e) <| evalE X call n sc e ae σ fun a σ => lIter a σ fun it => K it σ
noncomputable def execS : Nat → Scope → Stmt → Loc → Sto → XS
 | 0, _, _, _, _, _ => False
 | n + 1, sc, s, ae, σ, K => match s with
  | .Expr e _ => (match e with
   | .Call f as ks p => evalE X call n sc (.Call f as ks p) ae σ fun v σ => ifNone v (K .next ae σ)
   | _ => False)
  | .Pass _ => K .next ae σ
  | .Break _ => K .brk ae σ
  | .Continue _ => K .cont ae σ
  | .Return e _ => (match e with
   | none => K (.ret .none) ae σ
   | some e => evalE X call n sc e ae σ fun v σ => K (.ret v) ae σ)
  | .Assign ts e _ => wB (!(isTup e && tsTup ts)) (match ts with
   | [t] => evalE X call n sc e ae σ fun v σ => asgA X call n sc t v ae σ fun ae σ => K .next ae σ
   | [t, t'] => evalE X call n sc e ae σ fun v σ => asgA X call n sc t v ae σ fun ae σ => asgA X call n sc t' v ae σ fun ae σ => K .next ae σ
   | _ => False)
  | .AugAssign t op e _ => (match t with
   | .Name x _ => wO (nameA X sc x ae) fun a => evalE X call n sc e ae σ fun b σ => wAug op a b σ fun v σ => wO (asgName sc x v ae) fun ae => K .next ae σ
   | .Attribute o name _ => evalE X call n sc o ae σ fun a σ => lGet X a name σ fun u => evalE X call n sc e ae σ fun b σ => wAug op u b σ fun v σ => lSet X a name v σ fun σ => K .next ae σ
   | .Subscript o i _ => wB (notSl i) <| evalE X call n sc o ae σ fun a σ => evalE X call n sc i ae σ fun j σ => lItem a j σ fun u => evalE X call n sc e ae σ fun b σ =>
     wAug op u b σ fun v σ => lPut a j v σ fun σ => K .next ae σ
   | _ => False)
  | .If t b o _ => testE X call n sc t ae σ fun c σ => wIf c (seqA (execS n sc) b ae σ K) (seqA (execS n sc) o ae σ K)
  | .While t b o _ => wB o.isEmpty <| lockW <| whileA (testE X call n sc t) (seqA (execS n sc) b) X.N ae σ K
  | .For t e b o _ => wB o.isEmpty <| wIterE X call n sc t e ae σ fun it σ => lockF <| forA (asgA X call n sc t) (seqA (execS n sc) b) X.N it ae σ K
  | _ => False
end
noncomputable def bindA (fn : Fn) (args : List AV) : Option Loc :=
 if args.length ≤ fn.params.length ∧ fn.params.length ≤ args.length + fn.dflts.length then
  some (fn.params.zip (args ++ fn.dflts.drop (args.length + fn.dflts.length - fn.params.length))) else none
noncomputable def callA (X : Ctx) : Nat → Addr → List AV → Sto → XE
 | 0, _, _, _, _ => False
 | n + 1, f, args, σ, K => wO (X.fn f) fun fn => wO (bindA fn args) fun ae => seqA (execS X (callA X n) 40 fn.scope) fn.body ae σ fun fl _ σ => match fl with
  | .next => K .none σ
  | .ret v => K v σ
  | _ => False
end Mj
namespace Mj
open PySem PySem.W PyProof.Rows PySem.Spec
variable [SetW]
structure Same (s s' : Shared) : Prop where
 gens : s'.gens = s.gens
 os : s'.os = s.os
theorem Same.rfl' {s : Shared} : Same s s := ⟨rfl, rfl⟩
theorem Same.trans {a b c : Shared} (x : Same a b) (y : Same b c) : Same a c := ⟨y.gens.trans x.gens, y.os.trans x.os⟩
/-- what holds behind a step that leaves the ledger as it was -/
noncomputable def Outs {α : Type} (B : Heap) (F : List (Addr × Obj)) (ρ : Rho) (σ' : Sto) (s : Shared) (P : Rho → α → Prop) (Q : α → Shared → Prop) : Prop :=
 ∀ (ρ' : Rho) (v : α) (s' : Shared), ρ <+: ρ' → HR B F ρ' σ' s'.heap → P ρ' v → Same s s' → Q v s'
section
variable {prog : Program} {w : World} {A : Around} {E : Value → Shared → Prop} {B : Heap} {F : List (Addr × Obj)} {ρ : Rho} {σ σ' : Sto} {s : Shared} {Q : Value → Shared → Prop}
theorem Outs.int (H : HR B F ρ σ s.heap) {i : Int} (h : Outs B F ρ σ s (VR · (.int i)) Q) : Q (.int i s.toks) { s with toks := s.toks + 1 } :=
 h ρ _ _ (List.prefix_refl _) H ⟨_, rfl⟩ ⟨rfl, rfl⟩
theorem Outs.bool (H : HR B F ρ σ s.heap) {b : Bool} (h : Outs B F ρ σ s (VR · (.bool b)) Q) : Q (.bool b) s :=
 h ρ _ _ (List.prefix_refl _) H rfl ⟨rfl, rfl⟩
theorem Outs.newList (H : HR B F ρ σ s.heap) {xs : List AV} {vs : Array Value} (hv : VRs ρ xs vs.toList) (h : Outs B F ρ (σ ++ [⟨true, .list xs⟩]) s (VR · (.ref σ.length)) Q) :
  Q (.ref s.heap.objs.size) { s with heap := s.heap.push { cls := .type "list", data := .seq vs } } := by
 refine h (ρ ++ [s.heap.objs.size]) _ _ (List.prefix_append _ _) (H.alloc (fun _ _ e => Heap.get?_push_of_some _ e) (Nat.le_refl _) ?_) ⟨_, ?_, rfl⟩ ⟨rfl, rfl⟩
 ·exact ⟨vs, 0, Heap.get?_push_size _ rfl, hv.mono (List.prefix_append _ _)⟩
 ·rw [← H.len]; simp
theorem Outs.newTuple (H : HR B F ρ σ s.heap) {xs : List AV} {vs : Array Value} (hv : VRs ρ xs vs.toList) (h : Outs B F ρ (σ ++ [⟨true, .tuple xs⟩]) s (VR · (.ref σ.length)) Q) :
  Q (.ref s.heap.objs.size) { s with heap := s.heap.push { cls := .type "tuple", data := .seq vs } } := by
 refine h (ρ ++ [s.heap.objs.size]) _ _ (List.prefix_append _ _) (H.alloc (fun _ _ e => Heap.get?_push_of_some _ e) (Nat.le_refl _) ?_) ⟨_, ?_, rfl⟩ ⟨rfl, rfl⟩
 ·exact ⟨vs, 0, Heap.get?_push_size _ rfl, hv.mono (List.prefix_append _ _)⟩
 ·rw [← H.len]; simp
theorem listAt (H : HR B F ρ σ s.heap) {k : Nat} {b : Bool} {xs : List AV} {rv : Value} (e : σ[k]? = some ⟨b, .list xs⟩) (hr : VR ρ (.ref k) rv) :
  ∃ a vs n, rv = .ref a ∧ ρ[k]? = some a ∧ s.heap.get? a = some { cls := .type "list", data := .seq vs n } ∧ VRs ρ xs vs.toList := by
 obtain ⟨a, ea, rfl⟩ := hr
 obtain ⟨vs, n, h1, h2⟩ := H.obj k _ a e ea
 exact ⟨a, vs, n, rfl, ea, h1, h2⟩
theorem tupleAt (H : HR B F ρ σ s.heap) {k : Nat} {b : Bool} {xs : List AV} {rv : Value} (e : σ[k]? = some ⟨b, .tuple xs⟩) (hr : VR ρ (.ref k) rv) :
  ∃ a vs n, rv = .ref a ∧ ρ[k]? = some a ∧ s.heap.get? a = some { cls := .type "tuple", data := .seq vs n } ∧ VRs ρ xs vs.toList := by
 obtain ⟨a, ea, rfl⟩ := hr
 obtain ⟨vs, n, h1, h2⟩ := H.obj k _ a e ea
 exact ⟨a, vs, n, rfl, ea, h1, h2⟩
/-- a step's real side: more objects known, the ledger and the rest as they were -/
structure Go (B : Heap) (F : List (Addr × Obj)) (ρ : Rho) (s : Shared) (ρ' : Rho) (σ' : Sto) (s' : Shared) : Prop where
 pre : ρ <+: ρ'
 H : HR B F ρ' σ' s'.heap
 same : Same s s'
theorem Go.refl (H : HR B F ρ σ s.heap) : Go B F ρ s ρ σ s := ⟨List.prefix_refl _, H, rfl, rfl⟩
theorem Go.trans {ρ1 ρ2 : Rho} {s1 s2 : Shared} {σ1 σ2 : Sto} (g : Go B F ρ s ρ1 σ1 s1) (k : Go B F ρ1 s1 ρ2 σ2 s2) : Go B F ρ s ρ2 σ2 s2 := ⟨g.pre.trans k.pre, k.H, g.same.trans k.same⟩
/-- what is wanted of the rest: of a value, a truth, values, nothing -/
noncomputable def PE (B : Heap) (F : List (Addr × Obj)) (ρ : Rho) (s : Shared) (K : KE) (Q : Value → Shared → Prop) : Prop := ∀ ρ' v rv σ' s', Go B F ρ s ρ' σ' s' → VR ρ' v rv → K v σ' → Q rv s'
noncomputable def PB (B : Heap) (F : List (Addr × Obj)) (ρ : Rho) (s : Shared) (K : Bool → Sto → Prop) (Q : Bool → Shared → Prop) : Prop := ∀ ρ' b σ' s', Go B F ρ s ρ' σ' s' → K b σ' → Q b s'
noncomputable def PL (B : Heap) (F : List (Addr × Obj)) (ρ : Rho) (s : Shared) (K : List AV → Sto → Prop) (Q : List Value → Shared → Prop) : Prop := ∀ ρ' vs rs σ' s', Go B F ρ s ρ' σ' s' → VRs ρ' vs rs → K vs σ' → Q rs s'
theorem PE.after {K : KE} {ρ1 : Rho} {s1 : Shared} {σ1 : Sto} (h : PE B F ρ s K Q) (g : Go B F ρ s ρ1 σ1 s1) : PE B F ρ1 s1 K Q := fun _ _ _ _ _ k hv x => h _ _ _ _ _ (g.trans k) hv x
theorem PB.after {K : Bool → Sto → Prop} {Q : Bool → Shared → Prop} {ρ1 : Rho} {s1 : Shared} {σ1 : Sto} (h : PB B F ρ s K Q) (g : Go B F ρ s ρ1 σ1 s1) : PB B F ρ1 s1 K Q := fun _ _ _ _ k x => h _ _ _ _ (g.trans k) x
theorem PL.after {K : List AV → Sto → Prop} {Q : List Value → Shared → Prop} {ρ1 : Rho} {s1 : Shared} {σ1 : Sto} (h : PL B F ρ s K Q) (g : Go B F ρ s ρ1 σ1 s1) : PL B F ρ1 s1 K Q := fun _ _ _ _ _ k hv x => h _ _ _ _ _ (g.trans k) hv x
theorem PE.outs {K : KE} {v : AV} (h : PE B F ρ s K Q) (k : K v σ') : Outs B F ρ σ' s (VR · v) Q := fun _ _ _ p H hv hs => h _ _ _ _ _ ⟨p, H, hs⟩ hv k
theorem PE.ret {K : KE} {v : AV} {rv : Value} (h : PE B F ρ s K Q) (H : HR B F ρ σ s.heap) (hv : VR ρ v rv) (k : K v σ) : Q rv s := h _ _ _ _ _ (.refl H) hv k
theorem PB.ret {K : Bool → Sto → Prop} {Q : Bool → Shared → Prop} {b : Bool} (h : PB B F ρ s K Q) (H : HR B F ρ σ s.heap) (k : K b σ) : Q b s := h _ _ _ _ (.refl H) k
theorem sizeLine_big {n : Nat} (h : n ≤ 100000) : n ≤ sizeLine := by rw [sizeLine_eq]; lia
theorem mulOk_of_small {x y : Int} (hx : small x) : IntMulOk x y := by
 have := intBits_le (a := x) hx
 exact IntMulOk.of_left this
/-- list + list -/
theorem concatL {l b : Addr} {xs ys : Array Value} {n m : Nat} (ho : s.heap.get? l = some { cls := .type "list", data := .seq xs n }) (ho2 : s.heap.get? b = some { cls := .type "list", data := .seq ys m }) (hsz : xs.size + ys.size ≤ sizeLine)
  (h : Q (.ref s.heap.objs.size) { s with heap := s.heap.push { cls := .type "list", data := .seq (xs ++ ys) } }) : wpAny (model prog w) A (binaryOp .Add (.ref l) (.ref b)) Q E s :=
 concat_meets ⟨_, ho, rfl⟩ ⟨_, ho2, rfl⟩ noFill_list_add seq_list_add PySem.F.slot_list_add PySem.F.entry_list_add (PySem.F.args_list_add_2 _ _) (list_addW l b xs ys n m none none #[] #[] hsz) ⟨ho, ho2, h⟩
theorem repL {l : Addr} {items : Array Value} {k : Nat} {x : Int} {u : Tok} (hl : s.heap.get? l = some { cls := .type "list", data := .seq items k })
  (hlo : -(2 ^ 63 : Int) ≤ x) (hhi : x < 2 ^ 63) (hsz : items.size * x.toNat ≤ 2 ^ 24)
  (h : Q (.ref s.heap.objs.size) { s with heap := s.heap.push { cls := .type "list", data := .seq (List.foldl (fun x1 x2 => x1 ++ x2) #[] (List.replicate (if items.isEmpty = true then 0 else x.toNat) items)) } }) :
  wpAny (model prog w) A (binaryOp .Mult (.ref l) (.int x u)) Q E s :=
 wpAny_binaryOp_repeat_ref (T := "list") (U := "int") (by decide) ⟨_, hl, rfl⟩ (fun s' => typeIs_int s' x u) noFill_list_mul PySem.F.fills_int_mul PySem.F.slot_int_rmul repeat_list PySem.F.slot_int_index.lookup
  (call_meets PySem.F.slot_int_rmul (typeIs_int s x u) PySem.F.entry_int_rmul (PySem.F.args_int_rmul_2 _ _) (int___rmul___int_list x u l items k)
   ⟨hl, rfl, ⟨_, hl, rfl⟩, call_meets PySem.F.slot_list_mul ⟨_, hl, rfl⟩ PySem.F.entry_list_mul (PySem.F.args_list_mul_2 _ _)
    (AutoListH.list___mul___list_int_3 l items k x u (by simp [Builtin.List.listFitsIndex]; lia) (by lia) (by simp [Builtin.List.listTooLong, sizeLine]; lia))
    ⟨hl, h⟩⟩)
theorem VRs.rep {xs : List AV} {vs : List Value} (h : VRs ρ xs vs) : ∀ k : Nat, VRs ρ (List.replicate k xs).flatten (List.replicate k vs).flatten
 | 0 => by simp [VRs]
 | k + 1 => by simpa [List.replicate_succ] using h.append (h.rep k)
end
end Mj
namespace Mj
open PySem PySem.W PyProof.Rows PySem.Spec
variable [SetW]
section
variable {prog : Program} {w : World} {A : Around} {E : Value → Shared → Prop} {B : Heap} {F : List (Addr × Obj)} {ρ : Rho} {σ σ' : Sto} {s : Shared} {Q : Value → Shared → Prop}
theorem lshift_bool_int {p : Bool} {n : Int} {u : Tok} (h0 : 0 ≤ n) (h1 : n ≤ 1000) (h : Q (.int (b2iA p * 2 ^ n.toNat) s.toks) { s with toks := s.toks + 1 }) :
  wpAny (model prog w) A (binaryOp .LShift (.bool p) (.int n u)) Q E s := by
 refine wpAny_binaryOp_two (op := .LShift) (T := "bool") (U := "int") (by decide) rfl (fun s' => typeIs_int s' n u) PySem.F.fills_bool_lshift PySem.F.fills_int_lshift PySem.F.sub_int_bool PySem.F.slot_bool_lshift PySem.F.slot_int_rlshift ?_
 refine wpAny_call_entry PySem.F.slot_bool_lshift rfl PySem.F.entry_int_lshift ?_ (PySem.F.args_int_lshift_2 _ _)
 show wpAny _ _ (if n < 0 then _ else _) _ _ s
 rw [if_neg (by lia)]
 have hsz : (Builtin.Int.intBits (b2iA p) : Int) + n ≤ 2 ^ 27 := bits_add_le (by cases p <;> decide) (by lia)
 show wpAny _ _ (if (b2iA p == 0) = true then _ else _) _ _ s
 by_cases hz : b2iA p = 0
 ·rw [if_pos (by simpa using hz)]
  have e : b2iA p * 2 ^ n.toNat = 0 := by rw [hz]; exact Int.zero_mul _
  rw [e] at h
  repeat (first | refine wpAny_pure ?_ | refine wpAny_mkInt ?_ | refine wpAny_rule ?_ | refine wpAny_bind ?_)
  exact ⟨_, rfl, .inl ⟨by simp, h⟩⟩
 rw [if_neg (by simpa using hz)]
 have h3 : ¬ (((Builtin.Int.intBits (b2iA p) : Int) + 29) / 30 + n / 30 + (if n % 30 == 0 then 0 else 1) > Builtin.maxDigits) := by
  unfold Builtin.maxDigits
  split <;> lia
 show wpAny _ _ (if ((Builtin.Int.intBits (b2iA p) : Int) + 29) / 30 + n / 30 + (if n % 30 == 0 then 0 else 1) > Builtin.maxDigits then _ else _) _ _ s
 rw [if_neg h3]
 have hbig : Builtin.Int.intTooBig ((Builtin.Int.intBits (b2iA p) : Int) + n) = false := decide_eq_false (Int.not_lt.mpr hsz)
 show wpAny _ _ (if Builtin.Int.intTooBig ((Builtin.Int.intBits (b2iA p) : Int) + n) = true then _ else _) _ _ s
 rw [if_neg (by rw [hbig]; exact Bool.false_ne_true)]
 repeat (first | refine wpAny_pure ?_ | refine wpAny_mkInt ?_ | refine wpAny_rule ?_ | refine wpAny_bind ?_)
 exact ⟨_, rfl, .inl ⟨by simp, h⟩⟩
theorem arith_ok {op : Operator} {x y : Int} {t u : Tok} {K : KE} (h : wArith op x y fun v => K v σ) (H : HR B F ρ σ s.heap) (hQ : PE B F ρ s K Q) : wpAny (model prog w) A (binaryOp op (.int x t) (.int y u)) Q E s := by
 cases op with
 | Add => exact wpAny_add_int (Outs.int H (hQ.outs h))
 | Sub => exact sub_int' (Outs.int H (hQ.outs h))
 | Mult => exact mul_int (Outs.int H (hQ.outs h.out.2)) (mulOk_of_small h.out.1.1)
 | FloorDiv => exact floordiv_int (Int.ne_of_gt h.out.1.1) (Outs.int H (hQ.outs h.out.2)) (.inl (PyProof.noPylong_small (by have := h.out.1; lia)))
 | Mod => exact mod_int' h.out.1 (Outs.int H (hQ.outs h.out.2))
 | LShift => exact lshift_int_small h.out.1.1 (by have := h.out.1.2.1; lia) h.out.1.2.2 (Outs.int H (hQ.outs h.out.2))
 | RShift => exact rshift_int h.out.1 (Outs.int H (hQ.outs h.out.2))
 | BitAnd => exact and_int (Outs.int H (hQ.outs h))
 | BitOr => exact or_int (Outs.int H (hQ.outs h))
 | _ => exact h.elim
theorem cat_ok {op : Operator} {i j : Nat} {ra rb : Value} {K : KE} (h : wCat op i j σ K) (H : HR B F ρ σ s.heap) (ha : VR ρ (.ref i) ra) (hb : VR ρ (.ref j) rb) (hQ : PE B F ρ s K Q) : wpAny (model prog w) A (binaryOp op ra rb) Q E s := by
 cases op with
 | Add =>
  obtain ⟨_, xs, e1, h⟩ := h.out
  obtain ⟨_, ys, e2, h⟩ := h.out
  obtain ⟨a1, vs, n, rfl, _, g1, r1⟩ := listAt H e1 ha
  obtain ⟨a2, ws, m, rfl, _, g2, r2⟩ := listAt H e2 hb
  have l1 : vs.size = _ := r1.length
  have l2 : ws.size = _ := r2.length
  exact concatL g1 g2 (sizeLine_big (by rw [l1, l2]; exact h.out.1)) (Outs.newList H (by rw [Array.toList_append]; exact r1.append r2) (hQ.outs h.out.2))
 | _ => exact h.elim
theorem rep_ok {op : Operator} {i : Nat} {k : Int} {ra rb : Value} {K : KE} (h : wRep op i k σ K) (H : HR B F ρ σ s.heap) (ha : VR ρ (.ref i) ra) (hb : VR ρ (.int k) rb) (hQ : PE B F ρ s K Q) : wpAny (model prog w) A (binaryOp op ra rb) Q E s := by
 cases op with
 | Mult =>
  obtain ⟨_, xs, e1, h⟩ := h.out
  obtain ⟨⟨z1, z2⟩, h⟩ := h.out
  obtain ⟨a1, vs, n, rfl, _, g1, r1⟩ := listAt H e1 ha
  obtain ⟨u, rfl⟩ := hb
  have l1 : vs.size = _ := r1.length
  refine repL g1 (by lia) (by lia) (by rw [l1]; lia) (Outs.newList H ?_ (hQ.outs h))
  rw [listMul_foldl]
  simp only [List.nil_append]
  by_cases q : vs.isEmpty = true
  ·have hq : vs = #[] := by simpa using q
   subst hq
   have hx : xs = [] := by simpa using l1.symm
   subst hx
   simp [VRs]
  ·rw [if_neg q]; exact r1.rep _
 | _ => exact h.elim
theorem bin_ok {op : Operator} {a b : AV} {ra rb : Value} {K : KE} (h : wBin op a b σ K) (H : HR B F ρ σ s.heap) (ha : VR ρ a ra) (hb : VR ρ b rb) (hQ : PE B F ρ s K Q) : wpAny (model prog w) A (binaryOp op ra rb) Q E s := by
 cases a with
 | int x =>
  obtain ⟨t, rfl⟩ := ha
  cases b with
  | int y => obtain ⟨u, rfl⟩ := hb; exact arith_ok h H hQ
  | bool q => cases hb; cases op with
   | Add => exact add_int_bool (Outs.int H (hQ.outs h))
   | _ => exact h.elim
  | _ => exact h.elim
 | bool p =>
  cases ha
  cases b with
  | int y => obtain ⟨u, rfl⟩ := hb; cases op with
   | Add => exact PySem.IntBool.add_bool_int (Outs.int H (hQ.outs h))
   | LShift => exact lshift_bool_int h.out.1.1 h.out.1.2 (Outs.int H (hQ.outs h.out.2))
   | _ => exact h.elim
  | bool q => cases hb; cases op with
   | Add => exact add_bool (Outs.int H (hQ.outs h))
   | _ => exact h.elim
  | _ => exact h.elim
 | ref i =>
  cases b with
  | ref j => exact cat_ok h H ha hb hQ
  | int n => exact rep_ok h H ha hb hQ
  | _ => exact h.elim
 | _ => exact h.elim
end
end Mj
namespace Mj
open PySem PySem.W PyProof.Rows PySem.Spec
variable [SetW]
section
variable {prog : Program} {w : World} {A : Around} {E : Value → Shared → Prop} {B : Heap} {F : List (Addr × Obj)} {ρ : Rho} {σ σ' : Sto} {s : Shared}
/-- a list of the store is turned -/
theorem HR.updL (H : HR B F ρ σ s.heap) {k : Nat} {xs ys : List AV} {a : Addr} {vs : Array Value} {n : Nat} (e : σ[k]? = some ⟨true, .list xs⟩) (ea : ρ[k]? = some a)
  (g : s.heap.get? a = some { cls := .type "list", data := .seq vs n }) {f : Array Value → Array Value} (hf : VRs ρ ys (f vs).toList) : HR B F ρ (σ.set k ⟨true, .list ys⟩) (s.heap.update a (Obj.mapSeq f)) := by
 refine H.upd e ea rfl (fun b o hb eb => (Heap.get?_update_other _ _ (Ne.symm hb)).trans eb) ?_
 refine ⟨f vs, if (f vs).size == vs.size then n else n + 1, ?_, hf⟩
 rw [Heap.get?_update_self _ g rfl]; rfl
theorem Outs.updL {α : Type} {v : α} {P : Rho → α → Prop} {Q : α → Shared → Prop} (H : HR B F ρ σ s.heap) {k : Nat} {xs ys : List AV} {a : Addr} {vs : Array Value} {n : Nat} (e : σ[k]? = some ⟨true, .list xs⟩) (ea : ρ[k]? = some a)
  (g : s.heap.get? a = some { cls := .type "list", data := .seq vs n }) {f : Array Value → Array Value} (hf : VRs ρ ys (f vs).toList) (hv : P ρ v) (h : Outs B F ρ (σ.set k ⟨true, .list ys⟩) s P Q) :
  Q v { s with heap := s.heap.update a (Obj.mapSeq f) } := h ρ v _ (List.prefix_refl _) (H.updL e ea g hf) hv ⟨rfl, rfl⟩
theorem setItemL {Q : Unit → Shared → Prop} {l : Addr} {items : Array Value} {n : Nat} {k : Int} {t : Tok} {v : Value} (ho : s.heap.get? l = some { cls := .type "list", data := .seq items n })
  (h0 : 0 ≤ k) (hfit : k < 2 ^ 63) (hn : k < items.size) (hQ : Q () { s with heap := s.heap.update l (Obj.mapSeq (·.setIfInBounds k.toNat v)) }) : wpAny (model prog w) A (setItem (.ref l) (.int k t) v) Q E s := by
 have hl : s.heap.IsList l items := ⟨_, ho, rfl, n, rfl⟩
 unfold setItem
 try with_reducible refine wpAny_holding ?_
 first | refine wpAny_bind (wpAny_pure ?_) | skip
 refine wpAny_bind (wpAny_sequenceKey hl.typeIs (by decide) ?_)
 refine wpAny_bind (wpAny_callSpecial?_slot (name := Str.ofString "__setitem__") hl.typeIs slot_list_setitem
  (wpAny_call_entry slot_list_setitem hl.typeIs entry_list_setitem ?_ (args_list_setitem _ _ _)))
 show wpAny _ _ (Builtin.List.listSubscript? (.int k t) >>= _) _ _ s
 refine wpAny_bind (wpAny_listSubscript_int (fitsIndex_of h0 hfit) ?_)
 clear hfit
 obtain ⟨j, rfl⟩ := Int.eq_ofNat_of_zero_le h0
 have hj : j < items.size := by lia
 have hx' : items[j]? = some items[j] := Array.getElem?_eq_getElem hj
 show wpAny _ _ ((seqItemAt l j >>= fun r => pure (r.map (j, ·))) >>= _) _ _ s
 refine wpAny_bind (wpAny_bind (wpAny_seqItemAt ho rfl (wpAny_pure ?_)))
 rw [hx']
 show wpAny _ _ (setSeqItemAt l j v >>= _) _ _ s
 refine wpAny_bind (wpAny_setSeqItemAt ho rfl ?_)
 first
  | exact wpAny_bind (wpAny_pure (wpAny_pure ⟨.none, rfl, wpAny_pure hQ⟩))
  | exact wpAny_pure ⟨.none, rfl, wpAny_pure hQ⟩
theorem lookup_key {k x : Int} {v : AV} : ∀ {es : List (Int × AV)}, (putKey k v es).lookup x = if x = k then some v else es.lookup x := by
 intro es
 induction es with
 | nil =>
  unfold putKey
  by_cases h : x = k
  ·subst h; simp
  ·simp [List.lookup_cons, beq_eq_false_iff_ne.mpr h, h]
 | cons e es ih =>
  obtain ⟨n, u⟩ := e
  unfold putKey
  by_cases hn : n = k
  ·subst hn
   simp only [beq_self_eq_true, if_true]
   by_cases h : x = n
   ·subst h; simp
   ·simp [List.lookup_cons, beq_eq_false_iff_ne.mpr h, h]
  ·rw [beq_eq_false_iff_ne.mpr hn, if_neg Bool.false_ne_true, List.lookup_cons, List.lookup_cons, ih]
   by_cases h : x = n
   ·subst h; simp [hn]
   ·simp [beq_eq_false_iff_ne.mpr h]
/-- what is wanted behind a step that gives nothing back -/
noncomputable def PU (B : Heap) (F : List (Addr × Obj)) (ρ : Rho) (s : Shared) (K : Sto → Prop) (Q : Unit → Shared → Prop) : Prop := ∀ ρ' σ' s', Go B F ρ s ρ' σ' s' → K σ' → Q () s'
theorem PU.outs {K : Sto → Prop} {Q : Unit → Shared → Prop} (h : PU B F ρ s K Q) (k : K σ') : Outs B F ρ σ' s (fun _ _ => True) Q := fun _ _ _ p H _ hs => h _ _ _ ⟨p, H, hs⟩ k
theorem putL_ok {Q : Unit → Shared → Prop} {k : Nat} {j : Int} {v : AV} {xs : List AV} {ra rv : Value} {t : Tok} {K : Sto → Prop} (e : σ[k]? = some ⟨true, .list xs⟩) (g : 0 ≤ j ∧ j < xs.length ∧ xs.length ≤ 100000) (H : HR B F ρ σ s.heap) (ha : VR ρ (.ref k) ra) (hv : VR ρ v rv)
  (h : K (σ.set k ⟨true, .list (xs.set j.toNat v)⟩)) (hQ : PU B F ρ s K Q) : wpAny (model prog w) A (setItem ra (.int j t) rv) Q E s := by
 obtain ⟨a1, vs, n, rfl, ea, g1, r⟩ := listAt H e ha
 have l : vs.size = _ := r.length
 obtain ⟨g2, g3, g4⟩ := g
 exact setItemL g1 g2 (by lia) (by lia) (Outs.updL H e ea g1 (by rw [Array.toList_setIfInBounds]; exact r.set hv) trivial (hQ.outs h))
theorem putM_ok {Q : Unit → Shared → Prop} {k n : Nat} {j : Int} {v : AV} {es : List (Int × AV)} {ra rv : Value} {t : Tok} {K : Sto → Prop} (e : σ[k]? = some ⟨true, .imap es n⟩) (hz : n ≤ 1000) (H : HR B F ρ σ s.heap) (ha : VR ρ (.ref k) ra) (hv : VR ρ v rv)
  (h : K (σ.set k ⟨true, .imap (putKey j v es) (n + 1)⟩)) (hQ : PU B F ρ s K Q) : wpAny (model prog w) A (setItem ra (.int j t) rv) Q E s := by
 obtain ⟨a1, ea, rfl⟩ := ha
 obtain ⟨f, hm, hd, r⟩ := H.obj _ _ a1 e ea
 refine wpAny_setItem_intMap_le hm hd (sizeLine_big (by lia)) fun h' hm' hd' hs' => hQ _ _ _ ⟨List.prefix_refl _, ?_, rfl, rfl⟩ h
 refine H.upd e ea rfl (fun b o hb eb => (hs'.2 b hb).trans eb) ⟨_, hm', hd', fun x => ?_⟩
 rw [lookup_key]
 by_cases hx : x = j
 ·subst hx; simp only [if_true]; exact ⟨rv, rfl, hv⟩
 ·simp only [if_neg hx]; exact r x
theorem put_ok {Q : Unit → Shared → Prop} {a i v : AV} {ra ri rv : Value} {K : Sto → Prop} (h : wPut a i v σ K) (H : HR B F ρ σ s.heap) (ha : VR ρ a ra) (hi : VR ρ i ri) (hv : VR ρ v rv) (hQ : PU B F ρ s K Q) : wpAny (model prog w) A (setItem ra ri rv) Q E s := by
 cases a with
 | ref k => cases i with
  | int j =>
   obtain ⟨t, rfl⟩ := hi
   obtain ⟨⟨b, o⟩, e, h⟩ := wAt.out h
   cases o with
   | list xs => obtain ⟨rfl, k⟩ := wB.out h; exact putL_ok e k.out.1 H ha hv k.out.2 hQ
   | imap es n => obtain ⟨rfl, k⟩ := wB.out h; exact putM_ok e k.out.1 H ha hv k.out.2 hQ
   | _ => exact h.elim
  | _ => exact h.elim
 | _ => exact h.elim
theorem placeA_some {i : Int} {n p : Nat} (e : placeA i n = some p) : p < n ∧ ((0 ≤ i ∧ p = i.toNat) ∨ (i < 0 ∧ -(n : Int) ≤ i ∧ p = (i + n).toNat)) := by
 unfold placeA at e
 split at e
 ·split at e
  ·cases e; exact ⟨by lia, .inl ⟨by lia, rfl⟩⟩
  ·cases e
 ·split at e
  ·cases e; exact ⟨by lia, .inr ⟨by lia, by lia, rfl⟩⟩
  ·cases e
theorem idx_ok {xs : List AV} {j : Int} {vs : Array Value} {K : AV → Prop} (h : wIdx xs j K) (r : VRs ρ xs vs.toList) :
  ∃ v p rv, vs.size = xs.length ∧ xs.length ≤ 100000 ∧ p < xs.length ∧ ((0 ≤ j ∧ p = j.toNat) ∨ (j < 0 ∧ -(xs.length : Int) ≤ j ∧ p = (j + xs.length).toNat)) ∧ vs[p]? = some rv ∧ VR ρ v rv ∧ K v := by
 obtain ⟨v, hz, e, k⟩ := h.out
 obtain ⟨p, ep, ex⟩ := Option.bind_eq_some_iff.mp e
 obtain ⟨hp, hc⟩ := placeA_some ep
 obtain ⟨rv, er, hr⟩ := r.get ex
 exact ⟨v, p, rv, r.length, hz, hp, hc, by rw [← Array.getElem?_toList]; exact er, hr, k⟩
/-- an object whose type has items -/
noncomputable def Gets (s : Shared) (o : Value) : Prop := ∃ T id, typeLookup (.type T) "__getitem__" = pure (some (.builtin id)) ∧ s.TypeIs o T
theorem item_ok {Q : Value → Shared → Prop} {a i : AV} {ra ri : Value} {K : KE} (h : wItem a i σ fun v => K v σ) (H : HR B F ρ σ s.heap) (ha : VR ρ a ra) (hi : VR ρ i ri) (hQ : PE B F ρ s K Q) : Gets s ra ∧ wpAny (model prog w) A (getItem ra ri) Q E s := by
 cases a with
 | ref k => cases i with
  | int j =>
   obtain ⟨t, rfl⟩ := hi
   obtain ⟨⟨b, o⟩, e, h⟩ := wAt.out h
   cases o with
   | list xs =>
    obtain ⟨a1, vs, n, rfl, ea, g, r⟩ := listAt H e ha
    obtain ⟨v, p, rv, l, hz, hp, hc, er, hr, k⟩ := idx_ok h r
    refine ⟨⟨_, _, list_getitem_lookup, _, g, rfl⟩, ?_⟩
    rcases hc with ⟨h0, rfl⟩ | ⟨h0, h1, rfl⟩
    ·exact wpAny_getItem_list ⟨_, g, rfl, n, rfl⟩ h0 (by lia) er (hQ.ret H hr k)
    ·exact wpAny_getItem_list_neg ⟨_, g, rfl, n, rfl⟩ h0 (by lia) (by lia) (by rw [l]; exact er) (hQ.ret H hr k)
   | tuple xs =>
    obtain ⟨a1, vs, n, rfl, ea, g, r⟩ := tupleAt H e ha
    obtain ⟨v, p, rv, l, hz, hp, hc, er, hr, k⟩ := idx_ok h r
    refine ⟨⟨_, _, PySem.F.slot_tuple_getitem.lookup, _, g, rfl⟩, PyProof.Rows.getItem_tuple (j := p) ⟨_, g, rfl, n, rfl⟩ (by lia) (by lia) ?_ er (hQ.ret H hr k)⟩
    simp only [seqIndex?, l]
    rcases hc with ⟨h0, rfl⟩ | ⟨h0, h1, rfl⟩
    ·rw [if_neg (show ¬ j < 0 by lia), if_pos (by simp; lia)]
    ·rw [if_pos h0, if_pos (by simp; lia)]
   | imap es n =>
    obtain ⟨a1, ea, rfl⟩ := ha
    obtain ⟨f, hm, hd, r⟩ := H.obj _ _ a1 e ea
    obtain ⟨v, ev, k⟩ := wKey.out h
    have := r j
    rw [ev] at this
    obtain ⟨rv, hf, hv⟩ := this
    exact ⟨⟨_, _, PySem.F.slot_dict_getitem.lookup, hm.typeIs⟩, wpAny_getItem_intMap hm hf (hQ ρ v rv _ { s with toks := s.toks + 1 } ⟨List.prefix_refl _, H, rfl, rfl⟩ hv k)⟩
   | _ => exact h.elim
  | _ => exact h.elim
 | _ => exact h.elim
end
end Mj
namespace Mj
open PySem PySem.W PyProof.Rows PySem.Spec
variable [SetW]
section
variable {prog : Program} {w : World} {A : Around} {E : Value → Shared → Prop} {B : Heap} {F : List (Addr × Obj)} {ρ : Rho} {σ σ' : Sto} {s : Shared}
theorem truth_ok {Q : Bool → Shared → Prop} {a : AV} {ra : Value} {K : Bool → Sto → Prop} (h : wTruth σ a fun b => K b σ) (H : HR B F ρ σ s.heap) (ha : VR ρ a ra) (hQ : PB B F ρ s K Q) : wpAny (model prog w) A (truthy ra) Q E s := by
 cases a with
 | none => cases ha; exact truthy_none (hQ.ret H h)
 | bool b => cases ha; exact wpAny_truthy_bool (hQ.ret H h)
 | int i => obtain ⟨t, rfl⟩ := ha; exact PyProof.Rows.truthy_int (hQ.ret H h)
 | ref k =>
  obtain ⟨_, xs, e, h⟩ := wLst.out h
  obtain ⟨a1, vs, n, rfl, ea, g, r⟩ := listAt H e ha
  have l : vs.size = _ := r.length
  have he : vs.isEmpty = xs.isEmpty := by
   cases xs with
   | nil => simpa using l
   | cons x xs => simp at l; simp; intro q; simp [q] at l
  have hk : K (!vs.isEmpty) σ := by rw [he]; exact h.out.2
  exact wpAny_truthy_list ⟨_, g, rfl, n, rfl⟩ (by rw [l]; have := h.out.1; lia) (hQ _ _ _ _ ⟨List.prefix_refl _, H, rfl, rfl⟩ hk)
 | _ => exact h.elim
structure AOk (d : Nat) (A : Around) : Prop where
 hd : A.handled = none
 dp : A.depth + d ≤ 900
 un : A.units + 150 * d + 100 ≤ 9000
theorem AOk.units (h : AOk 0 A) : A.units < cLine := by have := h.un; unfold cLine; lia
theorem intsA_rel : ∀ {xs : List AV} {ns : List Int} {vs : List Value}, intsA xs = some ns → VRs ρ xs vs → ns.length = vs.length ∧ ∀ (i : Nat) (n : Int), ns[i]? = some n → ∃ t : Tok, vs[i]? = some (Value.int n t) := by
 intro xs
 induction xs with
 | nil => intro ns vs e h; cases e; rw [VRs.nil_iff] at h; subst h; exact ⟨rfl, fun i n e => by simp at e⟩
 | cons x xs ih =>
  intro ns vs e h
  cases vs with
  | nil => exact h.elim
  | cons v vs =>
   cases x <;> try (simp [intsA] at e; done)
   rename_i i
   simp only [intsA, Option.map_eq_some_iff] at e
   obtain ⟨ms, em, rfl⟩ := e
   obtain ⟨l, g⟩ := ih em h.2
   obtain ⟨t, rfl⟩ := h.1
   refine ⟨by simp [l], fun j n ej => ?_⟩
   cases j with
   | zero => simp at ej; subst ej; exact ⟨t, rfl⟩
   | succ j => exact g j n (by simpa using ej)
theorem intsA_are : ∀ {xs : List AV} {ns : List Int} {vs : List Value}, intsA xs = some ns → VRs ρ xs vs → IntsAre vs ns := by
 intro xs
 induction xs with
 | nil => intro ns vs e h; cases e; rw [VRs.nil_iff] at h; subst h; exact .nil
 | cons x xs ih =>
  intro ns vs e h
  cases vs with
  | nil => exact h.elim
  | cons v vs =>
   cases x <;> try (simp [intsA] at e; done)
   simp only [intsA, Option.map_eq_some_iff] at e
   obtain ⟨ms, em, rfl⟩ := e
   obtain ⟨t, rfl⟩ := h.1
   exact .cons _ t (ih em h.2)
theorem any_contains {l : List Value} {vs : List Int} (hi : IntsAre l vs) (x : Int) : (l.any fun y => match y with | .int n _ => n == x | _ => false) = vs.contains x := by
 induction hi with
 | nil => rfl
 | cons n u _ ih => simp only [List.any_cons, List.contains_cons, ih]; rw [Bool.beq_comm]
theorem all_range_eq {us vs : List Int} (hl : us.length = vs.length) : ((List.range us.length).all fun j => us.getD j 0 == vs.getD j 0) = (us == vs) := by
 rw [Bool.eq_iff_iff]
 simp only [List.all_eq_true, List.mem_range, beq_iff_eq]
 constructor
 ·intro h
  apply List.ext_getElem hl
  intro i h1 h2
  have := h i h1
  simpa [List.getD, h1, h2] using this
 ·rintro rfl _ _; rfl
theorem notIn_intMap {Q : Value → Shared → Prop} {d : Addr} {f : Int → Option Value} {k : Int} {t : Tok} (hm : s.heap.IntMap d f) (h : Q (.bool (!(f k).isSome)) { s with toks := s.toks + 1 }) : wpAny (model prog w) A (compareOp .NotIn (.int k t) (.ref d)) Q E s := by
 show wpAny _ _ (do return .bool (!(← contains (.ref d) (.int k t)))) Q E s
 refine wpAny_bind ?_
 unfold contains
 try with_reducible refine wpAny_holding ?_
 refine wpAny_bind (wpAny_specialOf hm.typeIs slot_dict_contains.lookup ?_)
 show wpAny _ _ (if (some (Value.builtin "dict.__contains__") == some Value.none) = true then _ else _) _ E s
 rw [if_neg (by rw [beq_builtin_none]; exact Bool.false_ne_true)]
 refine wpAny_bind (wpAny_callSpecialUnlessNone?_slot (name := Str.ofString "__contains__") hm.typeIs slot_dict_contains
  (wpAny_call_entry slot_dict_contains hm.typeIs entry_dict_contains ?_ (args_dict_contains _ _)))
 show wpAny _ _ (dictGet d (.int k t) >>= _) _ _ s
 refine wpAny_bind (wpAny_dictGet_int hm ?_)
 cases hf : f k with
 | some v =>
  rw [hf] at h
  show wpAny _ _ (ret (.bool true)) _ _ _
  exact wpAny_pure ⟨_, rfl, wpAny_truthy_bool (wpAny_pure h)⟩
 | none =>
  rw [hf] at h
  show wpAny _ _ (Builtin.Dict.pendingKey? d (.int k t) >>= _) _ _ _
  exact wpAny_bind (wpAny_pendingKey_int (wpAny_pure ⟨_, rfl, wpAny_truthy_bool (wpAny_pure h)⟩))
theorem ord_ok {Q : Value → Shared → Prop} {op : CmpOp} {x y : Int} {t u : Tok} {K : Bool → Prop} (h : wOrd op x y K) (hQ : ∀ b, K b → Q (.bool b) s) : wpAny (model prog w) A (compareOp op (.int x t) (.int y u)) Q E s := by
 cases op with
 | Eq => exact PyProof.Rows.eq_int (hQ _ h)
 | NotEq => exact PyProof.Rows.ne_int (hQ _ h)
 | Lt => exact PyProof.Rows.lt_int (hQ _ h)
 | LtE => exact le_int (hQ _ h)
 | Gt => exact PyProof.Rows.gt_int (hQ _ h)
 | GtE => exact ge_int (hQ _ h)
 | _ => exact h.elim
theorem getD_of {ns : List Int} {rs : Array Value} (l : ns.length = rs.size) (f : ∀ (i : Nat) (n : Int), ns[i]? = some n → ∃ t : Tok, rs.toList[i]? = some (Value.int n t)) (j : Nat) (h : j < rs.size) : ∃ t : Tok, rs[j] = .int (ns.getD j 0) t := by
 obtain ⟨t, et⟩ := f j _ (List.getElem?_eq_getElem (l := ns) (i := j) (by lia))
 rw [Array.getElem?_toList, Array.getElem?_eq_getElem h] at et
 exact ⟨t, by rw [Option.some.inj et]; simp [List.getD, show j < ns.length by lia]⟩
theorem eqL_ok {Q : Value → Shared → Prop} {i j : Nat} {ra rb : Value} {b1 b2 : Bool} {xs ys : List AV} {us vs : List Int} (e1 : σ[i]? = some ⟨b1, .list xs⟩) (e2 : σ[j]? = some ⟨b2, .list ys⟩) (i1 : intsA xs = some us) (i2 : intsA ys = some vs)
  (hA : AOk 0 A) (H : HR B F ρ σ s.heap) (ha : VR ρ (.ref i) ra) (hb : VR ρ (.ref j) rb) (h : Q (.bool (us == vs)) s) : wpAny (model prog w) A (compareOp .Eq ra rb) Q E s := by
 obtain ⟨a1, rs, n, rfl, _, g1, r1⟩ := listAt H e1 ha
 obtain ⟨a2, ts, m, rfl, _, g2, r2⟩ := listAt H e2 hb
 obtain ⟨l1, f1⟩ := intsA_rel i1 r1
 obtain ⟨l2, f2⟩ := intsA_rel i2 r2
 simp only [Array.length_toList] at l1 l2
 by_cases hz : rs.size = ts.size
 ·refine SeqAt.eq_listAt (e := fun j => us.getD j 0 == vs.getD j 0) ⟨_, g1, rfl, n, rfl⟩ ⟨_, g2, rfl, m, rfl⟩ hz hA.units (fun j j1 j2 => ?_) ?_
  ·obtain ⟨t, x1⟩ := getD_of l1 f1 j j1
   obtain ⟨u, x2⟩ := getD_of l2 f2 j j2
   rw [x1, x2]
   exact SeqAt.EqAt.int_int _ _ _ _
  ·rw [← l1, all_range_eq (by lia)]; exact h
 ·have hne : (us == vs) = false := by
   rw [beq_eq_false_iff_ne]; rintro rfl; lia
  rw [hne] at h
  exact SeqAt.eq_list_lengthsAt ⟨_, g1, rfl, n, rfl⟩ ⟨_, g2, rfl, m, rfl⟩ (by simpa using hz) hA.units h
theorem inL_ok {Q : Value → Shared → Prop} {op : CmpOp} {x : Int} {t : Tok} {j : Nat} {rb : Value} {b : Bool} {ys : List AV} {vs : List Int} {K : Bool → Prop} (e2 : σ[j]? = some ⟨b, .list ys⟩) (i2 : intsA ys = some vs) (h : wIn op (vs.contains x) K)
  (H : HR B F ρ σ s.heap) (hb : VR ρ (.ref j) rb) (hQ : ∀ b, K b → Q (.bool b) s) : wpAny (model prog w) A (compareOp op (.int x t) rb) Q E s := by
 obtain ⟨a2, ts, m, rfl, _, g2, r2⟩ := listAt H e2 hb
 have hi := intsA_are i2 r2
 obtain ⟨l, f⟩ := intsA_rel i2 r2
 simp only [Array.length_toList] at l
 have k2 : ∀ y ∈ ts, SeqAt.EqAt A.in1 s y (.int x t) (match y with | .int n _ => n == x | _ => false) := by
  intro y hy
  obtain ⟨i, hi', ei⟩ := Array.getElem_of_mem hy
  obtain ⟨u, eu⟩ := getD_of l f i hi'
  rw [← ei, eu]
  exact SeqAt.EqAt.int_int _ _ _ _
 have k3 : (ts.any fun y => match y with | .int n _ => n == x | _ => false) = vs.contains x := by rw [← Array.any_toList]; exact any_contains hi x
 cases op with
 | In => exact SeqAt.in_listAt _ ⟨_, g2, rfl, m, rfl⟩ k2 (by rw [k3]; exact hQ _ h)
 | NotIn => exact SeqAt.notIn_listAt _ ⟨_, g2, rfl, m, rfl⟩ k2 (by rw [k3]; exact hQ _ h)
 | _ => exact h.elim
theorem inM_ok {Q : Value → Shared → Prop} {op : CmpOp} {x : Int} {t : Tok} {j n : Nat} {rb : Value} {b : Bool} {es : List (Int × AV)} {K : Bool → Prop} (e2 : σ[j]? = some ⟨b, .imap es n⟩) (h : wIn op (es.lookup x).isSome K)
  (H : HR B F ρ σ s.heap) (hb : VR ρ (.ref j) rb) (hQ : ∀ b, K b → Q (.bool b) { s with toks := s.toks + 1 }) : wpAny (model prog w) A (compareOp op (.int x t) rb) Q E s := by
 obtain ⟨a1, ea, rfl⟩ := hb
 obtain ⟨f, hm, hd, r⟩ := H.obj _ _ a1 e2 ea
 have hr : (f x).isSome = (es.lookup x).isSome := by
  have := r x
  split at this
  ·rename_i q; obtain ⟨rv, h1, _⟩ := this; rw [q, h1]; rfl
  ·rename_i q; rw [q, this]; rfl
 cases op with
 | In => exact wpAny_in_intMap hm (by rw [hr]; exact hQ _ h)
 | NotIn => exact notIn_intMap hm (by rw [hr]; exact hQ _ h)
 | _ => exact h.elim
theorem cmp_ok {Q : Value → Shared → Prop} {op : CmpOp} {a b : AV} {ra rb : Value} {K : Bool → Sto → Prop} (h : wCmp op a b σ fun c => K c σ) (hA : AOk 0 A) (H : HR B F ρ σ s.heap) (ha : VR ρ a ra) (hb : VR ρ b rb)
  (hQ : ∀ b ρ' σ' s', Go B F ρ s ρ' σ' s' → K b σ' → Q (.bool b) s') : wpAny (model prog w) A (compareOp op ra rb) Q E s := by
 have q0 : ∀ b, K b σ → Q (.bool b) s := fun b k => hQ b _ _ _ (.refl H) k
 cases a with
 | int x =>
  obtain ⟨t, rfl⟩ := ha
  cases b with
  | int y => obtain ⟨u, rfl⟩ := hb; exact ord_ok (K := fun c => K c σ) h q0
  | ref j =>
   obtain ⟨⟨b, o⟩, e, h⟩ := wAt.out h
   cases o with
   | list ys => obtain ⟨vs, i2, h⟩ := wInts.out h; exact inL_ok (K := fun c => K c σ) e i2 h H hb q0
   | imap es n => exact inM_ok (K := fun c => K c σ) e h H hb fun b k => hQ b _ _ _ ⟨List.prefix_refl _, H, rfl, rfl⟩ k
   | _ => exact h.elim
  | _ => exact h.elim
 | bool p =>
  cases ha
  cases b with
  | bool q => cases hb; cases op with
   | Eq => exact eq_bool (q0 _ h)
   | NotEq => exact ne_bool (q0 _ h)
   | _ => exact h.elim
  | int y => obtain ⟨u, rfl⟩ := hb; cases op with
   | Eq => exact PySem.EqBoolInt.eq_bool_int (q0 _ h)
   | _ => exact h.elim
  | _ => exact h.elim
 | ref i =>
  cases b with
  | ref j =>
   obtain ⟨_, xs, e1, h⟩ := wLst.out h
   obtain ⟨_, ys, e2, h⟩ := wLst.out h
   obtain ⟨us, i1, h⟩ := wInts.out h
   obtain ⟨vs, i2, h⟩ := wInts.out h
   cases op with
   | Eq => exact eqL_ok e1 e2 i1 i2 hA H ha hb (q0 _ h)
   | _ => exact h.elim
  | _ => exact h.elim
 | _ => exact h.elim
end
end Mj
namespace Mj
open PySem PySem.W PyProof.Rows PySem.Spec
variable [SetW]
section
variable {prog : Program} {w : World} {A : Around} {E : Value → Shared → Prop} {B : Heap} {F : List (Addr × Obj)} {ρ : Rho} {σ σ' : Sto} {s : Shared} {Q : Value → Shared → Prop}
theorem Outs.kept {α : Type} {v : α} {P : Rho → α → Prop} {Q : α → Shared → Prop} (H : HR B F ρ σ s.heap) {h' : Heap} {tk : Nat} (hk : ∀ b o, s.heap.get? b = some o → h'.get? b = some o) (hv : P ρ v) (h : Outs B F ρ σ s P Q) :
  Q v { s with heap := h', toks := tk } := h ρ v _ (List.prefix_refl _) (H.keeps hk) hv ⟨rfl, rfl⟩
theorem iterL {l : Addr} {vs : Array Value} (hl : s.heap.IsList l vs)
  (h : ∀ s₂ : Shared, s₂ = { s with heap := s.heap.push { cls := .type "list_iterator", data := .fields #[.ref l, .int 0 0] } } →
   (s₂.heap.IsListIter s.heap.objs.size l 0 ∧ s₂.heap.IsList l vs) → (∀ b ∈ [s.heap.objs.size, l], b < s₂.heap.objs.size) → l ≠ s.heap.objs.size → Q (.ref s.heap.objs.size) s₂) :
  wpAny (model prog w) A (pyIter (.ref l)) Q E s := by
 have hlt : l < s.heap.objs.size := by obtain ⟨_, e, _⟩ := hl; exact Heap.lt_size e
 refine wpAny_pyIter_list hl (h _ rfl ⟨⟨_, Heap.get?_push_size _ rfl, rfl, rfl⟩, hl.push _⟩ (fun b hb => ?_) (Nat.ne_of_lt hlt))
 show b < (s.heap.push _).objs.size
 rw [Heap.size_push]
 rcases List.mem_cons.mp hb with rfl | hb
 ·exact Nat.lt_succ_self _
 ·rcases List.mem_cons.mp hb with rfl | hb
  ·exact Nat.lt_succ_of_lt hlt
  ·cases hb
theorem list_ok {a : AV} {rv : Value} {K : List AV → Prop} (h : wList σ a K) (H : HR B F ρ σ s.heap) (hr : VR ρ a rv) :
  ∃ xs l vs n, rv = .ref l ∧ s.heap.get? l = some { cls := .type "list", data := .seq vs n } ∧ VRs ρ xs vs.toList ∧ vs.size = xs.length ∧ K xs := by
 cases a with
 | ref k =>
  obtain ⟨_, xs, e, h⟩ := wLst.out h
  obtain ⟨l, vs, n, rfl, _, g, r⟩ := listAt H e hr
  exact ⟨xs, l, vs, n, rfl, g, r, r.length, h⟩
 | _ => exact h.elim
theorem ints_at {xs : List AV} {ns : List Int} {vs : Array Value} (e : intsA xs = some ns) (r : VRs ρ xs vs.toList) : ns.length = vs.size ∧ ∀ (i : Nat) (v : Value), vs[i]? = some v → ∃ t : Tok, v = Value.int (ns.getD i 0) t := by
 obtain ⟨l, f⟩ := intsA_rel e r
 simp only [Array.length_toList] at l
 refine ⟨l, fun i v hv => ?_⟩
 have hi : i < ns.length := by have := (Array.getElem?_eq_some_iff.mp hv).1; lia
 obtain ⟨t, et⟩ := f i ns[i] (by simp)
 rw [Array.getElem?_toList, hv] at et
 exact ⟨t, by rw [Option.some.inj et]; simp [List.getD, hi]⟩
theorem numsA_at {xs : List AV} {ns : List Int} {vs : Array Value} (e : numsA xs = some ns) (r : VRs ρ xs vs.toList) : ns.length = vs.size ∧ ∀ (i : Nat) (v : Value), vs[i]? = some v → NumOf (ns.getD i 0) v := by
 have key : ∀ {xs : List AV} {ns : List Int} {vs : List Value}, numsA xs = some ns → VRs ρ xs vs → ns.length = vs.length ∧ ∀ (i : Nat) (v : Value), vs[i]? = some v → NumOf (ns.getD i 0) v := by
  intro xs
  induction xs with
  | nil => intro ns vs e h; cases e; rw [VRs.nil_iff] at h; subst h; exact ⟨rfl, fun i n e => by simp at e⟩
  | cons x xs ih =>
   intro ns vs e h
   cases vs with
   | nil => exact h.elim
   | cons v vs =>
    cases x <;> try (simp [numsA] at e; done)
    ·rename_i b
     simp only [numsA, Option.map_eq_some_iff] at e
     obtain ⟨ms, em, rfl⟩ := e
     obtain ⟨l, g⟩ := ih em h.2
     refine ⟨by simp [l], fun j u ej => ?_⟩
     cases j with
     | zero => simp at ej; subst ej; have := h.1; cases this; exact .inr ⟨b, rfl, rfl⟩
     | succ j => exact g j u (by simpa using ej)
    ·rename_i i
     simp only [numsA, Option.map_eq_some_iff] at e
     obtain ⟨ms, em, rfl⟩ := e
     obtain ⟨l, g⟩ := ih em h.2
     refine ⟨by simp [l], fun j u ej => ?_⟩
     cases j with
     | zero => simp at ej; subst ej; obtain ⟨t, rfl⟩ := h.1; exact .inl ⟨t, rfl⟩
     | succ j => exact g j u (by simpa using ej)
 obtain ⟨l, f⟩ := key e r
 simp only [Array.length_toList] at l
 exact ⟨l, fun i v hv => f i v (by rw [Array.getElem?_toList]; exact hv)⟩
theorem len_ok {a : AV} {ra : Value} {K : KE} (h : wList σ a fun xs => wG (xs.length ≤ 100000) (K (.int xs.length) σ)) (H : HR B F ρ σ s.heap) (ha : VR ρ a ra) (hQ : PE B F ρ s K Q) : wpAny (model prog w) A (call (.builtin "len") [ra]) Q E s := by
 obtain ⟨xs, l, vs, n, rfl, g, r, hl, h⟩ := list_ok h H ha
 exact Calls.call_len_list ⟨_, g, rfl, n, rfl⟩ (by rw [hl]; have := h.out.1; lia) (hQ.outs h.out.2 ρ _ _ (List.prefix_refl _) H ⟨_, by rw [hl]⟩ ⟨rfl, rfl⟩)
theorem sum_ok {a : AV} {ra : Value} {K : KE} (h : wList σ a fun xs => wNums xs fun ns => K (.int (sumA ns)) σ) (hA : AOk 0 A) (H : HR B F ρ σ s.heap) (ha : VR ρ a ra) (hQ : PE B F ρ s K Q) : wpAny (model prog w) A (call (.builtin "sum") [ra]) Q E s := by
 obtain ⟨xs, l, vs, n, rfl, g, r, _, h⟩ := list_ok h H ha
 obtain ⟨ns, e3, h⟩ := wNums.out h
 obtain ⟨hl, hv⟩ := numsA_at e3 r
 refine call_sum_walkAnyB (iterL ⟨_, g, rfl, n, rfl⟩ fun s₂ e st hfp hlI => ?_)
 subst e
 exact ⟨_, _, _, _, _, _, _, fun i => ns.getD i 0, rfl, (Walks.list (A := A.in1) hA.hd _ l hlI vs).toS, st, hfp, hv, fun s' t' hm =>
  hQ.outs h ρ _ _ (List.prefix_refl _) (H.keeps (old_kept fun b o hb eb => hm.heap b o hb eb)) ⟨t', by rw [← hl]; rfl⟩ ⟨hm.gens, hm.os⟩⟩
theorem any_ok {a : AV} {ra : Value} {K : KE} (h : wList σ a fun xs => wInts xs fun ns => K (.bool ((List.range ns.length).any fun i => ns.getD i 0 != 0)) σ) (hA : AOk 0 A) (H : HR B F ρ σ s.heap) (ha : VR ρ a ra) (hQ : PE B F ρ s K Q) : wpAny (model prog w) A (call (.builtin "any") [ra]) Q E s := by
 obtain ⟨xs, l, vs, n, rfl, g, r, _, h⟩ := list_ok h H ha
 obtain ⟨ns, e3, h⟩ := wInts.out h
 obtain ⟨hl, hv⟩ := ints_at e3 r
 refine call_any_walk (iterL ⟨_, g, rfl, n, rfl⟩ fun s₂ e st hfp hlI => ?_)
 subst e
 refine ⟨_, _, _, _, _, _, fun i => ns.getD i 0 != 0, rfl, Walks.list (A := A.in1) hA.hd _ l hlI vs, st, ?_, fun h' tk hk => ?_⟩
 ·intro i v s Q E hP hQ
  obtain ⟨t, rfl⟩ := hv _ _ hP
  exact PyProof.Rows.truthy_int hQ
 ·rw [← hl]; exact Outs.kept H (old_kept hk) rfl (hQ.outs h)
theorem min_ok {a : AV} {ra : Value} {K : KE} (h : wList σ a fun xs => wInts xs fun ns => wG (ns ≠ []) (K (.int (bestA (fun x y => decide (x < y)) ns)) σ)) (hA : AOk 0 A) (H : HR B F ρ σ s.heap) (ha : VR ρ a ra) (hQ : PE B F ρ s K Q) : wpAny (model prog w) A (call (.builtin "min") [ra]) Q E s := by
 obtain ⟨xs, l, vs, n, rfl, g, r, _, h⟩ := list_ok h H ha
 obtain ⟨ns, e3, h⟩ := wInts.out h
 obtain ⟨hl, hv⟩ := ints_at e3 r
 refine call_min_walk (iterL ⟨_, g, rfl, n, rfl⟩ fun s₂ e st hfp hlI => ?_)
 subst e
 refine ⟨_, _, _, _, _, _, _, rfl, Walks.list (A := A.in1) hA.hd _ l hlI vs, st, hfp, by rw [← hl]; exact List.length_pos_iff.mpr h.out.1, CmpOf.ints_lt (fun i => ns.getD i 0) hv, fun v h' tk hP hk => ?_⟩
 obtain ⟨t, rfl⟩ := hv _ _ hP
 exact Outs.kept H (old_kept hk) ⟨t, by rw [← hl]; rfl⟩ (hQ.outs h.out.2)
theorem max_ok {a : AV} {ra : Value} {K : KE} (h : wList σ a fun xs => wInts xs fun ns => wG (ns ≠ []) (K (.int (bestA (fun x y => decide (x > y)) ns)) σ)) (hA : AOk 0 A) (H : HR B F ρ σ s.heap) (ha : VR ρ a ra) (hQ : PE B F ρ s K Q) : wpAny (model prog w) A (call (.builtin "max") [ra]) Q E s := by
 obtain ⟨xs, l, vs, n, rfl, g, r, _, h⟩ := list_ok h H ha
 obtain ⟨ns, e3, h⟩ := wInts.out h
 obtain ⟨hl, hv⟩ := ints_at e3 r
 refine call_max_walk (iterL ⟨_, g, rfl, n, rfl⟩ fun s₂ e st hfp hlI => ?_)
 subst e
 refine ⟨_, _, _, _, _, _, _, rfl, Walks.list (A := A.in1) hA.hd _ l hlI vs, st, hfp, by rw [← hl]; exact List.length_pos_iff.mpr h.out.1, CmpOf.ints_gt (fun i => ns.getD i 0) hv, fun v h' tk hP hk => ?_⟩
 obtain ⟨t, rfl⟩ := hv _ _ hP
 exact Outs.kept H (old_kept hk) ⟨t, by rw [← hl]; rfl⟩ (hQ.outs h.out.2)
theorem isInt2_out {args : List AV} {K : Int → Int → Prop} {K1 : AV → Prop} (h : isInt2 args K K1) : (∃ a, args = [a] ∧ K1 a) ∨ ∃ a b, args = [.int a, .int b] ∧ K a b := by
 cases args with
 | nil => exact h.elim
 | cons a r => cases r with
  | nil => exact .inl ⟨a, rfl, h⟩
  | cons b r => cases r with
   | nil => cases a with
    | int x => cases b with
     | int y => exact .inr ⟨x, y, rfl, h⟩
     | _ => exact h.elim
    | _ => exact h.elim
   | cons => exact h.elim
theorem one_out {args : List AV} {rs : List Value} {K1 : AV → Prop} (h : isInt2 args (fun _ _ => False) K1) (hr : VRs ρ args rs) : ∃ a ra, rs = [ra] ∧ VR ρ a ra ∧ K1 a := by
 rcases isInt2_out h with ⟨a, rfl, h⟩ | ⟨_, _, _, h⟩
 ·obtain ⟨ra, rfl, ha⟩ := hr.one; exact ⟨a, ra, rfl, ha, h⟩
 ·exact h.elim
theorem two_out {a b : AV} {rs : List Value} (hr : VRs ρ [a, b] rs) : ∃ ra rb, rs = [ra, rb] ∧ VR ρ a ra ∧ VR ρ b rb := by
 cases rs with
 | nil => exact hr.elim
 | cons ra rs =>
  obtain ⟨rb, rfl, hb⟩ := VRs.one hr.2
  exact ⟨ra, rb, rfl, hr.1, hb⟩
theorem builtin_ok {id : String} {args : List AV} {rs : List Value} {K : KE} (h : wBuiltin id args σ K) (hA : AOk 0 A) (H : HR B F ρ σ s.heap) (hr : VRs ρ args rs) (hQ : PE B F ρ s K Q) : wpAny (model prog w) A (call (.builtin id) rs) Q E s := by
 unfold wBuiltin at h
 by_cases h1 : id = "len"
 ·subst h1; rw [if_pos rfl] at h; obtain ⟨a, ra, rfl, ha, h⟩ := one_out h hr; exact len_ok h H ha hQ
 rw [if_neg h1] at h
 by_cases h2 : id = "sum"
 ·subst h2; rw [if_pos rfl] at h; obtain ⟨a, ra, rfl, ha, h⟩ := one_out h hr; exact sum_ok h hA H ha hQ
 rw [if_neg h2] at h
 by_cases h3 : id = "any"
 ·subst h3; rw [if_pos rfl] at h; obtain ⟨a, ra, rfl, ha, h⟩ := one_out h hr; exact any_ok h hA H ha hQ
 rw [if_neg h3] at h
 by_cases h4 : id = "min"
 ·subst h4; rw [if_pos rfl] at h
  rcases isInt2_out h with ⟨a, rfl, h⟩ | ⟨a, b, rfl, h⟩
  ·obtain ⟨ra, rfl, ha⟩ := hr.one; exact min_ok h hA H ha hQ
  ·obtain ⟨_, _, rfl, ⟨t, rfl⟩, ⟨u, rfl⟩⟩ := two_out hr
   refine min_two_ints hA.hd fun h' tk hk => ?_
   split
   ·rename_i hc; exact Outs.kept H hk ⟨u, by rw [if_pos hc]⟩ (hQ.outs h)
   ·rename_i hc; exact Outs.kept H hk ⟨t, by rw [if_neg hc]⟩ (hQ.outs h)
 rw [if_neg h4] at h
 by_cases h5 : id = "max"
 ·subst h5; rw [if_pos rfl] at h
  rcases isInt2_out h with ⟨a, rfl, h⟩ | ⟨a, b, rfl, h⟩
  ·obtain ⟨ra, rfl, ha⟩ := hr.one; exact max_ok h hA H ha hQ
  ·obtain ⟨_, _, rfl, ⟨t, rfl⟩, ⟨u, rfl⟩⟩ := two_out hr
   refine max_two_ints hA.hd fun h' tk hk => ?_
   split
   ·rename_i hc; exact Outs.kept H hk ⟨u, by rw [if_pos hc]⟩ (hQ.outs h)
   ·rename_i hc; exact Outs.kept H hk ⟨t, by rw [if_neg hc]⟩ (hQ.outs h)
 rw [if_neg h5] at h
 exact h.elim
end
end Mj
namespace Mj
open PySem PySem.W PyProof.Rows PySem.Spec
variable [SetW]
section
variable {prog : Program} {w : World} {A : Around} {E : Value → Shared → Prop} {B : Heap} {F : List (Addr × Obj)} {ρ : Rho} {σ σ' : Sto} {s : Shared} {Q : Value → Shared → Prop}
/-- a new object at the heap's end that the store is to know -/
theorem Outs.new (H : HR B F ρ σ s.heap) {c : Cl} (h : Outs B F ρ (σ ++ [c]) s (VR · (.ref σ.length)) Q) {h' : Heap} {tk : Nat} (hk : ∀ b o, s.heap.get? b = some o → h'.get? b = some o) (ho : OR (ρ ++ [s.heap.objs.size]) h' s.heap.objs.size c.o) :
  Q (.ref s.heap.objs.size) { s with heap := h', toks := tk } := by
 refine h (ρ ++ [s.heap.objs.size]) _ _ (List.prefix_append _ _) (H.alloc hk (Nat.le_refl _) ho) ⟨_, ?_, rfl⟩ ⟨rfl, rfl⟩
 rw [← H.len]; simp
theorem rangeFrom_rel {st : Int} : ∀ (n : Nat) (lo : Int) (vs : List Value), vs.length = n → (∀ (i : Nat) (v : Value), vs[i]? = some v → ∃ t : Tok, v = .int (lo + i * st) t) → VRs ρ (rangeFrom lo st n) vs
 | 0, lo, vs, l, _ => by (have : vs = [] := by simpa using l); subst this; trivial
 | n + 1, lo, [], l, _ => by simp at l
 | n + 1, lo, v :: vs, l, h => by
  refine ⟨?_, rangeFrom_rel n (lo + st) vs (by simpa using l) fun i u hu => ?_⟩
  ·obtain ⟨t, rfl⟩ := h 0 v rfl
   exact ⟨t, by simp⟩
  ·obtain ⟨t, e⟩ := h (i + 1) u (by simpa using hu)
   refine ⟨t, e.trans ?_⟩
   congr 1
   rw [Int.natCast_add, Int.natCast_one, Int.add_mul]; lia
theorem rangeSize_nonneg (lo hi st : Int) : 0 ≤ Builtin.Range.rangeSize lo hi st := by
 unfold Builtin.Range.rangeSize
 split
 ·split
  ·have : 0 ≤ (hi - lo - 1) / st := Int.ediv_nonneg (by lia) (by lia)
   lia
  ·lia
 ·split
  ·have : 0 ≤ (lo - hi - 1) / (-st) := Int.ediv_nonneg (by lia) (by lia)
   lia
  ·lia
theorem range_ok {args : List AV} {rs : List Value} {K : KE} (h : wRange args fun lo hi st => K (.ref σ.length) (σ ++ [⟨true, .range lo hi st⟩])) (H : HR B F ρ σ s.heap) (hr : VRs ρ args rs) (hQ : PE B F ρ s K Q) : wpAny (model prog w) A (call (.type "range") rs) Q E s := by
 have new : ∀ {c : Cl} {h' : Heap} {tk : Nat}, K (.ref σ.length) (σ ++ [c]) → (∀ b o, s.heap.get? b = some o → h'.get? b = some o) → OR (ρ ++ [s.heap.objs.size]) h' s.heap.objs.size c.o → Q (.ref s.heap.objs.size) { s with heap := h', toks := tk } :=
  fun k hk ho => Outs.new H (hQ.outs k) hk ho
 cases args with
 | nil => exact h.elim
 | cons a r => cases a with
  | int x => cases r with
   | nil =>
    obtain ⟨ra, rfl, ⟨t, rfl⟩⟩ := hr.one
    exact call_range_1 (new h (fun _ _ e => Heap.get?_push_of_some _ e) ⟨_, _, _, Heap.get?_push_size _ rfl⟩)
   | cons b r => cases b with
    | int y => cases r with
     | nil =>
      obtain ⟨_, _, rfl, ⟨t, rfl⟩, ⟨u, rfl⟩⟩ := two_out hr
      exact call_range_2 (new h (fun _ _ e => Heap.get?_push_of_some _ e) ⟨_, _, _, Heap.get?_push_size _ rfl⟩)
     | cons c r => cases c with
      | int z => cases r with
       | nil =>
        cases rs with
        | nil => exact hr.elim
        | cons ra rs =>
         obtain ⟨⟨t, rfl⟩, hr⟩ := hr
         obtain ⟨_, _, rfl, ⟨u, rfl⟩, ⟨v, rfl⟩⟩ := two_out hr
         exact call_range_3 h.out.1.1 (new h.out.2 (fun _ _ e => Heap.get?_push_of_some _ e) ⟨_, _, _, Heap.get?_push_size _ rfl⟩) (.inl (PyProof.noPylong_small (by have := h.out.1.2; lia)))
       | cons => exact h.elim
      | _ => exact h.elim
    | _ => exact h.elim
  | _ => exact h.elim
theorem listOf_ok {args : List AV} {rs : List Value} {K : KE} (h : wListOf args σ K) (hA : AOk 0 A) (H : HR B F ρ σ s.heap) (hr : VRs ρ args rs) (hQ : PE B F ρ s K Q) : wpAny (model prog w) A (call (.type "list") rs) Q E s := by
 cases args with
 | nil => exact h.elim
 | cons a r => cases r with
  | nil =>
   obtain ⟨ra, rfl, ha⟩ := hr.one
   cases a with
   | ref k =>
    obtain ⟨⟨b, o⟩, e1, h⟩ := wAt.out h
    cases o with
    | list xs =>
     obtain ⟨l, vs, n, rfl, _, g, r⟩ := listAt H e1 ha
     have hl : vs.size = _ := r.length
     exact call_list_seq l (.inl rfl) g rfl rfl (fun h' c' hk hD => Outs.new H (hQ.outs h.out.2) hk ⟨vs, c', hD, r.mono (List.prefix_append _ _)⟩) (sizeLine_big (by rw [hl]; exact h.out.1))
    | range lo hi st =>
     obtain ⟨a1, ea, rfl⟩ := ha
     obtain ⟨t, u, x, g⟩ := H.obj _ _ a1 e1 ea
     refine call_list_range hA.hd g h.out.1.1 (Int.toNat_of_nonneg (rangeSize_nonneg _ _ _)).symm (by have := h.out.1.2; unfold rangeN at this; lia) fun h' tk acc' c' hk hD hi => Outs.new H (hQ.outs h.out.2) hk ⟨acc', c', hD, ?_⟩
     exact rangeFrom_rel _ _ _ hi.1 fun i v hv => hi.2 i v (by rw [Array.getElem?_toList] at hv; exact hv)
    | _ => exact h.elim
   | _ => exact h.elim
  | cons => exact h.elim
theorem type_ok {T : String} {args : List AV} {rs : List Value} {K : KE} (h : wType T args σ K) (hA : AOk 0 A) (H : HR B F ρ σ s.heap) (hr : VRs ρ args rs) (hQ : PE B F ρ s K Q) : wpAny (model prog w) A (call (.type T) rs) Q E s := by
 unfold wType at h
 by_cases h1 : T = "range"
 ·subst h1; rw [if_pos rfl] at h; exact range_ok h H hr hQ
 rw [if_neg h1] at h
 by_cases h2 : T = "list"
 ·subst h2; rw [if_pos rfl] at h; exact listOf_ok h hA H hr hQ
 rw [if_neg h2] at h
 exact h.elim
theorem extDoor {a b : Array Value} (h : a.size + b.size ≤ 100000) : ¬(!a.isEmpty && Builtin.List.listTooLong (a.size + b.size)) = true := extend_door (sizeLine_big h)
theorem append_ok {k : Nat} {u : AV} {ru rk : Value} {K : KE} (h : wAppend k u σ K) (H : HR B F ρ σ s.heap) (hk : VR ρ (.ref k) rk) (hu : VR ρ u ru) (hQ : PE B F ρ s K Q) : wpAny (model prog w) A (call (.builtin "list.append") [rk, ru]) Q E s := by
 obtain ⟨b, xs, e1, h⟩ := wLst.out h
 obtain ⟨rfl, j⟩ := wB.out h
 obtain ⟨l, vs, n, rfl, ea, g, r⟩ := listAt H e1 hk
 have hl : vs.size = _ := r.length
 refine call_meets PySem.F.slot_list_append ⟨_, g, rfl⟩ PySem.F.entry_list_append (PySem.F.args_list_append_2 _ _) (AutoListH.list_append_list_val_0 l vs n ru (sizeLine_big (by rw [hl]; exact j.out.1))) ⟨g, ?_⟩
 exact (show Q .none _ from Outs.updL H e1 ea g (by rw [Array.toList_push]; exact r.append (bs := [u]) ⟨hu, trivial⟩) rfl (hQ.outs j.out.2))
theorem extend_ok {k : Nat} {u : AV} {ru rk : Value} {K : KE} (h : wExtend k u σ K) (H : HR B F ρ σ s.heap) (hk : VR ρ (.ref k) rk) (hu : VR ρ u ru) (hQ : PE B F ρ s K Q) : wpAny (model prog w) A (call (.builtin "list.extend") [rk, ru]) Q E s := by
 cases u with
 | ref j =>
  obtain ⟨b, xs, e1, h⟩ := wLst.out h
  obtain ⟨b2, ys, e2, h⟩ := wLst.out h
  obtain ⟨rfl, j⟩ := wB.out h
  obtain ⟨l, vs, n, rfl, ea, g, r⟩ := listAt H e1 hk
  obtain ⟨l2, ws, m, rfl, _, g2, r2⟩ := listAt H e2 hu
  have hl : vs.size = _ := r.length
  have hl2 : ws.size = _ := r2.length
  have hz : vs.size + ws.size ≤ 100000 := by rw [hl, hl2]; exact j.out.1.2
  refine call_meets PySem.F.slot_list_extend ⟨_, g, rfl⟩ PySem.F.entry_list_extend (PySem.F.args_list_extend_2 _ _) (AutoSeq1.list_extend_list_list_0 l vs n l2 ws m (extDoor hz) (sizeLine_big (by lia)) (by have := sizeLine_big hz; lia)) ⟨g, g2, ?_⟩
  exact (show Q .none _ from Outs.updL H e1 ea g (by rw [Array.toList_append]; exact r.append r2) rfl (hQ.outs j.out.2))
 | _ => exact h.elim
theorem fillsI_list : fillsInplaceSlot (.type "list") "add" true = pure false := by
 unfold fillsInplaceSlot
 show (typeLookup (.type "list") (dunderI "add") >>= fun fi => pure (fi.isSome && !isSeqSlot fi)) = pure false
 rw [typeLookup_type, builtinLookup_eq_fast]; kernel_rfl
theorem seqI_list : seqSlot? (.type "list") (dunderI "add") = pure (some (.builtin "list.__iadd__")) := by
 unfold seqSlot?
 rw [typeLookup_type, builtinLookup_eq_fast]; kernel_rfl
theorem iaddL {l b : Addr} {xs ys : Array Value} {n m : Nat} (ho : s.heap.get? l = some { cls := .type "list", data := .seq xs n }) (ho2 : s.heap.get? b = some { cls := .type "list", data := .seq ys m }) (hsz : xs.size + ys.size ≤ 100000)
  (h : Q (.ref l) { s with heap := s.heap.update l (Obj.mapSeq fun x => x ++ ys) }) : wpAny (model prog w) A (inplaceOp .Add (.ref l) (.ref b)) Q E s := by
 unfold inplaceOp
 refine wpAny_holding ?_
 refine wpAny_bind (wpAny_typeOf (T := "list") ⟨_, ho, rfl⟩ (wpAny_bind (wpAny_of_eq fillsI_list ?_)))
 show wpAny _ A (if false = true then _ else _) Q E s
 rw [if_neg Bool.false_ne_true]
 refine wpAny_bind (wpAny_binaryOp1_none (nm := "add") ⟨_, ho, rfl⟩ ⟨_, ho2, rfl⟩ noFill_list_add ?_)
 refine wpAny_bind (wpAny_of_eq seqI_list ?_)
 refine wpAny_bind (wpAny_rule ?_)
 refine call_meets PySem.F.slot_list_iadd ⟨_, ho, rfl⟩ PySem.F.entry_list_iadd (PySem.F.args_list_iadd_2 _ _) (AutoSeq1.list___iadd___list_list_0 l xs n b ys m (extDoor hsz) (sizeLine_big (by lia)) (by have := sizeLine_big hsz; lia)) ⟨ho, ho2, ?_⟩
 exact h
theorem un_ok {op : UnaryOp} {a : AV} {ra : Value} {K : KE} (h : wUn op a σ fun v => K v σ) (H : HR B F ρ σ s.heap) (ha : VR ρ a ra) (hQ : PE B F ρ s K Q) : wpAny (model prog w) A (unaryOp op ra) Q E s := by
 cases op with
 | Not =>
  show wpAny _ _ (holding [ra] (truthy ra >>= fun t => pure (Value.bool (!t)))) Q E s
  exact wpAny_holding (wpAny_bind (truth_ok (K := fun b σ => K (.bool (!b)) σ) h H ha fun ρ' t σ' s' g k => wpAny_pure (hQ ρ' (.bool (!t)) _ σ' s' g rfl k)))
 | USub => cases a with
  | int x => obtain ⟨t, rfl⟩ := ha; exact neg_int (Outs.int H (hQ.outs h))
  | _ => exact h.elim
 | Invert => cases a with
  | int x => obtain ⟨t, rfl⟩ := ha; exact invert_int (Outs.int H (hQ.outs h))
  | _ => exact h.elim
 | _ => exact h.elim
theorem augI_ok {op : Operator} {x y : Int} {t u : Tok} {K : KE} (h : wArith op x y fun v => K v σ) (H : HR B F ρ σ s.heap) (hQ : PE B F ρ s K Q) : wpAny (model prog w) A (inplaceOp op (.int x t) (.int y u)) Q E s := by
 cases op with
 | Add => exact wpAny_iadd_int (Outs.int H (hQ.outs h))
 | Sub => exact isub_int (Outs.int H (hQ.outs h))
 | Mult => exact imul_int (Outs.int H (hQ.outs h.out.2)) (mulOk_of_small h.out.1.1)
 | FloorDiv => exact ifloordiv_int (Int.ne_of_gt h.out.1.1) (Outs.int H (hQ.outs h.out.2)) (.inl (PyProof.noPylong_small (by have := h.out.1; lia)))
 | Mod => exact imod_int h.out.1 (Outs.int H (hQ.outs h.out.2))
 | LShift => exact ilshift_int_small h.out.1.1 (by have := h.out.1.2.1; lia) h.out.1.2.2 (Outs.int H (hQ.outs h.out.2))
 | RShift => exact irshift_int h.out.1 (Outs.int H (hQ.outs h.out.2))
 | BitAnd => exact iand_int (Outs.int H (hQ.outs h))
 | BitOr => exact ior_int (Outs.int H (hQ.outs h))
 | _ => exact h.elim
theorem ext_ok {op : Operator} {i j : Nat} {ra rb : Value} {K : KE} (h : wExt op i j σ K) (H : HR B F ρ σ s.heap) (ha : VR ρ (.ref i) ra) (hb : VR ρ (.ref j) rb) (hQ : PE B F ρ s K Q) : wpAny (model prog w) A (inplaceOp op ra rb) Q E s := by
 cases op with
 | Add =>
  obtain ⟨b, xs, e1, h⟩ := wLst.out h
  obtain ⟨_, ys, e2, h⟩ := wLst.out h
  obtain ⟨rfl, k⟩ := wB.out h
  obtain ⟨a1, vs, n, rfl, ea, g1, r1⟩ := listAt H e1 ha
  obtain ⟨a2, ws, m, rfl, _, g2, r2⟩ := listAt H e2 hb
  have l1 : vs.size = _ := r1.length
  have l2 : ws.size = _ := r2.length
  exact iaddL g1 g2 (by rw [l1, l2]; exact k.out.1.2) (Outs.updL H e1 ea g1 (by rw [Array.toList_append]; exact r1.append r2) ⟨_, ea, rfl⟩ (hQ.outs k.out.2))
 | _ => exact h.elim
theorem aug_ok {op : Operator} {a b : AV} {ra rb : Value} {K : KE} (h : wAug op a b σ K) (H : HR B F ρ σ s.heap) (ha : VR ρ a ra) (hb : VR ρ b rb) (hQ : PE B F ρ s K Q) : wpAny (model prog w) A (inplaceOp op ra rb) Q E s := by
 cases a with
 | int x =>
  obtain ⟨t, rfl⟩ := ha
  cases b with
  | int y => obtain ⟨u, rfl⟩ := hb; exact augI_ok h H hQ
  | bool q => cases hb; cases op with
   | Add => exact iadd_int_bool (Outs.int H (hQ.outs h))
   | _ => exact h.elim
  | _ => exact h.elim
 | bool p =>
  cases ha
  cases b with
  | int y => obtain ⟨u, rfl⟩ := hb; cases op with
   | Add => exact PySem.IntBool.iadd_bool_int (Outs.int H (hQ.outs h))
   | _ => exact h.elim
  | bool q => cases hb; cases op with
   | Add => exact iadd_bool (Outs.int H (hQ.outs h))
   | _ => exact h.elim
  | _ => exact h.elim
 | ref i =>
  cases b with
  | ref j => exact ext_ok h H ha hb hQ
  | _ => exact h.elim
 | _ => exact h.elim
end
end Mj
namespace Mj
open PySem PySem.W PyProof.Rows PySem.Spec
variable [SetW]
section
variable {prog : Program} {w : World} {A : Around} {E : Value → Shared → Prop} {B : Heap} {F : List (Addr × Obj)} {ρ : Rho} {σ σ' : Sto} {s : Shared} {Q : Value → Shared → Prop} {K : Frag} {C x : Addr}
theorem osa_heap {R : Result → Shared → Prop} {ox : Obj} {dx : Addr} {name : Str} {tk : Tok} {v : Value} {es : List DictEntry} {n : Nat} (D : s.heap.get? dx = some (dictOf es n)) (X : K.In s.heap)
  (I : InstAt s.heap x ox C (some (dictOf es n))) (hd : ox.dict = some dx) (hp : plainOver K C = true) (ht : takerIn K C name = some none) (hh : (clsIn K C).any (·.hasDict) = true)
  (hl : (lookIn name (dictOf es n)).isSome = true) (hz : es.length ≤ 900)
  (h : R (.ok (.ret .none)) { s with heap := s.heap.update dx (Obj.putName name (PyData.keyHash w.params name) (.str name s.toks) v), toks := s.toks + 1 }) :
  codeAny (model prog w) A (.call (.builtin "object.__setattr__") ⟨[.ref x, .str name tk, v], []⟩) R s := by
 refine osa_open X I hp ht fun b => ?_
 obtain ⟨cd, hc, hd'⟩ := any_some hh
 have e : Obj.putName name (PyData.keyHash w.params name) (.str name s.toks) v (dictOf es n) = dictOf (putL name (PyData.keyHash w.params name) (.str name s.toks) v es) (putN name es n) := putName_dict ..
 have D' : (s.heap.update dx (Obj.putName name (PyData.keyHash w.params name) (.str name s.toks) v)).get? dx = some (dictOf (putL name (PyData.keyHash w.params name) (.str name s.toks) v es) (putN name es n)) := by
  rw [Heap.get?_update_self _ D (by rw [e]; rfl), e]
 generalize dictOf es n = od at D I hl e D'
 obtain ⟨hx, hcl, hn, -⟩ := I
 obtain ⟨oc, odi, oda, osl⟩ := ox
 dsimp only at hcl hd
 subst hcl hd
 refine wpAny_bind (wpAny_pure (wpAny_bind (wpAny_bind (wpAny_loadPart hx (wpAny_bind ((looks_clsIn X hc).here ?_))))))
 rw [hd']
 refine wpAny_pure (a := some dx) (wpAny_bind (wpAny_pure (wpAny_bind ?_)))
 unfold nsSet
 refine wpAny_bind (wpAny_bind (wpAny_askSetting (wpAny_pure (wpAny_bind (wpAny_mkText (wpAny_bind (wpAny_loadPart D ?_)))))))
 unfold lookIn at hl
 split at hl
 ·rename_i es₀ n₀ q
  rw [q]
  dsimp only
  have c : (!es₀.any (·.key.isStr name) && es₀.any (·.refKey)) = false := by
   rw [← Array.any_toList, ← Array.any_toList]
   split at hl
   ·rename_i en he
    rw [List.any_eq_true.mpr ⟨en, List.mem_of_find?_eq_some he, List.find?_some he⟩]; rfl
   ·split at hl
    ·cases hl
    ·rename_i z; rw [Bool.not_eq_true] at z; rw [z, Bool.and_false]
  rw [aRefKeyMayBeTheName_at, c]
  refine wpAny_updatePart D ?_
  have hle : ∀ l : List DictEntry, (putL name (PyData.keyHash w.params name) (.str name s.toks) v l).length ≤ l.length + 1 := by
   intro l
   induction l with
   | nil => simp [putL]
   | cons a l ih => unfold putL; split <;> simp <;> lia
  refine wpAny_bind (wpAny_lookBehind D' (pastItsLine_dict (by rw [List.size_toArray, sizeLine_eq]; have := hle es; lia)) ?_)
  exact wpAny_pure h
 ·cases hl
theorem NsR.find {ρ : Rho} (name : Str) : ∀ {es : List (Str × AV)} {rs : List DictEntry}, NsR ρ es rs → (∀ v, es.lookup name = some v → ∃ rv, getL name rs = some (some rv) ∧ VR ρ v rv) ∧ (es.lookup name = none → getL name rs = some none) ∧ rs.length = es.length := by
 intro es
 induction es with
 | nil => intro rs h; cases rs with
  | nil => exact ⟨fun v e => by simp at e, fun _ => rfl, rfl⟩
  | cons => exact h.elim
 | cons e es ih =>
  intro rs h
  cases rs with
  | nil => exact h.elim
  | cons r rs =>
   obtain ⟨⟨t, hk⟩, hv, hr⟩ := h
   obtain ⟨i1, i2, i3⟩ := ih hr
   obtain ⟨x, u⟩ := e
   have hkey : r.key.isStr name = (x == name) := by rw [hk]; rfl
   by_cases hx : x = name
   ·subst hx
    refine ⟨fun v ev => ?_, fun en => by simp at en, by simp [i3]⟩
    simp at ev; subst ev
    refine ⟨r.val, ?_, hv⟩
    unfold getL
    rw [List.find?_cons, hkey]; simp
   ·have hb : (x == name) = false := beq_eq_false_iff_ne.mpr hx
    have hb' : (name == x) = false := beq_eq_false_iff_ne.mpr (Ne.symm hx)
    have hg : getL name (r :: rs) = getL name rs := by
     unfold getL
     rw [List.find?_cons, hkey, hb]
     have : r.refKey = false := by unfold DictEntry.refKey; rw [hk]
     simp [this]
    rw [hg, List.lookup_cons, hb']
    exact ⟨i1, i2, by simp [i3]⟩
theorem NsR.put {ρ : Rho} {name : Str} {hsh : Int} {tk : Tok} {v : AV} {rv : Value} (hv : VR ρ v rv) : ∀ {es : List (Str × AV)} {rs : List DictEntry}, NsR ρ es rs → NsR ρ (putField name v es) (putL name hsh (.str name tk) rv rs) := by
 intro es
 induction es with
 | nil => intro rs h; cases rs with
  | nil => exact ⟨⟨tk, rfl⟩, hv, trivial⟩
  | cons => exact h.elim
 | cons e es ih =>
  intro rs h
  cases rs with
  | nil => exact h.elim
  | cons r rs =>
   obtain ⟨⟨t, hk⟩, hv', hr⟩ := h
   obtain ⟨x, u⟩ := e
   have hkey : r.key.isStr name = (x == name) := by rw [hk]; rfl
   unfold putField putL
   rw [hkey]
   cases hb : x == name
   ·exact ⟨⟨t, hk⟩, hv', ih hr⟩
   ·exact ⟨⟨t, hk⟩, hv, hr⟩
/-- what the program's classes are, by the library's own looks -/
structure ClsOk (K : Frag) (X : Ctx) : Prop where
 get : ∀ C name, X.own C name = true → plainGet K C name = true ∧ hasDictIn K C = true ∧ ∃ attr, findIn K (.ref C) name = some attr ∧ noGet K attr = true
 set : ∀ C name, X.own C name = true → findIn K (.ref C) "__setattr__" = some (some (.builtin "object.__setattr__")) ∧ plainOver K C = true ∧ takerIn K C name = some none ∧ (clsIn K C).any (·.hasDict) = true
theorem instAt {k d : Nat} {b b' : Bool} {es : List (Str × AV)} (H : HR B F ρ σ s.heap) (e1 : σ[k]? = some ⟨b, .inst C d⟩) (e2 : σ[d]? = some ⟨b', .ns es⟩) {rv : Value} (hr : VR ρ (.ref k) rv) :
  ∃ a dx rs n, rv = .ref a ∧ ρ[d]? = some dx ∧ s.heap.get? dx = some (dictOf rs n) ∧ NsR ρ es rs ∧ InstAt s.heap a { cls := .ref C, dict := some dx } C (some (dictOf rs n)) := by
 obtain ⟨a, ea, rfl⟩ := hr
 obtain ⟨dx, edx, g1⟩ := H.obj _ _ a e1 ea
 obtain ⟨rs, n, g2, r⟩ := H.obj _ _ dx e2 edx
 exact ⟨a, dx, rs, n, rfl, edx, g2, r, ⟨g1, rfl, rfl, g2⟩⟩
theorem VR.handed {ρ : Rho} {v : AV} {rv : Value} (h : VR ρ v rv) (hc : noCon v = true) : handedIn rv = true := by
 cases v with
 | none => cases h; rfl
 | bool b => cases h; rfl
 | int i => obtain ⟨t, rfl⟩ := h; rfl
 | str x => obtain ⟨t, rfl⟩ := h; rfl
 | ref k => obtain ⟨a, _, rfl⟩ := h; rfl
 | con c => cases hc
theorem getF_ok {k d : Nat} {b b' : Bool} {es : List (Str × AV)} {name : Str} {v : AV} {rv : Value} {X : Ctx} {ex : Bool} (KO : ClsOk K X) (KB : K.In B) (H : HR B F ρ σ s.heap) (e1 : σ[k]? = some ⟨b, .inst C d⟩) (e2 : σ[d]? = some ⟨b', .ns es⟩)
  (ho : X.own C name = true) (ev : es.lookup name = some v) (hc : noCon v = true) (hr : VR ρ (.ref k) rv) (h : ∀ u, VR ρ v u → Q u { s with toks := s.toks + 1 }) : wpAny (model prog w) A (getAttr rv name ex) Q E s := by
 obtain ⟨a, dx, rs, n, rfl, edx, g, r, I⟩ := instAt H e1 e2 hr
 obtain ⟨p1, p2, attr, p3, p4⟩ := KO.get C name ho
 obtain ⟨u, hu, hv⟩ := (r.find name).1 v ev
 exact get_value (KB.keeps H.base) I (plainGet_of p1).1 (findObj_own p2 p3 p4 hu) (hv.handed hc) (h _ hv)
theorem setF_ok {Q : Unit → Shared → Prop} {k d : Nat} {b : Bool} {es : List (Str × AV)} {name : Str} {v : AV} {rv ru : Value} {X : Ctx} (KO : ClsOk K X) (KB : K.In B) (H : HR B F ρ σ s.heap) (e1 : σ[k]? = some ⟨b, .inst C d⟩) (e2 : σ[d]? = some ⟨true, .ns es⟩)
  (ho : X.own C name = true) (hz : es.length ≤ 100) (hr : VR ρ (.ref k) rv) (hv : VR ρ v ru) (h : Outs B F ρ (σ.set d ⟨true, .ns (putField name v es)⟩) s (fun _ _ => True) Q) : wpAny (model prog w) A (setAttr rv name ru) Q E s := by
 obtain ⟨a, dx, rs, n, rfl, edx, g, r, I⟩ := instAt H e1 e2 hr
 obtain ⟨p1, p2, p3, p4⟩ := KO.set C name ho
 obtain ⟨f1, f2, f3⟩ := r.find name
 have X' := KB.keeps H.base
 refine set_plain X' I p1 (osa_heap (s := { s with toks := s.toks + 1 }) g X' I rfl p2 p3 p4 ?_ (by lia) ?_)
 ·show (getL name rs).isSome = true
  cases hl : es.lookup name with
  | none => rw [f2 hl]; rfl
  | some u => obtain ⟨x, hx, _⟩ := f1 u hl; rw [hx]; rfl
 ·refine h ρ _ _ (List.prefix_refl _) ?_ trivial ⟨rfl, rfl⟩
  refine H.upd e2 edx rfl (fun c o hb eb => (Heap.get?_update_other _ _ (Ne.symm hb)).trans eb) ?_
  refine ⟨putL name (PyData.keyHash w.params name) (.str name (s.toks + 1)) ru rs, putN name rs n, ?_, r.put hv⟩
  show (s.heap.update dx _).get? dx = _
  rw [Heap.get?_update_self _ g (by rw [putName_dict]; rfl), putName_dict]
end
end Mj
namespace Mj
open PySem PySem.W PyProof.Rows PySem.Spec
variable [SetW]
/-- the text's scope and the frame's own: cells may be free names -/
noncomputable def ScR (sc sc' : Scope) : Prop := ∀ y, kindA sc y = kindA sc' y ∧ (sc.names.lookup y = some .local ↔ sc'.names.lookup y = some .local)
noncomputable def GlobOk (B : Heap) (ρ : Rho) (X : Ctx) : Prop :=
 ∃ mg mb, B.Ns mainGlobals mg ∧ B.Ns builtinsNs mb ∧ ∀ x v, X.glob.lookup x = some v → ∃ rv, VR ρ v rv ∧ (mg x = some rv ∨ (mg x = none ∧ mb x = some rv))
theorem GlobOk.mono {B : Heap} {ρ ρ' : Rho} {X : Ctx} (hp : ρ <+: ρ') : GlobOk B ρ X → GlobOk B ρ' X
 | ⟨mg, mb, a, b, c⟩ => ⟨mg, mb, a, b, fun x v e => let ⟨rv, p, q⟩ := c x v e; ⟨rv, p.mono hp, q⟩⟩
/-- the frame at hand, as the ledger bears it -/
structure FP (B : Heap) (F : List (Addr × Obj)) (ρ : Rho) (X : Ctx) (env : Env) (ae : Loc) : Prop where
 kind : env.scope.kind = .function
 eg : env.globals = mainGlobals
 eb : env.builtins = builtinsNs
 glob : GlobOk B ρ X
 ns : ∃ oL es ep, (env.locals, oL) ∈ F ∧ oL.data = .dict es ep ∧ StrKeys es ∧ ∀ x v, ae.lookup x = some v → env.kindOf x = some .local → ∃ rv, nsFind es x = some rv ∧ VR ρ v rv
 cl : ∀ x v, ae.lookup x = some v → (env.kindOf x = some .cell ∨ env.kindOf x = some .free) → ∃ c oc rv, env.cells.lookup x = some c ∧ (c, oc) ∈ F ∧ oc.data = .cell (some rv) ∧ VR ρ v rv
 cells : ∀ x, env.kindOf x = some .cell → ∃ c, env.cells.lookup x = some c
 cellF : ∀ x c, env.cells.lookup x = some c → ∃ oc v₀, (c, oc) ∈ F ∧ oc.data = .cell v₀
 apart : ∀ x y c, env.cells.lookup x = some c → env.cells.lookup y = some c → x = y
 notL : ∀ x c, env.cells.lookup x = some c → c ≠ env.locals
 nocd : env.kindOf "__classdict__" = none
 code : ∃ q, B.CodeRec env.code q
theorem FP.mono {B : Heap} {F : List (Addr × Obj)} {ρ ρ' : Rho} {X : Ctx} {env : Env} {ae : Loc} (hp : ρ <+: ρ') (P : FP B F ρ X env ae) : FP B F ρ' X env ae :=
 {P with
  glob := P.glob.mono hp
  ns := let ⟨oL, es, ep, a, b, c, d⟩ := P.ns; ⟨oL, es, ep, a, b, c, fun x v e k => let ⟨rv, p, q⟩ := d x v e k; ⟨rv, p, q.mono hp⟩⟩
  cl := fun x v e k => let ⟨c, oc, rv, a, b, d, q⟩ := P.cl x v e k; ⟨c, oc, rv, a, b, d, q.mono hp⟩ }
/-- the same frame on another ledger -/
theorem FP.sub {B : Heap} {F F₀ : List (Addr × Obj)} {ρ : Rho} {X : Ctx} {env : Env} {ae : Loc} (P : FP B F ρ X env ae) (hs : ∀ p ∈ F, (p.1 = env.locals ∨ ∃ x, env.cells.lookup x = some p.1) → p ∈ F₀) : FP B F₀ ρ X env ae :=
 {P with
  ns := let ⟨oL, es, ep, a, b, c, d⟩ := P.ns; ⟨oL, es, ep, hs _ a (.inl rfl), b, c, d⟩
  cl := fun x v e k => let ⟨c, oc, rv, a, b, d, q⟩ := P.cl x v e k; ⟨c, oc, rv, a, hs _ b (.inr ⟨x, a⟩), d, q⟩
  cellF := fun x c e => let ⟨oc, v₀, a, b⟩ := P.cellF x c e; ⟨oc, v₀, hs _ a (.inr ⟨x, e⟩), b⟩ }
section
variable {prog : Program} {w : World} {A : Around} {E : Value → Shared → Prop} {B : Heap} {F : List (Addr × Obj)} {ρ : Rho} {σ σ' : Sto} {s : Shared} {Q : Value → Shared → Prop} {X : Ctx} {env : Env} {ae : Loc}
theorem FP.nsAt (P : FP B F ρ X env ae) (H : HR B F ρ σ s.heap) : ∃ es, s.heap.Ns env.locals (nsFind es) ∧ ∀ x v, ae.lookup x = some v → env.kindOf x = some .local → ∃ rv, nsFind es x = some rv ∧ VR ρ v rv := by
 obtain ⟨oL, es, ep, a, b, c, d⟩ := P.ns
 exact ⟨es, ⟨oL, es, ep, H.fr _ a, b, c, fun _ => rfl⟩, d⟩
theorem load_ok {sc : Scope} {x : Str} {v : AV} (e : nameA X sc x ae = some v) (hsc : ScR sc env.scope) (P : FP B F ρ X env ae) (H : HR B F ρ σ s.heap) (fin : ∀ rv, VR ρ v rv → Q rv s) :
  wpAny (model prog w) A (loadName env x) Q E s ∧ (x == ("__debug__" : Str)) = false := by
 unfold nameA at e
 split at e
 ·cases e
 rename_i hd
 refine ⟨?_, by simpa using hd⟩
 rw [(hsc x).1] at e
 unfold kindA at e
 cases hl : env.scope.names.lookup x with
 | none => rw [hl] at e; cases e
 | some kd =>
  rw [hl] at e
  cases kd with
  | globalImplicit =>
   obtain ⟨mg, mb, g1, g2, g3⟩ := P.glob
   obtain ⟨rv, hv, hc⟩ := g3 x v e
   have g1' : s.heap.Ns env.globals mg := by rw [P.eg]; exact g1.keeps H.base
   have hl' : env.kindOf x = some .globalImplicit := hl
   unfold loadName
   simp only [Env.blockKind, P.kind, hl', ScopeKind.isAnnotationScope, Bool.false_and, Bool.false_eq_true, if_false]
   rcases hc with hc | ⟨hc, hb⟩
   ·exact Calls.loadGlobal_global g1' hc (fin rv hv)
   ·exact Calls.loadGlobal_builtin g1' hc (by rw [P.eb]; exact g2.keeps H.base) hb (fin rv hv)
  | «local» =>
   obtain ⟨es, n1, n2⟩ := P.nsAt H
   obtain ⟨rv, e1, hv⟩ := n2 x v e hl
   exact wpAny_loadName_local P.kind hl n1 e1 (fin rv hv)
  | cell =>
   obtain ⟨c, oc, rv, c1, c2, c3, hv⟩ := P.cl x v e (.inl hl)
   exact wpAny_loadName_cell P.kind hl c1 ⟨oc, H.fr _ c2, c3⟩ (fin rv hv)
  | free =>
   obtain ⟨c, oc, rv, c1, c2, c3, hv⟩ := P.cl x v e (.inr hl)
   refine wpAny_loadName_free P.kind hl c1 ⟨oc, H.fr _ c2, c3⟩ (fin rv hv) ?_
   rw [beq_eq_false_iff_ne]; rintro rfl
   have : env.kindOf "__classdict__" = some .free := hl
   rw [P.nocd] at this; cases this
  | _ => cases e
theorem name_ok {sc : Scope} {x : Str} {v : AV} {pos : Pos} (e : nameA X sc x ae = some v) (hsc : ScR sc env.scope) (P : FP B F ρ X env ae) (H : HR B F ρ σ s.heap) (fin : ∀ rv, VR ρ v rv → Q rv s) :
  wpAny (model prog w) A (eval (.Name x pos) env) Q E s := let ⟨h, hd⟩ := load_ok (prog := prog) (w := w) (A := A) (E := E) e hsc P H fin; wpAny_Name h hd
/-- what a step of the frame leaves: the ledger's own entries turned -/
noncomputable def Turned (L : List Addr) (F F' : List (Addr × Obj)) : Prop := F'.map (·.1) = F.map (·.1) ∧ ∀ p ∈ F, p.1 ∉ L → p ∈ F'
theorem Turned.refl {L : List Addr} {F : List (Addr × Obj)} : Turned L F F := ⟨rfl, fun _ h _ => h⟩
theorem Turned.trans {L : List Addr} {F F' F'' : List (Addr × Obj)} (x : Turned L F F') (y : Turned L F' F'') : Turned L F F'' := ⟨y.1.trans x.1, fun p hp hn => y.2 p (x.2 p hp hn) hn⟩
/-- the frame's own places -/
noncomputable def ownAt (env : Env) : List Addr := env.locals :: (env.scope.names.filterMap fun p => if p.2 = .cell then env.cells.lookup p.1 else none)
theorem lookup_put {name x : Str} {v : AV} : ∀ {es : Loc}, (putField name v es).lookup x = if x = name then some v else es.lookup x := by
 intro es
 induction es with
 | nil =>
  unfold putField
  by_cases h : x = name
  ·subst h; simp
  ·simp [List.lookup_cons, beq_eq_false_iff_ne.mpr h, h]
 | cons e es ih =>
  obtain ⟨n, u⟩ := e
  unfold putField
  by_cases hn : n = name
  ·subst hn
   simp only [beq_self_eq_true, if_true]
   by_cases h : x = n
   ·subst h; simp
   ·simp [List.lookup_cons, beq_eq_false_iff_ne.mpr h, h]
  ·rw [beq_eq_false_iff_ne.mpr hn, if_neg Bool.false_ne_true, List.lookup_cons, List.lookup_cons, ih]
   by_cases h : x = n
   ·subst h; simp [hn]
   ·simp [beq_eq_false_iff_ne.mpr h]
theorem asgL_ok {Q : Unit → Shared → Prop} {x : Str} {v : AV} {rv : Value} (hl : env.scope.names.lookup x = some .local) (P : FP B F ρ X env ae) (H : HR B F ρ σ s.heap) (hv : VR ρ v rv)
  (h : ∀ F' s', Turned [env.locals] F F' → FP B F' ρ X env (putField x v ae) → HR B F' ρ σ s'.heap → Same s s' → Q () s') : wpAny (model prog w) A (storeName env x rv) Q E s := by
 obtain ⟨oL, es, ep, a, b, c, d⟩ := P.ns
 have hn : s.heap.Ns env.locals (nsFind es) := ⟨oL, es, ep, H.fr _ a, b, c, fun _ => rfl⟩
 refine wpAny_storeName_local hl hn (fun h' hn' hs => ?_) (by rw [P.kind]; rfl)
 obtain ⟨oL', es', ep', ho', hd', hk', hf'⟩ := hn'
 have H' := H.turn a (fun b o hb eb => (hs.2 b hb).trans eb) ho'
 refine h _ _ ⟨HR.turnF_fst _ _ _, fun p hp hnp => HR.turnF_mem hp fun q => hnp (by simp [q])⟩ ?_ H' ⟨rfl, rfl⟩
 refine { P with ns := ⟨oL', es', ep', HR.turnF_self a, hd', hk', fun y u ey ky => ?_⟩, cl := fun y u ey ky => ?_, cellF := fun y c' ky => ?_ }
 ·rw [lookup_put] at ey
  rw [hf']
  split at ey
  ·rename_i q; subst q; cases ey; exact ⟨rv, by simp, hv⟩
  ·rename_i q; simp only [if_neg q]; exact d y u ey ky
 ·rw [lookup_put] at ey
  have hyx : y ≠ x := by rintro rfl; rw [show env.kindOf y = some .local from hl] at ky; rcases ky with ky | ky <;> cases ky
  rw [if_neg hyx] at ey
  obtain ⟨c', oc, ru, c1, c2, c3, c4⟩ := P.cl y u ey ky
  exact ⟨c', oc, ru, c1, HR.turnF_mem c2 (P.notL y c' c1), c3, c4⟩
 ·obtain ⟨oc, v₀, c2, c3⟩ := P.cellF y c' ky
  exact ⟨oc, v₀, HR.turnF_mem c2 (P.notL y c' ky), c3⟩
theorem asgC_ok {Q : Unit → Shared → Prop} {x : Str} {v : AV} {rv : Value} (hl : env.scope.names.lookup x = some .cell) (P : FP B F ρ X env ae) (H : HR B F ρ σ s.heap) (hv : VR ρ v rv)
  (h : ∀ F' s', Turned (ownAt env) F F' → FP B F' ρ X env (putField x v ae) → HR B F' ρ σ s'.heap → Same s s' → Q () s') : wpAny (model prog w) A (storeName env x rv) Q E s := by
 obtain ⟨c, c1⟩ := P.cells x hl
 obtain ⟨oc, v₀, c2, c3⟩ := P.cellF x c c1
 refine wpAny_storeName_cell P.kind hl c1 ⟨oc, H.fr _ c2, c3⟩ fun h' hc hs => ?_
 obtain ⟨oc', ho', hd'⟩ := hc
 have H' := H.turn c2 (fun b o hb eb => (hs.2 b hb).trans eb) ho'
 refine h _ _ ⟨HR.turnF_fst _ _ _, fun p hp hnp => HR.turnF_mem hp fun q => hnp ?_⟩ ?_ H' ⟨rfl, rfl⟩
 ·rw [q]
  exact List.mem_cons_of_mem _ (List.mem_filterMap.mpr ⟨(x, .cell), mem_of_lookup hl, by rw [if_pos rfl]; exact c1⟩)
 refine { P with ns := ?_, cl := fun y u ey ky => ?_, cellF := fun y d ky => ?_ }
 ·obtain ⟨oL, es, ep, a, b, k, d⟩ := P.ns
  refine ⟨oL, es, ep, HR.turnF_mem a (P.notL x c c1).symm, b, k, fun y u ey ky => ?_⟩
  rw [lookup_put] at ey
  have hyx : y ≠ x := by rintro rfl; rw [show env.kindOf y = some .cell from hl] at ky; cases ky
  rw [if_neg hyx] at ey
  exact d y u ey ky
 ·rw [lookup_put] at ey
  by_cases q : y = x
  ·subst q; rw [if_pos rfl] at ey; cases ey; exact ⟨c, oc', rv, c1, HR.turnF_self c2, hd', hv⟩
  ·rw [if_neg q] at ey
   obtain ⟨c', od, ru, d1, d2, d3, d4⟩ := P.cl y u ey ky
   exact ⟨c', od, ru, d1, HR.turnF_mem d2 (by rintro rfl; exact q (P.apart y x c' d1 c1)), d3, d4⟩
 ·by_cases q : y = x
  ·subst q; rw [c1] at ky; cases ky; exact ⟨oc', _, HR.turnF_self c2, hd'⟩
  ·obtain ⟨od, v₁, d2, d3⟩ := P.cellF y d ky
   exact ⟨od, v₁, HR.turnF_mem d2 (by rintro rfl; exact q (P.apart y x d ky c1)), d3⟩
theorem asg_ok {Q : Unit → Shared → Prop} {x : Str} {v : AV} {rv : Value} {ae' : Loc} (e : asgName env.scope x v ae = some ae') (P : FP B F ρ X env ae) (H : HR B F ρ σ s.heap) (hv : VR ρ v rv)
  (h : ∀ F' s', Turned (ownAt env) F F' → FP B F' ρ X env ae' → HR B F' ρ σ s'.heap → Same s s' → Q () s') : wpAny (model prog w) A (storeName env x rv) Q E s := by
 unfold asgName at e
 cases hl : env.scope.names.lookup x with
 | none => rw [hl] at e; cases e
 | some kd =>
  rw [hl] at e
  cases kd with
  | «local» => cases e; exact asgL_ok hl P H hv fun F' s' T => h F' s' ⟨T.1, fun p hp hn => T.2 p hp fun q => hn (by rw [List.mem_singleton.mp q]; exact List.mem_cons_self ..)⟩
  | cell => cases e; exact asgC_ok hl P H hv h
  | _ => cases e
end
end Mj
namespace Mj
open PySem PySem.W PyProof.Rows PySem.Spec
variable [SetW]
/-- room for d calls and n levels of text -/
structure AK (d n : Nat) (A : Around) : Prop where
 hd : A.handled = none
 dp : A.depth + 2 * d + min n 1 ≤ 900
 un : A.units + 150 * d + 3 * n + 100 ≤ 9000
theorem AK.ok {d n : Nat} {A : Around} (h : AK d n A) : AOk 0 A := ⟨h.hd, by have := h.dp; lia, by have := h.un; lia⟩
theorem AK.le {d n m : Nat} {A : Around} (h : AK d n A) (hm : m ≤ n) : AK d m A := ⟨h.hd, by have := h.dp; lia, by have := h.un; lia⟩
/-- the context is the heap's -/
structure XOk (B : Heap) (K : Frag) (X : Ctx) : Prop where
 KB : K.In B
 cls : ClsOk K X
 keepF : ∀ f fn, X.fn f = some fn → keepIn K (.ref f) = true
 keepC : ∀ C ini, X.cls C = some ini → keepIn K (.ref C) = true
 stat : ∀ C name f, X.stat C name = some f → specialIn K (.ref C) "__getattribute__" = some (some (.builtin "type.__getattribute__")) ∧
  ∃ mc p rest, readsIn K C mc = true ∧ findCls K (.ref C) mc name = some (.get (.builtin "staticmethod.__get__") (.ref p) .none (.ref C)) ∧ recIn K p "staticmethod" = some (.ref f :: rest)
 meth : ∀ C name f, X.meth C name = some f → plainGet K C name = true ∧ findIn K (.ref C) name = some (some (.ref f)) ∧ isFn K (.ref f) = true
 cattr : ∀ C name v, X.cattr C name = some v → ∃ mc a, readsIn K C mc = true ∧ findCls K (.ref C) mc name = some (.val a) ∧ handedIn a = true ∧ VR [] v a
 new : ∀ C ini, X.cls C = some ini → makesIn K C = true ∧ findIn K (.ref C) "__init__" = some (some (.ref ini)) ∧ typeIn K (.ref ini) = some (.type "function")
theorem VR.lift {ρ : Rho} {v : AV} {rv : Value} (h : VR [] v rv) : VR ρ v rv := h.mono (List.nil_prefix)
section
variable (prog : Program) (w : World) (B : Heap) (X : Ctx)
/-- the room, the scope, the frame, the heap of a step -/
structure Rd (B : Heap) (X : Ctx) (d n : Nat) (A : Around) (sc : Scope) (env : Env) (F : List (Addr × Obj)) (ae : Loc) (ρ : Rho) (σ : Sto) (s : Shared) : Prop where
 A : AK d n A
 S : ScR sc env.scope
 P : FP B F ρ X env ae
 H : HR B F ρ σ s.heap
/-- calls of the program's functions -/
noncomputable def CallOk (d : Nat) (call : Addr → List AV → Sto → XE) : Prop :=
 ∀ {f : Addr} {args : List AV} {σ : Sto} {K : KE}, call f args σ K → (∃ fn, X.fn f = some fn) ∧
  ∀ {A : Around} {F : List (Addr × Obj)} {ρ : Rho} {s : Shared} {R : Result → Shared → Prop} {rs : List Value}, AK d 0 A → HR B F ρ σ s.heap → GlobOk B ρ X → VRs ρ args rs →
   PE B F ρ s K (fun r s' => R (.ok (.ret r)) s') → codeAny (model prog w) A (.call (.ref f) ⟨rs, []⟩) R s
noncomputable def EvalOk (d n : Nat) (f : Scope → Expr → Loc → Sto → XE) : Prop :=
 ∀ {A : Around} {E : Value → Shared → Prop} {F : List (Addr × Obj)} {ρ : Rho} {σ : Sto} {s : Shared} {Q : Value → Shared → Prop} {sc : Scope} {env : Env} {e : Expr} {ae : Loc} {K : KE},
  f sc e ae σ K → Rd B X d n A sc env F ae ρ σ s → PE B F ρ s K Q → wpAny (model prog w) A (eval e env) Q E s
noncomputable def TestOk (d n : Nat) (f : Scope → Expr → Loc → Sto → (Bool → Sto → Prop) → Prop) : Prop :=
 ∀ {A : Around} {E : Value → Shared → Prop} {F : List (Addr × Obj)} {ρ : Rho} {σ : Sto} {s : Shared} {Q : Bool → Shared → Prop} {sc : Scope} {env : Env} {e : Expr} {ae : Loc} {K : Bool → Sto → Prop},
  f sc e ae σ K → Rd B X d n A sc env F ae ρ σ s → PB B F ρ s K Q → wpAny (model prog w) A (isTrue e env (eval e env)) Q E s
end
section
variable {prog : Program} {w : World} {A : Around} {E : Value → Shared → Prop} {B : Heap} {X : Ctx} {F : List (Addr × Obj)} {ρ : Rho} {σ : Sto} {s : Shared} {sc : Scope} {env : Env} {ae : Loc} {d n : Nat}
 {f : Scope → Expr → Loc → Sto → XE}
theorem Rd.le (R : Rd B X d (n + 1) A sc env F ae ρ σ s) : Rd B X d n A sc env F ae ρ σ s := { R with A := R.A.le (Nat.le_succ n) }
theorem Rd.go {ρ1 : Rho} {σ1 : Sto} {s1 : Shared} (R : Rd B X d n A sc env F ae ρ σ s) (g : Go B F ρ s ρ1 σ1 s1) : Rd B X d n A sc env F ae ρ1 σ1 s1 := ⟨R.A, R.S, R.P.mono g.pre, g.H⟩
theorem star_cons {e : Expr} {rest : List Expr} {env : Env} (h : ∀ x p, e ≠ .Starred x p) : starEach (e :: rest) env = (false, eval e env) :: starEach rest env := by
 cases e <;> first | rfl | exact absurd rfl (h _ _)
/-- every argument is a plain one -/
noncomputable def Plain (es : List Expr) : Prop := ∀ e ∈ es, ∀ x p, e ≠ .Starred x p
theorem plain_of {es : List Expr} (h : es.all notStar = true) : Plain es := fun e he x p q => by subst q; exact Bool.false_ne_true (List.all_eq_true.mp h _ he)
theorem plain_cons {e : Expr} {es : List Expr} (h : Plain (e :: es)) : starEach (e :: es) env = (false, eval e env) :: starEach es env := star_cons (h e (List.mem_cons_self ..))
theorem Plain.tail {e : Expr} {es : List Expr} (h : Plain (e :: es)) : Plain es := fun x hx => h x (List.mem_cons_of_mem _ hx)
theorem plain_any {pos : Pos} : ∀ {es : List Expr}, Plain es → (backTo pos (starEach es env)).any (·.1) = false
 | [], _ => rfl
 | _ :: _, h => by rw [plain_cons h]; exact plain_any h.tail
/-- the arguments' walk -/
theorem spliced_ok (hf : EvalOk prog w B X d n f) {pos : Pos} : ∀ {es : List Expr} {ρ : Rho} {σ : Sto} {s : Shared} {Q : List Value → Shared → Prop} {K : List AV → Sto → Prop}, Plain es → evalsA (f sc) es ae σ K → Rd B X d n A sc env F ae ρ σ s →
  (∀ ρ' vs rs σ' s', Go B F ρ s ρ' σ' s' → VRs ρ' vs rs → rs.length = es.length → K vs σ' → Q rs s') → wpAny (model prog w) A (spliced (backTo pos (starEach es env))) Q E s
 | [], _, _, _, _, _, _, h, R, hQ => wpAny_items_nil (hQ _ [] [] _ _ (.refl R.H) trivial rfl h)
 | _ :: _, _, _, _, _, _, hp, h, R, hQ =>
  wpAny_items_cons (hf h R fun _ _ _ _ _ g hv k => spliced_ok hf hp.tail k (R.go g) fun _ _ _ _ _ g2 hvs hl k2 => hQ _ (_ :: _) (_ :: _) _ _ (g.trans g2) ⟨hv.mono g2.pre, hvs⟩ (congrArg (· + 1) hl) k2) (plain_cons hp)
/-- a call once its callee is known -/
theorem callWith_ok (hf : EvalOk prog w B X d n f) {pos : Pos} {fv : Value} {first : List Value} {es : List Expr} {Q : Value → Shared → Prop} {K : List AV → Sto → Prop} (hp : Plain es)
  (hk : ∀ h : Heap, (∀ b o, B.get? b = some o → h.get? b = some o) → ∃ k, (k = Keeper.frame ∨ k = Keeper.machine ∨ k = Keeper.boundFrame) ∧ Looks (model prog w) h (keeperOf fv) k)
  (e : evalsA (f sc) es ae σ K) (R : Rd B X d n A sc env F ae ρ σ s) (h : PL B F ρ s K fun rs s' => wpAny (model prog w) A (call fv (first ++ rs)) Q E s') :
  wpAny (model prog w) A (callWith pos fv first (backTo pos (starEach es env)) []) Q E s := by
 refine callWith_of (P := fun h => ∀ b o, B.get? b = some o → h.get? b = some o) (by rw [plain_any hp]; rfl) hk ?_
 cases es with
 | nil => exact PySem.evalArgs_none ⟨R.H.base, h _ [] [] _ _ (.refl R.H) trivial e⟩
 | cons a es =>
  have := spliced_ok (A := A) (E := E) (pos := pos) hf hp e R (Q := fun rs s' => (∀ b o, B.get? b = some o → s'.heap.get? b = some o) ∧ wpAny (model prog w) A (call fv (first ++ rs)) Q E s')
   fun _ _ _ _ _ g hv _ k => ⟨g.H.base, h _ _ _ _ _ g hv k⟩
  rw [plain_cons hp] at this ⊢
  exact Calls.evalArgs_plain this
theorem keeps_def {K : Frag} (XO : XOk B K X) {a : Addr} (e : keepIn K (.ref a) = true) (h : Heap) (hb : ∀ b o, B.get? b = some o → h.get? b = some o) :
  ∃ k, (k = Keeper.frame ∨ k = Keeper.machine ∨ k = Keeper.boundFrame) ∧ Looks (model prog w) h (keeperOf (.ref a)) k := keeps_K e h (XO.KB.keeps hb)
theorem keeps_builtin {id : String} (h : Heap) (_ : ∀ b o, B.get? b = some o → h.get? b = some o) :
  ∃ k, (k = Keeper.frame ∨ k = Keeper.machine ∨ k = Keeper.boundFrame) ∧ Looks (model prog w) h (keeperOf (.builtin id)) k := ⟨.machine, .inr (.inl rfl), Looks.now⟩
theorem keeps_type {T : String} (h : Heap) (_ : ∀ b o, B.get? b = some o → h.get? b = some o) :
  ∃ k, (k = Keeper.frame ∨ k = Keeper.machine ∨ k = Keeper.boundFrame) ∧ Looks (model prog w) h (keeperOf (.type T)) k := ⟨.machine, .inr (.inl rfl), Looks.now⟩
end
end Mj
namespace Mj
open PySem PySem.W PyProof.Rows PySem.Spec
variable [SetW]
section
variable {prog : Program} {w : World} {A : Around} {E : Value → Shared → Prop} {B : Heap} {K : Frag} {X : Ctx} {F : List (Addr × Obj)} {ρ : Rho} {σ σ' : Sto} {s : Shared} {sc : Scope} {env : Env} {ae : Loc} {d n : Nat}
 {f : Scope → Expr → Loc → Sto → XE} {call : Addr → List AV → Sto → XE} {Q : Value → Shared → Prop}
theorem make_ok (XO : XOk B K X) (CO : CallOk prog w B X d call) {C ini : Addr} {args : List AV} {rs : List Value} (hC : X.cls C = some ini)
  {K0 : KE} (e : call ini (.ref (σ.length + 1) :: args) (σ ++ [⟨true, .ns []⟩, ⟨true, .inst C σ.length⟩]) fun v σ' => ifNone v (K0 (.ref (σ.length + 1)) σ')) (hA : AK d 1 A) (H : HR B F ρ σ s.heap) (G : GlobOk B ρ X) (hr : VRs ρ args rs)
  (hQ : PE B F ρ s K0 Q) : wpAny (model prog w) A (PySem.call (.ref C) rs) Q E s := by
 obtain ⟨m1, m2, m3⟩ := XO.new C ini hC
 have X' := XO.KB.keeps H.base
 refine wpAny_call ?_
 obtain ⟨hh, gg, dd, tt, oo⟩ := s
 have H1 : HR B F (ρ ++ [hh.objs.size]) (σ ++ [⟨true, .ns []⟩]) (hh.push emptyDict) := H.alloc (fun _ _ e => Heap.get?_push_of_some _ e) (Nat.le_refl _) ⟨[], 0, Heap.get?_push_size _ rfl, trivial⟩
 have hsz : (hh.push emptyDict).objs.size = hh.objs.size + 1 := Heap.size_push ..
 have H2 : HR B F (ρ ++ [hh.objs.size] ++ [hh.objs.size + 1]) (σ ++ [⟨true, .ns []⟩] ++ [⟨true, .inst C σ.length⟩]) ((hh.push emptyDict).push (instObj C hh.objs.size)) := by
  refine H1.alloc (fun _ _ e => Heap.get?_push_of_some _ e) (by rw [hsz]; exact Nat.le_refl _) ⟨hh.objs.size, ?_, ?_⟩
  ·rw [List.append_assoc, ← H.len]; simp
  ·rw [← hsz]; exact Heap.get?_push_size _ rfl
 have hp : ρ <+: ρ ++ [hh.objs.size] ++ [hh.objs.size + 1] := by rw [List.append_assoc]; exact List.prefix_append _ _
 have hx : (ρ ++ [hh.objs.size] ++ [hh.objs.size + 1])[σ.length + 1]? = some (hh.objs.size + 1) := by rw [← H.len]; simp
 have hdep : (A.under (.builtin "type.__call__" ⟨.ref C :: rs, []⟩)).depth = A.depth + 1 := by
  have hw : Code.weight (.builtin "type.__call__" ⟨.ref C :: rs, []⟩) = 1 := by kernel_rfl
  show A.depth + Code.weight _ = A.depth + 1
  rw [hw]
 refine make_core (makes_of X' m1) (looks_findIn X' m2) (fun self => bind_fn X' self m3) (.inl rfl) ?_
 obtain ⟨_, CO'⟩ := CO e
 refine CO' ⟨hA.hd, by rw [hdep]; have := hA.dp; lia, ?_⟩ (s := ⟨_, gg, dd, tt, oo⟩) (by rw [List.append_assoc] at H2; simpa using H2) (G.mono (List.append_assoc .. ▸ hp)) ⟨⟨_, by simpa using hx, rfl⟩, hr.mono (by simpa using hp)⟩ ?_
 ·have := hA.un
  show (A.units + 1) + 150 * d + 3 * 0 + 100 ≤ 9000
  lia
 ·intro ρ' v rv σ' s' g hv k
  cases v with
  | none =>
   refine ⟨hv, ?_⟩
   have hx' : ρ'[σ.length + 1]? = some (hh.objs.size + 1) := get_prefix g.pre (by simpa using hx)
   exact hQ _ (.ref (σ.length + 1)) _ _ _ ⟨(by simpa using hp : ρ <+: ρ ++ [hh.objs.size, hh.objs.size + 1]).trans g.pre, g.H, g.same.gens, g.same.os⟩ ⟨_, hx', rfl⟩ k
  | _ => exact k.elim
theorem apply_ok (XO : XOk B K X) (CO : CallOk prog w B X d call) (hf : EvalOk prog w B X d n f) {pos : Pos} {a : AV} {rv : Value} {es : List Expr} {KK : KE} (hp : Plain es) (hc : calleeOk X a = true)
  (e : evalsA (f sc) es ae σ fun vs σ => wApply X call a vs σ KK) (R : Rd B X d (n + 1) A sc env F ae ρ σ s) (hr : VR ρ a rv) (hQ : PE B F ρ s KK Q) : wpAny (model prog w) A (callWith pos rv [] (backTo pos (starEach es env)) []) Q E s := by
 cases a with
 | con c =>
  obtain rfl : c = _ := Eq.symm hr
  cases c with
  | builtin id => exact callWith_ok hf hp keeps_builtin e R.le fun _ _ _ _ _ g hrs k => builtin_ok k R.A.ok g.H hrs (hQ.after g)
  | type T => exact callWith_ok hf hp keeps_type e R.le fun _ _ _ _ _ g hrs k => type_ok k R.A.ok g.H hrs (hQ.after g)
  | ref c =>
   cases hC : X.cls c with
   | some ini =>
    have e : evalsA (f sc) es ae σ fun vs σ => lCall call ini (.ref (σ.length + 1) :: vs) (σ ++ [⟨true, .ns []⟩, ⟨true, .inst c σ.length⟩]) fun v σ' => ifNone v (KK (.ref (σ.length + 1)) σ') := by simpa only [wApply, hC] using e
    exact callWith_ok hf hp (keeps_def XO (XO.keepC _ _ hC)) e R.le fun _ _ _ _ _ g hrs k => make_ok XO CO hC k.out (R.A.le (Nat.succ_le_succ (Nat.zero_le n))) g.H (R.P.glob.mono g.pre) hrs (hQ.after g)
   | none =>
    have e : evalsA (f sc) es ae σ fun vs σ => lCall call c vs σ KK := by simpa only [wApply, hC] using e
    have hF : (X.fn c).isSome = true := by
     have : ((X.cls c).isSome || (X.fn c).isSome) = true := hc
     rwa [hC, Option.isSome_none, Bool.false_or] at this
    obtain ⟨fn, hF⟩ := Option.isSome_iff_exists.mp hF
    exact callWith_ok hf hp (keeps_def XO (XO.keepF _ _ hF)) e R.le fun _ _ _ _ _ g hrs k => wpAny_call ((CO k.out).2 (R.A.le (Nat.zero_le _)) g.H (R.P.glob.mono g.pre) hrs (hQ.after g))
  | _ => cases hc
 | _ => cases hc
/-- list methods by the library's own slots -/
theorem method_list {l : Addr} {vs : Array Value} {k : Nat} {name : Str} {id : String} {pl : Sem Bool} {Q : Value × List Value → Shared → Prop} (g : s.heap.get? l = some { cls := .type "list", data := .seq vs k })
  (slot : Slot "list" name id) (hty : typeOf (.builtin id) = pure (.type "method_descriptor")) (h : Q (.builtin id, [.ref l]) s) : wpAny (model prog w) A (getMethod (.ref l) name pl) Q E s :=
 getMethod_builtin ⟨_, g, rfl⟩ PySem.F.plainAttrs_list slot hty (fun a e => by cases e; exact ⟨_, g, rfl⟩) h
theorem methodCall_open {o : Expr} {name : Str} {apos pos : Pos} {ov : Value} {es : List Expr} (hform : methodCallForm (es.length + ([] : List Keyword).length) (backTo pos (starEach es env)) (backToKw pos (keywordEach [] env)) = true) (hline : (apos.endLine == pos.line) = true)
  (h : wpAny (model prog w) A (getMethod ov name (do return (← importBound o env).getD true)) (fun r s' => wpAny (model prog w) A (callWith pos r.1 r.2 (backTo pos (starEach es env)) []) Q E s') E s) :
  wpAny (model prog w) A (methodCall o name apos pos env ov (es.length + ([] : List Keyword).length) (backTo pos (starEach es env)) (backToKw pos (keywordEach [] env))) Q E s := by
 have hpos : methodCallPos true o env apos pos = pure pos := by unfold methodCallPos; simp [hline]
 unfold methodCall
 rw [hform]
 refine wpAny_bind (wpAny_holding ?_)
 unfold calleeOf
 rw [if_pos rfl]
 exact wpAny_mono h (fun r s' h' => wpAny_bind (wpAny_of_eq hpos h')) fun _ _ x => x
noncomputable def lmName (m : Bool) : String := match m with
 | true => "list.append"
 | false => "list.extend"
theorem resolve_ok (XO : XOk B K X) {a : AV} {ov : Value} {name : Str} {pl : Sem Bool} {Kf : Addr → List AV → Prop} {Kl : Nat → Bool → Prop} {Q : Value × List Value → Shared → Prop} (h : wResolve X a name σ Kf Kl) (H : HR B F ρ σ s.heap) (hr : VR ρ a ov)
  (hf : ∀ g first rs s', Go B F ρ s ρ σ s' → VRs ρ first rs → Kf g first → Q (.ref g, rs) s') (hl : ∀ k m, VR ρ (.ref k) ov → Kl k m → Q (.builtin (lmName m), [ov]) s) :
  wpAny (model prog w) A (getMethod ov name pl) Q E s := by
 cases a with
 | con c =>
  obtain rfl : c = _ := Eq.symm hr
  cases c with
  | ref C =>
   obtain ⟨fa, e3, h⟩ := wO.out h
   obtain ⟨t1, mc, p, rest, t2, t3, t4⟩ := XO.stat _ _ _ e3
   have X' := XO.KB.keeps H.base
   refine method_cls X' t1 (cls_bind X' t2 t3 (wpAny_call (sm_get (s := { s with toks := s.toks + 1 }) X' t4 (handed_on rfl ?_))))
   exact hf _ [] [] { s with toks := s.toks + 1 } ⟨List.prefix_refl _, H, rfl, rfl⟩ trivial h
  | _ => exact h.elim
 | ref k =>
  obtain ⟨⟨b, o⟩, e1, h⟩ := wAt.out h
  cases o with
  | inst C dd =>
   obtain ⟨⟨b2, o2⟩, e2, h⟩ := wAt.out h
   cases o2 with
   | ns es =>
    obtain ⟨hn, h⟩ := wB.out h
    obtain ⟨fa, e3, h⟩ := wO.out h
    obtain ⟨t1, t2, t3⟩ := XO.meth _ _ _ e3
    obtain ⟨x, dx, rs, n, rfl, edx, g, r, I⟩ := instAt H e1 e2 hr
    have hl : getL name rs = some none := (r.find name).2.1 (Option.isNone_iff_eq_none.mp hn)
    exact method_fn (XO.KB.keeps H.base) I (plainGet_of t1).1 (plainGet_of t1).2 t2 (beq_iff_eq.mp t3) (by show (lookIn name (dictOf rs n)).map _ = _; rw [lookIn_dict, hl]; rfl) (hf _ [.ref k] _ s (.refl H) ⟨hr, trivial⟩ h)
   | _ => exact h.elim
  | list xs =>
   obtain ⟨m, e3, h⟩ := wO.out h
   obtain ⟨l, vs, n, rfl, ea, g, r⟩ := listAt H e1 hr
   have := hl k m hr h
   unfold listMeth at e3
   by_cases h1 : name = ("append" : Str)
   ·subst h1; rw [if_pos (beq_self_eq_true _)] at e3; cases e3
    exact method_list g PySem.F.slot_list_append PySem.F.type_list_append this
   ·rw [if_neg (by simpa using h1)] at e3
    by_cases h2 : name = ("extend" : Str)
    ·subst h2; rw [if_pos (beq_self_eq_true _)] at e3; cases e3
     exact method_list g PySem.F.slot_list_extend PySem.F.type_list_extend this
    ·rw [if_neg (by simpa using h2)] at e3; cases e3
  | _ => exact h.elim
 | _ => exact h.elim
theorem meth_ok {m : Bool} {k : Nat} {args : List AV} {rs : List Value} {rk : Value} {KK : KE} (h : wMeth m k args σ KK) (H : HR B F ρ σ s.heap) (hk : VR ρ (.ref k) rk) (hr : VRs ρ args rs) (hQ : PE B F ρ s KK Q) :
  wpAny (model prog w) A (PySem.call (.builtin (lmName m)) ([rk] ++ rs)) Q E s := by
 cases args with
 | nil => exact h.elim
 | cons u r => cases r with
  | nil =>
   obtain ⟨ru, rfl, hu⟩ := hr.one
   cases m with
   | true => exact append_ok h H hk hu hQ
   | false => exact extend_ok h H hk hu hQ
  | cons => exact h.elim
theorem method_ok (XO : XOk B K X) (CO : CallOk prog w B X d call) (hf : EvalOk prog w B X d n f) {pos : Pos} {a : AV} {ov : Value} {es : List Expr} {name : Str} {pl : Sem Bool} {KK : KE} (hp : Plain es)
  (e : wResolve X a name σ (fun g first => wB (X.fn g).isSome <| evalsA (f sc) es ae σ fun vs σ => lCall call g (first ++ vs) σ KK) fun k m => evalsA (f sc) es ae σ fun vs σ => wMeth m k vs σ KK) (R : Rd B X d (n + 1) A sc env F ae ρ σ s) (hr : VR ρ a ov)
  (hQ : PE B F ρ s KK Q) : wpAny (model prog w) A (getMethod ov name pl) (fun r s' => wpAny (model prog w) A (callWith pos r.1 r.2 (backTo pos (starEach es env)) []) Q E s') E s := by
 refine resolve_ok XO e R.H hr (fun g first rs s' g1 hrs k => ?_) (fun k m hk e => ?_)
 ·obtain ⟨hF, k⟩ := wB.out k
  obtain ⟨fn, hF⟩ := Option.isSome_iff_exists.mp hF
  exact callWith_ok hf hp (keeps_def XO (XO.keepF _ _ hF)) k (R.go g1).le fun _ _ _ _ _ g2 hrs2 k2 => wpAny_call ((CO k2.out).2 (R.A.le (Nat.zero_le _)) g2.H (R.P.glob.mono g2.pre) ((hrs.mono g2.pre).append hrs2) (hQ.after (g1.trans g2)))
 ·exact callWith_ok hf hp keeps_builtin e R.le fun _ _ _ _ _ g2 hrs2 k2 => meth_ok k2 g2.H (hk.mono g2.pre) hrs2 (hQ.after g2)
end
end Mj
namespace Mj
open PySem PySem.W PyProof.Rows PySem.Spec
variable [SetW]
theorem HR.drop {B : Heap} {F F' : List (Addr × Obj)} {ρ : Rho} {σ : Sto} {h h' : Heap} (H : HR B F' ρ σ h) (D : List Addr) (hD : ∀ a ∈ D, ∃ o, (a, o) ∈ F') (hF : ∀ p ∈ F, p ∈ F' ∧ p.1 ∉ D) (hN : (F.map (·.1)).Nodup)
  (hs : ∀ b o, b ∉ D → h.get? b = some o → h'.get? b = some o) : HR B F ρ σ h' := by
 have notB : ∀ b o, B.get? b = some o → b ∉ D := fun b o e hm => by obtain ⟨x, hx⟩ := hD b hm; have := H.fB _ hx; rw [show ((b, x) : Addr × Obj).1 = b from rfl, e] at this; cases this
 have notR : ∀ a ∈ ρ, a ∉ D := fun a ha hm => by obtain ⟨x, hx⟩ := hD a hm; exact H.sepF a ha _ hx rfl
 refine ⟨fun b o e => hs b o (notB b o e) (H.base b o e), fun p hp => hs _ _ (hF p hp).2 (H.fr p (hF p hp).1), fun p hp => H.fB p (hF p hp).1, hN, H.len, H.nd, fun k c a e e' => ?_, H.sepB, fun a ha p hp => H.sepF a ha p (hF p hp).1⟩
 have ha := notR a (List.mem_of_getElem? e')
 have := H.obj k c a e e'
 obtain ⟨w, o⟩ := c
 have hh : ∀ x, h.get? a = some x → h'.get? a = some x := fun x => hs a x ha
 exact this.mono (List.prefix_refl _) hh
theorem HR.alloc' {B : Heap} {F : List (Addr × Obj)} {ρ : Rho} {σ : Sto} {h : Heap} (H : HR B F ρ σ h) {a : Addr} {c : Cl} (hna : a ∉ ρ) (hBa : B.get? a = none) (hFa : ∀ p ∈ F, p.1 ≠ a) (ho : OR (ρ ++ [a]) h a c.o) : HR B F (ρ ++ [a]) (σ ++ [c]) h := by
 refine ⟨H.base, H.fr, H.fB, H.fN, by simp [H.len], ?_, ?_, ?_, ?_⟩
 ·rw [List.nodup_append]; exact ⟨H.nd, by simp, fun x hx y hy => by simp at hy; subst hy; exact fun e => hna (e ▸ hx)⟩
 ·intro k d b hk1 hk2
  by_cases hlt : k < σ.length
  ·rw [List.getElem?_append_left hlt] at hk1
   rw [List.getElem?_append_left (H.len ▸ hlt)] at hk2
   exact (H.obj k d b hk1 hk2).mono (List.prefix_append _ _) fun _ e => e
  ·have hk3 := (List.getElem?_eq_some_iff.mp hk1).1
   have : k = σ.length := by simp at hk3; lia
   subst this
   simp at hk1
   rw [← H.len] at hk2
   simp at hk2
   subst hk1; subst hk2; exact ho
 ·intro k d b hk1 hk2 hw
  by_cases hlt : k < σ.length
  ·rw [List.getElem?_append_left hlt] at hk1
   rw [List.getElem?_append_left (H.len ▸ hlt)] at hk2
   exact H.sepB k d b hk1 hk2 hw
  ·have hk3 := (List.getElem?_eq_some_iff.mp hk1).1
   have : k = σ.length := by simp at hk3; lia
   subst this
   rw [← H.len] at hk2
   simp at hk2
   subst hk2; exact hBa
 ·intro b hb p hp e
  rcases List.mem_append.mp hb with hb | hb
  ·exact H.sepF b hb p hp e
  ·simp at hb; subst hb; exact hFa p hp e
theorem HR.drop' {B : Heap} {F : List (Addr × Obj)} {ρ : Rho} {σ : Sto} {h h' : Heap} {D : Addr} {o : Obj} (H : HR B ((D, o) :: F) ρ σ h) (hF : ∀ p ∈ F, p.1 ≠ D) (hs : Heap.SameBut D h h') : HR B F ρ σ h' :=
 H.drop [D] (fun a ha => by simp at ha; subst ha; exact ⟨o, List.mem_cons_self ..⟩) (fun p hp => ⟨List.mem_cons_of_mem _ hp, by simp [hF p hp]⟩) (by have := H.fN; rw [List.map_cons, List.nodup_cons] at this; exact this.2) fun b x hb eb => hs.extBut b x (by simpa using hb) eb
section
variable {prog : Program} {w : World} {A : Around} {E : Value → Shared → Prop} {B : Heap} {K : Frag} {X : Ctx} {F : List (Addr × Obj)} {ρ : Rho} {σ σ' : Sto} {s : Shared} {sc : Scope} {env : Env} {ae : Loc} {d n : Nat}
 {f : Scope → Expr → Loc → Sto → XE} {g : Scope → Expr → Loc → Sto → (Bool → Sto → Prop) → Prop} {call : Addr → List AV → Sto → XE} {Q : Value → Shared → Prop} {KK : KE}
theorem const_ok {c : Const} {k : Nat} {pos : Pos} (h : wO (constA c) fun v => KK v σ) (H : HR B F ρ σ s.heap) (hQ : PE B F ρ s KK Q) : wpAny (model prog w) A (eval (.Constant c k pos) env) Q E s := by
 cases c with
 | none => exact PyProof.Rows.Constant_none (hQ.ret (v := .none) H rfl h)
 | bool b => exact PyProof.Rows.Constant_bool (hQ.ret (v := .bool b) H rfl h)
 | int i => exact wpAny_Constant_int (hQ.outs (v := .int i) h ρ _ _ (List.prefix_refl _) H ⟨_, rfl⟩ ⟨rfl, rfl⟩)
 | str x => exact wpAny_Constant_str (hQ.outs (v := .str x) h ρ _ _ (List.prefix_refl _) H ⟨_, rfl⟩ ⟨rfl, rfl⟩)
 | _ => exact h.elim
theorem bool_ok (hf : EvalOk prog w B X d n f) {pos : Pos} {op : BoolOp} : ∀ {es : List Expr} {ρ : Rho} {σ : Sto} {s : Shared}, boolA (f sc) op es ae σ KK → Rd B X d n A sc env F ae ρ σ s → PE B F ρ s KK Q → wpAny (model prog w) A (eval (.BoolOp op es pos) env) Q E s
 | [], _, _, _, h, _, _ => h.elim
 | [_], _, _, _, h, R, hQ => BoolOp_one (hf h R hQ)
 | _ :: e' :: es, _, _, _, h, R, hQ => by
  cases op with
  | And =>
   refine BoolOp_and (hf h R fun _ v _ _ _ g hu k => truth_ok (K := fun t σ => wIf t (boolA (f sc) .And (e' :: es) ae σ KK) (KK v σ)) k g.H hu fun _ c _ _ g2 k => ?_)
   cases c with
   | false => exact hQ _ _ _ _ _ (g.trans g2) (hu.mono g2.pre) (k.out.2 rfl)
   | true => exact bool_ok hf (k.out.1 rfl) (R.go (g.trans g2)) (hQ.after (g.trans g2))
  | Or =>
   refine BoolOp_or (hf h R fun _ v _ _ _ g hu k => truth_ok (K := fun t σ => wIf t (KK v σ) (boolA (f sc) .Or (e' :: es) ae σ KK)) k g.H hu fun _ c _ _ g2 k => ?_)
   cases c with
   | true => exact hQ _ _ _ _ _ (g.trans g2) (hu.mono g2.pre) (k.out.1 rfl)
   | false => exact bool_ok hf (k.out.2 rfl) (R.go (g.trans g2)) (hQ.after (g.trans g2))
theorem all_ok (hg : TestOk prog w B X d n g) {op : BoolOp} {Q : Bool → Shared → Prop} {KK : Bool → Sto → Prop} : ∀ {es : List Expr} {ρ : Rho} {σ : Sto} {s : Shared}, allA (g sc) op es ae σ KK → Rd B X d n A sc env F ae ρ σ s → PB B F ρ s KK Q → wpAny (model prog w) A (allTrue op es env) Q E s
 | [], _, _, _, h, R, hQ => by
  cases op with
  | And => exact wpAny_allTrue_And_nil (hQ.ret R.H h)
  | Or => exact wpAny_allTrue_Or_nil (hQ.ret R.H h)
 | _ :: _, _, _, _, h, R, hQ => by
  cases op with
  | And =>
   refine wpAny_allTrue_And_cons (hg h R fun _ c _ _ g k => ?_)
   cases c with
   | false => exact hQ _ _ _ _ g (k.out.2 rfl)
   | true => exact all_ok hg (k.out.1 rfl) (R.go g) (hQ.after g)
  | Or =>
   refine wpAny_allTrue_Or_cons (hg h R fun _ c _ _ g k => ?_)
   cases c with
   | true => exact hQ _ _ _ _ g (k.out.1 rfl)
   | false => exact all_ok hg (k.out.2 rfl) (R.go g) (hQ.after g)
theorem base_ok {o : Expr} {name : Str} {whole : Sem Value} (h : baseOk o = true) : attributeBase o name env whole = whole := by
 unfold attributeBase
 split
 ·cases h
 ·rfl
theorem subs_any {value ix : Expr} {pos : Pos} (hi : ∀ a b c p, ix ≠ .Slice a b c p)
  (h : wpAny (model prog w) A (eval value env) (fun o s₁ => wpAny (model prog w) A (eval ix env) (fun i s₂ => Gets s₂ o ∧ wpAny (model prog w) A (getItem o i) Q E s₂) E s₁) E s) :
  wpAny (model prog w) A (eval (.Subscript value ix pos) env) Q E s := by
 rw [eval_Subscript]
 refine wpAny_bind (wpAny_mono h (fun o s₁ h₁ => wpAny_bind (wpAny_holding (wpAny_mono h₁ (fun i s₂ h₂ => wpAny_bind (wpAny_standAt ?_)) fun _ _ x => x)))
  fun _ _ x => x)
 have fin : wpAny (model prog w) A (operate [o, i] (getItem o i)) (fun r s₃ => wpAny (model prog w) A (letTemporaryGo value o r >>= fun _ => pure r) Q E s₃) E s₂ :=
  wpAny_operating (wpAny_mono h₂.2 (fun r s₃ h₃ => wpAny_bind (wpAny_letTemporaryGo (wpAny_pure h₃))) fun _ _ x => x)
 refine wpAny_bind ?_
 obtain ⟨T, id, hl, hT⟩ := h₂.1
 rw [getitemInPython_of_ne hT.not_modules]
 refine wpAny_bind (wpAny_specialOf hT hl ?_)
 refine wpAny_pure (wpAny_bind ?_)
 have : subscripted ix false o i = operate [o, i] (getItem o i) := by
  unfold subscripted
  split
  ·exact absurd rfl (hi _ _ _ _)
  ·rename_i q; cases q
  ·rfl
 rw [this]
 exact fin
theorem subs_slice {value : Expr} {lower upper : Option Expr} {p pos : Pos}
  (h : wpAny (model prog w) A (eval value env) (fun o s₁ => wpAny (model prog w) A (eval (.Slice lower upper none p) env) (fun i s₂ => Gets s₂ o ∧ wpAny (model prog w) A (getItem o i) Q E s₂) E s₁) E s) :
  wpAny (model prog w) A (eval (.Subscript value (.Slice lower upper none p) pos) env) Q E s := by
 rw [eval_Subscript]
 refine wpAny_bind (wpAny_mono h (fun o s₁ h₁ => wpAny_bind (wpAny_holding (wpAny_mono h₁ (fun i s₂ h₂ => wpAny_bind (wpAny_standAt ?_)) fun _ _ x => x)))
  fun _ _ x => x)
 have fin : wpAny (model prog w) A (operate [i, o] (getItem o i)) (fun r s₃ => wpAny (model prog w) A (letTemporaryGo value o r >>= fun _ => pure r) Q E s₃) E s₂ :=
  wpAny_operating (wpAny_mono h₂.2 (fun r s₃ h₃ => wpAny_bind (wpAny_letTemporaryGo (wpAny_pure h₃))) fun _ _ x => x)
 refine wpAny_bind ?_
 obtain ⟨T, id, hl, hT⟩ := h₂.1
 rw [getitemInPython_of_ne hT.not_modules]
 refine wpAny_bind (wpAny_specialOf hT hl ?_)
 exact wpAny_pure (wpAny_bind fin)
theorem part_of {ρ : Rho} {n : Nat} {v : AV} {dflt r : Nat} {rv : Value} (e : boundA n v dflt = some r) (h : VR ρ v rv) : ∃ o : Option Int, IsPart rv o ∧ r = o.elim dflt (clipAt n) := by
 unfold boundA at e
 split at e
 ·cases e; cases h; exact ⟨none, .none, rfl⟩
 ·cases e; obtain ⟨t, rfl⟩ := h; exact ⟨some _, .int _ t, rfl⟩
 ·cases e
theorem slice_ok {a lo hi : AV} {ra rl rh : Value} (h : wSlice a lo hi σ KK) (H : HR B F ρ σ s.heap) (ha : VR ρ a ra) (hl : VR ρ lo rl) (hh : VR ρ hi rh) (hQ : PE B F ρ s KK Q) :
  Gets { s with heap := s.heap.push { cls := .type "slice", data := .fields #[rl, rh, .none] } } ra ∧
   wpAny (model prog w) A (getItem ra (.ref s.heap.objs.size)) Q E { s with heap := s.heap.push { cls := .type "slice", data := .fields #[rl, rh, .none] } } := by
 cases a with
 | ref k =>
  obtain ⟨_, xs, e1, h⟩ := wLst.out h
  obtain ⟨hz, h⟩ := h.out
  obtain ⟨l0, e2, h⟩ := wO.out h
  obtain ⟨h0, e4, h⟩ := wO.out h
  obtain ⟨l, vs, m, rfl, _, g, r⟩ := listAt H e1 ha
  have hlen : vs.size = _ := r.length
  obtain ⟨ol, pl, rfl⟩ := part_of e2 hl
  obtain ⟨oh, ph, rfl⟩ := part_of e4 hh
  have hL : s.heap.IsList l vs := ⟨_, g, rfl, m, rfl⟩
  refine ⟨⟨_, _, list_getitem_lookup, (hL.push _).typeIs⟩, wpAny_getItem_list_slice (hL.push _) (Heap.IsSliceOf.new ..) pl ph .none (by simp) ?_ (sizeLine_big (by lia))⟩
  rw [Heap.size_push]
  have H1 : HR B F ρ σ (s.heap.push { cls := .type "slice", data := .fields #[rl, rh, .none] }) := H.push _
  have := Outs.newList (s := { s with heap := s.heap.push { cls := .type "slice", data := .fields #[rl, rh, .none] } }) (Q := Q) H1 (vs := slicePick vs ol oh none)
   (xs := (xs.drop (ol.elim 0 (clipAt xs.length))).take (oh.elim xs.length (clipAt xs.length) - ol.elim 0 (clipAt xs.length))) ?_ (fun ρ' v s' hp Hn hv hs => hQ.outs h ρ' v s' hp Hn hv ⟨hs.gens, hs.os⟩)
  ·rwa [Heap.size_push] at this
  ·rw [slicePick_plain, hlen]
   simp only []
   exact (r.drop _).take _
 | _ => exact h.elim
theorem get_ok (XO : XOk B K X) {a : AV} {ra : Value} {name : Str} {ex : Bool} (h : wGet X a name σ fun v => KK v σ) (H : HR B F ρ σ s.heap) (hr : VR ρ a ra) (hQ : PE B F ρ s KK Q) : wpAny (model prog w) A (getAttr ra name ex) Q E s := by
 cases a with
 | ref k =>
  obtain ⟨⟨b, o⟩, e1, h⟩ := wAt.out h
  cases o with
  | inst C dd =>
   obtain ⟨⟨b2, o2⟩, e2, h⟩ := wAt.out h
   cases o2 with
   | ns es =>
    obtain ⟨ho, h⟩ := wB.out h
    obtain ⟨v, ev, h⟩ := wO.out h
    obtain ⟨hc, h⟩ := wB.out h
    exact getF_ok XO.cls XO.KB H e1 e2 ho ev hc hr fun u hu => hQ.outs h ρ _ _ (List.prefix_refl _) H hu ⟨rfl, rfl⟩
   | _ => exact h.elim
  | _ => exact h.elim
 | con c =>
  obtain rfl : c = _ := Eq.symm hr
  cases c with
  | ref C =>
   obtain ⟨v, e, h⟩ := wO.out h
   obtain ⟨mc, u, t1, t2, t3, t4⟩ := XO.cattr _ _ _ e
   exact cls_value (XO.KB.keeps H.base) t1 t2 t3 (hQ.outs h ρ _ { s with toks := s.toks + 1 } (List.prefix_refl _) H t4.lift ⟨rfl, rfl⟩)
  | _ => exact h.elim
 | _ => exact h.elim
theorem set_ok (XO : XOk B K X) {Q : Unit → Shared → Prop} {a v : AV} {ra rv : Value} {name : Str} {KK : Sto → Prop} (h : wSet X a name v σ KK) (H : HR B F ρ σ s.heap) (hr : VR ρ a ra) (hv : VR ρ v rv) (hQ : PU B F ρ s KK Q) : wpAny (model prog w) A (setAttr ra name rv) Q E s := by
 cases a with
 | ref k =>
  obtain ⟨⟨b, o⟩, e1, h⟩ := wAt.out h
  cases o with
  | inst C dd =>
   obtain ⟨⟨b2, o2⟩, e2, h⟩ := wAt.out h
   cases o2 with
   | ns es =>
    obtain ⟨hc, k⟩ := wB.out h
    rw [Bool.and_eq_true, Bool.and_eq_true] at hc
    obtain ⟨⟨hb, ho⟩, hz⟩ := hc
    obtain rfl : b2 = true := hb
    exact setF_ok XO.cls XO.KB H e1 e2 ho (Nat.le_of_ble_eq_true hz) hr hv (hQ.outs k)
   | _ => exact h.elim
  | _ => exact h.elim
 | _ => exact h.elim
theorem attr_open {value : Expr} {name : Str} {pos : Pos} (hb : baseOk value = true) (h : wpAny (model prog w) A (eval value env) (fun o s₁ => wpAny (model prog w) A (getAttr o name true) Q E s₁) E s) :
  wpAny (model prog w) A (eval (.Attribute value name pos) env) Q E s := by
 rw [arm_eval_Attribute, base_ok hb]
 exact wpAny_bind (wpAny_mono h (fun o s₁ h₁ => wpAny_bind (wpAny_standAt (wpAny_bind (wpAny_holding (wpAny_mono h₁ (fun r s₂ h₂ => wpAny_bind (wpAny_letTemporaryGo (wpAny_pure h₂))) fun _ _ x => x))))) fun _ _ x => x)
theorem dict_ok (hf : EvalOk prog w B X d n f) {ke ve : Expr} {pos : Pos} (h : f sc ke ae σ fun k σ => f sc ve ae σ fun v σ => match k with
     | .int i => KK (.ref σ.length) (σ ++ [⟨true, .imap [(i, v)] 1⟩])
     | _ => False) (R : Rd B X d n A sc env F ae ρ σ s) (hQ : PE B F ρ s KK Q) : wpAny (model prog w) A (eval (.Dict [some ke] [ve] pos) env) Q E s := by
 refine wpAny_Dict_pairs (knd := intKind prog w) (pairs := [(eval ke env, do let x ← eval ve env; standAt pos; pure x)]) rfl (by simp) (by simp) ?_
 let oD : Obj := { cls := .type "dict", data := .dict #[] }
 have H := R.H
 have H0 : HR B ((s.heap.objs.size, oD) :: F) ρ σ (s.heap.push oD) := H.pushF (fun _ _ e => Heap.get?_push_of_some _ e) (Nat.le_refl _) (Heap.get?_push_size _ rfl)
 have P0 : FP B ((s.heap.objs.size, oD) :: F) ρ X env ae := R.P.sub fun p hp _ => List.mem_cons_of_mem _ hp
 have hF : ∀ p ∈ F, p.1 ≠ s.heap.objs.size := fun p hp => Nat.ne_of_lt (Heap.lt_size (H.fr p hp))
 have hR : s.heap.objs.size ∉ ρ := fun hm => Nat.lt_irrefl _ (H.lt hm)
 have hB := H.fresh
 generalize s.heap.objs.size = D at H0 P0 hF hR hB
 rw [evalPairs]
 refine wpAny_bind (hf (s := { s with heap := s.heap.push oD }) h ⟨R.A, R.S, P0, H0⟩ fun ρ1 k rk σ1 s1 g1 hrk h1 => ?_)
 refine wpAny_bind (wpAny_holding (wpAny_bind (hf h1 ⟨R.A, R.S, P0.mono g1.pre, g1.H⟩ fun ρ2 u ru σ2 s2 g2 hu h2 => wpAny_bind (wpAny_standAt (wpAny_pure (wpAny_bind (wpAny_holding (wpAny_pure (wpAny_pure ?_)))))))))
 cases k with
 | int i =>
  obtain ⟨t, rfl⟩ := hrk
  have hD2 := g2.H.fr _ (List.mem_cons_self ..)
  refine ⟨[(i, ru)], ⟨intKind_is prog w i t, rfl, trivial⟩, ⟨oD, #[], 0, hD2, ⟨rfl, rfl, rfl⟩, rfl, fun _ he => by simp at he, Pairs.nil, List.nodup_nil⟩, fun h' hd hs' => ?_⟩
  have HF : HR B F ρ2 σ2 h' := g2.H.drop' hF hs'
  have hm : merged [] [(i, ru)] = [(i, ru)] := rfl
  rw [hm] at hd
  have hR2 : D ∉ ρ2 := fun hmem => g2.H.sepF D hmem _ (List.mem_cons_self ..) rfl
  have HN := HF.alloc' (a := D) (c := ⟨true, .imap [(i, u)] 1⟩) hR2 hB hF ⟨valueAt [(i, ru)], hd.mapOf.intMap, ?_, fun k => ?_⟩
  ·exact hQ (ρ2 ++ [D]) (.ref σ2.length) (.ref D) _ _ ⟨(g1.pre.trans g2.pre).trans (List.prefix_append _ _), HN, (g1.same.trans g2.same).gens, (g1.same.trans g2.same).os⟩ ⟨D, by rw [← HF.len]; simp, rfl⟩ h2
  ·obtain ⟨o, es, ep, ho, _, hdat, _, hp, _⟩ := hd
   intro o' es' ep' ho' hd'
   rw [ho] at ho'; cases ho'
   rw [hdat] at hd'; cases hd'
   have := hp.length
   simp at this; lia
  ·by_cases hk : k = i
   ·subst hk; simp [valueAt]; exact hu.mono (List.prefix_append _ _)
   ·simp [List.lookup_cons, beq_eq_false_iff_ne.mpr hk, valueAt]; exact fun e => absurd e.symm hk
 | _ => exact h2.elim
end
end Mj
namespace Mj
open PySem PySem.W PyProof.Rows PySem.Spec
variable [SetW]
section
variable (prog : Program) (w : World) (B : Heap) (X : Ctx)
noncomputable def CmpOk (d n : Nat) (f : Scope → Expr → CmpOp → Expr → Loc → Sto → (Bool → Sto → Prop) → Prop) : Prop :=
 ∀ {A : Around} {E : Value → Shared → Prop} {F : List (Addr × Obj)} {ρ : Rho} {σ : Sto} {s : Shared} {Q : Value → Shared → Prop} {sc : Scope} {env : Env} {l r : Expr} {op : CmpOp} {ae : Loc} {K : Bool → Sto → Prop},
  f sc l op r ae σ K → Rd B X d n A sc env F ae ρ σ s → (∀ b ρ' σ' s', Go B F ρ s ρ' σ' s' → K b σ' → Q (.bool b) s') →
   wpAny (model prog w) A (eval l env) (fun u s₁ => wpAny (model prog w) A (markedBehindIn op r (eval r env)) (fun v s₂ => wpAny (model prog w) A (compareOp op u v) Q E s₂) E s₁) E s
noncomputable def PartOk (d n : Nat) (f : Scope → Option Expr → Loc → Sto → XE) : Prop :=
 ∀ {A : Around} {E : Value → Shared → Prop} {F : List (Addr × Obj)} {ρ : Rho} {σ : Sto} {s : Shared} {Q : Value → Shared → Prop} {sc : Scope} {env : Env} {e : Option Expr} {ae : Loc} {K : KE},
  f sc e ae σ K → Rd B X d n A sc env F ae ρ σ s → PE B F ρ s K Q → wpAny (model prog w) A (evalPart e env) Q E s
noncomputable def ListCompOk (d n : Nat) (call : Addr → List AV → Sto → XE) : Prop :=
 ∀ {A : Around} {E : Value → Shared → Prop} {F : List (Addr × Obj)} {ρ : Rho} {σ : Sto} {s : Shared} {Q : Value → Shared → Prop} {sc scope : Scope} {pos : Pos} {env : Env} {elt : Expr} {gs : List Comprehension} {ae : Loc} {K : KE},
  evalE X call (n + 1) sc (.ListComp elt gs scope pos) ae σ K → Rd B X d (n + 1) A sc env F ae ρ σ s → PE B F ρ s K Q → wpAny (model prog w) A (eval (.ListComp elt gs scope pos) env) Q E s
end
section
variable {prog : Program} {w : World} {A : Around} {E : Value → Shared → Prop} {B : Heap} {K : Frag} {X : Ctx} {F : List (Addr × Obj)} {ρ : Rho} {σ σ' : Sto} {s : Shared} {sc : Scope} {env : Env} {ae : Loc} {d n : Nat}
 {call : Addr → List AV → Sto → XE} {Q : Value → Shared → Prop} {KK : KE}
theorem part_step (he : EvalOk prog w B X d n (evalE X call n)) : PartOk prog w B X d (n + 1) (partE X call (n + 1)) := by
 intro A E F ρ σ s Q sc env e ae K h R hQ
 cases e with
 | none => exact wpAny_pure (hQ.ret (v := .none) R.H rfl h)
 | some e => exact he h R.le hQ
theorem listE_ok (he : EvalOk prog w B X d n (evalE X call n)) {es : List Expr} {pos : Pos} (h : wB (Nat.ble es.length 1000 && es.all notStar) (evalsA (evalE X call n sc) es ae σ fun vs σ => KK (.ref σ.length) (σ ++ [⟨true, .list vs⟩]))) (R : Rd B X d n A sc env F ae ρ σ s) (hQ : PE B F ρ s KK Q) :
  wpAny (model prog w) A (eval (.List es pos) env) Q E s := by
 obtain ⟨hc, h⟩ := wB.out h
 obtain ⟨hz, hp⟩ := Bool.and_eq_true_iff.mp hc
 exact wpAny_List (spliced_ok he (plain_of hp) h R fun _ vs rs _ _ g hv hl k => ⟨sizeLine_big (by have := Nat.le_of_ble_eq_true hz; lia), Outs.newList g.H (by simpa using hv) ((hQ.after g).outs k)⟩)
theorem tupE_ok (he : EvalOk prog w B X d n (evalE X call n)) {es : List Expr} {k : Nat} {pos : Pos} (h : wB (Nat.ble es.length 1000 && es.all notStar) (evalsA (evalE X call n sc) es ae σ fun vs σ => KK (.ref σ.length) (σ ++ [⟨true, .tuple vs⟩]))) (R : Rd B X d n A sc env F ae ρ σ s) (hQ : PE B F ρ s KK Q) :
  wpAny (model prog w) A (eval (.Tuple es k pos) env) Q E s := by
 obtain ⟨hc, h⟩ := wB.out h
 obtain ⟨hz, hp⟩ := Bool.and_eq_true_iff.mp hc
 exact wpAny_Tuple (spliced_ok he (plain_of hp) h R fun _ vs rs _ _ g hv hl k => ⟨sizeLine_big (by have := Nat.le_of_ble_eq_true hz; lia), Outs.newTuple g.H (by simpa using hv) ((hQ.after g).outs k)⟩)
theorem subE_ok (he : EvalOk prog w B X d n (evalE X call n)) {v i : Expr} {pos : Pos} (hi : notSl i = true) (h : evalE X call n sc v ae σ fun a σ => evalE X call n sc i ae σ fun b σ => lItem a b σ fun u => KK u σ) (R : Rd B X d n A sc env F ae ρ σ s) (hQ : PE B F ρ s KK Q) :
  wpAny (model prog w) A (eval (.Subscript v i pos) env) Q E s :=
 subs_any (fun _ _ _ _ q => by subst q; cases hi) (he h R fun _ _ _ _ _ g1 ha h1 => he h1 (R.go g1) fun _ _ _ _ _ g2 hb h2 => item_ok h2.out g2.H (ha.mono g2.pre) hb (hQ.after (g1.trans g2)))
theorem sliceE_ok (he : EvalOk prog w B X d n (evalE X call n)) (hp : PartOk prog w B X d n (partE X call n)) {v : Expr} {lo hi : Option Expr} {p pos : Pos} (h : evalE X call n sc v ae σ fun a σ => partE X call n sc lo ae σ fun l σ => partE X call n sc hi ae σ fun h σ => lSlice a l h σ KK)
  (R : Rd B X d n A sc env F ae ρ σ s) (hQ : PE B F ρ s KK Q) : wpAny (model prog w) A (eval (.Subscript v (.Slice lo hi none p) pos) env) Q E s :=
 subs_slice (he h R fun _ _ _ _ _ g1 ha h1 => wpAny_Slice (hp h1 (R.go g1) fun _ _ _ _ _ g2 hl h2 => hp h2 ((R.go g1).go g2) fun _ _ _ _ _ g3 hh h3 => wpAny_pure (slice_ok h3.out g3.H (ha.mono (g2.pre.trans g3.pre)) (hl.mono g3.pre) hh (hQ.after ((g1.trans g2).trans g3)))))
theorem cmpE_ok (hc : CmpOk prog w B X d n (cmpE X call n)) {l r : Expr} {op : CmpOp} {pos : Pos} (h : cmpE X call n sc l op r ae σ fun b σ => KK (.bool b) σ) (R : Rd B X d n A sc env F ae ρ σ s) (hQ : PE B F ρ s KK Q) : wpAny (model prog w) A (eval (.Compare l [op] [r] pos) env) Q E s := by
 have := hc (E := E) h R fun b ρ' σ' s' g k => hQ ρ' (.bool b) _ σ' s' g rfl k
 rw [eval_Compare1]
 exact wpAny_bind (wpAny_mono this (fun a s₁ h₁ => wpAny_bind (wpAny_holding (wpAny_mono h₁ (fun b s₂ h₂ => wpAny_bind (wpAny_standAt (wpAny_operating h₂))) fun _ _ x => x))) fun _ _ x => x)
theorem methE_ok (XO : XOk B K X) (CO : CallOk prog w B X d call) (he : EvalOk prog w B X d n (evalE X call n)) {o : Expr} {name : Str} {apos pos : Pos} {args : List Expr} (h : wB (baseOk o && apos.endLine == pos.line && Nat.ble args.length 19 && args.all notStar) (evalE X call n sc o ae σ fun a σ =>
      lRes X a name σ (fun g first => wB (X.fn g).isSome <| evalsA (evalE X call n sc) args ae σ fun vs σ => lCall call g (first ++ vs) σ KK) fun k m => evalsA (evalE X call n sc) args ae σ fun vs σ => wMeth m k vs σ KK))
  (R : Rd B X d (n + 1) A sc env F ae ρ σ s) (hQ : PE B F ρ s KK Q) : wpAny (model prog w) A (eval (.Call (.Attribute o name apos) args [] pos) env) Q E s := by
 obtain ⟨hc, h⟩ := wB.out h
 rw [Bool.and_eq_true, Bool.and_eq_true, Bool.and_eq_true] at hc
 obtain ⟨⟨⟨hb, hline⟩, hlen⟩, hp⟩ := hc
 have hp := plain_of hp
 rw [arm_eval_Call, base_ok hb]
 refine wpAny_bind (he h R.le fun _ _ _ _ _ g1 ha h1 => wpAny_bind (wpAny_standAt (methodCall_open ?_ hline (method_ok XO CO he hp h1.out (R.go g1) ha (hQ.after g1)))))
 unfold methodCallForm
 have hq := plain_any (env := env) (pos := pos) hp
 rw [Bool.and_eq_true, Bool.and_eq_true]
 refine ⟨⟨?_, rfl⟩, ?_⟩
 ·rw [List.all_eq_true]
  intro x hx
  rw [List.any_eq_false] at hq
  simpa using hq x hx
 ·rw [show backToKw pos (keywordEach [] env) = [] from rfl]; have := Nat.le_of_ble_eq_true hlen; simp; lia
theorem callE_ok (XO : XOk B K X) (CO : CallOk prog w B X d call) (he : EvalOk prog w B X d n (evalE X call n)) {fn : Expr} {pos : Pos} {args : List Expr} (hev : eval (.Call fn args [] pos) env = (do callWith pos (← eval fn env) [] (backTo pos (starEach args env)) (backToKw pos (keywordEach [] env))))
  (h : wB (args.all notStar) (evalE X call n sc fn ae σ fun a σ => wB (calleeOk X a) <| evalsA (evalE X call n sc) args ae σ fun vs σ => wApply X call a vs σ KK)) (R : Rd B X d (n + 1) A sc env F ae ρ σ s) (hQ : PE B F ρ s KK Q) : wpAny (model prog w) A (eval (.Call fn args [] pos) env) Q E s := by
 obtain ⟨hp, h⟩ := wB.out h
 rw [hev]
 exact wpAny_bind (he h R.le fun _ _ _ _ _ g1 ha h1 => apply_ok XO CO he (plain_of hp) (wB.out h1).1 (wB.out h1).2 (R.go g1) ha (hQ.after g1))
theorem evalE_step (XO : XOk B K X) (CO : CallOk prog w B X d call) (he : EvalOk prog w B X d n (evalE X call n)) (hpt : PartOk prog w B X d n (partE X call n)) (ht : TestOk prog w B X d n (testE X call n)) (hc : CmpOk prog w B X d n (cmpE X call n)) (hl : ListCompOk prog w B X d n call) :
  EvalOk prog w B X d (n + 1) (evalE X call (n + 1)) := by
 intro A E F ρ σ s Q sc env e ae K h R hQ
 cases e with
 | Constant c k pos => exact const_ok h R.H hQ
 | Name x pos => obtain ⟨v, e, k⟩ := wO.out h; exact name_ok e R.S R.P R.H fun rv hv => hQ.ret R.H hv k
 | BoolOp op vs pos => exact bool_ok he h R.le hQ
 | BinOp l op r pos => exact wpAny_BinOp (he h R.le fun _ _ _ _ _ g1 ha h1 => he h1 (R.le.go g1) fun _ _ _ _ _ g2 hb h2 => bin_ok h2 g2.H (ha.mono g2.pre) hb (hQ.after (g1.trans g2)))
 | UnaryOp op x pos => exact UnaryOp_ (he h R.le fun _ _ _ _ _ g1 ha h1 => un_ok h1 g1.H ha (hQ.after g1))
 | IfExp t b o pos =>
  exact IfExp_ (ht h R.le fun _ c _ _ g1 h1 => by
   cases c with
   | true => exact he (h1.out.1 rfl) (R.le.go g1) (hQ.after g1)
   | false => exact he (h1.out.2 rfl) (R.le.go g1) (hQ.after g1))
 | List es pos => exact listE_ok he h R.le hQ
 | Tuple es k pos => exact tupE_ok he h R.le hQ
 | Dict keys values pos => cases keys with
  | cons k ks => cases k with
   | some ke => cases ks with
    | nil => cases values with
     | cons ve vs => cases vs with
      | nil => exact dict_ok he h R.le hQ
      | cons => exact h.elim
     | nil => exact h.elim
    | cons => exact h.elim
   | none => exact h.elim
  | nil => exact h.elim
 | ListComp elt gs scope pos => exact hl h R hQ
 | Compare l ops rs pos => cases ops with
  | cons op ops => cases ops with
   | nil => cases rs with
    | cons r rs => cases rs with
     | nil => exact cmpE_ok hc h R.le hQ
     | cons => exact h.elim
    | nil => exact h.elim
   | cons => exact h.elim
  | nil => exact h.elim
 | Attribute o name pos => obtain ⟨hb, h⟩ := wB.out h; exact attr_open hb (he h R.le fun _ _ _ _ _ g1 ha h1 => get_ok XO h1.out g1.H ha (hQ.after g1))
 | Subscript v ix pos => cases ix with
  | Slice lo hi st p => cases st with
   | none => exact sliceE_ok he hpt h R.le hQ
   | some _ => exact h.elim
  | _ => exact subE_ok he rfl h R.le hQ
 | Call fn args ks pos => cases ks with
  | cons k ks => exact h.elim
  | nil => cases fn with
   | Attribute o name apos => exact methE_ok XO CO he h R hQ
   | _ => exact callE_ok XO CO he rfl h R hQ
 | _ => exact h.elim
end
end Mj
namespace Mj
open PySem PySem.W PyProof.Rows PySem.Spec
variable [SetW]
section
variable {prog : Program} {w : World} {A : Around} {E : Value → Shared → Prop} {B : Heap} {K : Frag} {X : Ctx} {F : List (Addr × Obj)} {ρ : Rho} {σ σ' : Sto} {s : Shared} {sc : Scope} {env : Env} {ae : Loc} {d n : Nat}
 {call : Addr → List AV → Sto → XE} {Q : Value → Shared → Prop} {KK : KE}
/-- kept: the old objects, and the rest of the state -/
structure Kp (s s' : Shared) : Prop where
 heap : ∀ b o, s.heap.get? b = some o → s'.heap.get? b = some o
 same : Same s s'
theorem consts_all {D : Addr} : ∀ {es : List Expr} {ns : List Int} {s : Shared} {Q : List Value → Shared → Prop}, constIntsA es = some ns → (∀ vs tk, IntsAre vs ns → Q vs { s with toks := tk }) → KdsAll (model prog w) A E env es Q s := by
 intro es
 induction es with
 | nil => intro ns s Q h hQ; cases h; exact hQ [] s.toks .nil
 | cons e es ih =>
  intro ns s Q h hQ
  cases e <;> try (cases h; done)
  rename_i c k pos
  cases c <;> try (cases h; done)
  rename_i i
  obtain ⟨ms, hm, rfl⟩ := Option.map_eq_some_iff.mp h
  refine wpAny_Constant_int (ih hm fun vs tk hv => ?_)
  exact hQ _ _ (.cons i _ hv)
theorem set_fill {D : Addr} {s₀ : Shared} : ∀ {vs : List Value} {ns : List Int} {s : Shared} {S : Int → Bool} {m : Nat} {Q : Value → Shared → Prop}, IntsAre vs ns → s.heap.SetOf (intKind prog w) D S m → m + vs.length < scanBound → Kp s₀ s → s₀.heap.get? D = none →
  (∀ s' m', s'.heap.SetOf (intKind prog w) D (fun x => S x || ns.contains x) m' → m' < scanBound → Kp s₀ s' → Q (.ref D) s') → KdsFill (model prog w) A E false D Q vs s := by
 intro vs
 induction vs with
 | nil =>
  intro ns s S m Q hi hS hm hk hD hQ
  cases hi
  refine kds_fill_nil rfl (hQ s m ?_ (by simpa using hm) hk)
  simpa using hS
 | cons v vs ih =>
  intro ns s S m Q hi hS hm hk hD hQ
  cases hi with
  | cons i t hi =>
   rename_i ns
   refine kds_fill_cons ?_
   unfold setAdd
   refine wpAny_holding (wpAny_bind ((intKind prog w).pyHash (intKind_is prog w i t) ?_))
   refine wpAny_setAddHashed_of (knd := intKind prog w) (k := i) (intKind_is prog w i t) rfl hS (by simp at hm; lia) fun h' hsb hS' => ?_
   refine ih hi hS' (by simp at hm; split <;> lia) ⟨fun b o hb => hsb.extBut b o (by rintro rfl; rw [hD] at hb; cases hb) (hk.heap b o hb), ⟨hk.same.gens, hk.same.os⟩⟩ hD fun s' m' h1 h2 h3 => hQ s' m' ?_ h2 h3
   have : (fun x => (S x || decide (x = i)) || ns.contains x) = fun x => S x || (i :: ns).contains x := by
    funext x
    rw [List.contains_cons, Bool.or_assoc]; rfl
   rw [this] at h1; exact h1
theorem set_unled {D : Addr} {S : Int → Bool} {m : Nat} {s₀ : Shared} {Q : Unit → Shared → Prop} (hS : s.heap.SetOf (intKind prog w) D S m) (hm : m < scanBound) (hk : Kp s₀ s) (hD : s₀.heap.get? D = none)
  (h : ∀ s', s'.heap.SetOf (intKind prog w) D S m → Kp s₀ s' → Q () s') : wpAny (model prog w) A (setUnled D) Q E s := by
 obtain ⟨o, es, ep, t, ho, hex, hd, hel, hmem, hb, hf, hn⟩ := hS
 have hf' : ({ t with led := false } : SetTable).fits es.size = true := by cases t; exact hf
 unfold setUnled
 refine wpAny_bind (wpAny_setState_of ho hd hf ?_)
 dsimp only
 refine wpAny_storeSet_of ho hd ?_ (fits_of_scanBound hb)
 obtain ⟨_, hS'⟩ := SetOf_store (knd := intKind prog w) ho hex hd hel hmem hb hf'
 rw [hn] at hS'
 refine h _ hS' ⟨fun b x hb' => ?_, ⟨hk.same.gens, hk.same.os⟩⟩
 exact (Heap.SameBut.update s.heap D _).extBut b x (by rintro rfl; rw [hD] at hb'; cases hb') (hk.heap b x hb')
theorem inMain_ok {Q : Bool → Shared → Prop} (P : FP B F ρ X env ae) (H : HR B F ρ σ s.heap) (h : ∀ b, Q b s) : wpAny (model prog w) A (inMainModule env) Q E s := by
 obtain ⟨q, c, o, vs, t, e, ho, hd, _⟩ := P.code
 unfold inMainModule
 try dsimp only
 rw [e]
 split
 ·exact wpAny_pure (h _)
 ·refine wpAny_bind (wpAny_fieldsOf (H.base _ _ ho) hd ?_)
  split
  ·exact wpAny_bind (wpAny_askSetting (wpAny_pure (h _)))
  ·exact wpAny_pure (h _)
theorem consts_plain : ∀ {es : List Expr} {ns : List Int}, constIntsA es = some ns → es.all kdsPlain = true ∧ es.all (constantsAlone 8) = true ∧ ns.length = es.length := by
 intro es
 induction es with
 | nil => intro ns h; cases h; exact ⟨rfl, rfl, rfl⟩
 | cons e es ih =>
  intro ns h
  cases e <;> try (cases h; done)
  rename_i c k pos
  cases c <;> try (cases h; done)
  obtain ⟨ms, hm, rfl⟩ := Option.map_eq_some_iff.mp h
  obtain ⟨h1, h2, h3⟩ := ih hm
  refine ⟨?_, ?_, by simp [h3]⟩
  ·rw [List.all_cons, h1]; rfl
  ·rw [List.all_cons, h2]; rfl
theorem inSet_ok {es : List Expr} {p : Pos} {ns : List Int} {x : Int} {t : Tok} (hc : constIntsA es = some ns) (hl : es.length ≤ 2) (P : FP B F ρ X env ae) (H : HR B F ρ σ s.heap) (hQ : ∀ s', Go B F ρ s ρ σ s' → Q (.bool (ns.contains x)) s') :
  wpAny (model prog w) A (markedBehindIn .In (.Set es 0 p) (eval (.Set es 0 p) env)) (fun v s₂ => wpAny (model prog w) A (compareOp .In (.int x t) v) Q E s₂) E s := by
 obtain ⟨c1, c2, c3⟩ := consts_plain hc
 have hm : behindInMarks .In (.Set es 0 p) = true := by
  show ((0 : Nat) == 0 && (CmpOp.In == CmpOp.In || CmpOp.In == CmpOp.NotIn) && es.all (constantsAlone 8)) = true
  rw [c2]; rfl
 unfold markedBehindIn
 rw [hm]
 dsimp only
 rw [arm_eval_Set]
 refine wpAny_bind (wpAny_bind (wpAny_standAt (wpAny_bind (inMain_ok P H fun b => ?_))))
 have hroad : (displayRoad 0 es) = .oneByOne := by unfold displayRoad; rw [if_neg (by decide), if_pos hl]
 rw [hroad, kds_star es c1, List.map_map]
 have hD : s.heap.get? s.heap.objs.size = none := Heap.get?_none_of_le (Nat.le_refl _)
 refine kds_core (ts := (evalEach es env).map fun t => do let v ← t; standAt p; pure v) rfl ?_ ?_ ?_ fun led => ?_
 ·refine List.findIdx?_eq_none_iff.mpr fun x hx => ?_
  obtain ⟨t, _, rfl⟩ := List.mem_map.mp hx
  rfl
 ·rw [List.length_map, kds_len]; lia
 ·rw [List.map_map]; try rfl
 ·refine kds_all p es _ _ (consts_all (D := s.heap.objs.size) hc fun vs tk hv => ?_)
  have hlen := hv.length
  refine set_fill (D := s.heap.objs.size) (s₀ := s) (S := fun _ => false) (m := 0) hv ?_ ?_ ⟨fun b o hb => Heap.get?_push_of_some _ hb, ⟨rfl, rfl⟩⟩ hD fun s' m' hS hm' hk => ?_
  ·exact (setObjOf_fresh (knd := intKind prog w) led).setOf (Heap.get?_push_size _ rfl) (by unfold scanBound; lia)
  ·unfold scanBound; lia
  ·dsimp only
   refine wpAny_bind (set_unled hS hm' hk hD fun s'' hS' hk' => wpAny_pure ?_)
   refine wpAny_inSet_of (knd := intKind prog w) (k := x) (intKind_is prog w x t) rfl hS' ?_
   rw [Bool.false_or]
   exact hQ { s'' with toks := s''.toks + 1 } ⟨List.prefix_refl _, H.keeps hk'.heap, hk'.same.gens, hk'.same.os⟩
theorem cmpE_step (he : EvalOk prog w B X d n (evalE X call n)) : CmpOk prog w B X d (n + 1) (cmpE X call (n + 1)) := by
 intro A E F ρ σ s Q sc env l r op ae K h R hQ
 have plain : behindInMarks op r = false → (evalE X call n sc l ae σ fun a σ => evalE X call n sc r ae σ fun b σ => wCmp op a b σ fun c => K c σ) →
   wpAny (model prog w) A (eval l env) (fun u s₁ => wpAny (model prog w) A (markedBehindIn op r (eval r env)) (fun v s₂ => wpAny (model prog w) A (compareOp op u v) Q E s₂) E s₁) E s := fun hm h => by
  rw [markedBehindIn_of_false hm]
  exact he h R.le fun _ _ _ _ _ g1 ha h1 => he h1 (R.le.go g1) fun _ _ _ _ _ g2 hb h2 => cmp_ok h2 R.A.ok g2.H (ha.mono g2.pre) hb fun b _ _ _ g3 k => hQ b _ _ _ ((g1.trans g2).trans g3) k
 cases r with
 | Set es k p =>
  obtain ⟨hc, h2⟩ := wB.out h
  clear h
  rw [Bool.and_eq_true, Bool.and_eq_true] at hc
  obtain ⟨⟨hk, hl⟩, ho⟩ := hc
  obtain rfl := beq_iff_eq.mp hk
  cases op with
  | In =>
   refine he h2 R.le fun _ a ra _ _ g1 ha h1 => ?_
   cases a with
   | int x =>
    obtain ⟨t, rfl⟩ := ha
    obtain ⟨ns, hn, h1⟩ := wO.out h1
    exact inSet_ok hn (Nat.le_of_ble_eq_true hl) (R.P.mono g1.pre) g1.H fun s' g2 => hQ _ _ _ _ (g1.trans g2) h1
   | _ => exact h1.elim
  | _ => cases ho
 | _ => exact plain rfl h
theorem testE_step (he : EvalOk prog w B X d n (evalE X call n)) (ht : TestOk prog w B X d n (testE X call n)) (hc : CmpOk prog w B X d n (cmpE X call n)) : TestOk prog w B X d (n + 1) (testE X call (n + 1)) := by
 intro A E F ρ σ s Q sc env e ae K h R hQ
 have plain : isTrue e env (eval e env) = (do let v ← eval e env; standAt e.pos; holding [v] (truthy v)) → (evalE X call n sc e ae σ fun v σ => wTruth σ v fun b => K b σ) → wpAny (model prog w) A (isTrue e env (eval e env)) Q E s :=
  fun h0 h => isTrue_plain (he h R.le fun _ _ _ _ _ g1 ha h1 => truth_ok h1 g1.H ha (hQ.after g1)) h0
 cases e with
 | UnaryOp op x p => cases op with
  | Not => exact isTrue_not (ht h R.le fun _ b _ _ g k => hQ _ (!b) _ _ g k)
  | _ => exact plain rfl h
 | BoolOp op vs p => exact wpAny_isTrue_BoolOp (all_ok ht h R.le hQ)
 | IfExp t b o p =>
  exact isTrue_IfExp (ht h R.le fun _ c _ _ g1 h1 => by
   cases c with
   | true => exact ht (h1.out.1 rfl) (R.le.go g1) (hQ.after g1)
   | false => exact ht (h1.out.2 rfl) (R.le.go g1) (hQ.after g1))
 | Compare l ops rs p => cases ops with
  | cons op ops => cases ops with
   | nil => cases rs with
    | cons r rs => cases rs with
     | nil =>
      have := hc (E := E) (Q := fun c s₃ => wpAny (model prog w) A (truthy c) Q E s₃) h R.le fun b _ _ _ g k => wpAny_truthy_bool (hQ _ _ _ _ g k)
      rw [isTrue_Compare1]
      exact wpAny_bind (wpAny_mono this (fun a s₁ h₁ => wpAny_bind (wpAny_holding (wpAny_mono h₁ (fun b s₂ h₂ => wpAny_bind (wpAny_standAt (wpAny_bind (wpAny_operating (wpAny_mono h₂ (fun c s₃ h₃ => wpAny_holding h₃) fun _ _ x => x))))) fun _ _ x => x))) fun _ _ x => x)
     | cons => exact h.elim
    | nil => exact h.elim
   | cons => exact h.elim
  | nil => exact h.elim
 | _ => exact plain rfl h
end
end Mj
namespace Mj
open PySem PySem.W PyProof.Rows PySem.Spec
variable [SetW]
/-- the ledger without its head parts, the rest of the heap but one place -/
theorem HR.step {B : Heap} {F F' : List (Addr × Obj)} {ρ : Rho} {σ : Sto} {h h' : Heap} (H : HR B F ρ σ h) (D : List Addr) (hD : ∀ a ∈ D, ∃ o, (a, o) ∈ F) (hs : ∀ b o, b ∉ D → h.get? b = some o → h'.get? b = some o)
  (hF' : F'.map (·.1) = F.map (·.1)) (hF : ∀ p ∈ F', h'.get? p.1 = some p.2) : HR B F' ρ σ h' := by
 have notB : ∀ b o, B.get? b = some o → b ∉ D := fun b o e hm => by obtain ⟨x, hx⟩ := hD b hm; have := H.fB _ hx; rw [show ((b, x) : Addr × Obj).1 = b from rfl, e] at this; cases this
 have notR : ∀ a ∈ ρ, a ∉ D := fun a ha hm => by obtain ⟨x, hx⟩ := hD a hm; exact H.sepF a ha _ hx rfl
 have back : ∀ p ∈ F', ∃ q ∈ F, q.1 = p.1 := fun p hp => by
  have : p.1 ∈ F.map (·.1) := hF' ▸ List.mem_map_of_mem hp
  obtain ⟨q, hq, e⟩ := List.mem_map.mp this
  exact ⟨q, hq, e⟩
 refine ⟨fun b o e => hs b o (notB b o e) (H.base b o e), hF, fun p hp => ?_, hF' ▸ H.fN, H.len, H.nd, fun k c a e e' => ?_, H.sepB, fun a ha p hp => ?_⟩
 ·obtain ⟨q, hq, e⟩ := back p hp
  rw [← e]; exact H.fB q hq
 ·have ha := notR a (List.mem_of_getElem? e')
  exact (H.obj k c a e e').mono (List.prefix_refl _) fun x => hs a x ha
 ·obtain ⟨q, hq, e⟩ := back p hp
  rw [← e]; exact H.sepF a ha q hq
noncomputable def ListIt (l : Addr) (i : Nat) (o : Obj) : Prop := o.cls = .type "list_iterator" ∧ o.data = .fields #[.ref l, .int i 0]
/-- the iterator's objects on the ledger -/
noncomputable def ItR (F : List (Addr × Obj)) (ρ : Rho) (I J : Addr) : It → Prop
 | .list k i => J = I ∧ ∃ l o, ρ[k]? = some l ∧ (I, o) ∈ F ∧ ListIt l i o
 | .rng x n st => J = I ∧ (I, { cls := .type "range_iterator", dict := none, data := .fields #[rawInt x, rawInt n, rawInt st], slots := #[] }) ∈ F
 | .enum k i => J ≠ I ∧ ∃ l o old, ρ[k]? = some l ∧ (J, o) ∈ F ∧ ListIt l i o ∧ (I, { cls := .type "enumerate", dict := none, data := .fields #[.none, .bool false, .ref J, rawInt i, .none, old], slots := #[] }) ∈ F
 | .fset k i => J = I ∧ ∃ a o vs oi, ρ[k]? = some a ∧ SetW.rel a o vs ∧ (I, oi) ∈ F ∧ SetW.it a o i oi ∧ oi.cls = .type "set_iterator"
theorem ItR.mono {F : List (Addr × Obj)} {ρ ρ' : Rho} {I J : Addr} (hp : ρ <+: ρ') : ∀ {it : It}, ItR F ρ I J it → ItR F ρ' I J it
 | .list .., ⟨j, l, o, a, b, c⟩ => ⟨j, l, o, get_prefix hp a, b, c⟩
 | .rng .., h => h
 | .enum .., ⟨j, l, o, old, a, b⟩ => ⟨j, l, o, old, get_prefix hp a, b⟩
 | .fset .., ⟨j, a, o, vs, oi, e, b⟩ => ⟨j, a, o, vs, oi, get_prefix hp e, b⟩
theorem ItR.at {F : List (Addr × Obj)} {ρ : Rho} {I J : Addr} {it : It} (h : ItR F ρ I J it) : ∀ a ∈ [I, J], ∃ o, (a, o) ∈ F := by
 cases it with
 | list k i => obtain ⟨rfl, l, o, _, b, _⟩ := h; intro a ha; simp at ha; subst ha; exact ⟨_, b⟩
 | rng x n st => obtain ⟨rfl, b⟩ := h; intro a ha; simp at ha; subst ha; exact ⟨_, b⟩
 | enum k i => obtain ⟨_, l, o, old, _, b, _, c⟩ := h; intro a ha; simp at ha; rcases ha with rfl | rfl; exact ⟨_, c⟩; exact ⟨_, b⟩
 | fset k i => obtain ⟨rfl, a, o, vs, oi, _, _, b, _⟩ := h; intro a ha; simp at ha; subst ha; exact ⟨_, b⟩
theorem ItR.of_mem {F F' : List (Addr × Obj)} {ρ : Rho} {I J : Addr} {it : It} (hF : ∀ p ∈ F, p.1 ∈ [I, J] → p ∈ F') (h : ItR F ρ I J it) : ItR F' ρ I J it := by
 cases it with
 | list k i => obtain ⟨rfl, l, o, a, b, c⟩ := h; exact ⟨rfl, l, o, a, hF _ b (by simp), c⟩
 | rng x n st => obtain ⟨rfl, b⟩ := h; exact ⟨rfl, hF _ b (by simp)⟩
 | enum k i => obtain ⟨j, l, o, old, a, b, c, d⟩ := h; exact ⟨j, l, o, old, a, hF _ b (by simp), c, hF _ d (by simp)⟩
 | fset k i => obtain ⟨rfl, a, o, vs, oi, x, y, b, c⟩ := h; exact ⟨rfl, a, o, vs, oi, x, y, hF _ b (by simp), c⟩
/-- frozensets are walked as the abstract store says -/
structure SetOk (prog : Program) (w : World) : Prop where
 uniq : ∀ {a o o' vs vs'}, SetW.rel a o vs → SetW.rel a o' vs' → o = o'
 iter : ∀ {A : Around} {E : Value → Shared → Prop} {s : Shared} {Q : Value → Shared → Prop} {a o vs}, SetW.rel a o vs → s.heap.get? a = some o →
  (∀ oi, SetW.it a o 0 oi → oi.cls = .type "set_iterator" → oi.isFreed = false → Q (.ref s.heap.objs.size) { s with heap := s.heap.push oi }) → wpAny (model prog w) A (pyIter (.ref a)) Q E s
 item : ∀ {A : Around} {E : Value → Shared → Prop} {s : Shared} {Q : Option Value → Shared → Prop} {a o vs I i oi v}, SetW.rel a o vs → s.heap.get? a = some o → s.heap.get? I = some oi → SetW.it a o i oi → vs[i]? = some v → I ≠ a →
  (∀ h' tk oi', SetW.it a o (i + 1) oi' → oi'.cls = .type "set_iterator" → h'.get? I = some oi' → (∀ b x, b ≠ I → s.heap.get? b = some x → h'.get? b = some x) → Q (some v) { s with heap := h', toks := tk }) → wpAny (model prog w) A (pyNext (.ref I)) Q E s
 self : ∀ {A : Around} {E : Value → Shared → Prop} {s : Shared} {Q : Value → Shared → Prop} {a o i I oi}, s.heap.get? I = some oi → SetW.it a o i oi → Q (.ref I) s → wpAny (model prog w) A (pyIter (.ref I)) Q E s
 done : ∀ {A : Around} {E : Value → Shared → Prop} {s : Shared} {Q : Option Value → Shared → Prop} {a o vs I i oi}, A.handled = none → SetW.rel a o vs → s.heap.get? a = some o → s.heap.get? I = some oi → SetW.it a o i oi → vs[i]? = none → I ≠ a →
  (∀ h' tk, (∀ b x, b ≠ I → s.heap.get? b = some x → h'.get? b = some x) → Q none { s with heap := h', toks := tk }) → wpAny (model prog w) A (pyNext (.ref I)) Q E s
section
variable {prog : Program} {w : World} {A : Around} {E : Value → Shared → Prop} {B : Heap} {F : List (Addr × Obj)} {ρ : Rho} {σ σ' : Sto} {s : Shared}
theorem HR.size_le {h h' : Heap} (hk : ∀ b o, h.get? b = some o → h'.get? b = some o) {o : Obj} (e : h'.get? h.objs.size = some o) : h.objs.size < h'.objs.size := Heap.lt_size e
/-- the iterator of a value -/
theorem iter_ok (SO : SetOk prog w) {Q : Value → Shared → Prop} {a : AV} {ra : Value} {K : It → Prop} (h : wIter a σ K) (H : HR B F ρ σ s.heap) (hr : VR ρ a ra)
  (hQ : ∀ it o s', K it → (∀ k i, it ≠ .enum k i) → HR B ((s.heap.objs.size, o) :: F) ρ σ s'.heap → ItR ((s.heap.objs.size, o) :: F) ρ s.heap.objs.size s.heap.objs.size it → Same s s' → Q (.ref s.heap.objs.size) s') : wpAny (model prog w) A (pyIter ra) Q E s := by
 cases a with
 | ref k =>
  obtain ⟨⟨b, o⟩, e1, h⟩ := wAt.out h
  cases o with
  | list xs =>
   obtain ⟨l, vs, n, rfl, ea, g, r⟩ := listAt H e1 hr
   refine wpAny_pyIter_list ⟨_, g, rfl, n, rfl⟩ (hQ _ { cls := .type "list_iterator", data := .fields #[.ref l, .int 0 0] } _ h (fun _ _ q => by cases q) ?_ ⟨rfl, l, _, ea, List.mem_cons_self .., rfl, rfl⟩ ⟨rfl, rfl⟩)
   exact H.pushF (fun _ _ e => Heap.get?_push_of_some _ e) (Nat.le_refl _) (Heap.get?_push_size _ rfl)
  | range lo hi st =>
   obtain ⟨a1, ea, rfl⟩ := hr
   obtain ⟨t, u, v, g⟩ := H.obj _ _ a1 e1 ea
   have hn : rawInt (Builtin.Range.rangeSize lo hi st) = rawInt ((rangeN lo hi st : Nat) : Int) := by unfold rangeN; rw [Int.toNat_of_nonneg (rangeSize_nonneg _ _ _)]
   refine wpAny_pyIter_range g h.out.1 (hQ _ { cls := .type "range_iterator", data := .fields #[rawInt lo, rawInt (Builtin.Range.rangeSize lo hi st), rawInt st] } _ h.out.2 (fun _ _ q => by cases q) ?_ ⟨rfl, by rw [hn]; exact List.mem_cons_self ..⟩ ⟨rfl, rfl⟩)
   exact H.pushF (fun _ _ e => Heap.get?_push_of_some _ e) (Nat.le_refl _) (Heap.get?_push_size _ rfl)
  | fset xs =>
   obtain ⟨a1, ea, rfl⟩ := hr
   obtain ⟨o, vs, g, r, _⟩ := H.obj _ _ a1 e1 ea
   refine SO.iter r g fun oi hi hc hfr => hQ _ oi _ h (fun _ _ q => by cases q) ?_ ⟨rfl, a1, o, vs, oi, ea, r, List.mem_cons_self .., hi, hc⟩ ⟨rfl, rfl⟩
   exact H.pushF (fun _ _ e => Heap.get?_push_of_some _ e) (Nat.le_refl _) (Heap.get?_push_size _ hfr)
  | _ => exact h.elim
 | _ => exact h.elim
theorem go_none {target : Expr} {I : Addr} {v : Value} {o : Obj} {T : String} {Q : Unit → Shared → Prop} (ho : s.heap.get? I = some o) (hc : o.cls = .type T)
  (hT : ["enumerate", "zip", "dict_itemiterator", "dict_reverseitemiterator", "odict_iterator", "itertools.zip_longest", "itertools.pairwise"].contains T = false) (h : Q () s) :
  wpAny (model prog w) A (letOwnedTupleGo target (.ref I) v) Q E s := by
 have main : ∀ a : Addr, wpAny (model prog w) A (do
   let o ← load I
   match o.cls, o.data with
   | .type n, .fields vs =>
    if ["enumerate", "zip", "dict_itemiterator", "dict_reverseitemiterator", "odict_iterator", "itertools.zip_longest", "itertools.pairwise"].contains n && vs[0]? == some (rawInt a) then
     rule "for.unpacks-the-owned-tuple"
     updateField I 0 .none
   | _, _ => pure ()) Q E s := by
  intro a
  refine wpAny_bind (wpAny_load ho ?_)
  rw [hc]
  split
  ·rename_i q1 q2
   cases q1
   rw [hT, Bool.false_and, if_neg Bool.false_ne_true]
   exact wpAny_pure h
  ·exact wpAny_pure h
 unfold letOwnedTupleGo
 split
 ·cases v <;> first | exact wpAny_pure h | exact main _
 ·cases v <;> first | exact wpAny_pure h | exact main _
 ·exact wpAny_pure h
theorem turn_one {I : Addr} {o : Obj} {F : List (Addr × Obj)} {J : Addr} : Turned [I, J] F (HR.turnF I o F) :=
 ⟨HR.turnF_fst _ _ _, fun p hp hn => HR.turnF_mem hp fun q => hn (by simp [q])⟩
variable (prog w) in
noncomputable def NextTo (A : Around) (E : Value → Shared → Prop) (target : Expr) (I : Addr) (N : Shared → Prop) (G : Value → Shared → Prop) (r : Option Value) (s₁ : Shared) : Prop := match r with
 | none => N s₁
 | some v => wpAny (model prog w) A (letOwnedTupleGo target (.ref I) v) (fun _ s₂ => G v s₂) E s₁
/-- what the next turn is given -/
noncomputable def OnNext (B : Heap) (F : List (Addr × Obj)) (ρ : Rho) (s : Shared) (I J : Addr) (K : AV → It → Sto → Prop) (G : Value → Shared → Prop) : Prop :=
 ∀ v it' σ' ρ' rv s' F', K v it' σ' → ρ <+: ρ' → Turned [I, J] F F' → HR B F' ρ' σ' s'.heap → ItR F' ρ' I J it' → VR ρ' v rv → Same s s' → G rv s'
theorem next_list {target : Expr} {k i : Nat} {I J : Addr} {N : Shared → Prop} {G : Value → Shared → Prop} {done : Prop} {K : AV → It → Sto → Prop} (h : wNext (.list k i) σ done K) (hA : AOk 0 A) (H : HR B F ρ σ s.heap) (hI : ItR F ρ I J (.list k i))
  (hnone : done → ∀ s', (∀ b o, b ∉ [I, J] → s.heap.get? b = some o → s'.heap.get? b = some o) → Same s s' → N s') (hsome : OnNext B F ρ s I J K G) :
  wpAny (model prog w) A (pyNext (.ref I)) (NextTo prog w A E target I N G) E s := by
 obtain ⟨_, xs, e1, h⟩ := wLst.out h
 obtain ⟨rfl, l, o, a, b, hc, hd⟩ := hI
 obtain ⟨vs, n, g, rr⟩ := H.obj _ _ l e1 a
 have hit : s.heap.IsListIter J l i := ⟨o, H.fr _ b, hc, hd⟩
 have hl : s.heap.IsList l vs := ⟨_, g, rfl, n, rfl⟩
 cases hx : xs[i]? with
 | some x =>
  rw [hx] at h
  obtain ⟨v, hv, hvr⟩ := rr.get hx
  refine wpAny_pyNext_list_item hit hl (by rw [← Array.getElem?_toList]; exact hv) fun h' hit' hs' => ?_
  obtain ⟨o', ho', hc', hd'⟩ := hit'
  refine go_none (T := "list_iterator") ho' hc' (by decide) ?_
  exact hsome _ _ _ ρ v _ _ h (List.prefix_refl _) turn_one (H.turn b (fun b x hb eb => (hs'.2 b hb).trans eb) ho') ⟨rfl, l, o', a, HR.turnF_self b, hc', hd'⟩ hvr ⟨rfl, rfl⟩
 | none =>
  rw [hx] at h
  refine wpAny_pyNext_list_end hA.hd hit hl (by
   rw [← Array.getElem?_toList, List.getElem?_eq_none_iff, rr.length]; exact List.getElem?_eq_none_iff.mp hx) fun h' hs' => ?_
  exact hnone h _ (fun b x hb eb => hs' b x (fun q => hb (by rw [q]; exact List.mem_cons_self ..)) eb) ⟨rfl, rfl⟩
theorem next_rng {target : Expr} {x st : Int} {n : Nat} {I J : Addr} {N : Shared → Prop} {G : Value → Shared → Prop} {done : Prop} {K : AV → It → Sto → Prop} (h : wNext (.rng x n st) σ done K) (hA : AOk 0 A) (H : HR B F ρ σ s.heap) (hI : ItR F ρ I J (.rng x n st))
  (hnone : done → ∀ s', (∀ b o, b ∉ [I, J] → s.heap.get? b = some o → s'.heap.get? b = some o) → Same s s' → N s') (hsome : OnNext B F ρ s I J K G) :
  wpAny (model prog w) A (pyNext (.ref I)) (NextTo prog w A E target I N G) E s := by
 obtain ⟨rfl, b⟩ := hI
 cases n with
 | zero =>
  refine wpAny_pyNext_range_end hA.hd (H.fr _ b) (by simp) fun h' hs' => ?_
  exact hnone h _ (fun b x hb eb => hs' b x (fun q => hb (by rw [q]; exact List.mem_cons_self ..)) eb) ⟨rfl, rfl⟩
 | succ n =>
  refine wpAny_pyNext_range_item (H.fr _ b) (by lia) fun h' hit' hs' => ?_
  have hn : ((n + 1 : Nat) : Int) - 1 = (n : Nat) := by lia
  rw [hn] at hit'
  refine go_none (T := "range_iterator") hit' rfl (by decide) ?_
  exact hsome _ _ _ ρ _ _ _ h (List.prefix_refl _) turn_one (H.turn b (fun b x hb eb => (hs'.2 b hb).trans eb) hit') ⟨rfl, HR.turnF_self b⟩ ⟨_, rfl⟩ ⟨rfl, rfl⟩
theorem next_fset (SO : SetOk prog w) {target : Expr} {k i : Nat} {I J : Addr} {N : Shared → Prop} {G : Value → Shared → Prop} {done : Prop} {K : AV → It → Sto → Prop} (h : wNext (.fset k i) σ done K) (hA : AOk 0 A) (H : HR B F ρ σ s.heap) (hI : ItR F ρ I J (.fset k i))
  (hnone : done → ∀ s', (∀ b o, b ∉ [I, J] → s.heap.get? b = some o → s'.heap.get? b = some o) → Same s s' → N s') (hsome : OnNext B F ρ s I J K G) :
  wpAny (model prog w) A (pyNext (.ref I)) (NextTo prog w A E target I N G) E s := by
 obtain ⟨⟨_, o⟩, e1, h⟩ := wAt.out h
 cases o with
 | fset xs =>
  obtain ⟨rfl, a, o, vs, oi, ea, hrel, b, hi, hc⟩ := hI
  obtain ⟨o', vs', g, hrel', rr⟩ := H.obj _ _ a e1 ea
  obtain rfl := SO.uniq hrel hrel'
  have hne : J ≠ a := H.sepF a (List.mem_of_getElem? ea) _ b
  cases hx : xs[i]? with
  | some x =>
   have h : K x (.fset k (i + 1)) σ := by simpa only [hx] using h
   obtain ⟨v, hv, hvr⟩ := rr.get hx
   refine SO.item hrel' g (H.fr _ b) hi hv hne fun h' tk oi' hi' hc' ho' hs' => ?_
   refine go_none (T := "set_iterator") ho' hc' (by decide) ?_
   exact hsome _ _ _ ρ v _ _ h (List.prefix_refl _) turn_one (H.turn b hs' ho') ⟨rfl, a, o, vs', oi', ea, hrel', HR.turnF_self b, hi', hc'⟩ hvr ⟨rfl, rfl⟩
  | none =>
   have h : done := by simpa only [hx] using h
   refine SO.done hA.hd hrel' g (H.fr _ b) hi (by rw [List.getElem?_eq_none_iff, rr.length]; exact List.getElem?_eq_none_iff.mp hx) hne fun h' tk hs' => ?_
   exact hnone h _ (fun b x hb eb => hs' b x (fun q => hb (by rw [q]; exact List.mem_cons_self ..)) eb) ⟨rfl, rfl⟩
 | _ => exact h.elim
theorem next_enum {es : List Expr} {x1 : Nat} {p1 : Pos} {k i : Nat} {I J : Addr} {N : Shared → Prop} {G : Value → Shared → Prop} {done : Prop} {K : AV → It → Sto → Prop} (h : wNext (.enum k i) σ done K) (hA : AOk 0 A) (H : HR B F ρ σ s.heap) (hI : ItR F ρ I J (.enum k i))
  (hnone : done → ∀ s', (∀ b o, b ∉ [I, J] → s.heap.get? b = some o → s'.heap.get? b = some o) → Same s s' → N s') (hsome : OnNext B F ρ s I J K G) :
  wpAny (model prog w) A (pyNext (.ref I)) (NextTo prog w A E (.Tuple es x1 p1) I N G) E s := by
 obtain ⟨_, xs, e1, h⟩ := wLst.out h
 obtain ⟨hJI, l, o, old, a, b, ⟨hc, hd⟩, bI⟩ := hI
 obtain ⟨vs, n, g, rr⟩ := H.obj _ _ l e1 a
 have hit : s.heap.IsListIter J l i := ⟨o, H.fr _ b, hc, hd⟩
 have hl : s.heap.IsList l vs := ⟨_, g, rfl, n, rfl⟩
 have he : IsEnum s.heap I J i old := H.fr _ bI
 cases hx : xs[i]? with
 | some x =>
  rw [hx] at h
  obtain ⟨v, hv, hvr⟩ := rr.get hx
  refine wpAny_pyNext_enum_item he hit hl (by rw [← Array.getElem?_toList]; exact hv) (Ne.symm hJI) fun h' he' hit' ht' hz' hs' => ?_
  refine wpAny_letOwnedTupleGo_enum he' fun h'' he'' hs'' => ?_
  obtain ⟨o', ho', hc', hd'⟩ := hit'
  have hT : s.heap.objs.size ≠ I := Nat.ne_of_gt (Heap.lt_size he)
  have keep2 : ∀ b x, b ≠ I → b ≠ J → s.heap.get? b = some x → h''.get? b = some x := fun b x h1 h2 eb => hs''.extBut b x h1 (hs' b x h1 h2 eb)
  have hne : ∀ p ∈ F, p.1 ≠ s.heap.objs.size := fun p hp => Nat.ne_of_lt (Heap.lt_size (H.fr p hp))
  let oI : Obj := { cls := .type "enumerate", dict := none, data := .fields #[.none, .bool false, .ref J, rawInt ((i : Int) + 1), .none, v], slots := #[] }
  let F' := HR.turnF J o' (HR.turnF I oI F)
  have hF' : F'.map (·.1) = F.map (·.1) := (HR.turnF_fst _ _ _).trans (HR.turnF_fst _ _ _)
  have hT' : Turned [I, J] F F' := ⟨hF', fun p hp hn => HR.turnF_mem (HR.turnF_mem hp fun q => hn (by simp [q])) fun q => hn (by simp [q])⟩
  have mI : (I, oI) ∈ F' := HR.turnF_mem (HR.turnF_self bI) (Ne.symm hJI)
  have mJ : (J, o') ∈ F' := HR.turnF_self (HR.turnF_mem b hJI)
  have H0 : HR B F' ρ σ h'' := by
   refine H.step [I, J] (fun a ha => ?_) (fun b x hb eb => keep2 b x (fun q => hb (by simp [q])) (fun q => hb (by simp [q])) eb) hF' fun p hp => ?_
   ·simp at ha; rcases ha with rfl | rfl; exact ⟨_, bI⟩; exact ⟨_, b⟩
   ·rcases HR.mem_turnF hp with rfl | ⟨hp, h1⟩
    ·exact hs''.extBut _ _ hJI ho'
    ·rcases HR.mem_turnF hp with rfl | ⟨hp, h2⟩
     ·exact he''
     ·exact keep2 _ _ h2 h1 (H.fr p hp)
  have hTup : h''.get? s.heap.objs.size = some { cls := .type "tuple", data := .seq #[.int i s.toks, v] } := hs''.extBut _ _ hT ht'
  have H1 : HR B F' (ρ ++ [s.heap.objs.size]) (σ ++ [⟨true, .tuple [.int i, x]⟩]) h'' := by
   refine H0.alloc' (fun hm => Nat.lt_irrefl _ (H.lt hm)) H.fresh (fun p hp => ?_) ⟨_, 0, hTup, ⟨⟨_, rfl⟩, hvr.mono (List.prefix_append _ _), trivial⟩⟩
   have : p.1 ∈ F.map (·.1) := hF' ▸ List.mem_map_of_mem hp
   obtain ⟨q, hq, e⟩ := List.mem_map.mp this
   rw [← e]; exact hne q hq
  exact hsome _ _ _ (ρ ++ [s.heap.objs.size]) (.ref s.heap.objs.size) { s with heap := h'', toks := s.toks + 1 } F' h (List.prefix_append _ _) hT' H1 ⟨hJI, l, o', v, get_prefix (List.prefix_append _ _) a, mJ, ⟨hc', hd'⟩, mI⟩ ⟨_, by rw [← H.len]; simp, rfl⟩ ⟨rfl, rfl⟩
 | none =>
  rw [hx] at h
  refine wpAny_pyNext_enum_end hA.hd he hit hl (by
   rw [← Array.getElem?_toList, List.getElem?_eq_none_iff, rr.length]; exact List.getElem?_eq_none_iff.mp hx) fun h' hs' => ?_
  exact hnone h _ (fun b x hb eb => hs' b x (fun q => hb (by simp [q])) eb) ⟨rfl, rfl⟩
theorem next_ok (SO : SetOk prog w) {target : Expr} {it : It} {I J : Addr} {N : Shared → Prop} {G : Value → Shared → Prop} {done : Prop} {K : AV → It → Sto → Prop} (h : wNext it σ done K)
  (ht : ∀ k i, it = .enum k i → ∃ es x p, target = .Tuple es x p) (hA : AOk 0 A) (H : HR B F ρ σ s.heap) (hI : ItR F ρ I J it)
  (hnone : done → ∀ s', (∀ b o, b ∉ [I, J] → s.heap.get? b = some o → s'.heap.get? b = some o) → Same s s' → N s') (hsome : OnNext B F ρ s I J K G) :
  wpAny (model prog w) A (pyNext (.ref I)) (NextTo prog w A E target I N G) E s := by
 cases it with
 | list k i => exact next_list h hA H hI hnone hsome
 | rng x n st => exact next_rng h hA H hI hnone hsome
 | enum k i => obtain ⟨es, x, p, rfl⟩ := ht _ _ rfl; exact next_enum h hA H hI hnone hsome
 | fset k i => exact next_fset SO h hA H hI hnone hsome
end
end Mj
namespace Mj
open PySem PySem.W PyProof.Rows PySem.Spec
variable [SetW]
theorem Turned.mono {L L' : List Addr} {F F' : List (Addr × Obj)} (h : ∀ a ∈ L, a ∈ L') (T : Turned L F F') : Turned L' F F' := ⟨T.1, fun p hp hn => T.2 p hp fun q => hn (h _ q)⟩
theorem Turned.drop {D : List Addr} {G F F' : List (Addr × Obj)} (T : Turned D (G ++ F) F') (hn : ((G ++ F).map (·.1)).Nodup) :
  Turned D F (F'.drop G.length) ∧ (∀ p ∈ F'.drop G.length, p ∈ F' ∧ p.1 ∉ G.map (·.1)) ∧ ((F'.drop G.length).map (·.1)).Nodup ∧ ∀ p ∈ F', p.1 ∉ G.map (·.1) → p ∈ F'.drop G.length := by
 have hk : (F'.drop G.length).map (·.1) = F.map (·.1) := by rw [List.map_drop, T.1, List.map_append, List.drop_left' (by simp)]
 have ht : (F'.take G.length).map (·.1) = G.map (·.1) := by rw [List.map_take, T.1, List.map_append, List.take_left' (by simp)]
 rw [List.map_append, List.nodup_append] at hn
 refine ⟨⟨hk, fun p hp hD => ?_⟩, fun p hp => ⟨List.mem_of_mem_drop hp, fun hm => ?_⟩, hk ▸ hn.2.1, fun p hp hG => ?_⟩
 ·have := T.2 p (List.mem_append_right _ hp) hD
  rw [← List.take_append_drop G.length F'] at this
  rcases List.mem_append.mp this with h | h
  ·have h1 : p.1 ∈ G.map (·.1) := ht ▸ List.mem_map_of_mem h
   exact absurd rfl (hn.2.2 _ h1 _ (List.mem_map_of_mem hp))
  ·exact h
 ·have h1 : p.1 ∈ F.map (·.1) := hk ▸ List.mem_map_of_mem hp
  exact absurd rfl (hn.2.2 _ hm _ h1)
 ·rw [← List.take_append_drop G.length F'] at hp
  rcases List.mem_append.mp hp with h | h
  ·exact absurd (ht ▸ List.mem_map_of_mem h) hG
  ·exact h
section
variable {prog : Program} {w : World} {A : Around} {E : Value → Shared → Prop} {B : Heap} {K : Frag} {X : Ctx} {F : List (Addr × Obj)} {ρ : Rho} {σ σ' : Sto} {s : Shared} {sc : Scope} {env : Env} {ae : Loc} {d n : Nat}
 {call : Addr → List AV → Sto → XE}
noncomputable def testsC (ifs : List Expr) (env : Env) : Sem Bool := forIn ifs true fun c r => if r = true then do let ok ← isTrue c env (eval c env); pure (ForInStep.yield ok) else pure (ForInStep.yield r)
theorem compLoop_emit {R : Result → Shared → Prop} {elt target iter : Expr} {ifs : List Expr} {gens : List Comprehension} {scope : Scope} {pos : Pos} {dp : Nat} {it acc : Value} (hg : gens[dp]? = some ⟨target, iter, ifs, 0⟩) (hg1 : gens[dp + 1]? = none)
  (h : wpAny (model prog w) A (pyNext it) (fun r s₁ => match r with
   | none => R (.ok .next) s₁
   | some v => wpAny (model prog w) A (letOwnedTupleGo target it v) (fun _ s₂ => wpAny (model prog w) A (assign target env v) (fun _ s₃ => wpAny (model prog w) A (testsC ifs env) (fun ok s₄ =>
     if ok = true then wpAny (model prog w) A (eval elt env) (fun u s₅ => wpAny (model prog w) A (PySem.call (.builtin "list.append") [acc, u]) (fun _ s₆ => codeAny (model prog w) A (.compLoop (.ListComp elt gens scope pos) dp it acc env) R s₆)
      (notedBy (model prog w) A env fun e s' => R (.error e) s') s₅) (notedBy (model prog w) A env fun e s' => R (.error e) s') s₄
     else codeAny (model prog w) A (.compLoop (.ListComp elt gens scope pos) dp it acc env) R s₄) (notedBy (model prog w) A env fun e s' => R (.error e) s') s₃) (notedBy (model prog w) A env fun e s' => R (.error e) s') s₂) (notedBy (model prog w) A env fun e s' => R (.error e) s') s₁)
   (notedBy (model prog w) A env fun e s' => R (.error e) s') s) :
  codeAny (model prog w) A (.compLoop (.ListComp elt gens scope pos) dp it acc env) R s := by
 refine codeAny_of_tree ?_
 show wpAny _ A ((compTurn (.ListComp elt gens scope pos) dp it acc env).onRaise (fun x => do noteFrame x env; theTreesLotGoes x)) _ _ s
 refine wpAny_noted ?_
 unfold compTurn
 simp only [hg, hg1, bne_self_eq_false, Bool.false_eq_true, if_false]
 refine wpAny_bind (wpAny_standAt (wpAny_bind (wpAny_mono h (fun r s₁ h₁ => ?_) fun _ _ x => x)))
 cases r with
 | none => exact wpAny_pure h₁
 | some v =>
  refine wpAny_bind (wpAny_mono h₁ (fun _ s₂ h₂ => wpAny_bind (wpAny_mono h₂ (fun _ s₃ h₃ => wpAny_bind (wpAny_mono h₃ (fun ok s₄ h₄ => ?_) fun _ _ x => x)) fun _ _ x => x)) fun _ _ x => x)
  cases ok with
  | false => exact wpAny_pure ⟨rfl, h₄⟩
  | true => exact wpAny_bind (wpAny_bind (wpAny_mono h₄ (fun x s₅ h₅ => wpAny_bind (wpAny_mono h₅ (fun _ s₆ h₆ => wpAny_pure (wpAny_pure ⟨rfl, h₆⟩)) fun _ _ h' => h')) fun _ _ h' => h'))
theorem tests_no {Q : Bool → Shared → Prop} (h : Q false s) : ∀ l : List Expr, wpAny (model prog w) A (forIn l false fun c r => if r = true then do let ok ← isTrue c env (eval c env); pure (ForInStep.yield ok) else pure (ForInStep.yield r)) Q E s
 | [] => wpAny_pure h
 | a :: l => by rw [List.forIn_cons, if_neg Bool.false_ne_true]; exact wpAny_bind (wpAny_pure (tests_no h l))
theorem tests_ok {Q : Bool → Shared → Prop} {KK : Bool → Sto → Prop} (ht : TestOk prog w B X d n (testE X call n)) : ∀ {ifs : List Expr} {ρ : Rho} {σ : Sto} {s : Shared}, allA (testE X call n sc) .And ifs ae σ KK → Rd B X d n A sc env F ae ρ σ s → PB B F ρ s KK Q →
  wpAny (model prog w) A (testsC ifs env) Q E s
 | [], _, _, _, h, R, hQ => wpAny_pure (hQ.ret R.H h)
 | c :: ifs, _, _, _, h, R, hQ => by
  unfold testsC
  rw [List.forIn_cons, if_pos rfl]
  refine wpAny_bind (wpAny_bind (ht h R fun _ b _ _ g k => wpAny_pure ?_))
  cases b with
  | true => exact tests_ok ht (k.out.1 rfl) (R.go g) (hQ.after g)
  | false => exact tests_no (hQ _ _ _ _ g (k.out.2 rfl)) ifs
theorem compStart_gen {R : Result → Shared → Prop} {elt target iter : Expr} {ifs : List Expr} {gens : List Comprehension} {scope : Scope} {pos : Pos} {dp : Nat} {it acc : Value} (hg : gens[dp]? = some ⟨target, iter, ifs, 0⟩)
  (h0 : codeAny (model prog w) A (.compLoop (.ListComp elt gens scope pos) dp it acc env) R s)
  (h : wpAny (model prog w) A (pyIter it) (fun it' s' => codeAny (model prog w) A (.compLoop (.ListComp elt gens scope pos) dp it' acc env) R s') (notedBy (model prog w) A env fun x s' => R (.error x) s') s) :
  codeAny (model prog w) A (.compStart (.ListComp elt gens scope pos) dp it acc env) R s := by
 refine codeAny_of_tree ?_
 show wpAny _ _ ((compStart (.ListComp elt gens scope pos) dp it acc env).onRaise (fun x => do noteFrame x env; standAt theWindowsPlace)) _ _ s
 refine wpAny_notedAt ?_
 unfold compStart
 have hcl : clausesOf (.ListComp elt gens scope pos) = gens := rfl
 rw [hcl, hg]
 show wpAny _ _ (ask >>= _) _ _ s
 refine wpAny_bind (wpAny_askSetting (wpAny_ite ?_))
 split
 ·first
   | exact wpAny_bind (wpAny_pure (wpAny_pure (And.intro rfl h0)))
   | exact wpAny_pure (And.intro rfl h0)
 ·first
   | exact wpAny_bind (wpAny_rule (wpAny_bind (wpAny_standAt (wpAny_bind (wpAny_mono h (fun it' s' h' => wpAny_pure (And.intro rfl h')) fun _ _ x => x)))))
   | (refine wpAny_bind (wpAny_rule ?_); show wpAny _ _ (standAt iter.pos >>= _) _ _ s; exact wpAny_bind (wpAny_standAt (wpAny_bind (wpAny_mono h (fun it' s' h' => wpAny_pure (And.intro rfl h')) fun _ _ x => x))))
end
end Mj
namespace Mj
open PySem PySem.W PyProof.Rows PySem.Spec
variable [SetW]
section
variable (prog : Program) (w : World) (B : Heap) (X : Ctx)
/-- what a loop of a comprehension leaves -/
noncomputable def LoopPost (F : List (Addr × Obj)) (ρ : Rho) (s : Shared) (env : Env) (I J : Addr) (KK : Loc → Sto → Prop) (R : Shared → Prop) : Prop :=
 ∀ ρ' F' s' ae' σ', KK ae' σ' → ρ <+: ρ' → Turned [env.locals, I, J] F F' → FP B F' ρ' X env ae' → (∀ F₀ : List (Addr × Obj), (∀ p ∈ F₀, p ∈ F' ∧ p.1 ∉ [I, J]) → (F₀.map (·.1)).Nodup → HR B F₀ ρ' σ' s'.heap) → Same s s' → R s'
/-- what a turn's body leaves -/
noncomputable def TurnPost (F : List (Addr × Obj)) (ρ : Rho) (s : Shared) (env : Env) (KK : Loc → Sto → Prop) (R : Shared → Prop) : Prop :=
 ∀ ρ' F' s' ae' σ', KK ae' σ' → ρ <+: ρ' → Turned [env.locals] F F' → FP B F' ρ' X env ae' → HR B F' ρ' σ' s'.heap → Same s s' → R s'
noncomputable def GensOk (d n : Nat) (call : Addr → List AV → Sto → XE) : Prop :=
 ∀ {A : Around} {R : Result → Shared → Prop} {F : List (Addr × Obj)} {ρ : Rho} {σ : Sto} {s : Shared} {sc : Scope} {env : Env} {elt : Expr} {k : Nat} {gens : List Comprehension} {scope : Scope} {pos : Pos} {dp : Nat} {it : It} {ae : Loc} {I J acc : Addr} {KK : Loc → Sto → Prop},
  gensA X call n sc elt k (gens.drop dp) it ae σ KK → (∀ k i, it ≠ .enum k i) → Rd B X d n A sc env F ae ρ σ s → ItR F ρ I J it → ρ[k]? = some acc → env.locals ∉ [I, J] → (∀ x c, env.cells.lookup x = some c → c ∉ [I, J]) →
  LoopPost B X F ρ s env I J KK (fun s' => R (.ok .next) s') → codeAny (model prog w) A (.compLoop (.ListComp elt gens scope pos) dp (.ref I) (.ref acc) env) R s
end
section
variable {prog : Program} {w : World} {A : Around} {E : Value → Shared → Prop} {B : Heap} {K : Frag} {X : Ctx} {F : List (Addr × Obj)} {ρ : Rho} {σ σ' : Sto} {s : Shared} {sc : Scope} {env : Env} {ae : Loc} {d n : Nat}
 {call : Addr → List AV → Sto → XE}
theorem iterSelf (SO : SetOk prog w) {it : It} {I J : Addr} {Q : Value → Shared → Prop} (H : HR B F ρ σ s.heap) (hI : ItR F ρ I J it) (h : Q (.ref I) s) : wpAny (model prog w) A (pyIter (.ref I)) Q E s := by
 cases it with
 | list k i => obtain ⟨rfl, l, o, a, b, c, e⟩ := hI; exact wpAny_pyIter_listiter ⟨o, H.fr _ b, c, e⟩ h
 | rng x n st => obtain ⟨rfl, b⟩ := hI; exact wpAny_pyIter_rangeiter (H.fr _ b) h
 | enum k i => obtain ⟨_, l, o, old, a, b, c, e⟩ := hI; exact wpAny_pyIter_enum (H.fr _ e) h
 | fset k i => obtain ⟨rfl, a, o, vs, oi, x, y, b, c, _⟩ := hI; exact SO.self (H.fr _ b) c h
/-- the frame after the iterator moved -/
theorem FP.moved {F' : List (Addr × Obj)} {I J : Addr} (P : FP B F ρ X env ae) (T : Turned [I, J] F F') (h1 : env.locals ∉ [I, J]) (h2 : ∀ x c, env.cells.lookup x = some c → c ∉ [I, J]) : FP B F' ρ X env ae :=
 P.sub fun p hp hq => T.2 p hp (by rcases hq with hq | ⟨x, hq⟩; rw [hq]; exact h1; exact h2 x _ hq)
theorem LoopPost.after {F₁ : List (Addr × Obj)} {ρ₁ : Rho} {s₁ : Shared} {I J : Addr} {KK : Loc → Sto → Prop} {R : Shared → Prop} (h : LoopPost B X F ρ s env I J KK R) (hp : ρ <+: ρ₁) (T : Turned [env.locals, I, J] F F₁) (hs : Same s s₁) : LoopPost B X F₁ ρ₁ s₁ env I J KK R :=
 fun _ _ _ _ _ k hp' T' P' H' hs' => h _ _ _ _ _ k (hp.trans hp') (T.trans T') P' H' (hs.trans hs')
theorem next_kind {it : It} {done : Prop} {K : AV → It → Sto → Prop} (h : wNext it σ done K) (hne : ∀ k i, it ≠ .enum k i) : wNext it σ done fun v it' σ => (∀ k i, it' ≠ .enum k i) ∧ K v it' σ := by
 have nl : ∀ k i, ∀ k' i', It.list k i ≠ .enum k' i' := fun _ _ _ _ q => by cases q
 cases it with
 | list k i =>
  obtain ⟨b, xs, e, h⟩ := wLst.out h
  show wLst _ _ _
  unfold wLst
  refine ⟨b, xs, e, ?_⟩
  cases hx : xs[i]? with
  | some x => rw [hx] at h; simp only [hx]; exact ⟨nl _ _, h⟩
  | none => rw [hx] at h; simp only [hx]; exact h
 | rng x n st => cases n with
  | zero => exact h
  | succ n => exact ⟨fun _ _ q => (by cases q), h⟩
 | enum k i => exact absurd rfl (hne k i)
 | fset k i =>
  obtain ⟨⟨b, o⟩, e, h⟩ := wAt.out h
  show wAt _ _ _
  unfold wAt
  refine ⟨_, e, ?_⟩
  cases o with
  | fset xs =>
   cases hx : xs[i]? with
   | some x => simp only [hx] at h ⊢; exact ⟨fun _ _ q => (by cases q), h⟩
   | none => simp only [hx] at h ⊢; exact h
  | _ => exact h.elim
/-- a loop of a comprehension, whatever its turns do -/
theorem gens_loop (SO : SetOk prog w) (ht : TestOk prog w B X d n (testE X call n)) {R : Result → Shared → Prop} {ifs : List Expr} {x : Str} {px : Pos} {I J : Addr} {code : Code} {G : Shared → Prop} {bd : Loc → Sto → (Loc → Sto → Prop) → Prop} {KK : Loc → Sto → Prop} {k : Nat} {acc : Addr}
  (hcode : ∀ s, wpAny (model prog w) A (pyNext (.ref I)) (NextTo prog w A (notedBy (model prog w) A env fun e s' => R (.error e) s') (.Name x px) I (fun s₁ => R (.ok .next) s₁) (fun v s₂ => wpAny (model prog w) A (assign (.Name x px) env v) (fun _ s₃ => wpAny (model prog w) A (testsC ifs env) (fun ok s₄ => if ok = true then G s₄ else codeAny (model prog w) A code R s₄)
   (notedBy (model prog w) A env fun e s' => R (.error e) s') s₃) (notedBy (model prog w) A env fun e s' => R (.error e) s') s₂)) (notedBy (model prog w) A env fun e s' => R (.error e) s') s → codeAny (model prog w) A code R s)
  (hbd : ∀ {F ρ σ s ae K2}, bd ae σ K2 → Rd B X d n A sc env F ae ρ σ s → ρ[k]? = some acc → TurnPost B X F ρ s env K2 (fun s' => codeAny (model prog w) A code R s') → G s)
  (hL : env.locals ∉ [I, J]) (hC : ∀ x c, env.cells.lookup x = some c → c ∉ [I, J]) : ∀ (m : Nat) {F : List (Addr × Obj)} {ρ : Rho} {σ : Sto} {s : Shared} {ae : Loc} {it : It},
  wLoop (turnG sc x (allA (testE X call n sc) .And ifs) bd) m it ae σ KK → (∀ k i, it ≠ .enum k i) → Rd B X d n A sc env F ae ρ σ s → ItR F ρ I J it → ρ[k]? = some acc → LoopPost B X F ρ s env I J KK (fun s' => R (.ok .next) s') → codeAny (model prog w) A code R s
 | 0, _, _, _, _, _, _, h, _, _, _, _, _ => h.elim
 | m + 1, F, ρ, σ, s, ae, it, h, hne, hR, hI, hk, hQ => by
  refine hcode s (next_ok SO (next_kind h hne) (fun k i q => absurd q (hne k i)) hR.A.ok hR.H hI (fun hd s' hs' hsm => ?_) (fun v it1 σ1 ρ1 rv s1 F1 hh hp1 T1 H1 hI1 hv hs1 => ?_))
  ·exact hQ ρ F s' ae σ hd (List.prefix_refl _) Turned.refl hR.P (fun _ hF hN => hR.H.drop [I, J] hI.at hF hN hs') hsm
  ·obtain ⟨hne1, _, hh, hh2⟩ := hh
   obtain ⟨hlx, hh⟩ := wB.out hh
   have hlx := (hR.S x).2.mp (beq_iff_eq.mp hlx)
   refine wpAny_assign_Name (asgL_ok hlx ((hR.P.moved T1 hL hC).mono hp1) H1 hv fun F2 s2 T2 P2 H2 hs2 => ?_)
   have R2 : Rd B X d n A sc env F2 (putField x v ae) ρ1 σ1 s2 := ⟨hR.A, hR.S, P2, H2⟩
   have T12 : Turned [env.locals, I, J] F F2 := (T1.mono fun a ha => List.mem_cons_of_mem _ ha).trans (T2.mono fun a ha => by rw [List.mem_singleton.mp ha]; exact List.mem_cons_self ..)
   have out : ∀ {F F' : List (Addr × Obj)}, Turned [env.locals] F F' → ∀ p ∈ F, p.1 ∈ [I, J] → p ∈ F' := fun T p hp hpi => T.2 p hp (fun q => hL (List.mem_singleton.mp q ▸ hpi))
   have hI2 : ItR F2 ρ1 I J it1 := hI1.of_mem (out T2)
   have hs12 := hs1.trans hs2
   refine tests_ok ht hh R2 fun ρ3 b σ3 s3 g3 hb => ?_
   have R3 := R2.go g3
   have hI3 := hI2.mono g3.pre
   cases b with
   | false => exact gens_loop SO ht hcode hbd hL hC m (hh2 _ _ (hb.out.2 rfl)) hne1 R3 hI3 (get_prefix (hp1.trans g3.pre) hk) (hQ.after (hp1.trans g3.pre) T12 (hs12.trans g3.same))
   | true =>
    refine hbd (hb.out.1 rfl) R3 (get_prefix (hp1.trans g3.pre) hk) fun ρ4 F4 s4 ae4 σ4 k4 hp4 T4 P4 H4 hs4 => ?_
    exact gens_loop SO ht hcode hbd hL hC m (hh2 _ _ k4) hne1 ⟨hR.A, hR.S, P4, H4⟩ ((hI3.mono hp4).of_mem (out T4)) (get_prefix ((hp1.trans g3.pre).trans hp4) hk)
     (hQ.after ((hp1.trans g3.pre).trans hp4) (T12.trans (T4.mono fun a ha => by rw [List.mem_singleton.mp ha]; exact List.mem_cons_self ..)) ((hs12.trans g3.same).trans hs4))
end
end Mj
namespace Mj
open PySem PySem.W PyProof.Rows PySem.Spec
variable [SetW]
theorem lookup_filter {α β : Type} [BEq α] [LawfulBEq α] (p : α → Bool) (x : α) : ∀ l : List (α × β), (l.filter fun q => p q.1).lookup x = if p x then l.lookup x else none := by
 intro l
 induction l with
 | nil => simp
 | cons a l ih =>
  obtain ⟨n, b⟩ := a
  rw [List.filter_cons]
  by_cases hx : x = n
  ·subst hx
   cases hp : p x
   ·simp [hp, ih]
   ·simp [hp]
  ·cases hp : p n
   ·simp [ih, List.lookup_cons, beq_eq_false_iff_ne.mpr hx]
   ·simp [ih, List.lookup_cons, beq_eq_false_iff_ne.mpr hx]
theorem lookup_map {α β γ : Type} [BEq α] [LawfulBEq α] (g : α → β → γ) (x : α) : ∀ l : List (α × β), (l.map fun q => (q.1, g q.1 q.2)).lookup x = (l.lookup x).map (g x) := by
 intro l
 induction l with
 | nil => rfl
 | cons a l ih =>
  obtain ⟨n, b⟩ := a
  rw [List.map_cons, List.lookup_cons, List.lookup_cons, ih]
  by_cases hx : x = n
  ·subst hx; simp
  ·simp [beq_eq_false_iff_ne.mpr hx]
/-- the cells a comprehension closes over -/
noncomputable def cellsOf (names : List (Str × NameKind)) (env : Env) : List (Str × Addr) := (names.filter fun p => p.2 == .free).reverse.map fun p => (p.1, (env.cells.lookup p.1).getD 0)
theorem closure_ok {scope : Scope} {env : Env} (h : ∀ p ∈ scope.names, p.2 = .free → ∃ c, env.cells.lookup p.1 = some c) : closureFor scope env = pure (cellsOf scope.names env) := by
 have main : ∀ (l : List (Str × NameKind)) (cs : List (Str × Addr)), (∀ p ∈ l, p.2 = .free → ∃ c, env.cells.lookup p.1 = some c) →
   (forIn l cs (fun p r => if (p.2 == NameKind.free) = true then do let x ← cellOf env p.1; pure (ForInStep.yield ((p.1, x) :: r)) else pure (ForInStep.yield r)) : Sem (List (Str × Addr))) = pure (cellsOf l env ++ cs) := by
  intro l
  induction l with
  | nil => intro cs _; rfl
  | cons p l ih =>
   intro cs h
   rw [List.forIn_cons]
   obtain ⟨x, k⟩ := p
   cases hk : k == NameKind.free
   ·simp only [hk, Bool.false_eq_true, if_false]
    show (forIn l cs _ : Sem (List (Str × Addr))) = _
    rw [ih cs fun q hq => h q (List.mem_cons_of_mem _ hq)]
    unfold cellsOf
    rw [List.filter_cons]; simp [hk]
   ·obtain ⟨c, hc⟩ := h (x, k) (List.mem_cons_self ..) (beq_iff_eq.mp hk)
    simp only [hk, if_true]
    have e : cellOf env x = pure c := by unfold cellOf; rw [hc]
    rw [e]
    show (forIn l ((x, c) :: cs) _ : Sem (List (Str × Addr))) = _
    rw [ih _ fun q hq => h q (List.mem_cons_of_mem _ hq)]
    unfold cellsOf
    rw [List.filter_cons]; simp [hk, hc]
 have := main scope.names [] h
 rw [List.append_nil] at this
 unfold closureFor
 exact congrArg (fun m : Sem (List (Str × Addr)) => m >>= fun s => pure s) this
theorem cellsOf_lookup {names : List (Str × NameKind)} {env : Env} {x : Str} {c : Addr} (h : (cellsOf names env).lookup x = some c) : (x, NameKind.free) ∈ names ∧ c = (env.cells.lookup x).getD 0 := by
 have hm := mem_of_lookup h
 unfold cellsOf at hm
 obtain ⟨p, hp, e⟩ := List.mem_map.mp hm
 cases e
 obtain ⟨h1, h2⟩ := List.mem_filter.mp (List.mem_reverse.mp hp)
 obtain ⟨y, k⟩ := p
 have : k = NameKind.free := by simpa using h2
 subst this
 exact ⟨h1, rfl⟩
theorem cellsOf_some {names : List (Str × NameKind)} {env : Env} {x : Str} (h : (x, NameKind.free) ∈ names) : ∃ c, (cellsOf names env).lookup x = some c := by
 cases e : (cellsOf names env).lookup x with
 | some c => exact ⟨c, rfl⟩
 | none =>
  rw [List.lookup_eq_none_iff] at e
  have := e (x, (env.cells.lookup x).getD 0) (List.mem_map.mpr ⟨(x, .free), List.mem_reverse.mpr (List.mem_filter.mpr ⟨h, rfl⟩), rfl⟩)
  simp at this
section
variable {prog : Program} {w : World} {A : Around} {E : Value → Shared → Prop} {B : Heap} {K : Frag} {X : Ctx} {F : List (Addr × Obj)} {ρ : Rho} {σ σ' : Sto} {s : Shared} {sc : Scope} {env : Env} {ae : Loc} {d n : Nat}
 {call : Addr → List AV → Sto → XE}
theorem noSet_fold {iter : Expr} (h : noSet iter = true) (x : Value) : foldedSetIterable iter env x = pure x := by
 unfold foldedSetIterable
 cases iter <;> first | rfl | cases h
theorem gens_step (SO : SetOk prog w) (he : EvalOk prog w B X d n (evalE X call n)) (ht : TestOk prog w B X d n (testE X call n)) (hg : GensOk prog w B X d n call) : GensOk prog w B X d (n + 1) call := by
 intro A R F ρ σ s sc env elt k gens scope pos dp it ae I J acc KK h hne hR hI hk hL hC hQ
 cases hd : gens.drop dp with
 | nil => rw [hd] at h; exact h.elim
 | cons g gs =>
  rw [hd] at h
  have hg0 : gens[dp]? = some g := by
   have := congrArg (·[0]?) hd
   simpa using this
  have hgs : gens.drop (dp + 1) = gs := by rw [← List.drop_drop, hd]; rfl
  obtain ⟨target, iter, ifs, as⟩ := g
  obtain ⟨ha, h⟩ := wB.out h
  obtain rfl := beq_iff_eq.mp ha
  cases target with
  | Name x px =>
   cases gs with
   | nil =>
    have hg1 : gens[dp + 1]? = none := by
     have := congrArg (·[0]?) hgs
     simpa using this
    refine gens_loop SO ht (fun s => compLoop_emit hg0 hg1) (fun {F ρ σ s ae K2} hb R2 hk2 hT => ?_) hL hC X.N h hne hR.le hI hk hQ
    refine he hb R2 fun ρ4 u ru σ4 s4 g4 hu h4 => append_ok h4 g4.H ⟨acc, get_prefix g4.pre hk2, rfl⟩ hu fun ρ5 _ _ σ5 s5 g5 _ h5 => ?_
    have g := g4.trans g5
    exact hT ρ5 _ s5 _ _ h5 g.pre Turned.refl (R2.P.mono g.pre) g.H g.same
   | cons g' gs' => exact h.elim
  | _ => exact h.elim
theorem compOk_of {scope : Scope} (h : compOk sc scope ae = true) : scope.kind = .function ∧ scope.names.lookup ("__classdict__" : Str) = none ∧
  ∀ p ∈ scope.names, p.2 ≠ .cell ∧ scope.names.lookup p.1 = some p.2 ∧ (p.2 = .free → (∃ v, ae.lookup p.1 = some v) ∧ (sc.names.lookup p.1 = some .cell ∨ sc.names.lookup p.1 = some .free)) := by
 unfold compOk at h
 simp only [Bool.and_eq_true, beq_iff_eq, Option.isNone_iff_eq_none, List.all_eq_true] at h
 obtain ⟨⟨h1, h2⟩, h3⟩ := h
 refine ⟨h1, h2, fun p hp => ?_⟩
 obtain ⟨⟨a, b⟩, c⟩ := h3 p hp
 refine ⟨by simpa using a, b, fun hf => ?_⟩
 rw [if_pos hf] at c
 simp only [Bool.and_eq_true, Bool.or_eq_true, beq_iff_eq] at c
 exact ⟨Option.isSome_iff_exists.mp c.1, c.2⟩
theorem relabel_kind {scope : Scope} {C : Addr} {cl : List (Str × Addr)} (x : Str) : (compEnvC scope cl C env).kindOf x = (scope.names.lookup x).map fun k => if (k == .free && env.scope.kind == .function && env.kindOf x == some .cell) then .cell else k := by
 show (relabel scope env).names.lookup x = _
 unfold relabel
 have : (scope.names.map fun (n, k) => if (k == .free && env.scope.kind == .function && env.kindOf n == some .cell) then (n, NameKind.cell) else (n, k)) =
   scope.names.map fun q => (q.1, (fun n k => if (k == NameKind.free && env.scope.kind == .function && env.kindOf n == some .cell) then NameKind.cell else k) q.1 q.2) := by
  apply List.map_congr_left
  intro q _
  obtain ⟨n, k⟩ := q
  simp only
  split <;> rfl
 rw [this]
 exact lookup_map (fun n k => if (k == NameKind.free && env.scope.kind == .function && env.kindOf n == some .cell) then NameKind.cell else k) x scope.names
/-- the names that a comprehension sees from outside -/
noncomputable def outer (scope : Scope) (ae : Loc) : Loc := ae.filter fun p => scope.names.lookup p.1 == some .free
theorem outer_lookup {scope : Scope} {x : Str} {v : AV} (h : (outer scope ae).lookup x = some v) : scope.names.lookup x = some .free ∧ ae.lookup x = some v := by
 unfold outer at h
 rw [lookup_filter (fun y => scope.names.lookup y == some NameKind.free)] at h
 split at h
 ·rename_i q; exact ⟨beq_iff_eq.mp q, h⟩
 ·cases h
theorem kind_free (hsc : ScR sc env.scope) {x : Str} (h : sc.names.lookup x = some .cell ∨ sc.names.lookup x = some .free) : env.kindOf x = some .cell ∨ env.kindOf x = some .free := by
 obtain ⟨h1, h2⟩ := hsc x
 have hk : kindA env.scope x = some false := by rw [← h1]; unfold kindA; rcases h with h | h <;> rw [h]
 have hl : ¬ env.scope.names.lookup x = some .local := fun q => by rw [h2.mpr q] at h; rcases h with h | h <;> cases h
 unfold kindA at hk
 show env.scope.names.lookup x = _ ∨ env.scope.names.lookup x = _
 split at hk <;> simp_all
theorem comp_frame {scope : Scope} {C : Addr} {oC : Obj} {es : Array DictEntry} {ep : Nat} (hok : compOk sc scope ae = true) (hsc : ScR sc env.scope) (P : FP B F ρ X env ae) (hm : (C, oC) ∈ F) (hd : oC.data = .dict es ep) (hs : StrKeys es)
  (hC : ∀ x c, env.cells.lookup x = some c → c ≠ C) : FP B F ρ X (compEnvC scope (cellsOf scope.names env) C env) (outer scope ae) := by
 obtain ⟨h1, h2, h3⟩ := compOk_of hok
 have back : ∀ {x c}, (cellsOf scope.names env).lookup x = some c → env.cells.lookup x = some c := by
  intro x c h
  obtain ⟨hx, rfl⟩ := cellsOf_lookup h
  obtain ⟨_, _, h4⟩ := h3 _ hx
  obtain ⟨⟨v, hv⟩, hk⟩ := h4 rfl
  obtain ⟨c, oc, rv, c1, _⟩ := P.cl x v hv (kind_free hsc hk)
  rw [c1]; rfl
 have isFree : ∀ {x}, (compEnvC scope (cellsOf scope.names env) C env).kindOf x = some .cell ∨ (compEnvC scope (cellsOf scope.names env) C env).kindOf x = some .free → (x, NameKind.free) ∈ scope.names := by
  intro x hx
  rw [relabel_kind] at hx
  cases e : scope.names.lookup x with
  | none => rw [e] at hx; rcases hx with hx | hx <;> cases hx
  | some k =>
   rw [e] at hx
   have hmem := mem_of_lookup e
   by_cases hf : k = .free
   ·subst hf; exact hmem
   ·have : (k == NameKind.free) = false := beq_eq_false_iff_ne.mpr hf
    simp only [Option.map_some, this, Bool.false_and, Bool.false_eq_true, if_false] at hx
    rcases hx with hx | hx
    ·cases hx; exact absurd rfl (h3 _ hmem).1
    ·cases hx; exact absurd rfl hf
 refine ⟨h1, P.eg, P.eb, P.glob, ⟨oC, es, ep, hm, hd, hs, fun x v e k => ?_⟩, fun x v e _ => ?_, fun x k => cellsOf_some (isFree (.inl k)), fun x c e => P.cellF x c (back e), fun x y c e e' => P.apart x y c (back e) (back e'), fun x c e => hC x c (back e), ?_, P.code⟩
 ·obtain ⟨q, _⟩ := outer_lookup e
  rw [relabel_kind, q] at k
  simp only [Option.map_some] at k
  split at k <;> cases k
 ·obtain ⟨q, q'⟩ := outer_lookup e
  have hx := mem_of_lookup q
  obtain ⟨_, _, h4⟩ := h3 _ hx
  obtain ⟨_, hk⟩ := h4 rfl
  obtain ⟨c, oc, rv, c1, c2, c3, c4⟩ := P.cl x v q' (kind_free hsc hk)
  obtain ⟨c', e'⟩ := cellsOf_some (env := env) hx
  have : c' = c := by have := back e'; rw [c1] at this; exact (Option.some.inj this).symm
  subst this
  exact ⟨c', oc, rv, e', c2, c3, c4⟩
 ·rw [relabel_kind, h2]; rfl
theorem comp_scr {scope : Scope} {C : Addr} {cl : List (Str × Addr)} (h : ∀ p ∈ scope.names, p.2 ≠ .cell) : ScR scope (compEnvC scope cl C env).scope := by
 intro y
 have hk := relabel_kind (env := env) (scope := scope) (C := C) (cl := cl) y
 have hk : (compEnvC scope cl C env).scope.names.lookup y = _ := hk
 unfold kindA
 rw [hk]
 cases e : scope.names.lookup y with
 | none => simp
 | some k =>
  have := h _ (mem_of_lookup e)
  by_cases hf : k = .free
  ·subst hf
   simp only [Option.map_some]
   cases (NameKind.free == NameKind.free && env.scope.kind == ScopeKind.function && env.kindOf y == some NameKind.cell) <;> simp
  ·simp only [Option.map_some, beq_eq_false_iff_ne.mpr hf, Bool.false_and, Bool.false_eq_true, if_false]
   simp
end
end Mj
namespace Mj
open PySem PySem.W PyProof.Rows PySem.Spec
variable [SetW]
section
variable {prog : Program} {w : World} {A : Around} {E : Value → Shared → Prop} {B : Heap} {K : Frag} {X : Ctx} {F : List (Addr × Obj)} {ρ : Rho} {σ σ' : Sto} {s : Shared} {sc : Scope} {env : Env} {ae : Loc} {d n : Nat}
 {Q : Value → Shared → Prop} {call : Addr → List AV → Sto → XE}
theorem comp_core (SO : SetOk prog w) (he : EvalOk prog w B X d n (evalE X call n)) (hg : GensOk prog w B X d n call) {t iter elt : Expr} {ifs : List Expr} {gs : List Comprehension} {scope : Scope} {pos p : Pos} {use : Option (Value → Sem Unit)} {KK : KE}
  (hok : compOk sc scope ae = true) (hns : noSet iter = true) (h : evalE X call n sc iter ae σ fun x σ => lIter x σ fun it => lockG <| gensA X call n scope elt σ.length (⟨t, iter, ifs, 0⟩ :: gs) it (outer scope ae) (σ ++ [⟨true, .list []⟩]) fun _ σ' => KK (.ref σ.length) σ') (R : Rd B X d n A sc env F ae ρ σ s)
  (hK : ∀ ρ' C oC s' σ' k D es ep, KK (.ref k) σ' → ρ <+: ρ' → HR B ((C, oC) :: F) ρ' σ' s'.heap → oC.data = .dict es ep → StrKeys es → ρ'[k]? = some D → Same s s' → compPost (model prog w) A E use Q (.ref D) C (.ok .next) s') :
  wpAny (model prog w) A (comprehension (.ListComp elt (⟨t, iter, ifs, 0⟩ :: gs) scope pos) scope env p (newList []) false (eval iter env) use) Q E s := by
 have P := R.P
 have hsc := R.S
 obtain ⟨o1, o2, o3⟩ := compOk_of hok
 have hcells : ∀ y ∈ scope.names, y.2 ≠ .cell := fun y hy => (o3 y hy).1
 have hclos : closureFor scope env = pure (cellsOf scope.names env) := closure_ok fun q hq hf => by
  obtain ⟨_, _, h4⟩ := o3 q hq
  obtain ⟨⟨v, hv⟩, hk⟩ := h4 hf
  obtain ⟨c, oc, rv, c1, _⟩ := P.cl q.1 v hv (kind_free hsc hk)
  exact ⟨c, c1⟩
 refine wpAny_comprehension_free rfl (fun x => noSet_fold hns x) hclos o1 (fun y hy hl => hl ▸ (o3 y hy).2.1) ?_
 refine he h R fun ρ1 x rx σ1 s1 gg hx h1 => iter_ok SO h1.out gg.H hx fun it o s2 h3 hne H2 hI hs2 => ?_
 have hp1 := gg.pre
 have H1 := gg.H
 have hs1 := gg.same
 generalize hI' : s1.heap.objs.size = I at H2 hI
 refine wpAny_newObj_type ?_
 have H3 := H2.alloc (c := ⟨true, .list []⟩) (h' := s2.heap.push { cls := .type "list", dict := none, data := .seq ([] : List Value).toArray }) (fun _ _ e => Heap.get?_push_of_some _ e) (Nat.le_refl _) ⟨#[], 0, Heap.get?_push_size _ rfl, trivial⟩
 have hD : (ρ1 ++ [s2.heap.objs.size])[σ1.length]? = some s2.heap.objs.size := by rw [← H1.len]; simp
 generalize hDd : s2.heap.objs.size = D at H3 hD
 refine wpAny_newFunctionEnv hcells (by intro y hy; simp at hy) (fun h₁ hns₁ hsb₁ => ?_) o1
 obtain ⟨oC, es, ep, g1, g2, g3, g4⟩ := hns₁
 dsimp only at g1 hsb₁ ⊢
 generalize hHh : s2.heap.push { cls := .type "list", dict := none, data := .seq ([] : List Value).toArray } = Hh at *
 have keep : ∀ b o, Hh.get? b = some o → h₁.get? b = some o := fun b o e => hsb₁.extBut b o (Nat.ne_of_lt (Heap.lt_size e)) (Heap.get?_push_of_some _ e)
 have H4 := H3.pushF keep (Nat.le_refl _) g1
 have hlt : ∀ p ∈ (I, o) :: F, p.1 ≠ Hh.objs.size := fun p hp => Nat.ne_of_lt (Heap.lt_size (H3.fr p hp))
 have hIC : I ≠ Hh.objs.size := hlt _ (List.mem_cons_self ..)
 generalize hCc : Hh.objs.size = C at *
 have P4 : FP B ((C, oC) :: (I, o) :: F) (ρ1 ++ [D]) X env ae := (P.sub fun p hp _ => List.mem_cons_of_mem _ (List.mem_cons_of_mem _ hp)).mono (hp1.trans (List.prefix_append _ _))
 have hC : ∀ x c, env.cells.lookup x = some c → c ≠ C := fun x c e => by obtain ⟨oc, v₀, a, _⟩ := P.cellF x c e; exact hlt _ (List.mem_cons_of_mem _ a)
 have hCI : ∀ x c, env.cells.lookup x = some c → c ≠ I := fun x c e => by obtain ⟨oc, v₀, a, _⟩ := P.cellF x c e; rw [← hI']; exact Nat.ne_of_lt (Heap.lt_size (H1.fr _ a))
 have P5 := comp_frame hok hsc P4 (List.mem_cons_self ..) g2 g3 hC
 have hI5 := (hI.mono (ρ' := ρ1 ++ [D]) (List.prefix_append _ _)).of_mem (F' := (C, oC) :: (I, o) :: F) fun p hp _ => List.mem_cons_of_mem _ hp
 have loop : codeAny (model prog w) A (.compLoop (.ListComp elt (⟨t, iter, ifs, 0⟩ :: gs) scope pos) 0 (.ref I) (.ref D) (compEnvC scope (cellsOf scope.names env) C env)) (compPost (model prog w) A E use Q (.ref D) C) { s2 with heap := h₁, toks := s2.toks + 0 } := by
  refine hg h3.out hne ⟨R.A, comp_scr hcells, P5, H4⟩ hI5 hD (by simp [compEnvC, Ne.symm hIC]) (fun x c e => ?_) ?_
  ·obtain ⟨hx, hc⟩ := cellsOf_lookup e
   obtain ⟨_, _, h4⟩ := o3 _ hx
   obtain ⟨⟨v, hv⟩, hk⟩ := h4 rfl
   obtain ⟨c', oc, rv, c1, _⟩ := P.cl x v hv (kind_free hsc hk)
   rw [c1] at hc
   have : c = c' := hc
   subst this
   simp [hCI x c c1]
  ·intro ρ' F' s' ae' σ' k' hp' T' P' H' hs'
   have hn5 : (([(C, oC), (I, o)] ++ F).map (·.1)).Nodup := H4.fN
   obtain ⟨D1, D2, D3, D4⟩ := Turned.drop (G := [(C, oC), (I, o)]) T' hn5
   obtain ⟨oC', es', ep', m1, m2, m3, m4⟩ := P'.ns
   have m1 : (C, oC') ∈ F' := m1
   have inF : ∀ p ∈ F, p.1 ≠ C ∧ p.1 ≠ I := fun p hp => ⟨hlt p (List.mem_cons_of_mem _ hp), by rw [← hI']; exact Nat.ne_of_lt (Heap.lt_size (H1.fr p hp))⟩
   have HF : HR B ((C, oC') :: F) ρ' σ' s'.heap := by
    refine H' _ (fun p hp => ?_) ?_
    ·rcases List.mem_cons.mp hp with rfl | hp
     ·exact ⟨m1, by simp [Ne.symm hIC]⟩
     ·obtain ⟨n1, n2⟩ := inF p hp
      exact ⟨(D2 p (D1.2 p hp (by simp [n1, n2, compEnvC]))).1, by simp [n2]⟩
    ·rw [List.map_cons, List.nodup_cons]
     refine ⟨fun hm => ?_, R.H.fN⟩
     obtain ⟨p, hp, e⟩ := List.mem_map.mp hm
     exact (inF p hp).1 e
   exact hK ρ' C oC' s' _ _ D es' ep' k' ((hp1.trans (List.prefix_append _ _)).trans hp') HF m2 m3 (get_prefix hp' hD) ((hs1.trans hs2).trans ⟨hs'.gens, hs'.os⟩)
 exact compStart_gen (dp := 0) rfl loop (iterSelf SO (s := { s2 with heap := h₁, toks := s2.toks + 0 }) H4 hI5 loop)
theorem Outs.nsDrop {C : Addr} {oC : Obj} {h' : Heap} (H : HR B ((C, oC) :: F) ρ σ s.heap) (hs : Heap.SameBut C s.heap h') : HR B F ρ σ h' :=
 H.drop [C] (fun a ha => by simp at ha; subst ha; exact ⟨_, List.mem_cons_self ..⟩) (fun p hp => ⟨List.mem_cons_of_mem _ hp, by
  have := H.fN
  rw [List.map_cons, List.nodup_cons] at this
  simp only [List.mem_cons, List.not_mem_nil, or_false]
  intro e; have hm := List.mem_map_of_mem (f := (·.1)) hp; rw [e] at hm; exact this.1 hm⟩) (by have := H.fN; rw [List.map_cons, List.nodup_cons] at this; exact this.2) fun b o hb eb => hs.extBut b o (by simpa using hb) eb
theorem listComp_ok (SO : SetOk prog w) (he : EvalOk prog w B X d n (evalE X call n)) (hg : GensOk prog w B X d n call) : ListCompOk prog w B X d n call := by
 intro A E F ρ σ s Q sc scope pos env elt gs ae KK h R hQ
 cases gs with
 | nil => exact h.elim
 | cons g gs =>
  obtain ⟨t, iter, ifs, as⟩ := g
  obtain ⟨hc, h⟩ := wB.out h
  rw [Bool.and_eq_true, Bool.and_eq_true] at hc
  obtain ⟨⟨hok, hns⟩, ha⟩ := hc
  obtain rfl := beq_iff_eq.mp ha
  show wpAny (model prog w) A (comprehension (.ListComp elt (⟨t, iter, ifs, 0⟩ :: gs) scope pos) scope env _ (newList []) false (eval iter env) none) Q E s
  refine comp_core SO he hg hok hns h R.le fun ρ' C oC s' σ' k D es ep hk hp' H' d1 d2 hD hs' => ?_
  exact ⟨nsFind es, ⟨oC, es, ep, H'.fr _ (List.mem_cons_self ..), d1, d2, fun _ => rfl⟩, fun h' hs'' => hQ.outs hk ρ' _ { s' with heap := h' } hp' (Outs.nsDrop H' hs'') ⟨D, hD, rfl⟩ ⟨hs'.gens, hs'.os⟩⟩
end
end Mj
namespace Mj
open PySem PySem.W PyProof.Rows PySem.Spec
variable [SetW]
section
variable {prog : Program} {w : World} {A : Around} {E : Value → Shared → Prop} {B : Heap} {K : Frag} {X : Ctx} {F : List (Addr × Obj)} {ρ : Rho} {σ σ' : Sto} {s : Shared} {sc : Scope} {env : Env} {ae : Loc} {d n : Nat}
 {call : Addr → List AV → Sto → XE}
theorem expr_ok (XO : XOk B K X) (SO : SetOk prog w) (CO : CallOk prog w B X d call) : ∀ n, EvalOk prog w B X d n (evalE X call n) ∧ PartOk prog w B X d n (partE X call n) ∧ TestOk prog w B X d n (testE X call n) ∧ CmpOk prog w B X d n (cmpE X call n) ∧ GensOk prog w B X d n call
 | 0 => ⟨fun h => h.elim, fun h => h.elim, fun h => h.elim, fun h => h.elim, fun h => h.elim⟩
 | n + 1 =>
  let ⟨h1, h0, h2, h3, h4⟩ := expr_ok XO SO CO n
  ⟨evalE_step XO CO h1 h0 h2 h3 (listComp_ok SO h1 h4), part_step h1, testE_step h1 h2 h3, cmpE_step h1, gens_step SO h1 h2 h4⟩
/-- what an assignment leaves -/
noncomputable def AsgPost (B : Heap) (X : Ctx) (F : List (Addr × Obj)) (ρ : Rho) (s : Shared) (env : Env) (KK : Loc → Sto → Prop) (Q : Shared → Prop) : Prop :=
 ∀ ρ' F' s' ae' σ', KK ae' σ' → ρ <+: ρ' → Turned (ownAt env) F F' → FP B F' ρ' X env ae' → HR B F' ρ' σ' s'.heap → Same s s' → Q s'
theorem AsgPost.after {F₁ : List (Addr × Obj)} {ρ₁ : Rho} {s₁ : Shared} {KK : Loc → Sto → Prop} {Q : Shared → Prop} (h : AsgPost B X F ρ s env KK Q) (hp : ρ <+: ρ₁) (T : Turned (ownAt env) F F₁) (hs : Same s s₁) : AsgPost B X F₁ ρ₁ s₁ env KK Q :=
 fun _ _ _ _ _ k hp' T' P' H' hs' => h _ _ _ _ _ k (hp.trans hp') (T.trans T') P' H' (hs.trans hs')
theorem unpack_ok {v : AV} {n : Nat} {rv : Value} {KK : List AV → Prop} (h : wUnpack v n σ KK) (H : HR B F ρ σ s.heap) (hr : VR ρ v rv) : ∃ xs t vs, rv = .ref t ∧ s.heap.IsTuple t vs ∧ VRs ρ xs vs.toList ∧ xs.length = n ∧ KK xs := by
 cases v with
 | ref k =>
  obtain ⟨⟨b, o⟩, e1, h⟩ := wAt.out h
  cases o with
  | tuple xs =>
   obtain ⟨a, vs, m, rfl, ea, g, r⟩ := tupleAt H e1 hr
   exact ⟨xs, a, vs, rfl, ⟨_, g, rfl, m, rfl⟩, r, h.out.1, h.out.2⟩
  | _ => exact h.elim
 | _ => exact h.elim
theorem namesA_asg : ∀ {ts : List Expr} {xs : List Str}, namesA ts = some xs → (assignEach ts env).findIdx? (·.1) = none ∧ (assignEach ts env).length = xs.length ∧ ∃ ps : List Pos, ps.length = xs.length ∧ (assignEach ts env).map (·.2) = (xs.zip ps).map fun q => assign (.Name q.1 q.2) env := by
 intro ts
 induction ts with
 | nil => intro xs h; cases h; exact ⟨rfl, rfl, [], rfl, rfl⟩
 | cons t ts ih =>
  intro xs h
  cases t <;> try (cases h; done)
  rename_i x p
  obtain ⟨ys, hy, rfl⟩ := Option.map_eq_some_iff.mp h
  obtain ⟨h1, h2, ps, h3, h4⟩ := ih hy
  have e : assignEach (.Name x p :: ts) env = (false, assign (.Name x p) env) :: assignEach ts env := rfl
  rw [e]
  refine ⟨?_, by simp [h2], p :: ps, by simp [h3], by simp [h4]⟩
  rw [List.findIdx?_cons]; simp [h1]
theorem asgNames_ok {Q : Unit → Shared → Prop} : ∀ {xs : List Str} {ps : List Pos} {vs : List AV} {rs : List Value} {ae ae' : Loc} {F : List (Addr × Obj)} {s : Shared}, ps.length = xs.length → asgNames env.scope xs vs ae = some ae' → FP B F ρ X env ae → HR B F ρ σ s.heap → VRs ρ vs rs →
  (∀ F' s', Turned (ownAt env) F F' → FP B F' ρ X env ae' → HR B F' ρ σ s'.heap → Same s s' → Q () s') → wpAny (model prog w) A (assignInOrder ((xs.zip ps).map fun q => assign (.Name q.1 q.2) env) rs) Q E s
 | [], _, [], [], _, _, F, s, _, h, P, H, _, hQ => by cases h; exact wpAny_pure (hQ F s Turned.refl P H Same.rfl')
 | [], _, [], _ :: _, _, _, _, _, _, _, _, _, hr, _ => hr.elim
 | [], _, _ :: _, _, _, _, _, _, _, h, _, _, _, _ => by cases h
 | _ :: _, _, [], _, _, _, _, _, _, h, _, _, _, _ => by cases h
 | _ :: _, _, _ :: _, [], _, _, _, _, _, _, _, _, hr, _ => hr.elim
 | _ :: _, [], _, _, _, _, _, _, hl, _, _, _, _, _ => by simp at hl
 | x :: xs, p :: ps, v :: vs, r :: rs, ae, ae', F, s, hl, h, P, H, hr, hQ => by
  obtain ⟨ae1, h1, h2⟩ := Option.bind_eq_some_iff.mp h
  rw [List.zip_cons_cons, List.map_cons, assignInOrder]
  exact wpAny_bind (wpAny_holding (wpAny_assign_Name (asg_ok h1 P H hr.1 fun F1 s1 T1 P1 H1 hs1 => asgNames_ok (by simpa using hl) h2 P1 H1 hr.2 fun F2 s2 T2 P2 H2 hs2 => hQ F2 s2 (T1.trans T2) P2 H2 (hs1.trans hs2))))
theorem asgA_ok (XO : XOk B K X) (he : EvalOk prog w B X d n (evalE X call n)) {Q : Unit → Shared → Prop} {t : Expr} {v : AV} {rv : Value} {KK : Loc → Sto → Prop} (h : asgA X call n sc t v ae σ KK) (hsc : env.scope = sc) (R : Rd B X d n A sc env F ae ρ σ s)
  (hv : VR ρ v rv) (hQ : AsgPost B X F ρ s env KK (fun s' => Q () s')) : wpAny (model prog w) A (assign t env rv) Q E s := by
 have fin : ∀ {ρ' : Rho} {σ' : Sto} {s' : Shared}, Go B F ρ s ρ' σ' s' → KK ae σ' → Q () s' := fun g k => hQ _ F _ _ _ k g.pre Turned.refl (R.P.mono g.pre) g.H g.same
 cases t with
 | Name x pos =>
  obtain ⟨ae1, h1, k⟩ := wO.out h
  exact wpAny_assign_Name (asg_ok (hsc.symm ▸ h1) R.P R.H hv fun F1 s1 T1 P1 H1 hs1 => hQ ρ F1 s1 _ _ k (List.prefix_refl _) T1 P1 H1 hs1)
 | Attribute o name pos =>
  rw [arm_assign_Attribute]
  exact wpAny_bind (wpAny_holding (he h R fun _ _ _ _ _ g1 ha h1 => wpAny_bind (wpAny_standAt (wpAny_bind (wpAny_holding (set_ok XO h1.out g1.H ha (hv.mono g1.pre) fun _ _ _ g2 k => wpAny_release (fin (g1.trans g2) k)))))))
 | Subscript o ix pos =>
  obtain ⟨_, h⟩ := wB.out h
  rw [arm_assign_Subscript]
  exact wpAny_bind (wpAny_holding (he h R fun _ _ _ _ _ g1 ha h1 => wpAny_bind (wpAny_holding (he h1 (R.go g1) fun _ _ _ _ _ g2 hb h2 =>
   wpAny_bind (wpAny_standAt (wpAny_bind (wpAny_holding (put_ok h2.out g2.H (ha.mono g2.pre) hb (hv.mono (g1.pre.trans g2.pre)) fun _ _ _ g3 k => wpAny_release (fin ((g1.trans g2).trans g3) k)))))))))
 | Tuple ts x pos =>
  obtain ⟨xs, h1, h⟩ := wO.out h
  obtain ⟨vs, tt, rs, rfl, hT, hr, hl, h⟩ := unpack_ok h R.H hv
  obtain ⟨ae1, h5, k⟩ := wO.out h
  obtain ⟨n1, n2, ps, n3, n4⟩ := namesA_asg (env := env) h1
  have hrl : rs.size = _ := hr.length
  refine wpAny_assign_Tuple R.A.hd hT (by lia) n1 fun h' hx => ?_
  rw [n4]
  exact asgNames_ok (s := { s with heap := h' }) n3 (hsc.symm ▸ h5) R.P (R.H.keeps fun b o e => hx b o (Nat.ne_of_lt (Heap.lt_size e)) e) hr fun F' s' T' P' H' hs' => hQ ρ F' s' _ _ k (List.prefix_refl _) T' P' H' ⟨hs'.gens, hs'.os⟩
 | _ => exact h.elim
end
end Mj
namespace Mj
open PySem PySem.W PyProof.Rows PySem.Spec
variable [SetW]
noncomputable def FlR (ρ : Rho) : Fl → Flow → Prop
 | .next, f => f = .next
 | .brk, f => f = .brk
 | .cont, f => f = .cont
 | .ret v, f => ∃ rv, f = .ret rv ∧ VR ρ v rv
section
variable {prog : Program} {w : World} {A : Around} {E : Value → Shared → Prop} {B : Heap} {K : Frag} {X : Ctx} {F : List (Addr × Obj)} {ρ : Rho} {σ σ' : Sto} {s : Shared} {sc : Scope} {env : Env} {ae : Loc} {d n : Nat}
 {call : Addr → List AV → Sto → XE}
noncomputable def StPost (B : Heap) (X : Ctx) (F : List (Addr × Obj)) (ρ : Rho) (s : Shared) (env : Env) (KK : KS) (Q : Flow → Shared → Prop) : Prop :=
 ∀ ρ' F' s' fl rf ae' σ', KK fl ae' σ' → ρ <+: ρ' → Turned (ownAt env) F F' → FP B F' ρ' X env ae' → HR B F' ρ' σ' s'.heap → FlR ρ' fl rf → Same s s' → Q rf s'
theorem StPost.after {Q : Flow → Shared → Prop} {F₁ : List (Addr × Obj)} {ρ₁ : Rho} {s₁ : Shared} {KK : KS} (h : StPost B X F ρ s env KK Q) (hp : ρ <+: ρ₁) (T : Turned (ownAt env) F F₁) (hs : Same s s₁) : StPost B X F₁ ρ₁ s₁ env KK Q :=
 fun _ _ _ _ _ _ _ k hp' T' P' H' hf hs' => h _ _ _ _ _ _ _ k (hp.trans hp') (T.trans T') P' H' hf (hs.trans hs')
variable (prog w B X) in
noncomputable def StmtOk (d n : Nat) (f : Scope → Stmt → Loc → Sto → XS) : Prop :=
 ∀ {A : Around} {E : Value → Shared → Prop} {F : List (Addr × Obj)} {ρ : Rho} {σ : Sto} {s : Shared} {Q : Flow → Shared → Prop} {sc : Scope} {env : Env} {st : Stmt} {ae : Loc} {KK : KS},
  f sc st ae σ KK → env.scope = sc → Rd B X d n A sc env F ae ρ σ s → StPost B X F ρ s env KK Q → wpAny (model prog w) A (exec st env) Q E s
theorem seq_ok {Q : Flow → Shared → Prop} {f : Scope → Stmt → Loc → Sto → XS} {KK : KS} (hf : StmtOk prog w B X d n f) (hsc : env.scope = sc) : ∀ {b : List Stmt} {ae : Loc} {σ : Sto} {ρ : Rho} {F : List (Addr × Obj)} {s : Shared}, seqA (f sc) b ae σ KK → Rd B X d n A sc env F ae ρ σ s →
  StPost B X F ρ s env KK Q → wpAny (model prog w) A (execs b env) Q E s
 | [], _, _, ρ, F, s, h, R, hQ => wpAny_execs_nil (hQ ρ F s _ _ _ _ h (List.prefix_refl _) Turned.refl R.P R.H rfl Same.rfl')
 | _ :: _, _, _, _, _, _, ⟨_, h, h2⟩, R, hQ => wpAny_execs_cons (hf h hsc R fun ρ1 F1 s1 fl rf ae1 σ1 k hp1 T1 P1 H1 hfl hs1 => by
   have k := h2 _ _ _ k
   cases fl with
   | next => cases hfl; exact seq_ok hf hsc k ⟨R.A, R.S, P1, H1⟩ (hQ.after hp1 T1 hs1)
   | brk => cases hfl; exact hQ ρ1 F1 s1 _ _ _ _ k hp1 T1 P1 H1 rfl hs1
   | cont => cases hfl; exact hQ ρ1 F1 s1 _ _ _ _ k hp1 T1 P1 H1 rfl hs1
   | ret v => obtain ⟨rv, rfl, hv⟩ := hfl; exact hQ ρ1 F1 s1 _ _ _ _ k hp1 T1 P1 H1 ⟨rv, rfl, hv⟩ hs1)
/-- one turn of a while -/
theorem while_turn {R : Result → Shared → Prop} {test : Expr} {body : List Stmt}
  (h : wpAny (model prog w) A (isTrue test env (eval test env)) (fun b s₁ => if b = true then wpAny (model prog w) A (execs body env) (fun f s₂ => match f with
    | .next | .cont => codeAny (model prog w) A (.whileLoop test body [] env) R s₂
    | .brk => R (.ok .next) s₂
    | .ret v => R (.ok (.ret v)) s₂) (notedBy (model prog w) A env fun e s' => R (.error e) s') s₁ else R (.ok .next) s₁) (notedBy (model prog w) A env fun e s' => R (.error e) s') s) :
  codeAny (model prog w) A (.whileLoop test body [] env) R s := by
 refine codeAny_of_tree ?_
 show wpAny _ A ((whileTurn test body [] env).onRaise (fun x => do noteFrame x env; theTreesLotGoes x)) _ _ s
 refine wpAny_noted ?_
 unfold whileTurn
 refine wpAny_bind (wpAny_mono h (fun b s₁ h₁ => ?_) fun _ _ x => x)
 cases b with
 | false => exact wpAny_bind (wpAny_execs_nil (wpAny_pure h₁))
 | true =>
  refine wpAny_bind (wpAny_mono h₁ (fun f s₂ h₂ => ?_) fun _ _ x => x)
  cases f with
  | next => exact wpAny_pure ⟨rfl, h₂⟩
  | cont => exact wpAny_pure ⟨rfl, h₂⟩
  | brk => exact wpAny_pure h₂
  | ret v => exact wpAny_pure h₂
/-- one turn of a for -/
theorem for_turn {R : Result → Shared → Prop} {target : Expr} {it : Value} {body : List Stmt}
  (h : wpAny (model prog w) A (pyNext it) (fun r s₁ => match r with
   | none => R (.ok .next) s₁
   | some v => wpAny (model prog w) A (letOwnedTupleGo target it v) (fun _ s₂ => wpAny (model prog w) A (assign target env v) (fun _ s₃ => wpAny (model prog w) A (execs body env) (fun f s₄ => match f with
    | .next | .cont => codeAny (model prog w) A (.forLoop target it body [] env) R s₄
    | .brk => R (.ok .next) s₄
    | .ret v => R (.ok (.ret v)) s₄) (notedBy (model prog w) A env fun e s' => R (.error e) s') s₃) (notedBy (model prog w) A env fun e s' => R (.error e) s') s₂) (notedBy (model prog w) A env fun e s' => R (.error e) s') s₁)
   (notedBy (model prog w) A env fun e s' => R (.error e) s') s) :
  codeAny (model prog w) A (.forLoop target it body [] env) R s := by
 refine codeAny_of_tree ?_
 show wpAny _ A ((forTurn target it body [] env).onRaise (fun x => do noteFrame x env; theTreesLotGoes x)) _ _ s
 refine wpAny_noted ?_
 simp only [forTurn]
 refine wpAny_bind (wpAny_standAt (wpAny_bind (wpAny_onRaise (wpAny_mono h (fun r s₁ h₁ => ?_) fun _ _ h' => wpAny_standAt h'))))
 cases r with
 | none => exact wpAny_pure ⟨rfl, codeAny_block (wpAny_execs_nil h₁)⟩
 | some v =>
  refine wpAny_bind (wpAny_mono h₁ (fun _ s₂ h₂ => wpAny_bind (wpAny_mono h₂ (fun _ s₃ h₃ => wpAny_bind (wpAny_mono h₃ (fun f s₄ h₄ => ?_) fun _ _ x => x)) fun _ _ x => x)) fun _ _ x => x)
  cases f with
  | next => exact wpAny_pure ⟨rfl, h₄⟩
  | cont => exact wpAny_pure ⟨rfl, h₄⟩
  | brk => exact wpAny_pure h₄
  | ret v => exact wpAny_pure h₄
end
end Mj
namespace Mj
open PySem PySem.W PyProof.Rows PySem.Spec
variable [SetW]
section
variable {prog : Program} {w : World} {A : Around} {E : Value → Shared → Prop} {B : Heap} {K : Frag} {X : Ctx} {F : List (Addr × Obj)} {ρ : Rho} {σ σ' : Sto} {s : Shared} {sc : Scope} {env : Env} {ae : Loc} {d n : Nat}
 {call : Addr → List AV → Sto → XE}
theorem scr_of (h : env.scope = sc) : ScR sc env.scope := h ▸ fun _ => ⟨rfl, Iff.rfl⟩
theorem while_ok {f : Scope → Stmt → Loc → Sto → XS} {KK : KS} (ht : TestOk prog w B X d n (testE X call n)) (hf : StmtOk prog w B X d n f) (hsc : env.scope = sc) {R : Result → Shared → Prop} {t : Expr} {b : List Stmt} :
  ∀ (m : Nat) {ae : Loc} {σ : Sto} {ρ : Rho} {F : List (Addr × Obj)} {s : Shared}, whileA (testE X call n sc t) (seqA (f sc) b) m ae σ KK → Rd B X d n A sc env F ae ρ σ s →
  StPost B X F ρ s env KK (fun rf s' => R (.ok rf) s') → codeAny (model prog w) A (.whileLoop t b [] env) R s
 | 0, _, _, _, _, _, h, _, _ => h.elim
 | m + 1, _, _, _, F, _, h, hR, hQ => by
  refine while_turn (ht h hR fun ρ1 c σ1 s1 g1 h1 => ?_)
  cases c with
  | false => exact hQ ρ1 F s1 _ _ _ _ (h1.out.2 rfl) g1.pre Turned.refl (hR.P.mono g1.pre) g1.H rfl g1.same
  | true =>
   obtain ⟨_, h3, h4⟩ := h1.out.1 rfl
   refine seq_ok hf hsc h3 (hR.go g1) fun ρ2 F2 s2 fl rf ae2 σ2 k hp2 T2 P2 H2 hfl hs2 => ?_
   have k := h4 _ _ _ k
   have hQ' := hQ.after (g1.pre.trans hp2) T2 (g1.same.trans hs2)
   cases fl with
   | next => cases hfl; exact while_ok ht hf hsc m k ⟨hR.A, hR.S, P2, H2⟩ hQ'
   | cont => cases hfl; exact while_ok ht hf hsc m k ⟨hR.A, hR.S, P2, H2⟩ hQ'
   | brk => cases hfl; exact hQ' ρ2 F2 s2 _ _ _ _ k (List.prefix_refl _) Turned.refl P2 H2 rfl Same.rfl'
   | ret v => obtain ⟨rv, rfl, hv⟩ := hfl; exact hQ' ρ2 F2 s2 _ _ _ _ k (List.prefix_refl _) Turned.refl P2 H2 ⟨rv, rfl, hv⟩ Same.rfl'
noncomputable def ForPost (B : Heap) (X : Ctx) (F : List (Addr × Obj)) (ρ : Rho) (s : Shared) (env : Env) (I J : Addr) (KK : KS) (Q : Flow → Shared → Prop) : Prop :=
 ∀ ρ' F' s' fl rf ae' σ', KK fl ae' σ' → ρ <+: ρ' → Turned (ownAt env ++ [I, J]) F F' → FP B F' ρ' X env ae' → (∀ F₀ : List (Addr × Obj), (∀ p ∈ F₀, p ∈ F' ∧ p.1 ∉ [I, J]) → (F₀.map (·.1)).Nodup → HR B F₀ ρ' σ' s'.heap) → FlR ρ' fl rf → Same s s' → Q rf s'
theorem ForPost.after {Q : Flow → Shared → Prop} {F₁ : List (Addr × Obj)} {ρ₁ : Rho} {s₁ : Shared} {I J : Addr} {KK : KS} (h : ForPost B X F ρ s env I J KK Q) (hp : ρ <+: ρ₁) (T : Turned (ownAt env ++ [I, J]) F F₁) (hs : Same s s₁) : ForPost B X F₁ ρ₁ s₁ env I J KK Q :=
 fun _ _ _ _ _ _ _ k hp' T' P' H' hf hs' => h _ _ _ _ _ _ _ k (hp.trans hp') (T.trans T') P' H' hf (hs.trans hs')
/-- an iterator stays of its kind -/
theorem next_tuple {it : It} {done : Prop} {K : AV → It → Sto → Prop} {P : Prop} (h : wNext it σ done K) (ht : ∀ k i, it = .enum k i → P) : wNext it σ done fun v it' σ => (∀ k i, it' = .enum k i → P) ∧ K v it' σ := by
 cases it with
 | enum k i =>
  have p := ht _ _ rfl
  obtain ⟨b, xs, e, h⟩ := wLst.out h
  show wLst _ _ _
  unfold wLst
  refine ⟨b, xs, e, ?_⟩
  cases hx : xs[i]? with
  | some x => rw [hx] at h; simp only [hx]; exact ⟨fun _ _ _ => p, h⟩
  | none => rw [hx] at h; simp only [hx]; exact h
 | list k i =>
  have h := next_kind h fun _ _ q => by cases q
  obtain ⟨b, xs, e, h⟩ := wLst.out h
  show wLst _ _ _
  unfold wLst
  refine ⟨b, xs, e, ?_⟩
  cases hx : xs[i]? with
  | some x => simp only [hx] at h ⊢; exact ⟨fun _ _ q => absurd q (h.1 _ _), h.2⟩
  | none => simp only [hx] at h ⊢; exact h
 | rng x n st => cases n with
  | zero => exact h
  | succ n => exact ⟨fun _ _ q => (by cases q), h⟩
 | fset k i =>
  have h := next_kind h fun _ _ q => by cases q
  obtain ⟨⟨b, o⟩, e, h⟩ := wAt.out h
  show wAt _ _ _
  unfold wAt
  refine ⟨_, e, ?_⟩
  cases o with
  | fset xs =>
   cases hx : xs[i]? with
   | some x => simp only [hx] at h ⊢; exact ⟨fun _ _ q => absurd q (h.1 _ _), h.2⟩
   | none => simp only [hx] at h ⊢; exact h
  | _ => exact h.elim
theorem ownAt_sub {I J : Addr} (hL : env.locals ∉ [I, J]) (hC : ∀ x c, env.cells.lookup x = some c → c ∉ [I, J]) : ∀ a ∈ ownAt env, a ∉ [I, J] := by
 intro a ha
 rcases List.mem_cons.mp ha with rfl | ha
 ·exact hL
 ·obtain ⟨p, hp, e⟩ := List.mem_filterMap.mp ha
  split at e
  ·exact hC p.1 a e
  ·cases e
theorem for_ok (XO : XOk B K X) (SO : SetOk prog w) {f : Scope → Stmt → Loc → Sto → XS} {KK : KS} (he : EvalOk prog w B X d n (evalE X call n)) (hf : StmtOk prog w B X d n f) (hsc : env.scope = sc) {R : Result → Shared → Prop} {t : Expr} {b : List Stmt} {I J : Addr}
  (hown : ∀ a ∈ ownAt env, a ∉ [I, J]) (hL : env.locals ∉ [I, J]) (hC : ∀ x c, env.cells.lookup x = some c → c ∉ [I, J]) :
  ∀ (m : Nat) {it : It} {ae : Loc} {σ : Sto} {ρ : Rho} {F : List (Addr × Obj)} {s : Shared}, forA (asgA X call n sc t) (seqA (f sc) b) m it ae σ KK → (∀ k i, it = .enum k i → ∃ es x p, t = .Tuple es x p) → Rd B X d n A sc env F ae ρ σ s → ItR F ρ I J it →
  ForPost B X F ρ s env I J KK (fun rf s' => R (.ok rf) s') → codeAny (model prog w) A (.forLoop t (.ref I) b [] env) R s
 | 0, _, _, _, _, _, _, h, _, _, _, _ => h.elim
 | m + 1, _, _, _, ρ, F, s, h, htt, hR, hI, hQ => by
  refine for_turn (next_ok SO (next_tuple h htt) htt hR.A.ok hR.H hI (fun hd s' hs' hsm => ?_) (fun v it1 σ1 ρ1 rv s1 F1 hh hp1 T1 H1 hI1 hv hs1 => ?_))
  ·exact hQ ρ F s' _ _ _ _ hd (List.prefix_refl _) Turned.refl hR.P (fun _ hF hN => hR.H.drop [I, J] hI.at hF hN hs') rfl hsm
  ·obtain ⟨htt1, _, h3, h7⟩ := hh
   refine asgA_ok XO he h3 hsc ⟨hR.A, hR.S, (hR.P.moved T1 hL hC).mono hp1, H1⟩ hv fun ρ2 F2 s2 ae2 σ2 h5 hp2 T2 P2 H2 hs2 => ?_
   have hI2 := (hI1.mono hp2).of_mem fun p hp hpi => T2.2 p hp fun hq => hown _ hq hpi
   refine seq_ok hf hsc h5 ⟨hR.A, hR.S, P2, H2⟩ fun ρ3 F3 s3 fl rf ae3 σ3 h6 hp3 T3 P3 H3 hfl hs3 => ?_
   have h6 := h7 _ _ _ h6
   have hI3 := (hI2.mono hp3).of_mem fun p hp hpi => T3.2 p hp fun hq => hown _ hq hpi
   have hQ' := hQ.after ((hp1.trans hp2).trans hp3) ((T1.mono fun a ha => List.mem_append_right _ ha).trans ((T2.trans T3).mono fun a ha => List.mem_append_left _ ha)) ((hs1.trans hs2).trans hs3)
   have whole : ∀ F₀ : List (Addr × Obj), (∀ p ∈ F₀, p ∈ F3 ∧ p.1 ∉ [I, J]) → (F₀.map (·.1)).Nodup → HR B F₀ ρ3 σ3 s3.heap := fun _ hF hN => H3.drop [I, J] hI3.at hF hN fun _ _ _ e => e
   cases fl with
   | next => cases hfl; exact for_ok XO SO he hf hsc hown hL hC m h6 htt1 ⟨hR.A, hR.S, P3, H3⟩ hI3 hQ'
   | cont => cases hfl; exact for_ok XO SO he hf hsc hown hL hC m h6 htt1 ⟨hR.A, hR.S, P3, H3⟩ hI3 hQ'
   | brk => cases hfl; exact hQ' ρ3 F3 s3 _ _ _ _ h6 (List.prefix_refl _) Turned.refl P3 whole rfl Same.rfl'
   | ret v => obtain ⟨rv, rfl, hv⟩ := hfl; exact hQ' ρ3 F3 s3 _ _ _ _ h6 (List.prefix_refl _) Turned.refl P3 whole ⟨rv, rfl, hv⟩ Same.rfl'
end
end Mj
namespace Mj
open PySem PySem.W PyProof.Rows PySem.Spec
variable [SetW]
section
variable {prog : Program} {w : World} {A : Around} {E : Value → Shared → Prop} {B : Heap} {K : Frag} {X : Ctx} {F : List (Addr × Obj)} {ρ : Rho} {σ σ' : Sto} {s : Shared} {sc : Scope} {env : Env} {ae : Loc} {d n : Nat}
 {call : Addr → List AV → Sto → XE} {Q : Flow → Shared → Prop}
theorem swaps_no {e : Expr} {t : Option Expr} {line : Nat} {KK : KE} (h : ∀ a b c d, e ≠ .ListComp a b c d) (hv : evalE X call n sc e ae σ KK) : t ≠ none → swapsWith e t line env = pure false := by
 intro ht
 cases n with
 | zero => exact hv.elim
 | succ n => cases e <;> first | rfl | exact hv.elim | exact absurd rfl (h _ _ _ _)
theorem swapped_one {t e : Expr} (h : (isTup e && tsTup [t]) = false) : swappedStores [t] e env = pure none := by
 cases t <;> first | rfl | (cases e <;> first | rfl | cases h)
theorem swapped_two {t t' e : Expr} : swappedStores [t, t'] e env = pure none := by
 cases t <;> first | rfl | (cases e <;> rfl)
theorem asg_each {t : Expr} {ts : List Expr} {v : AV} {KK : Loc → Sto → Prop} (h : asgA X call n sc t v ae σ KK) : assignEach (t :: ts) env = (false, assign t env) :: assignEach ts env := by
 cases t <;> first | rfl | exact h.elim
theorem asg_two {t : Expr} {ts : List Expr} : ∃ m ms, (assignEach (t :: ts) env).map (·.2) = m :: ms := by cases t <;> exact ⟨_, _, rfl⟩
theorem all_two {rv : Value} {t t' : Expr} {v : AV} {KK : Loc → Sto → Prop} {Q : Unit → Shared → Prop} (h0 : asgA X call n sc t v ae σ KK) (h : wpAny (model prog w) A (assign t env rv) (fun _ s1 => wpAny (model prog w) A (assignAll rv ((assignEach [t'] env).map (·.2))) Q E s1) E s) :
  wpAny (model prog w) A (assignAll rv ((assignEach [t, t'] env).map (·.2))) Q E s := by
 rw [asg_each h0, List.map_cons]
 obtain ⟨m, ms, e'⟩ := asg_two (env := env) (t := t') (ts := [])
 rw [e'] at h ⊢
 show wpAny _ A (holding [rv] (assign t env rv) >>= fun _ => assignAll rv (m :: ms)) Q E s
 exact wpAny_bind (wpAny_holding h)
theorem all_one {rv : Value} {t : Expr} {v : AV} {KK : Loc → Sto → Prop} {Q : Unit → Shared → Prop} (h0 : asgA X call n sc t v ae σ KK) (h : wpAny (model prog w) A (assign t env rv) Q E s) : wpAny (model prog w) A (assignAll rv ((assignEach [t] env).map (·.2))) Q E s := by
 rw [asg_each h0]; exact h
theorem asgTwo_ok (XO : XOk B K X) (he : EvalOk prog w B X d n (evalE X call n)) {t t' e : Expr} {pos : Pos} {KK : Loc → Sto → Prop} (h : evalE X call n sc e ae σ fun v σ => asgA X call n sc t v ae σ fun ae σ => asgA X call n sc t' v ae σ fun ae σ => KK ae σ) (hsc : env.scope = sc) (R : Rd B X d n A sc env F ae ρ σ s)
  (hQ : AsgPost B X F ρ s env KK (fun s' => Q .next s')) : wpAny (model prog w) A (exec (.Assign [t, t'] e pos) env) Q E s :=
 wpAny_Assign_stores (he h R fun ρ1 v rv σ1 s1 g1 hv h1 => all_two (Q := fun _ => Q .next) h1 (asgA_ok XO he h1 hsc (R.go g1) hv fun ρ2 F2 s2 ae2 σ2 h2 hp2 T2 P2 H2 hs2 =>
  all_one (Q := fun _ => Q .next) h2 (asgA_ok XO he h2 hsc ⟨R.A, R.S, P2, H2⟩ (hv.mono hp2) (hQ.after (g1.pre.trans hp2) T2 (g1.same.trans hs2))))) rfl swapped_two
theorem asgOne_ok (XO : XOk B K X) (he : EvalOk prog w B X d n (evalE X call n)) {t e : Expr} {pos : Pos} {KK : Loc → Sto → Prop} (ht : (isTup e && tsTup [t]) = false) (h : evalE X call n sc e ae σ fun v σ => asgA X call n sc t v ae σ fun ae σ => KK ae σ) (hsc : env.scope = sc) (R : Rd B X d n A sc env F ae ρ σ s)
  (hs : swapsWithSole [t] e pos.line env = pure false) (hQ : AsgPost B X F ρ s env KK (fun s' => Q .next s')) : wpAny (model prog w) A (exec (.Assign [t] e pos) env) Q E s :=
 wpAny_Assign_stores (he h R fun ρ1 v rv σ1 s1 g1 hv h1 => all_one (Q := fun _ => Q .next) h1 (asgA_ok XO he h1 hsc (R.go g1) hv (hQ.after g1.pre Turned.refl g1.same))) hs (swapped_one ht)
theorem asgComp_ok (SO : SetOk prog w) (he : ∀ m, m < n → EvalOk prog w B X d m (evalE X call m) ∧ GensOk prog w B X d m call) {y : Str} {py p pos : Pos} {elt : Expr} {gs : List Comprehension} {scope : Scope} {KK : Loc → Sto → Prop}
  (h : evalE X call n sc (.ListComp elt gs scope p) ae σ fun v σ => asgA X call n sc (.Name y py) v ae σ fun ae σ => KK ae σ) (hsc : env.scope = sc) (R : Rd B X d n A sc env F ae ρ σ s)
  (hs : swapsWith (.ListComp elt gs scope p) (some (.Name y py)) pos.line env = pure true) (hQ : AsgPost B X F ρ s env KK (fun s' => Q .next s')) : wpAny (model prog w) A (exec (.Assign [.Name y py] (.ListComp elt gs scope p) pos) env) Q E s := by
 rw [exec_Assign_Name_used _ _ _ _ hs]
 cases n with
 | zero => exact h.elim
 | succ n =>
 obtain ⟨heN, hgN⟩ := he n (Nat.lt_succ_self _)
 cases gs with
 | nil => exact h.elim
 | cons g gs =>
 obtain ⟨t, iter, ifs, as⟩ := g
 obtain ⟨hc, h⟩ := wB.out h
 rw [Bool.and_eq_true, Bool.and_eq_true] at hc
 obtain ⟨⟨hok, hns⟩, ha⟩ := hc
 obtain rfl := beq_iff_eq.mp ha
 refine wpAny_bind (wpAny_standAt (wpAny_bind ?_))
 show wpAny _ A (comprehension (.ListComp elt (⟨t, iter, ifs, 0⟩ :: gs) scope p) scope env _ (newList []) false (eval iter env) (some (assign (.Name y py) env)) >>= fun _ => pure ()) _ _ s
 refine wpAny_bind ?_
 refine wpAny_mono (comp_core SO heN hgN (Q := fun _ s' => Q .next s') (KK := fun v σ => asgA X call (n + 1) sc (.Name y py) v ae σ fun ae σ => KK ae σ) hok hns h R.le fun ρ' C oC s' σ' k D es ep hk hp' H' d1 d2 hD hs' => ?_) (fun _ s' hq => wpAny_pure (wpAny_pure hq)) fun _ _ x => x
 obtain ⟨ae4, h11, hk⟩ := wO.out hk
 show wpAny _ A (assign (.Name y py) env (.ref D)) _ _ _
 have P' : FP B ((C, oC) :: F) ρ' X env ae := (R.P.mono hp').sub fun q hq _ => List.mem_cons_of_mem _ hq
 have hnC : ∀ q ∈ F, q.1 ≠ C := fun q hq e => by
  have := H'.fN
  rw [List.map_cons, List.nodup_cons] at this
  have hm := List.mem_map_of_mem (f := (·.1)) hq
  rw [e] at hm; exact this.1 hm
 have hLC : env.locals ≠ C := by obtain ⟨oL, _, _, a, _⟩ := R.P.ns; exact hnC _ a
 have hCC : ∀ x c, env.cells.lookup x = some c → c ≠ C := fun x c e => by obtain ⟨oc, _, a, _⟩ := R.P.cellF x c e; exact hnC _ a
 have hown : ∀ a ∈ ownAt env, a ∉ [C, C] := ownAt_sub (by simp [hLC]) fun x c e => by simp [hCC x c e]
 refine wpAny_assign_Name (asg_ok (hsc.symm ▸ h11) P' H' (show VR ρ' (.ref k) (.ref D) from ⟨D, hD, rfl⟩) fun F1 s1 T1 P1 H1 hs1 => ?_)
 have hCm : (C, oC) ∈ F1 := T1.2 _ (List.mem_cons_self ..) fun q => hown C q (by simp)
 refine ⟨nsFind es, ⟨oC, es, ep, H1.fr _ hCm, d1, d2, fun _ => rfl⟩, fun h' hs'' => ?_⟩
 have hn1 : (([(C, oC)] ++ F).map (·.1)).Nodup := H'.fN
 obtain ⟨D1, D2, D3, D4⟩ := Turned.drop (G := [(C, oC)]) T1 hn1
 refine hQ ρ' (F1.drop 1) { s1 with heap := h' } _ _ hk hp' D1 (P1.sub fun q hq hq' => D4 q hq ?_) ?_ ⟨(hs'.trans hs1).gens, (hs'.trans hs1).os⟩
 ·rcases hq' with hq' | ⟨x, hq'⟩
  ·simp [hq', hLC]
  ·simp [hCC x _ hq']
 ·exact H1.drop [C] (fun a ha => by simp at ha; subst ha; exact ⟨_, hCm⟩) (fun q hq => ⟨(D2 q hq).1, by have := (D2 q hq).2; simpa using this⟩) D3 fun b o hb eb => hs''.extBut b o (by simpa using hb) eb
theorem assign_ok (XO : XOk B K X) (SO : SetOk prog w) (he : EvalOk prog w B X d n (evalE X call n)) (hg : ∀ m, m < n → EvalOk prog w B X d m (evalE X call m) ∧ GensOk prog w B X d m call) {t e : Expr} {pos : Pos} {KK : Loc → Sto → Prop} (ht : (isTup e && tsTup [t]) = false)
  (h : evalE X call n sc e ae σ fun v σ => asgA X call n sc t v ae σ fun ae σ => KK ae σ) (hsc : env.scope = sc) (R : Rd B X d n A sc env F ae ρ σ s) (hQ : AsgPost B X F ρ s env KK (fun s' => Q .next s')) : wpAny (model prog w) A (exec (.Assign [t] e pos) env) Q E s := by
 by_cases hl : ∀ a b c d, e ≠ .ListComp a b c d
 ·exact asgOne_ok XO he ht h hsc R (swaps_no hl h (by intro q; cases q)) hQ
 ·simp only [Classical.not_forall, ne_eq, Classical.not_not] at hl
  obtain ⟨elt, gs, scope, p, rfl⟩ := hl
  cases t with
  | Name y py =>
   have hsw : ∃ b, swapsWithSole [.Name y py] (.ListComp elt gs scope p) pos.line env = pure b := ⟨_, rfl⟩
   obtain ⟨b, hsw⟩ := hsw
   cases b with
   | false => exact asgOne_ok XO he ht h hsc R hsw hQ
   | true => exact asgComp_ok SO hg h hsc R hsw hQ
  | _ => exact asgOne_ok XO he ht h hsc R rfl hQ
end
end Mj
namespace Mj
open PySem PySem.W PyProof.Rows PySem.Spec
variable [SetW]
theorem HR.pushF' {B : Heap} {F : List (Addr × Obj)} {ρ : Rho} {σ : Sto} {h : Heap} (H : HR B F ρ σ h) {a : Addr} {o : Obj} (hna : a ∉ ρ) (hBa : B.get? a = none) (hFa : ∀ p ∈ F, p.1 ≠ a) (ho : h.get? a = some o) : HR B ((a, o) :: F) ρ σ h := by
 refine ⟨H.base, ?_, ?_, ?_, H.len, H.nd, H.obj, H.sepB, ?_⟩
 ·intro p hp; rcases List.mem_cons.mp hp with rfl | hp; exact ho; exact H.fr p hp
 ·intro p hp; rcases List.mem_cons.mp hp with rfl | hp; exact hBa; exact H.fB p hp
 ·rw [List.map_cons, List.nodup_cons]
  refine ⟨fun hm => ?_, H.fN⟩
  obtain ⟨p, hp, e⟩ := List.mem_map.mp hm
  exact hFa p hp e
 ·intro b hb p hp; rcases List.mem_cons.mp hp with rfl | hp; exact fun q => hna (show a ∈ ρ from (show a = b from q) ▸ hb); exact H.sepF b hb p hp
section
variable {prog : Program} {w : World} {A : Around} {E : Value → Shared → Prop} {B : Heap} {K : Frag} {X : Ctx} {F : List (Addr × Obj)} {ρ : Rho} {σ σ' : Sto} {s : Shared} {sc : Scope} {env : Env} {ae : Loc} {d n : Nat}
 {call : Addr → List AV → Sto → XE} {Q : Flow → Shared → Prop}
/-- what the iterator of a for is given -/
noncomputable def ForIn (B : Heap) (F : List (Addr × Obj)) (ρ : Rho) (s : Shared) (t : Expr) (KK : It → Sto → Prop) (Q : Value → Shared → Prop) : Prop :=
 ∀ ρ' I J G s' it σ', KK it σ' → ρ <+: ρ' → G.map (·.1) = (if J = I then [I] else [I, J]) → (∀ p ∈ F, p.1 ≠ I ∧ p.1 ≠ J) → HR B (G ++ F) ρ' σ' s'.heap → ItR (G ++ F) ρ' I J it → (∀ k i, it = .enum k i → ∃ es x p, t = .Tuple es x p) → Same s s' → Q (.ref I) s'
theorem enumFor_ok (he : EvalOk prog w B X d n (evalE X call n)) {Q : Value → Shared → Prop} {t x : Expr} {f : Str} {p1 p2 : Pos} {KK : It → Sto → Prop} (hn : nameA X sc f ae = some (.con (.type "enumerate"))) (htup : isTup t = true) (hst : notStar x = true)
  (h : evalE X call n sc x ae σ fun a σ => wEnumK a σ KK) (R : Rd B X d n A sc env F ae ρ σ s) (hQ : ForIn B F ρ s t KK Q) : wpAny (model prog w) A (eval (.Call (.Name f p1) [x] [] p2) env) (fun x s₁ => wpAny (model prog w) A (pyIter x) Q E s₁) E s := by
 refine wpAny_Call_NameR (name_ok hn R.S R.P R.H fun rf hf => ?_)
 obtain rfl : (Value.type "enumerate") = rf := Eq.symm hf
 refine callWith_ok (f := evalE X call n) (es := [x]) (K := fun vs σ => match vs with
  | [a] => wEnumK a σ KK
  | _ => False) he (plain_of (by rw [List.all_cons, hst]; rfl)) keeps_type h R fun ρ1 vs rs σ1 s1 g1 hrs h1 => ?_
 cases vs with
 | nil => exact h1.elim
 | cons a vs => cases vs with
  | cons => exact h1.elim
  | nil => cases a with
   | ref k =>
    obtain ⟨b, xs, e1, h1⟩ := wLst.out h1
    obtain ⟨r, rfl, hr⟩ := hrs.one
    obtain ⟨l, vs, m, rfl, el', g, rr⟩ := listAt g1.H e1 hr
    refine call_enumerate_list ⟨_, g, rfl, m, rfl⟩ fun h' e1 e2 e3 e4 => wpAny_pyIter_enum e1 ?_
    obtain ⟨oJ, q1, q2, q3⟩ := e2
    have hlt : ∀ p ∈ F, p.1 < s1.heap.objs.size := fun p hp => Heap.lt_size (g1.H.fr p hp)
    have HJ := g1.H.pushF e4 (Nat.le_refl _) q1
    have HI := HJ.pushF' (a := s1.heap.objs.size + 1) (fun hm => Nat.lt_irrefl _ (Nat.lt_of_succ_lt (g1.H.lt hm))) (by
     cases eb : B.get? (s1.heap.objs.size + 1) with
     | none => rfl
     | some o => exact absurd (Nat.lt_of_succ_lt (Heap.lt_size (g1.H.base _ _ eb))) (Nat.lt_irrefl _)) (fun p hp => by
      rcases List.mem_cons.mp hp with rfl | hp
      ·exact Nat.ne_of_lt (Nat.lt_succ_self _)
      ·exact Nat.ne_of_lt (Nat.lt_succ_of_lt (hlt p hp))) e1
    refine hQ ρ1 _ s1.heap.objs.size [_, _] _ _ _ h1 g1.pre (by rw [if_neg (Nat.ne_of_lt (Nat.lt_succ_self _))]; rfl) (fun p hp => ⟨Nat.ne_of_lt (Nat.lt_succ_of_lt (hlt p hp)), Nat.ne_of_lt (hlt p hp)⟩) HI
     ⟨Nat.ne_of_lt (Nat.lt_succ_self _), l, oJ, .none, el', List.mem_cons_of_mem _ (List.mem_cons_self ..), ⟨q2, q3⟩, List.mem_cons_self ..⟩ (fun k i _ => ?_) ⟨g1.same.gens, g1.same.os⟩
    cases t <;> first | exact ⟨_, _, _, rfl⟩ | cases htup
   | _ => exact h1.elim
theorem enumArg_out {e x : Expr} (h : enumArg X sc e ae = some x) : ∃ f p1 p2, e = .Call (.Name f p1) [x] [] p2 ∧ nameA X sc f ae = some (.con (.type "enumerate")) := by
 unfold enumArg at h
 split at h
 ·rename_i f p1 y p2
  split at h
  ·rename_i hn
   cases h
   exact ⟨f, p1, p2, rfl, hn⟩
  ·cases h
 ·cases h
/-- the iterator of a for -/
theorem iterE_ok (SO : SetOk prog w) (he : EvalOk prog w B X d n (evalE X call n)) {Q : Value → Shared → Prop} {t e : Expr} {KK : It → Sto → Prop} (h : wIterE X call n sc t e ae σ KK) (R : Rd B X d n A sc env F ae ρ σ s) (hQ : ForIn B F ρ s t KK Q) :
  wpAny (model prog w) A (eval e env) (fun x s₁ => wpAny (model prog w) A (pyIter x) Q E s₁) E s := by
 unfold wIterE at h
 cases hx : enumArg X sc e ae with
 | some x =>
  rw [hx] at h
  obtain ⟨hc, h3⟩ := wB.out h
  obtain ⟨h1, h2⟩ := Bool.and_eq_true_iff.mp hc
  obtain ⟨f, p1, p2, rfl, hn⟩ := enumArg_out hx
  exact enumFor_ok he hn h1 h2 h3 R hQ
 | none =>
  rw [hx] at h
  refine he (wB.out h).2 R fun ρ1 a ra σ1 s1 g1 ha h1 => iter_ok SO h1.out g1.H ha fun it o s2 h2 hne H2 hI hs2 => ?_
  have hl : ∀ p ∈ F, p.1 ≠ s1.heap.objs.size := fun p hp => Nat.ne_of_lt (Heap.lt_size (g1.H.fr p hp))
  exact hQ ρ1 s1.heap.objs.size s1.heap.objs.size [_] s2 _ _ h2 g1.pre (by rw [if_pos rfl]; rfl) (fun p hp => ⟨hl p hp, hl p hp⟩) H2 hI (fun k i q => absurd q (hne k i)) (g1.same.trans hs2)
theorem iterE_fold {t e : Expr} {KK : It → Sto → Prop} (h : wIterE X call n sc t e ae σ KK) : ∀ x, foldedSetIterable e env x = pure x := by
 unfold wIterE at h
 cases hx : enumArg X sc e ae with
 | some x =>
  obtain ⟨f, p1, p2, rfl, hn⟩ := enumArg_out hx
  exact fun _ => rfl
 | none =>
  rw [hx] at h
  exact noSet_fold (wB.out h).1
end
end Mj
namespace Mj
open PySem PySem.W PyProof.Rows PySem.Spec
variable [SetW]
section
variable {prog : Program} {w : World} {A : Around} {E : Value → Shared → Prop} {B : Heap} {K : Frag} {X : Ctx} {F : List (Addr × Obj)} {ρ : Rho} {σ σ' : Sto} {s : Shared} {sc : Scope} {env : Env} {ae : Loc} {d n : Nat}
 {call : Addr → List AV → Sto → XE} {Q : Flow → Shared → Prop}
theorem wpAny_If' {test : Expr} {body orelse : List Stmt} {pos : Pos} (h : wpAny (model prog w) A (isTrue test env (eval test env)) (fun b s₁ => if b = true then wpAny (model prog w) A (execs body env) Q E s₁ else wpAny (model prog w) A (execs orelse env) Q E s₁) E s) :
  wpAny (model prog w) A (exec (.If test body orelse pos) env) Q E s := by
 rw [exec_If]
 refine wpAny_bind (wpAny_standAt (wpAny_bind (wpAny_mono h (fun b s₁ h₁ => ?_) fun _ _ x => x)))
 cases b <;> exact h₁
theorem augSub_any {o i value : Expr} {tpos pos : Pos} {op : Operator} (hi : ∀ a b c p, i ≠ .Slice a b c p)
  (h : wpAny (model prog w) A (eval o env) (fun ov s₁ => wpAny (model prog w) A (eval i env) (fun iv s₂ => wpAny (model prog w) A (getItem ov iv) (fun old s₃ =>
     wpAny (model prog w) A (eval value env) (fun v s₄ => wpAny (model prog w) A (inplaceOp op old v) (fun new s₅ =>
      wpAny (model prog w) A (setItem ov iv new) (fun _ => Q .next) E s₅) E s₄) E s₃) E s₂) E s₁) E s) :
  wpAny (model prog w) A (exec (.AugAssign (.Subscript o i tpos) op value pos) env) Q E s := by
 refine wpAny_AugAssign_SubscriptAny h fun ov iv new => ?_
 unfold augStore
 cases i <;> first | rfl | exact absurd rfl (hi _ _ _ _)
theorem aug_attr (XO : XOk B K X) (he : EvalOk prog w B X d n (evalE X call n)) {o e : Expr} {name : Str} {op : Operator} {p pos : Pos} {KK : KS} (h : evalE X call n sc o ae σ fun a σ => lGet X a name σ fun u => evalE X call n sc e ae σ fun b σ => wAug op u b σ fun v σ => lSet X a name v σ fun σ => KK .next ae σ)
  (R : Rd B X d n A sc env F ae ρ σ s) (hQ : StPost B X F ρ s env KK Q) : wpAny (model prog w) A (exec (.AugAssign (.Attribute o name p) op e pos) env) Q E s :=
 wpAny_AugAssign_AttributeAny (he h R fun _ _ _ _ _ g1 ha h1 => get_ok XO (KK := fun u σ => evalE X call n sc e ae σ fun b σ => wAug op u b σ fun v σ => lSet X _ name v σ fun σ => KK .next ae σ) h1.out g1.H ha fun _ _ _ _ _ g2 hu h2 => he h2 ((R.go g1).go g2) fun _ _ _ _ _ g3 hb h3 =>
  aug_ok h3 g3.H (hu.mono g3.pre) hb fun _ _ _ _ _ g4 hv h4 => set_ok XO h4.out g4.H (ha.mono ((g2.pre.trans g3.pre).trans g4.pre)) hv fun _ _ _ g5 k =>
   have g := (((g1.trans g2).trans g3).trans g4).trans g5
   hQ _ F _ _ _ _ _ k g.pre Turned.refl (R.P.mono g.pre) g.H rfl g.same)
theorem aug_sub (he : EvalOk prog w B X d n (evalE X call n)) {o i e : Expr} {op : Operator} {p pos : Pos} {KK : KS} (hi : notSl i = true) (h : evalE X call n sc o ae σ fun a σ => evalE X call n sc i ae σ fun j σ => lItem a j σ fun u => evalE X call n sc e ae σ fun b σ =>
     wAug op u b σ fun v σ => lPut a j v σ fun σ => KK .next ae σ) (R : Rd B X d n A sc env F ae ρ σ s) (hQ : StPost B X F ρ s env KK Q) : wpAny (model prog w) A (exec (.AugAssign (.Subscript o i p) op e pos) env) Q E s :=
 augSub_any (fun _ _ _ _ q => by subst q; cases hi) (he h R fun _ _ _ _ _ g1 ha h1 => he h1 (R.go g1) fun _ _ _ _ _ g2 hj h2 => (item_ok (K := fun u σ => evalE X call n sc e ae σ fun b σ => wAug op u b σ fun v σ => lPut _ _ v σ fun σ => KK .next ae σ) h2.out g2.H (ha.mono g2.pre) hj fun _ _ _ _ _ g3 hu h3 =>
  he h3 (((R.go g1).go g2).go g3) fun _ _ _ _ _ g4 hb h4 => aug_ok h4 g4.H (hu.mono g4.pre) hb fun _ _ _ _ _ g5 hv h5 => put_ok h5.out g5.H (ha.mono (((g2.pre.trans g3.pre).trans g4.pre).trans g5.pre)) (hj.mono ((g3.pre.trans g4.pre).trans g5.pre)) hv fun _ _ _ g6 k =>
   have g := ((((g1.trans g2).trans g3).trans g4).trans g5).trans g6
   hQ _ F _ _ _ _ _ k g.pre Turned.refl (R.P.mono g.pre) g.H rfl g.same).2)
theorem forS_ok (XO : XOk B K X) (SO : SetOk prog w) (he : EvalOk prog w B X d n (evalE X call n)) {f : Scope → Stmt → Loc → Sto → XS} (hs : StmtOk prog w B X d n f) {t e : Expr} {b : List Stmt} {pos : Pos} {KK : KS}
  (h : wIterE X call n sc t e ae σ fun it σ => lockF <| forA (asgA X call n sc t) (seqA (f sc) b) X.N it ae σ KK) (hsc : env.scope = sc) (R : Rd B X d n A sc env F ae ρ σ s) (hQ : StPost B X F ρ s env KK Q) : wpAny (model prog w) A (exec (.For t e b [] pos) env) Q E s := by
 refine wpAny_For (iterE_ok SO he h R fun ρ1 I J G s1 it σ1 h2 hp1 hG hne H1 hI hti hs1 => ?_) (iterE_fold h)
 have hL : env.locals ∉ [I, J] := by obtain ⟨oL, _, _, a, _⟩ := R.P.ns; have := hne _ a; simp [this.1, this.2]
 have hC : ∀ x c, env.cells.lookup x = some c → c ∉ [I, J] := fun x c q => by obtain ⟨oc, _, a, _⟩ := R.P.cellF x c q; have := hne _ a; simp [this.1, this.2]
 refine for_ok XO SO he hs hsc (ownAt_sub hL hC) hL hC X.N h2.out hti ⟨R.A, R.S, (R.P.mono hp1).sub fun p hp _ => List.mem_append_right _ hp, H1⟩ hI fun ρ2 F2 s2 fl rf ae2 σ2 k hp2 T2 P2 H2 hfl hs2 => ?_
 obtain ⟨D1, D2, D3, D4⟩ := Turned.drop T2 H1.fN
 have hG1 : ∀ a, a ∈ [I, J] ↔ a ∈ G.map (·.1) := by
  intro a
  rw [hG]
  split
  ·rename_i q; simp [q]
  ·exact Iff.rfl
 refine hQ ρ2 (F2.drop G.length) s2 fl rf _ _ k (hp1.trans hp2) ⟨D1.1, fun p hp hn => D1.2 p hp fun hq => ?_⟩ (P2.sub fun p hp hq => D4 p hp fun hm => ?_) (H2 _ (fun p hp => ⟨(D2 p hp).1, fun hq => (D2 p hp).2 ((hG1 _).mp hq)⟩) D3) hfl (hs1.trans hs2)
 ·rcases List.mem_append.mp hq with hq | hq
  ·exact hn hq
  ·have := hne p hp
   simp [this.1, this.2] at hq
 ·have := (hG1 _).mpr hm
  rcases hq with hq | ⟨x, hq⟩
  ·rw [hq] at this; exact hL this
  ·exact hC x _ hq this
theorem execS_step (XO : XOk B K X) (SO : SetOk prog w) (hx : ∀ m, EvalOk prog w B X d m (evalE X call m) ∧ PartOk prog w B X d m (partE X call m) ∧ TestOk prog w B X d m (testE X call m) ∧ CmpOk prog w B X d m (cmpE X call m) ∧ GensOk prog w B X d m call)
  (hs : StmtOk prog w B X d n (execS X call n)) : StmtOk prog w B X d (n + 1) (execS X call (n + 1)) := by
 intro A E F ρ σ s Q sc env st ae KK h hsc R hQ
 obtain ⟨he, -, ht, -, -⟩ := hx n
 have fin : ∀ {ρ' : Rho} {σ' : Sto} {s' : Shared} {fl : Fl} {rf : Flow}, Go B F ρ s ρ' σ' s' → KK fl ae σ' → FlR ρ' fl rf → Q rf s' := fun g k hf => hQ _ F _ _ _ _ _ k g.pre Turned.refl (R.P.mono g.pre) g.H hf g.same
 have hA : ∀ {KK'}, (∀ ae σ, KK' ae σ → KK .next ae σ) → AsgPost B X F ρ s env KK' (fun s' => Q .next s') := fun hk _ _ _ _ _ k hp T P H hs => hQ _ _ _ _ _ _ _ (hk _ _ k) hp T P H rfl hs
 cases st with
 | Expr e pos => cases e with
  | Call f as ks p =>
   refine wpAny_Expr (he h R.le fun ρ1 v rv σ1 s1 g1 hv h1 => ?_) (by unfold interactive; rw [R.P.kind]; rfl) rfl
   cases v with
   | none => cases hv; exact fin g1 h1 rfl
   | _ => exact h1.elim
  | _ => exact h.elim
 | Pass pos => exact wpAny_Pass (fin (.refl R.H) h rfl)
 | Break pos => exact wpAny_Break (fin (.refl R.H) h rfl)
 | Continue pos => exact wpAny_Continue (fin (.refl R.H) h rfl)
 | Return e pos => cases e with
  | none => exact wpAny_Return_none (fin (.refl R.H) h ⟨_, rfl, rfl⟩)
  | some e => exact wpAny_Return_some (he h R.le fun ρ1 v rv σ1 s1 g1 hv h1 => fin g1 h1 ⟨rv, rfl, hv⟩)
 | Assign ts e pos =>
  obtain ⟨ht, h⟩ := wB.out h
  cases ts with
  | nil => exact h.elim
  | cons t ts => cases ts with
   | nil => exact assign_ok XO SO he (fun m _ => ⟨(hx m).1, (hx m).2.2.2.2⟩) ((Bool.not_eq_true' _).mp ht) h hsc R.le (hA fun _ _ k => k)
   | cons t' ts => cases ts with
    | nil => exact asgTwo_ok XO he h hsc R.le (hA fun _ _ k => k)
    | cons => exact h.elim
 | AugAssign t op e pos => cases t with
  | Name x p =>
   obtain ⟨a, h1, h⟩ := wO.out h
   refine wpAny_AugAssign_Name (load_ok h1 R.S R.P R.H fun ra ha => he h R.le fun ρ1 b rb σ1 s1 g1 hb h2 => aug_ok h2 g1.H (ha.mono g1.pre) hb fun ρ2 v rv σ2 s2 g2 hv h3 => ?_).1
   obtain ⟨ae1, h4, k⟩ := wO.out h3
   have g := g1.trans g2
   exact asg_ok (hsc.symm ▸ h4) (R.P.mono g.pre) g2.H hv fun F4 s4 T4 P4 H4 hs4 => hQ ρ2 F4 s4 _ _ _ _ k g.pre T4 P4 H4 rfl (g.same.trans hs4)
  | Attribute o name p => exact aug_attr XO he h R.le hQ
  | Subscript o ix p => exact aug_sub he (wB.out h).1 (wB.out h).2 R.le hQ
  | _ => exact h.elim
 | If t b o pos =>
  refine wpAny_If' (ht h R.le fun ρ1 c σ1 s1 g1 h1 => ?_)
  cases c with
  | true => exact seq_ok hs hsc (h1.out.1 rfl) (R.le.go g1) (hQ.after g1.pre Turned.refl g1.same)
  | false => exact seq_ok hs hsc (h1.out.2 rfl) (R.le.go g1) (hQ.after g1.pre Turned.refl g1.same)
 | While t b o pos => cases o with
  | nil =>
   have h : lockW (whileA (testE X call n sc t) (seqA (execS X call n sc) b) X.N ae σ KK) := h
   exact wpAny_While (while_ok ht hs hsc X.N h.out R.le hQ)
  | cons => exact h.elim
 | For t e b o pos => cases o with
  | nil => exact forS_ok XO SO he hs h hsc R.le hQ
  | cons => exact h.elim
 | _ => exact h.elim
theorem stmt_ok (XO : XOk B K X) (SO : SetOk prog w) (CO : CallOk prog w B X d call) : ∀ n, StmtOk prog w B X d n (execS X call n)
 | 0 => fun h => h.elim
 | n + 1 => execS_step XO SO (expr_ok XO SO CO) (stmt_ok XO SO CO n)
end
end Mj
namespace Mj
open PySem PySem.W PyProof.Rows PySem.Spec
variable [SetW]
/-- a function of the program, as the heap bears it -/
structure FnOk (B : Heap) (a : Addr) (fn : Fn) : Prop where
 nodup : fn.params.Nodup
 keys : (fn.scope.names.map (·.1)).Nodup
 plain : fn.scope.isCoroutine = false ∧ fn.scope.isGenerator = false ∧ fn.scope.kind = .function ∧ fn.scope.names.lookup ("__classdict__" : Str) = none
 pars : ∀ x ∈ fn.params, fn.scope.names.lookup x = some .local ∨ fn.scope.names.lookup x = some .cell
 nofree : ∀ p ∈ fn.scope.names, p.2 ≠ .free
 obj : ∃ o fd, B.get? a = some o ∧ o.data = .func fd ∧ fd.body = .stmts fn.body ∧ fd.closure = [] ∧ fd.scope = fn.scope ∧ fd.globals = mainGlobals ∧ fd.builtins = builtinsNs ∧ B.CodeRec fd.code fd.qualname ∧
  ∀ (s : Shared) (rs : List Value), (∀ b o, B.get? b = some o → s.heap.get? b = some o) → rs.length ≤ fn.params.length → fn.params.length ≤ rs.length + fn.dflts.length →
   ∃ ds, VRs [] (fn.dflts.drop (rs.length + fn.dflts.length - fn.params.length)) ds ∧ BindsTo s fd ⟨rs, []⟩ (fn.params.zip (rs ++ ds))
theorem cellsFrom_some {x : Str} : ∀ (names : List (Str × NameKind)) (n : Nat) (acc : List (Str × Addr)), ((x, NameKind.cell) ∈ names ∨ ∃ c, acc.lookup x = some c) → ∃ c, (cellsFrom n names acc).lookup x = some c
 | [], n, acc, h => by
  rcases h with h | h
  ·cases h
  ·exact h
 | (name, kind) :: r, n, acc, h => by
  unfold cellsFrom
  split
  ·rename_i hk
   refine cellsFrom_some r _ _ ?_
   rcases h with h | ⟨c, h⟩
   ·rcases List.mem_cons.mp h with e | h
    ·cases e; exact .inr ⟨n, by simp⟩
    ·exact .inl h
   ·by_cases hx : x = name
    ·subst hx; exact .inr ⟨n, by simp⟩
    ·exact .inr ⟨c, by rw [List.lookup_cons, beq_eq_false_iff_ne.mpr hx]; exact h⟩
  ·rename_i hk
   refine cellsFrom_some r _ _ ?_
   rcases h with h | h
   ·rcases List.mem_cons.mp h with e | h
    ·cases e; exact absurd rfl hk
    ·exact .inl h
   ·exact .inr h
theorem cellsFrom_keys : ∀ (names : List (Str × NameKind)) (n : Nat) (acc : List (Str × Addr)), (names.map (·.1)).Nodup → (acc.map (·.1)).Nodup → (∀ x ∈ acc.map (·.1), x ∉ names.map (·.1)) → ((cellsFrom n names acc).map (·.1)).Nodup
 | [], _, _, _, h, _ => h
 | (name, kind) :: r, n, acc, hn, ha, hd => by
  rw [List.map_cons, List.nodup_cons] at hn
  unfold cellsFrom
  split
  ·refine cellsFrom_keys r _ _ hn.2 ?_ ?_
   ·rw [List.map_cons, List.nodup_cons]
    exact ⟨fun hm => hd _ hm (by simp), ha⟩
   ·intro x hx
    rw [List.map_cons] at hx
    rcases List.mem_cons.mp hx with rfl | hx
    ·exact hn.1
    ·exact fun hm => hd x hx (by rw [List.map_cons]; exact List.mem_cons_of_mem _ hm)
  ·exact cellsFrom_keys r _ _ hn.2 ha fun x hx hm => hd x hx (by rw [List.map_cons]; exact List.mem_cons_of_mem _ hm)
theorem lookup_of_nodup : ∀ {l : List (Str × Addr)} {p : Str × Addr}, (l.map (·.1)).Nodup → p ∈ l → l.lookup p.1 = some p.2
 | q :: l, p, hn, hp => by
  rw [List.map_cons, List.nodup_cons] at hn
  rcases List.mem_cons.mp hp with rfl | hp'
  ·obtain ⟨a, b⟩ := p; simp
  ·have hne : p.1 ≠ q.1 := fun e => hn.1 (e ▸ List.mem_map_of_mem hp')
   obtain ⟨a, b⟩ := q
   rw [List.lookup_cons, beq_eq_false_iff_ne.mpr hne]
   exact lookup_of_nodup hn.2 hp'
theorem bindL_none {kindOf : Str → Option NameKind} {x : Str} : ∀ (binds : List (Str × Value)) (m : Str → Option Value), x ∉ binds.map (·.1) → bindL kindOf binds m x = m x
 | [], _, _ => rfl
 | (n, v) :: r, m, h => by
  simp only [List.map_cons, List.mem_cons, not_or] at h
  unfold bindL
  rw [bindL_none r _ h.2]
  split
  ·exact if_neg h.1
  ·rfl
theorem bindC_none {kindOf : Str → Option NameKind} {x : Str} : ∀ (binds : List (Str × Value)) (m : Str → Option Value), x ∉ binds.map (·.1) → bindC kindOf binds m x = m x
 | [], _, _ => rfl
 | (n, v) :: r, m, h => by
  simp only [List.map_cons, List.mem_cons, not_or] at h
  unfold bindC
  rw [bindC_none r _ h.2]
  split
  ·rfl
  ·exact if_neg h.1
theorem bindL_some {kindOf : Str → Option NameKind} {x : Str} {v : Value} (hk : kindOf x = some .local) : ∀ (binds : List (Str × Value)) (m : Str → Option Value), (binds.map (·.1)).Nodup → binds.lookup x = some v → bindL kindOf binds m x = some v
 | [], _, _, h => by cases h
 | (n, u) :: r, m, hn, h => by
  rw [List.map_cons, List.nodup_cons] at hn
  unfold bindL
  by_cases hx : x = n
  ·subst hx
   simp at h; subst h
   rw [bindL_none r _ hn.1, if_pos hk]; exact if_pos rfl
  ·rw [List.lookup_cons, beq_eq_false_iff_ne.mpr hx] at h
   exact bindL_some hk r _ hn.2 h
theorem bindC_some {kindOf : Str → Option NameKind} {x : Str} {v : Value} (hk : kindOf x ≠ some .local) : ∀ (binds : List (Str × Value)) (m : Str → Option Value), (binds.map (·.1)).Nodup → binds.lookup x = some v → bindC kindOf binds m x = some v
 | [], _, _, h => by cases h
 | (n, u) :: r, m, hn, h => by
  rw [List.map_cons, List.nodup_cons] at hn
  unfold bindC
  by_cases hx : x = n
  ·subst hx
   simp at h; subst h
   rw [bindC_none r _ hn.1, if_neg hk]; exact if_pos rfl
  ·rw [List.lookup_cons, beq_eq_false_iff_ne.mpr hx] at h
   exact bindC_some hk r _ hn.2 h
theorem zip_look {ρ : Rho} {x : Str} {v : AV} : ∀ {ps : List Str} {as : List AV} {rs : List Value}, VRs ρ as rs → (ps.zip as).lookup x = some v → ∃ rv, (ps.zip rs).lookup x = some rv ∧ VR ρ v rv := by
 intro ps
 induction ps with
 | nil => intro as rs _ h; cases h
 | cons p ps ih =>
  intro as rs hr h
  cases as with
  | nil => cases h
  | cons a as =>
   cases rs with
   | nil => exact hr.elim
   | cons r rs =>
    rw [List.zip_cons_cons, List.lookup_cons] at h ⊢
    by_cases hx : x = p
    ·subst hx; simp at h ⊢; subst h; exact hr.1
    ·rw [beq_eq_false_iff_ne.mpr hx] at h ⊢
     exact ih hr.2 h
theorem zip_keys : ∀ {ps : List Str} {rs : List Value}, (∀ q ∈ ps.zip rs, q.1 ∈ ps) ∧ (ps.Nodup → ((ps.zip rs).map (·.1)).Nodup) := by
 intro ps
 induction ps with
 | nil => intro rs; exact ⟨fun q h => (by cases h), fun _ => List.nodup_nil⟩
 | cons p ps ih =>
  intro rs
  cases rs with
  | nil => exact ⟨fun q h => (by cases h), fun _ => List.nodup_nil⟩
  | cons r rs =>
   obtain ⟨h1, h2⟩ := ih (rs := rs)
   refine ⟨fun q h => ?_, fun hn => ?_⟩
   ·rcases List.mem_cons.mp h with rfl | h
    ·exact List.mem_cons_self ..
    ·exact List.mem_cons_of_mem _ (h1 q h)
   ·rw [List.nodup_cons] at hn
    rw [List.zip_cons_cons, List.map_cons, List.nodup_cons]
    refine ⟨fun hm => ?_, h2 hn.2⟩
    obtain ⟨q, hq, e⟩ := List.mem_map.mp hm
    exact hn.1 (show p ∈ ps from (show q.1 = p from e) ▸ h1 q hq)
theorem cells_ledger {B : Heap} {ρ : Rho} {σ : Sto} {h : Heap} : ∀ (cs : List (Str × Addr)) {F : List (Addr × Obj)}, HR B F ρ σ h → (cs.Pairwise fun x y => x.2 ≠ y.2) → (∀ p ∈ cs, p.2 ∉ ρ ∧ B.get? p.2 = none ∧ (∀ q ∈ F, q.1 ≠ p.2) ∧ ∃ o, h.get? p.2 = some o) →
  ∃ G : List (Addr × Obj), HR B (G ++ F) ρ σ h ∧ (∀ p ∈ cs, ∃ o, (p.2, o) ∈ G) ∧ ∀ q ∈ G, ∃ p ∈ cs, p.2 = q.1
 | [], F, H, _, _ => ⟨[], H, fun p hp => (by cases hp), fun q hq => (by cases hq)⟩
 | p :: cs, F, H, hp, hc => by
  obtain ⟨h1, h2⟩ := List.pairwise_cons.mp hp
  obtain ⟨G, H', g1, g2⟩ := cells_ledger cs H h2 fun q hq => hc q (List.mem_cons_of_mem _ hq)
  obtain ⟨c1, c2, c3, o, c4⟩ := hc p (List.mem_cons_self ..)
  refine ⟨(p.2, o) :: G, H'.pushF' c1 c2 (fun q hq => ?_) c4, fun q hq => ?_, fun q hq => ?_⟩
  ·rcases List.mem_append.mp hq with hq | hq
   ·obtain ⟨r, hr, e⟩ := g2 q hq
    rw [← e]; exact fun e' => h1 r hr e'.symm
   ·exact c3 q hq
  ·rcases List.mem_cons.mp hq with rfl | hq
   ·exact ⟨o, List.mem_cons_self ..⟩
   ·obtain ⟨o', ho⟩ := g1 q hq; exact ⟨o', List.mem_cons_of_mem _ ho⟩
  ·rcases List.mem_cons.mp hq with rfl | hq
   ·exact ⟨p, List.mem_cons_self .., rfl⟩
   ·obtain ⟨r, hr, e⟩ := g2 q hq; exact ⟨r, List.mem_cons_of_mem _ hr, e⟩
section
variable {prog : Program} {w : World} {A : Around} {E : Value → Shared → Prop} {B : Heap} {K : Frag} {X : Ctx} {F : List (Addr × Obj)} {ρ : Rho} {σ σ' : Sto} {s : Shared} {d : Nat}
theorem callA_ok (XO : XOk B K X) (SO : SetOk prog w) (hlim : B.NoLimit) (hfn : ∀ a fn, X.fn a = some fn → FnOk B a fn) : ∀ d, CallOk prog w B X d (callA X d) := by
 intro d
 induction d with
 | zero => intro f args σ K h; exact h.elim
 | succ d ih =>
  intro f args σ KK h
  obtain ⟨fn, h1, h2⟩ := wO.out h
  obtain ⟨ae, h3, h5⟩ := wO.out h2
  refine ⟨⟨fn, h1⟩, fun {A F ρ s R rs} hA H Gl hr hQ => ?_⟩
  obtain ⟨fnd, fkeys, ⟨p1, p2, p3, p4⟩, fpars, fnf, o, fd, b1, b2, b3, b4, b5, b6, b7, b8, b9⟩ := hfn f fn h1
  unfold bindA at h3
  split at h3
  rotate_left
  ·cases h3
  rename_i hlen
  cases h3
  have hrl := hr.length
  obtain ⟨ds, hds, hbind⟩ := b9 s rs H.base (by lia) (by lia)
  have hr' : VRs ρ (args ++ fn.dflts.drop (args.length + fn.dflts.length - fn.params.length)) (rs ++ ds) := hr.append (by rw [← hrl]; exact hds.mono List.nil_prefix)
  have hlim' := hlim.keeps H.base
  obtain ⟨k1, k2⟩ := zip_keys (ps := fn.params) (rs := rs ++ ds)
  have hkind : ∀ x ∈ fn.params.zip (rs ++ ds), fd.scope.names.lookup x.1 = some .local ∨ (fd.scope.names.lookup x.1 = some .cell ∧ ((cellsFrom (s.heap.objs.size + 1) fd.scope.names []).lookup x.1).isSome = true) := by
   intro x hx
   rw [b5]
   rcases fpars x.1 (k1 x hx) with q | q
   ·exact .inl q
   ·obtain ⟨c, hc⟩ := cellsFrom_some fn.scope.names (s.heap.objs.size + 1) [] (.inl (mem_of_lookup q))
    exact .inr ⟨q, by rw [hc]; rfl⟩
  have hdp := hA.dp
  refine codeAny_call_function (by unfold recursionLimit; lia) (H.base _ _ b1) b2 (b5 ▸ p1) (b5 ▸ p2) b3 (b8.keeps H.base) ?_
  refine hbind _ _ _ _ ?_
  rw [b4]
  refine wpAny_newFunctionEnv_cells (b5 ▸ p3) hkind fun env he s1 x => ⟨hlim'.keeps x.toInCall.keep, codeAny_func ?_⟩
  have e1 : env.scope = fn.scope := by rw [he]; exact b5
  have e2 : env.locals = s.heap.objs.size := by rw [he]; rfl
  have e3 : env.globals = mainGlobals := by rw [he]; exact b6
  have e4 : env.builtins = builtinsNs := by rw [he]; exact b7
  have e5 : env.code = fd.code := by rw [he]; rfl
  have e6 : env.cells = cellsFrom (s.heap.objs.size + 1) fn.scope.names [] := by rw [he, ← b5]; rfl
  clear he
  obtain ⟨oL, es, ep, g1, g2, g3, g4⟩ := x.toInCall.ns
  have hsame : Same s s1 := by obtain ⟨h', tk, e⟩ := x.toInCall.same; rw [e]; exact ⟨rfl, rfl⟩
  have HL : HR B ((env.locals, oL) :: F) ρ σ s1.heap := H.pushF x.toInCall.keep (by rw [e2]; exact Nat.le_refl _) g1
  have big : ∀ n c, (n, c) ∈ env.cells → s.heap.objs.size < c := fun n c hm => e2 ▸ x.above n c hm
  have oldF : ∀ q ∈ F, q.1 < s.heap.objs.size := fun q hq => Heap.lt_size (H.fr q hq)
  /- every listed cell is the one that its name finds -/
  have cellObj : ∀ p ∈ env.cells, ∃ o v₀, s1.heap.get? p.2 = some o ∧ o.data = .cell v₀ := fun p hp => by
   have hl : env.cells.lookup p.1 = some p.2 := lookup_of_nodup (by rw [e6]; exact cellsFrom_keys _ _ _ fkeys List.nodup_nil (by simp)) hp
   obtain ⟨o, q1, q2⟩ := x.cell p.1 p.2 hl
   exact ⟨o, _, q1, q2⟩
  obtain ⟨G, HG, gm, gk⟩ := cells_ledger env.cells HL x.apart fun p hp => by
   have hb := big p.1 p.2 hp
   refine ⟨fun hm => Nat.lt_irrefl _ (Nat.lt_trans hb (H.lt hm)), ?_, fun q hq => ?_, ?_⟩
   ·cases eb : B.get? p.2 with
    | none => rfl
    | some o => exact absurd (Nat.lt_trans hb (Heap.lt_size (H.base _ _ eb))) (Nat.lt_irrefl _)
   ·rcases List.mem_cons.mp hq with rfl | hq
    ·exact Nat.ne_of_lt (e2 ▸ hb)
    ·exact Nat.ne_of_lt (Nat.lt_trans (oldF q hq) hb)
   ·obtain ⟨o, _, h1, _⟩ := cellObj p hp; exact ⟨o, h1⟩
  have inL : (env.locals, oL) ∈ G ++ (env.locals, oL) :: F := List.mem_append_right _ (List.mem_cons_self ..)
  have cellIn : ∀ y c, env.cells.lookup y = some c → ∃ oc, (c, oc) ∈ G ++ (env.locals, oL) :: F ∧ oc.data = .cell (bindC env.kindOf (fn.params.zip (rs ++ ds)) (fun _ => none) y) := by
   intro y c hc
   obtain ⟨oc, hoc⟩ := gm _ (mem_of_lookup hc)
   have hm : (c, oc) ∈ G ++ (env.locals, oL) :: F := List.mem_append_left _ hoc
   obtain ⟨o', h1, h2⟩ := x.cell y c hc
   have := HG.fr _ hm
   rw [show ((c, oc) : Addr × Obj).1 = c from rfl, h1] at this
   cases this
   exact ⟨_, hm, h2⟩
  have P : FP B (G ++ (env.locals, oL) :: F) ρ X env (fn.params.zip (args ++ fn.dflts.drop (args.length + fn.dflts.length - fn.params.length))) := by
   refine ⟨by rw [e1]; exact p3, e3, e4, Gl, ⟨oL, es, ep, inL, g2, g3, fun y v hy hk => ?_⟩, fun y v hy hk => ?_, fun y hk => ?_, fun y c hc => ?_, fun y z c hy hz => ?_, fun y c hc => ?_, ?_, ⟨fd.qualname, e5 ▸ b8⟩⟩
   ·obtain ⟨rv, hrv, hv⟩ := zip_look hr' hy
    exact ⟨rv, (g4 y).trans (bindL_some hk _ _ (k2 fnd) hrv), hv⟩
   ·obtain ⟨rv, hrv, hv⟩ := zip_look hr' hy
    have hcell : env.kindOf y = some .cell := by
     rcases hk with hk | hk
     ·exact hk
     ·have : (y, NameKind.free) ∈ fn.scope.names := mem_of_lookup (e1 ▸ hk)
      exact absurd rfl (fnf _ this)
    obtain ⟨c, hc⟩ := cellsFrom_some fn.scope.names (s.heap.objs.size + 1) [] (.inl (mem_of_lookup (show fn.scope.names.lookup y = some .cell from e1 ▸ hcell)))
    rw [← e6] at hc
    obtain ⟨oc, hm, hd⟩ := cellIn y c hc
    refine ⟨c, oc, rv, hc, hm, ?_, hv⟩
    rw [hd, bindC_some (by rw [hcell]; intro q; cases q) _ _ (k2 fnd) hrv]
   ·obtain ⟨c, hc⟩ := cellsFrom_some fn.scope.names (s.heap.objs.size + 1) [] (.inl (mem_of_lookup (show fn.scope.names.lookup y = some .cell from e1 ▸ hk)))
    exact ⟨c, e6 ▸ hc⟩
   ·obtain ⟨oc, hm, hd⟩ := cellIn y c hc
    exact ⟨oc, _, hm, hd⟩
   ·exact name_of_addr x.apart (mem_of_lookup hy) (mem_of_lookup hz)
   ·exact Nat.ne_of_gt (x.above y c (mem_of_lookup hc))
   ·show env.scope.names.lookup _ = none
    rw [e1]; exact p4
  refine seq_ok (stmt_ok XO SO ih 40) e1 h5 ⟨⟨hA.hd, ?_, ?_⟩, e1 ▸ fun _ => ⟨rfl, Iff.rfl⟩, P, HG⟩ fun ρ' F' s' fl rf ae' σ1 k hp' T' P' H' hfl hs' => ?_
  ·show A.depth + 1 + 2 * d + min 40 1 ≤ 900
   lia
  ·have := hA.un
   show A.units + 3 + 150 * d + 3 * 40 + 100 ≤ 9000
   lia
  ·have HF : HR B F ρ' σ1 s'.heap := by
    refine H'.drop [] (by simp) (fun p hp => ⟨T'.2 p (List.mem_append_right _ (List.mem_cons_of_mem _ hp)) fun hm => ?_, by simp⟩) H.fN fun b o _ e => e
    have hlt := oldF p hp
    rcases List.mem_cons.mp hm with q | hm
    ·exact Nat.lt_irrefl _ (by rw [q, e2] at hlt; exact hlt)
    ·obtain ⟨q, hq, e⟩ := List.mem_filterMap.mp hm
     split at e
     ·have := big q.1 p.1 (mem_of_lookup e)
      exact Nat.lt_irrefl _ (Nat.lt_trans this hlt)
     ·cases e
   have hss := hsame.trans hs'
   cases fl with
   | next => cases hfl; exact hQ ρ' .none .none σ1 s' ⟨hp', HF, hss⟩ rfl k
   | brk => exact k.elim
   | cont => exact k.elim
   | ret u => obtain ⟨rv, rfl, hv⟩ := hfl; exact hQ ρ' u rv σ1 s' ⟨hp', HF, hss⟩ hv k
end
end Mj
namespace Mj
open PySem PySem.W PyProof.Rows PySem.Spec
theorem zip_lookup_get {names : List Str} (hn : names.Nodup) {vs : List Value} : ∀ {i : Nat} {x : Str}, names[i]? = some x → (names.zip vs).lookup x = vs[i]? := by
 induction names generalizing vs with
 | nil => intro i x h; simp at h
 | cons a names ih =>
  intro i x h
  rw [List.nodup_cons] at hn
  cases vs with
  | nil => simp
  | cons v vs =>
   cases i with
   | zero => simp at h; subst h; simp
   | succ i =>
    have h' : names[i]? = some x := by simpa using h
    have hx : x ≠ a := by rintro rfl; exact hn.1 (List.mem_of_getElem? h')
    rw [List.zip_cons_cons, List.lookup_cons, beq_eq_false_iff_ne.mpr hx]
    simpa using ih hn.2 h'
theorem filterMap_of {g : Str → Option (Str × Value)} : ∀ {names : List Str} {vs : List Value}, vs.length = names.length → (∀ (i : Nat) (x : Str), names[i]? = some x → g x = (vs[i]?).map (x, ·)) → names.filterMap g = names.zip vs := by
 intro names
 induction names with
 | nil => intro vs _ _; rfl
 | cons a names ih =>
  intro vs hl hg
  cases vs with
  | nil => simp at hl
  | cons v vs =>
   have h0 := hg 0 a rfl
   rw [List.filterMap_cons, h0]
   simp only [List.getElem?_cons_zero, Option.map_some, List.zip_cons_cons]
   congr 1
   exact ih (by simpa using hl) fun i x h => by simpa using hg (i + 1) x (by simpa using h)
theorem filterMap_zip {names : List Str} (hn : names.Nodup) {vs : List Value} (hl : vs.length = names.length) : (names.filterMap fun n => ((names.zip vs).lookup n).map (n, ·)) = names.zip vs :=
 filterMap_of hl fun i x h => by rw [zip_lookup_get hn h]
noncomputable def slotStep (s : List (Str × Value)) (x : Str × Value) : List (Str × Value) := if (s.lookup x.1).isNone then s ++ [(x.1, x.2)] else s
theorem forIn_slots : ∀ (l slots : List (Str × Value)), (forIn l slots fun x s => if (s.lookup x.1).isNone = true then pure (ForInStep.yield (s ++ [(x.1, x.2)])) else pure (ForInStep.yield s) : Sem (List (Str × Value))) = pure (l.foldl slotStep slots)
 | [], _ => rfl
 | x :: l, slots => by
  rw [List.forIn_cons, List.foldl_cons]
  have := forIn_slots l (slotStep slots x)
  unfold slotStep at this ⊢
  split
  ·rename_i h; rw [if_pos h] at this; exact this
  ·rename_i h; rw [if_neg h] at this; exact this
theorem lookup_append {x : Str} : ∀ {a b : List (Str × Value)}, (a ++ b).lookup x = (a.lookup x).or (b.lookup x)
 | [], b => by simp
 | (n, v) :: a, b => by
  rw [List.cons_append, List.lookup_cons, List.lookup_cons, lookup_append]
  cases x == n <;> simp
theorem lookup_slots {x : Str} : ∀ {l slots : List (Str × Value)}, (l.foldl slotStep slots).lookup x = (slots.lookup x).or (l.lookup x)
 | [], slots => by simp
 | (n, v) :: l, slots => by
  rw [List.foldl_cons, lookup_slots]
  unfold slotStep
  by_cases hx : x = n
  ·subst hx
   cases hs : slots.lookup x <;> simp [hs, lookup_append]
  ·cases hs : slots.lookup n <;> simp [hs, lookup_append, List.lookup_cons, beq_eq_false_iff_ne.mpr hx]
theorem wp_neg {α : Type} {M : Model} {A : Around} {E : Value → Shared → Prop} {Q : α → Shared → Prop} {s : Shared} {c : Prop} [Decidable c] {a b : Sem α} (h : ¬ c) (k : wpAny M A b Q E s) : wpAny M A (if c then a else b) Q E s := by rw [if_neg h]; exact k
theorem wp_slots {M : Model} {A : Around} {E : Value → Shared → Prop} {Q : List (Str × Value) → Shared → Prop} {s : Shared} {l slots : List (Str × Value)} (h : Q (l.foldl slotStep slots) s) : wpAny M A (forIn l slots fun x s => if (s.lookup x.1).isNone = true then pure (ForInStep.yield (s ++ [(x.1, x.2)])) else pure (ForInStep.yield s) : Sem (List (Str × Value))) Q E s := by
 rw [forIn_slots]; exact wpAny_pure h
theorem bindsTo_plain {s : Shared} {fd : FuncData} {names : List Str} {rs ds : List Value} (hp : fd.params.posonlyargs = []) (hk : fd.params.kwonlyargs = []) (hv : fd.params.vararg = none) (hw : fd.params.kwarg = none) (hn : fd.params.args.map (·.arg) = names) (hnd : names.Nodup)
  (hd : ∀ (M : Model) (A : Around) (E : Value → Shared → Prop) (Q : Option (Array Value) → Shared → Prop), (∀ d?, (d?.getD #[]).toList = ds → Q d? s) → wpAny M A (seqItems? fd.defaults) Q E s)
  (h1 : rs.length ≤ names.length) (h2 : names.length ≤ rs.length + ds.length) (h3 : ds.length ≤ names.length) : BindsTo s fd ⟨rs, []⟩ (names.zip (rs ++ ds.drop (rs.length + ds.length - names.length))) := by
 intro M A E Q hQ
 unfold bindArgs
 generalize fd.params = P at *
 cases P
 dsimp only at hp hk hv hw hn
 subst hp hk hv hw
 have hz : ds.length - names.length = 0 := by lia
 have hmiss : (names.take (names.length - ds.length)).filter (fun n => ((names.zip rs).lookup n).isNone) = [] := by
  rw [List.filter_eq_nil_iff]
  intro x hx
  obtain ⟨i, hi, e⟩ := List.getElem_of_mem hx
  have hi' : i < names.length - ds.length := by simp at hi; lia
  have hx' : names[i]? = some x := by
   rw [List.getElem_take] at e
   rw [List.getElem?_eq_getElem (by lia), e]
  rw [zip_lookup_get hnd hx', List.getElem?_eq_getElem (by lia)]
  simp
 have hfin : (names.filterMap fun n => ((((names.drop (names.length - ds.length)).zip ds).foldl slotStep (names.zip rs)).lookup n).map (n, ·)) = names.zip (rs ++ ds.drop (rs.length + ds.length - names.length)) := by
  refine filterMap_of (by simp; lia) fun i x hx => ?_
  rw [lookup_slots, zip_lookup_get hnd hx]
  congr 1
  have hi : i < names.length := (List.getElem?_eq_some_iff.mp hx).1
  by_cases hr : i < rs.length
  ·rw [List.getElem?_append_left hr, List.getElem?_eq_getElem hr]; rfl
  ·have hx2 : (names.drop (names.length - ds.length))[i - (names.length - ds.length)]? = some x := by
    rw [List.getElem?_drop, show names.length - ds.length + (i - (names.length - ds.length)) = i by lia]; exact hx
   rw [zip_lookup_get (hnd.sublist (List.drop_sublist _ _)) hx2, List.getElem?_append_right (by lia), List.getElem?_drop, List.getElem?_eq_none (by lia)]
   simp only [Option.none_or]
   congr 1; lia
 rename_i ar _ _
 have e1 : ([] : List Arg).map (·.arg) ++ ar.map (·.arg) = names := hn
 refine wpAny_bind (wpAny_pure (wpAny_bind (hd M A E _ fun d? hd? => ?_)))
 have e2 : (d?.getD #[]).toList.drop ((d?.getD #[]).toList.length - (([] : List Arg).map (·.arg) ++ ar.map (·.arg)).length) = ds := by rw [e1, hd?, hz, List.drop_zero]
 refine wp_neg ?_ ?_
 ·rw [e1]; simp; lia
 refine wp_neg ?_ ?_
 ·rw [e2, e1]
  show ¬ (!((names.take (names.length - ds.length)).filter fun n => ((names.zip rs).lookup n).isNone).isEmpty) = true
  rw [hmiss]; decide
 refine wpAny_bind (wp_slots ?_)
 refine wpAny_bind (wpAny_pure ?_)
 refine wp_neg (by simp) ?_
 refine wpAny_pure ?_
 rw [e2, e1]
 show Q ((names ++ []).filterMap fun n => ((((names.drop (names.length - ds.length)).zip ds).foldl slotStep (names.zip rs)).lookup n).map (n, ·)) s
 rw [List.append_nil, hfin]
 exact hQ
end Mj
namespace Mj
open PySem PySem.W PyProof.Rows
/-- runs of trees without calls: n steps to a value -/
noncomputable def runF {α : Type} (p : Program) (w : World) (n₀ : Nat) (ann : Option Value) : Nat → Sem α → Shared → Pos → Option (α × Shared × Pos)
 | 0, .pure a, s, q => some (a, s, q)
 | n + 1, .rule _ k, s, q => runF p w n₀ ann n (k ()) s q
 | n + 1, .at q k, s, _ => runF p w n₀ ann n (k ()) s q
 | n + 1, .load a _ k, s, q => match s.heap.get? a with
  | some o => runF p w n₀ ann n (k o) s q
  | none => none
 | n + 1, .update a _ f k, s, q => match (Nat.ble n₀ a || a == mainNs || a == cStatics || ann == some (.ref a)) && (s.heap.get? a).isSome with
  | true => runF p w n₀ ann n (k ()) { s with heap := s.heap.update a f } q
  | false => none
 | n + 1, .alloc o k, s, q => runF p w n₀ ann n (k s.heap.objs.size) { s with heap := s.heap.push o } q
 | n + 1, .point _ k, s, q => runF p w n₀ ann n (k ()) s q
 | n + 1, .fresh k, s, q => runF p w n₀ ann n (k s.toks) { s with toks := s.toks + 1 } q
 | n + 1, .ask k, s, q => runF p w n₀ ann n (k ⟨p, w.params⟩) s q
 | _, _, _, _ => none
section
variable {p : Program} {w : World} {n₀ : Nat} {ann : Option Value} {tb : String → Option Builtin}
theorem runF_zero {α : Type} {x : Sem α} {s : Shared} {q : Pos} {r : α × Shared × Pos} (h : runF p w n₀ ann 0 x s q = some r) : ∃ a, x = .pure a ∧ r = (a, s, q) := by
 cases x <;> first | (cases h; done) | exact ⟨_, rfl, (Option.some.inj h).symm⟩
theorem runF_step {α : Type} {n : Nat} {x : Sem α} {s : Shared} {q : Pos} {r : α × Shared × Pos} (h : runF p w n₀ ann (n + 1) x s q = some r) {P : Sem α → Prop}
  (h1 : ∀ t k, runF p w n₀ ann n (k ()) s q = some r → P (.rule t k)) (h2 : ∀ q' k, runF p w n₀ ann n (k ()) s q' = some r → P (.at q' k))
  (h3 : ∀ a pt k o, s.heap.get? a = some o → runF p w n₀ ann n (k o) s q = some r → P (.load a pt k))
  (h4 : ∀ a pt g k, ((Nat.ble n₀ a || a == mainNs || a == cStatics || ann == some (.ref a)) && (s.heap.get? a).isSome) = true → runF p w n₀ ann n (k ()) { s with heap := s.heap.update a g } q = some r → P (.update a pt g k))
  (h5 : ∀ o k, runF p w n₀ ann n (k s.heap.objs.size) { s with heap := s.heap.push o } q = some r → P (.alloc o k)) (h6 : ∀ l k, runF p w n₀ ann n (k ()) s q = some r → P (.point l k))
  (h7 : ∀ k, runF p w n₀ ann n (k s.toks) { s with toks := s.toks + 1 } q = some r → P (.fresh k)) (h8 : ∀ k, runF p w n₀ ann n (k ⟨p, w.params⟩) s q = some r → P (.ask k)) : P x := by
 cases x <;> try (cases h; done)
 case rule t k => exact h1 t k h
 case «at» q k => exact h2 q k h
 case load b pt k =>
  have h : (match s.heap.get? b with | some o => runF p w n₀ ann n (k o) s q | none => none) = some r := h
  cases ho : s.heap.get? b
  ·rw [ho] at h; cases h
  ·rename_i o
   rw [ho] at h
   exact h3 b pt k o ho h
 case update b pt g k =>
  have h : (match (Nat.ble n₀ b || b == mainNs || b == cStatics || ann == some (.ref b)) && (s.heap.get? b).isSome with | true => runF p w n₀ ann n (k ()) { s with heap := s.heap.update b g } q | false => none) = some r := h
  cases ho : (Nat.ble n₀ b || b == mainNs || b == cStatics || ann == some (.ref b)) && (s.heap.get? b).isSome
  ·rw [ho] at h; cases h
  ·rw [ho] at h
   exact h4 b pt g k ho h
 case alloc o k => exact h5 o k h
 case point l k => exact h6 l k h
 case fresh k => exact h7 k h
 case ask k => exact h8 k h
theorem runF_bind {α β : Type} {f : α → Sem β} {m : Nat} {r : β × Shared × Pos} : ∀ {n : Nat} {x : Sem α} {s s' : Shared} {q q' : Pos} {a : α}, runF p w n₀ ann n x s q = some (a, s', q') → runF p w n₀ ann m (f a) s' q' = some r →
  runF p w n₀ ann (n + m) (x >>= f) s q = some r := by
 intro n
 induction n with
 | zero =>
  intro x s s' q q' a h h'
  obtain ⟨b, rfl, e⟩ := runF_zero h
  cases e
  rw [Nat.zero_add]; exact h'
 | succ n ih =>
  intro x s s' q q' a h h'
  rw [show n + 1 + m = (n + m) + 1 by lia]
  refine runF_step h (P := fun x => runF p w n₀ ann (n + m + 1) (x >>= f) s q = some r) (fun t k h => ih (x := k ()) h h') (fun q k h => ih (x := k ()) h h') (fun b pt k o ho h => ?_) (fun b pt g k ho h => ?_) (fun o k h => ih (x := k s.heap.objs.size) h h') (fun l k h => ih (x := k ()) h h') (fun k h => ih (x := k s.toks) h h') fun k h => ih (x := k ⟨p, w.params⟩) h h'
  ·show (match s.heap.get? b with | some o => runF p w n₀ ann (n + m) ((k o).bind f) s q | none => none) = some r
   rw [ho]; exact ih h h'
  ·show (match (Nat.ble n₀ b || b == mainNs || b == cStatics || ann == some (.ref b)) && (s.heap.get? b).isSome with | true => runF p w n₀ ann (n + m) ((k ()).bind f) { s with heap := s.heap.update b g } q | false => none) = some r
   rw [ho]; exact ih h h'
theorem runF_keep {α : Type} {vs : List Value} : ∀ {n : Nat} {x : Sem α} {s : Shared} {q : Pos} {r : α × Shared × Pos}, runF p w n₀ ann n x s q = some r → runF p w n₀ ann n (x.keep vs) s q = some r := by
 intro n
 induction n with
 | zero =>
  intro x s q r h
  obtain ⟨b, rfl, e⟩ := runF_zero h
  exact h
 | succ n ih =>
  intro x s q r h
  refine runF_step h (P := fun x => runF p w n₀ ann (n + 1) (x.keep vs) s q = some r) (fun t k h => ih (x := k ()) h) (fun q k h => ih (x := k ()) h) (fun b pt k o ho h => ?_) (fun b pt g k ho h => ?_) (fun o k h => ih (x := k s.heap.objs.size) h) (fun l k h => ih (x := k ()) h) (fun k h => ih (x := k s.toks) h) fun k h => ih (x := k ⟨p, w.params⟩) h
  ·show (match s.heap.get? b with | some o => runF p w n₀ ann n ((k o).keep vs) s q | none => none) = some r
   rw [ho]; exact ih h
  ·show (match (Nat.ble n₀ b || b == mainNs || b == cStatics || ann == some (.ref b)) && (s.heap.get? b).isSome with | true => runF p w n₀ ann n ((k ()).keep vs) { s with heap := s.heap.update b g } q | false => none) = some r
   rw [ho]; exact ih h
theorem runF_holding {α : Type} {vs : List Value} {n : Nat} {x : Sem α} {s : Shared} {q : Pos} {r : α × Shared × Pos} (h : runF p w n₀ ann n x s q = some r) : runF p w n₀ ann n (holding vs x) s q = some r := by
 unfold holding
 split
 ·exact h
 ·exact runF_keep h
theorem runF_pure {α : Type} {a : α} {s : Shared} {q : Pos} : runF p w n₀ ann 0 (pure a : Sem α) s q = some (a, s, q) := rfl
end
end Mj
namespace Mj
open PySem PySem.W PyProof.Rows
theorem erase_perm {α : Type} : ∀ {l : List α} {i : Nat} {x : α}, l[i]? = some x → (x :: l.eraseIdx i).Perm l := by
 intro l
 induction l with
 | nil => intro i x h; simp at h
 | cons a l ih =>
  intro i x h
  cases i with
  | zero => simp at h; subst h; exact List.Perm.refl _
  | succ i =>
   have := ih (i := i) (x := x) (by simpa using h)
   rw [List.eraseIdx_cons_succ]
   exact (List.Perm.swap a x _).trans (this.cons a)
theorem pickGo_perm {α : Type} (next : Nat → Nat) : ∀ (fuel k : Nat) (left : List α) (out : Array α), left.length ≤ fuel → (pickOrder.go next fuel k left out).toList.Perm (out.toList ++ left) := by
 intro fuel
 induction fuel with
 | zero =>
  intro k left out h
  have : left = [] := by simpa using h
  subst this
  unfold pickOrder.go
  simp
 | succ fuel ih =>
  intro k left out h
  unfold pickOrder.go
  split
  ·rename_i x hx
   have hi : next k % left.length < left.length := (List.getElem?_eq_some_iff.mp hx).1
   refine (ih (k + 1) _ _ (by rw [List.length_eraseIdx_of_lt hi]; lia)).trans ?_
   rw [Array.toList_push, List.append_assoc]
   exact (List.Perm.append_left _ (erase_perm hx))
  ·rename_i hx
   have : left = [] := by
    cases left with
    | nil => rfl
    | cons a l =>
     rw [List.getElem?_eq_none_iff] at hx
     have := Nat.mod_lt (next k) (show 0 < (a :: l).length by simp)
     lia
   subst this
   simp
theorem pickOrder_perm {α : Type} (next : Nat → Nat) (xs : Array α) : (pickOrder next xs).toList.Perm xs.toList := by
 unfold pickOrder
 simpa using pickGo_perm next xs.size 0 xs.toList #[] (by simp)
end Mj
namespace Mj
open PySem PySem.W PyProof.Rows
section
variable {p : Program} {w : World} {n₀ : Nat} {ann : Option Value} {s : Shared} {q : Pos}
theorem runF_load {a : Addr} {o : Obj} (ho : s.heap.get? a = some o) : runF p w n₀ ann 1 (load a) s q = some (o, s, q) := by
 show (match s.heap.get? a with | some o => runF p w n₀ ann 0 (Sem.pure o) s q | none => none) = _
 rw [ho]; rfl
theorem runF_setState {a : Addr} {o : Obj} {es : Array (Int × Value)} {ep : Nat} {t : SetTable} (ho : s.heap.get? a = some o) (hd : o.data = .set es ep t) (hf : (t.place.size != es.size || decide (t.fill > t.mask)) = false) :
  runF p w n₀ ann 1 (setState a) s q = some ((es, ep, t), s, q) := by
 unfold setState
 refine runF_bind (n := 1) (m := 0) (runF_load ho) ?_
 rw [hd]
 dsimp only
 rw [if_neg (by simpa using hf)]
 rfl
theorem runF_storeSet {a : Addr} {o : Obj} {es es' : Array (Int × Value)} {ep : Nat} {t t' : SetTable} (ho : s.heap.get? a = some o) (hd : o.data = .set es ep t) (hz : es'.size ≤ sizeLine) (hn : Nat.ble n₀ a = true) :
  runF p w n₀ ann 2 (storeSet a es' t') s q = some ((), { s with heap := s.heap.update a (Obj.putSet es' t') }, q) := by
 unfold storeSet
 refine runF_bind (n := 1) (m := 1) (runF_load ho) ?_
 rw [hd]
 dsimp only
 rw [if_neg (by lia)]
 show (match (Nat.ble n₀ a || a == mainNs || a == cStatics || ann == some (.ref a)) && (s.heap.get? a).isSome with | true => runF p w n₀ ann 0 (Sem.pure ()) { s with heap := s.heap.update a (Obj.putSet es' t') } q | false => none) = _
 rw [hn, ho]; rfl
end
end Mj
namespace Mj
open PySem PySem.W PyProof.Rows
section
variable {p : Program} {w : World} {n₀ : Nat} {ann : Option Value} {s : Shared} {q : Pos}
theorem scan_absent {a : Addr} {x : Value} {h : Int} {adding : Bool} : ∀ {l : List (Int × Value)} {i : Nat}, (∀ e ∈ l, (e.1 == h) = false) → setScanFrom a x h adding l i = pure .absent
 | [], _, _ => rfl
 | (h', y) :: l, i, hl => by
  unfold setScanFrom
  have := hl (h', y) (List.mem_cons_self ..)
  dsimp only at this
  rw [this]
  exact scan_absent fun e he => hl e (List.mem_cons_of_mem _ he)
/-- a fresh int goes into a set that is not too full -/
theorem runF_add {a : Addr} {o : Obj} {es es' : Array (Int × Value)} {ep : Nat} {t t' : SetTable} {i h : Int} {tk : Tok} {d : Bool} (ho : s.heap.get? a = some o) (hd : o.data = .set es ep t) (hf : (t.place.size != es.size || decide (t.fill > t.mask)) = false)
  (hs : byScan (.int i tk) es = true) (hne : ∀ e ∈ es.toList, (e.1 == h) = false) (hl : layNew t es h (.int i tk) = (es', t', d, false)) (hfull : (!d && t'.tooFull) = false) (hz : es'.size ≤ sizeLine) (hn : Nat.ble n₀ a = true) :
  runF p w n₀ ann 4 (setAddHashed a (.int i tk) h) s q = some (true, { s with heap := s.heap.update a (Obj.putSet es' t') }, q) := by
 unfold setAddHashed
 refine runF_holding ?_
 unfold setAddHashedIn
 refine runF_bind (n := 1) (m := 3) (runF_setState ho hd hf) ?_
 dsimp only
 rw [if_pos hs]
 unfold setAddByScan setScan
 rw [scan_absent hne, hl]
 dsimp only
 refine runF_bind (n := 3) (m := 0) (a := some true) (s' := { s with heap := s.heap.update a (Obj.putSet es' t') }) (q' := q) ?_ rfl
 refine runF_bind (n := 1) (m := 2) (a := ()) (s' := s) (q' := q) rfl ?_
 refine runF_bind (n := 0) (m := 2) (a := ScanMet.absent) (s' := s) (q' := q) rfl ?_
 dsimp only
 refine runF_bind (n := 0) (m := 2) (a := ()) (s' := s) (q' := q) rfl ?_
 cases hp : t'.plain with
 | true =>
  simp only [if_true]
  refine runF_bind (n := 0) (m := 2) (a := true) (s' := s) (q' := q) rfl ?_
  simp only [if_true]
  refine runF_bind (n := 2) (m := 0) (runF_storeSet ho hd hz hn) ?_
  rw [if_neg (by rw [hfull]; exact Bool.false_ne_true)]
  rfl
 | false =>
  simp only [Bool.false_eq_true, if_false]
  refine runF_bind (n := 0) (m := 2) (a := true) (s' := s) (q' := q) rfl ?_
  simp only [if_true]
  refine runF_bind (n := 2) (m := 0) (runF_storeSet ho hd hz hn) ?_
  rw [if_neg (by rw [hfull]; exact Bool.false_ne_true)]
  rfl
end
end Mj
namespace Mj
open PySem PySem.W PyProof.Rows
noncomputable abbrev SetSt := Array (Int × Value) × SetTable
/-- one fresh int goes in, if all is as it should be -/
noncomputable def lay1 (S : SetSt) (x : Int × Value) : Option SetSt :=
 match x.2 with
 | .int i tk =>
  let r := layNew S.2 S.1 x.1 (.int i tk)
  match !(S.2.place.size != S.1.size || decide (S.2.fill > S.2.mask)) && byScan (.int i tk) S.1 && S.1.toList.all (fun e => !(e.1 == x.1)) && !r.2.2.2 && !(!r.2.2.1 && r.2.1.tooFull) && Nat.ble r.1.size sizeLine with
  | true => some (r.1, r.2.1)
  | false => none
 | _ => none
noncomputable def layAll : List (Int × Value) → SetSt → Option SetSt
 | [], S => some S
 | x :: r, S => (lay1 S x).bind (layAll r)
noncomputable def setObj (cls : Value) (d : Option Addr) (sl : Array (Option Value)) (S : SetSt) (ep : Nat) : Obj := ⟨cls, d, .set S.1 ep S.2, sl⟩
theorem update_push_self (h : Heap) (f : Obj → Obj) (o : Obj) : (h.push o).update h.objs.size f = h.push (f o) := by
 obtain ⟨objs, l⟩ := h
 simp only [Heap.push, Heap.update, Heap.mk.injEq, and_true]
 apply Array.ext
 ·simp
 ·intro i h1 h2
  simp only [Array.getElem_modify, Array.getElem_push]
  have h2' : i < objs.size + 1 := by simpa using h2
  split <;> split <;> first | rfl | lia
section
variable {p : Program} {w : World} {n₀ : Nat} {ann : Option Value} {q : Pos}
theorem runF_lay1 {S S' : SetSt} {x : Int × Value} {h : Heap} {gens : Array GenState} {drawn : Drawn} {toks : Nat} {os : OsState} {cls : Value} {d : Option Addr} {sl : Array (Option Value)} {ep : Nat} (e : lay1 S x = some S')
  (hn : Nat.ble n₀ h.objs.size = true) :
  runF p w n₀ ann 4 (setAddHashed h.objs.size x.2 x.1) ⟨h.push (setObj cls d sl S ep), gens, drawn, toks, os⟩ q = some (true, ⟨h.push (setObj cls d sl S' (ep + 1)), gens, drawn, toks, os⟩, q) := by
 obtain ⟨hh, v⟩ := x
 unfold lay1 at e
 cases v <;> try (cases e; done)
 rename_i i tk
 dsimp only at e
 split at e
 ·rename_i hc
  cases e
  simp only [Bool.and_eq_true, Bool.not_eq_true', List.all_eq_true] at hc
  obtain ⟨⟨⟨⟨⟨c1, c2⟩, c3⟩, c4⟩, c5⟩, c6⟩ := hc
  have := runF_add (p := p) (w := w) (n₀ := n₀) (ann := ann) (q := q) (s := ⟨h.push (setObj cls d sl S ep), gens, drawn, toks, os⟩) (a := h.objs.size) (o := setObj cls d sl S ep) (es := S.1) (ep := ep) (t := S.2)
   (es' := (layNew S.2 S.1 hh (.int i tk)).1) (t' := (layNew S.2 S.1 hh (.int i tk)).2.1) (d := (layNew S.2 S.1 hh (.int i tk)).2.2.1) (i := i) (tk := tk) (h := hh)
   (Heap.get?_push_size _ rfl) rfl c1 c2 c3 (by rw [← c4]) c5 (Nat.le_of_ble_eq_true c6) hn
  rw [this]
  dsimp only
  rw [update_push_self]
  rfl
 ·cases e
/-- the loop that puts elements in, one by one -/
theorem runF_layAll {f : Int × Value → PUnit → Sem (ForInStep PUnit)} {m : Nat} {h : Heap} {gens : Array GenState} {drawn : Drawn} {toks : Nat} {os : OsState} {cls : Value} {d : Option Addr} {sl : Array (Option Value)}
  (hn : Nat.ble n₀ h.objs.size = true)
  (hf : ∀ x u, ∃ g : Bool → Sem (ForInStep PUnit), f x u = (holding [x.2] (setAddHashed h.objs.size x.2 x.1) >>= g) ∧ ∀ b S ep, runF p w n₀ ann m (g b) ⟨h.push (setObj cls d sl S ep), gens, drawn, toks, os⟩ q = some (.yield ⟨⟩, ⟨h.push (setObj cls d sl S ep), gens, drawn, toks, os⟩, q)) :
  ∀ {P : List (Int × Value)} {S S' : SetSt} {ep : Nat}, layAll P S = some S' →
  runF p w n₀ ann ((4 + m) * P.length) (forIn P (⟨⟩ : PUnit) f) ⟨h.push (setObj cls d sl S ep), gens, drawn, toks, os⟩ q = some (⟨⟩, ⟨h.push (setObj cls d sl S' (ep + P.length)), gens, drawn, toks, os⟩, q)
 | [], S, S', ep, e => by cases e; rfl
 | x :: P, S, S', ep, e => by
  unfold layAll at e
  obtain ⟨S1, e1, e2⟩ := Option.bind_eq_some_iff.mp e
  rw [List.forIn_cons]
  obtain ⟨g, e3, e4⟩ := hf x ⟨⟩
  rw [e3]
  rw [show (4 + m) * (x :: P).length = (4 + m) + (4 + m) * P.length by rw [List.length_cons, Nat.mul_succ]; lia]
  refine runF_bind (runF_bind (runF_holding (runF_lay1 e1 hn)) (e4 _ _ _)) ?_
  have := runF_layAll hn hf (P := P) (S := S1) (S' := S') (ep := ep + 1) e2
  rw [show ep + 1 + P.length = ep + (x :: P).length by rw [List.length_cons]; lia] at this
  exact this
end
/-- all orders at once: what is left and the state so far -/
noncomputable abbrev LaySt := List (Int × Value) × SetSt
noncomputable def mapAll {α β : Type} (f : α → Option β) : List α → Option (List β)
 | [] => some []
 | x :: r => match f x, mapAll f r with
  | some y, some ys => some (y :: ys)
  | _, _ => none
noncomputable def layNext1 (t : LaySt) (i : Nat) : Option LaySt := (t.1[i]?).bind fun x => (lay1 t.2 x).map fun S => (t.1.eraseIdx i, S)
noncomputable def dedup {α : Type} [DecidableEq α] : List α → List α
 | [] => []
 | x :: r => if x ∈ dedup r then dedup r else x :: dedup r
noncomputable def layNext (l : List LaySt) : Option (List LaySt) := (mapAll (fun t => mapAll (layNext1 t) (List.range t.1.length)) l).map fun x => dedup x.flatten
noncomputable def layLevels : Nat → List LaySt → Option (List LaySt)
 | 0, l => some l
 | n + 1, l => (layNext l).bind (layLevels n)
theorem mem_dedup {α : Type} [DecidableEq α] {x : α} : ∀ {l : List α}, x ∈ l → x ∈ dedup l
 | y :: r, h => by
  unfold dedup
  split
  ·rename_i hy
   rcases List.mem_cons.mp h with rfl | h
   ·exact hy
   ·exact mem_dedup h
  ·rcases List.mem_cons.mp h with rfl | h
   ·exact List.mem_cons_self ..
   ·exact List.mem_cons_of_mem _ (mem_dedup h)
theorem mapAll_mem {α β : Type} {f : α → Option β} {x : α} : ∀ {l : List α} {l' : List β}, mapAll f l = some l' → x ∈ l → ∃ y ∈ l', f x = some y
 | a :: l, l', h, hx => by
  unfold mapAll at h
  split at h
  ·rename_i y ys hy hys
   cases h
   rcases List.mem_cons.mp hx with rfl | hx
   ·exact ⟨y, List.mem_cons_self .., hy⟩
   ·obtain ⟨z, hz, e⟩ := mapAll_mem hys hx
    exact ⟨z, List.mem_cons_of_mem _ hz, e⟩
  ·cases h
theorem layLevels_mem (next : Nat → Nat) : ∀ (fuel k : Nat) (left : List (Int × Value)) (S : SetSt) (l l' : List LaySt), left.length = fuel → (left, S) ∈ l → layLevels fuel l = some l' →
  ∃ (P : List (Int × Value)) (S' : SetSt), (∀ out, (pickOrder.go next fuel k left out).toList = out.toList ++ P) ∧ P.length = fuel ∧ layAll P S = some S' ∧ ([], S') ∈ l' := by
 intro fuel
 induction fuel with
 | zero =>
  intro k left S l l' hl hm h
  have : left = [] := by simpa using hl
  subst this
  cases h
  exact ⟨[], S, fun out => by unfold pickOrder.go; simp, rfl, rfl, hm⟩
 | succ fuel ih =>
  intro k left S l l' hl hm h
  unfold layLevels at h
  obtain ⟨l1, h1, h2⟩ := Option.bind_eq_some_iff.mp h
  unfold layNext at h1
  obtain ⟨l2, h3, rfl⟩ := Option.map_eq_some_iff.mp h1
  obtain ⟨y, hy, e⟩ := mapAll_mem h3 hm
  have hi : next k % left.length < left.length := Nat.mod_lt _ (by lia)
  obtain ⟨z, hz, e'⟩ := mapAll_mem e (List.mem_range.mpr hi)
  unfold layNext1 at e'
  obtain ⟨x, hx, e''⟩ := Option.bind_eq_some_iff.mp e'
  obtain ⟨S1, e3, rfl⟩ := Option.map_eq_some_iff.mp e''
  dsimp only at hx e3 hz
  obtain ⟨P, S', a, b, c, d⟩ := ih (k + 1) (left.eraseIdx (next k % left.length)) S1 _ l' (by rw [List.length_eraseIdx_of_lt hi]; lia) (mem_dedup (List.mem_flatten.mpr ⟨y, hy, hz⟩)) h2
  refine ⟨x :: P, S', fun out => ?_, by simp [b], ?_, d⟩
  ·unfold pickOrder.go
   rw [hx]
   dsimp only
   rw [a, Array.toList_push, List.append_assoc]
   rfl
  ·unfold layAll
   rw [e3]
   exact c
theorem layLevels_pick (next : Nat → Nat) {xs : Array (Int × Value)} {S : SetSt} {l' : List LaySt} (h : layLevels xs.toList.length [(xs.toList, S)] = some l') :
  ∃ S', (pickOrder next xs).toList.length = xs.size ∧ layAll (pickOrder next xs).toList S = some S' ∧ ([], S') ∈ l' := by
 obtain ⟨P, S', a, b, c, d⟩ := layLevels_mem next xs.toList.length 0 xs.toList S _ l' rfl (List.mem_singleton.mpr rfl) h
 have e : (pickOrder next xs).toList = P := by
  unfold pickOrder
  have := a #[]
  rw [show xs.toList.length = xs.size from rfl] at this
  simpa using this
 exact ⟨S', by rw [e, b]; rfl, by rw [e]; exact c, d⟩
end Mj
namespace Mj
open PySem PySem.W PyProof.Rows
section
variable {p : Program} {w : World} {n₀ : Nat} {ann : Option Value} {tb : String → Option Builtin}
theorem segGo_go {b n : Nat} {s s1 : Shared} {t t1 : Thread} (he : endAt b t = none) (hk : stepOk n₀ ann t = true) (hs : step (denote tb) p w s t = .go s1 t1) : segGo tb p w n₀ ann b (n + 1) s t = segGo tb p w n₀ ann b n s1 t1 := by
 show (match endAt b t with | some _ => none | none => match stepOk n₀ ann t with | false => none | true => match step (denote tb) p w s t with | .go s' t' => segGo tb p w n₀ ann b n s' t' | .halt _ _ => none) = _
 rw [he, hk, hs]
theorem runF_seg {code : Code} {st : List Frame} {b : Nat} (hl : (st.length == b) = false) : ∀ {n : Nat} {x : Sem Fin} {s s' : Shared} {q q' : Pos} {a : Fin},
  runF p w n₀ ann n x s q = some (a, s', q') → segGo tb p w n₀ ann b n s ⟨x, code, q, st⟩ = some (s', ⟨.pure a, code, q', st⟩) := by
 intro n
 induction n with
 | zero =>
  intro x s s' q q' a h
  obtain ⟨b, rfl, e⟩ := runF_zero h
  cases e
  rfl
 | succ n ih =>
  intro x s s' q q' a h
  have ht : ∀ c q, endAt b ⟨c, code, q, st⟩ = none := fun c q => by unfold endAt; rw [hl]
  refine runF_step h (P := fun x => segGo tb p w n₀ ann b (n + 1) s ⟨x, code, q, st⟩ = some (s', ⟨.pure a, code, q', st⟩)) (fun t k h => (segGo_go (ht _ _) rfl rfl).trans (ih (x := k ()) h)) (fun q k h => (segGo_go (ht _ _) rfl rfl).trans (ih (x := k ()) h))
   (fun b' pt k o ho h => (segGo_go (ht _ _) rfl ?_).trans (ih h)) (fun b' pt g k ho h => (segGo_go (t := ⟨Sem.update b' pt g k, code, q, st⟩) (t1 := ⟨k (), code, q, st⟩) (ht _ _) (Bool.and_eq_true_iff.mp ho).1 ?_).trans (ih h)) (fun o k h => (segGo_go (ht _ _) rfl rfl).trans (ih (x := k s.heap.objs.size) h)) (fun l k h => (segGo_go (ht _ _) rfl rfl).trans (ih (x := k ()) h))
   (fun k h => (segGo_go (ht _ _) rfl rfl).trans (ih (x := k s.toks) h)) fun k h => (segGo_go (ht _ _) rfl rfl).trans (ih (x := k ⟨p, w.params⟩) h)
  ·simp only [step]
   rw [ho]
  ·simp only [step]
   rw [if_pos (Bool.and_eq_true_iff.mp ho).2]
theorem runF_ask {s : Shared} {q : Pos} : runF p w n₀ ann 1 ask s q = some (⟨p, w.params⟩, s, q) := rfl
/-- the walk of a set in text mode -/
theorem runF_walk {a : Addr} {others : List Addr} {filled : Option Addr} {o : Obj} {es : Array (Int × Value)} {ep : Nat} {t : SetTable} {s : Shared} {q : Pos} (ht : w.params.followText "set-order" = true)
  (ho : s.heap.get? a = some o) (hd : o.data = .set es ep t) (hf : (t.place.size != es.size || decide (t.fill > t.mask)) = false) :
  runF p w n₀ ann 5 (setWalkUnseen a others filled) s q = some (pickOrder (w.params.setOrder a ep) es, s, q) := by
 unfold setWalkUnseen
 refine runF_bind (n := 1) (m := 4) (runF_setState ho hd hf) ?_
 dsimp only
 refine runF_bind (n := 1) (m := 3) (a := true) (s' := s) (q' := q) (by unfold setsByText; refine runF_bind (n := 1) (m := 0) runF_ask ?_; rw [ht]; rfl) ?_
 rw [Bool.true_or, Bool.true_or, if_pos rfl]
 unfold setWalk
 refine runF_bind (n := 1) (m := 2) (runF_setState ho hd hf) ?_
 dsimp only
 refine runF_bind (n := 1) (m := 1) (a := true) (s' := s) (q' := q) (by unfold setsByText; refine runF_bind (n := 1) (m := 0) runF_ask ?_; rw [ht]; rfl) ?_
 rw [if_pos rfl]
 exact runF_bind (n := 1) (m := 0) runF_ask rfl
/-- one set is merged into another, element by element, in the world's order -/
theorem runF_merge {a : Addr} {each : Sem Unit} {ob : Obj} {eo : Array (Int × Value)} {epo : Nat} {to : SetTable} {h : Heap} {gens : Array GenState} {drawn : Drawn} {toks : Nat} {os : OsState} {q : Pos} {cls : Value} {d : Option Addr} {sl : Array (Option Value)}
  {S S1 S' : SetSt} {ep ep1 kr ke : Nat} (ht : w.params.followText "set-order" = true) (hn : Nat.ble n₀ h.objs.size = true) (hne : (h.objs.size == a) = false)
  (ho : h.get? a = some ob) (hd : ob.data = .set eo epo to) (hf : (to.place.size != eo.size || decide (to.fill > to.mask)) = false) (hemp : eo.isEmpty = false)
  (hroom : runF p w n₀ ann kr (setRoomFor h.objs.size eo.size) ⟨h.push (setObj cls d sl S ep), gens, drawn, toks, os⟩ q = some ((), ⟨h.push (setObj cls d sl S1 ep1), gens, drawn, toks, os⟩, q))
  (hf1 : (S1.2.place.size != S1.1.size || decide (S1.2.fill > S1.2.mask)) = false) (hroad : S1.2.road to = .oneByOne)
  (heach : ∀ S ep, runF p w n₀ ann ke each ⟨h.push (setObj cls d sl S ep), gens, drawn, toks, os⟩ q = some ((), ⟨h.push (setObj cls d sl S ep), gens, drawn, toks, os⟩, q))
  (hlay : layAll (pickOrder (w.params.setOrder a epo) eo).toList S1 = some S') :
  runF p w n₀ ann (1 + (kr + (1 + (5 + (4 + (ke + 1)) * (pickOrder (w.params.setOrder a epo) eo).toList.length)))) (setMerge h.objs.size a each) ⟨h.push (setObj cls d sl S ep), gens, drawn, toks, os⟩ q =
   some ((), ⟨h.push (setObj cls d sl S' (ep1 + (pickOrder (w.params.setOrder a epo) eo).toList.length)), gens, drawn, toks, os⟩, q) := by
 have hget : ∀ S ep, (h.push (setObj cls d sl S ep)).get? a = some ob := fun S ep => Heap.get?_push_of_some _ ho
 have hself : ∀ S ep, (h.push (setObj cls d sl S ep)).get? h.objs.size = some (setObj cls d sl S ep) := fun S ep => Heap.get?_push_size _ rfl
 unfold setMerge
 rw [hne]
 simp only [Bool.false_eq_true, if_false]
 refine runF_bind (runF_setState (hget S ep) hd hf) ?_
 dsimp only
 rw [hemp]
 simp only [Bool.false_eq_true, if_false]
 refine runF_bind hroom ?_
 refine runF_bind (runF_setState (hself S1 ep1) (o := setObj cls d sl S1 ep1) rfl hf1) ?_
 dsimp only
 rw [hroad]
 dsimp only
 refine runF_bind (runF_walk ht (hget S1 ep1) hd hf) ?_
 rw [← Array.forIn_toList]
 rw [show (4 + (ke + 1)) * (pickOrder (w.params.setOrder a epo) eo).toList.length = (4 + (ke + 1)) * (pickOrder (w.params.setOrder a epo) eo).toList.length + 0 by lia]
 refine runF_bind (runF_layAll (m := ke + 1) hn (fun x u => ⟨_, rfl, fun b S ep => ?_⟩) hlay) rfl
 refine runF_bind (heach S ep) ?_
 refine runF_bind (n := 1) (m := 0) (runF_setState (hget S ep) hd hf) ?_
 dsimp only
 rw [show (epo != epo) = false by simp]
 rfl
end
end Mj
namespace Mj
open PySem PySem.W PyProof.Rows
noncomputable def subl {α : Type} : List α → List (List α)
 | [] => [[]]
 | x :: r => subl r ++ (subl r).map (x :: ·)
theorem mem_subl {α : Type} {l L : List α} (h : l.Sublist L) : l ∈ subl L := by
 induction h with
 | slnil => exact List.mem_singleton.mpr rfl
 | cons a _ ih => exact List.mem_append_left _ ih
 | cons_cons a _ ih => exact List.mem_append_right _ (List.mem_map.mpr ⟨_, ih, rfl⟩)
/-- one step of every order, told by what is left and one bit -/
noncomputable def layGood (st : List (Int × Value) → Bool → SetSt) (nb : List (Int × Value) → Bool → Nat → Bool) (b : Bool) (left : List (Int × Value)) : Bool :=
 (List.range left.length).all fun i => match left[i]? with
  | some x => decide (lay1 (st left b) x = some (st (left.eraseIdx i) (nb left b i)))
  | none => false
theorem lay_inv {st : List (Int × Value) → Bool → SetSt} {nb : List (Int × Value) → Bool → Nat → Bool} {L : List (Int × Value)} (h : ∀ b, (subl L).all (layGood st nb b) = true) (next : Nat → Nat) :
  ∀ (fuel k : Nat) (left : List (Int × Value)) (b : Bool), left.length = fuel → left.Sublist L →
   ∃ (P : List (Int × Value)) (b' : Bool), (∀ out, (pickOrder.go next fuel k left out).toList = out.toList ++ P) ∧ P.length = fuel ∧ layAll P (st left b) = some (st [] b') := by
 intro fuel
 induction fuel with
 | zero =>
  intro k left b hl hs
  have : left = [] := by simpa using hl
  subst this
  exact ⟨[], b, fun out => by unfold pickOrder.go; simp, rfl, rfl⟩
 | succ fuel ih =>
  intro k left b hl hs
  have hi : next k % left.length < left.length := Nat.mod_lt _ (by lia)
  have h1 := List.all_eq_true.mp (List.all_eq_true.mp (h b) left (mem_subl hs)) _ (List.mem_range.mpr hi)
  have hx : left[next k % left.length]? = some left[next k % left.length] := List.getElem?_eq_getElem hi
  rw [hx] at h1
  have h2 := of_decide_eq_true h1
  obtain ⟨P, b', a, c, d⟩ := ih (k + 1) (left.eraseIdx (next k % left.length)) (nb left b (next k % left.length)) (by rw [List.length_eraseIdx_of_lt hi]; lia) ((List.eraseIdx_sublist ..).trans hs)
  refine ⟨left[next k % left.length] :: P, b', fun out => ?_, by simp [c], ?_⟩
  ·unfold pickOrder.go
   rw [hx]
   dsimp only
   rw [a, Array.toList_push, List.append_assoc]
   rfl
  ·unfold layAll
   rw [h2]
   exact d
theorem lay_pick {st : List (Int × Value) → Bool → SetSt} {nb : List (Int × Value) → Bool → Nat → Bool} {xs : Array (Int × Value)} (h : ∀ b, (subl xs.toList).all (layGood st nb b) = true) (next : Nat → Nat) (b : Bool) :
  ∃ b', (pickOrder next xs).toList.length = xs.size ∧ layAll (pickOrder next xs).toList (st xs.toList b) = some (st [] b') := by
 obtain ⟨P, b', a, c, d⟩ := lay_inv h next xs.toList.length 0 xs.toList b rfl (List.Sublist.refl _)
 have e : (pickOrder next xs).toList = P := by
  unfold pickOrder
  have := a #[]
  rw [show xs.toList.length = xs.size from rfl] at this
  simpa using this
 exact ⟨b', by rw [e, c]; rfl, by rw [e]; exact d⟩
end Mj
namespace Mj
open PySem PySem.W PyProof.Rows
set_option maxRecDepth 100000
noncomputable def oA11 (P : Params) : Obj :=
{cls := PySem.Value.type "tuple", data := PySem.Data.seq #[] }
noncomputable def oA12 (P : Params) : Obj :=
{cls := PySem.Value.none, data := PySem.Data.fields #[] }
noncomputable def oA13 (P : Params) : Obj :=
{cls := PySem.Value.type "code",
 data :=
  PySem.Data.fields
   #[PySem.Value.str (PySem.Str.ofString "<module>") 182, PySem.Value.str (PySem.Str.ofString "<module>") 183, PySem.Value.str (PySem.Str.ofString "/claim/cut.py") 184, PySem.Value.int 1 0, PySem.Value.int 0 0, PySem.Value.int 0 0, PySem.Value.int 0 0, PySem.Value.int 0 0, PySem.Value.ref 11,
    PySem.Value.bool Bool.false, PySem.Value.int 181 0, PySem.Value.ref 12, PySem.Value.none, PySem.Value.none, PySem.Value.none, PySem.Value.none, PySem.Value.int 185 0, PySem.Value.int 1 0, PySem.Value.str (PySem.Str.ofString "/claim/cut.py") 186] }
noncomputable def oA14 (P : Params) : Obj :=
{cls := PySem.Value.type "frame", slots := #[Option.some (PySem.Value.ref 13), Option.some (PySem.Value.ref 3), Option.some (PySem.Value.ref 3), Option.none, Option.some (PySem.Value.str (PySem.Str.ofString "__main__") 164), Option.none, Option.some (PySem.Value.ref 0)] }
noncomputable def hA (P : Params) (led : Bool) : Heap := ⟨⟨[PySem.W.boot_o_0 P, PySem.W.boot_o_1 P, PySem.W.boot_o_2 P, PySem.W.boot_o_3 P, PySem.W.boot_o_4 P, PySem.W.boot_o_5 P, PySem.W.boot_o_6 P, PySem.W.boot_o_7 P, PySem.W.boot_o_8 P, PySem.W.boot_o_9 P, PySem.W.boot_o_10 P, oA11 P, oA12 P, oA13 P, oA14 P]⟩, { }⟩
noncomputable abbrev sA (P : Params) (led : Bool) (os : OsState) : Shared := ⟨hA P led, ⟨[]⟩, boot_drawn, 187, os⟩
noncomputable def oB3 (P : Params) : Obj :=
{cls := PySem.Value.type "dict",
 data :=
  PySem.Data.dict
   #[{ hash := PySem.PyData.keyHash P (PySem.Str.ofString "__name__"), key := PySem.Value.str (PySem.Str.ofString "__name__") 165, val := PySem.Value.str (PySem.Str.ofString "__main__") 164 },
    {hash := PySem.PyData.keyHash P (PySem.Str.ofString "__doc__"), key := PySem.Value.str (PySem.Str.ofString "__doc__") 166, val := PySem.Value.none },
    {hash := PySem.PyData.keyHash P (PySem.Str.ofString "__package__"), key := PySem.Value.str (PySem.Str.ofString "__package__") 167, val := PySem.Value.none },
    {hash := PySem.PyData.keyHash P (PySem.Str.ofString "__loader__"), key := PySem.Value.str (PySem.Str.ofString "__loader__") 168, val := PySem.Value.builtin "__main__.__loader__#opaque" },
    {hash := PySem.PyData.keyHash P (PySem.Str.ofString "__spec__"), key := PySem.Value.str (PySem.Str.ofString "__spec__") 169, val := PySem.Value.none },
    {hash := PySem.PyData.keyHash P (PySem.Str.ofString "__annotations__"), key := PySem.Value.str (PySem.Str.ofString "__annotations__") 170, val := PySem.Value.ref 6 },
    {hash := PySem.PyData.keyHash P (PySem.Str.ofString "__builtins__"), key := PySem.Value.str (PySem.Str.ofString "__builtins__") 171, val := PySem.Value.ref 4 },
    {hash := PySem.PyData.keyHash P (PySem.Str.ofString "__file__"), key := PySem.Value.str (PySem.Str.ofString "__file__") 173, val := PySem.Value.str (PySem.Str.ofString "/claim/cut.py") 172 },
    {hash := PySem.PyData.keyHash P (PySem.Str.ofString "__cached__"), key := PySem.Value.str (PySem.Str.ofString "__cached__") 174, val := PySem.Value.none },
    {hash := PySem.PyData.keyHash P (PySem.Str.ofString "TERMINAL_INDICES"), key := PySem.Value.str (PySem.Str.ofString "TERMINAL_INDICES") 199, val := PySem.Value.ref 16 },
    {hash := PySem.PyData.keyHash P (PySem.Str.ofString "EAST"), key := PySem.Value.str (PySem.Str.ofString "EAST") 201, val := PySem.Value.int 27 200 },
    {hash := PySem.PyData.keyHash P (PySem.Str.ofString "SOUTH"), key := PySem.Value.str (PySem.Str.ofString "SOUTH") 203, val := PySem.Value.int 28 202 },
    {hash := PySem.PyData.keyHash P (PySem.Str.ofString "WEST"), key := PySem.Value.str (PySem.Str.ofString "WEST") 205, val := PySem.Value.int 29 204 },
    {hash := PySem.PyData.keyHash P (PySem.Str.ofString "NORTH"), key := PySem.Value.str (PySem.Str.ofString "NORTH") 207, val := PySem.Value.int 30 206 },
    {hash := PySem.PyData.keyHash P (PySem.Str.ofString "HAKU"), key := PySem.Value.str (PySem.Str.ofString "HAKU") 209, val := PySem.Value.int 31 208 },
    {hash := PySem.PyData.keyHash P (PySem.Str.ofString "HATSU"), key := PySem.Value.str (PySem.Str.ofString "HATSU") 211, val := PySem.Value.int 32 210 },
    {hash := PySem.PyData.keyHash P (PySem.Str.ofString "CHUN"), key := PySem.Value.str (PySem.Str.ofString "CHUN") 213, val := PySem.Value.int 33 212 },
    {hash := PySem.PyData.keyHash P (PySem.Str.ofString "WINDS"), key := PySem.Value.str (PySem.Str.ofString "WINDS") 218, val := PySem.Value.ref 21 },
    {hash := PySem.PyData.keyHash P (PySem.Str.ofString "DRAGONS"), key := PySem.Value.str (PySem.Str.ofString "DRAGONS") 222, val := PySem.Value.ref 26 }]
   19 }
noncomputable def oB15 (P : Params) : Obj :=
{cls := PySem.Value.type "list", data := PySem.Data.seq #[PySem.Value.int 0 187, PySem.Value.int 8 188, PySem.Value.int 9 189, PySem.Value.int 17 190, PySem.Value.int 18 191, PySem.Value.int 26 192] }
noncomputable def oB16 (led : Bool) : Obj :=
{cls := PySem.Value.type "frozenset",
 data :=
  PySem.Data.set #[(0, PySem.Value.int 0 187), (8, PySem.Value.int 8 188), (9, PySem.Value.int 9 189), (17, PySem.Value.int 17 190), (18, PySem.Value.int 18 191), (26, PySem.Value.int 26 192)] 7
   {mask := 31, place := #[0, 8, 9, 17, 18, 26], dummies := #[], finger := 0, led := led, moves := 1, plain := Bool.true } }
noncomputable def oB17 (P : Params) : Obj :=
{cls := PySem.Value.type "list_iterator", data := PySem.Data.fields #[PySem.Value.none, PySem.Value.int 6 0] }
noncomputable def oB18 (P : Params) : Obj :=
{cls := PySem.Value.type "tuple", data := PySem.Data.seq #[] }
noncomputable def oB19 (P : Params) : Obj :=
{cls := PySem.Value.type "StopIteration", data := PySem.Data.fields #[PySem.Value.ref 18, PySem.Value.none, PySem.Value.none, PySem.Value.none, PySem.Value.bool Bool.false, PySem.Value.none] }
noncomputable def oB20 (P : Params) : Obj :=
{cls := PySem.Value.type "list", data := PySem.Data.seq #[PySem.Value.int 27 200, PySem.Value.int 28 202, PySem.Value.int 29 204, PySem.Value.int 30 206] }
noncomputable def oB21 (led : Bool) : Obj :=
{cls := PySem.Value.type "frozenset",
 data := PySem.Data.set #[(27, PySem.Value.int 27 200), (28, PySem.Value.int 28 202), (29, PySem.Value.int 29 204), (30, PySem.Value.int 30 206)] 4 { mask := 7, place := #[3, 4, 5, 6], dummies := #[], finger := 0, led := led, moves := 0, plain := Bool.true } }
noncomputable def oB22 (P : Params) : Obj :=
{cls := PySem.Value.type "list_iterator", data := PySem.Data.fields #[PySem.Value.none, PySem.Value.int 4 0] }
noncomputable def oB23 (P : Params) : Obj :=
{cls := PySem.Value.type "tuple", data := PySem.Data.seq #[] }
noncomputable def oB24 (P : Params) : Obj :=
{cls := PySem.Value.type "StopIteration", data := PySem.Data.fields #[PySem.Value.ref 23, PySem.Value.none, PySem.Value.none, PySem.Value.none, PySem.Value.bool Bool.false, PySem.Value.none] }
noncomputable def oB25 (P : Params) : Obj :=
{cls := PySem.Value.type "list", data := PySem.Data.seq #[PySem.Value.int 31 208, PySem.Value.int 32 210, PySem.Value.int 33 212] }
noncomputable def oB26 (led : Bool) : Obj :=
{cls := PySem.Value.type "frozenset", data := PySem.Data.set #[(32, PySem.Value.int 32 210), (33, PySem.Value.int 33 212), (31, PySem.Value.int 31 208)] 3 { mask := 7, place := #[0, 1, 7], dummies := #[], finger := 0, led := led, moves := 0, plain := Bool.true } }
noncomputable def oB27 (P : Params) : Obj :=
{cls := PySem.Value.type "list_iterator", data := PySem.Data.fields #[PySem.Value.none, PySem.Value.int 3 0] }
noncomputable def oB28 (P : Params) : Obj :=
{cls := PySem.Value.type "tuple", data := PySem.Data.seq #[] }
noncomputable def oB29 (P : Params) : Obj :=
{cls := PySem.Value.type "StopIteration", data := PySem.Data.fields #[PySem.Value.ref 28, PySem.Value.none, PySem.Value.none, PySem.Value.none, PySem.Value.bool Bool.false, PySem.Value.none] }
noncomputable def hB (P : Params) (led : Bool) : Heap := ⟨⟨[PySem.W.boot_o_0 P, PySem.W.boot_o_1 P, PySem.W.boot_o_2 P, oB3 P, PySem.W.boot_o_4 P, PySem.W.boot_o_5 P, PySem.W.boot_o_6 P, PySem.W.boot_o_7 P, PySem.W.boot_o_8 P, PySem.W.boot_o_9 P, PySem.W.boot_o_10 P, oA11 P, oA12 P, oA13 P, oA14 P, oB15 P, oB16 led, oB17 P, oB18 P, oB19 P, oB20 P, oB21 led, oB22 P, oB23 P, oB24 P, oB25 P, oB26 led, oB27 P, oB28 P, oB29 P]⟩, { }⟩
noncomputable abbrev sB (P : Params) (led : Bool) (os : OsState) : Shared := ⟨hB P led, ⟨[]⟩, boot_drawn, 223, os⟩
noncomputable def oC3 (P : Params) : Obj :=
{cls := PySem.Value.type "dict",
 data :=
  PySem.Data.dict
   #[{ hash := PySem.PyData.keyHash P (PySem.Str.ofString "__name__"), key := PySem.Value.str (PySem.Str.ofString "__name__") 165, val := PySem.Value.str (PySem.Str.ofString "__main__") 164 },
    {hash := PySem.PyData.keyHash P (PySem.Str.ofString "__doc__"), key := PySem.Value.str (PySem.Str.ofString "__doc__") 166, val := PySem.Value.none },
    {hash := PySem.PyData.keyHash P (PySem.Str.ofString "__package__"), key := PySem.Value.str (PySem.Str.ofString "__package__") 167, val := PySem.Value.none },
    {hash := PySem.PyData.keyHash P (PySem.Str.ofString "__loader__"), key := PySem.Value.str (PySem.Str.ofString "__loader__") 168, val := PySem.Value.builtin "__main__.__loader__#opaque" },
    {hash := PySem.PyData.keyHash P (PySem.Str.ofString "__spec__"), key := PySem.Value.str (PySem.Str.ofString "__spec__") 169, val := PySem.Value.none },
    {hash := PySem.PyData.keyHash P (PySem.Str.ofString "__annotations__"), key := PySem.Value.str (PySem.Str.ofString "__annotations__") 170, val := PySem.Value.ref 6 },
    {hash := PySem.PyData.keyHash P (PySem.Str.ofString "__builtins__"), key := PySem.Value.str (PySem.Str.ofString "__builtins__") 171, val := PySem.Value.ref 4 },
    {hash := PySem.PyData.keyHash P (PySem.Str.ofString "__file__"), key := PySem.Value.str (PySem.Str.ofString "__file__") 173, val := PySem.Value.str (PySem.Str.ofString "/claim/cut.py") 172 },
    {hash := PySem.PyData.keyHash P (PySem.Str.ofString "__cached__"), key := PySem.Value.str (PySem.Str.ofString "__cached__") 174, val := PySem.Value.none },
    {hash := PySem.PyData.keyHash P (PySem.Str.ofString "TERMINAL_INDICES"), key := PySem.Value.str (PySem.Str.ofString "TERMINAL_INDICES") 199, val := PySem.Value.ref 16 },
    {hash := PySem.PyData.keyHash P (PySem.Str.ofString "EAST"), key := PySem.Value.str (PySem.Str.ofString "EAST") 201, val := PySem.Value.int 27 200 },
    {hash := PySem.PyData.keyHash P (PySem.Str.ofString "SOUTH"), key := PySem.Value.str (PySem.Str.ofString "SOUTH") 203, val := PySem.Value.int 28 202 },
    {hash := PySem.PyData.keyHash P (PySem.Str.ofString "WEST"), key := PySem.Value.str (PySem.Str.ofString "WEST") 205, val := PySem.Value.int 29 204 },
    {hash := PySem.PyData.keyHash P (PySem.Str.ofString "NORTH"), key := PySem.Value.str (PySem.Str.ofString "NORTH") 207, val := PySem.Value.int 30 206 },
    {hash := PySem.PyData.keyHash P (PySem.Str.ofString "HAKU"), key := PySem.Value.str (PySem.Str.ofString "HAKU") 209, val := PySem.Value.int 31 208 },
    {hash := PySem.PyData.keyHash P (PySem.Str.ofString "HATSU"), key := PySem.Value.str (PySem.Str.ofString "HATSU") 211, val := PySem.Value.int 32 210 },
    {hash := PySem.PyData.keyHash P (PySem.Str.ofString "CHUN"), key := PySem.Value.str (PySem.Str.ofString "CHUN") 213, val := PySem.Value.int 33 212 },
    {hash := PySem.PyData.keyHash P (PySem.Str.ofString "WINDS"), key := PySem.Value.str (PySem.Str.ofString "WINDS") 218, val := PySem.Value.ref 21 },
    {hash := PySem.PyData.keyHash P (PySem.Str.ofString "DRAGONS"), key := PySem.Value.str (PySem.Str.ofString "DRAGONS") 222, val := PySem.Value.ref 26 },
    {hash := PySem.PyData.keyHash P (PySem.Str.ofString "HONOR_INDICES"), key := PySem.Value.str (PySem.Str.ofString "HONOR_INDICES") 223, val := PySem.Value.ref 30 }]
   20 }
noncomputable def oC30 (led : Bool) : Obj :=
{cls := PySem.Value.type "frozenset",
 data :=
  PySem.Data.set #[(32, PySem.Value.int 32 210), (33, PySem.Value.int 33 212), (27, PySem.Value.int 27 200), (28, PySem.Value.int 28 202), (29, PySem.Value.int 29 204), (30, PySem.Value.int 30 206), (31, PySem.Value.int 31 208)] 5
   {mask := 15, place := #[0, 1, 11, 12, 13, 14, 15], dummies := #[], finger := 0, led := led, moves := 1, plain := Bool.true } }
noncomputable def hC (P : Params) (led : Bool) : Heap := ⟨⟨[PySem.W.boot_o_0 P, PySem.W.boot_o_1 P, PySem.W.boot_o_2 P, oC3 P, PySem.W.boot_o_4 P, PySem.W.boot_o_5 P, PySem.W.boot_o_6 P, PySem.W.boot_o_7 P, PySem.W.boot_o_8 P, PySem.W.boot_o_9 P, PySem.W.boot_o_10 P, oA11 P, oA12 P, oA13 P, oA14 P, oB15 P, oB16 led, oB17 P, oB18 P, oB19 P, oB20 P, oB21 led, oB22 P, oB23 P, oB24 P, oB25 P, oB26 led, oB27 P, oB28 P, oB29 P, oC30 led]⟩, { }⟩
noncomputable abbrev sC (P : Params) (led : Bool) (os : OsState) : Shared := ⟨hC P led, ⟨[]⟩, boot_drawn, 224, os⟩
noncomputable def oD3 (P : Params) : Obj :=
{cls := PySem.Value.type "dict",
 data :=
  PySem.Data.dict
   #[{ hash := PySem.PyData.keyHash P (PySem.Str.ofString "__name__"), key := PySem.Value.str (PySem.Str.ofString "__name__") 165, val := PySem.Value.str (PySem.Str.ofString "__main__") 164 },
    {hash := PySem.PyData.keyHash P (PySem.Str.ofString "__doc__"), key := PySem.Value.str (PySem.Str.ofString "__doc__") 166, val := PySem.Value.none },
    {hash := PySem.PyData.keyHash P (PySem.Str.ofString "__package__"), key := PySem.Value.str (PySem.Str.ofString "__package__") 167, val := PySem.Value.none },
    {hash := PySem.PyData.keyHash P (PySem.Str.ofString "__loader__"), key := PySem.Value.str (PySem.Str.ofString "__loader__") 168, val := PySem.Value.builtin "__main__.__loader__#opaque" },
    {hash := PySem.PyData.keyHash P (PySem.Str.ofString "__spec__"), key := PySem.Value.str (PySem.Str.ofString "__spec__") 169, val := PySem.Value.none },
    {hash := PySem.PyData.keyHash P (PySem.Str.ofString "__annotations__"), key := PySem.Value.str (PySem.Str.ofString "__annotations__") 170, val := PySem.Value.ref 6 },
    {hash := PySem.PyData.keyHash P (PySem.Str.ofString "__builtins__"), key := PySem.Value.str (PySem.Str.ofString "__builtins__") 171, val := PySem.Value.ref 4 },
    {hash := PySem.PyData.keyHash P (PySem.Str.ofString "__file__"), key := PySem.Value.str (PySem.Str.ofString "__file__") 173, val := PySem.Value.str (PySem.Str.ofString "/claim/cut.py") 172 },
    {hash := PySem.PyData.keyHash P (PySem.Str.ofString "__cached__"), key := PySem.Value.str (PySem.Str.ofString "__cached__") 174, val := PySem.Value.none },
    {hash := PySem.PyData.keyHash P (PySem.Str.ofString "TERMINAL_INDICES"), key := PySem.Value.str (PySem.Str.ofString "TERMINAL_INDICES") 199, val := PySem.Value.ref 16 },
    {hash := PySem.PyData.keyHash P (PySem.Str.ofString "EAST"), key := PySem.Value.str (PySem.Str.ofString "EAST") 201, val := PySem.Value.int 27 200 },
    {hash := PySem.PyData.keyHash P (PySem.Str.ofString "SOUTH"), key := PySem.Value.str (PySem.Str.ofString "SOUTH") 203, val := PySem.Value.int 28 202 },
    {hash := PySem.PyData.keyHash P (PySem.Str.ofString "WEST"), key := PySem.Value.str (PySem.Str.ofString "WEST") 205, val := PySem.Value.int 29 204 },
    {hash := PySem.PyData.keyHash P (PySem.Str.ofString "NORTH"), key := PySem.Value.str (PySem.Str.ofString "NORTH") 207, val := PySem.Value.int 30 206 },
    {hash := PySem.PyData.keyHash P (PySem.Str.ofString "HAKU"), key := PySem.Value.str (PySem.Str.ofString "HAKU") 209, val := PySem.Value.int 31 208 },
    {hash := PySem.PyData.keyHash P (PySem.Str.ofString "HATSU"), key := PySem.Value.str (PySem.Str.ofString "HATSU") 211, val := PySem.Value.int 32 210 },
    {hash := PySem.PyData.keyHash P (PySem.Str.ofString "CHUN"), key := PySem.Value.str (PySem.Str.ofString "CHUN") 213, val := PySem.Value.int 33 212 },
    {hash := PySem.PyData.keyHash P (PySem.Str.ofString "WINDS"), key := PySem.Value.str (PySem.Str.ofString "WINDS") 218, val := PySem.Value.ref 21 },
    {hash := PySem.PyData.keyHash P (PySem.Str.ofString "DRAGONS"), key := PySem.Value.str (PySem.Str.ofString "DRAGONS") 222, val := PySem.Value.ref 26 },
    {hash := PySem.PyData.keyHash P (PySem.Str.ofString "HONOR_INDICES"), key := PySem.Value.str (PySem.Str.ofString "HONOR_INDICES") 223, val := PySem.Value.ref 30 },
    {hash := PySem.PyData.keyHash P (PySem.Str.ofString "TERMINAL_AND_HONOR_INDICES"), key := PySem.Value.str (PySem.Str.ofString "TERMINAL_AND_HONOR_INDICES") 224, val := PySem.Value.ref 31 }]
   21 }
noncomputable def oD31 (led : Bool) : Obj :=
{cls := PySem.Value.type "frozenset",
 data :=
  PySem.Data.set
   #[(0, PySem.Value.int 0 187), (32, PySem.Value.int 32 210), (33, PySem.Value.int 33 212), (8, PySem.Value.int 8 188), (9, PySem.Value.int 9 189), (17, PySem.Value.int 17 190), (18, PySem.Value.int 18 191), (26, PySem.Value.int 26 192), (27, PySem.Value.int 27 200),
    (28, PySem.Value.int 28 202), (29, PySem.Value.int 29 204), (30, PySem.Value.int 30 206), (31, PySem.Value.int 31 208)]
   10 { mask := 31, place := #[0, 1, 2, 8, 9, 17, 18, 26, 27, 28, 29, 30, 31], dummies := #[], finger := 0, led := led, moves := 2, plain := Bool.true } }
noncomputable def hD (P : Params) (led : Bool) : Heap := ⟨⟨[PySem.W.boot_o_0 P, PySem.W.boot_o_1 P, PySem.W.boot_o_2 P, oD3 P, PySem.W.boot_o_4 P, PySem.W.boot_o_5 P, PySem.W.boot_o_6 P, PySem.W.boot_o_7 P, PySem.W.boot_o_8 P, PySem.W.boot_o_9 P, PySem.W.boot_o_10 P, oA11 P, oA12 P, oA13 P, oA14 P, oB15 P, oB16 led, oB17 P, oB18 P, oB19 P, oB20 P, oB21 led, oB22 P, oB23 P, oB24 P, oB25 P, oB26 led, oB27 P, oB28 P, oB29 P, oC30 led, oD31 led]⟩, { }⟩
noncomputable abbrev sD (P : Params) (led : Bool) (os : OsState) : Shared := ⟨hD P led, ⟨[]⟩, boot_drawn, 225, os⟩
noncomputable abbrev pw : Program := PySem.Challenge.pw_im0120_01
noncomputable abbrev bodyW : List Stmt := pw.main.body
noncomputable def envW : Env := { scope := pw.main.scope, locals := mainNs, globals := mainNs, cells := [], code := .ref 13, frame := some 14 }
noncomputable abbrev codeW : Code := .body bodyW envW
noncomputable abbrev pos0 : Pos := ⟨0, 0, 0, 0⟩
noncomputable abbrev annW : Option Value := some (.ref 6)
end Mj
namespace Mj
open PySem PySem.W PyProof.Rows
set_option maxRecDepth 100000
theorem runPre (w : World) (os : OsState) : topGo treeTable pw w 11 annW 12 ⟨boot_heap w.params, ⟨[]⟩, boot_drawn, boot_toks, os⟩ (topStub pw) = some (sA w.params false os, ⟨denote treeTable codeW, codeW, pos0, [topFrame pos0]⟩) := by kernel_rfl
theorem runBlock (w : World) (os : OsState) : segRun treeTable pw w 11 annW 1 1 (sA w.params false os) (blockOf bodyW envW codeW pos0 [topFrame pos0]) = some (.next, sA w.params false os, codeW, pos0) := by kernel_rfl
end Mj
namespace Mj
open PySem PySem.W PyProof.Rows
set_option maxRecDepth 100000
noncomputable abbrev wRow (w : World) (b c : Bool) : World := (w.withFollow "special-get-raises" b).withFollow "set-order" c
theorem runTen00 (w : World) (os : OsState) : segRun treeTable pw (wRow w false false) 11 annW 1 526 (sA (wRow w false false).params false os) (piecesOf (bodyW.take 10) envW codeW pos0 [topFrame pos0]) = some (.next, sB (wRow w false false).params true os, codeW, ⟨10, 0, 10, 7⟩) := by kernel_rfl
theorem runTen01 (w : World) (os : OsState) : segRun treeTable pw (wRow w false true) 11 annW 1 526 (sA (wRow w false true).params false os) (piecesOf (bodyW.take 10) envW codeW pos0 [topFrame pos0]) = some (.next, sB (wRow w false true).params false os, codeW, ⟨10, 0, 10, 7⟩) := by kernel_rfl
theorem runTen10 (w : World) (os : OsState) : segRun treeTable pw (wRow w true false) 11 annW 1 526 (sA (wRow w true false).params false os) (piecesOf (bodyW.take 10) envW codeW pos0 [topFrame pos0]) = some (.next, sB (wRow w true false).params true os, codeW, ⟨10, 0, 10, 7⟩) := by kernel_rfl
theorem runTen11 (w : World) (os : OsState) : segRun treeTable pw (wRow w true true) 11 annW 1 526 (sA (wRow w true true).params false os) (piecesOf (bodyW.take 10) envW codeW pos0 [topFrame pos0]) = some (.next, sB (wRow w true true).params false os, codeW, ⟨10, 0, 10, 7⟩) := by kernel_rfl
end Mj
namespace Mj
open PySem PySem.W PyProof.Rows
set_option maxRecDepth 100000
noncomputable abbrev pos10 : Pos := ⟨10, 0, 10, 7⟩
noncomputable abbrev pos11 : Pos := ⟨11, 0, 11, 13⟩
noncomputable abbrev pos12 : Pos := ⟨12, 0, 12, 26⟩
theorem runHonR (w : World) (os : OsState) : segRun treeTable pw (w.withFollow "set-order" false) 11 annW 1 100 (sB (w.withFollow "set-order" false).params true os) (piecesOf ((bodyW.drop 10).take 1) envW codeW pos10 [topFrame pos0]) = some (.next, sC (w.withFollow "set-order" false).params true os, codeW, pos11) := by kernel_rfl
theorem runTahR (w : World) (os : OsState) : segRun treeTable pw (w.withFollow "set-order" false) 11 annW 1 100 (sC (w.withFollow "set-order" false).params true os) (piecesOf ((bodyW.drop 11).take 1) envW codeW pos11 [topFrame pos0]) = some (.next, sD (w.withFollow "set-order" false).params true os, codeW, pos12) := by kernel_rfl
end Mj
namespace Mj
open PySem PySem.W PyProof.Rows
set_option maxRecDepth 100000
set_option maxHeartbeats 0
noncomputable abbrev wT (w : World) : World := w.withFollow "set-order" true
noncomputable def esW : Array (Int × Value) := #[(27, .int 27 200), (28, .int 28 202), (29, .int 29 204), (30, .int 30 206)]
noncomputable def tW : SetTable := { mask := 7, place := #[3, 4, 5, 6], dummies := #[], finger := 0, led := false, moves := 0, plain := true }
noncomputable def tW1 : SetTable := { mask := 15, place := #[11, 12, 13, 14], dummies := #[], finger := 0, led := false, moves := 1, plain := true }
noncomputable def esD : Array (Int × Value) := #[(32, .int 32 210), (33, .int 33 212), (31, .int 31 208)]
noncomputable def tD : SetTable := { mask := 7, place := #[0, 1, 7], dummies := #[], finger := 0, led := false, moves := 0, plain := true }
noncomputable def esH : Array (Int × Value) := #[(32, .int 32 210), (33, .int 33 212), (27, .int 27 200), (28, .int 28 202), (29, .int 29 204), (30, .int 30 206), (31, .int 31 208)]
noncomputable def tH : SetTable := { mask := 15, place := #[0, 1, 11, 12, 13, 14, 15], dummies := #[], finger := 0, led := false, moves := 1, plain := true }
noncomputable def esT : Array (Int × Value) := #[(0, .int 0 187), (8, .int 8 188), (9, .int 9 189), (17, .int 17 190), (18, .int 18 191), (26, .int 26 192)]
noncomputable def tT (m : Nat) : SetTable := { mask := 31, place := #[0, 8, 9, 17, 18, 26], dummies := #[], finger := 0, led := false, moves := m, plain := true }
noncomputable def esA (bit : Bool) : Array (Int × Value) := #[(0, .int 0 187), (if bit then (33, .int 33 212) else (32, .int 32 210)), (if bit then (32, .int 32 210) else (33, .int 33 212)), (8, .int 8 188), (9, .int 9 189), (17, .int 17 190), (18, .int 18 191), (26, .int 26 192),
 (27, .int 27 200), (28, .int 28 202), (29, .int 29 204), (30, .int 30 206), (31, .int 31 208)]
noncomputable def tA : SetTable := { mask := 31, place := #[0, 1, 2, 8, 9, 17, 18, 26, 27, 28, 29, 30, 31], dummies := #[], finger := 0, led := false, moves := 2, plain := true }
noncomputable abbrev fz (es : Array (Int × Value)) (t : SetTable) (ep : Nat) : Obj := setObj (.type "frozenset") none #[] (es, t) ep
theorem levH : layLevels 3 [(esD.toList, (esW, tW1))] = some [([], (esH, tH))] := by kernel_rfl
noncomputable def inA (left : List (Int × Value)) (h : Int) : Bool := !left.any (fun e => e.1 == h)
noncomputable def stA (left : List (Int × Value)) (bit : Bool) : SetSt :=
 (⟨(esA bit).toList.filter fun e => inA left e.1⟩,
  {tA with place := ⟨0 :: (match inA left 32, inA left 33 with | true, true => [1, 2] | false, false => [] | _, _ => [1]) ++ [8, 9, 17, 18, 26] ++ ([(27, 27), (28, 28), (29, 29), (30, 30), (31, 31)].filter fun e : Int × Nat => inA left e.1).map (·.2)⟩ })
noncomputable def nbA (left : List (Int × Value)) (bit : Bool) (i : Nat) : Bool := match left[i]? with
 | some (32, _) => if inA left 33 then true else bit
 | some (33, _) => if inA left 32 then false else bit
 | _ => bit
theorem levA0 : (subl esH.toList).all (layGood stA nbA false) = true := by kernel_rfl
theorem levA1 : (subl esH.toList).all (layGood stA nbA true) = true := by kernel_rfl
end Mj
namespace Mj
open PySem PySem.W PyProof.Rows
set_option maxRecDepth 100000
open PySem.Builtin.Frozenset in
theorem runOrHon (w : World) (os : OsState) (q : Pos) : runF pw (wT w) 11 annW 44 (Builtin.«frozenset.__or__» ⟨[.ref 21, .ref 26], []⟩) (sB (wT w).params false os) q =
  some (.done (.ret (.ref 30)), ⟨(hB (wT w).params false).push (fz esH tH 5), ⟨[]⟩, boot_drawn, 223, os⟩, q) := by
 have hx : ∀ next, ∃ S', (pickOrder next esD).toList.length = 3 ∧ layAll (pickOrder next esD).toList (esW, tW1) = some S' ∧ ([], S') ∈ [(([] : List (Int × Value)), ((esH, tH) : SetSt))] := fun next => layLevels_pick next levH
 obtain ⟨S', h1, h2, h3⟩ := hx ((wT w).params.setOrder 26 3)
 have h3 : S' = (esH, tH) := by simpa using h3
 subst h3
 refine runF_bind (n := 0) (m := 44) (x := slot1 _ _) (a := (.ref 21, .ref 26)) (s' := sB (wT w).params false os) (q' := q) (by kernel_rfl) ?_
 refine runF_bind (n := 4) (m := 40) (a := true) (s' := sB (wT w).params false os) (q' := q) (by kernel_rfl) ?_
 refine runF_bind (n := 0) (m := 40) (a := 21) (s' := sB (wT w).params false os) (q' := q) (by kernel_rfl) ?_
 refine runF_bind (n := 40) (m := 0) (a := .ref 30) (s' := ⟨(hB (wT w).params false).push (fz esH tH 5), ⟨[]⟩, boot_drawn, 223, os⟩) (q' := q) ?_ rfl
 refine runF_bind (n := 8) (m := 32) (x := copyOf _) (a := .ref 30) (s' := ⟨(hB (wT w).params false).push (fz esW tW 1), ⟨[]⟩, boot_drawn, 223, os⟩) (q' := q) (by kernel_rfl) ?_
 refine runF_bind (n := 0) (m := 32) (x := addrOf _) (a := 30) (s' := ⟨(hB (wT w).params false).push (fz esW tW 1), ⟨[]⟩, boot_drawn, 223, os⟩) (q' := q) (by kernel_rfl) ?_
 refine runF_bind (n := 32) (m := 0) (x := holding _ (updateFrom _ _ _)) (a := ()) (s' := ⟨(hB (wT w).params false).push (fz esH tH 5), ⟨[]⟩, boot_drawn, 223, os⟩) (q' := q) ?_ rfl
 refine runF_holding ?_
 unfold updateFrom
 refine runF_bind (n := 2) (m := 30) (x := isAnySet _) (a := true) (s' := ⟨(hB (wT w).params false).push (fz esW tW 1), ⟨[]⟩, boot_drawn, 223, os⟩) (q' := q) (by kernel_rfl) ?_
 rw [if_pos rfl]
 refine runF_bind (n := 0) (m := 30) (x := addrOf _) (a := 26) (s' := ⟨(hB (wT w).params false).push (fz esW tW 1), ⟨[]⟩, boot_drawn, 223, os⟩) (q' := q) (by kernel_rfl) ?_
 unfold merge
 refine runF_bind (n := 1) (m := 29) (x := setEpoch _) (a := 3) (s' := ⟨(hB (wT w).params false).push (fz esW tW 1), ⟨[]⟩, boot_drawn, 223, os⟩) (q' := q) (by kernel_rfl) ?_
 have := runF_merge (p := pw) (w := wT w) (n₀ := 11) (ann := annW) (a := 26) (each := unchanged "frozenset.__or__" 26 3) (ob := oB26 false) (eo := esD) (epo := 3) (to := tD) (h := hB (wT w).params false) (gens := ⟨[]⟩) (drawn := boot_drawn) (toks := 223) (os := os) (q := q)
  (cls := .type "frozenset") (d := none) (sl := #[]) (S := (esW, tW)) (S1 := (esW, tW1)) (S' := (esH, tH)) (ep := 1) (ep1 := 2) (kr := 4) (ke := 1) (by kernel_rfl) (by kernel_rfl) (by kernel_rfl) (by kernel_rfl) (by kernel_rfl) (by kernel_rfl) (by kernel_rfl)
  (by kernel_rfl) (by kernel_rfl) (by kernel_rfl) (fun S ep => by kernel_rfl) h2
 rw [h1] at this
 exact this
noncomputable def esT1 : Array (Int × Value) := #[(0, .int 0 187), (17, .int 17 190), (18, .int 18 191), (8, .int 8 188), (9, .int 9 189), (26, .int 26 192)]
noncomputable def tT1 : SetTable := { mask := 15, place := #[0, 1, 2, 8, 9, 10], dummies := #[], finger := 0, led := false, moves := 1, plain := true }
open PySem.Builtin.Frozenset in
theorem runOrTah (w : World) (os : OsState) (q : Pos) : ∃ b, runF pw (wT w) 11 annW 71 (Builtin.«frozenset.__or__» ⟨[.ref 16, .ref 30], []⟩) (sC (wT w).params false os) q =
  some (.done (.ret (.ref 31)), ⟨(hC (wT w).params false).push (fz (esA b) tA 10), ⟨[]⟩, boot_drawn, 224, os⟩, q) := by
 have hx : ∀ next, ∃ b', (pickOrder next esH).toList.length = 7 ∧ layAll (pickOrder next esH).toList (esT, tT 2) = some (stA [] b') := fun next => lay_pick (st := stA) (nb := nbA) (xs := esH) (fun b => by cases b; exact levA0; exact levA1) next false
 obtain ⟨b, h1, h2⟩ := hx ((wT w).params.setOrder 30 5)
 have hst : stA [] b = (esA b, tA) := by cases b <;> kernel_rfl
 rw [hst] at h2
 refine ⟨b, ?_⟩
 refine runF_bind (n := 0) (m := 71) (x := slot1 _ _) (a := (.ref 16, .ref 30)) (s' := sC (wT w).params false os) (q' := q) (by kernel_rfl) ?_
 refine runF_bind (n := 4) (m := 67) (a := true) (s' := sC (wT w).params false os) (q' := q) (by kernel_rfl) ?_
 refine runF_bind (n := 0) (m := 67) (a := 16) (s' := sC (wT w).params false os) (q' := q) (by kernel_rfl) ?_
 refine runF_bind (n := 67) (m := 0) (a := .ref 31) (s' := ⟨(hC (wT w).params false).push (fz (esA b) tA 10), ⟨[]⟩, boot_drawn, 224, os⟩) (q' := q) ?_ rfl
 refine runF_bind (n := 11) (m := 56) (x := copyOf _) (a := .ref 31) (s' := ⟨(hC (wT w).params false).push (fz esT1 tT1 2), ⟨[]⟩, boot_drawn, 224, os⟩) (q' := q) (by kernel_rfl) ?_
 refine runF_bind (n := 0) (m := 56) (x := addrOf _) (a := 31) (s' := ⟨(hC (wT w).params false).push (fz esT1 tT1 2), ⟨[]⟩, boot_drawn, 224, os⟩) (q' := q) (by kernel_rfl) ?_
 refine runF_bind (n := 56) (m := 0) (x := holding _ (updateFrom _ _ _)) (a := ()) (s' := ⟨(hC (wT w).params false).push (fz (esA b) tA 10), ⟨[]⟩, boot_drawn, 224, os⟩) (q' := q) ?_ rfl
 refine runF_holding ?_
 unfold updateFrom
 refine runF_bind (n := 2) (m := 54) (x := isAnySet _) (a := true) (s' := ⟨(hC (wT w).params false).push (fz esT1 tT1 2), ⟨[]⟩, boot_drawn, 224, os⟩) (q' := q) (by kernel_rfl) ?_
 rw [if_pos rfl]
 refine runF_bind (n := 0) (m := 54) (x := addrOf _) (a := 30) (s' := ⟨(hC (wT w).params false).push (fz esT1 tT1 2), ⟨[]⟩, boot_drawn, 224, os⟩) (q' := q) (by kernel_rfl) ?_
 unfold merge
 refine runF_bind (n := 1) (m := 53) (x := setEpoch _) (a := 5) (s' := ⟨(hC (wT w).params false).push (fz esT1 tT1 2), ⟨[]⟩, boot_drawn, 224, os⟩) (q' := q) (by kernel_rfl) ?_
 have := runF_merge (p := pw) (w := wT w) (n₀ := 11) (ann := annW) (a := 30) (each := unchanged "frozenset.__or__" 30 5) (ob := oC30 false) (eo := esH) (epo := 5) (to := tH) (h := hC (wT w).params false) (gens := ⟨[]⟩) (drawn := boot_drawn) (toks := 224) (os := os) (q := q)
  (cls := .type "frozenset") (d := none) (sl := #[]) (S := (esT1, tT1)) (S1 := (esT, tT 2)) (S' := (esA b, tA)) (ep := 2) (ep1 := 3) (kr := 4) (ke := 1) (by kernel_rfl) (by kernel_rfl) (by kernel_rfl) (by kernel_rfl) (by kernel_rfl) (by kernel_rfl) (by kernel_rfl)
  (by kernel_rfl) (by kernel_rfl) (by kernel_rfl) (fun S ep => by kernel_rfl) h2
 rw [h1] at this
 exact this
/-- the thread at the union's own tree -/
noncomputable def thU (w : World) (s : Shared) (l : List Stmt) (pos : Pos) : Thread := match segGo treeTable pw (wT w) 11 annW 1 12 s (piecesOf l envW codeW pos [topFrame pos0]) with
 | some (_, t) => t
 | none => piecesOf l envW codeW pos [topFrame pos0]
theorem runHonT (w : World) (os : OsState) : segRun treeTable pw (wT w) 11 annW 1 100 (sB (wT w).params false os) (piecesOf ((bodyW.drop 10).take 1) envW codeW pos10 [topFrame pos0]) = some (.next, sC (wT w).params false os, codeW, pos11) := by
 refine seg_go (n := 12) (N := 88) (s' := sB (wT w).params false os) (t' := ⟨Builtin.«frozenset.__or__» ⟨[.ref 21, .ref 26], []⟩, (thU w (sB (wT w).params false os) ((bodyW.drop 10).take 1) pos10).code, (thU w (sB (wT w).params false os) ((bodyW.drop 10).take 1) pos10).pos, (thU w (sB (wT w).params false os) ((bodyW.drop 10).take 1) pos10).stack⟩) (by kernel_rfl) ?_
 refine seg_go (n := 44) (N := 44) (runF_seg (by kernel_rfl) (runOrHon w os _)) ?_
 kernel_rfl
theorem runTahT (w : World) (os : OsState) : ∃ b, segRun treeTable pw (wT w) 11 annW 1 100 (sC (wT w).params false os) (piecesOf ((bodyW.drop 11).take 1) envW codeW pos11 [topFrame pos0]) =
  some (.next, ⟨(hD (wT w).params false).update 31 (fun _ => fz (esA b) tA 10), ⟨[]⟩, boot_drawn, 225, os⟩, codeW, pos12) := by
 obtain ⟨b, h⟩ := runOrTah w os (thU w (sC (wT w).params false os) ((bodyW.drop 11).take 1) pos11).pos
 refine ⟨b, ?_⟩
 refine seg_go (n := 12) (N := 88) (s' := sC (wT w).params false os) (t' := ⟨Builtin.«frozenset.__or__» ⟨[.ref 16, .ref 30], []⟩, (thU w (sC (wT w).params false os) ((bodyW.drop 11).take 1) pos11).code, (thU w (sC (wT w).params false os) ((bodyW.drop 11).take 1) pos11).pos, (thU w (sC (wT w).params false os) ((bodyW.drop 11).take 1) pos11).stack⟩) (by kernel_rfl) ?_
 refine seg_go (n := 71) (N := 17) (runF_seg (by kernel_rfl) h) ?_
 kernel_rfl
end Mj
namespace Mj
open PySem PySem.W PyProof.Rows
set_option maxRecDepth 100000
/-- a def of the text: member j of the class at i, or the def at i itself -/
noncomputable def dStmt (i j : Nat) : Stmt := match bodyW[i]? with
 | some (.ClassDef _ _ _ b _ _ _ _ _ _ _) => (b[j]?).getD (.Pass pos0)
 | some s => s
 | none => .Pass pos0
noncomputable def dArgs (i j : Nat) : Arguments := match dStmt i j with
 | .FunctionDef _ a _ _ _ _ _ _ _ _ => a
 | _ => ⟨[], [], none, [], [], none, []⟩
noncomputable def dBody (i j : Nat) : List Stmt := match dStmt i j with
 | .FunctionDef _ _ b _ _ _ _ _ _ _ => b
 | _ => []
noncomputable def dScope (i j : Nat) : Scope := match dStmt i j with
 | .FunctionDef _ _ _ _ _ _ sc _ _ _ => sc
 | _ => ⟨.module, [], false, false, []⟩
noncomputable def k2 (P : Params) : Obj :=
{cls := Value.none, data := Data.dict #[] }
noncomputable def k3 (P : Params) : Obj :=
{cls := Value.type "dict",
 data :=
  Data.dict
   #[{ hash := PyData.keyHash P (Str.ofString "__name__"), key := Value.str (Str.ofString "__name__") 165, val := Value.str (Str.ofString "law_im0120_01") 627 },
    {hash := PyData.keyHash P (Str.ofString "__doc__"), key := Value.str (Str.ofString "__doc__") 166, val := Value.none },
    {hash := PyData.keyHash P (Str.ofString "__package__"), key := Value.str (Str.ofString "__package__") 167, val := Value.none },
    {hash := PyData.keyHash P (Str.ofString "__loader__"), key := Value.str (Str.ofString "__loader__") 168, val := Value.builtin "__main__.__loader__#opaque" },
    {hash := PyData.keyHash P (Str.ofString "__spec__"), key := Value.str (Str.ofString "__spec__") 169, val := Value.none },
    {hash := PyData.keyHash P (Str.ofString "__annotations__"), key := Value.str (Str.ofString "__annotations__") 170, val := Value.ref 6 },
    {hash := PyData.keyHash P (Str.ofString "__builtins__"), key := Value.str (Str.ofString "__builtins__") 171, val := Value.ref 4 },
    {hash := PyData.keyHash P (Str.ofString "__file__"), key := Value.str (Str.ofString "__file__") 173, val := Value.str (Str.ofString "/claim/cut.py") 172 },
    {hash := PyData.keyHash P (Str.ofString "__cached__"), key := Value.str (Str.ofString "__cached__") 174, val := Value.none },
    {hash := PyData.keyHash P (Str.ofString "TERMINAL_INDICES"), key := Value.str (Str.ofString "TERMINAL_INDICES") 199, val := Value.ref 16 },
    {hash := PyData.keyHash P (Str.ofString "EAST"), key := Value.str (Str.ofString "EAST") 201, val := Value.int 27 200 },
    {hash := PyData.keyHash P (Str.ofString "SOUTH"), key := Value.str (Str.ofString "SOUTH") 203, val := Value.int 28 202 },
    {hash := PyData.keyHash P (Str.ofString "WEST"), key := Value.str (Str.ofString "WEST") 205, val := Value.int 29 204 },
    {hash := PyData.keyHash P (Str.ofString "NORTH"), key := Value.str (Str.ofString "NORTH") 207, val := Value.int 30 206 },
    {hash := PyData.keyHash P (Str.ofString "HAKU"), key := Value.str (Str.ofString "HAKU") 209, val := Value.int 31 208 },
    {hash := PyData.keyHash P (Str.ofString "HATSU"), key := Value.str (Str.ofString "HATSU") 211, val := Value.int 32 210 },
    {hash := PyData.keyHash P (Str.ofString "CHUN"), key := Value.str (Str.ofString "CHUN") 213, val := Value.int 33 212 },
    {hash := PyData.keyHash P (Str.ofString "WINDS"), key := Value.str (Str.ofString "WINDS") 218, val := Value.ref 21 },
    {hash := PyData.keyHash P (Str.ofString "DRAGONS"), key := Value.str (Str.ofString "DRAGONS") 222, val := Value.ref 26 },
    {hash := PyData.keyHash P (Str.ofString "HONOR_INDICES"), key := Value.str (Str.ofString "HONOR_INDICES") 223, val := Value.ref 30 },
    {hash := PyData.keyHash P (Str.ofString "TERMINAL_AND_HONOR_INDICES"), key := Value.str (Str.ofString "TERMINAL_AND_HONOR_INDICES") 224, val := Value.ref 31 },
    {hash := PyData.keyHash P (Str.ofString "Shanten"), key := Value.str (Str.ofString "Shanten") 338, val := Value.ref 81 },
    {hash := PyData.keyHash P (Str.ofString "_RegularShanten"), key := Value.str (Str.ofString "_RegularShanten") 523, val := Value.ref 221 },
    {hash := PyData.keyHash P (Str.ofString "Agari"), key := Value.str (Str.ofString "Agari") 626, val := Value.ref 274 },
    {hash := PyData.keyHash P (Str.ofString "_law_ends"), key := Value.str (Str.ofString "_law_ends") 634, val := Value.ref 285 },
    {hash := PyData.keyHash P (Str.ofString "_law_deal"), key := Value.str (Str.ofString "_law_deal") 649, val := Value.ref 292 },
    {hash := PyData.keyHash P (Str.ofString "_law_pairs_aim"), key := Value.str (Str.ofString "_law_pairs_aim") 655, val := Value.ref 297 },
    {hash := PyData.keyHash P (Str.ofString "_law_ends_aim"), key := Value.str (Str.ofString "_law_ends_aim") 661, val := Value.ref 302 },
    {hash := PyData.keyHash P (Str.ofString "_law_number"), key := Value.str (Str.ofString "_law_number") 669, val := Value.ref 309 },
    {hash := PyData.keyHash P (Str.ofString "_law_way"), key := Value.str (Str.ofString "_law_way") 685, val := Value.ref 316 },
    {hash := PyData.keyHash P (Str.ofString "law"), key := Value.str (Str.ofString "law") 691, val := Value.ref 321 }]
   31 }
noncomputable def k39 (P : Params) : Obj :=
{cls := Value.type "tuple", data := Data.seq #[Value.bool Bool.true, Value.bool Bool.true, Value.bool Bool.false] }
noncomputable def k45 (P : Params) : Obj :=
{cls := Value.type "code",
 data :=
  Data.fields
   #[Value.str (Str.ofString "calculate_shanten") 246, Value.str (Str.ofString "Shanten.calculate_shanten") 247, Value.str (Str.ofString "/claim/cut.py") 248, Value.int 20 0, Value.int 4 0, Value.int 0 0, Value.int 0 0,
    Value.int 3 0, Value.ref 40, Value.bool Bool.true, Value.int 181 0, Value.ref 41, Value.none, Value.ref 42, Value.ref 43, Value.ref 44, Value.int 255 0, Value.int 20 0,
    Value.str (Str.ofString "/claim/cut.py") 256] }
noncomputable def k46 (P : Params) : Obj :=
{cls := Value.type "function",
 data :=
  Data.func
   {name := Str.ofString "calculate_shanten", qualname := Str.ofString "Shanten.calculate_shanten", params := dArgs 13 4, body := PySem.FuncBody.stmts (dBody 13 4),
    scope := dScope 13 4, globals := 3, closure := [], defaults := Value.ref 39, kwdefaults := Value.none, pyModule := Value.str (Str.ofString "mahjong.shanten") 225,
    annotations := Option.some 49, code := Value.ref 45 } }
noncomputable def k48 (P : Params) : Obj :=
{cls := Value.type "staticmethod", dict := Option.some 47, data := Data.fields #[Value.ref 46, Value.bool Bool.false] }
noncomputable def k53 (P : Params) : Obj :=
{cls := Value.type "code",
 data :=
  Data.fields
   #[Value.str (Str.ofString "calculate_shanten_for_chiitoitsu_hand") 270, Value.str (Str.ofString "Shanten.calculate_shanten_for_chiitoitsu_hand") 271, Value.str (Str.ofString "/claim/cut.py") 272, Value.int 31 0, Value.int 1 0,
    Value.int 0 0, Value.int 0 0, Value.int 3 0, Value.ref 50, Value.bool Bool.true, Value.int 181 0, Value.ref 51, Value.none, Value.none, Value.none, Value.ref 52, Value.int 273 0, Value.int 31 0,
    Value.str (Str.ofString "/claim/cut.py") 274] }
noncomputable def k54 (P : Params) : Obj :=
{cls := Value.type "function",
 data :=
  Data.func
   {name := Str.ofString "calculate_shanten_for_chiitoitsu_hand", qualname := Str.ofString "Shanten.calculate_shanten_for_chiitoitsu_hand", params := dArgs 13 5,
    body := PySem.FuncBody.stmts (dBody 13 5), scope := dScope 13 5, globals := 3, closure := [], defaults := Value.none, kwdefaults := Value.none,
    pyModule := Value.str (Str.ofString "mahjong.shanten") 225, annotations := Option.some 57, code := Value.ref 53 } }
noncomputable def k56 (P : Params) : Obj :=
{cls := Value.type "staticmethod", dict := Option.some 55, data := Data.fields #[Value.ref 54, Value.bool Bool.false] }
noncomputable def k63 (P : Params) : Obj :=
{cls := Value.type "code",
 data :=
  Data.fields
   #[Value.str (Str.ofString "calculate_shanten_for_kokushi_hand") 288, Value.str (Str.ofString "Shanten.calculate_shanten_for_kokushi_hand") 289, Value.str (Str.ofString "/claim/cut.py") 290, Value.int 39 0, Value.int 1 0, Value.int 0 0,
    Value.int 0 0, Value.int 3 0, Value.ref 58, Value.bool Bool.true, Value.int 181 0, Value.ref 59, Value.none, Value.ref 60, Value.ref 61, Value.ref 62, Value.int 295 0, Value.int 39 0,
    Value.str (Str.ofString "/claim/cut.py") 296] }
noncomputable def k64 (P : Params) : Obj :=
{cls := Value.type "function",
 data :=
  Data.func
   {name := Str.ofString "calculate_shanten_for_kokushi_hand", qualname := Str.ofString "Shanten.calculate_shanten_for_kokushi_hand", params := dArgs 13 6,
    body := PySem.FuncBody.stmts (dBody 13 6), scope := dScope 13 6, globals := 3, closure := [], defaults := Value.none, kwdefaults := Value.none,
    pyModule := Value.str (Str.ofString "mahjong.shanten") 225, annotations := Option.some 67, code := Value.ref 63 } }
noncomputable def k66 (P : Params) : Obj :=
{cls := Value.type "staticmethod", dict := Option.some 65, data := Data.fields #[Value.ref 64, Value.bool Bool.false] }
noncomputable def k68 (P : Params) : Obj :=
{cls := Value.type "tuple", data := Data.seq #[Value.bool Bool.false] }
noncomputable def k74 (P : Params) : Obj :=
{cls := Value.type "code",
 data :=
  Data.fields
   #[Value.str (Str.ofString "calculate_shanten_for_regular_hand") 310, Value.str (Str.ofString "Shanten.calculate_shanten_for_regular_hand") 311, Value.str (Str.ofString "/claim/cut.py") 312, Value.int 48 0, Value.int 2 0, Value.int 0 0,
    Value.int 0 0, Value.int 3 0, Value.ref 69, Value.bool Bool.true, Value.int 181 0, Value.ref 70, Value.none, Value.ref 71, Value.ref 72, Value.ref 73, Value.int 316 0, Value.int 48 0,
    Value.str (Str.ofString "/claim/cut.py") 317] }
noncomputable def k75 (P : Params) : Obj :=
{cls := Value.type "function",
 data :=
  Data.func
   {name := Str.ofString "calculate_shanten_for_regular_hand", qualname := Str.ofString "Shanten.calculate_shanten_for_regular_hand", params := dArgs 13 7,
    body := PySem.FuncBody.stmts (dBody 13 7), scope := dScope 13 7, globals := 3, closure := [], defaults := Value.ref 68, kwdefaults := Value.none,
    pyModule := Value.str (Str.ofString "mahjong.shanten") 225, annotations := Option.some 78, code := Value.ref 74 } }
noncomputable def k77 (P : Params) : Obj :=
{cls := Value.type "staticmethod", dict := Option.some 76, data := Data.fields #[Value.ref 75, Value.bool Bool.false] }
noncomputable def k80 (P : Params) : Obj :=
{cls := Value.type "dict",
 data :=
  Data.dict
   #[{ hash := PyData.keyHash P (Str.ofString "__module__"), key := Value.str (Str.ofString "__module__") 234, val := Value.str (Str.ofString "mahjong.shanten") 225 },
    {hash := PyData.keyHash P (Str.ofString "__firstlineno__"), key := Value.str (Str.ofString "__firstlineno__") 238, val := Value.int 14 237 },
    {hash := PyData.keyHash P (Str.ofString "TENPAI_STATE"), key := Value.str (Str.ofString "TENPAI_STATE") 240, val := Value.int 0 239 },
    {hash := PyData.keyHash P (Str.ofString "AGARI_STATE"), key := Value.str (Str.ofString "AGARI_STATE") 244, val := Value.int (-1) 243 },
    {hash := PyData.keyHash P (Str.ofString "calculate_shanten"), key := Value.str (Str.ofString "calculate_shanten") 269, val := Value.ref 48 },
    {hash := PyData.keyHash P (Str.ofString "calculate_shanten_for_chiitoitsu_hand"), key := Value.str (Str.ofString "calculate_shanten_for_chiitoitsu_hand") 287, val := Value.ref 56 },
    {hash := PyData.keyHash P (Str.ofString "calculate_shanten_for_kokushi_hand"), key := Value.str (Str.ofString "calculate_shanten_for_kokushi_hand") 309, val := Value.ref 66 },
    {hash := PyData.keyHash P (Str.ofString "calculate_shanten_for_regular_hand"), key := Value.str (Str.ofString "calculate_shanten_for_regular_hand") 330, val := Value.ref 77 },
    {hash := PyData.keyHash P (Str.ofString "__static_attributes__"), key := Value.str (Str.ofString "__static_attributes__") 331, val := Value.ref 79 },
    {hash := PyData.keyHash P (Str.ofString "__dict__"), key := Value.str (Str.ofString "__dict__") 333, val := Value.ref 82 },
    {hash := PyData.keyHash P (Str.ofString "__weakref__"), key := Value.str (Str.ofString "__weakref__") 335, val := Value.ref 83 },
    {hash := PyData.keyHash P (Str.ofString "__doc__"), key := Value.str (Str.ofString "__doc__") 336, val := Value.none }]
   4 }
noncomputable def k81 (P : Params) : Obj :=
{cls := Value.type "type", data := Data.cls { name := Str.ofString "Shanten", bases := [Value.type "object"], mro := [Value.ref 81, Value.type "object"], ns := 80, qualname := Str.ofString "Shanten" },
 slots := #[Option.none, Option.none, Option.some (Value.str (Str.ofString "Shanten") 227), Option.some (Value.str (Str.ofString "Shanten") 235), Option.some (Value.builtin "object.__new__"), Option.some (Value.bool Bool.true)] }
noncomputable def k82 (P : Params) : Obj :=
{cls := Value.type "getset_descriptor", data := Data.fields #[Value.str (Str.ofString "__dict__") 332, Value.ref 81, Value.builtin "function.__dict__", Value.builtin "function.__dict__#set"] }
noncomputable def k83 (P : Params) : Obj :=
{cls := Value.type "getset_descriptor", data := Data.fields #[Value.str (Str.ofString "__weakref__") 334, Value.ref 81, Value.builtin "ExceptionGroup.__weakref__", Value.none] }
noncomputable def k98 (P : Params) : Obj :=
{cls := Value.type "code",
 data :=
  Data.fields
   #[Value.str (Str.ofString "__init__") 351, Value.str (Str.ofString "_RegularShanten.__init__") 352, Value.str (Str.ofString "/claim/cut.py") 353, Value.int 54 0, Value.int 2 0, Value.int 0 0, Value.int 0 0, Value.int 3 0,
    Value.ref 93, Value.bool Bool.true, Value.int 181 0, Value.ref 94, Value.none, Value.ref 95, Value.ref 96, Value.ref 97, Value.int 356 0, Value.int 54 0, Value.str (Str.ofString "/claim/cut.py") 357] }
noncomputable def k99 (P : Params) : Obj :=
{cls := Value.type "function",
 data :=
  Data.func
   {name := Str.ofString "__init__", qualname := Str.ofString "_RegularShanten.__init__", params := dArgs 14 0, body := PySem.FuncBody.stmts (dBody 14 0),
    scope := dScope 14 0, globals := 3, closure := [], defaults := Value.none, kwdefaults := Value.none, pyModule := Value.str (Str.ofString "mahjong.shanten") 225,
    code := Value.ref 98 } }
noncomputable def k105 (P : Params) : Obj :=
{cls := Value.type "code",
 data :=
  Data.fields
   #[Value.str (Str.ofString "calculate") 359, Value.str (Str.ofString "_RegularShanten.calculate") 360, Value.str (Str.ofString "/claim/cut.py") 361, Value.int 64 0, Value.int 3 0, Value.int 0 0, Value.int 0 0, Value.int 3 0,
    Value.ref 100, Value.bool Bool.true, Value.int 181 0, Value.ref 101, Value.none, Value.ref 102, Value.ref 103, Value.ref 104, Value.int 367 0, Value.int 64 0, Value.str (Str.ofString "/claim/cut.py") 368] }
noncomputable def k106 (P : Params) : Obj :=
{cls := Value.type "function",
 data :=
  Data.func
   {name := Str.ofString "calculate", qualname := Str.ofString "_RegularShanten.calculate", params := dArgs 14 1, body := PySem.FuncBody.stmts (dBody 14 1),
    scope := dScope 14 1, globals := 3, closure := [], defaults := Value.none, kwdefaults := Value.none, pyModule := Value.str (Str.ofString "mahjong.shanten") 225,
    code := Value.ref 105 } }
noncomputable def k112 (P : Params) : Obj :=
{cls := Value.type "code",
 data :=
  Data.fields
   #[Value.str (Str.ofString "_scan") 370, Value.str (Str.ofString "_RegularShanten._scan") 371, Value.str (Str.ofString "/claim/cut.py") 372, Value.int 79 0, Value.int 3 0, Value.int 0 0, Value.int 0 0, Value.int 3 0,
    Value.ref 107, Value.bool Bool.true, Value.int 181 0, Value.ref 108, Value.none, Value.ref 109, Value.ref 110, Value.ref 111, Value.int 377 0, Value.int 79 0, Value.str (Str.ofString "/claim/cut.py") 378] }
noncomputable def k113 (P : Params) : Obj :=
{cls := Value.type "function",
 data :=
  Data.func
   {name := Str.ofString "_scan", qualname := Str.ofString "_RegularShanten._scan", params := dArgs 14 2, body := PySem.FuncBody.stmts (dBody 14 2),
    scope := dScope 14 2, globals := 3, closure := [], defaults := Value.none, kwdefaults := Value.none, pyModule := Value.str (Str.ofString "mahjong.shanten") 225,
    code := Value.ref 112 } }
noncomputable def k119 (P : Params) : Obj :=
{cls := Value.type "code",
 data :=
  Data.fields
   #[Value.str (Str.ofString "_run") 380, Value.str (Str.ofString "_RegularShanten._run") 381, Value.str (Str.ofString "/claim/cut.py") 382, Value.int 85 0, Value.int 2 0, Value.int 0 0, Value.int 0 0, Value.int 3 0,
    Value.ref 114, Value.bool Bool.true, Value.int 181 0, Value.ref 115, Value.none, Value.ref 116, Value.ref 117, Value.ref 118, Value.int 386 0, Value.int 85 0, Value.str (Str.ofString "/claim/cut.py") 387] }
noncomputable def k120 (P : Params) : Obj :=
{cls := Value.type "function",
 data :=
  Data.func
   {name := Str.ofString "_run", qualname := Str.ofString "_RegularShanten._run", params := dArgs 14 3, body := PySem.FuncBody.stmts (dBody 14 3),
    scope := dScope 14 3, globals := 3, closure := [], defaults := Value.none, kwdefaults := Value.none, pyModule := Value.str (Str.ofString "mahjong.shanten") 225,
    code := Value.ref 119 } }
noncomputable def k126 (P : Params) : Obj :=
{cls := Value.type "code",
 data :=
  Data.fields
   #[Value.str (Str.ofString "_update_result") 389, Value.str (Str.ofString "_RegularShanten._update_result") 390, Value.str (Str.ofString "/claim/cut.py") 391, Value.int 187 0, Value.int 1 0, Value.int 0 0, Value.int 0 0,
    Value.int 3 0, Value.ref 121, Value.bool Bool.true, Value.int 181 0, Value.ref 122, Value.none, Value.ref 123, Value.ref 124, Value.ref 125, Value.int 395 0, Value.int 187 0,
    Value.str (Str.ofString "/claim/cut.py") 396] }
noncomputable def k127 (P : Params) : Obj :=
{cls := Value.type "function",
 data :=
  Data.func
   {name := Str.ofString "_update_result", qualname := Str.ofString "_RegularShanten._update_result", params := dArgs 14 4, body := PySem.FuncBody.stmts (dBody 14 4),
    scope := dScope 14 4, globals := 3, closure := [], defaults := Value.none, kwdefaults := Value.none, pyModule := Value.str (Str.ofString "mahjong.shanten") 225,
    code := Value.ref 126 } }
noncomputable def k133 (P : Params) : Obj :=
{cls := Value.type "code",
 data :=
  Data.fields
   #[Value.str (Str.ofString "_increase_set") 398, Value.str (Str.ofString "_RegularShanten._increase_set") 399, Value.str (Str.ofString "/claim/cut.py") 400, Value.int 200 0, Value.int 2 0, Value.int 0 0, Value.int 0 0,
    Value.int 3 0, Value.ref 128, Value.bool Bool.true, Value.int 181 0, Value.ref 129, Value.none, Value.ref 130, Value.ref 131, Value.ref 132, Value.int 403 0, Value.int 200 0,
    Value.str (Str.ofString "/claim/cut.py") 404] }
noncomputable def k134 (P : Params) : Obj :=
{cls := Value.type "function",
 data :=
  Data.func
   {name := Str.ofString "_increase_set", qualname := Str.ofString "_RegularShanten._increase_set", params := dArgs 14 5, body := PySem.FuncBody.stmts (dBody 14 5),
    scope := dScope 14 5, globals := 3, closure := [], defaults := Value.none, kwdefaults := Value.none, pyModule := Value.str (Str.ofString "mahjong.shanten") 225,
    code := Value.ref 133 } }
noncomputable def k140 (P : Params) : Obj :=
{cls := Value.type "code",
 data :=
  Data.fields
   #[Value.str (Str.ofString "_decrease_set") 406, Value.str (Str.ofString "_RegularShanten._decrease_set") 407, Value.str (Str.ofString "/claim/cut.py") 408, Value.int 204 0, Value.int 2 0, Value.int 0 0, Value.int 0 0,
    Value.int 3 0, Value.ref 135, Value.bool Bool.true, Value.int 181 0, Value.ref 136, Value.none, Value.ref 137, Value.ref 138, Value.ref 139, Value.int 411 0, Value.int 204 0,
    Value.str (Str.ofString "/claim/cut.py") 412] }
noncomputable def k141 (P : Params) : Obj :=
{cls := Value.type "function",
 data :=
  Data.func
   {name := Str.ofString "_decrease_set", qualname := Str.ofString "_RegularShanten._decrease_set", params := dArgs 14 6, body := PySem.FuncBody.stmts (dBody 14 6),
    scope := dScope 14 6, globals := 3, closure := [], defaults := Value.none, kwdefaults := Value.none, pyModule := Value.str (Str.ofString "mahjong.shanten") 225,
    code := Value.ref 140 } }
noncomputable def k147 (P : Params) : Obj :=
{cls := Value.type "code",
 data :=
  Data.fields
   #[Value.str (Str.ofString "_increase_pair") 414, Value.str (Str.ofString "_RegularShanten._increase_pair") 415, Value.str (Str.ofString "/claim/cut.py") 416, Value.int 208 0, Value.int 2 0, Value.int 0 0, Value.int 0 0,
    Value.int 3 0, Value.ref 142, Value.bool Bool.true, Value.int 181 0, Value.ref 143, Value.none, Value.ref 144, Value.ref 145, Value.ref 146, Value.int 419 0, Value.int 208 0,
    Value.str (Str.ofString "/claim/cut.py") 420] }
noncomputable def k148 (P : Params) : Obj :=
{cls := Value.type "function",
 data :=
  Data.func
   {name := Str.ofString "_increase_pair", qualname := Str.ofString "_RegularShanten._increase_pair", params := dArgs 14 7, body := PySem.FuncBody.stmts (dBody 14 7),
    scope := dScope 14 7, globals := 3, closure := [], defaults := Value.none, kwdefaults := Value.none, pyModule := Value.str (Str.ofString "mahjong.shanten") 225,
    code := Value.ref 147 } }
noncomputable def k154 (P : Params) : Obj :=
{cls := Value.type "code",
 data :=
  Data.fields
   #[Value.str (Str.ofString "_decrease_pair") 422, Value.str (Str.ofString "_RegularShanten._decrease_pair") 423, Value.str (Str.ofString "/claim/cut.py") 424, Value.int 212 0, Value.int 2 0, Value.int 0 0, Value.int 0 0,
    Value.int 3 0, Value.ref 149, Value.bool Bool.true, Value.int 181 0, Value.ref 150, Value.none, Value.ref 151, Value.ref 152, Value.ref 153, Value.int 427 0, Value.int 212 0,
    Value.str (Str.ofString "/claim/cut.py") 428] }
noncomputable def k155 (P : Params) : Obj :=
{cls := Value.type "function",
 data :=
  Data.func
   {name := Str.ofString "_decrease_pair", qualname := Str.ofString "_RegularShanten._decrease_pair", params := dArgs 14 8, body := PySem.FuncBody.stmts (dBody 14 8),
    scope := dScope 14 8, globals := 3, closure := [], defaults := Value.none, kwdefaults := Value.none, pyModule := Value.str (Str.ofString "mahjong.shanten") 225,
    code := Value.ref 154 } }
noncomputable def k161 (P : Params) : Obj :=
{cls := Value.type "code",
 data :=
  Data.fields
   #[Value.str (Str.ofString "_increase_syuntsu") 430, Value.str (Str.ofString "_RegularShanten._increase_syuntsu") 431, Value.str (Str.ofString "/claim/cut.py") 432, Value.int 216 0, Value.int 2 0, Value.int 0 0, Value.int 0 0,
    Value.int 3 0, Value.ref 156, Value.bool Bool.true, Value.int 181 0, Value.ref 157, Value.none, Value.ref 158, Value.ref 159, Value.ref 160, Value.int 435 0, Value.int 216 0,
    Value.str (Str.ofString "/claim/cut.py") 436] }
noncomputable def k162 (P : Params) : Obj :=
{cls := Value.type "function",
 data :=
  Data.func
   {name := Str.ofString "_increase_syuntsu", qualname := Str.ofString "_RegularShanten._increase_syuntsu", params := dArgs 14 9, body := PySem.FuncBody.stmts (dBody 14 9),
    scope := dScope 14 9, globals := 3, closure := [], defaults := Value.none, kwdefaults := Value.none, pyModule := Value.str (Str.ofString "mahjong.shanten") 225,
    code := Value.ref 161 } }
noncomputable def k168 (P : Params) : Obj :=
{cls := Value.type "code",
 data :=
  Data.fields
   #[Value.str (Str.ofString "_decrease_syuntsu") 438, Value.str (Str.ofString "_RegularShanten._decrease_syuntsu") 439, Value.str (Str.ofString "/claim/cut.py") 440, Value.int 222 0, Value.int 2 0, Value.int 0 0, Value.int 0 0,
    Value.int 3 0, Value.ref 163, Value.bool Bool.true, Value.int 181 0, Value.ref 164, Value.none, Value.ref 165, Value.ref 166, Value.ref 167, Value.int 443 0, Value.int 222 0,
    Value.str (Str.ofString "/claim/cut.py") 444] }
noncomputable def k169 (P : Params) : Obj :=
{cls := Value.type "function",
 data :=
  Data.func
   {name := Str.ofString "_decrease_syuntsu", qualname := Str.ofString "_RegularShanten._decrease_syuntsu", params := dArgs 14 10, body := PySem.FuncBody.stmts (dBody 14 10),
    scope := dScope 14 10, globals := 3, closure := [], defaults := Value.none, kwdefaults := Value.none, pyModule := Value.str (Str.ofString "mahjong.shanten") 225,
    code := Value.ref 168 } }
noncomputable def k175 (P : Params) : Obj :=
{cls := Value.type "code",
 data :=
  Data.fields
   #[Value.str (Str.ofString "_increase_tatsu_first") 446, Value.str (Str.ofString "_RegularShanten._increase_tatsu_first") 447, Value.str (Str.ofString "/claim/cut.py") 448, Value.int 228 0, Value.int 2 0, Value.int 0 0, Value.int 0 0,
    Value.int 3 0, Value.ref 170, Value.bool Bool.true, Value.int 181 0, Value.ref 171, Value.none, Value.ref 172, Value.ref 173, Value.ref 174, Value.int 451 0, Value.int 228 0,
    Value.str (Str.ofString "/claim/cut.py") 452] }
noncomputable def k176 (P : Params) : Obj :=
{cls := Value.type "function",
 data :=
  Data.func
   {name := Str.ofString "_increase_tatsu_first", qualname := Str.ofString "_RegularShanten._increase_tatsu_first", params := dArgs 14 11,
    body := PySem.FuncBody.stmts (dBody 14 11), scope := dScope 14 11, globals := 3, closure := [], defaults := Value.none, kwdefaults := Value.none,
    pyModule := Value.str (Str.ofString "mahjong.shanten") 225, code := Value.ref 175 } }
noncomputable def k182 (P : Params) : Obj :=
{cls := Value.type "code",
 data :=
  Data.fields
   #[Value.str (Str.ofString "_decrease_tatsu_first") 454, Value.str (Str.ofString "_RegularShanten._decrease_tatsu_first") 455, Value.str (Str.ofString "/claim/cut.py") 456, Value.int 233 0, Value.int 2 0, Value.int 0 0, Value.int 0 0,
    Value.int 3 0, Value.ref 177, Value.bool Bool.true, Value.int 181 0, Value.ref 178, Value.none, Value.ref 179, Value.ref 180, Value.ref 181, Value.int 459 0, Value.int 233 0,
    Value.str (Str.ofString "/claim/cut.py") 460] }
noncomputable def k183 (P : Params) : Obj :=
{cls := Value.type "function",
 data :=
  Data.func
   {name := Str.ofString "_decrease_tatsu_first", qualname := Str.ofString "_RegularShanten._decrease_tatsu_first", params := dArgs 14 12,
    body := PySem.FuncBody.stmts (dBody 14 12), scope := dScope 14 12, globals := 3, closure := [], defaults := Value.none, kwdefaults := Value.none,
    pyModule := Value.str (Str.ofString "mahjong.shanten") 225, code := Value.ref 182 } }
noncomputable def k189 (P : Params) : Obj :=
{cls := Value.type "code",
 data :=
  Data.fields
   #[Value.str (Str.ofString "_increase_tatsu_second") 462, Value.str (Str.ofString "_RegularShanten._increase_tatsu_second") 463, Value.str (Str.ofString "/claim/cut.py") 464, Value.int 238 0, Value.int 2 0, Value.int 0 0,
    Value.int 0 0, Value.int 3 0, Value.ref 184, Value.bool Bool.true, Value.int 181 0, Value.ref 185, Value.none, Value.ref 186, Value.ref 187, Value.ref 188, Value.int 467 0, Value.int 238 0,
    Value.str (Str.ofString "/claim/cut.py") 468] }
noncomputable def k190 (P : Params) : Obj :=
{cls := Value.type "function",
 data :=
  Data.func
   {name := Str.ofString "_increase_tatsu_second", qualname := Str.ofString "_RegularShanten._increase_tatsu_second", params := dArgs 14 13,
    body := PySem.FuncBody.stmts (dBody 14 13), scope := dScope 14 13, globals := 3, closure := [], defaults := Value.none, kwdefaults := Value.none,
    pyModule := Value.str (Str.ofString "mahjong.shanten") 225, code := Value.ref 189 } }
noncomputable def k196 (P : Params) : Obj :=
{cls := Value.type "code",
 data :=
  Data.fields
   #[Value.str (Str.ofString "_decrease_tatsu_second") 470, Value.str (Str.ofString "_RegularShanten._decrease_tatsu_second") 471, Value.str (Str.ofString "/claim/cut.py") 472, Value.int 243 0, Value.int 2 0, Value.int 0 0,
    Value.int 0 0, Value.int 3 0, Value.ref 191, Value.bool Bool.true, Value.int 181 0, Value.ref 192, Value.none, Value.ref 193, Value.ref 194, Value.ref 195, Value.int 475 0, Value.int 243 0,
    Value.str (Str.ofString "/claim/cut.py") 476] }
noncomputable def k197 (P : Params) : Obj :=
{cls := Value.type "function",
 data :=
  Data.func
   {name := Str.ofString "_decrease_tatsu_second", qualname := Str.ofString "_RegularShanten._decrease_tatsu_second", params := dArgs 14 14,
    body := PySem.FuncBody.stmts (dBody 14 14), scope := dScope 14 14, globals := 3, closure := [], defaults := Value.none, kwdefaults := Value.none,
    pyModule := Value.str (Str.ofString "mahjong.shanten") 225, code := Value.ref 196 } }
noncomputable def k203 (P : Params) : Obj :=
{cls := Value.type "code",
 data :=
  Data.fields
   #[Value.str (Str.ofString "_increase_isolated_tile") 478, Value.str (Str.ofString "_RegularShanten._increase_isolated_tile") 479, Value.str (Str.ofString "/claim/cut.py") 480, Value.int 248 0, Value.int 2 0, Value.int 0 0,
    Value.int 0 0, Value.int 3 0, Value.ref 198, Value.bool Bool.true, Value.int 181 0, Value.ref 199, Value.none, Value.ref 200, Value.ref 201, Value.ref 202, Value.int 483 0, Value.int 248 0,
    Value.str (Str.ofString "/claim/cut.py") 484] }
noncomputable def k204 (P : Params) : Obj :=
{cls := Value.type "function",
 data :=
  Data.func
   {name := Str.ofString "_increase_isolated_tile", qualname := Str.ofString "_RegularShanten._increase_isolated_tile", params := dArgs 14 15,
    body := PySem.FuncBody.stmts (dBody 14 15), scope := dScope 14 15, globals := 3, closure := [], defaults := Value.none, kwdefaults := Value.none,
    pyModule := Value.str (Str.ofString "mahjong.shanten") 225, code := Value.ref 203 } }
noncomputable def k210 (P : Params) : Obj :=
{cls := Value.type "code",
 data :=
  Data.fields
   #[Value.str (Str.ofString "_decrease_isolated_tile") 486, Value.str (Str.ofString "_RegularShanten._decrease_isolated_tile") 487, Value.str (Str.ofString "/claim/cut.py") 488, Value.int 252 0, Value.int 2 0, Value.int 0 0,
    Value.int 0 0, Value.int 3 0, Value.ref 205, Value.bool Bool.true, Value.int 181 0, Value.ref 206, Value.none, Value.ref 207, Value.ref 208, Value.ref 209, Value.int 491 0, Value.int 252 0,
    Value.str (Str.ofString "/claim/cut.py") 492] }
noncomputable def k211 (P : Params) : Obj :=
{cls := Value.type "function",
 data :=
  Data.func
   {name := Str.ofString "_decrease_isolated_tile", qualname := Str.ofString "_RegularShanten._decrease_isolated_tile", params := dArgs 14 16,
    body := PySem.FuncBody.stmts (dBody 14 16), scope := dScope 14 16, globals := 3, closure := [], defaults := Value.none, kwdefaults := Value.none,
    pyModule := Value.str (Str.ofString "mahjong.shanten") 225, code := Value.ref 210 } }
noncomputable def k217 (P : Params) : Obj :=
{cls := Value.type "code",
 data :=
  Data.fields
   #[Value.str (Str.ofString "_remove_honor_and_terminal_man_tiles") 494, Value.str (Str.ofString "_RegularShanten._remove_honor_and_terminal_man_tiles") 495, Value.str (Str.ofString "/claim/cut.py") 496, Value.int 256 0, Value.int 3 0,
    Value.int 0 0, Value.int 0 0, Value.int 3 0, Value.ref 212, Value.bool Bool.true, Value.int 181 0, Value.ref 213, Value.none, Value.ref 214, Value.ref 215, Value.ref 216, Value.int 505 0, Value.int 256 0,
    Value.str (Str.ofString "/claim/cut.py") 506] }
noncomputable def k218 (P : Params) : Obj :=
{cls := Value.type "function",
 data :=
  Data.func
   {name := Str.ofString "_remove_honor_and_terminal_man_tiles", qualname := Str.ofString "_RegularShanten._remove_honor_and_terminal_man_tiles",
    params := dArgs 14 17, body := PySem.FuncBody.stmts (dBody 14 17), scope := dScope 14 17,
    globals := 3, closure := [], defaults := Value.none, kwdefaults := Value.none, pyModule := Value.str (Str.ofString "mahjong.shanten") 225, code := Value.ref 217 } }
noncomputable def k220 (P : Params) : Obj :=
{cls := Value.type "dict",
 data :=
  Data.dict
   #[{ hash := PyData.keyHash P (Str.ofString "__module__"), key := Value.str (Str.ofString "__module__") 346, val := Value.str (Str.ofString "mahjong.shanten") 225 },
    {hash := PyData.keyHash P (Str.ofString "__firstlineno__"), key := Value.str (Str.ofString "__firstlineno__") 350, val := Value.int 52 349 },
    {hash := PyData.keyHash P (Str.ofString "__init__"), key := Value.str (Str.ofString "__init__") 358, val := Value.ref 99 },
    {hash := PyData.keyHash P (Str.ofString "calculate"), key := Value.str (Str.ofString "calculate") 369, val := Value.ref 106 },
    {hash := PyData.keyHash P (Str.ofString "_scan"), key := Value.str (Str.ofString "_scan") 379, val := Value.ref 113 },
    {hash := PyData.keyHash P (Str.ofString "_run"), key := Value.str (Str.ofString "_run") 388, val := Value.ref 120 },
    {hash := PyData.keyHash P (Str.ofString "_update_result"), key := Value.str (Str.ofString "_update_result") 397, val := Value.ref 127 },
    {hash := PyData.keyHash P (Str.ofString "_increase_set"), key := Value.str (Str.ofString "_increase_set") 405, val := Value.ref 134 },
    {hash := PyData.keyHash P (Str.ofString "_decrease_set"), key := Value.str (Str.ofString "_decrease_set") 413, val := Value.ref 141 },
    {hash := PyData.keyHash P (Str.ofString "_increase_pair"), key := Value.str (Str.ofString "_increase_pair") 421, val := Value.ref 148 },
    {hash := PyData.keyHash P (Str.ofString "_decrease_pair"), key := Value.str (Str.ofString "_decrease_pair") 429, val := Value.ref 155 },
    {hash := PyData.keyHash P (Str.ofString "_increase_syuntsu"), key := Value.str (Str.ofString "_increase_syuntsu") 437, val := Value.ref 162 },
    {hash := PyData.keyHash P (Str.ofString "_decrease_syuntsu"), key := Value.str (Str.ofString "_decrease_syuntsu") 445, val := Value.ref 169 },
    {hash := PyData.keyHash P (Str.ofString "_increase_tatsu_first"), key := Value.str (Str.ofString "_increase_tatsu_first") 453, val := Value.ref 176 },
    {hash := PyData.keyHash P (Str.ofString "_decrease_tatsu_first"), key := Value.str (Str.ofString "_decrease_tatsu_first") 461, val := Value.ref 183 },
    {hash := PyData.keyHash P (Str.ofString "_increase_tatsu_second"), key := Value.str (Str.ofString "_increase_tatsu_second") 469, val := Value.ref 190 },
    {hash := PyData.keyHash P (Str.ofString "_decrease_tatsu_second"), key := Value.str (Str.ofString "_decrease_tatsu_second") 477, val := Value.ref 197 },
    {hash := PyData.keyHash P (Str.ofString "_increase_isolated_tile"), key := Value.str (Str.ofString "_increase_isolated_tile") 485, val := Value.ref 204 },
    {hash := PyData.keyHash P (Str.ofString "_decrease_isolated_tile"), key := Value.str (Str.ofString "_decrease_isolated_tile") 493, val := Value.ref 211 },
    {hash := PyData.keyHash P (Str.ofString "_remove_honor_and_terminal_man_tiles"), key := Value.str (Str.ofString "_remove_honor_and_terminal_man_tiles") 507, val := Value.ref 218 },
    {hash := PyData.keyHash P (Str.ofString "__static_attributes__"), key := Value.str (Str.ofString "__static_attributes__") 516, val := Value.ref 219 },
    {hash := PyData.keyHash P (Str.ofString "__dict__"), key := Value.str (Str.ofString "__dict__") 518, val := Value.ref 222 },
    {hash := PyData.keyHash P (Str.ofString "__weakref__"), key := Value.str (Str.ofString "__weakref__") 520, val := Value.ref 223 },
    {hash := PyData.keyHash P (Str.ofString "__doc__"), key := Value.str (Str.ofString "__doc__") 521, val := Value.none }]
   4 }
noncomputable def k221 (P : Params) : Obj :=
{cls := Value.type "type", data := Data.cls { name := Str.ofString "_RegularShanten", bases := [Value.type "object"], mro := [Value.ref 221, Value.type "object"], ns := 220, qualname := Str.ofString "_RegularShanten" },
 slots := #[Option.none, Option.none, Option.some (Value.str (Str.ofString "_RegularShanten") 339), Option.some (Value.str (Str.ofString "_RegularShanten") 347), Option.some (Value.builtin "object.__new__"), Option.some (Value.bool Bool.true)] }
noncomputable def k222 (P : Params) : Obj :=
{cls := Value.type "getset_descriptor", data := Data.fields #[Value.str (Str.ofString "__dict__") 517, Value.ref 221, Value.builtin "function.__dict__", Value.builtin "function.__dict__#set"] }
noncomputable def k223 (P : Params) : Obj :=
{cls := Value.type "getset_descriptor", data := Data.fields #[Value.str (Str.ofString "__weakref__") 519, Value.ref 221, Value.builtin "ExceptionGroup.__weakref__", Value.none] }
noncomputable def k233 (P : Params) : Obj :=
{cls := Value.type "tuple", data := Data.seq #[Value.none] }
noncomputable def k237 (P : Params) : Obj :=
{cls := Value.type "code",
 data :=
  Data.fields
   #[Value.str (Str.ofString "is_agari") 538, Value.str (Str.ofString "Agari.is_agari") 539, Value.str (Str.ofString "/claim/cut.py") 540, Value.int 283 0, Value.int 2 0, Value.int 0 0, Value.int 0 0, Value.int 3 0,
    Value.ref 234, Value.bool Bool.true, Value.int 181 0, Value.ref 235, Value.none, Value.none, Value.none, Value.ref 236, Value.int 541 0, Value.int 283 0, Value.str (Str.ofString "/claim/cut.py") 542] }
noncomputable def k238 (P : Params) : Obj :=
{cls := Value.type "function",
 data :=
  Data.func
   {name := Str.ofString "is_agari", qualname := Str.ofString "Agari.is_agari", params := dArgs 16 0, body := PySem.FuncBody.stmts (dBody 16 0),
    scope := dScope 16 0, globals := 3, closure := [], defaults := Value.ref 233, kwdefaults := Value.none, pyModule := Value.str (Str.ofString "mahjong.agari") 524,
    annotations := Option.some 241, code := Value.ref 237 } }
noncomputable def k240 (P : Params) : Obj :=
{cls := Value.type "staticmethod", dict := Option.some 239, data := Data.fields #[Value.ref 238, Value.bool Bool.false] }
noncomputable def k247 (P : Params) : Obj :=
{cls := Value.type "code",
 data :=
  Data.fields
   #[Value.str (Str.ofString "_is_mentsu") 556, Value.str (Str.ofString "Agari._is_mentsu") 557, Value.str (Str.ofString "/claim/cut.py") 558, Value.int 338 0, Value.int 1 0, Value.int 0 0, Value.int 0 0, Value.int 3 0,
    Value.ref 242, Value.bool Bool.true, Value.int 181 0, Value.ref 243, Value.none, Value.ref 244, Value.ref 245, Value.ref 246, Value.int 564 0, Value.int 338 0, Value.str (Str.ofString "/claim/cut.py") 565] }
noncomputable def k248 (P : Params) : Obj :=
{cls := Value.type "function",
 data :=
  Data.func
   {name := Str.ofString "_is_mentsu", qualname := Str.ofString "Agari._is_mentsu", params := dArgs 16 1, body := PySem.FuncBody.stmts (dBody 16 1),
    scope := dScope 16 1, globals := 3, closure := [], defaults := Value.none, kwdefaults := Value.none, pyModule := Value.str (Str.ofString "mahjong.agari") 524,
    annotations := Option.some 251, code := Value.ref 247 } }
noncomputable def k250 (P : Params) : Obj :=
{cls := Value.type "staticmethod", dict := Option.some 249, data := Data.fields #[Value.ref 248, Value.bool Bool.false] }
noncomputable def k257 (P : Params) : Obj :=
{cls := Value.type "code",
 data :=
  Data.fields
   #[Value.str (Str.ofString "_is_atama_mentsu") 579, Value.str (Str.ofString "Agari._is_atama_mentsu") 580, Value.str (Str.ofString "/claim/cut.py") 581, Value.int 368 0, Value.int 2 0, Value.int 0 0, Value.int 0 0, Value.int 3 0,
    Value.ref 252, Value.bool Bool.true, Value.int 181 0, Value.ref 253, Value.none, Value.ref 254, Value.ref 255, Value.ref 256, Value.int 584 0, Value.int 368 0, Value.str (Str.ofString "/claim/cut.py") 585] }
noncomputable def k258 (P : Params) : Obj :=
{cls := Value.type "function",
 data :=
  Data.func
   {name := Str.ofString "_is_atama_mentsu", qualname := Str.ofString "Agari._is_atama_mentsu", params := dArgs 16 2, body := PySem.FuncBody.stmts (dBody 16 2),
    scope := dScope 16 2, globals := 3, closure := [], defaults := Value.none, kwdefaults := Value.none, pyModule := Value.str (Str.ofString "mahjong.agari") 524,
    annotations := Option.some 261, code := Value.ref 257 } }
noncomputable def k260 (P : Params) : Obj :=
{cls := Value.type "staticmethod", dict := Option.some 259, data := Data.fields #[Value.ref 258, Value.bool Bool.false] }
noncomputable def k267 (P : Params) : Obj :=
{cls := Value.type "code",
 data :=
  Data.fields
   #[Value.str (Str.ofString "_to_meld") 599, Value.str (Str.ofString "Agari._to_meld") 600, Value.str (Str.ofString "/claim/cut.py") 601, Value.int 393 0, Value.int 2 0, Value.int 0 0, Value.int 0 0, Value.int 3 0,
    Value.ref 262, Value.bool Bool.true, Value.int 181 0, Value.ref 263, Value.none, Value.ref 264, Value.ref 265, Value.ref 266, Value.int 604 0, Value.int 393 0, Value.str (Str.ofString "/claim/cut.py") 605] }
noncomputable def k268 (P : Params) : Obj :=
{cls := Value.type "function",
 data :=
  Data.func
   {name := Str.ofString "_to_meld", qualname := Str.ofString "Agari._to_meld", params := dArgs 16 3, body := PySem.FuncBody.stmts (dBody 16 3),
    scope := dScope 16 3, globals := 3, closure := [], defaults := Value.none, kwdefaults := Value.none, pyModule := Value.str (Str.ofString "mahjong.agari") 524,
    annotations := Option.some 271, code := Value.ref 267 } }
noncomputable def k270 (P : Params) : Obj :=
{cls := Value.type "staticmethod", dict := Option.some 269, data := Data.fields #[Value.ref 268, Value.bool Bool.false] }
noncomputable def k273 (P : Params) : Obj :=
{cls := Value.type "dict",
 data :=
  Data.dict
   #[{ hash := PyData.keyHash P (Str.ofString "__module__"), key := Value.str (Str.ofString "__module__") 533, val := Value.str (Str.ofString "mahjong.agari") 524 },
    {hash := PyData.keyHash P (Str.ofString "__firstlineno__"), key := Value.str (Str.ofString "__firstlineno__") 537, val := Value.int 281 536 },
    {hash := PyData.keyHash P (Str.ofString "is_agari"), key := Value.str (Str.ofString "is_agari") 555, val := Value.ref 240 },
    {hash := PyData.keyHash P (Str.ofString "_is_mentsu"), key := Value.str (Str.ofString "_is_mentsu") 578, val := Value.ref 250 },
    {hash := PyData.keyHash P (Str.ofString "_is_atama_mentsu"), key := Value.str (Str.ofString "_is_atama_mentsu") 598, val := Value.ref 260 },
    {hash := PyData.keyHash P (Str.ofString "_to_meld"), key := Value.str (Str.ofString "_to_meld") 618, val := Value.ref 270 },
    {hash := PyData.keyHash P (Str.ofString "__static_attributes__"), key := Value.str (Str.ofString "__static_attributes__") 619, val := Value.ref 272 },
    {hash := PyData.keyHash P (Str.ofString "__dict__"), key := Value.str (Str.ofString "__dict__") 621, val := Value.ref 275 },
    {hash := PyData.keyHash P (Str.ofString "__weakref__"), key := Value.str (Str.ofString "__weakref__") 623, val := Value.ref 276 },
    {hash := PyData.keyHash P (Str.ofString "__doc__"), key := Value.str (Str.ofString "__doc__") 624, val := Value.none }]
   4 }
noncomputable def k274 (P : Params) : Obj :=
{cls := Value.type "type", data := Data.cls { name := Str.ofString "Agari", bases := [Value.type "object"], mro := [Value.ref 274, Value.type "object"], ns := 273, qualname := Str.ofString "Agari" },
 slots := #[Option.none, Option.none, Option.some (Value.str (Str.ofString "Agari") 526), Option.some (Value.str (Str.ofString "Agari") 534), Option.some (Value.builtin "object.__new__"), Option.some (Value.bool Bool.true)] }
noncomputable def k275 (P : Params) : Obj :=
{cls := Value.type "getset_descriptor", data := Data.fields #[Value.str (Str.ofString "__dict__") 620, Value.ref 274, Value.builtin "function.__dict__", Value.builtin "function.__dict__#set"] }
noncomputable def k276 (P : Params) : Obj :=
{cls := Value.type "getset_descriptor", data := Data.fields #[Value.str (Str.ofString "__weakref__") 622, Value.ref 274, Value.builtin "ExceptionGroup.__weakref__", Value.none] }
noncomputable def k284 (P : Params) : Obj :=
{cls := Value.type "code",
 data :=
  Data.fields
   #[Value.str (Str.ofString "_law_ends") 629, Value.str (Str.ofString "_law_ends") 630, Value.str (Str.ofString "/claim/cut.py") 631, Value.int 397 0, Value.int 0 0, Value.int 0 0, Value.int 0 0, Value.int 3 0,
    Value.ref 279, Value.bool Bool.true, Value.int 181 0, Value.ref 280, Value.none, Value.ref 281, Value.ref 282, Value.ref 283, Value.int 632 0, Value.int 397 0, Value.str (Str.ofString "/claim/cut.py") 633] }
noncomputable def k285 (P : Params) : Obj :=
{cls := Value.type "function",
 data :=
  Data.func
   {name := Str.ofString "_law_ends", qualname := Str.ofString "_law_ends", params := dArgs 18 1000, body := PySem.FuncBody.stmts (dBody 18 1000),
    scope := dScope 18 1000, globals := 3, closure := [], defaults := Value.none, kwdefaults := Value.none, pyModule := Value.str (Str.ofString "law_im0120_01") 627,
    code := Value.ref 284 } }
noncomputable def k291 (P : Params) : Obj :=
{cls := Value.type "code",
 data :=
  Data.fields
   #[Value.str (Str.ofString "_law_deal") 635, Value.str (Str.ofString "_law_deal") 636, Value.str (Str.ofString "/claim/cut.py") 637, Value.int 399 0, Value.int 1 0, Value.int 0 0, Value.int 0 0, Value.int 3 0,
    Value.ref 286, Value.bool Bool.true, Value.int 181 0, Value.ref 287, Value.none, Value.ref 288, Value.ref 289, Value.ref 290, Value.int 647 0, Value.int 399 0, Value.str (Str.ofString "/claim/cut.py") 648] }
noncomputable def k292 (P : Params) : Obj :=
{cls := Value.type "function",
 data :=
  Data.func
   {name := Str.ofString "_law_deal", qualname := Str.ofString "_law_deal", params := dArgs 19 1000, body := PySem.FuncBody.stmts (dBody 19 1000),
    scope := dScope 19 1000, globals := 3, closure := [], defaults := Value.none, kwdefaults := Value.none, pyModule := Value.str (Str.ofString "law_im0120_01") 627,
    code := Value.ref 291 } }
noncomputable def k296 (P : Params) : Obj :=
{cls := Value.type "code",
 data :=
  Data.fields
   #[Value.str (Str.ofString "_law_pairs_aim") 650, Value.str (Str.ofString "_law_pairs_aim") 651, Value.str (Str.ofString "/claim/cut.py") 652, Value.int 419 0, Value.int 1 0, Value.int 0 0, Value.int 0 0, Value.int 3 0,
    Value.ref 293, Value.bool Bool.true, Value.int 181 0, Value.ref 294, Value.none, Value.none, Value.none, Value.ref 295, Value.int 653 0, Value.int 419 0, Value.str (Str.ofString "/claim/cut.py") 654] }
noncomputable def k297 (P : Params) : Obj :=
{cls := Value.type "function",
 data :=
  Data.func
   {name := Str.ofString "_law_pairs_aim", qualname := Str.ofString "_law_pairs_aim", params := dArgs 20 1000, body := PySem.FuncBody.stmts (dBody 20 1000),
    scope := dScope 20 1000, globals := 3, closure := [], defaults := Value.none, kwdefaults := Value.none, pyModule := Value.str (Str.ofString "law_im0120_01") 627,
    code := Value.ref 296 } }
noncomputable def k301 (P : Params) : Obj :=
{cls := Value.type "code",
 data :=
  Data.fields
   #[Value.str (Str.ofString "_law_ends_aim") 656, Value.str (Str.ofString "_law_ends_aim") 657, Value.str (Str.ofString "/claim/cut.py") 658, Value.int 428 0, Value.int 1 0, Value.int 0 0, Value.int 0 0, Value.int 3 0,
    Value.ref 298, Value.bool Bool.true, Value.int 181 0, Value.ref 299, Value.none, Value.none, Value.none, Value.ref 300, Value.int 659 0, Value.int 428 0, Value.str (Str.ofString "/claim/cut.py") 660] }
noncomputable def k302 (P : Params) : Obj :=
{cls := Value.type "function",
 data :=
  Data.func
   {name := Str.ofString "_law_ends_aim", qualname := Str.ofString "_law_ends_aim", params := dArgs 21 1000, body := PySem.FuncBody.stmts (dBody 21 1000),
    scope := dScope 21 1000, globals := 3, closure := [], defaults := Value.none, kwdefaults := Value.none, pyModule := Value.str (Str.ofString "law_im0120_01") 627,
    code := Value.ref 301 } }
noncomputable def k308 (P : Params) : Obj :=
{cls := Value.type "code",
 data :=
  Data.fields
   #[Value.str (Str.ofString "_law_number") 662, Value.str (Str.ofString "_law_number") 663, Value.str (Str.ofString "/claim/cut.py") 664, Value.int 439 0, Value.int 2 0, Value.int 0 0, Value.int 0 0, Value.int 3 0,
    Value.ref 303, Value.bool Bool.true, Value.int 181 0, Value.ref 304, Value.none, Value.ref 305, Value.ref 306, Value.ref 307, Value.int 667 0, Value.int 439 0, Value.str (Str.ofString "/claim/cut.py") 668] }
noncomputable def k309 (P : Params) : Obj :=
{cls := Value.type "function",
 data :=
  Data.func
   {name := Str.ofString "_law_number", qualname := Str.ofString "_law_number", params := dArgs 22 1000, body := PySem.FuncBody.stmts (dBody 22 1000),
    scope := dScope 22 1000, globals := 3, closure := [], defaults := Value.none, kwdefaults := Value.none, pyModule := Value.str (Str.ofString "law_im0120_01") 627,
    code := Value.ref 308 } }
noncomputable def k315 (P : Params) : Obj :=
{cls := Value.type "code",
 data :=
  Data.fields
   #[Value.str (Str.ofString "_law_way") 670, Value.str (Str.ofString "_law_way") 671, Value.str (Str.ofString "/claim/cut.py") 672, Value.int 443 0, Value.int 4 0, Value.int 0 0, Value.int 0 0, Value.int 3 0, Value.ref 310,
    Value.bool Bool.true, Value.int 181 0, Value.ref 311, Value.none, Value.ref 312, Value.ref 313, Value.ref 314, Value.int 683 0, Value.int 443 0, Value.str (Str.ofString "/claim/cut.py") 684] }
noncomputable def k316 (P : Params) : Obj :=
{cls := Value.type "function",
 data :=
  Data.func
   {name := Str.ofString "_law_way", qualname := Str.ofString "_law_way", params := dArgs 23 1000, body := PySem.FuncBody.stmts (dBody 23 1000),
    scope := dScope 23 1000, globals := 3, closure := [], defaults := Value.none, kwdefaults := Value.none, pyModule := Value.str (Str.ofString "law_im0120_01") 627,
    code := Value.ref 315 } }
noncomputable def k320 (P : Params) : Obj :=
{cls := Value.type "code",
 data :=
  Data.fields
   #[Value.str (Str.ofString "law") 686, Value.str (Str.ofString "law") 687, Value.str (Str.ofString "/claim/cut.py") 688, Value.int 462 0, Value.int 1 0, Value.int 0 0, Value.int 0 0, Value.int 3 0, Value.ref 317,
    Value.bool Bool.true, Value.int 181 0, Value.ref 318, Value.none, Value.none, Value.none, Value.ref 319, Value.int 689 0, Value.int 462 0, Value.str (Str.ofString "/claim/cut.py") 690] }
noncomputable def k321 (P : Params) : Obj :=
{cls := Value.type "function",
 data :=
  Data.func
   {name := Str.ofString "law", qualname := Str.ofString "law", params := dArgs 24 1000, body := PySem.FuncBody.stmts (dBody 24 1000),
    scope := dScope 24 1000, globals := 3, closure := [], defaults := Value.none, kwdefaults := Value.none, pyModule := Value.str (Str.ofString "law_im0120_01") 627,
    code := Value.ref 320 } }
noncomputable def KW (P : Params) : Frag := [(2, k2 P), (3, k3 P), (39, k39 P), (45, k45 P), (46, k46 P), (48, k48 P), (53, k53 P), (54, k54 P), (56, k56 P), (63, k63 P), (64, k64 P), (66, k66 P), (68, k68 P), (74, k74 P), (75, k75 P), (77, k77 P), (80, k80 P), (81, k81 P), (82, k82 P), (83, k83 P), (98, k98 P), (99, k99 P), (105, k105 P), (106, k106 P), (112, k112 P), (113, k113 P), (119, k119 P), (120, k120 P), (126, k126 P), (127, k127 P), (133, k133 P), (134, k134 P), (140, k140 P), (141, k141 P), (147, k147 P), (148, k148 P), (154, k154 P), (155, k155 P), (161, k161 P), (162, k162 P), (168, k168 P), (169, k169 P), (175, k175 P), (176, k176 P), (182, k182 P), (183, k183 P), (189, k189 P), (190, k190 P), (196, k196 P), (197, k197 P), (203, k203 P), (204, k204 P), (210, k210 P), (211, k211 P), (217, k217 P), (218, k218 P), (220, k220 P), (221, k221 P), (222, k222 P), (223, k223 P), (233, k233 P), (237, k237 P), (238, k238 P), (240, k240 P), (247, k247 P), (248, k248 P), (250, k250 P), (257, k257 P), (258, k258 P), (260, k260 P), (267, k267 P), (268, k268 P), (270, k270 P), (273, k273 P), (274, k274 P), (275, k275 P), (276, k276 P), (284, k284 P), (285, k285 P), (291, k291 P), (292, k292 P), (296, k296 P), (297, k297 P), (301, k301 P), (302, k302 P), (308, k308 P), (309, k309 P), (315, k315 P), (316, k316 P), (320, k320 P), (321, k321 P)]
end Mj
namespace Mj
open PySem PySem.W PyProof.Rows
set_option maxRecDepth 100000
set_option maxHeartbeats 0
noncomputable def qW : Program := { pw with main := { pw.main with body := bodyW.drop 24 } }
noncomputable def looseN : List Str := ["TERMINAL_INDICES", "EAST", "SOUTH", "WEST", "NORTH", "HAKU", "HATSU", "CHUN", "WINDS", "DRAGONS", "HONOR_INDICES", "TERMINAL_AND_HONOR_INDICES", "Shanten", "_RegularShanten", "Agari",
 "_law_ends", "_law_deal", "_law_pairs_aim", "_law_ends_aim", "_law_number", "_law_way"]
noncomputable abbrev XtW : Shared → Bool := fun _ => true
noncomputable def asW (w : World) : List Nat := (KW w.params).map (·.1)
/-- what is looked at behind the top -/
noncomputable def lookW (w : World) (s : Shared) :=
 (staticsOk (importedModules pw.main.body) (boot_heap w.params) s.heap && namesBound pw s.heap && gensDone s && laidKept (boot_heap w.params) s.heap,
  openSeen qW looseN (importedModules pw.main.body) XtW true s, (asW w ++ [16, 30, 31]).map s.heap.get?)
noncomputable def goodW (w : World) (o16 o30 o31 : Obj) := (true, openGood qW looseN, (KW w.params).map (fun p => some p.2) ++ [some o16, some o30, some o31])
noncomputable abbrev sAny (P : Params) (led : Bool) (es : Array (Int × Value)) (ep : Nat) (t : SetTable) (os : OsState) : Shared := ⟨(hD P led).update 31 (fun _ => { cls := .type "frozenset", data := .set es ep t }), ⟨[]⟩, boot_drawn, 225, os⟩
-- one run for every set
theorem restAny (w : World) (os : OsState) (led : Bool) (es : Array (Int × Value)) (ep : Nat) (t : SetTable) : (topRun treeTable pw w 11 annW 3000 (sAny w.params led es ep t os) (restOf (bodyW.drop 12) envW codeW pos12 [topFrame pos0])).map (lookW w) = some (goodW w (oB16 led) (oC30 led) { cls := .type "frozenset", data := .set es ep t }) := by kernel_rfl
theorem sD_any (P : Params) (os : OsState) : ∃ es ep t, oD31 true = { cls := .type "frozenset", data := .set es ep t } ∧ sD P true os = sAny P true es ep t os := ⟨_, _, _, rfl, by kernel_rfl⟩
theorem restR (w : World) (os : OsState) : (topRun treeTable pw w 11 annW 3000 (sD w.params true os) (restOf (bodyW.drop 12) envW codeW pos12 [topFrame pos0])).map (lookW w) = some (goodW w (oB16 true) (oC30 true) (oD31 true)) := by
 obtain ⟨es, ep, t, e1, e2⟩ := sD_any w.params os
 rw [e1, e2]
 exact restAny w os true es ep t
end Mj
namespace Mj
open PySem PySem.W PyProof.Rows
set_option maxRecDepth 100000
set_option maxHeartbeats 0
noncomputable abbrev sDT (P : Params) (b : Bool) (os : OsState) : Shared := ⟨(hD P false).update 31 (fun _ => fz (esA b) tA 10), ⟨[]⟩, boot_drawn, 225, os⟩
theorem restT (w : World) (os : OsState) (b : Bool) : (topRun treeTable pw w 11 annW 3000 (sDT w.params b os) (restOf (bodyW.drop 12) envW codeW pos12 [topFrame pos0])).map (lookW w) = some (goodW w (oB16 false) (oC30 false) (fz (esA b) tA 10)) := restAny w os false (esA b) 10 tA
end Mj
namespace Mj
open PySem PySem.W PyProof.Rows
set_option maxRecDepth 100000
theorem runTen (w : World) (os : OsState) : segRun treeTable pw w 11 annW 1 526 (sA w.params false os) (piecesOf (bodyW.take 10) envW codeW pos0 [topFrame pos0]) = some (.next, sB w.params (!w.params.followText "set-order") os, codeW, pos10) := by
 have key : ∀ b c, segRun treeTable pw (wRow w b c) 11 annW 1 526 (sA (wRow w b c).params false os) (piecesOf (bodyW.take 10) envW codeW pos0 [topFrame pos0]) = some (.next, sB (wRow w b c).params (!c) os, codeW, pos10) := by
  intro b c
  cases b <;> cases c
  ·exact runTen00 w os
  ·exact runTen01 w os
  ·exact runTen10 w os
  ·exact runTen11 w os
 have e : wRow w (w.params.followText "special-get-raises") (w.params.followText "set-order") = w := by
  unfold wRow
  rw [World.withFollow_self w "special-get-raises"]
  exact World.withFollow_self w "set-order"
 have := key (w.params.followText "special-get-raises") (w.params.followText "set-order")
 rwa [e] at this
/-- the whole top of the text -/
theorem runTop (w : World) (os : OsState) {N : Nat} {r : Shared} {sd : Shared}
  (hu : ∀ (N : Nat) r, topRun treeTable pw w 11 annW N sd (restOf (bodyW.drop 12) envW codeW pos12 [topFrame pos0]) = some r →
   topRun treeTable pw w 11 annW (100 + (100 + N)) (sB w.params (!w.params.followText "set-order") os) (restOf (bodyW.drop 10) envW codeW pos10 [topFrame pos0]) = some r)
  (h : topRun treeTable pw w 11 annW N sd (restOf (bodyW.drop 12) envW codeW pos12 [topFrame pos0]) = some r) :
  topRun treeTable pw w 11 annW (12 + (1 + (526 + (100 + (100 + N))))) ⟨boot_heap w.params, ⟨[]⟩, boot_drawn, boot_toks, os⟩ (topStub pw) = some r := by
 refine go_top (runPre w os) ?_
 refine piece_block (runBlock w os) ?_
 exact piece_app (l := bodyW.take 10) (rest := bodyW.drop 10) (runTen w os) (hu N r h)
theorem looked {w : World} {s : Shared} {N : Nat} {g : Bool × _} (h : (topRun treeTable pw w 11 annW N s (restOf (bodyW.drop 12) envW codeW pos12 [topFrame pos0])).map (lookW w) = some g) :
  ∃ r, topRun treeTable pw w 11 annW N s (restOf (bodyW.drop 12) envW codeW pos12 [topFrame pos0]) = some r ∧ lookW w r = g := Option.map_eq_some_iff.mp h
end Mj
namespace Mj
open PySem PySem.W PyProof.Rows
set_option maxRecDepth 100000
noncomputable def asL : List Nat := [2, 3, 39, 45, 46, 48, 53, 54, 56, 63, 64, 66, 68, 74, 75, 77, 80, 81, 82, 83, 98, 99, 105, 106, 112, 113, 119, 120, 126, 127, 133, 134, 140, 141, 147, 148, 154, 155, 161, 162, 168, 169, 175, 176, 182, 183, 189, 190, 196, 197, 203, 204, 210, 211, 217, 218, 220, 221, 222, 223, 233, 237, 238, 240, 247, 248, 250, 257, 258, 260, 267, 268, 270, 273, 274, 275, 276, 284, 285, 291, 292, 296, 297, 301, 302, 308, 309, 315, 316, 320, 321]
theorem asW_eq (w : World) : asW w = asL := by kernel_rfl
noncomputable def YfW (s : Shared) : List (Option Obj) := (asL ++ [16, 30, 31]).map s.heap.get?
noncomputable def YW (w : World) (o16 o30 o31 : Obj) : List (Option Obj) := (KW w.params).map (fun p => some p.2) ++ [some o16, some o30, some o31]
/-- the two frozensets, as the world lets them lie -/
noncomputable def SetGood (w : World) (o : Obj) : Prop := (w.params.followText "set-order" = false ∧ o = oD31 true) ∨ (w.params.followText "set-order" = true ∧ ∃ b, o = fz (esA b) tA 10)
theorem topEnds (w : World) : ∃ o16 o30 o31, SetGood w o31 ∧ (openEnds treeTable pw w 4000).map (fun s => (openSeen qW looseN (importedModules pw.main.body) XtW true s, YfW s)) = some (openGood qW looseN, YW w o16 o30 o31) := by
 have hf : ∀ s, fenceModules? pw s = some s := fun s => by kernel_rfl
 obtain ⟨⟨h, gs, d, k, os⟩, e, e'⟩ := Option.map_eq_some_iff.mp (boot_open (p := pw) (N := 4000) (by kernel_rfl) (by kernel_rfl) hf w)
 obtain ⟨rfl, rfl, rfl, rfl⟩ : h = boot_heap w.params ∧ gs = ⟨[]⟩ ∧ d = boot_drawn ∧ k = boot_toks := by simpa using e'
 have main : ∃ o16 o30 o31, SetGood w o31 ∧ ∃ r, topRun treeTable pw w 11 annW (12 + (1 + (526 + (100 + (100 + 3000))))) ⟨boot_heap w.params, ⟨[]⟩, boot_drawn, boot_toks, os⟩ (topStub pw) = some r ∧ lookW w r = goodW w o16 o30 o31 := by
  cases hm : w.params.followText "set-order" with
  | false =>
   have ew : w.withFollow "set-order" false = w := by rw [← hm]; exact World.withFollow_self w "set-order"
   have h1 := runHonR w os
   have h2 := runTahR w os
   rw [ew] at h1 h2
   obtain ⟨r, hr, hl⟩ := looked (restR w os)
   refine ⟨_, _, _, .inl ⟨hm, rfl⟩, r, runTop w os (fun N r h => ?_) hr, hl⟩
   rw [hm]
   exact piece_app (l := (bodyW.drop 10).take 1) (rest := bodyW.drop 11) h1 (piece_app (l := (bodyW.drop 11).take 1) (rest := bodyW.drop 12) h2 h)
  | true =>
   have ew : w.withFollow "set-order" true = w := by rw [← hm]; exact World.withFollow_self w "set-order"
   have h1 := runHonT w os
   obtain ⟨b, h2⟩ := runTahT w os
   unfold wT at h1 h2
   rw [ew] at h1 h2
   obtain ⟨r, hr, hl⟩ := looked (restT w os b)
   refine ⟨_, _, _, .inr ⟨hm, b, rfl⟩, r, runTop w os (fun N r h => ?_) hr, hl⟩
   rw [hm]
   exact piece_app (l := (bodyW.drop 10).take 1) (rest := bodyW.drop 11) h1 (piece_app (l := (bodyW.drop 11).take 1) (rest := bodyW.drop 12) h2 h)
 obtain ⟨o16, o30, o31, hs, r, hr, hl⟩ := main
 refine ⟨o16, o30, o31, hs, ?_⟩
 obtain ⟨l1, l2, l3⟩ : _ ∧ _ ∧ _ := by simpa only [lookW, goodW, Prod.mk.injEq] using hl
 have hr' := topRun_mono (4000 - (12 + (1 + (526 + (100 + (100 + 3000)))))) _ _ _ _ hr
 have t : topFrom treeTable pw w 4000 ⟨boot_heap w.params, ⟨[]⟩, boot_drawn, boot_toks, os⟩ = some r := by
  unfold topFrom
  have z : ((boot_heap w.params).isNs mainGlobals && (#[] : Array GenState).size == 0, (boot_heap w.params).objs.size, (boot_heap w.params).nsMap mainGlobals "__annotations__") = (true, 11, annW) := by kernel_rfl
  obtain ⟨z1, z2, z3⟩ : _ ∧ _ ∧ _ := by simpa only [Prod.mk.injEq] using z
  dsimp only
  rw [show ((boot_heap w.params).isNs mainGlobals && (⟨[]⟩ : Array GenState).size == 0) = true from z1, z2, z3]
  dsimp only
  rw [show 12 + (1 + (526 + (100 + (100 + 3000)))) + (4000 - (12 + (1 + (526 + (100 + (100 + 3000)))))) = 4000 from rfl] at hr'
  rw [hr']
  simp only [Option.bind_some]
  rw [l1]
 unfold openEnds
 rw [e]
 show (topFrom treeTable pw w 4000 _).map _ = _
 rw [t]
 rw [asW_eq] at l3
 exact congrArg some (Prod.ext l2 l3)
noncomputable def YaW (w : World) : List (Option Obj) := YW w (topEnds w).choose (topEnds w).choose_spec.choose (topEnds w).choose_spec.choose_spec.choose
theorem leftW : LeftO pw qW looseN XtW YfW YaW 4000 := fun w => (topEnds w).choose_spec.choose_spec.choose_spec.2
/-- what the walk knows of the heap behind the top -/
noncomputable def YPW (w : World) (h : Heap) : Prop := (KW w.params).In h ∧ ∃ o31, h.get? 31 = some o31 ∧ SetGood w o31
theorem ypW (w : World) (s : Shared) (e : YfW s = YaW w) : YPW w s.heap := by
 unfold YfW YaW YW at e
 rw [List.map_append] at e
 have hlen : (asL.map s.heap.get?).length = ((KW w.params).map (fun p => some p.2)).length := by rw [List.length_map, List.length_map, ← asW_eq w]; exact List.length_map ..
 obtain ⟨e1, e2⟩ := List.append_inj e hlen
 refine ⟨Frag.in_of (as := asL) (asW_eq w).symm e1, _, ?_, (topEnds w).choose_spec.choose_spec.choose_spec.1⟩
 simp only [List.map_cons, List.map_nil, List.cons.injEq] at e2
 exact e2.2.2.1
theorem ypW_keeps (w : World) (h h' : Heap) (y : YPW w h) (k : ∀ b o, h.get? b = some o → h'.get? b = some o) : YPW w h' :=
 ⟨y.1.keeps k, let ⟨o, a, b⟩ := y.2; ⟨o, k _ _ a, b⟩⟩
end Mj
namespace Mj
open PySem PySem.W PyProof.Rows PySem.Spec
theorem slot_fz_iter : Slot "frozenset" "__iter__" "frozenset.__iter__" :=
 .of (owner := "frozenset") (n := "__iter__") (by rw [typeLookup_type, builtinLookup_eq_fast]; kernel_rfl) (by decide +kernel) (by decide +kernel) (by decide +kernel)
  (by first | exact .inl (by decide +kernel) | exact .inr (by decide +kernel)) (by rw [isSubtype_type]; kernel_rfl)
theorem entry_fz_iter : entryFor table "frozenset.__iter__" = some Builtin.«frozenset.__iter__» := entryFor_of_tree (by kernel_rfl)
theorem args_fz_iter (a : Value) : argsOk "frozenset.__iter__" ⟨[a], []⟩ := by
 unfold argsOk; rw [signature?_of (id := "frozenset.__iter__") (n := ['_', '_', 'r', 'e', 't', 'i', '_', '_']) (o := ['t', 'e', 's', 'n', 'e', 'z', 'o', 'r', 'f']) (by kernel_rfl) FB.owner_frozenset]; kernel_rfl
theorem slot_si_next : Slot "set_iterator" "__next__" "set_iterator.__next__" :=
 .of (owner := "set_iterator") (n := "__next__") (by rw [typeLookup_type, builtinLookup_eq_fast]; kernel_rfl) (by decide +kernel) (by decide +kernel) (by decide +kernel)
  (by first | exact .inl (by decide +kernel) | exact .inr (by decide +kernel)) (by rw [isSubtype_type]; kernel_rfl)
theorem slot_si_iter : Slot "set_iterator" "__iter__" "set_iterator.__iter__" :=
 .of (owner := "set_iterator") (n := "__iter__") (by rw [typeLookup_type, builtinLookup_eq_fast]; kernel_rfl) (by decide +kernel) (by decide +kernel) (by decide +kernel)
  (by first | exact .inl (by decide +kernel) | exact .inr (by decide +kernel)) (by rw [isSubtype_type]; kernel_rfl)
theorem entry_si_next : entryFor table "set_iterator.__next__" = some Builtin.«set_iterator.__next__» := entryFor_of_tree (by kernel_rfl)
theorem entry_si_iter : entryFor table "set_iterator.__iter__" = some Builtin.«dict_keyiterator.__iter__» :=
 entryFor_alias (id' := "dict_keyiterator.__iter__") (by kernel_rfl) rfl (by decide +kernel) (by kernel_rfl)
theorem args_si_next (a : Value) : argsOk "set_iterator.__next__" ⟨[a], []⟩ := by unfold argsOk; kernel_rfl
theorem args_si_iter (a : Value) : argsOk "set_iterator.__iter__" ⟨[a], []⟩ := by unfold argsOk; kernel_rfl
end Mj
namespace Mj
open PySem PySem.W PyProof.Rows PySem.Spec
structure SetAs (w : World) (a0 : Addr) (es : Array (Int × Value)) (ep : Nat) (t : SetTable) (vs : List Value) : Prop where
 fit : t.fits es.size = true
 plain : t.plain = true
 mode : (w.params.followText "set-order" = true ∧ vs = (pickOrder (w.params.setOrder a0 ep) es).toList.map (·.2)) ∨
  (w.params.followText "set-order" = false ∧ t.led = true ∧ vs = es.toList.map (·.2) ∧ SetTable.below t.place 0 = 0 ∧ ∀ i : Nat, i < es.size → ∃ j : Nat, t.place[i]? = some j ∧ SetTable.below t.place (j + 1) = i + 1)
noncomputable def siObj (a0 : Addr) (n ep slot i : Nat) : Obj := ⟨.type "set_iterator", none, .fields #[rawInt slot, rawInt i, .ref a0, rawInt n, rawInt ep], #[]⟩
noncomputable abbrev fzObj (es : Array (Int × Value)) (ep : Nat) (t : SetTable) : Obj := ⟨.type "frozenset", none, .set es ep t, #[]⟩
/-- one frozenset, as it lies -/
@[reducible] def setW (w : World) (a0 : Addr) (es : Array (Int × Value)) (ep : Nat) (t : SetTable) (vs : List Value) : SetW where
 rel a o us := a = a0 ∧ o = fzObj es ep t ∧ us = vs
 it a _ i oi := a = a0 ∧ ∃ slot, oi = siObj a0 es.size ep slot i ∧ (w.params.followText "set-order" = false → SetTable.below t.place slot = i)
section
variable {prog : Program} {w : World} {A : Around} {E : Value → Shared → Prop} {s : Shared} {a0 I : Addr} {es : Array (Int × Value)} {ep : Nat} {t : SetTable} {vs : List Value} {i slot : Nat}
theorem fz_text {Q : Bool → Shared → Prop} (h : Q (w.params.followText "set-order") s) : wpAny (model prog w) A setsByText Q E s := by
 unfold setsByText
 exact wpAny_bind (wpAny_askSetting (wpAny_pure h))
theorem fz_state {Q : (Array (Int × Value) × Nat × SetTable) → Shared → Prop} (S : SetAs w a0 es ep t vs) (ho : s.heap.get? a0 = some (fzObj es ep t)) (h : Q (es, ep, t) s) : wpAny (model prog w) A (setState a0) Q E s :=
 wpAny_setState_of ho rfl S.fit h
theorem not_drawn {b : Bool} (hp : t.plain = true) {n : Nat} : ¬ ((!b && (!t.plain && decide (n > 1))) = true) := by
 rw [hp]; cases b <;> simp
theorem fz_drawn {Q : Bool → Shared → Prop} (S : SetAs w a0 es ep t vs) (ho : s.heap.get? a0 = some (fzObj es ep t)) (h : Q false s) : wpAny (model prog w) A (setDrawn a0) Q E s := by
 unfold setDrawn
 refine wpAny_bind (fz_state S ho ?_)
 refine wpAny_bind (fz_text (wpAny_pure ?_))
 have e : (!w.params.followText "set-order" && (!t.plain && decide (es.size > 1))) = false := Bool.eq_false_iff.mpr (not_drawn S.plain)
 exact e ▸ h
theorem fz_epoch {Q : Nat → Shared → Prop} (S : SetAs w a0 es ep t vs) (ho : s.heap.get? a0 = some (fzObj es ep t)) (h : Q ep s) : wpAny (model prog w) A (setEpoch a0) Q E s := by
 unfold setEpoch
 exact wpAny_bind (fz_state S ho (wpAny_pure h))
theorem fz_entries {Q : Array (Int × Value) → Shared → Prop} (S : SetAs w a0 es ep t vs) (ho : s.heap.get? a0 = some (fzObj es ep t)) (h : Q es s) : wpAny (model prog w) A (setEntries a0) Q E s := by
 unfold setEntries
 exact wpAny_bind (fz_state S ho (wpAny_pure h))
theorem fz_iter {Q : Value → Shared → Prop} (S : SetAs w a0 es ep t vs) (ho : s.heap.get? a0 = some (fzObj es ep t)) (h : Q (.ref s.heap.objs.size) { s with heap := s.heap.push (siObj a0 es.size ep 0 0) }) :
  wpAny (model prog w) A (pyIter (.ref a0)) Q E s := by
 have hT : s.TypeIs (.ref a0) "frozenset" := ⟨_, ho, rfl⟩
 refine wpAny_pyIter_slot hT slot_fz_iter (wpAny_call_entry slot_fz_iter hT entry_fz_iter ?_ (args_fz_iter _))
 unfold Builtin.«frozenset.__iter__» Builtin.Frozenset.slot0 Builtin.Frozenset.sizeOf setEntries slotArgs
 simp only [List.isEmpty_nil, Bool.not_true, Bool.false_eq_true, if_false, List.length_nil, bind_assoc, pure_bind]
 refine wpAny_bind (wpAny_pure ?_)
 refine wpAny_bind (wpAny_pure ?_)
 refine wpAny_bind (fz_state S ho ?_)
 refine wpAny_bind (fz_drawn S ho ?_)
 rw [if_neg Bool.false_ne_true]
 refine wpAny_bind (fz_epoch S ho ?_)
 unfold newFields
 exact wpAny_bind (wpAny_newObj_type (wpAny_pure ⟨_, rfl, "set_iterator", _, ⟨_, Heap.get?_push_size _ rfl, rfl⟩, slot_si_next.lookup, h⟩))
theorem fz_self {Q : Value → Shared → Prop} (ho : s.heap.get? I = some (siObj a0 es.size ep slot i)) (h : Q (.ref I) s) : wpAny (model prog w) A (pyIter (.ref I)) Q E s := by
 have hT : s.TypeIs (.ref I) "set_iterator" := ⟨_, ho, rfl⟩
 refine wpAny_pyIter_slot hT slot_si_iter (wpAny_call_entry slot_si_iter hT entry_si_iter ?_ (args_si_iter _))
 show wpAny _ _ (ret (.ref I)) _ _ s
 exact wpAny_pure ⟨_, rfl, "set_iterator", _, hT, slot_si_next.lookup, h⟩
theorem fz_next {Q : Option (Value × Nat) → Shared → Prop} (S : SetAs w a0 es ep t vs) (ho : s.heap.get? a0 = some (fzObj es ep t)) (hb : w.params.followText "set-order" = false → SetTable.below t.place slot = i)
  (h : ∀ slot', (w.params.followText "set-order" = false → i < es.size → SetTable.below t.place slot' = i + 1) → Q ((vs[i]?).map fun v => (v, slot')) s) : wpAny (model prog w) A (setNext a0 slot i ep) Q E s := by
 unfold setNext
 refine wpAny_bind (fz_state S ho ?_)
 dsimp only
 refine wpAny_bind (fz_text ?_)
 rcases S.mode with ⟨m1, m2⟩ | ⟨m1, m2, m3, m4, m5⟩
 ·rw [m1, if_pos rfl]
  simp only [bne_self_eq_false, Bool.false_eq_true, if_false]
  unfold setWalk
  refine wpAny_bind ?_
  refine wpAny_bind (fz_state S ho ?_)
  dsimp only
  refine wpAny_bind (fz_text ?_)
  rw [m1, if_pos rfl]
  refine wpAny_bind (wpAny_askSetting ?_)
  refine wpAny_pure (wpAny_pure ?_)
  have := h slot (fun e => by rw [m1] at e; cases e)
  rw [m2, List.getElem?_map, Option.map_map, Array.getElem?_toList] at this
  exact this
 ·rw [m1, if_neg Bool.false_ne_true]
  have hnd : ¬ ((!t.plain && decide (es.size > 1)) = true) := by rw [S.plain]; simp
  split
  ·rename_i hd; exact absurd hd hnd
  refine wpAny_bind (wpAny_of_eq (a := ()) (by show (if (!t.led && !es.isEmpty) = true then _ else _) = _; rw [m2]; rfl) ?_)
  rw [hb m1]
  refine wpAny_pure ?_
  by_cases hi : i < es.size
  ·obtain ⟨j, hj, hj'⟩ := m5 i hi
   have := h (j + 1) fun _ _ => hj'
   rw [hj, Array.getElem?_eq_getElem hi]
   rw [m3, List.getElem?_map, Array.getElem?_toList, Array.getElem?_eq_getElem hi] at this
   exact this
  ·have := h 0 fun _ e => absurd e hi
   rw [m3, List.getElem?_map, Array.getElem?_toList, Array.getElem?_eq_none (by lia)] at this
   rw [Array.getElem?_eq_none (by lia)]
   exact this
theorem vs_len (S : SetAs w a0 es ep t vs) : vs.length = es.size := by
 rcases S.mode with ⟨m1, m2⟩ | ⟨m1, m2, m3, m4, m5⟩
 ·rw [m2, List.length_map, (pickOrder_perm _ _).length_eq]; rfl
 ·rw [m3, List.length_map]; rfl
theorem fz_item {Q : Option Value → Shared → Prop} {v : Value} (S : SetAs w a0 es ep t vs) (ho : s.heap.get? a0 = some (fzObj es ep t)) (hI : s.heap.get? I = some (siObj a0 es.size ep slot i)) (hb : w.params.followText "set-order" = false → SetTable.below t.place slot = i)
  (hv : vs[i]? = some v) (hne : I ≠ a0)
  (hQ : ∀ h' slot', (w.params.followText "set-order" = false → SetTable.below t.place slot' = i + 1) → h'.get? I = some (siObj a0 es.size ep slot' (i + 1)) → (∀ b x, b ≠ I → s.heap.get? b = some x → h'.get? b = some x) → Q (some v) { s with heap := h' }) :
  wpAny (model prog w) A (pyNext (.ref I)) Q E s := by
 have hT : s.TypeIs (.ref I) "set_iterator" := ⟨_, hI, rfl⟩
 have hi : i < es.size := by rw [← vs_len S]; exact (List.getElem?_eq_some_iff.mp hv).1
 unfold pyNext
 refine wpAny_bind (wpAny_attempt (wpAny_callSpecial?_slot (name := Str.ofString "__next__") hT slot_si_next
  (wpAny_call_entry slot_si_next hT entry_si_next ?_ (args_si_next _))))
 unfold Builtin.«set_iterator.__next__» slotArgs
 simp only [List.isEmpty_nil, Bool.not_true, Bool.false_eq_true, if_false, List.length_nil, bind_assoc, pure_bind]
 refine wpAny_bind (wpAny_pure ?_)
 refine wpAny_bind (wpAny_fieldsOf hI rfl ?_)
 dsimp only [rawInt]
 refine wpAny_bind (fz_entries S ho ?_)
 rw [if_neg (by simp)]
 dsimp only [Int.toNat_natCast]
 refine wpAny_bind (fz_next S ho hb fun slot' hs' => ?_)
 rw [hv]
 dsimp only [Option.map]
 refine wpAny_bind (wpAny_setField hI rfl (by simp) ?_)
 have hI1 := Heap.get?_update_self (Obj.mapFields (·.setIfInBounds 0 (Value.int slot' 0))) hI rfl
 refine wpAny_bind (wpAny_setField (s := { s with heap := s.heap.update I (Obj.mapFields (·.setIfInBounds 0 (Value.int slot' 0))) }) hI1 rfl (by simp) ?_)
 have hI2 := Heap.get?_update_self (Obj.mapFields (·.setIfInBounds 1 (Value.int ((i : Int) + 1) 0))) hI1 rfl
 refine wpAny_pure ⟨v, rfl, wpAny_pure (hQ _ slot' (fun e => hs' e hi) (hI2.trans rfl) fun b x hbx e => ?_)⟩
 rw [Heap.get?_update_ne _ _ _ _ hbx, Heap.get?_update_ne _ _ _ _ hbx]
 exact e
theorem fz_done {Q : Option Value → Shared → Prop} (hh : A.handled = none) (S : SetAs w a0 es ep t vs) (ho : s.heap.get? a0 = some (fzObj es ep t)) (hI : s.heap.get? I = some (siObj a0 es.size ep slot i)) (hb : w.params.followText "set-order" = false → SetTable.below t.place slot = i)
  (hv : vs[i]? = none) (hQ : ∀ h', (∀ b x, b ≠ I → s.heap.get? b = some x → h'.get? b = some x) → Q none { s with heap := h' }) : wpAny (model prog w) A (pyNext (.ref I)) Q E s := by
 have hT : s.TypeIs (.ref I) "set_iterator" := ⟨_, hI, rfl⟩
 unfold pyNext
 refine wpAny_bind (wpAny_attempt (wpAny_callSpecial?_slot (name := Str.ofString "__next__") hT slot_si_next
  (wpAny_call_entry slot_si_next hT entry_si_next ?_ (args_si_next _))))
 unfold Builtin.«set_iterator.__next__» slotArgs
 simp only [List.isEmpty_nil, Bool.not_true, Bool.false_eq_true, if_false, List.length_nil, bind_assoc, pure_bind]
 refine wpAny_bind (wpAny_pure ?_)
 refine wpAny_bind (wpAny_fieldsOf hI rfl ?_)
 dsimp only [rawInt]
 refine wpAny_bind (fz_entries S ho ?_)
 rw [if_neg (by simp)]
 dsimp only [Int.toNat_natCast]
 refine wpAny_bind (fz_next S ho hb fun slot' hs' => ?_)
 rw [hv]
 dsimp only [Option.map]
 refine wpAny_bind (wpAny_setField hI rfl (by simp) ?_)
 show wpAny _ _ (newExc (.type "StopIteration") [] >>= _) _ _ _
 refine wpAny_bind ?_
 simp only [newExc, newTuple]
 refine wpAny_bind (wpAny_newObj_type ?_ (by size_fits))
 refine wpAny_bind (m := firstArgMember _ _) (wpAny_of_eq (a := Value.none) (by first | rfl | (simp only [firstArgMember]; rfl)) ?_)
 refine wpAny_newObj_type ?_ (by size_fits)
 simp only [raiseNew]
 refine wpAny_bind (wpAny_handled ?_)
 rw [show A.in1.handled = none from hh]
 refine wpAny_bind (wpAny_pure (wpAny_throw ?_))
 refine wpAny_bind (wpAny_isInstance (T := "StopIteration") (b := true) ⟨_, Heap.get?_push_size _ rfl, rfl⟩ isSubtype_stop ?_)
 refine wpAny_pure (hQ _ fun b x hbx e => ?_)
 refine Heap.get?_push_of_some _ (Heap.get?_push_of_some _ ?_)
 rw [Heap.get?_update_ne _ _ _ _ hbx]
 exact e
theorem setOk (S : SetAs w a0 es ep t vs) : @SetOk (setW w a0 es ep t vs) prog w :=
 letI := setW w a0 es ep t vs
 {uniq := fun ⟨_, a, _⟩ ⟨_, b, _⟩ => a.trans b.symm
  iter := fun {A E s Q a o us} ⟨h1, h2, h3⟩ ho h => by
   subst h1 h2
   exact fz_iter S ho (h _ ⟨rfl, 0, rfl, fun e => by rcases S.mode with ⟨m, _⟩ | ⟨_, _, _, m, _⟩; rw [m] at e; cases e; exact m⟩ rfl rfl)
  item := fun {A E s Q a o us I i oi v} ⟨h1, h2, h3⟩ ho hI ⟨_, slot, h5, h6⟩ hv hne h => by
   subst h1 h2 h3 h5
   exact fz_item S ho hI h6 hv hne fun h' slot' q1 q2 q3 => h h' s.toks _ ⟨rfl, slot', rfl, q1⟩ rfl q2 q3
  self := fun {A E s Q a o i I oi} hI ⟨_, slot, h5, _⟩ h => by
   subst h5
   exact fz_self hI h
  done := fun {A E s Q a o us I i oi} hh ⟨h1, h2, h3⟩ ho hI ⟨_, slot, h5, h6⟩ hv hne h => by
   subst h1 h2 h3 h5
   exact fz_done hh S ho hI h6 hv fun h' q => h h' s.toks q }
end
end Mj
namespace Mj
open PySem PySem.W PyProof.Rows PySem.Spec
set_option maxRecDepth 100000
noncomputable def fnAt (i j : Nat) (ds : List AV) : Fn := ⟨"", (dArgs i j).args.map (·.arg), ds, dBody i j, dScope i j⟩
noncomputable def fnGood (fn : Fn) : Bool := decide fn.params.Nodup && decide (fn.scope.names.map (·.1)).Nodup && !fn.scope.isCoroutine && !fn.scope.isGenerator && decide (fn.scope.kind = .function) && (fn.scope.names.lookup ("__classdict__" : Str)).isNone &&
 fn.params.all (fun x => decide (fn.scope.names.lookup x = some .local) || decide (fn.scope.names.lookup x = some .cell)) && fn.scope.names.all fun p => !decide (p.2 = .free)
noncomputable def argGood (a : Arguments) (n : Nat) : Bool := a.posonlyargs.isEmpty && a.kwonlyargs.isEmpty && a.vararg.isNone && a.kwarg.isNone && Nat.ble n a.args.length
theorem VRs.drop' [SetW] {ρ : Rho} : ∀ {n : Nat} {as : List AV} {rs : List Value}, VRs ρ as rs → VRs ρ (as.drop n) (rs.drop n)
 | 0, _, _, h => h
 | n + 1, [], [], _ => trivial
 | n + 1, _ :: _, _ :: _, h => VRs.drop' (n := n) h.2
 | n + 1, [], _ :: _, h => h.elim
 | n + 1, _ :: _, [], h => h.elim
theorem fnOk_of [SetW] {B : Heap} {a : Addr} {i j : Nat} {ds : List AV} {o : Obj} {fd : FuncData} {rds : List Value} (h : B.get? a = some o) (hd : o.data = .func fd) (h1 : fd.body = .stmts (dBody i j)) (h2 : fd.closure = []) (h3 : fd.scope = dScope i j)
  (h4 : fd.globals = mainGlobals) (h5 : fd.builtins = builtinsNs) (h6 : fd.params = dArgs i j) (h7 : B.CodeRec fd.code fd.qualname) (good : (fnGood (fnAt i j ds) && argGood (dArgs i j) ds.length) = true) (hv : VRs [] ds rds)
  (hs : ∀ (s : Shared), (∀ b o, B.get? b = some o → s.heap.get? b = some o) → ∀ (M : Model) (A : Around) (E : Value → Shared → Prop) (Q : Option (Array Value) → Shared → Prop), (∀ d?, (d?.getD #[]).toList = rds → Q d? s) → wpAny M A (seqItems? fd.defaults) Q E s) :
  FnOk B a (fnAt i j ds) := by
 obtain ⟨g1, g2⟩ := Bool.and_eq_true_iff.mp good
 simp only [fnGood, Bool.and_eq_true, decide_eq_true_eq, Bool.not_eq_true', List.all_eq_true, Bool.or_eq_true, decide_eq_false_iff_not, Option.isNone_iff_eq_none] at g1
 simp only [argGood, Bool.and_eq_true, List.isEmpty_iff, Option.isNone_iff_eq_none] at g2
 obtain ⟨⟨⟨⟨⟨⟨⟨q1, q2⟩, q3⟩, q4⟩, q5⟩, q6⟩, q7⟩, q8⟩ := g1
 obtain ⟨⟨⟨⟨r1, r2⟩, r3⟩, r4⟩, r5⟩ := g2
 refine ⟨q1, q2, ⟨q3, q4, q5, q6⟩, q7, q8, o, fd, h, hd, h1, h2, h3, h4, h5, h7, fun s rs hk l1 l2 => ⟨rds.drop (rs.length + rds.length - (fnAt i j ds).params.length), ?_, ?_⟩⟩
 ·have e : (fnAt i j ds).dflts.length = rds.length := by show ds.length = _; have := hv.length; lia
  rw [e]
  exact hv.drop'
 ·have hl := hv.length
  have hr5 := Nat.le_of_ble_eq_true r5
  refine bindsTo_plain (by rw [h6, r1]) (by rw [h6, r2]) (by rw [h6, r3]) (by rw [h6, r4]) (by rw [h6]; rfl) q1 (hs s hk) l1 ?_ ?_
  ·have : (fnAt i j ds).dflts.length = ds.length := rfl
   lia
  ·have e : (fnAt i j ds).params.length = (dArgs i j).args.length := List.length_map ..
   lia
theorem fnOk_0 [SetW] {B : Heap} {a : Addr} {i j : Nat} {o : Obj} {fd : FuncData} (h : B.get? a = some o) (hd : o.data = .func fd) (h1 : fd.body = .stmts (dBody i j)) (h2 : fd.closure = []) (h3 : fd.scope = dScope i j)
  (h4 : fd.globals = mainGlobals) (h5 : fd.builtins = builtinsNs) (h6 : fd.params = dArgs i j) (h8 : fd.defaults = .none) (h7 : B.CodeRec fd.code fd.qualname) (good : (fnGood (fnAt i j []) && argGood (dArgs i j) 0) = true) :
  FnOk B a (fnAt i j []) := fnOk_of (rds := []) h hd h1 h2 h3 h4 h5 h6 h7 good trivial fun s hk M A E Q hQ => by
 rw [h8]
 unfold seqItems?
 exact wpAny_bind (wpAny_pure (wpAny_pure (hQ none rfl)))
theorem fnOk_T [SetW] {B : Heap} {a : Addr} {i j : Nat} {ds : List AV} {o od : Obj} {fd : FuncData} {rds : Array Value} {n t : Nat} (h : B.get? a = some o) (hd : o.data = .func fd) (h1 : fd.body = .stmts (dBody i j)) (h2 : fd.closure = []) (h3 : fd.scope = dScope i j)
  (h4 : fd.globals = mainGlobals) (h5 : fd.builtins = builtinsNs) (h6 : fd.params = dArgs i j) (h8 : fd.defaults = .ref t) (h7 : B.CodeRec fd.code fd.qualname) (good : (fnGood (fnAt i j ds) && argGood (dArgs i j) ds.length) = true)
  (ht : B.get? t = some od) (htd : od.data = .seq rds n) (hv : VRs [] ds rds.toList) : FnOk B a (fnAt i j ds) := fnOk_of (rds := rds.toList) h hd h1 h2 h3 h4 h5 h6 h7 good hv fun s hk M A E Q hQ => by
 rw [h8]
 exact wpAny_seqItems (hk _ _ ht) htd (hQ _ rfl)
end Mj
namespace Mj
open PySem PySem.W PyProof.Rows PySem.Spec
set_option maxRecDepth 100000
theorem fo46 [SetW] (P : Params) {B : Heap} (X : (KW P).In B) : FnOk B 46 (fnAt 13 4 [.bool true, .bool true, .bool false]) := fnOk_T (o := k46 P) (od := k39 P) (rds := #[Value.bool true, Value.bool true, Value.bool false]) (X _ _ (by kernel_rfl)) rfl rfl rfl rfl rfl rfl rfl rfl (codeRec_of X (by kernel_rfl)) (by kernel_rfl) (X _ _ (by kernel_rfl)) rfl (by simp [VRs, VR])
theorem fo54 [SetW] (P : Params) {B : Heap} (X : (KW P).In B) : FnOk B 54 (fnAt 13 5 []) := fnOk_0 (o := k54 P) (X _ _ (by kernel_rfl)) rfl rfl rfl rfl rfl rfl rfl rfl (codeRec_of X (by kernel_rfl)) (by kernel_rfl)
theorem fo64 [SetW] (P : Params) {B : Heap} (X : (KW P).In B) : FnOk B 64 (fnAt 13 6 []) := fnOk_0 (o := k64 P) (X _ _ (by kernel_rfl)) rfl rfl rfl rfl rfl rfl rfl rfl (codeRec_of X (by kernel_rfl)) (by kernel_rfl)
theorem fo75 [SetW] (P : Params) {B : Heap} (X : (KW P).In B) : FnOk B 75 (fnAt 13 7 [.bool false]) := fnOk_T (o := k75 P) (od := k68 P) (rds := #[Value.bool false]) (X _ _ (by kernel_rfl)) rfl rfl rfl rfl rfl rfl rfl rfl (codeRec_of X (by kernel_rfl)) (by kernel_rfl) (X _ _ (by kernel_rfl)) rfl (by simp [VRs, VR])
theorem fo99 [SetW] (P : Params) {B : Heap} (X : (KW P).In B) : FnOk B 99 (fnAt 14 0 []) := fnOk_0 (o := k99 P) (X _ _ (by kernel_rfl)) rfl rfl rfl rfl rfl rfl rfl rfl (codeRec_of X (by kernel_rfl)) (by kernel_rfl)
theorem fo106 [SetW] (P : Params) {B : Heap} (X : (KW P).In B) : FnOk B 106 (fnAt 14 1 []) := fnOk_0 (o := k106 P) (X _ _ (by kernel_rfl)) rfl rfl rfl rfl rfl rfl rfl rfl (codeRec_of X (by kernel_rfl)) (by kernel_rfl)
theorem fo113 [SetW] (P : Params) {B : Heap} (X : (KW P).In B) : FnOk B 113 (fnAt 14 2 []) := fnOk_0 (o := k113 P) (X _ _ (by kernel_rfl)) rfl rfl rfl rfl rfl rfl rfl rfl (codeRec_of X (by kernel_rfl)) (by kernel_rfl)
theorem fo120 [SetW] (P : Params) {B : Heap} (X : (KW P).In B) : FnOk B 120 (fnAt 14 3 []) := fnOk_0 (o := k120 P) (X _ _ (by kernel_rfl)) rfl rfl rfl rfl rfl rfl rfl rfl (codeRec_of X (by kernel_rfl)) (by kernel_rfl)
theorem fo127 [SetW] (P : Params) {B : Heap} (X : (KW P).In B) : FnOk B 127 (fnAt 14 4 []) := fnOk_0 (o := k127 P) (X _ _ (by kernel_rfl)) rfl rfl rfl rfl rfl rfl rfl rfl (codeRec_of X (by kernel_rfl)) (by kernel_rfl)
theorem fo134 [SetW] (P : Params) {B : Heap} (X : (KW P).In B) : FnOk B 134 (fnAt 14 5 []) := fnOk_0 (o := k134 P) (X _ _ (by kernel_rfl)) rfl rfl rfl rfl rfl rfl rfl rfl (codeRec_of X (by kernel_rfl)) (by kernel_rfl)
theorem fo141 [SetW] (P : Params) {B : Heap} (X : (KW P).In B) : FnOk B 141 (fnAt 14 6 []) := fnOk_0 (o := k141 P) (X _ _ (by kernel_rfl)) rfl rfl rfl rfl rfl rfl rfl rfl (codeRec_of X (by kernel_rfl)) (by kernel_rfl)
theorem fo148 [SetW] (P : Params) {B : Heap} (X : (KW P).In B) : FnOk B 148 (fnAt 14 7 []) := fnOk_0 (o := k148 P) (X _ _ (by kernel_rfl)) rfl rfl rfl rfl rfl rfl rfl rfl (codeRec_of X (by kernel_rfl)) (by kernel_rfl)
theorem fo155 [SetW] (P : Params) {B : Heap} (X : (KW P).In B) : FnOk B 155 (fnAt 14 8 []) := fnOk_0 (o := k155 P) (X _ _ (by kernel_rfl)) rfl rfl rfl rfl rfl rfl rfl rfl (codeRec_of X (by kernel_rfl)) (by kernel_rfl)
theorem fo162 [SetW] (P : Params) {B : Heap} (X : (KW P).In B) : FnOk B 162 (fnAt 14 9 []) := fnOk_0 (o := k162 P) (X _ _ (by kernel_rfl)) rfl rfl rfl rfl rfl rfl rfl rfl (codeRec_of X (by kernel_rfl)) (by kernel_rfl)
theorem fo169 [SetW] (P : Params) {B : Heap} (X : (KW P).In B) : FnOk B 169 (fnAt 14 10 []) := fnOk_0 (o := k169 P) (X _ _ (by kernel_rfl)) rfl rfl rfl rfl rfl rfl rfl rfl (codeRec_of X (by kernel_rfl)) (by kernel_rfl)
theorem fo176 [SetW] (P : Params) {B : Heap} (X : (KW P).In B) : FnOk B 176 (fnAt 14 11 []) := fnOk_0 (o := k176 P) (X _ _ (by kernel_rfl)) rfl rfl rfl rfl rfl rfl rfl rfl (codeRec_of X (by kernel_rfl)) (by kernel_rfl)
theorem fo183 [SetW] (P : Params) {B : Heap} (X : (KW P).In B) : FnOk B 183 (fnAt 14 12 []) := fnOk_0 (o := k183 P) (X _ _ (by kernel_rfl)) rfl rfl rfl rfl rfl rfl rfl rfl (codeRec_of X (by kernel_rfl)) (by kernel_rfl)
theorem fo190 [SetW] (P : Params) {B : Heap} (X : (KW P).In B) : FnOk B 190 (fnAt 14 13 []) := fnOk_0 (o := k190 P) (X _ _ (by kernel_rfl)) rfl rfl rfl rfl rfl rfl rfl rfl (codeRec_of X (by kernel_rfl)) (by kernel_rfl)
theorem fo197 [SetW] (P : Params) {B : Heap} (X : (KW P).In B) : FnOk B 197 (fnAt 14 14 []) := fnOk_0 (o := k197 P) (X _ _ (by kernel_rfl)) rfl rfl rfl rfl rfl rfl rfl rfl (codeRec_of X (by kernel_rfl)) (by kernel_rfl)
theorem fo204 [SetW] (P : Params) {B : Heap} (X : (KW P).In B) : FnOk B 204 (fnAt 14 15 []) := fnOk_0 (o := k204 P) (X _ _ (by kernel_rfl)) rfl rfl rfl rfl rfl rfl rfl rfl (codeRec_of X (by kernel_rfl)) (by kernel_rfl)
theorem fo211 [SetW] (P : Params) {B : Heap} (X : (KW P).In B) : FnOk B 211 (fnAt 14 16 []) := fnOk_0 (o := k211 P) (X _ _ (by kernel_rfl)) rfl rfl rfl rfl rfl rfl rfl rfl (codeRec_of X (by kernel_rfl)) (by kernel_rfl)
theorem fo218 [SetW] (P : Params) {B : Heap} (X : (KW P).In B) : FnOk B 218 (fnAt 14 17 []) := fnOk_0 (o := k218 P) (X _ _ (by kernel_rfl)) rfl rfl rfl rfl rfl rfl rfl rfl (codeRec_of X (by kernel_rfl)) (by kernel_rfl)
theorem fo238 [SetW] (P : Params) {B : Heap} (X : (KW P).In B) : FnOk B 238 (fnAt 16 0 [.none]) := fnOk_T (o := k238 P) (od := k233 P) (rds := #[Value.none]) (X _ _ (by kernel_rfl)) rfl rfl rfl rfl rfl rfl rfl rfl (codeRec_of X (by kernel_rfl)) (by kernel_rfl) (X _ _ (by kernel_rfl)) rfl (by simp [VRs, VR])
theorem fo248 [SetW] (P : Params) {B : Heap} (X : (KW P).In B) : FnOk B 248 (fnAt 16 1 []) := fnOk_0 (o := k248 P) (X _ _ (by kernel_rfl)) rfl rfl rfl rfl rfl rfl rfl rfl (codeRec_of X (by kernel_rfl)) (by kernel_rfl)
theorem fo258 [SetW] (P : Params) {B : Heap} (X : (KW P).In B) : FnOk B 258 (fnAt 16 2 []) := fnOk_0 (o := k258 P) (X _ _ (by kernel_rfl)) rfl rfl rfl rfl rfl rfl rfl rfl (codeRec_of X (by kernel_rfl)) (by kernel_rfl)
theorem fo268 [SetW] (P : Params) {B : Heap} (X : (KW P).In B) : FnOk B 268 (fnAt 16 3 []) := fnOk_0 (o := k268 P) (X _ _ (by kernel_rfl)) rfl rfl rfl rfl rfl rfl rfl rfl (codeRec_of X (by kernel_rfl)) (by kernel_rfl)
theorem fo285 [SetW] (P : Params) {B : Heap} (X : (KW P).In B) : FnOk B 285 (fnAt 18 1000 []) := fnOk_0 (o := k285 P) (X _ _ (by kernel_rfl)) rfl rfl rfl rfl rfl rfl rfl rfl (codeRec_of X (by kernel_rfl)) (by kernel_rfl)
theorem fo292 [SetW] (P : Params) {B : Heap} (X : (KW P).In B) : FnOk B 292 (fnAt 19 1000 []) := fnOk_0 (o := k292 P) (X _ _ (by kernel_rfl)) rfl rfl rfl rfl rfl rfl rfl rfl (codeRec_of X (by kernel_rfl)) (by kernel_rfl)
theorem fo297 [SetW] (P : Params) {B : Heap} (X : (KW P).In B) : FnOk B 297 (fnAt 20 1000 []) := fnOk_0 (o := k297 P) (X _ _ (by kernel_rfl)) rfl rfl rfl rfl rfl rfl rfl rfl (codeRec_of X (by kernel_rfl)) (by kernel_rfl)
theorem fo302 [SetW] (P : Params) {B : Heap} (X : (KW P).In B) : FnOk B 302 (fnAt 21 1000 []) := fnOk_0 (o := k302 P) (X _ _ (by kernel_rfl)) rfl rfl rfl rfl rfl rfl rfl rfl (codeRec_of X (by kernel_rfl)) (by kernel_rfl)
theorem fo309 [SetW] (P : Params) {B : Heap} (X : (KW P).In B) : FnOk B 309 (fnAt 22 1000 []) := fnOk_0 (o := k309 P) (X _ _ (by kernel_rfl)) rfl rfl rfl rfl rfl rfl rfl rfl (codeRec_of X (by kernel_rfl)) (by kernel_rfl)
theorem fo316 [SetW] (P : Params) {B : Heap} (X : (KW P).In B) : FnOk B 316 (fnAt 23 1000 []) := fnOk_0 (o := k316 P) (X _ _ (by kernel_rfl)) rfl rfl rfl rfl rfl rfl rfl rfl (codeRec_of X (by kernel_rfl)) (by kernel_rfl)
theorem fo321 [SetW] (P : Params) {B : Heap} (X : (KW P).In B) : FnOk B 321 (fnAt 24 1000 []) := fnOk_0 (o := k321 P) (X _ _ (by kernel_rfl)) rfl rfl rfl rfl rfl rfl rfl rfl (codeRec_of X (by kernel_rfl)) (by kernel_rfl)
noncomputable def fnsW : List (Addr × Nat × Nat × List AV) := [(46, 13, 4, [.bool true, .bool true, .bool false]), (54, 13, 5, []), (64, 13, 6, []), (75, 13, 7, [.bool false]), (99, 14, 0, []), (106, 14, 1, []), (113, 14, 2, []), (120, 14, 3, []), (127, 14, 4, []), (134, 14, 5, []), (141, 14, 6, []), (148, 14, 7, []), (155, 14, 8, []), (162, 14, 9, []), (169, 14, 10, []), (176, 14, 11, []), (183, 14, 12, []), (190, 14, 13, []), (197, 14, 14, []), (204, 14, 15, []), (211, 14, 16, []), (218, 14, 17, []), (238, 16, 0, [.none]), (248, 16, 1, []), (258, 16, 2, []), (268, 16, 3, []), (285, 18, 1000, []), (292, 19, 1000, []), (297, 20, 1000, []), (302, 21, 1000, []), (309, 22, 1000, []), (316, 23, 1000, []), (321, 24, 1000, [])]
noncomputable def globC : List (Str × Value) := [("len", .builtin "len"), ("sum", .builtin "sum"), ("min", .builtin "min"), ("max", .builtin "max"), ("any", .builtin "any"), ("range", .type "range"), ("list", .type "list"), ("enumerate", .type "enumerate"), ("Shanten", .ref 81), ("_RegularShanten", .ref 221), ("Agari", .ref 274), ("_law_ends", .ref 285), ("_law_deal", .ref 292), ("_law_pairs_aim", .ref 297), ("_law_ends_aim", .ref 302), ("_law_number", .ref 309), ("_law_way", .ref 316), ("law", .ref 321)]
noncomputable def statW : List ((Addr × Str) × Addr) := [((81, "calculate_shanten"), 46), ((81, "calculate_shanten_for_chiitoitsu_hand"), 54), ((81, "calculate_shanten_for_kokushi_hand"), 64), ((81, "calculate_shanten_for_regular_hand"), 75), ((274, "is_agari"), 238), ((274, "_is_mentsu"), 248), ((274, "_is_atama_mentsu"), 258), ((274, "_to_meld"), 268)]
noncomputable def methW : List ((Addr × Str) × Addr) := [((221, "__init__"), 99), ((221, "calculate"), 106), ((221, "_scan"), 113), ((221, "_run"), 120), ((221, "_update_result"), 127), ((221, "_increase_set"), 134), ((221, "_decrease_set"), 141), ((221, "_increase_pair"), 148), ((221, "_decrease_pair"), 155), ((221, "_increase_syuntsu"), 162), ((221, "_decrease_syuntsu"), 169), ((221, "_increase_tatsu_first"), 176), ((221, "_decrease_tatsu_first"), 183), ((221, "_increase_tatsu_second"), 190), ((221, "_decrease_tatsu_second"), 197), ((221, "_increase_isolated_tile"), 204), ((221, "_decrease_isolated_tile"), 211), ((221, "_remove_honor_and_terminal_man_tiles"), 218)]
noncomputable def ownW : List Str := ["_tiles", "_number_melds", "_number_tatsu", "_number_pairs", "_number_jidahai", "_flag_four_copies", "_flag_isolated_tiles", "_min_shanten"]
noncomputable def fnW (a : Addr) : Option Fn := (fnsW.lookup a).map fun e => fnAt e.1 e.2.1 e.2.2
/-- what the interpreter knows of law 01's text -/
noncomputable def XW : Ctx where
 glob := ("TERMINAL_AND_HONOR_INDICES", .ref 0) :: globC.map fun e => (e.1, .con e.2)
 cattr C n := if C = 81 ∧ n = ("AGARI_STATE" : Str) then some (.int (-1)) else none
 stat C n := statW.lookup (C, n)
 meth C n := methW.lookup (C, n)
 fn := fnW
 cls C := if C = 221 then some 99 else none
 own C n := decide (C = 221) && ownW.contains n
 N := 1000
theorem lookup_mem {α β : Type} [BEq α] [LawfulBEq α] {x : α} {y : β} : ∀ {l : List (α × β)}, l.lookup x = some y → (x, y) ∈ l
 | (a, b) :: l, h => by
  rw [List.lookup_cons] at h
  split at h
  ·rename_i e
   cases h
   rw [beq_iff_eq.mp e]; exact List.mem_cons_self ..
  ·exact List.mem_cons_of_mem _ (lookup_mem h)
theorem cons_all {α : Type} {p : α → Prop} {a : α} {l : List α} (h : p a) (t : ∀ x ∈ l, p x) : ∀ x ∈ a :: l, p x := fun _ hx => match hx with
 | .head _ => h
 | .tail _ hx => t _ hx
theorem fnsOk [SetW] (P : Params) {B : Heap} (X : (KW P).In B) : ∀ a fn, XW.fn a = some fn → FnOk B a fn := by
 intro a fn h
 obtain ⟨⟨i, j, ds⟩, h1, rfl⟩ := Option.map_eq_some_iff.mp (show (fnsW.lookup a).map (fun e => fnAt e.1 e.2.1 e.2.2) = some fn from h)
 have key : ∀ e ∈ fnsW, FnOk B e.1 (fnAt e.2.1 e.2.2.1 e.2.2.2) :=
  cons_all (fo46 P X) <|
  cons_all (fo54 P X) <|
  cons_all (fo64 P X) <|
  cons_all (fo75 P X) <|
  cons_all (fo99 P X) <|
  cons_all (fo106 P X) <|
  cons_all (fo113 P X) <|
  cons_all (fo120 P X) <|
  cons_all (fo127 P X) <|
  cons_all (fo134 P X) <|
  cons_all (fo141 P X) <|
  cons_all (fo148 P X) <|
  cons_all (fo155 P X) <|
  cons_all (fo162 P X) <|
  cons_all (fo169 P X) <|
  cons_all (fo176 P X) <|
  cons_all (fo183 P X) <|
  cons_all (fo190 P X) <|
  cons_all (fo197 P X) <|
  cons_all (fo204 P X) <|
  cons_all (fo211 P X) <|
  cons_all (fo218 P X) <|
  cons_all (fo238 P X) <|
  cons_all (fo248 P X) <|
  cons_all (fo258 P X) <|
  cons_all (fo268 P X) <|
  cons_all (fo285 P X) <|
  cons_all (fo292 P X) <|
  cons_all (fo297 P X) <|
  cons_all (fo302 P X) <|
  cons_all (fo309 P X) <|
  cons_all (fo316 P X) <|
  cons_all (fo321 P X) <|
  fun _ h => nomatch h
 exact key _ (lookup_mem h1)
theorem keepFW (P : Params) : fnsW.all (fun e => keepIn (KW P) (.ref e.1)) = true := by kernel_rfl
noncomputable def statOk (K : Frag) (e : (Addr × Str) × Addr) : Bool := specialIn K (.ref e.1.1) "__getattribute__" == some (some (.builtin "type.__getattribute__")) && readsIn K e.1.1 (.type "type") && (match findCls K (.ref e.1.1) (.type "type") e.1.2 with
 | some (.get (.builtin "staticmethod.__get__") (.ref p) .none (.ref c)) => c == e.1.1 && (match recIn K p "staticmethod" with | some (.ref f :: _) => f == e.2 | _ => false)
 | _ => false)
theorem statAllW (P : Params) : statW.all (statOk (KW P)) = true := by kernel_rfl
theorem methAllW (P : Params) : methW.all (fun e => plainGet (KW P) e.1.1 e.1.2 && findIn (KW P) (.ref e.1.1) e.1.2 == some (some (.ref e.2)) && isFn (KW P) (.ref e.2)) = true := by kernel_rfl
theorem cattrOkW (P : Params) : (readsIn (KW P) 81 (.type "type") && (match findCls (KW P) (.ref 81) (.type "type") "AGARI_STATE" with | some (.val (.int i _)) => i == -1 | _ => false)) = true := by kernel_rfl
theorem newOkW (P : Params) : (makesIn (KW P) 221 && findIn (KW P) (.ref 221) "__init__" == some (some (.ref 99)) && typeIn (KW P) (.ref 99) == some (.type "function") && keepIn (KW P) (.ref 221)) = true := by kernel_rfl
theorem ownGetW (P : Params) : ownW.all (fun n => plainGet (KW P) 221 n && hasDictIn (KW P) 221 && (match findIn (KW P) (.ref 221) n with | some attr => noGet (KW P) attr | none => false)) = true := by kernel_rfl
theorem ownSetW (P : Params) : ownW.all (fun n => findIn (KW P) (.ref 221) "__setattr__" == some (some (.builtin "object.__setattr__")) && plainOver (KW P) 221 && takerIn (KW P) 221 n == some none && (clsIn (KW P) 221).any (·.hasDict)) = true := by kernel_rfl
end Mj
namespace Mj
open PySem PySem.W PyProof.Rows PySem.Spec
set_option maxRecDepth 100000
theorem stat_of {K : Frag} {C : Addr} {name : Str} {f : Addr} (h : statOk K ((C, name), f) = true) : specialIn K (.ref C) "__getattribute__" = some (some (.builtin "type.__getattribute__")) ∧
  ∃ mc p rest, readsIn K C mc = true ∧ findCls K (.ref C) mc name = some (.get (.builtin "staticmethod.__get__") (.ref p) .none (.ref C)) ∧ recIn K p "staticmethod" = some (.ref f :: rest) := by
 unfold statOk at h
 simp only [Bool.and_eq_true, beq_iff_eq] at h
 obtain ⟨⟨h1, h2⟩, h3⟩ := h
 split at h3
 ·rename_i p c e
  simp only [Bool.and_eq_true, beq_iff_eq] at h3
  obtain ⟨e1, h4⟩ := h3
  subst e1
  split at h4
  ·rename_i g rest e'
   have := beq_iff_eq.mp h4
   subst this
   exact ⟨h1, _, p, rest, h2, e, e'⟩
  ·cases h4
 ·cases h3
theorem xok [SetW] (P : Params) {B : Heap} (X : (KW P).In B) : XOk B (KW P) XW where
 KB := X
 cls := by
  refine ⟨fun C name h => ?_, fun C name h => ?_⟩
  ·obtain ⟨h1, h2⟩ := Bool.and_eq_true_iff.mp (show (decide (C = 221) && ownW.contains name) = true from h)
   have := of_decide_eq_true h1; subst this
   have := List.all_eq_true.mp (ownGetW P) name (List.contains_iff_mem.mp h2)
   simp only [Bool.and_eq_true] at this
   obtain ⟨⟨a, b⟩, c⟩ := this
   refine ⟨a, b, ?_⟩
   split at c
   ·rename_i attr e; exact ⟨attr, e, c⟩
   ·cases c
  ·obtain ⟨h1, h2⟩ := Bool.and_eq_true_iff.mp (show (decide (C = 221) && ownW.contains name) = true from h)
   have := of_decide_eq_true h1; subst this
   have := List.all_eq_true.mp (ownSetW P) name (List.contains_iff_mem.mp h2)
   simp only [Bool.and_eq_true, beq_iff_eq] at this
   obtain ⟨⟨⟨a, b⟩, c⟩, d⟩ := this
   exact ⟨a, b, c, d⟩
 keepF := by
  intro f fn h
  obtain ⟨e, h1, _⟩ := Option.map_eq_some_iff.mp (show (fnsW.lookup f).map (fun e => fnAt e.1 e.2.1 e.2.2) = some fn from h)
  exact List.all_eq_true.mp (keepFW P) _ (lookup_mem h1)
 keepC := by
  intro C ini h
  have h : (if C = 221 then some 99 else none) = some ini := h
  split at h
  ·rename_i e; subst e
   have := newOkW P
   simp only [Bool.and_eq_true] at this
   exact this.2
  ·cases h
 stat := fun C name f h => stat_of (List.all_eq_true.mp (statAllW P) _ (lookup_mem (show statW.lookup (C, name) = some f from h)))
 meth := by
  intro C name f h
  have := List.all_eq_true.mp (methAllW P) _ (lookup_mem (show methW.lookup (C, name) = some f from h))
  simp only [Bool.and_eq_true, beq_iff_eq] at this
  exact ⟨this.1.1, this.1.2, this.2⟩
 cattr := by
  intro C name v h
  have h : (if C = 81 ∧ name = ("AGARI_STATE" : Str) then some (AV.int (-1)) else none) = some v := h
  split at h
  ·rename_i e
   obtain ⟨rfl, rfl⟩ := e
   cases h
   have := cattrOkW P
   obtain ⟨a, b⟩ := Bool.and_eq_true_iff.mp this
   split at b
   ·rename_i i t e
    have := beq_iff_eq.mp b
    subst this
    exact ⟨_, _, a, e, rfl, t, rfl⟩
   ·cases b
  ·cases h
 new := by
  intro C ini h
  have h : (if C = 221 then some 99 else none) = some ini := h
  split at h
  ·rename_i e; subst e; cases h
   have := newOkW P
   simp only [Bool.and_eq_true, beq_iff_eq] at this
   exact ⟨this.1.1.1, this.1.1.2, this.1.2⟩
  ·cases h
noncomputable def k3es (P : Params) : Array DictEntry := match k3 P with
 | ⟨_, _, .dict es _, _⟩ => es
 | _ => #[]
theorem globAllW (P : Params) : globC.all (fun e => nsFind (k3es P) e.1 == some e.2 || (nsFind (k3es P) e.1 == none && bootBuiltins e.1 == some e.2)) = true := by kernel_rfl
theorem globT (P : Params) : nsFind (k3es P) "TERMINAL_AND_HONOR_INDICES" = some (.ref 31) := by kernel_rfl
theorem globOk [SetW] (P : Params) {B : Heap} (X : (KW P).In B) {mg mb : Str → Option Value} (hg : B.Ns mainGlobals mg) (hb : B.Ns builtinsNs mb) (hboot : ∀ x : Str, x ≠ "__name__" → mb x = bootBuiltins x) : GlobOk B [31] XW := by
 refine ⟨mg, mb, hg, hb, fun x v h => ?_⟩
 obtain ⟨o, es, ep, g1, g2, _, g4⟩ := hg
 have g5 : B.get? 3 = some (k3 P) := X _ _ (by kernel_rfl)
 rw [show mainGlobals = 3 from rfl, g5] at g1
 cases g1
 have ees : es = k3es P := by
  have : (k3 P).data = .dict (k3es P) ep := by rw [g2]; exact congrArg (Data.dict · ep) (by have := g2; unfold k3es; cases hk : k3 P with | mk c d dt sl => rw [hk] at g2; dsimp only at g2; subst g2; rfl)
  rw [g2] at this
  exact (Data.dict.inj this).1
 subst ees
 have h : (("TERMINAL_AND_HONOR_INDICES", AV.ref 0) :: globC.map fun e => (e.1, AV.con e.2) : List (Str × AV)).lookup x = some v := h
 have hm := lookup_mem h
 rcases List.mem_cons.mp hm with e | hm
 ·cases e
  exact ⟨.ref 31, ⟨31, rfl, rfl⟩, .inl (by rw [← g4]; exact globT P)⟩
 ·obtain ⟨e, he, e2⟩ := List.mem_map.mp hm
  cases e2
  refine ⟨e.2, rfl, ?_⟩
  have := List.all_eq_true.mp (globAllW P) e he
  simp only [Bool.or_eq_true, Bool.and_eq_true, beq_iff_eq] at this
  rcases this with q | ⟨q1, q2⟩
  ·exact .inl (by rw [← g4]; exact q)
  ·refine .inr ⟨by rw [← g4]; exact q1, ?_⟩
   rw [hboot, q2]
   intro e'
   rw [e'] at q2
   have : bootBuiltins ("__name__" : Str) = none ∨ True := .inr trivial
   revert he e'
   have hn : globC.all (fun e => !decide (e.1 = ("__name__" : Str))) = true := by kernel_rfl
   intro he e'
   have := List.all_eq_true.mp hn e he
   simp [e'] at this
end Mj
namespace Mj
open PySem PySem.W PyProof.Rows PySem.Spec
set_option maxRecDepth 100000
noncomputable def recLaw : DefRec := ⟨"law", dArgs 24 1000, dBody 24 1000, dScope 24 1000, ⟨462, 0, 486, 26⟩⟩
noncomputable def endsA : List AV := [0, 8, 9, 17, 18, 26, 27, 28, 29, 30, 31, 32, 33].map AV.int
noncomputable def toA : Value → AV
 | .int i _ => .int i
 | _ => .none
theorem vrs_toA [SetW] {ρ : Rho} : ∀ {vs : List Value}, (∀ v ∈ vs, ∃ i t, v = .int i t) → VRs ρ (vs.map toA) vs
 | [], _ => trivial
 | v :: vs, h => by
  obtain ⟨i, t, rfl⟩ := h v (List.mem_cons_self ..)
  exact ⟨⟨t, rfl⟩, vrs_toA fun u hu => h u (List.mem_cons_of_mem _ hu)⟩
theorem vrs_ints [SetW] {ρ : Rho} {vs : List Value} {l : List Int} (h : IntsAre vs l) : VRs ρ (l.map .int) vs := by
 induction h with
 | nil => trivial
 | cons i t _ ih => exact ⟨⟨t, rfl⟩, ih⟩
theorem setAs_of {w : World} {o : Obj} (h : SetGood w o) : ∃ es ep t vs, o = fzObj es ep t ∧ SetAs w 31 es ep t vs ∧ (∀ v ∈ vs, ∃ i t, v = .int i t) ∧ (vs.map toA).Perm endsA := by
 have hin : ∀ b, ∀ e ∈ (esA b).toList, ∃ i t, e.2 = .int i t := by
  intro b e he
  cases b <;> simp [esA] at he <;> rcases he with rfl | rfl | rfl | rfl | rfl | rfl | rfl | rfl | rfl | rfl | rfl | rfl | rfl <;> exact ⟨_, _, rfl⟩
 have perm : ∀ b, (((esA b).toList.map (·.2)).map toA).Perm endsA := by
  intro b
  have h1 : ((esA true).toList.map (·.2)).map toA = [0, 33, 32, 8, 9, 17, 18, 26, 27, 28, 29, 30, 31].map AV.int := rfl
  have h2 : ((esA false).toList.map (·.2)).map toA = [0, 32, 33, 8, 9, 17, 18, 26, 27, 28, 29, 30, 31].map AV.int := rfl
  unfold endsA
  cases b
  ·rw [h2]; exact List.Perm.map _ (by decide)
  ·rw [h1]; exact List.Perm.map _ (by decide)
 rcases h with ⟨h1, rfl⟩ | ⟨h1, b, rfl⟩
 ·refine ⟨esA false, 10, { tA with led := true }, (esA false).toList.map (·.2), rfl, ⟨by decide, rfl, .inr ⟨h1, rfl, rfl, by decide, ?_⟩⟩, ?_, perm false⟩
  ·intro i hi
   have hs : (esA false).size = 13 := rfl
   rw [hs] at hi
   have : ∀ i : Fin 13, ∃ j ∈ List.range 32, tA.place[i.1]? = some j ∧ SetTable.below tA.place (j + 1) = i.1 + 1 := by decide
   obtain ⟨j, _, h⟩ := this ⟨i, hi⟩
   exact ⟨j, h⟩
  ·intro v hv
   obtain ⟨e, he, rfl⟩ := List.mem_map.mp hv
   exact hin false e he
 ·refine ⟨esA b, 10, tA, _, rfl, ⟨by cases b <;> decide, rfl, .inl ⟨h1, rfl⟩⟩, ?_, ?_⟩
  ·intro v hv
   obtain ⟨e, he, rfl⟩ := List.mem_map.mp hv
   exact hin b e ((pickOrder_perm _ _).mem_iff.mp he)
  ·exact (((pickOrder_perm _ _).map _).map _).trans (perm b)
theorem walkW (hp : ∀ (vs : List AV) (sc : List Int), vs.Perm endsA → sc.length ≤ 63 → callA XW 59 321 [.ref 1] [⟨false, .fset vs⟩, ⟨false, .list (sc.map .int)⟩] fun v _ => v = .bool true) :
  WalkO qW looseN (fun _ _ => True) YPW PySem.Challenge.rw_im0120_01.row.toRowW recLaw [] fun f vs => PySem.call f vs := by
 intro w s₀ s₁ mg mb G Y fa o pm cd doc dV kV ho hd hcd hD hmg hg args vals as hpre hlay hrd hwl hlo
 w_on
 wrow_args hpre hlay hrd hwl hlo
 rename_i sc hs hl0 hL1 hr1 hl2 as1 as2 l vs as3 hL ra w1 r0 hI hr hc1 hc2
 obtain ⟨X, o31, hset, hsg⟩ := Y
 obtain ⟨es, ep, t, us, rfl, S, hints, hperm⟩ := setAs_of hsg
 letI := setW w 31 es ep t us
 have hfa : fa = 321 := by
  obtain ⟨o', es', ep', g1, g2, _, g4⟩ := G.T.g
  have g5 : s₁.heap.get? 3 = some (k3 w.params) := X _ _ (by kernel_rfl)
  rw [show mainGlobals = 3 from rfl, g5] at g1
  cases g1
  have := g4 "law"
  rw [show mg "law" = some (.ref fa) from hmg] at this
  have e2 : es' = k3es w.params := by
   have q : (k3 w.params).data = .dict (k3es w.params) ep' := by rw [g2]; exact congrArg (Data.dict · ep') (by have := g2; unfold k3es; cases hk : k3 w.params with | mk c d dt sl => rw [hk] at g2; dsimp only at g2; subst g2; rfl)
   rw [g2] at q
   exact (Data.dict.inj q).1
  rw [e2, show nsFind (k3es w.params) "law" = some (.ref 321) from by kernel_rfl] at this
  cases this; rfl
 subst hfa
 have w2 : Well w.params s₁.heap (.ref l) (.list (ofPys (sc.map .int))) := w1
 have hlist : s₁.heap.get? l = some { cls := .type "list", data := .seq vs.toArray } := by
  cases w2 with
  | list g1 g2 =>
   obtain ⟨o', q1, q2, n, q3⟩ := hL
   rw [g1] at q1
   cases q1
   cases q3
   exact g1
 have hc := hp (us.map toA) sc hperm (by lia)
 have hne : (31 : Nat) ≠ l := by
  intro e; subst e
  rw [hset] at hlist
  exact absurd (congrArg Obj.cls (Option.some.inj hlist)) (by show ¬ (Value.type "frozenset" = Value.type "list"); decide)
 have H : HR s₁.heap [] [31, l] [⟨false, .fset (us.map toA)⟩, ⟨false, .list (sc.map .int)⟩] s₁.heap := by
  refine ⟨fun _ _ e => e, fun p hp => (by cases hp), fun p hp => (by cases hp), List.nodup_nil, rfl, ?_, ?_, ?_, fun a _ p hp => (by cases hp)⟩
  ·simp [hne]
  ·intro k c a e1 e2
   match k with
   | 0 =>
    cases e1; cases e2
    exact ⟨_, us, hset, ⟨rfl, rfl, rfl⟩, vrs_toA hints⟩
   | 1 =>
    cases e1; cases e2
    exact ⟨vs.toArray, 0, hlist, by simpa using vrs_ints hI⟩
   | k + 2 => cases e1
  ·intro k c a e1 e2 hw
   match k with
   | 0 => cases e1; cases hw
   | 1 => cases e1; cases hw
   | k + 2 => cases e1
 obtain ⟨_, ok⟩ := callA_ok (prog := PySem.Challenge.rw_im0120_01.row.prog) (w := w) (B := s₁.heap) (xok w.params X) (setOk S) G.T.nolimit (fnsOk w.params X) 59 hc
 refine enter_call ?_
 have gl : GlobOk s₁.heap [31, l] XW := (globOk w.params X G.T.g G.T.b G.T.builtins).mono ⟨[l], rfl⟩
 refine ok (F := []) (ρ := [31, l]) ⟨rfl, by decide, by decide⟩ H gl ⟨⟨l, rfl, rfl⟩, trivial⟩ fun ρ' v rv σ' s' k1 hv k => ?_
 subst k
 have hv : rv = .bool true := hv
 subst hv
 refine GoodW.toG ⟨.inl ⟨_, .bool true, [], rfl, fun _ => rfl, .bool true, ?_, fun _ => ⟨List.nodup_nil, fun a ha => (by cases ha)⟩⟩, k1.H.base, k1.same.os, by rw [k1.same.gens]; exact hg⟩
 wrow_post
end Mj
namespace Mj
open PySem PySem.W PyProof.Rows
set_option maxRecDepth 100000
set_option maxHeartbeats 2000000
structure RS where
 tl : List Int
 m : Int
 ta : Int
 pr : Int
 jd : Int
 fc : Int
 fi : Int
 mn : Int
noncomputable def flds (t : Nat) (R : RS) : List (Str × AV) := [("_tiles", .ref t), ("_number_melds", .int R.m), ("_number_tatsu", .int R.ta), ("_number_pairs", .int R.pr), ("_number_jidahai", .int R.jd), ("_flag_four_copies", .int R.fc), ("_flag_isolated_tiles", .int R.fi), ("_min_shanten", .int R.mn)]
structure RO (σ : Sto) (p d t : Nat) : Prop where
 hp : ∃ b, σ[p]? = some ⟨b, .inst 221 d⟩
 hd : d < σ.length
 ht : t < σ.length
 pd : p ≠ d
 pt : p ≠ t
 dt : d ≠ t
noncomputable def put (σ : Sto) (d t : Nat) (R : RS) : Sto := (σ.set d ⟨true, .ns (flds t R)⟩).set t ⟨true, .list (R.tl.map AV.int)⟩
noncomputable def gt (l : List Int) (k : Int) : Int := l.getD k.toNat 0
noncomputable def stl (l : List Int) (k : Int) (v : Int) : List Int := l.set k.toNat v
theorem wG_i {p q : Prop} (a : p) (b : q) : wG p q := by unfold wG; exact ⟨a, b⟩
theorem wIf_i {c : Bool} {p q : Prop} (a : c = true → p) (b : c = false → q) : wIf c p q := by unfold wIf; exact ⟨a, b⟩
theorem wAt_i {σ : Sto} {k : Nat} {c : Cl} {K : Cl → Prop} (e : σ[k]? = some c) (h : K c) : wAt k σ K := by unfold wAt; exact ⟨c, e, h⟩
theorem wIdx_i {l : List Int} {j : Int} {K : AV → Prop} (h0 : 0 ≤ j) (h1 : j < l.length) (hl : l.length ≤ 100000) (h : K (.int (gt l j))) : wIdx (l.map AV.int) j K := by
 unfold wIdx
 refine ⟨_, by simpa using hl, ?_, h⟩
 unfold placeA
 rw [if_pos h0, if_pos (by simpa using h1)]
 show (l.map AV.int)[j.toNat]? = _
 rw [List.getElem?_map, List.getElem?_eq_getElem (by lia)]
 unfold gt
 rw [List.getD_eq_getElem?_getD, List.getElem?_eq_getElem (by lia)]; rfl
section
variable {σ : Sto} {p d t : Nat} {R R' : RS}
theorem put_p (h : RO σ p d t) : ∃ b, (put σ d t R)[p]? = some ⟨b, .inst 221 d⟩ := by
 obtain ⟨b, e⟩ := h.hp
 exact ⟨b, by unfold put; rw [List.getElem?_set_ne (Ne.symm h.pt), List.getElem?_set_ne (Ne.symm h.pd)]; exact e⟩
theorem put_d (h : RO σ p d t) : (put σ d t R)[d]? = some ⟨true, .ns (flds t R)⟩ := by
 unfold put; rw [List.getElem?_set_ne (Ne.symm h.dt), List.getElem?_set_self h.hd]
theorem put_t (h : RO σ p d t) : (put σ d t R)[t]? = some ⟨true, .list (R.tl.map AV.int)⟩ := by
 unfold put; rw [List.getElem?_set_self (by simpa using h.ht)]
theorem put_setd (h : RO σ p d t) {es : List (Str × AV)} (e : es = flds t R') (et : R'.tl = R.tl) : (put σ d t R).set d ⟨true, .ns es⟩ = put σ d t R' := by
 subst e
 unfold put
 rw [List.set_comm _ _ (Ne.symm h.dt), List.set_set, et]
theorem put_sett {xs : List AV} (e : xs = R'.tl.map AV.int) (ef : flds t R' = flds t R) : (put σ d t R).set t ⟨true, .list xs⟩ = put σ d t R' := by
 subst e
 unfold put
 rw [List.set_set, ef]
theorem own_w {name : Str} (ho : ownW.contains name = true) : XW.own 221 name = true := by show (decide ((221 : Nat) = 221) && ownW.contains name) = true; rw [ho]; rfl
theorem get_put (h : RO σ p d t) {name : Str} {v : AV} {K : AV → Prop} (e : (ownW.contains name, (flds t R).lookup name, noCon v) = (true, some v, true)) (k : K v) : lGet XW (.ref p) name (put σ d t R) K := lGet.mk <| by
 obtain ⟨b, e1⟩ := put_p h (R := R)
 obtain ⟨e0, e2, e3⟩ : ownW.contains name = true ∧ (flds t R).lookup name = some v ∧ noCon v = true := by simpa using e
 refine wAt_i e1 (wAt_i (put_d h) ?_)
 dsimp only
 rw [own_w e0, e2]
 show wB (noCon v) (K v)
 rw [e3]; exact k
theorem set_put (h : RO σ p d t) {name : Str} {v : AV} {K : Sto → Prop} (e : (ownW.contains name, putField name v (flds t R), R'.tl) = (true, flds t R', R.tl)) (k : K (put σ d t R')) : lSet XW (.ref p) name v (put σ d t R) K := lSet.mk <| by
 obtain ⟨b, e1⟩ := put_p h (R := R)
 obtain ⟨e0, e2, e3⟩ : ownW.contains name = true ∧ putField name v (flds t R) = flds t R' ∧ R'.tl = R.tl := by simpa using e
 refine wAt_i e1 (wAt_i (put_d h) ?_)
 dsimp only
 rw [own_w e0]
 show K _
 rw [put_setd h e2 e3]; exact k
theorem it_put (h : RO σ p d t) {j : Int} {K : AV → Prop} (hl : R.tl.length = 34) (h0 : 0 ≤ j) (h1 : j < 34) (k : K (.int (gt R.tl j))) : lItem (.ref t) (.int j) (put σ d t R) K :=
 lItem.mk <| wAt_i (put_t h) (wIdx_i h0 (by lia) (by lia) k)
theorem pa_put (h : RO σ p d t) {j v : Int} {K : Sto → Prop} (hl : R.tl.length = 34) (h0 : 0 ≤ j) (h1 : j < 34) (k : K (put σ d t { R with tl := stl R.tl j v })) : lPut (.ref t) (.int j) (.int v) (put σ d t R) K := lPut.mk <| by
 refine wAt_i (put_t h) (wG_i ⟨h0, by simpa [hl] using h1, by simp [hl]⟩ ?_)
 rw [put_sett (R := R) (R' := { R with tl := stl R.tl j v }) (by unfold stl; rw [List.map_set]) rfl]
 exact k
end
theorem set_m {σ : Sto} {p d t : Nat} {R : RS} {x : Int} {K : Sto → Prop} (h : RO σ p d t) (k : K (put σ d t { R with m := x })) : lSet XW (.ref p) "_number_melds" (.int x) (put σ d t R) K := set_put h rfl k
theorem set_ta {σ : Sto} {p d t : Nat} {R : RS} {x : Int} {K : Sto → Prop} (h : RO σ p d t) (k : K (put σ d t { R with ta := x })) : lSet XW (.ref p) "_number_tatsu" (.int x) (put σ d t R) K := set_put h rfl k
theorem set_pr {σ : Sto} {p d t : Nat} {R : RS} {x : Int} {K : Sto → Prop} (h : RO σ p d t) (k : K (put σ d t { R with pr := x })) : lSet XW (.ref p) "_number_pairs" (.int x) (put σ d t R) K := set_put h rfl k
theorem set_jd {σ : Sto} {p d t : Nat} {R : RS} {x : Int} {K : Sto → Prop} (h : RO σ p d t) (k : K (put σ d t { R with jd := x })) : lSet XW (.ref p) "_number_jidahai" (.int x) (put σ d t R) K := set_put h rfl k
theorem set_fc {σ : Sto} {p d t : Nat} {R : RS} {x : Int} {K : Sto → Prop} (h : RO σ p d t) (k : K (put σ d t { R with fc := x })) : lSet XW (.ref p) "_flag_four_copies" (.int x) (put σ d t R) K := set_put h rfl k
theorem set_fi {σ : Sto} {p d t : Nat} {R : RS} {x : Int} {K : Sto → Prop} (h : RO σ p d t) (k : K (put σ d t { R with fi := x })) : lSet XW (.ref p) "_flag_isolated_tiles" (.int x) (put σ d t R) K := set_put h rfl k
theorem set_mn {σ : Sto} {p d t : Nat} {R : RS} {x : Int} {K : Sto → Prop} (h : RO σ p d t) (k : K (put σ d t { R with mn := x })) : lSet XW (.ref p) "_min_shanten" (.int x) (put σ d t R) K := set_put h rfl k
theorem wIf_dec {c : Prop} [Decidable c] {p q : Prop} (a : c → p) (b : ¬ c → q) : wIf (decide c) p q := wIf_i (fun e => a (of_decide_eq_true e)) (fun e => b (of_decide_eq_false e))
theorem wIf_bne {x y : Int} {p q : Prop} (a : x ≠ y → p) (b : x = y → q) : wIf (x != y) p q := wIf_i (fun e => a (by simpa using e)) (fun e => b (by simpa using e))
theorem wIf_beq {x y : Int} {p q : Prop} (a : x = y → p) (b : x ≠ y → q) : wIf (x == y) p q := wIf_i (fun e => a (by simpa using e)) (fun e => b (by simpa using e))
theorem wIf_not {c : Bool} {p q : Prop} (h : wIf c q p) : wIf (!c) p q := wIf_i (fun e => (wIf.out h).2 (by simpa using e)) (fun e => (wIf.out h).1 (by simpa using e))
theorem wIf_t {p q : Prop} (h : p) : wIf true p q := wIf_i (fun _ => h) (fun e => by cases e)
theorem wIf_f {p q : Prop} (h : q) : wIf false p q := wIf_i (fun e => by cases e) (fun _ => h)
theorem wG_sm {x y : Int} {p : Prop} (h : (-1000000 ≤ x ∧ x ≤ 1000000) ∧ -1000000 ≤ y ∧ y ≤ 1000000) (k : p) : wG (small x ∧ small y) p := wG_i ⟨by unfold small; lia, by unfold small; lia⟩ k
theorem wG_sh {x y : Int} {p : Prop} (h : 0 ≤ y ∧ y ≤ 1000 ∧ -1000000 ≤ x ∧ x ≤ 1000000) (k : p) : wG (0 ≤ y ∧ y ≤ 1000 ∧ small x) p := wG_i ⟨h.1, h.2.1, by unfold small; lia⟩ k
theorem wLst_i {σ : Sto} {k : Nat} {b : Bool} {xs : List AV} {K : Bool → List AV → Prop} (e : σ[k]? = some ⟨b, .list xs⟩) (h : K b xs) : wLst k σ K := by unfold wLst; exact ⟨b, xs, e, h⟩
theorem intsA_map : ∀ l : List Int, intsA (l.map AV.int) = some l
 | [] => rfl
 | i :: l => by rw [List.map_cons, intsA, intsA_map l]; rfl
theorem wInts_i {l : List Int} {K : List Int → Prop} (h : K l) : wInts (l.map AV.int) K := by unfold wInts; exact ⟨l, intsA_map l, h⟩
theorem s_cons {f : Stmt → Loc → Sto → XS} {s : Stmt} {r : List Stmt} {ae : Loc} {σ : Sto} {K : KS} (h : f s ae σ fun fl ae σ => match fl with
  | .next => seqA f r ae σ K
  | .brk => K .brk ae σ
  | .cont => K .cont ae σ
  | .ret v => K (.ret v) ae σ) : seqA f (s :: r) ae σ K := ⟨_, h, fun fl _ _ k => by cases fl <;> exact k⟩
theorem s_nil {f : Stmt → Loc → Sto → XS} {ae : Loc} {σ : Sto} {K : KS} (h : K .next ae σ) : seqA f [] ae σ K := h
theorem s_join {f : Stmt → Loc → Sto → XS} {s : Stmt} {r : List Stmt} {ae : Loc} {σ : Sto} {K : KS} (ae' : Loc) (σ' : Sto) (h : f s ae σ fun fl a τ => fl = .next ∧ a = ae' ∧ τ = σ') (k : seqA f r ae' σ' K) : seqA f (s :: r) ae σ K :=
 ⟨_, h, fun fl a τ ⟨e1, e2, e3⟩ => by subst e1 e2 e3; exact k⟩
theorem get_con {C : Addr} {name : Str} {v : AV} {σ : Sto} {K : AV → Prop} (e : XW.cattr C name = some v) (k : K v) : lGet XW (.con (.ref C)) name σ K := lGet.mk <| by
 show wO (XW.cattr C name) K
 rw [e]; exact k
/-- the old names -/
noncomputable abbrev WE (m : XE) (Q : KE) : Prop := m Q
noncomputable abbrev WS (m : XS) (Q : KS) : Prop := m Q
theorem seqA_mono {f : Stmt → Loc → Sto → XS} {K K' : KS} (hk : ∀ fl ae σ, K fl ae σ → K' fl ae σ) : ∀ {b : List Stmt} {ae : Loc} {σ : Sto}, seqA f b ae σ K → seqA f b ae σ K'
 | [], _, _, h => hk _ _ _ h
 | _ :: _, _, _, ⟨K0, h, h2⟩ => ⟨K0, h, fun fl ae σ k => by
  have := h2 fl ae σ k
  cases fl with
  | next => exact seqA_mono hk this
  | _ => exact hk _ _ _ this⟩
theorem callA_mono {X : Ctx} {n : Nat} {f : Addr} {args : List AV} {σ : Sto} {K K' : KE} (h : callA X n f args σ K) (hk : ∀ v σ, K v σ → K' v σ) : callA X n f args σ K' := by
 cases n with
 | zero => exact h.elim
 | succ n =>
  obtain ⟨fn, e1, h⟩ := wO.out h
  obtain ⟨ae, e2, h⟩ := wO.out h
  show wO (X.fn f) _
  rw [e1]
  show wO (bindA fn args) _
  rw [e2]
  exact seqA_mono (fun fl _ _ k => by cases fl with
   | next => exact hk _ _ k
   | ret v => exact hk _ _ k
   | _ => exact k) h
/-- a test that is not known, as an if -/
theorem wIf_decI {c : Prop} [Decidable c] {p q : Prop} (h : if c then p else q) : wIf (decide c) p q := wIf_dec (fun x => by rwa [if_pos x] at h) (fun x => by rwa [if_neg x] at h)
theorem wIf_bneI {x y : Int} {p q : Prop} (h : if x ≠ y then p else q) : wIf (x != y) p q := wIf_bne (fun e => by rwa [if_pos e] at h) (fun e => by rwa [if_neg (fun n => n e)] at h)
theorem wIf_beqI {x y : Int} {p q : Prop} (h : if x = y then p else q) : wIf (x == y) p q := wIf_beq (fun e => by rwa [if_pos e] at h) (fun e => by rwa [if_neg e] at h)
theorem if_split {c a b : Prop} [Decidable c] (h1 : c → a) (h2 : ¬ c → b) : if c then a else b := by
 by_cases q : c
 ·rw [if_pos q]; exact h1 q
 ·rw [if_neg q]; exact h2 q
theorem res_put {σ : Sto} {p d t : Nat} {R : RS} {name : Str} {f : Addr} {Kf : Addr → List AV → Prop} {Kl : Nat → Bool → Prop} (h : RO σ p d t) (e : (((flds t R).lookup name).isNone, XW.meth 221 name) = (true, some f)) (k : Kf f [.ref p]) : lRes XW (.ref p) name (put σ d t R) Kf Kl := lRes.mk <| by
 obtain ⟨b, e1⟩ := put_p h (R := R)
 obtain ⟨e2, e3⟩ := Prod.mk.inj e
 refine wAt_i e1 (wAt_i (put_d h) ?_)
 dsimp only
 rw [e2, e3]
 exact k
theorem call_of {n : Nat} {f : Addr} {args : List AV} {σ : Sto} {K : KE} {fn : Fn} {ae : Loc} (e : (XW.fn f).bind (fun g => (bindA g args).map fun ae => (g, ae)) = some (fn, ae)) (h : seqA (execS XW (callA XW n) 40 fn.scope) fn.body ae σ fun fl _ σ => match fl with
  | .next => K .none σ
  | .ret v => K v σ
  | _ => False) : callA XW (n + 1) f args σ K := by
 obtain ⟨g, e1, e2⟩ := Option.bind_eq_some_iff.mp e
 obtain ⟨b, e3, e4⟩ := Option.map_eq_some_iff.mp e2
 cases e4
 show wO (XW.fn f) _
 rw [e1]
 show wO (bindA fn args) _
 rw [e3]
 exact h
noncomputable def incSet (k : Int) (R : RS) : RS := { R with tl := stl (R.tl) k (gt (R.tl) k - 3), m := R.m + 1 }
noncomputable def decSet (k : Int) (R : RS) : RS := { R with tl := stl (R.tl) k (gt (R.tl) k + 3), m := R.m - 1 }
noncomputable def incPair (k : Int) (R : RS) : RS := { R with tl := stl (R.tl) k (gt (R.tl) k - 2), pr := R.pr + 1 }
noncomputable def decPair (k : Int) (R : RS) : RS := { R with tl := stl (R.tl) k (gt (R.tl) k + 2), pr := R.pr - 1 }
noncomputable def incSyu (k : Int) (R : RS) : RS := { R with tl := stl (stl (stl (R.tl) k (gt (R.tl) k - 1)) (k + 1) (gt (stl (R.tl) k (gt (R.tl) k - 1)) (k + 1) - 1)) (k + 2) (gt (stl (stl (R.tl) k (gt (R.tl) k - 1)) (k + 1) (gt (stl (R.tl) k (gt (R.tl) k - 1)) (k + 1) - 1)) (k + 2) - 1), m := R.m + 1 }
noncomputable def decSyu (k : Int) (R : RS) : RS := { R with tl := stl (stl (stl (R.tl) k (gt (R.tl) k + 1)) (k + 1) (gt (stl (R.tl) k (gt (R.tl) k + 1)) (k + 1) + 1)) (k + 2) (gt (stl (stl (R.tl) k (gt (R.tl) k + 1)) (k + 1) (gt (stl (R.tl) k (gt (R.tl) k + 1)) (k + 1) + 1)) (k + 2) + 1), m := R.m - 1 }
noncomputable def incT1 (k : Int) (R : RS) : RS := { R with tl := stl (stl (R.tl) k (gt (R.tl) k - 1)) (k + 1) (gt (stl (R.tl) k (gt (R.tl) k - 1)) (k + 1) - 1), ta := R.ta + 1 }
noncomputable def decT1 (k : Int) (R : RS) : RS := { R with tl := stl (stl (R.tl) k (gt (R.tl) k + 1)) (k + 1) (gt (stl (R.tl) k (gt (R.tl) k + 1)) (k + 1) + 1), ta := R.ta - 1 }
noncomputable def incT2 (k : Int) (R : RS) : RS := { R with tl := stl (stl (R.tl) k (gt (R.tl) k - 1)) (k + 2) (gt (stl (R.tl) k (gt (R.tl) k - 1)) (k + 2) - 1), ta := R.ta + 1 }
noncomputable def decT2 (k : Int) (R : RS) : RS := { R with tl := stl (stl (R.tl) k (gt (R.tl) k + 1)) (k + 2) (gt (stl (R.tl) k (gt (R.tl) k + 1)) (k + 2) + 1), ta := R.ta - 1 }
noncomputable def incIso (k : Int) (R : RS) : RS := { R with tl := stl R.tl k (gt R.tl k - 1), fi := Builtin.bitOr R.fi (1 * 2 ^ k.toNat) }
noncomputable def decIso (k : Int) (R : RS) : RS := { R with tl := stl R.tl k (gt R.tl k + 1), fi := Builtin.bitAnd R.fi (Builtin.bitNot (1 * 2 ^ k.toNat)) }
theorem len_stl {l : List Int} {k v : Int} {n : Nat} (h : l.length = n) : (stl l k v).length = n := by unfold stl; rw [List.length_set]; exact h
section
variable {k : Int} {R : RS}
theorem len_incSet (h : R.tl.length = 34) : (incSet k R).tl.length = 34 := by unfold incSet; repeat' (first | exact h | apply len_stl)
theorem len_decSet (h : R.tl.length = 34) : (decSet k R).tl.length = 34 := by unfold decSet; repeat' (first | exact h | apply len_stl)
theorem len_incPair (h : R.tl.length = 34) : (incPair k R).tl.length = 34 := by unfold incPair; repeat' (first | exact h | apply len_stl)
theorem len_decPair (h : R.tl.length = 34) : (decPair k R).tl.length = 34 := by unfold decPair; repeat' (first | exact h | apply len_stl)
theorem len_incSyu (h : R.tl.length = 34) : (incSyu k R).tl.length = 34 := by unfold incSyu; repeat' (first | exact h | apply len_stl)
theorem len_decSyu (h : R.tl.length = 34) : (decSyu k R).tl.length = 34 := by unfold decSyu; repeat' (first | exact h | apply len_stl)
theorem len_incT1 (h : R.tl.length = 34) : (incT1 k R).tl.length = 34 := by unfold incT1; repeat' (first | exact h | apply len_stl)
theorem len_decT1 (h : R.tl.length = 34) : (decT1 k R).tl.length = 34 := by unfold decT1; repeat' (first | exact h | apply len_stl)
theorem len_incT2 (h : R.tl.length = 34) : (incT2 k R).tl.length = 34 := by unfold incT2; repeat' (first | exact h | apply len_stl)
theorem len_decT2 (h : R.tl.length = 34) : (decT2 k R).tl.length = 34 := by unfold decT2; repeat' (first | exact h | apply len_stl)
theorem len_incIso (h : R.tl.length = 34) : (incIso k R).tl.length = 34 := by unfold incIso; repeat' (first | exact h | apply len_stl)
theorem len_decIso (h : R.tl.length = 34) : (decIso k R).tl.length = 34 := by unfold decIso; repeat' (first | exact h | apply len_stl)
end
local macro_rules | `(tactic| k_mem) => `(tactic| first | assumption | (repeat' (first | assumption | apply len_stl | apply len_incSet | apply len_decSet | apply len_incPair | apply len_decPair | apply len_incSyu | apply len_decSyu | apply len_incT1 | apply len_decT1 | apply len_incT2 | apply len_decT2 | apply len_incIso | apply len_decIso)))
section
variable {σ : Sto} {p d t n : Nat} {R : RS} {k : Int} {K : KE}
theorem c134 (h : RO σ p d t) (hl : R.tl.length = 34) (h0 : 0 ≤ k) (h1 : k < 34) (hq : K .none (put σ d t (incSet k R))) : lCall (callA XW (n + 1)) 134 [.ref p, .int k] (put σ d t R) K := by
 refine lCall.mk (call_of (fn := fnAt 14 5 []) (ae := [("self", .ref p), ("k", .int k)]) (by rfl) ?_)
 refine s_cons ?_
 refine get_put (by assumption) (by rfl) ?_
 refine it_put (by assumption) (by k_mem) (by lia) (by lia) ?_
 refine pa_put (by assumption) (by k_mem) (by lia) (by lia) ?_
 with_reducible refine s_cons ?_
 refine get_put (by assumption) (by rfl) ?_
 refine set_m (by assumption) ?_
 with_reducible refine s_nil ?_
 exact hq
theorem c141 (h : RO σ p d t) (hl : R.tl.length = 34) (h0 : 0 ≤ k) (h1 : k < 34) (hq : K .none (put σ d t (decSet k R))) : lCall (callA XW (n + 1)) 141 [.ref p, .int k] (put σ d t R) K := by
 refine lCall.mk (call_of (fn := fnAt 14 6 []) (ae := [("self", .ref p), ("k", .int k)]) (by rfl) ?_)
 refine s_cons ?_
 refine get_put (by assumption) (by rfl) ?_
 refine it_put (by assumption) (by k_mem) (by lia) (by lia) ?_
 refine pa_put (by assumption) (by k_mem) (by lia) (by lia) ?_
 with_reducible refine s_cons ?_
 refine get_put (by assumption) (by rfl) ?_
 refine set_m (by assumption) ?_
 with_reducible refine s_nil ?_
 exact hq
theorem c148 (h : RO σ p d t) (hl : R.tl.length = 34) (h0 : 0 ≤ k) (h1 : k < 34) (hq : K .none (put σ d t (incPair k R))) : lCall (callA XW (n + 1)) 148 [.ref p, .int k] (put σ d t R) K := by
 refine lCall.mk (call_of (fn := fnAt 14 7 []) (ae := [("self", .ref p), ("k", .int k)]) (by rfl) ?_)
 refine s_cons ?_
 refine get_put (by assumption) (by rfl) ?_
 refine it_put (by assumption) (by k_mem) (by lia) (by lia) ?_
 refine pa_put (by assumption) (by k_mem) (by lia) (by lia) ?_
 with_reducible refine s_cons ?_
 refine get_put (by assumption) (by rfl) ?_
 refine set_pr (by assumption) ?_
 with_reducible refine s_nil ?_
 exact hq
theorem c155 (h : RO σ p d t) (hl : R.tl.length = 34) (h0 : 0 ≤ k) (h1 : k < 34) (hq : K .none (put σ d t (decPair k R))) : lCall (callA XW (n + 1)) 155 [.ref p, .int k] (put σ d t R) K := by
 refine lCall.mk (call_of (fn := fnAt 14 8 []) (ae := [("self", .ref p), ("k", .int k)]) (by rfl) ?_)
 refine s_cons ?_
 refine get_put (by assumption) (by rfl) ?_
 refine it_put (by assumption) (by k_mem) (by lia) (by lia) ?_
 refine pa_put (by assumption) (by k_mem) (by lia) (by lia) ?_
 with_reducible refine s_cons ?_
 refine get_put (by assumption) (by rfl) ?_
 refine set_pr (by assumption) ?_
 with_reducible refine s_nil ?_
 exact hq
theorem c162 (h : RO σ p d t) (hl : R.tl.length = 34) (h0 : 0 ≤ k) (h1 : k < 32) (hq : K .none (put σ d t (incSyu k R))) : lCall (callA XW (n + 1)) 162 [.ref p, .int k] (put σ d t R) K := by
 refine lCall.mk (call_of (fn := fnAt 14 9 []) (ae := [("self", .ref p), ("k", .int k)]) (by rfl) ?_)
 refine s_cons ?_
 refine get_put (by assumption) (by rfl) ?_
 refine it_put (by assumption) (by k_mem) (by lia) (by lia) ?_
 refine pa_put (by assumption) (by k_mem) (by lia) (by lia) ?_
 with_reducible refine s_cons ?_
 refine get_put (by assumption) (by rfl) ?_
 refine it_put (by assumption) (by k_mem) (by lia) (by lia) ?_
 refine pa_put (by assumption) (by k_mem) (by lia) (by lia) ?_
 with_reducible refine s_cons ?_
 refine get_put (by assumption) (by rfl) ?_
 refine it_put (by assumption) (by k_mem) (by lia) (by lia) ?_
 refine pa_put (by assumption) (by k_mem) (by lia) (by lia) ?_
 with_reducible refine s_cons ?_
 refine get_put (by assumption) (by rfl) ?_
 refine set_m (by assumption) ?_
 with_reducible refine s_nil ?_
 exact hq
theorem c169 (h : RO σ p d t) (hl : R.tl.length = 34) (h0 : 0 ≤ k) (h1 : k < 32) (hq : K .none (put σ d t (decSyu k R))) : lCall (callA XW (n + 1)) 169 [.ref p, .int k] (put σ d t R) K := by
 refine lCall.mk (call_of (fn := fnAt 14 10 []) (ae := [("self", .ref p), ("k", .int k)]) (by rfl) ?_)
 refine s_cons ?_
 refine get_put (by assumption) (by rfl) ?_
 refine it_put (by assumption) (by k_mem) (by lia) (by lia) ?_
 refine pa_put (by assumption) (by k_mem) (by lia) (by lia) ?_
 with_reducible refine s_cons ?_
 refine get_put (by assumption) (by rfl) ?_
 refine it_put (by assumption) (by k_mem) (by lia) (by lia) ?_
 refine pa_put (by assumption) (by k_mem) (by lia) (by lia) ?_
 with_reducible refine s_cons ?_
 refine get_put (by assumption) (by rfl) ?_
 refine it_put (by assumption) (by k_mem) (by lia) (by lia) ?_
 refine pa_put (by assumption) (by k_mem) (by lia) (by lia) ?_
 with_reducible refine s_cons ?_
 refine get_put (by assumption) (by rfl) ?_
 refine set_m (by assumption) ?_
 with_reducible refine s_nil ?_
 exact hq
theorem c176 (h : RO σ p d t) (hl : R.tl.length = 34) (h0 : 0 ≤ k) (h1 : k < 33) (hq : K .none (put σ d t (incT1 k R))) : lCall (callA XW (n + 1)) 176 [.ref p, .int k] (put σ d t R) K := by
 refine lCall.mk (call_of (fn := fnAt 14 11 []) (ae := [("self", .ref p), ("k", .int k)]) (by rfl) ?_)
 refine s_cons ?_
 refine get_put (by assumption) (by rfl) ?_
 refine it_put (by assumption) (by k_mem) (by lia) (by lia) ?_
 refine pa_put (by assumption) (by k_mem) (by lia) (by lia) ?_
 with_reducible refine s_cons ?_
 refine get_put (by assumption) (by rfl) ?_
 refine it_put (by assumption) (by k_mem) (by lia) (by lia) ?_
 refine pa_put (by assumption) (by k_mem) (by lia) (by lia) ?_
 with_reducible refine s_cons ?_
 refine get_put (by assumption) (by rfl) ?_
 refine set_ta (by assumption) ?_
 with_reducible refine s_nil ?_
 exact hq
theorem c183 (h : RO σ p d t) (hl : R.tl.length = 34) (h0 : 0 ≤ k) (h1 : k < 33) (hq : K .none (put σ d t (decT1 k R))) : lCall (callA XW (n + 1)) 183 [.ref p, .int k] (put σ d t R) K := by
 refine lCall.mk (call_of (fn := fnAt 14 12 []) (ae := [("self", .ref p), ("k", .int k)]) (by rfl) ?_)
 refine s_cons ?_
 refine get_put (by assumption) (by rfl) ?_
 refine it_put (by assumption) (by k_mem) (by lia) (by lia) ?_
 refine pa_put (by assumption) (by k_mem) (by lia) (by lia) ?_
 with_reducible refine s_cons ?_
 refine get_put (by assumption) (by rfl) ?_
 refine it_put (by assumption) (by k_mem) (by lia) (by lia) ?_
 refine pa_put (by assumption) (by k_mem) (by lia) (by lia) ?_
 with_reducible refine s_cons ?_
 refine get_put (by assumption) (by rfl) ?_
 refine set_ta (by assumption) ?_
 with_reducible refine s_nil ?_
 exact hq
theorem c190 (h : RO σ p d t) (hl : R.tl.length = 34) (h0 : 0 ≤ k) (h1 : k < 32) (hq : K .none (put σ d t (incT2 k R))) : lCall (callA XW (n + 1)) 190 [.ref p, .int k] (put σ d t R) K := by
 refine lCall.mk (call_of (fn := fnAt 14 13 []) (ae := [("self", .ref p), ("k", .int k)]) (by rfl) ?_)
 refine s_cons ?_
 refine get_put (by assumption) (by rfl) ?_
 refine it_put (by assumption) (by k_mem) (by lia) (by lia) ?_
 refine pa_put (by assumption) (by k_mem) (by lia) (by lia) ?_
 with_reducible refine s_cons ?_
 refine get_put (by assumption) (by rfl) ?_
 refine it_put (by assumption) (by k_mem) (by lia) (by lia) ?_
 refine pa_put (by assumption) (by k_mem) (by lia) (by lia) ?_
 with_reducible refine s_cons ?_
 refine get_put (by assumption) (by rfl) ?_
 refine set_ta (by assumption) ?_
 with_reducible refine s_nil ?_
 exact hq
theorem c197 (h : RO σ p d t) (hl : R.tl.length = 34) (h0 : 0 ≤ k) (h1 : k < 32) (hq : K .none (put σ d t (decT2 k R))) : lCall (callA XW (n + 1)) 197 [.ref p, .int k] (put σ d t R) K := by
 refine lCall.mk (call_of (fn := fnAt 14 14 []) (ae := [("self", .ref p), ("k", .int k)]) (by rfl) ?_)
 refine s_cons ?_
 refine get_put (by assumption) (by rfl) ?_
 refine it_put (by assumption) (by k_mem) (by lia) (by lia) ?_
 refine pa_put (by assumption) (by k_mem) (by lia) (by lia) ?_
 with_reducible refine s_cons ?_
 refine get_put (by assumption) (by rfl) ?_
 refine it_put (by assumption) (by k_mem) (by lia) (by lia) ?_
 refine pa_put (by assumption) (by k_mem) (by lia) (by lia) ?_
 with_reducible refine s_cons ?_
 refine get_put (by assumption) (by rfl) ?_
 refine set_ta (by assumption) ?_
 with_reducible refine s_nil ?_
 exact hq
theorem c204 (h : RO σ p d t) (hl : R.tl.length = 34) (h0 : 0 ≤ k) (h1 : k < 34) (hq : K .none (put σ d t (incIso k R))) : lCall (callA XW (n + 1)) 204 [.ref p, .int k] (put σ d t R) K := by
 refine lCall.mk (call_of (fn := fnAt 14 15 []) (ae := [("self", .ref p), ("k", .int k)]) (by rfl) ?_)
 refine s_cons ?_
 refine get_put (by assumption) (by rfl) ?_
 refine it_put (by assumption) (by k_mem) (by lia) (by lia) ?_
 refine pa_put (by assumption) (by k_mem) (by lia) (by lia) ?_
 with_reducible refine s_cons ?_
 refine get_put (by assumption) (by rfl) ?_
 refine wG_sh (by lia) ?_
 refine set_fi (by assumption) ?_
 with_reducible refine s_nil ?_
 exact hq
theorem c211 (h : RO σ p d t) (hl : R.tl.length = 34) (h0 : 0 ≤ k) (h1 : k < 34) (hq : K .none (put σ d t (decIso k R))) : lCall (callA XW (n + 1)) 211 [.ref p, .int k] (put σ d t R) K := by
 refine lCall.mk (call_of (fn := fnAt 14 16 []) (ae := [("self", .ref p), ("k", .int k)]) (by rfl) ?_)
 refine s_cons ?_
 refine get_put (by assumption) (by rfl) ?_
 refine it_put (by assumption) (by k_mem) (by lia) (by lia) ?_
 refine pa_put (by assumption) (by k_mem) (by lia) (by lia) ?_
 with_reducible refine s_cons ?_
 refine get_put (by assumption) (by rfl) ?_
 refine wG_sh (by lia) ?_
 refine set_fi (by assumption) ?_
 with_reducible refine s_nil ?_
 exact hq
end
section
noncomputable def r1V (R : RS) : Int := if R.pr ≠ 0 then 8 - R.m * 2 - R.ta - R.pr else if R.fc ≠ 0 ∧ R.fi ≠ 0 ∧ Builtin.bitOr R.fc R.fi = R.fc then 8 - R.m * 2 - R.ta - R.pr + 1 else 8 - R.m * 2 - R.ta - R.pr
noncomputable def k1V (R : RS) : Int := if R.pr ≠ 0 then R.m + R.ta + (R.pr - 1) else R.m + R.ta
noncomputable def r2V (R : RS) : Int := if k1V R > 4 then r1V R + (k1V R - 4) else r1V R
noncomputable def retV (R : RS) : Int := if r2V R ≠ -1 ∧ r2V R < R.jd then R.jd else r2V R
noncomputable def upd (R : RS) : RS := { R with mn := if retV R < R.mn then retV R else R.mn }
set_option maxHeartbeats 2000000 in
theorem c127 {σ : Sto} {p d t n : Nat} {R : RS} {K : KE} (h : RO σ p d t) (hm0 : -1000 ≤ R.m) (hm1 : R.m ≤ 1000) (hq : K .none (put σ d t (upd R))) : lCall (callA XW (n + 1)) 127 [.ref p] (put σ d t R) K := by
 refine lCall.mk (call_of (fn := fnAt 14 4 []) (ae := [("self", .ref p)]) (by rfl) ?_)
 refine s_join [("self", .ref p), ("ret_shanten", .int (8 - R.m * 2 - R.ta - R.pr))] (put σ d t R) ?_ ?_
 ·refine get_put (by assumption) (by rfl) ?_
  refine wG_sm (by lia) ?_
  refine get_put (by assumption) (by rfl) ?_
  refine get_put (by assumption) (by rfl) ?_
  exact ⟨rfl, rfl, rfl⟩
 refine s_join [("self", .ref p), ("ret_shanten", .int (8 - R.m * 2 - R.ta - R.pr)), ("n_mentsu_kouho", .int (R.m + R.ta))] (put σ d t R) ?_ ?_
 ·refine get_put (by assumption) (by rfl) ?_
  refine get_put (by assumption) (by rfl) ?_
  exact ⟨rfl, rfl, rfl⟩
 refine s_join [("self", .ref p), ("ret_shanten", .int (r1V R)), ("n_mentsu_kouho", .int (k1V R))] (put σ d t R) ?_ ?_
 ·unfold r1V k1V
  repeat' (first | with_reducible refine s_nil ?_ | with_reducible refine s_cons ?_ | refine get_put (by assumption) (by rfl) ?_ | refine get_con (by rfl) ?_ | refine wIf_t ?_ | refine wIf_f ?_ | refine wIf_bneI ?_ | refine wIf_beqI ?_ | refine wIf_decI ?_ | refine wIf_not ?_ | refine if_split (fun q => ?_) (fun q => ?_))
  all_goals (refine ⟨rfl, ?_, rfl⟩; first | (simp_all; done) | (simp_all; lia) | (simp_all; rfl))
 refine s_join [("self", .ref p), ("ret_shanten", .int (r2V R)), ("n_mentsu_kouho", .int (k1V R))] (put σ d t R) ?_ ?_
 ·unfold r2V
  repeat' (first | with_reducible refine s_nil ?_ | with_reducible refine s_cons ?_ | refine get_put (by assumption) (by rfl) ?_ | refine get_con (by rfl) ?_ | refine wIf_t ?_ | refine wIf_f ?_ | refine wIf_bneI ?_ | refine wIf_beqI ?_ | refine wIf_decI ?_ | refine wIf_not ?_ | refine if_split (fun q => ?_) (fun q => ?_))
  all_goals (refine ⟨rfl, ?_, rfl⟩; first | (simp_all; done) | (simp_all; lia) | (simp_all; rfl))
 refine s_join [("self", .ref p), ("ret_shanten", .int (retV R)), ("n_mentsu_kouho", .int (k1V R))] (put σ d t R) ?_ ?_
 ·unfold retV
  repeat' (first | with_reducible refine s_nil ?_ | with_reducible refine s_cons ?_ | refine get_put (by assumption) (by rfl) ?_ | refine get_con (by rfl) ?_ | refine wIf_t ?_ | refine wIf_f ?_ | refine wIf_bneI ?_ | refine wIf_beqI ?_ | refine wIf_decI ?_ | refine wIf_not ?_ | refine if_split (fun q => ?_) (fun q => ?_))
  all_goals (refine ⟨rfl, ?_, rfl⟩; first | (simp_all; done) | (simp_all; lia) | (simp_all; rfl))
 with_reducible refine s_cons ?_
 refine get_put (by assumption) (by rfl) ?_
 refine set_mn (by assumption) ?_
 with_reducible refine s_nil ?_
 exact hq
/-- where the next tile lies -/
noncomputable def nzI : Nat → List Int → Int → Int
 | 0, _, d => d
 | k + 1, l, d => if gt l d ≠ 0 then d else if d + 1 ≥ 27 then d + 1 else nzI k l (d + 1)
noncomputable def iV (e : Int) : Int := let a := if e > 8 then e - 9 else e; if a > 8 then a - 9 else a
section
variable (rec : Int → RS → Option RS)
/-- take out, go on, put back -/
noncomputable def via (inc dec : RS → RS) (d : Int) (R : RS) : Option RS := (rec d (inc R)).map dec
noncomputable def syuIf (e : Int) (d : Int) (R : RS) : Option RS := if gt R.tl (e + 1) ≠ 0 then via rec (incSyu e) (decSyu e) d R else some R
noncomputable def two (i e d : Int) (R : RS) : Option RS := if i < 7 ∧ gt R.tl (e + 2) ≠ 0 then (syuIf rec e d R).bind (via rec (incT2 e) (decT2 e) (e + 1)) else some R
noncomputable def one (i e : Int) (R : RS) : Option RS := if i < 8 ∧ gt R.tl (e + 1) ≠ 0 then via rec (incT1 e) (decT1 e) (e + 1) R else some R
noncomputable def blk4 (i e : Int) (R : RS) : Option RS :=
 (two rec i e (e + 1) (incSet e R)).bind fun R => (one rec i e R).bind fun R => (via rec (incIso e) (decIso e) (e + 1) R).bind fun R =>
 (two rec i e e (incPair e (decSet e R))).bind fun R => (one rec i e R).bind fun R => some (decPair e R)
noncomputable def onlyT2 (i e : Int) (R : RS) : Option RS := if i < 7 ∧ gt R.tl (e + 2) ≠ 0 then via rec (incT2 e) (decT2 e) (e + 1) R else some R
noncomputable def blk3 (i e : Int) (R : RS) : Option RS :=
 (via rec (incSet e) (decSet e) (e + 1) R).bind fun R =>
 (if i < 7 ∧ gt (incPair e R).tl (e + 1) ≠ 0 ∧ gt (incPair e R).tl (e + 2) ≠ 0 then via rec (incSyu e) (decSyu e) (e + 1) (incPair e R) else (onlyT2 rec i e (incPair e R)).bind (one rec i e)).bind fun R =>
 (if i < 7 ∧ gt (decPair e R).tl (e + 2) ≥ 2 ∧ gt (decPair e R).tl (e + 1) ≥ 2 then via rec (fun R => incSyu e (incSyu e R)) (fun R => decSyu e (decSyu e R)) e (decPair e R) else some (decPair e R))
noncomputable def blk2 (i e : Int) (R : RS) : Option RS :=
 (via rec (incPair e) (decPair e) (e + 1) R).bind fun R => if i < 7 ∧ gt R.tl (e + 2) ≠ 0 ∧ gt R.tl (e + 1) ≠ 0 then via rec (incSyu e) (decSyu e) e R else some R
noncomputable def blk1 (i e : Int) (R : RS) : Option RS :=
 if i < 6 ∧ gt R.tl (e + 1) = 1 ∧ gt R.tl (e + 2) ≠ 0 ∧ gt R.tl (e + 3) ≠ 4 then via rec (incSyu e) (decSyu e) (e + 2) R
 else (via rec (incIso e) (decIso e) (e + 1) R).bind fun R => (two rec i e (e + 1) R).bind (one rec i e)
noncomputable def stepB (e v : Int) (b : RS → Option RS) (R : RS) : Option RS := if gt R.tl e = v then b R else some R
noncomputable def runB (e : Int) (R : RS) : Option RS := (stepB e 4 (blk4 rec (iV e) e) R).bind fun R => (stepB e 3 (blk3 rec (iV e) e) R).bind fun R => (stepB e 2 (blk2 rec (iV e) e) R).bind (stepB e 1 (blk1 rec (iV e) e))
end
noncomputable def updO (R : RS) : Option RS := if -1000 ≤ R.m ∧ R.m ≤ 1000 then some (upd R) else none
noncomputable def runO : Nat → Int → RS → Option RS
 | 0, _, _ => none
 | k + 1, d, R => if R.mn = -1 then some R else if nzI 28 R.tl d ≥ 27 then updO R else runB (runO k) (nzI 28 R.tl d) R
theorem via_some {rec : Int → RS → Option RS} {inc dec : RS → RS} {d : Int} {R R' : RS} (h : via rec inc dec d R = some R') : ∃ R2, rec d (inc R) = some R2 ∧ R' = dec R2 := by
 obtain ⟨R2, a, b⟩ := Option.map_eq_some_iff.mp h
 exact ⟨R2, a, b.symm⟩
/-- what every step keeps, the run keeps -/
structure Keeps (P : RS → Prop) : Prop where
 incSet : ∀ k R, P R → P (incSet k R)
 decSet : ∀ k R, P R → P (decSet k R)
 incPair : ∀ k R, P R → P (incPair k R)
 decPair : ∀ k R, P R → P (decPair k R)
 incSyu : ∀ k R, P R → P (incSyu k R)
 decSyu : ∀ k R, P R → P (decSyu k R)
 incT1 : ∀ k R, P R → P (incT1 k R)
 decT1 : ∀ k R, P R → P (decT1 k R)
 incT2 : ∀ k R, P R → P (incT2 k R)
 decT2 : ∀ k R, P R → P (decT2 k R)
 incIso : ∀ k R, P R → P (incIso k R)
 decIso : ∀ k R, P R → P (decIso k R)
 upd : ∀ R, P R → P (upd R)
section
variable {P : RS → Prop} (K : Keeps P) {rec : Int → RS → Option RS} (hr : ∀ d R R', rec d R = some R' → P R → P R') {R R' : RS} {i e d : Int}
include hr in
theorem keep_via {inc dec : RS → RS} (hi : ∀ R, P R → P (inc R)) (hd : ∀ R, P R → P (dec R)) (h : via rec inc dec d R = some R') (hp : P R) : P R' := by
 obtain ⟨R2, a, rfl⟩ := via_some h
 exact hd _ (hr _ _ _ a (hi _ hp))
include K hr in
theorem keep_syuIf (h : syuIf rec e d R = some R') (hp : P R) : P R' := by
 unfold syuIf at h
 split at h
 ·exact keep_via hr (K.incSyu e) (K.decSyu e) h hp
 ·cases h; exact hp
include K hr in
theorem keep_two (h : two rec i e d R = some R') (hp : P R) : P R' := by
 unfold two at h
 split at h
 ·obtain ⟨R1, h1, h2⟩ := Option.bind_eq_some_iff.mp h
  exact keep_via hr (K.incT2 e) (K.decT2 e) h2 (keep_syuIf K hr h1 hp)
 ·cases h; exact hp
include K hr in
theorem keep_one (h : one rec i e R = some R') (hp : P R) : P R' := by
 unfold one at h
 split at h
 ·exact keep_via hr (K.incT1 e) (K.decT1 e) h hp
 ·cases h; exact hp
include K hr in
theorem keep_onlyT2 (h : onlyT2 rec i e R = some R') (hp : P R) : P R' := by
 unfold onlyT2 at h
 split at h
 ·exact keep_via hr (K.incT2 e) (K.decT2 e) h hp
 ·cases h; exact hp
include K hr in
theorem keep_blk4 (h : blk4 rec i e R = some R') (hp : P R) : P R' := by
 obtain ⟨R1, h1, h⟩ := Option.bind_eq_some_iff.mp h
 obtain ⟨R2, h2, h⟩ := Option.bind_eq_some_iff.mp h
 obtain ⟨R3, h3, h⟩ := Option.bind_eq_some_iff.mp h
 obtain ⟨R4, h4, h⟩ := Option.bind_eq_some_iff.mp h
 obtain ⟨R5, h5, h⟩ := Option.bind_eq_some_iff.mp h
 cases h
 exact K.decPair _ _ (keep_one K hr h5 (keep_two K hr h4 (K.incPair _ _ (K.decSet _ _ (keep_via hr (K.incIso e) (K.decIso e) h3 (keep_one K hr h2 (keep_two K hr h1 (K.incSet _ _ hp))))))))
include K hr in
theorem keep_blk3 (h : blk3 rec i e R = some R') (hp : P R) : P R' := by
 obtain ⟨R1, h1, h⟩ := Option.bind_eq_some_iff.mp h
 obtain ⟨R2, h2, h⟩ := Option.bind_eq_some_iff.mp h
 have p1 := keep_via hr (K.incSet e) (K.decSet e) h1 hp
 have p2 : P R2 := by
  split at h2
  ·exact keep_via hr (K.incSyu e) (K.decSyu e) h2 (K.incPair _ _ p1)
  ·obtain ⟨R3, h3, h4⟩ := Option.bind_eq_some_iff.mp h2
   exact keep_one K hr h4 (keep_onlyT2 K hr h3 (K.incPair _ _ p1))
 split at h
 ·exact keep_via hr (fun R hp => K.incSyu e _ (K.incSyu e _ hp)) (fun R hp => K.decSyu e _ (K.decSyu e _ hp)) h (K.decPair _ _ p2)
 ·cases h; exact K.decPair _ _ p2
include K hr in
theorem keep_blk2 (h : blk2 rec i e R = some R') (hp : P R) : P R' := by
 obtain ⟨R1, h1, h⟩ := Option.bind_eq_some_iff.mp h
 have p1 := keep_via hr (K.incPair e) (K.decPair e) h1 hp
 split at h
 ·exact keep_via hr (K.incSyu e) (K.decSyu e) h p1
 ·cases h; exact p1
include K hr in
theorem keep_blk1 (h : blk1 rec i e R = some R') (hp : P R) : P R' := by
 unfold blk1 at h
 split at h
 ·exact keep_via hr (K.incSyu e) (K.decSyu e) h hp
 ·obtain ⟨R1, h1, h⟩ := Option.bind_eq_some_iff.mp h
  obtain ⟨R2, h2, h⟩ := Option.bind_eq_some_iff.mp h
  exact keep_one K hr h (keep_two K hr h2 (keep_via hr (K.incIso e) (K.decIso e) h1 hp))
theorem keep_stepB {v : Int} {b : RS → Option RS} (hb : ∀ R R', b R = some R' → P R → P R') (h : stepB e v b R = some R') (hp : P R) : P R' := by
 unfold stepB at h
 split at h
 ·exact hb _ _ h hp
 ·cases h; exact hp
end
theorem keep_runO {P : RS → Prop} (K : Keeps P) : ∀ {k : Nat} {d : Int} {R R' : RS}, runO k d R = some R' → P R → P R'
 | 0, _, _, _, h, _ => by cases h
 | k + 1, d, R, R', h, hp => by
  have hr : ∀ d R R', runO k d R = some R' → P R → P R' := fun d R R' h hp => keep_runO K h hp
  unfold runO at h
  split at h
  ·cases h; exact hp
  split at h
  ·unfold updO at h
   split at h
   ·cases h; exact K.upd _ hp
   ·cases h
  ·obtain ⟨R1, h1, h⟩ := Option.bind_eq_some_iff.mp h
   obtain ⟨R2, h2, h⟩ := Option.bind_eq_some_iff.mp h
   obtain ⟨R3, h3, h⟩ := Option.bind_eq_some_iff.mp h
   exact keep_stepB (fun _ _ => keep_blk1 K hr) h (keep_stepB (fun _ _ => keep_blk2 K hr) h3 (keep_stepB (fun _ _ => keep_blk3 K hr) h2 (keep_stepB (fun _ _ => keep_blk4 K hr) h1 hp)))
theorem keepsLen : Keeps fun R => R.tl.length = 34 := ⟨fun _ _ h => len_incSet h, fun _ _ h => len_decSet h, fun _ _ h => len_incPair h, fun _ _ h => len_decPair h, fun _ _ h => len_incSyu h, fun _ _ h => len_decSyu h, fun _ _ h => len_incT1 h, fun _ _ h => len_decT1 h, fun _ _ h => len_incT2 h, fun _ _ h => len_decT2 h, fun _ _ h => len_incIso h, fun _ _ h => len_decIso h, fun _ h => h⟩
theorem len_runO {k : Nat} {d : Int} {R R' : RS} (h : runO k d R = some R') (hl : R.tl.length = 34) : R'.tl.length = 34 := keep_runO keepsLen h hl
noncomputable def SimOk (σ : Sto) (p d t k : Nat) : Prop := ∀ (dd : Int) (R R' : RS), runO k dd R = some R' → R.tl.length = 34 → 0 ≤ dd → dd ≤ 27 → ∀ K : KE, K .none (put σ d t R') → callA XW (k + 2) 120 [.ref p, .int dd] (put σ d t R) K
theorem c120 {σ : Sto} {p d t k : Nat} {R R' : RS} {dd : Int} {K : KE} (ih : SimOk σ p d t k) (h1 : runO k dd R = some R') (hl : R.tl.length = 34) (h0 : 0 ≤ dd) (h28 : dd ≤ 27) (hq : K .none (put σ d t R')) :
  lCall (callA XW (k + 1 + 1)) 120 [.ref p, .int dd] (put σ d t R) K := lCall.mk (ih _ _ _ h1 hl h0 h28 K hq)
theorem iV_bd {e : Int} (h0 : 0 ≤ e) (h1 : e < 27) : 0 ≤ iV e ∧ iV e ≤ 8 ∧ (iV e < 8 → e + 1 < 27) ∧ (iV e < 7 → e + 2 < 27) ∧ (iV e < 6 → e + 3 < 27) := by
 unfold iV; dsimp only; (repeat' split) <;> lia
theorem nzI_bd {l : List Int} : ∀ {k : Nat} {d : Int}, 0 ≤ d → d ≤ 27 → 28 - d ≤ k → 0 ≤ nzI k l d ∧ nzI k l d ≤ 28 ∧ (nzI k l d < 27 → gt l (nzI k l d) ≠ 0) ∧ d ≤ nzI k l d
 | 0, d, h0, h1, h2 => by lia
 | k + 1, d, h0, h1, h2 => by
  unfold nzI
  split
  ·rename_i h; exact ⟨h0, by lia, fun _ => h, Int.le_refl _⟩
  ·split
   ·lia
   ·obtain ⟨a, b, c, e⟩ := nzI_bd (l := l) (k := k) (d := d + 1) (by lia) (by lia) (by lia)
    exact ⟨a, b, c, by lia⟩
noncomputable abbrev aeE (p : Nat) (e i : Int) : Loc := [("self", .ref p), ("depth", .int e), ("i", .int i)]
/-- a statement's test or target, its body, its else -/
noncomputable def partsS : Stmt → Expr × List Stmt × List Stmt
 | .For t _ b o _ => (t, b, o)
 | .While t b o _ => (t, b, o)
 | .If t b o _ => (t, b, o)
 | _ => (.Name "" pos0, [], [])
noncomputable def forBody (s : Stmt) : List Stmt := (partsS s).2.1
noncomputable def forTgt (s : Stmt) : Expr := (partsS s).1
noncomputable def elseS (s : Stmt) : List Stmt := (partsS s).2.2
noncomputable def stR (j : Nat) : Stmt := (dBody 14 3).getD j (.Pass pos0)
section
variable {σ : Sto} {p d t k : Nat} {R R' : RS} {e : Int}
set_option maxHeartbeats 8000000 in
theorem blk4_ok (h : RO σ p d t) (ih : SimOk σ p d t k) (hl : R.tl.length = 34) (h0 : 0 ≤ e) (h1 : e < 27) (hr : stepB e 4 (blk4 (runO k) (iV e) e) R = some R') :
  execS XW (callA XW (k + 1 + 1)) 40 (dScope 14 3) (stR 6) (aeE p e (iV e)) (put σ d t R) fun fl a τ => fl = .next ∧ a = aeE p e (iV e) ∧ τ = put σ d t R' := by
 obtain ⟨hb1, hb2, hb3, hb4, hb5⟩ := iV_bd h0 h1
 unfold stepB at hr
 refine get_put (by assumption) (by rfl) ?_
 refine it_put (by assumption) (by k_mem) (by lia) (by lia) ?_
 refine wIf_beqI ?_
 refine if_split (fun hv => ?_) (fun hv => ?_)
 ·rw [if_pos hv] at hr
  clear hv
  obtain ⟨R1, g1, hr⟩ := Option.bind_eq_some_iff.mp hr
  obtain ⟨R2, g2, hr⟩ := Option.bind_eq_some_iff.mp hr
  obtain ⟨R3, g3, hr⟩ := Option.bind_eq_some_iff.mp hr
  obtain ⟨R4, g4, hr⟩ := Option.bind_eq_some_iff.mp hr
  obtain ⟨R5, g5, hr⟩ := Option.bind_eq_some_iff.mp hr
  cases hr
  have l0 : (incSet e R).tl.length = 34 := len_incSet hl
  refine s_join (aeE p e (iV e)) (put σ d t (incSet e R)) ?_ ?_
  ·refine res_put (by assumption) (by rfl) ?_
   refine c134 (by assumption) (by k_mem) (by lia) (by lia) ?_
   exact ⟨rfl, rfl, rfl⟩
  have g1' := g1
  refine s_join (aeE p e (iV e)) (put σ d t R1) ?_ ?_
  ·unfold two at g1
   refine wIf_decI ?_
   refine if_split (fun q12 => ?_) (fun q12 => ?_)
   ·refine get_put (by assumption) (by rfl) ?_
    refine it_put (by assumption) (by k_mem) (by lia) (by lia) ?_
    refine wIf_bneI ?_
    refine if_split (fun q13 => ?_) (fun q13 => ?_)
    ·rw [if_pos ⟨q12, q13⟩] at g1
     obtain ⟨Ra1, ha2, hb3⟩ := Option.bind_eq_some_iff.mp g1
     refine wIf_t ?_
     have ha2' := ha2
     refine s_join (aeE p e (iV e)) (put σ d t Ra1) ?_ ?_
     ·unfold syuIf at ha2
      refine get_put (by assumption) (by rfl) ?_
      refine it_put (by assumption) (by k_mem) (by lia) (by lia) ?_
      refine wIf_bneI ?_
      refine if_split (fun q8 => ?_) (fun q8 => ?_)
      ·rw [if_pos q8] at ha2
       obtain ⟨Rv5, hv6, rfl⟩ := via_some ha2
       have hl7 := len_runO hv6 (by k_mem)
       with_reducible refine s_cons ?_
       refine res_put (by assumption) (by rfl) ?_
       refine c162 (by assumption) (by k_mem) (by lia) (by lia) ?_
       refine s_cons ?_
       refine res_put (by assumption) (by rfl) ?_
       refine c120 (by assumption) (by assumption) (by k_mem) (by lia) (by lia) ?_
       refine s_cons ?_
       refine res_put (by assumption) (by rfl) ?_
       refine c169 (by assumption) (by k_mem) (by lia) (by lia) ?_
       exact ⟨rfl, rfl, rfl⟩
      ·rw [if_neg q8] at ha2
       cases ha2
       with_reducible refine s_nil ?_
       exact ⟨rfl, rfl, rfl⟩
     have hla4 := keep_syuIf (K := keepsLen) (fun _ _ _ => len_runO) ha2' (by k_mem)
     obtain ⟨Rv9, hv10, rfl⟩ := via_some hb3
     have hl11 := len_runO hv10 (by k_mem)
     with_reducible refine s_cons ?_
     refine res_put (by assumption) (by rfl) ?_
     refine c190 (by assumption) (by k_mem) (by lia) (by lia) ?_
     refine s_cons ?_
     refine res_put (by assumption) (by rfl) ?_
     refine c120 (by assumption) (by assumption) (by k_mem) (by lia) (by lia) ?_
     refine s_cons ?_
     refine res_put (by assumption) (by rfl) ?_
     refine c197 (by assumption) (by k_mem) (by lia) (by lia) ?_
     exact ⟨rfl, rfl, rfl⟩
    ·rw [if_neg (fun q => q13 q.2)] at g1
     cases g1
     refine wIf_f ?_
     with_reducible refine s_nil ?_
     exact ⟨rfl, rfl, rfl⟩
   ·rw [if_neg (fun q => q12 q.1)] at g1
    cases g1
    refine wIf_f ?_
    with_reducible refine s_nil ?_
    exact ⟨rfl, rfl, rfl⟩
  have l1 := keep_two (K := keepsLen) (fun _ _ _ => len_runO) g1' (by k_mem)
  have g2' := g2
  refine s_join (aeE p e (iV e)) (put σ d t R2) ?_ ?_
  ·unfold one at g2
   refine wIf_decI ?_
   refine if_split (fun q17 => ?_) (fun q17 => ?_)
   ·refine get_put (by assumption) (by rfl) ?_
    refine it_put (by assumption) (by k_mem) (by lia) (by lia) ?_
    refine wIf_bneI ?_
    refine if_split (fun q18 => ?_) (fun q18 => ?_)
    ·rw [if_pos ⟨q17, q18⟩] at g2
     obtain ⟨Rv14, hv15, rfl⟩ := via_some g2
     have hl16 := len_runO hv15 (by k_mem)
     refine wIf_t ?_
     with_reducible refine s_cons ?_
     refine res_put (by assumption) (by rfl) ?_
     refine c176 (by assumption) (by k_mem) (by lia) (by lia) ?_
     refine s_cons ?_
     refine res_put (by assumption) (by rfl) ?_
     refine c120 (by assumption) (by assumption) (by k_mem) (by lia) (by lia) ?_
     refine s_cons ?_
     refine res_put (by assumption) (by rfl) ?_
     refine c183 (by assumption) (by k_mem) (by lia) (by lia) ?_
     exact ⟨rfl, rfl, rfl⟩
    ·rw [if_neg (fun q => q18 q.2)] at g2
     cases g2
     refine wIf_f ?_
     with_reducible refine s_nil ?_
     exact ⟨rfl, rfl, rfl⟩
   ·rw [if_neg (fun q => q17 q.1)] at g2
    cases g2
    refine wIf_f ?_
    with_reducible refine s_nil ?_
    exact ⟨rfl, rfl, rfl⟩
  have l2 := keep_one (K := keepsLen) (fun _ _ _ => len_runO) g2' (by k_mem)
  obtain ⟨Rv19, hv20, rfl⟩ := via_some g3
  have hl21 := len_runO hv20 (by k_mem)
  refine s_join (aeE p e (iV e)) (put σ d t (incIso e R2)) ?_ ?_
  ·refine res_put (by assumption) (by rfl) ?_
   refine c204 (by assumption) (by k_mem) (by lia) (by lia) ?_
   exact ⟨rfl, rfl, rfl⟩
  refine s_join (aeE p e (iV e)) (put σ d t Rv19) ?_ ?_
  ·refine res_put (by assumption) (by rfl) ?_
   refine c120 (by assumption) (by assumption) (by k_mem) (by lia) (by lia) ?_
   exact ⟨rfl, rfl, rfl⟩
  refine s_join (aeE p e (iV e)) (put σ d t (decIso e Rv19)) ?_ ?_
  ·refine res_put (by assumption) (by rfl) ?_
   refine c211 (by assumption) (by k_mem) (by lia) (by lia) ?_
   exact ⟨rfl, rfl, rfl⟩
  refine s_join (aeE p e (iV e)) (put σ d t (decSet e (decIso e Rv19))) ?_ ?_
  ·refine res_put (by assumption) (by rfl) ?_
   refine c141 (by assumption) (by k_mem) (by lia) (by lia) ?_
   exact ⟨rfl, rfl, rfl⟩
  refine s_join (aeE p e (iV e)) (put σ d t (incPair e (decSet e (decIso e Rv19)))) ?_ ?_
  ·refine res_put (by assumption) (by rfl) ?_
   refine c148 (by assumption) (by k_mem) (by lia) (by lia) ?_
   exact ⟨rfl, rfl, rfl⟩
  have g4' := g4
  refine s_join (aeE p e (iV e)) (put σ d t R4) ?_ ?_
  ·unfold two at g4
   refine wIf_decI ?_
   refine if_split (fun q33 => ?_) (fun q33 => ?_)
   ·refine get_put (by assumption) (by rfl) ?_
    refine it_put (by assumption) (by k_mem) (by lia) (by lia) ?_
    refine wIf_bneI ?_
    refine if_split (fun q34 => ?_) (fun q34 => ?_)
    ·rw [if_pos ⟨q33, q34⟩] at g4
     obtain ⟨Ra22, ha23, hb24⟩ := Option.bind_eq_some_iff.mp g4
     refine wIf_t ?_
     have ha23' := ha23
     refine s_join (aeE p e (iV e)) (put σ d t Ra22) ?_ ?_
     ·unfold syuIf at ha23
      refine get_put (by assumption) (by rfl) ?_
      refine it_put (by assumption) (by k_mem) (by lia) (by lia) ?_
      refine wIf_bneI ?_
      refine if_split (fun q29 => ?_) (fun q29 => ?_)
      ·rw [if_pos q29] at ha23
       obtain ⟨Rv26, hv27, rfl⟩ := via_some ha23
       have hl28 := len_runO hv27 (by k_mem)
       with_reducible refine s_cons ?_
       refine res_put (by assumption) (by rfl) ?_
       refine c162 (by assumption) (by k_mem) (by lia) (by lia) ?_
       refine s_cons ?_
       refine res_put (by assumption) (by rfl) ?_
       refine c120 (by assumption) (by assumption) (by k_mem) (by lia) (by lia) ?_
       refine s_cons ?_
       refine res_put (by assumption) (by rfl) ?_
       refine c169 (by assumption) (by k_mem) (by lia) (by lia) ?_
       exact ⟨rfl, rfl, rfl⟩
      ·rw [if_neg q29] at ha23
       cases ha23
       with_reducible refine s_nil ?_
       exact ⟨rfl, rfl, rfl⟩
     have hla25 := keep_syuIf (K := keepsLen) (fun _ _ _ => len_runO) ha23' (by k_mem)
     obtain ⟨Rv30, hv31, rfl⟩ := via_some hb24
     have hl32 := len_runO hv31 (by k_mem)
     with_reducible refine s_cons ?_
     refine res_put (by assumption) (by rfl) ?_
     refine c190 (by assumption) (by k_mem) (by lia) (by lia) ?_
     refine s_cons ?_
     refine res_put (by assumption) (by rfl) ?_
     refine c120 (by assumption) (by assumption) (by k_mem) (by lia) (by lia) ?_
     refine s_cons ?_
     refine res_put (by assumption) (by rfl) ?_
     refine c197 (by assumption) (by k_mem) (by lia) (by lia) ?_
     exact ⟨rfl, rfl, rfl⟩
    ·rw [if_neg (fun q => q34 q.2)] at g4
     cases g4
     refine wIf_f ?_
     with_reducible refine s_nil ?_
     exact ⟨rfl, rfl, rfl⟩
   ·rw [if_neg (fun q => q33 q.1)] at g4
    cases g4
    refine wIf_f ?_
    with_reducible refine s_nil ?_
    exact ⟨rfl, rfl, rfl⟩
  have l4 := keep_two (K := keepsLen) (fun _ _ _ => len_runO) g4' (by k_mem)
  have g5' := g5
  refine s_join (aeE p e (iV e)) (put σ d t R5) ?_ ?_
  ·unfold one at g5
   refine wIf_decI ?_
   refine if_split (fun q38 => ?_) (fun q38 => ?_)
   ·refine get_put (by assumption) (by rfl) ?_
    refine it_put (by assumption) (by k_mem) (by lia) (by lia) ?_
    refine wIf_bneI ?_
    refine if_split (fun q39 => ?_) (fun q39 => ?_)
    ·rw [if_pos ⟨q38, q39⟩] at g5
     obtain ⟨Rv35, hv36, rfl⟩ := via_some g5
     have hl37 := len_runO hv36 (by k_mem)
     refine wIf_t ?_
     with_reducible refine s_cons ?_
     refine res_put (by assumption) (by rfl) ?_
     refine c176 (by assumption) (by k_mem) (by lia) (by lia) ?_
     refine s_cons ?_
     refine res_put (by assumption) (by rfl) ?_
     refine c120 (by assumption) (by assumption) (by k_mem) (by lia) (by lia) ?_
     refine s_cons ?_
     refine res_put (by assumption) (by rfl) ?_
     refine c183 (by assumption) (by k_mem) (by lia) (by lia) ?_
     exact ⟨rfl, rfl, rfl⟩
    ·rw [if_neg (fun q => q39 q.2)] at g5
     cases g5
     refine wIf_f ?_
     with_reducible refine s_nil ?_
     exact ⟨rfl, rfl, rfl⟩
   ·rw [if_neg (fun q => q38 q.1)] at g5
    cases g5
    refine wIf_f ?_
    with_reducible refine s_nil ?_
    exact ⟨rfl, rfl, rfl⟩
  have l5 := keep_one (K := keepsLen) (fun _ _ _ => len_runO) g5' (by k_mem)
  with_reducible refine s_cons ?_
  refine res_put (by assumption) (by rfl) ?_
  refine c155 (by assumption) (by k_mem) (by lia) (by lia) ?_
  exact ⟨rfl, rfl, rfl⟩
 ·rw [if_neg hv] at hr
  cases hr
  with_reducible refine s_nil ?_
  exact ⟨rfl, rfl, rfl⟩
set_option maxHeartbeats 8000000 in
theorem blk2_ok (h : RO σ p d t) (ih : SimOk σ p d t k) (hl : R.tl.length = 34) (h0 : 0 ≤ e) (h1 : e < 27) (hr : stepB e 2 (blk2 (runO k) (iV e) e) R = some R') :
  execS XW (callA XW (k + 1 + 1)) 40 (dScope 14 3) (stR 8) (aeE p e (iV e)) (put σ d t R) fun fl a τ => fl = .next ∧ a = aeE p e (iV e) ∧ τ = put σ d t R' := by
 obtain ⟨hb1, hb2, hb3, hb4, hb5⟩ := iV_bd h0 h1
 unfold stepB at hr
 refine get_put (by assumption) (by rfl) ?_
 refine it_put (by assumption) (by k_mem) (by lia) (by lia) ?_
 refine wIf_beqI ?_
 refine if_split (fun hv => ?_) (fun hv => ?_)
 ·rw [if_pos hv] at hr
  clear hv
  obtain ⟨R1, g1, hr⟩ := Option.bind_eq_some_iff.mp hr
  obtain ⟨Rv40, hv41, rfl⟩ := via_some g1
  have hl42 := len_runO hv41 (by k_mem)
  refine s_join (aeE p e (iV e)) (put σ d t (incPair e R)) ?_ ?_
  ·refine res_put (by assumption) (by rfl) ?_
   refine c148 (by assumption) (by k_mem) (by lia) (by lia) ?_
   exact ⟨rfl, rfl, rfl⟩
  refine s_join (aeE p e (iV e)) (put σ d t Rv40) ?_ ?_
  ·refine res_put (by assumption) (by rfl) ?_
   refine c120 (by assumption) (by assumption) (by k_mem) (by lia) (by lia) ?_
   exact ⟨rfl, rfl, rfl⟩
  refine s_join (aeE p e (iV e)) (put σ d t (decPair e Rv40)) ?_ ?_
  ·refine res_put (by assumption) (by rfl) ?_
   refine c155 (by assumption) (by k_mem) (by lia) (by lia) ?_
   exact ⟨rfl, rfl, rfl⟩
  refine s_join (aeE p e (iV e)) (put σ d t R') ?_ ?_
  ·refine wIf_decI ?_
   refine if_split (fun q46 => ?_) (fun q46 => ?_)
   ·refine get_put (by assumption) (by rfl) ?_
    refine it_put (by assumption) (by k_mem) (by lia) (by lia) ?_
    refine wIf_bneI ?_
    refine if_split (fun q47 => ?_) (fun q47 => ?_)
    ·refine get_put (by assumption) (by rfl) ?_
     refine it_put (by assumption) (by k_mem) (by lia) (by lia) ?_
     refine wIf_bneI ?_
     refine if_split (fun q48 => ?_) (fun q48 => ?_)
     ·rw [if_pos ⟨q46, q47, q48⟩] at hr
      obtain ⟨Rv43, hv44, rfl⟩ := via_some hr
      have hl45 := len_runO hv44 (by k_mem)
      refine wIf_t ?_
      with_reducible refine s_cons ?_
      refine res_put (by assumption) (by rfl) ?_
      refine c162 (by assumption) (by k_mem) (by lia) (by lia) ?_
      refine s_cons ?_
      refine res_put (by assumption) (by rfl) ?_
      refine c120 (by assumption) (by assumption) (by k_mem) (by lia) (by lia) ?_
      refine s_cons ?_
      refine res_put (by assumption) (by rfl) ?_
      refine c169 (by assumption) (by k_mem) (by lia) (by lia) ?_
      exact ⟨rfl, rfl, rfl⟩
     ·rw [if_neg (fun q => q48 q.2.2)] at hr
      cases hr
      refine wIf_f ?_
      with_reducible refine s_nil ?_
      exact ⟨rfl, rfl, rfl⟩
    ·rw [if_neg (fun q => q47 q.2.1)] at hr
     cases hr
     refine wIf_f ?_
     with_reducible refine s_nil ?_
     exact ⟨rfl, rfl, rfl⟩
   ·rw [if_neg (fun q => q46 q.1)] at hr
    cases hr
    refine wIf_f ?_
    with_reducible refine s_nil ?_
    exact ⟨rfl, rfl, rfl⟩
  exact ⟨rfl, rfl, rfl⟩
 ·rw [if_neg hv] at hr
  cases hr
  with_reducible refine s_nil ?_
  exact ⟨rfl, rfl, rfl⟩
set_option maxHeartbeats 8000000 in
theorem blk1_ok (h : RO σ p d t) (ih : SimOk σ p d t k) (hl : R.tl.length = 34) (h0 : 0 ≤ e) (h1 : e < 27) (hr : stepB e 1 (blk1 (runO k) (iV e) e) R = some R') :
  execS XW (callA XW (k + 1 + 1)) 40 (dScope 14 3) (stR 9) (aeE p e (iV e)) (put σ d t R) fun fl a τ => fl = .next ∧ a = aeE p e (iV e) ∧ τ = put σ d t R' := by
 obtain ⟨hb1, hb2, hb3, hb4, hb5⟩ := iV_bd h0 h1
 unfold stepB at hr
 refine get_put (by assumption) (by rfl) ?_
 refine it_put (by assumption) (by k_mem) (by lia) (by lia) ?_
 refine wIf_beqI ?_
 refine if_split (fun hv => ?_) (fun hv => ?_)
 ·rw [if_pos hv] at hr
  clear hv
  have els : ((via (runO k) (incIso e) (decIso e) (e + 1) R).bind fun R => (two (runO k) (iV e) e (e + 1) R).bind (one (runO k) (iV e) e)) = some R' → seqA (execS XW (callA XW (k + 1 + 1)) 38 (dScope 14 3)) (elseS ((forBody (stR 9)).getD 0 (.Pass pos0))) (aeE p e (iV e)) (put σ d t R) fun fl a τ => fl = .next ∧ a = aeE p e (iV e) ∧ τ = put σ d t R' := by
   intro hr
   obtain ⟨R1, g1, hx⟩ := Option.bind_eq_some_iff.mp hr
   obtain ⟨R2, g2, hy⟩ := Option.bind_eq_some_iff.mp hx
   clear hx hr
   obtain ⟨Rv52, hv53, rfl⟩ := via_some g1
   have hl54 := len_runO hv53 (by k_mem)
   refine s_join (aeE p e (iV e)) (put σ d t (incIso e R)) ?_ ?_
   ·refine res_put (by assumption) (by rfl) ?_
    refine c204 (by assumption) (by k_mem) (by lia) (by lia) ?_
    exact ⟨rfl, rfl, rfl⟩
   refine s_join (aeE p e (iV e)) (put σ d t Rv52) ?_ ?_
   ·refine res_put (by assumption) (by rfl) ?_
    refine c120 (by assumption) (by assumption) (by k_mem) (by lia) (by lia) ?_
    exact ⟨rfl, rfl, rfl⟩
   refine s_join (aeE p e (iV e)) (put σ d t (decIso e Rv52)) ?_ ?_
   ·refine res_put (by assumption) (by rfl) ?_
    refine c211 (by assumption) (by k_mem) (by lia) (by lia) ?_
    exact ⟨rfl, rfl, rfl⟩
   have g2' := g2
   refine s_join (aeE p e (iV e)) (put σ d t R2) ?_ ?_
   ·unfold two at g2
    refine wIf_decI ?_
    refine if_split (fun q66 => ?_) (fun q66 => ?_)
    ·refine get_put (by assumption) (by rfl) ?_
     refine it_put (by assumption) (by k_mem) (by lia) (by lia) ?_
     refine wIf_bneI ?_
     refine if_split (fun q67 => ?_) (fun q67 => ?_)
     ·rw [if_pos ⟨q66, q67⟩] at g2
      obtain ⟨Ra55, ha56, hb57⟩ := Option.bind_eq_some_iff.mp g2
      refine wIf_t ?_
      have ha56' := ha56
      refine s_join (aeE p e (iV e)) (put σ d t Ra55) ?_ ?_
      ·unfold syuIf at ha56
       refine get_put (by assumption) (by rfl) ?_
       refine it_put (by assumption) (by k_mem) (by lia) (by lia) ?_
       refine wIf_bneI ?_
       refine if_split (fun q62 => ?_) (fun q62 => ?_)
       ·rw [if_pos q62] at ha56
        obtain ⟨Rv59, hv60, rfl⟩ := via_some ha56
        have hl61 := len_runO hv60 (by k_mem)
        with_reducible refine s_cons ?_
        refine res_put (by assumption) (by rfl) ?_
        refine c162 (by assumption) (by k_mem) (by lia) (by lia) ?_
        refine s_cons ?_
        refine res_put (by assumption) (by rfl) ?_
        refine c120 (by assumption) (by assumption) (by k_mem) (by lia) (by lia) ?_
        refine s_cons ?_
        refine res_put (by assumption) (by rfl) ?_
        refine c169 (by assumption) (by k_mem) (by lia) (by lia) ?_
        exact ⟨rfl, rfl, rfl⟩
       ·rw [if_neg q62] at ha56
        cases ha56
        with_reducible refine s_nil ?_
        exact ⟨rfl, rfl, rfl⟩
      have hla58 := keep_syuIf (K := keepsLen) (fun _ _ _ => len_runO) ha56' (by k_mem)
      obtain ⟨Rv63, hv64, rfl⟩ := via_some hb57
      have hl65 := len_runO hv64 (by k_mem)
      with_reducible refine s_cons ?_
      refine res_put (by assumption) (by rfl) ?_
      refine c190 (by assumption) (by k_mem) (by lia) (by lia) ?_
      refine s_cons ?_
      refine res_put (by assumption) (by rfl) ?_
      refine c120 (by assumption) (by assumption) (by k_mem) (by lia) (by lia) ?_
      refine s_cons ?_
      refine res_put (by assumption) (by rfl) ?_
      refine c197 (by assumption) (by k_mem) (by lia) (by lia) ?_
      exact ⟨rfl, rfl, rfl⟩
     ·rw [if_neg (fun q => q67 q.2)] at g2
      cases g2
      refine wIf_f ?_
      with_reducible refine s_nil ?_
      exact ⟨rfl, rfl, rfl⟩
    ·rw [if_neg (fun q => q66 q.1)] at g2
     cases g2
     refine wIf_f ?_
     with_reducible refine s_nil ?_
     exact ⟨rfl, rfl, rfl⟩
   have l2 := keep_two (K := keepsLen) (fun _ _ _ => len_runO) g2' (by k_mem)
   have hy' := hy
   refine s_join (aeE p e (iV e)) (put σ d t R') ?_ ?_
   ·unfold one at hy
    refine wIf_decI ?_
    refine if_split (fun q71 => ?_) (fun q71 => ?_)
    ·refine get_put (by assumption) (by rfl) ?_
     refine it_put (by assumption) (by k_mem) (by lia) (by lia) ?_
     refine wIf_bneI ?_
     refine if_split (fun q72 => ?_) (fun q72 => ?_)
     ·rw [if_pos ⟨q71, q72⟩] at hy
      obtain ⟨Rv68, hv69, rfl⟩ := via_some hy
      have hl70 := len_runO hv69 (by k_mem)
      refine wIf_t ?_
      with_reducible refine s_cons ?_
      refine res_put (by assumption) (by rfl) ?_
      refine c176 (by assumption) (by k_mem) (by lia) (by lia) ?_
      refine s_cons ?_
      refine res_put (by assumption) (by rfl) ?_
      refine c120 (by assumption) (by assumption) (by k_mem) (by lia) (by lia) ?_
      refine s_cons ?_
      refine res_put (by assumption) (by rfl) ?_
      refine c183 (by assumption) (by k_mem) (by lia) (by lia) ?_
      exact ⟨rfl, rfl, rfl⟩
     ·rw [if_neg (fun q => q72 q.2)] at hy
      cases hy
      refine wIf_f ?_
      with_reducible refine s_nil ?_
      exact ⟨rfl, rfl, rfl⟩
    ·rw [if_neg (fun q => q71 q.1)] at hy
     cases hy
     refine wIf_f ?_
     with_reducible refine s_nil ?_
     exact ⟨rfl, rfl, rfl⟩
   have l3 := keep_one (K := keepsLen) (fun _ _ _ => len_runO) hy' (by k_mem)
   exact ⟨rfl, rfl, rfl⟩
  refine s_join (aeE p e (iV e)) (put σ d t R') ?_ ?_
  ·unfold blk1 at hr
   refine wIf_decI ?_
   refine if_split (fun q73 => ?_) (fun q73 => ?_)
   ·refine get_put (by assumption) (by rfl) ?_
    refine it_put (by assumption) (by k_mem) (by lia) (by lia) ?_
    refine wIf_beqI ?_
    refine if_split (fun q74 => ?_) (fun q74 => ?_)
    ·refine get_put (by assumption) (by rfl) ?_
     refine it_put (by assumption) (by k_mem) (by lia) (by lia) ?_
     refine wIf_bneI ?_
     refine if_split (fun q75 => ?_) (fun q75 => ?_)
     ·refine get_put (by assumption) (by rfl) ?_
      refine it_put (by assumption) (by k_mem) (by lia) (by lia) ?_
      refine wIf_bneI ?_
      refine if_split (fun q76 => ?_) (fun q76 => ?_)
      ·rw [if_pos ⟨q73, q74, q75, q76⟩] at hr
       obtain ⟨Rv49, hv50, rfl⟩ := via_some hr
       have hl51 := len_runO hv50 (by k_mem)
       refine wIf_t ?_
       with_reducible refine s_cons ?_
       refine res_put (by assumption) (by rfl) ?_
       refine c162 (by assumption) (by k_mem) (by lia) (by lia) ?_
       refine s_cons ?_
       refine res_put (by assumption) (by rfl) ?_
       refine c120 (by assumption) (by assumption) (by k_mem) (by lia) (by lia) ?_
       refine s_cons ?_
       refine res_put (by assumption) (by rfl) ?_
       refine c169 (by assumption) (by k_mem) (by lia) (by lia) ?_
       exact ⟨rfl, rfl, rfl⟩
      ·rw [if_neg (fun q => q76 q.2.2.2)] at hr
       repeat refine wIf_f ?_
       exact els hr
     ·rw [if_neg (fun q => q75 q.2.2.1)] at hr
      repeat refine wIf_f ?_
      exact els hr
    ·rw [if_neg (fun q => q74 q.2.1)] at hr
     repeat refine wIf_f ?_
     exact els hr
   ·rw [if_neg (fun q => q73 q.1)] at hr
    repeat refine wIf_f ?_
    exact els hr
  exact ⟨rfl, rfl, rfl⟩
 ·rw [if_neg hv] at hr
  cases hr
  with_reducible refine s_nil ?_
  exact ⟨rfl, rfl, rfl⟩
set_option maxHeartbeats 8000000 in
theorem blk3_ok (h : RO σ p d t) (ih : SimOk σ p d t k) (hl : R.tl.length = 34) (h0 : 0 ≤ e) (h1 : e < 27) (hr : stepB e 3 (blk3 (runO k) (iV e) e) R = some R') :
  execS XW (callA XW (k + 1 + 1)) 40 (dScope 14 3) (stR 7) (aeE p e (iV e)) (put σ d t R) fun fl a τ => fl = .next ∧ a = aeE p e (iV e) ∧ τ = put σ d t R' := by
 obtain ⟨hb1, hb2, hb3, hb4, hb5⟩ := iV_bd h0 h1
 unfold stepB at hr
 refine get_put (by assumption) (by rfl) ?_
 refine it_put (by assumption) (by k_mem) (by lia) (by lia) ?_
 refine wIf_beqI ?_
 refine if_split (fun hv => ?_) (fun hv => ?_)
 ·rw [if_pos hv] at hr
  clear hv
  obtain ⟨R1, g1, hx⟩ := Option.bind_eq_some_iff.mp hr
  obtain ⟨R2, g2, hy⟩ := Option.bind_eq_some_iff.mp hx
  clear hx hr
  obtain ⟨Rv77, hv78, rfl⟩ := via_some g1
  have hl79 := len_runO hv78 (by k_mem)
  refine s_join (aeE p e (iV e)) (put σ d t (incSet e R)) ?_ ?_
  ·refine res_put (by assumption) (by rfl) ?_
   refine c134 (by assumption) (by k_mem) (by lia) (by lia) ?_
   exact ⟨rfl, rfl, rfl⟩
  refine s_join (aeE p e (iV e)) (put σ d t Rv77) ?_ ?_
  ·refine res_put (by assumption) (by rfl) ?_
   refine c120 (by assumption) (by assumption) (by k_mem) (by lia) (by lia) ?_
   exact ⟨rfl, rfl, rfl⟩
  refine s_join (aeE p e (iV e)) (put σ d t (decSet e Rv77)) ?_ ?_
  ·refine res_put (by assumption) (by rfl) ?_
   refine c141 (by assumption) (by k_mem) (by lia) (by lia) ?_
   exact ⟨rfl, rfl, rfl⟩
  refine s_join (aeE p e (iV e)) (put σ d t (incPair e (decSet e Rv77))) ?_ ?_
  ·refine res_put (by assumption) (by rfl) ?_
   refine c148 (by assumption) (by k_mem) (by lia) (by lia) ?_
   exact ⟨rfl, rfl, rfl⟩
  have l2 : R2.tl.length = 34 := by
   have g2' := g2
   split at g2'
   ·exact keep_via (P := fun R => R.tl.length = 34) (fun _ _ _ => len_runO) (fun _ => len_incSyu) (fun _ => len_decSyu) g2' (by k_mem)
   ·obtain ⟨R3, g3, g4⟩ := Option.bind_eq_some_iff.mp g2'
    exact keep_one (K := keepsLen) (fun _ _ _ => len_runO) g4 (keep_onlyT2 (K := keepsLen) (fun _ _ _ => len_runO) g3 (by k_mem))
  have els : ((onlyT2 (runO k) (iV e) e (incPair e (decSet e Rv77))).bind (one (runO k) (iV e) e)) = some R2 → seqA (execS XW (callA XW (k + 1 + 1)) 38 (dScope 14 3)) (elseS ((forBody (stR 7)).getD 4 (.Pass pos0))) (aeE p e (iV e)) (put σ d t (incPair e (decSet e Rv77))) fun fl a τ => fl = .next ∧ a = aeE p e (iV e) ∧ τ = put σ d t R2 := by
   intro g2
   obtain ⟨R3, g3, g4⟩ := Option.bind_eq_some_iff.mp g2
   have g3' := g3
   refine s_join (aeE p e (iV e)) (put σ d t R3) ?_ ?_
   ·unfold onlyT2 at g3
    refine wIf_decI ?_
    refine if_split (fun q86 => ?_) (fun q86 => ?_)
    ·refine get_put (by assumption) (by rfl) ?_
     refine it_put (by assumption) (by k_mem) (by lia) (by lia) ?_
     refine wIf_bneI ?_
     refine if_split (fun q87 => ?_) (fun q87 => ?_)
     ·rw [if_pos ⟨q86, q87⟩] at g3
      obtain ⟨Rv83, hv84, rfl⟩ := via_some g3
      have hl85 := len_runO hv84 (by k_mem)
      refine wIf_t ?_
      with_reducible refine s_cons ?_
      refine res_put (by assumption) (by rfl) ?_
      refine c190 (by assumption) (by k_mem) (by lia) (by lia) ?_
      refine s_cons ?_
      refine res_put (by assumption) (by rfl) ?_
      refine c120 (by assumption) (by assumption) (by k_mem) (by lia) (by lia) ?_
      refine s_cons ?_
      refine res_put (by assumption) (by rfl) ?_
      refine c197 (by assumption) (by k_mem) (by lia) (by lia) ?_
      exact ⟨rfl, rfl, rfl⟩
     ·rw [if_neg (fun q => q87 q.2)] at g3
      cases g3
      refine wIf_f ?_
      with_reducible refine s_nil ?_
      exact ⟨rfl, rfl, rfl⟩
    ·rw [if_neg (fun q => q86 q.1)] at g3
     cases g3
     refine wIf_f ?_
     with_reducible refine s_nil ?_
     exact ⟨rfl, rfl, rfl⟩
   have l3 := keep_onlyT2 (K := keepsLen) (fun _ _ _ => len_runO) g3' (by k_mem)
   have g4' := g4
   refine s_join (aeE p e (iV e)) (put σ d t R2) ?_ ?_
   ·unfold one at g4
    refine wIf_decI ?_
    refine if_split (fun q91 => ?_) (fun q91 => ?_)
    ·refine get_put (by assumption) (by rfl) ?_
     refine it_put (by assumption) (by k_mem) (by lia) (by lia) ?_
     refine wIf_bneI ?_
     refine if_split (fun q92 => ?_) (fun q92 => ?_)
     ·rw [if_pos ⟨q91, q92⟩] at g4
      obtain ⟨Rv88, hv89, rfl⟩ := via_some g4
      have hl90 := len_runO hv89 (by k_mem)
      refine wIf_t ?_
      with_reducible refine s_cons ?_
      refine res_put (by assumption) (by rfl) ?_
      refine c176 (by assumption) (by k_mem) (by lia) (by lia) ?_
      refine s_cons ?_
      refine res_put (by assumption) (by rfl) ?_
      refine c120 (by assumption) (by assumption) (by k_mem) (by lia) (by lia) ?_
      refine s_cons ?_
      refine res_put (by assumption) (by rfl) ?_
      refine c183 (by assumption) (by k_mem) (by lia) (by lia) ?_
      exact ⟨rfl, rfl, rfl⟩
     ·rw [if_neg (fun q => q92 q.2)] at g4
      cases g4
      refine wIf_f ?_
      with_reducible refine s_nil ?_
      exact ⟨rfl, rfl, rfl⟩
    ·rw [if_neg (fun q => q91 q.1)] at g4
     cases g4
     refine wIf_f ?_
     with_reducible refine s_nil ?_
     exact ⟨rfl, rfl, rfl⟩
   have l4 := keep_one (K := keepsLen) (fun _ _ _ => len_runO) g4' (by k_mem)
   exact ⟨rfl, rfl, rfl⟩
  refine s_join (aeE p e (iV e)) (put σ d t R2) ?_ ?_
  ·refine wIf_decI ?_
   refine if_split (fun q93 => ?_) (fun q93 => ?_)
   ·refine get_put (by assumption) (by rfl) ?_
    refine it_put (by assumption) (by k_mem) (by lia) (by lia) ?_
    refine wIf_bneI ?_
    refine if_split (fun q94 => ?_) (fun q94 => ?_)
    ·refine get_put (by assumption) (by rfl) ?_
     refine it_put (by assumption) (by k_mem) (by lia) (by lia) ?_
     refine wIf_bneI ?_
     refine if_split (fun q95 => ?_) (fun q95 => ?_)
     ·rw [if_pos ⟨q93, q94, q95⟩] at g2
      obtain ⟨Rv80, hv81, rfl⟩ := via_some g2
      have hl82 := len_runO hv81 (by k_mem)
      refine wIf_t ?_
      with_reducible refine s_cons ?_
      refine res_put (by assumption) (by rfl) ?_
      refine c162 (by assumption) (by k_mem) (by lia) (by lia) ?_
      refine s_cons ?_
      refine res_put (by assumption) (by rfl) ?_
      refine c120 (by assumption) (by assumption) (by k_mem) (by lia) (by lia) ?_
      refine s_cons ?_
      refine res_put (by assumption) (by rfl) ?_
      refine c169 (by assumption) (by k_mem) (by lia) (by lia) ?_
      exact ⟨rfl, rfl, rfl⟩
     ·rw [if_neg (fun q => q95 q.2.2)] at g2
      repeat refine wIf_f ?_
      exact els g2
    ·rw [if_neg (fun q => q94 q.2.1)] at g2
     repeat refine wIf_f ?_
     exact els g2
   ·rw [if_neg (fun q => q93 q.1)] at g2
    repeat refine wIf_f ?_
    exact els g2
  refine s_join (aeE p e (iV e)) (put σ d t (decPair e R2)) ?_ ?_
  ·refine res_put (by assumption) (by rfl) ?_
   refine c155 (by assumption) (by k_mem) (by lia) (by lia) ?_
   exact ⟨rfl, rfl, rfl⟩
  refine s_join (aeE p e (iV e)) (put σ d t R') ?_ ?_
  ·refine wIf_decI ?_
   refine if_split (fun q99 => ?_) (fun q99 => ?_)
   ·refine get_put (by assumption) (by rfl) ?_
    refine it_put (by assumption) (by k_mem) (by lia) (by lia) ?_
    refine wIf_decI ?_
    refine if_split (fun q100 => ?_) (fun q100 => ?_)
    ·refine get_put (by assumption) (by rfl) ?_
     refine it_put (by assumption) (by k_mem) (by lia) (by lia) ?_
     refine wIf_decI ?_
     refine if_split (fun q101 => ?_) (fun q101 => ?_)
     ·rw [if_pos ⟨q99, q100, q101⟩] at hy
      obtain ⟨Rv96, hv97, rfl⟩ := via_some hy
      have hl98 := len_runO hv97 (by k_mem)
      refine wIf_t ?_
      with_reducible refine s_cons ?_
      refine res_put (by assumption) (by rfl) ?_
      refine c162 (by assumption) (by k_mem) (by lia) (by lia) ?_
      refine s_cons ?_
      refine res_put (by assumption) (by rfl) ?_
      refine c162 (by assumption) (by k_mem) (by lia) (by lia) ?_
      refine s_cons ?_
      refine res_put (by assumption) (by rfl) ?_
      refine c120 (by assumption) (by assumption) (by k_mem) (by lia) (by lia) ?_
      refine s_cons ?_
      refine res_put (by assumption) (by rfl) ?_
      refine c169 (by assumption) (by k_mem) (by lia) (by lia) ?_
      refine s_cons ?_
      refine res_put (by assumption) (by rfl) ?_
      refine c169 (by assumption) (by k_mem) (by lia) (by lia) ?_
      exact ⟨rfl, rfl, rfl⟩
     ·rw [if_neg (fun q => q101 q.2.2)] at hy
      cases hy
      refine wIf_f ?_
      with_reducible refine s_nil ?_
      exact ⟨rfl, rfl, rfl⟩
    ·rw [if_neg (fun q => q100 q.2.1)] at hy
     cases hy
     refine wIf_f ?_
     with_reducible refine s_nil ?_
     exact ⟨rfl, rfl, rfl⟩
   ·rw [if_neg (fun q => q99 q.1)] at hy
    cases hy
    refine wIf_f ?_
    with_reducible refine s_nil ?_
    exact ⟨rfl, rfl, rfl⟩
  exact ⟨rfl, rfl, rfl⟩
 ·rw [if_neg hv] at hr
  cases hr
  with_reducible refine s_nil ?_
  exact ⟨rfl, rfl, rfl⟩
end
noncomputable abbrev aeD (p : Nat) (dd : Int) : Loc := [("self", .ref p), ("depth", .int dd)]
section
variable {σ : Sto} {p d t k : Nat} {R : RS}
theorem while_of {test : Loc → Sto → (Bool → Sto → Prop) → Prop} {body : Loc → Sto → XS} {n : Nat} {ae : Loc} {σ : Sto} {K : KS} (h : test ae σ fun c σ => wIf c (∃ K0, body ae σ K0 ∧ ∀ fl ae σ, K0 fl ae σ → match fl with
   | .next => whileA test body n ae σ K
   | .cont => whileA test body n ae σ K
   | .brk => K .next ae σ
   | .ret v => K (.ret v) ae σ) (K .next ae σ)) : whileA test body (n + 1) ae σ K := h
theorem loop_nz {call : Addr → List AV → Sto → XE} {K : KS} {tst : Expr} {b : List Stmt}
  (ht : ∀ dd : Int, 0 ≤ dd → dd ≤ 27 → ∀ K' : Bool → Sto → Prop, K' (!(gt R.tl dd != 0)) (put σ d t R) → testE XW call 39 (dScope 14 3) tst (aeD p dd) (put σ d t R) K')
  (hb : ∀ dd : Int, 0 ≤ dd → dd ≤ 27 → seqA (execS XW call 39 (dScope 14 3)) b (aeD p dd) (put σ d t R) fun fl ae τ => fl = (if dd + 1 ≥ 27 then Fl.brk else Fl.next) ∧ ae = aeD p (dd + 1) ∧ τ = put σ d t R) :
  ∀ (j N : Nat) (dd : Int), 0 ≤ dd → dd ≤ 27 → 28 - dd ≤ j → j < N → K .next (aeD p (nzI j R.tl dd)) (put σ d t R) →
   whileA (testE XW call 39 (dScope 14 3) tst) (seqA (execS XW call 39 (dScope 14 3)) b) N (aeD p dd) (put σ d t R) K := by
 intro j
 induction j with
 | zero => intro N dd h0 h1 h2; lia
 | succ j ih =>
  intro N dd h0 h1 h2 h3 hq
  obtain ⟨N, rfl⟩ : ∃ M, N = M + 1 := ⟨N - 1, by lia⟩
  unfold nzI at hq
  refine while_of (ht dd h0 h1 _ ?_)
  refine wIf_i (fun c => ?_) (fun c => ?_)
  ·have hz : gt R.tl dd = 0 := by simpa using c
   rw [if_neg (fun q => q hz)] at hq
   refine ⟨_, hb dd h0 h1, fun fl ae τ ⟨e1, e2, e3⟩ => ?_⟩
   subst e2 e3
   by_cases h27 : dd + 1 ≥ 27
   ·rw [if_pos h27] at e1 hq
    subst e1
    exact hq
   ·rw [if_neg h27] at e1 hq
    subst e1
    exact ih N (dd + 1) (by lia) (by lia) (by lia) (by lia) hq
  ·have hz : gt R.tl dd ≠ 0 := by simpa using c
   rw [if_pos hz] at hq
   exact hq
end
set_option maxHeartbeats 8000000 in
theorem run_sim {σ : Sto} {p d t : Nat} (h : RO σ p d t) : ∀ k, SimOk σ p d t k := by
 intro k
 induction k with
 | zero => intro dd R R' hr; cases hr
 | succ k ih =>
  intro dd R R' hr hl h0 h1 K hq
  have ih : SimOk σ p d t k := ih
  refine call_of (fn := fnAt 14 3 []) (ae := aeD p dd) (by rfl) ?_
  unfold runO at hr
  refine s_cons ?_
  refine get_put (by assumption) (by rfl) ?_
  refine get_con (by rfl) ?_
  refine wIf_beqI ?_
  refine if_split (fun hm => ?_) (fun hm => ?_)
  ·rw [if_pos hm] at hr
   cases hr
   with_reducible refine s_cons ?_
   exact hq
  rw [if_neg hm] at hr
  with_reducible refine s_nil ?_
  with_reducible refine s_cons ?_
  refine lockW.mk ?_
  refine loop_nz (fun dd h0 h1 K' hk => ?_) (fun dd h0 h1 => ?_) 28 _ dd h0 h1 (by lia) (by decide) ?_
  ·refine get_put (by assumption) (by rfl) ?_
   refine it_put (by assumption) (by k_mem) (by lia) (by lia) ?_
   exact hk
  ·with_reducible refine s_cons ?_
   refine s_cons ?_
   refine wIf_decI ?_
   refine if_split (fun q => ?_) (fun q => ?_)
   ·rw [if_pos q]
    with_reducible refine s_cons ?_
    exact ⟨rfl, rfl, rfl⟩
   ·rw [if_neg q]
    with_reducible refine s_nil ?_
    with_reducible refine s_nil ?_
    exact ⟨rfl, rfl, rfl⟩
  obtain ⟨b0, b1, b2, b3⟩ := nzI_bd (l := R.tl) (k := 28) h0 h1 (by lia)
  generalize nzI 28 R.tl dd = e at *
  with_reducible refine s_cons ?_
  refine wIf_decI ?_
  refine if_split (fun h27 => ?_) (fun h27 => ?_)
  ·rw [if_pos h27] at hr
   unfold updO at hr
   split at hr
   ·rename_i hm'
    cases hr
    with_reducible refine s_cons ?_
    refine res_put (by assumption) (by rfl) ?_
    refine c127 h hm'.1 hm'.2 ?_
    exact hq
   ·cases hr
  rw [if_neg h27] at hr
  with_reducible refine s_nil ?_
  refine s_join (aeE p e e) (put σ d t R) ?_ ?_
  ·skip
   exact ⟨rfl, rfl, rfl⟩
  refine s_join (aeE p e (if e > 8 then e - 9 else e)) (put σ d t R) ?_ ?_
  ·refine wIf_decI ?_
   refine if_split (fun q => ?_) (fun q => ?_)
   ·rw [if_pos q]
    with_reducible refine s_cons ?_
    exact ⟨rfl, rfl, rfl⟩
   ·rw [if_neg q]
    with_reducible refine s_nil ?_
    exact ⟨rfl, rfl, rfl⟩
  refine s_join (aeE p e (iV e)) (put σ d t R) ?_ ?_
  ·refine wIf_decI ?_
   unfold iV
   dsimp only
   refine if_split (fun q => ?_) (fun q => ?_)
   ·rw [if_pos q]
    with_reducible refine s_cons ?_
    exact ⟨rfl, rfl, rfl⟩
   ·rw [if_neg q]
    with_reducible refine s_nil ?_
    exact ⟨rfl, rfl, rfl⟩
  obtain ⟨R1, g1, hx⟩ := Option.bind_eq_some_iff.mp hr
  obtain ⟨R2, g2, hy⟩ := Option.bind_eq_some_iff.mp hx
  obtain ⟨R3, g3, g4⟩ := Option.bind_eq_some_iff.mp hy
  have e1 : e < 27 := by lia
  have l1 : R1.tl.length = 34 := keep_stepB (P := fun R => R.tl.length = 34) (fun _ _ => keep_blk4 keepsLen (fun _ _ _ => len_runO)) g1 hl
  have l2 : R2.tl.length = 34 := keep_stepB (P := fun R => R.tl.length = 34) (fun _ _ => keep_blk3 keepsLen (fun _ _ _ => len_runO)) g2 l1
  have l3 : R3.tl.length = 34 := keep_stepB (P := fun R => R.tl.length = 34) (fun _ _ => keep_blk2 keepsLen (fun _ _ _ => len_runO)) g3 l2
  refine s_join (aeE p e (iV e)) (put σ d t R1) ?_ ?_
  ·exact blk4_ok h ih hl b0 e1 g1
  refine s_join (aeE p e (iV e)) (put σ d t R2) ?_ ?_
  ·exact blk3_ok h ih l1 b0 e1 g2
  refine s_join (aeE p e (iV e)) (put σ d t R3) ?_ ?_
  ·exact blk2_ok h ih l2 b0 e1 g3
  refine s_join (aeE p e (iV e)) (put σ d t R') ?_ ?_
  ·exact blk1_ok h ih l3 b0 e1 g4
  with_reducible refine s_cons ?_
  exact hq
end
theorem gt_stl {l : List Int} {k j v : Int} (h0 : 0 ≤ k) (h1 : k < l.length) (hj : 0 ≤ j) : gt (stl l k v) j = if j = k then v else gt l j := by
 unfold gt stl
 rw [List.getD_eq_getElem?_getD, List.getD_eq_getElem?_getD]
 by_cases e : j = k
 ·subst e
  rw [if_pos rfl, List.getElem?_set_self (by lia)]; rfl
 ·rw [if_neg e, List.getElem?_set_ne (by lia)]
theorem list_ext {l l' : List Int} (h : l.length = 34) (h' : l'.length = 34) (hg : ∀ j : Int, 0 ≤ j → j < 34 → gt l j = gt l' j) : l = l' := by
 apply List.ext_getElem (by lia)
 intro i h1 h2
 have := hg i (by lia) (by lia)
 unfold gt at this
 rw [List.getD_eq_getElem?_getD, List.getD_eq_getElem?_getD, Int.toNat_natCast, List.getElem?_eq_getElem h1, List.getElem?_eq_getElem h2] at this
 simpa using this
noncomputable def s27 (l : List Int) : Int := (l.take 27).sum
theorem sum_set : ∀ {l : List Int} {k : Nat} {v : Int}, k < l.length → (l.set k v).sum = l.sum - l.getD k 0 + v
 | [], _, _, h => by simp at h
 | a :: l, 0, v, _ => by simp; lia
 | a :: l, k + 1, v, h => by
  have := sum_set (l := l) (k := k) (v := v) (by simpa using h)
  simp only [List.set_cons_succ, List.sum_cons, List.getD_cons_succ, this]; lia
theorem s27_stl {l : List Int} {k v : Int} (hl : l.length = 34) (h0 : 0 ≤ k) (h1 : k < 27) : s27 (stl l k v) = s27 l - gt l k + v := by
 unfold s27 stl gt
 rw [List.take_set, sum_set (by simp; lia)]
 congr 2
 rw [List.getD_eq_getElem?_getD, List.getD_eq_getElem?_getD, List.getElem?_take_of_lt (by lia)]
theorem sum_nonneg : ∀ {l : List Int}, (∀ x ∈ l, 0 ≤ x) → 0 ≤ l.sum
 | [], _ => by simp
 | a :: l, h => by
  have h1 := h a (List.mem_cons_self ..)
  have h2 := sum_nonneg fun x hx => h x (List.mem_cons_of_mem _ hx)
  simp only [List.sum_cons]; lia
theorem s27_nonneg {l : List Int} (hl : l.length = 34) (h : ∀ j : Int, 0 ≤ j → j < 34 → 0 ≤ gt l j) : 0 ≤ s27 l := by
 refine sum_nonneg fun x hx => ?_
 obtain ⟨i, hi, e⟩ := List.getElem_of_mem (List.mem_of_mem_take hx)
 have := h i (by lia) (by lia)
 unfold gt at this
 rw [List.getD_eq_getElem?_getD, Int.toNat_natCast, List.getElem?_eq_getElem hi] at this
 simpa [e] using this
structure Good (R : RS) : Prop where
 len : R.tl.length = 34
 nn : ∀ j : Int, 0 ≤ j → j < 34 → 0 ≤ gt R.tl j
 bd : 3 * R.m + s27 R.tl ≤ 14
 m0 : 0 ≤ R.m
 t0 : 0 ≤ R.ta
 p0 : 0 ≤ R.pr
 j0 : -1 ≤ R.jd
 n0 : -1 ≤ R.mn
structure Eqv (R R' : RS) : Prop where
 tl : R'.tl = R.tl
 m : R'.m = R.m
 ta : R'.ta = R.ta
 pr : R'.pr = R.pr
 jd : R'.jd = R.jd
theorem Eqv.refl (R : RS) : Eqv R R := ⟨rfl, rfl, rfl, rfl, rfl⟩
theorem Eqv.trans {R R' R'' : RS} (a : Eqv R R') (b : Eqv R' R'') : Eqv R R'' := ⟨b.tl.trans a.tl, b.m.trans a.m, b.ta.trans a.ta, b.pr.trans a.pr, b.jd.trans a.jd⟩
theorem Good.eqv {R R' : RS} (g : Good R) (e : Eqv R R') (hn : -1 ≤ R'.mn) : Good R' :=
 ⟨by rw [e.tl]; exact g.len, by rw [e.tl]; exact g.nn, by rw [e.tl, e.m]; exact g.bd, by rw [e.m]; exact g.m0, by rw [e.ta]; exact g.t0, by rw [e.pr]; exact g.p0, by rw [e.jd]; exact g.j0, hn⟩
noncomputable def Tot (f : RS → Option RS) (R : RS) : Prop := ∃ R', f R = some R' ∧ Eqv R R' ∧ -1 ≤ R'.mn
theorem Tot.bind {f g : RS → Option RS} {R : RS} (h : Tot f R) (k : ∀ R', Eqv R R' → -1 ≤ R'.mn → Tot g R') : Tot (fun R => (f R).bind g) R := by
 obtain ⟨R1, a, b, c⟩ := h
 obtain ⟨R2, a', b', c'⟩ := k R1 b c
 exact ⟨R2, by show (f R).bind g = _; rw [a]; exact a', b.trans b', c'⟩
theorem Tot.pure {R : RS} (h : -1 ≤ R.mn) : Tot some R := ⟨R, rfl, Eqv.refl R, h⟩
theorem upd_low {R : RS} (g : Good R) : -1 ≤ (upd R).mn := by
 have h1 := s27_nonneg g.len g.nn
 have h2 := g.bd
 have h3 := g.m0
 have h4 := g.t0
 have h5 := g.p0
 have h6 := g.j0
 have h7 := g.n0
 have hr : -1 ≤ retV R := by
  unfold retV r2V r1V k1V
  repeat' split
  all_goals lia
 unfold upd
 dsimp only
 split <;> lia
/-- changes of some counts -/
noncomputable def addAt : List (Int × Int) → List Int → List Int
 | [], l => l
 | p :: r, l => addAt r (stl l p.1 (gt l p.1 + p.2))
noncomputable def dsum : List (Int × Int) → Int → Int
 | [], _ => 0
 | p :: r, j => (if j = p.1 then p.2 else 0) + dsum r j
noncomputable def tot : List (Int × Int) → Int
 | [] => 0
 | p :: r => p.2 + tot r
noncomputable def neg : List (Int × Int) → List (Int × Int)
 | [] => []
 | p :: r => (p.1, -p.2) :: neg r
noncomputable def Bd : List (Int × Int) → Prop
 | [] => True
 | p :: r => (0 ≤ p.1 ∧ p.1 < 27) ∧ Bd r
noncomputable def Off (k : Int) : List (Int × Int) → Prop
 | [] => True
 | p :: r => k ≠ p.1 ∧ Off k r
noncomputable def NN (l : List Int) : List (Int × Int) → Prop
 | [] => True
 | p :: r => 0 ≤ gt l p.1 + p.2 ∧ Off p.1 r ∧ NN l r
theorem len_addAt : ∀ {ps : List (Int × Int)} {l : List Int}, l.length = 34 → (addAt ps l).length = 34
 | [], _, h => h
 | p :: r, l, h => by
  show (addAt r (stl l p.1 (gt l p.1 + p.2))).length = 34
  exact len_addAt (len_stl h)
theorem gt_addAt : ∀ {ps : List (Int × Int)} {l : List Int}, l.length = 34 → Bd ps → ∀ {j : Int}, 0 ≤ j → gt (addAt ps l) j = gt l j + dsum ps j
 | [], l, _, _, j, _ => (Int.add_zero _).symm
 | p :: r, l, hl, hb, j, hj => by
  show gt (addAt r _) j = gt l j + ((if j = p.1 then p.2 else 0) + dsum r j)
  rw [gt_addAt (len_stl hl) hb.2 hj, gt_stl hb.1.1 (by have := hb.1.2; lia) hj]
  by_cases h : j = p.1
  ·rw [if_pos h, if_pos h, h]; lia
  ·rw [if_neg h, if_neg h]; lia
theorem s27_addAt : ∀ {ps : List (Int × Int)} {l : List Int}, l.length = 34 → Bd ps → s27 (addAt ps l) = s27 l + tot ps
 | [], l, _, _ => (Int.add_zero _).symm
 | p :: r, l, hl, hb => by
  show s27 (addAt r _) = s27 l + (p.2 + tot r)
  rw [s27_addAt (len_stl hl) hb.2, s27_stl hl hb.1.1 hb.1.2]; lia
theorem dsum_neg : ∀ {ps : List (Int × Int)} {j : Int}, dsum (neg ps) j = - dsum ps j
 | [], _ => rfl
 | p :: r, j => by
  show (if j = p.1 then -p.2 else 0) + dsum (neg r) j = -((if j = p.1 then p.2 else 0) + dsum r j)
  rw [dsum_neg]; split <;> lia
theorem bd_neg : ∀ {ps : List (Int × Int)}, Bd ps → Bd (neg ps)
 | [], _ => trivial
 | _ :: _, h => ⟨h.1, bd_neg h.2⟩
theorem back_tl {ps : List (Int × Int)} {l l2 : List Int} (hl : l.length = 34) (hb : Bd ps) (q : l2 = addAt ps l) : addAt (neg ps) l2 = l := by
 subst q
 refine list_ext (len_addAt (len_addAt hl)) hl fun j a b => ?_
 rw [gt_addAt (len_addAt hl) (bd_neg hb) a, gt_addAt hl hb a, dsum_neg]; lia
theorem off_zero {j : Int} : ∀ {ps : List (Int × Int)}, Off j ps → dsum ps j = 0
 | [], _ => rfl
 | p :: r, h => by
  show (if j = p.1 then p.2 else 0) + dsum r j = 0
  rw [if_neg h.1, off_zero h.2]; rfl
theorem nn_add {l : List Int} {j : Int} (h0 : 0 ≤ gt l j) : ∀ {ps : List (Int × Int)}, NN l ps → 0 ≤ gt l j + dsum ps j
 | [], _ => by show 0 ≤ gt l j + 0; lia
 | p :: r, h => by
  show 0 ≤ gt l j + ((if j = p.1 then p.2 else 0) + dsum r j)
  by_cases e : j = p.1
  ·have h1 := h.1
   rw [if_pos e, e, off_zero h.2.1]; lia
  ·rw [if_neg e]
   have := nn_add h0 h.2.2
   lia
theorem good_add {R R' : RS} (g : Good R) (ps : List (Int × Int)) (hb : Bd ps) (hn : NN R.tl ps) (ht : R'.tl = addAt ps R.tl) (hm : 3 * R'.m + tot ps ≤ 3 * R.m) (m0 : 0 ≤ R'.m) (t0 : 0 ≤ R'.ta) (p0 : 0 ≤ R'.pr) (j0 : R'.jd = R.jd) (n0 : R'.mn = R.mn) : Good R' ∧ s27 R'.tl = s27 R.tl + tot ps := by
 have hs : s27 R'.tl = s27 R.tl + tot ps := by rw [ht]; exact s27_addAt g.len hb
 have bd := g.bd
 refine ⟨⟨by rw [ht]; exact len_addAt g.len, fun j a b => by rw [ht, gt_addAt g.len hb a]; exact nn_add (g.nn j a b) hn, by rw [hs]; lia, m0, t0, p0, by rw [j0]; exact g.j0, by rw [n0]; exact g.n0⟩, hs⟩
section
variable {R : RS} {e : Int}
theorem Good.incSet (g : Good R) (h0 : 0 ≤ e) (h1 : e < 27) (he : 3 ≤ gt R.tl e) : Good (incSet e R) ∧ s27 (Mj.incSet e R).tl = s27 R.tl + -3 :=
 good_add (R' := Mj.incSet e R) g [(e, -3)] ⟨⟨h0, h1⟩, trivial⟩ ⟨by show 0 ≤ gt R.tl e + -3; lia, trivial, trivial⟩ rfl (by show 3 * (R.m + 1) + (-3 + 0) ≤ _; lia) (by have := g.m0; show 0 ≤ R.m + 1; lia) g.t0 g.p0 rfl rfl
theorem Good.incPair (g : Good R) (h0 : 0 ≤ e) (h1 : e < 27) (he : 2 ≤ gt R.tl e) : Good (incPair e R) ∧ s27 (Mj.incPair e R).tl = s27 R.tl + -2 :=
 good_add (R' := Mj.incPair e R) g [(e, -2)] ⟨⟨h0, h1⟩, trivial⟩ ⟨by show 0 ≤ gt R.tl e + -2; lia, trivial, trivial⟩ rfl (by show 3 * R.m + (-2 + 0) ≤ 3 * R.m; lia) g.m0 g.t0 (by have := g.p0; show 0 ≤ R.pr + 1; lia) rfl rfl
theorem Good.incIso (g : Good R) (h0 : 0 ≤ e) (h1 : e < 27) (he : 1 ≤ gt R.tl e) : Good (incIso e R) ∧ s27 (Mj.incIso e R).tl = s27 R.tl + -1 :=
 good_add (R' := Mj.incIso e R) g [(e, -1)] ⟨⟨h0, h1⟩, trivial⟩ ⟨by show 0 ≤ gt R.tl e + -1; lia, trivial, trivial⟩ rfl (by show 3 * R.m + (-1 + 0) ≤ 3 * R.m; lia) g.m0 g.t0 g.p0 rfl rfl
theorem Good.incT1 (g : Good R) (h0 : 0 ≤ e) (h1 : e + 1 < 27) (he : 1 ≤ gt R.tl e) (he1 : 1 ≤ gt R.tl (e + 1)) : Good (incT1 e R) ∧ s27 (Mj.incT1 e R).tl = s27 R.tl + -2 :=
 good_add (R' := Mj.incT1 e R) g [(e, -1), (e + 1, -1)] ⟨⟨h0, by show e < 27; lia⟩, ⟨by show 0 ≤ e + 1; lia, h1⟩, trivial⟩ ⟨by show 0 ≤ gt R.tl e + -1; lia, ⟨by show e ≠ e + 1; lia, trivial⟩, by show 0 ≤ gt R.tl (e + 1) + -1; lia, trivial, trivial⟩ rfl (by show 3 * R.m + (-1 + (-1 + 0)) ≤ 3 * R.m; lia) g.m0 (by have := g.t0; show 0 ≤ R.ta + 1; lia) g.p0 rfl rfl
theorem Good.incT2 (g : Good R) (h0 : 0 ≤ e) (h1 : e + 2 < 27) (he : 1 ≤ gt R.tl e) (he1 : 1 ≤ gt R.tl (e + 2)) : Good (incT2 e R) ∧ s27 (Mj.incT2 e R).tl = s27 R.tl + -2 :=
 good_add (R' := Mj.incT2 e R) g [(e, -1), (e + 2, -1)] ⟨⟨h0, by show e < 27; lia⟩, ⟨by show 0 ≤ e + 2; lia, h1⟩, trivial⟩ ⟨by show 0 ≤ gt R.tl e + -1; lia, ⟨by show e ≠ e + 2; lia, trivial⟩, by show 0 ≤ gt R.tl (e + 2) + -1; lia, trivial, trivial⟩ rfl (by show 3 * R.m + (-1 + (-1 + 0)) ≤ 3 * R.m; lia) g.m0 (by have := g.t0; show 0 ≤ R.ta + 1; lia) g.p0 rfl rfl
noncomputable def d3 (e : Int) : List (Int × Int) := [(e, -1), (e + 1, -1), (e + 2, -1)]
theorem bd3 (h0 : 0 ≤ e) (h1 : e + 2 < 27) : Bd (d3 e) := ⟨⟨h0, by show e < 27; lia⟩, ⟨by show 0 ≤ e + 1; lia, by show e + 1 < 27; lia⟩, ⟨by show 0 ≤ e + 2; lia, h1⟩, trivial⟩
theorem dsum_hd {p : Int × Int} {r : List (Int × Int)} (h : Off p.1 r) : dsum (p :: r) p.1 = p.2 := by
 show (if p.1 = p.1 then p.2 else 0) + dsum r p.1 = p.2
 rw [if_pos rfl, off_zero h, Int.add_zero]
theorem dsum_sk {p : Int × Int} {r : List (Int × Int)} {j : Int} (h : j ≠ p.1) : dsum (p :: r) j = dsum r j := by
 show (if j = p.1 then p.2 else 0) + dsum r j = _
 rw [if_neg h, Int.zero_add]
theorem d3_at : dsum (d3 e) e = -1 ∧ dsum (d3 e) (e + 1) = -1 ∧ dsum (d3 e) (e + 2) = -1 :=
 ⟨dsum_hd (p := (e, -1)) ⟨by show e ≠ e + 1; lia, by show e ≠ e + 2; lia, trivial⟩, (dsum_sk (by show e + 1 ≠ e; lia)).trans (dsum_hd (p := (e + 1, -1)) ⟨by show e + 1 ≠ e + 2; lia, trivial⟩), (dsum_sk (by show e + 2 ≠ e; lia)).trans ((dsum_sk (by show e + 2 ≠ e + 1; lia)).trans (dsum_hd (p := (e + 2, -1)) trivial))⟩
theorem Good.incSyu (g : Good R) (h0 : 0 ≤ e) (h1 : e + 2 < 27) (he : 1 ≤ gt R.tl e) (he1 : 1 ≤ gt R.tl (e + 1)) (he2 : 1 ≤ gt R.tl (e + 2)) : Good (incSyu e R) ∧ s27 (Mj.incSyu e R).tl = s27 R.tl + -3 :=
 good_add (R' := Mj.incSyu e R) g (d3 e) (bd3 h0 h1) ⟨by show 0 ≤ gt R.tl e + -1; lia, ⟨by show e ≠ e + 1; lia, by show e ≠ e + 2; lia, trivial⟩, by show 0 ≤ gt R.tl (e + 1) + -1; lia, ⟨by show e + 1 ≠ e + 2; lia, trivial⟩, by show 0 ≤ gt R.tl (e + 2) + -1; lia, trivial, trivial⟩ rfl
  (by show 3 * (R.m + 1) + (-1 + (-1 + (-1 + 0))) ≤ 3 * R.m; lia) (by have := g.m0; show 0 ≤ R.m + 1; lia) g.t0 g.p0 rfl rfl
theorem syu_at (L : R.tl.length = 34) (h0 : 0 ≤ e) (h1 : e + 2 < 27) : gt (incSyu e R).tl e = gt R.tl e + -1 ∧ gt (incSyu e R).tl (e + 1) = gt R.tl (e + 1) + -1 ∧ gt (incSyu e R).tl (e + 2) = gt R.tl (e + 2) + -1 := by
 have h := fun {j : Int} (hj : 0 ≤ j) => gt_addAt (ps := d3 e) L (bd3 h0 h1) hj
 obtain ⟨a, b, c⟩ := d3_at (e := e)
 exact ⟨(h h0).trans (by rw [a]), (h (by lia)).trans (by rw [b]), (h (by lia)).trans (by rw [c])⟩
end
section
variable {R R2 : RS} {e : Int}
theorem gtv_incSet (L : R.tl.length = 34) (h0 : 0 ≤ e) (h1 : e < 27) : gt (incSet e R).tl e = gt R.tl e - 3 := by
 unfold incSet; rw [gt_stl h0 (by lia) h0, if_pos rfl]
theorem gtv_incPair (L : R.tl.length = 34) (h0 : 0 ≤ e) (h1 : e < 27) : gt (incPair e R).tl e = gt R.tl e - 2 := by
 unfold incPair; rw [gt_stl h0 (by lia) h0, if_pos rfl]
theorem sub_back {a b : Int} (h : a = b + 1) : a - 1 = b := by lia
theorem back_Set (L : R.tl.length = 34) (h0 : 0 ≤ e) (h1 : e + 0 < 27) (q : Eqv (incSet e R) R2) : Eqv R (decSet e R2) :=
 ⟨back_tl (ps := [(e, -3)]) L ⟨⟨h0, by show e < 27; lia⟩, trivial⟩ q.tl, sub_back q.m, q.ta, q.pr, q.jd⟩
theorem back_Pair (L : R.tl.length = 34) (h0 : 0 ≤ e) (h1 : e + 0 < 27) (q : Eqv (incPair e R) R2) : Eqv R (decPair e R2) :=
 ⟨back_tl (ps := [(e, -2)]) L ⟨⟨h0, by show e < 27; lia⟩, trivial⟩ q.tl, q.m, q.ta, sub_back q.pr, q.jd⟩
theorem back_Syu (L : R.tl.length = 34) (h0 : 0 ≤ e) (h1 : e + 2 < 27) (q : Eqv (incSyu e R) R2) : Eqv R (decSyu e R2) :=
 ⟨back_tl (ps := d3 e) L (bd3 h0 h1) q.tl, sub_back q.m, q.ta, q.pr, q.jd⟩
theorem back_T1 (L : R.tl.length = 34) (h0 : 0 ≤ e) (h1 : e + 1 < 27) (q : Eqv (incT1 e R) R2) : Eqv R (decT1 e R2) :=
 ⟨back_tl (ps := [(e, -1), (e + 1, -1)]) L ⟨⟨h0, by show e < 27; lia⟩, ⟨by show 0 ≤ e + 1; lia, h1⟩, trivial⟩ q.tl, q.m, sub_back q.ta, q.pr, q.jd⟩
theorem back_T2 (L : R.tl.length = 34) (h0 : 0 ≤ e) (h1 : e + 2 < 27) (q : Eqv (incT2 e R) R2) : Eqv R (decT2 e R2) :=
 ⟨back_tl (ps := [(e, -1), (e + 2, -1)]) L ⟨⟨h0, by show e < 27; lia⟩, ⟨by show 0 ≤ e + 2; lia, h1⟩, trivial⟩ q.tl, q.m, sub_back q.ta, q.pr, q.jd⟩
theorem back_Iso (L : R.tl.length = 34) (h0 : 0 ≤ e) (h1 : e + 0 < 27) (q : Eqv (incIso e R) R2) : Eqv R (decIso e R2) :=
 ⟨back_tl (ps := [(e, -1)]) L ⟨⟨h0, by show e < 27; lia⟩, trivial⟩ q.tl, q.m, q.ta, q.pr, q.jd⟩
end
section
variable {k : Nat} {R : RS} {e i d : Int}
noncomputable def TotOk (rec : Int → RS → Option RS) (k : Nat) : Prop := ∀ d R, Good R → 0 ≤ d → d ≤ 27 → (27 - d) + s27 R.tl ≤ (k : Int) - 1 → Tot (rec d) R
variable {rec : Int → RS → Option RS} (H : TotOk rec k)
include H
theorem tot_via {inc dec : RS → RS} (hg : Good (inc R)) (h0 : 0 ≤ d) (h27 : d ≤ 27) (hm : (27 - d) + s27 (inc R).tl ≤ (k : Int) - 1) (hb : ∀ R2, Eqv (inc R) R2 → Eqv R (dec R2)) (hn : ∀ R2, (dec R2).mn = R2.mn) : Tot (via rec inc dec d) R := by
 obtain ⟨R2, a, b, c⟩ := H d (inc R) hg h0 h27 hm
 exact ⟨dec R2, by unfold via; rw [a]; rfl, hb R2 b, by rw [hn]; exact c⟩
theorem tot_syu (g : Good R) (h0 : 0 ≤ e) (h1 : e + 2 < 27) (he : 1 ≤ gt R.tl e) (he1 : 1 ≤ gt R.tl (e + 1)) (he2 : 1 ≤ gt R.tl (e + 2)) (hd : e ≤ d) (hd2 : d ≤ e + 2) (hm : (27 - e) + s27 R.tl ≤ (k : Int) + 1) : Tot (via rec (incSyu e) (decSyu e) d) R := by
 obtain ⟨a, b⟩ := g.incSyu h0 h1 he he1 he2
 exact tot_via H a (by lia) (by lia) (by rw [b]; lia) (fun _ q => back_Syu g.len h0 h1 q) fun _ => rfl
theorem tot_T2 (g : Good R) (h0 : 0 ≤ e) (h1 : e + 2 < 27) (he : 1 ≤ gt R.tl e) (he2 : 1 ≤ gt R.tl (e + 2)) (hm : (27 - e) + s27 R.tl ≤ (k : Int) + 1) : Tot (via rec (incT2 e) (decT2 e) (e + 1)) R := by
 obtain ⟨a, b⟩ := g.incT2 h0 h1 he he2
 exact tot_via H a (by lia) (by lia) (by rw [b]; lia) (fun _ q => back_T2 g.len h0 h1 q) fun _ => rfl
theorem tot_T1 (g : Good R) (h0 : 0 ≤ e) (h1 : e + 1 < 27) (he : 1 ≤ gt R.tl e) (he1 : 1 ≤ gt R.tl (e + 1)) (hm : (27 - e) + s27 R.tl ≤ (k : Int) + 1) : Tot (via rec (incT1 e) (decT1 e) (e + 1)) R := by
 obtain ⟨a, b⟩ := g.incT1 h0 h1 he he1
 exact tot_via H a (by lia) (by lia) (by rw [b]; lia) (fun _ q => back_T1 g.len h0 h1 q) fun _ => rfl
theorem tot_Iso (g : Good R) (h0 : 0 ≤ e) (h1 : e < 27) (he : 1 ≤ gt R.tl e) (hm : (27 - e) + s27 R.tl ≤ (k : Int) + 1) : Tot (via rec (incIso e) (decIso e) (e + 1)) R := by
 obtain ⟨a, b⟩ := g.incIso h0 h1 he
 exact tot_via H a (by lia) (by lia) (by rw [b]; lia) (fun _ q => back_Iso g.len h0 (by lia) q) fun _ => rfl
theorem tot_Set (g : Good R) (h0 : 0 ≤ e) (h1 : e < 27) (he : 3 ≤ gt R.tl e) (hm : (27 - e) + s27 R.tl ≤ (k : Int) + 1) : Tot (via rec (incSet e) (decSet e) (e + 1)) R := by
 obtain ⟨a, b⟩ := g.incSet h0 h1 he
 exact tot_via H a (by lia) (by lia) (by rw [b]; lia) (fun _ q => back_Set g.len h0 (by lia) q) fun _ => rfl
theorem tot_Pair (g : Good R) (h0 : 0 ≤ e) (h1 : e < 27) (he : 2 ≤ gt R.tl e) (hm : (27 - e) + s27 R.tl ≤ (k : Int) + 1) : Tot (via rec (incPair e) (decPair e) (e + 1)) R := by
 obtain ⟨a, b⟩ := g.incPair h0 h1 he
 exact tot_via H a (by lia) (by lia) (by rw [b]; lia) (fun _ q => back_Pair g.len h0 (by lia) q) fun _ => rfl
variable (h0 : 0 ≤ e) (h1 : e < 27)
include h0 h1
theorem tot_syuIf (g : Good R) (he : 1 ≤ gt R.tl e) (he2 : 1 ≤ gt R.tl (e + 2)) (h2 : e + 2 < 27) (hd : e ≤ d) (hd2 : d ≤ e + 2) (hm : (27 - e) + s27 R.tl ≤ (k : Int) + 0) : Tot (syuIf rec e d) R := by
 unfold Tot syuIf
 split
 ·rename_i c
  have := g.nn (e + 1) (by lia) (by lia)
  exact tot_syu H g h0 h2 he (by lia) he2 hd hd2 (by lia)
 ·exact Tot.pure g.n0
theorem tot_two (g : Good R) (he : 1 ≤ gt R.tl e) (hi : i < 7 → e + 2 < 27) (hd : e ≤ d) (hd2 : d ≤ e + 2) (hm : (27 - e) + s27 R.tl ≤ (k : Int) + 0) : Tot (two rec i e d) R := by
 unfold Tot two
 split
 ·rename_i c
  obtain ⟨c1, c2⟩ := c
  have h2 := hi c1
  have := g.nn (e + 2) (by lia) (by lia)
  refine Tot.bind (tot_syuIf H h0 h1 g he (by lia) h2 hd hd2 hm) fun R' q n => ?_
  exact tot_T2 H (g.eqv q n) h0 h2 (by rw [q.tl]; exact he) (by rw [q.tl]; lia) (by rw [q.tl]; lia)
 ·exact Tot.pure g.n0
theorem tot_one (g : Good R) (he : 1 ≤ gt R.tl e) (hi : i < 8 → e + 1 < 27) (hm : (27 - e) + s27 R.tl ≤ (k : Int) + 0) : Tot (one rec i e) R := by
 unfold Tot one
 split
 ·rename_i c
  obtain ⟨c1, c2⟩ := c
  have h2 := hi c1
  have := g.nn (e + 1) (by lia) (by lia)
  exact tot_T1 H g h0 h2 he (by lia) (by lia)
 ·exact Tot.pure g.n0
theorem tot_onlyT2 (g : Good R) (he : 1 ≤ gt R.tl e) (hi : i < 7 → e + 2 < 27) (hm : (27 - e) + s27 R.tl ≤ (k : Int) + 0) : Tot (onlyT2 rec i e) R := by
 unfold Tot onlyT2
 split
 ·rename_i c
  obtain ⟨c1, c2⟩ := c
  have h2 := hi c1
  have := g.nn (e + 2) (by lia) (by lia)
  exact tot_T2 H g h0 h2 he (by lia) (by lia)
 ·exact Tot.pure g.n0
theorem tot_blk4 (g : Good R) (he : gt R.tl e = 4) (hi7 : i < 7 → e + 2 < 27) (hi8 : i < 8 → e + 1 < 27) (hm : (27 - e) + s27 R.tl ≤ (k : Int) + 0) : Tot (blk4 rec i e) R := by
 obtain ⟨ga, sa⟩ := g.incSet h0 h1 (by lia)
 have ea : gt (incSet e R).tl e = 1 := by rw [gtv_incSet g.len h0 (by lia)]; lia
 obtain ⟨R1, f1, q1, n1⟩ := tot_two H h0 h1 (i := i) (d := e + 1) ga (by lia) hi7 (by lia) (by lia) (by lia)
 have g1 := ga.eqv q1 n1
 obtain ⟨R2, f2, q2, n2⟩ := tot_one H h0 h1 (i := i) g1 (by rw [q1.tl]; lia) hi8 (by rw [q1.tl]; lia)
 have g2 := g1.eqv q2 n2
 have t2 : R2.tl = (incSet e R).tl := q2.tl.trans q1.tl
 obtain ⟨R3, f3, q3, n3⟩ := tot_Iso H g2 h0 h1 (by rw [t2]; lia) (by rw [t2]; lia)
 have q13 := (q1.trans q2).trans q3
 have b3 : Eqv R (decSet e R3) := back_Set g.len h0 (by lia) q13
 have g3 : Good (decSet e R3) := g.eqv b3 n3
 obtain ⟨gp, sp⟩ := g3.incPair h0 h1 (by rw [b3.tl]; lia)
 have ep : gt (incPair e (decSet e R3)).tl e = 2 := by rw [gtv_incPair g3.len h0 (by lia), b3.tl]; lia
 rw [b3.tl] at sp
 obtain ⟨R4, f4, q4, n4⟩ := tot_two H h0 h1 (i := i) (d := e) gp (by lia) hi7 (by lia) (by lia) (by lia)
 have g4 := gp.eqv q4 n4
 obtain ⟨R5, f5, q5, n5⟩ := tot_one H h0 h1 (i := i) g4 (by rw [q4.tl]; lia) hi8 (by rw [q4.tl]; lia)
 refine ⟨decPair e R5, ?_, b3.trans (back_Pair g3.len h0 (by lia) (q4.trans q5)), n5⟩
 unfold blk4
 simp only [f1, f2, f3, f4, f5, Option.bind_some]
theorem tot_blk3 (g : Good R) (he : gt R.tl e = 3) (hi7 : i < 7 → e + 2 < 27) (hi8 : i < 8 → e + 1 < 27) (hm : (27 - e) + s27 R.tl ≤ (k : Int) + 0) : Tot (blk3 rec i e) R := by
 obtain ⟨R1, f1, q1, n1⟩ := tot_Set H g h0 h1 (by lia) (by lia)
 have g1 := g.eqv q1 n1
 obtain ⟨gp, sp⟩ := g1.incPair h0 h1 (by rw [q1.tl]; lia)
 have ep : gt (incPair e R1).tl e = 1 := by rw [gtv_incPair g1.len h0 (by lia), q1.tl]; lia
 rw [q1.tl] at sp
 have h2 : Tot (fun R => if i < 7 ∧ gt (incPair e R1).tl (e + 1) ≠ 0 ∧ gt (incPair e R1).tl (e + 2) ≠ 0 then via rec (incSyu e) (decSyu e) (e + 1) R else (onlyT2 rec i e R).bind (one rec i e)) (incPair e R1) := by
  unfold Tot
  split
  ·rename_i c
   obtain ⟨c1, c2, c3⟩ := c
   have := hi7 c1
   have := gp.nn (e + 1) (by lia) (by lia)
   have := gp.nn (e + 2) (by lia) (by lia)
   exact tot_syu H gp h0 (by lia) (by lia) (by lia) (by lia) (by lia) (by lia) (by lia)
  ·refine Tot.bind (tot_onlyT2 H h0 h1 gp (by lia) hi7 (by lia)) fun R' q n => ?_
   exact tot_one H h0 h1 (gp.eqv q n) (by rw [q.tl]; lia) hi8 (by rw [q.tl]; lia)
 obtain ⟨R2, f2, q2, n2⟩ := h2
 have b2 : Eqv R (decPair e R2) := q1.trans (back_Pair g1.len h0 (by lia) q2)
 have g2 : Good (decPair e R2) := g.eqv b2 n2
 have h3 : Tot (fun R => if i < 7 ∧ gt (decPair e R2).tl (e + 2) ≥ 2 ∧ gt (decPair e R2).tl (e + 1) ≥ 2 then via rec (fun R => incSyu e (incSyu e R)) (fun R => decSyu e (decSyu e R)) e R else some R) (decPair e R2) := by
  unfold Tot
  split
  ·rename_i c
   obtain ⟨c1, c2, c3⟩ := c
   have hx := hi7 c1
   have e3 : gt (decPair e R2).tl e = 3 := by rw [b2.tl]; exact he
   obtain ⟨ga, sa⟩ := g2.incSyu h0 hx (by lia) (by lia) (by lia)
   obtain ⟨e0, e1, e2⟩ := syu_at g2.len h0 hx
   obtain ⟨gb, sb⟩ := ga.incSyu h0 hx (by lia) (by lia) (by lia)
   refine tot_via H gb h0 (by lia) (by rw [sb, sa, b2.tl]; lia) (fun R3 q => back_Syu g2.len h0 hx (back_Syu ga.len h0 hx q)) fun _ => rfl
  ·exact Tot.pure g2.n0
 obtain ⟨R3, f3, q3, n3⟩ := h3
 refine ⟨R3, ?_, b2.trans q3, n3⟩
 unfold blk3
 simp only [f1, Option.bind_some]
 have f2' := f2
 dsimp only at f2' f3
 rw [f2']
 exact f3
theorem tot_blk2 (g : Good R) (he : gt R.tl e = 2) (hi7 : i < 7 → e + 2 < 27) (hm : (27 - e) + s27 R.tl ≤ (k : Int) + 0) : Tot (blk2 rec i e) R := by
 refine Tot.bind (tot_Pair H g h0 h1 (by lia) (by lia)) fun R' q n => ?_
 have g1 := g.eqv q n
 unfold Tot
 dsimp only
 split
 ·rename_i c
  obtain ⟨c1, c2, c3⟩ := c
  have := hi7 c1
  have := g1.nn (e + 1) (by lia) (by lia)
  have := g1.nn (e + 2) (by lia) (by lia)
  exact tot_syu H g1 h0 (by lia) (by rw [q.tl]; lia) (by lia) (by lia) (by lia) (by lia) (by rw [q.tl]; lia)
 ·exact Tot.pure n
theorem tot_blk1 (g : Good R) (he : gt R.tl e = 1) (hi6 : i < 6 → e + 3 < 27) (hi7 : i < 7 → e + 2 < 27) (hi8 : i < 8 → e + 1 < 27) (hm : (27 - e) + s27 R.tl ≤ (k : Int) + 0) : Tot (blk1 rec i e) R := by
 unfold Tot blk1
 split
 ·rename_i c
  obtain ⟨c1, c2, c3, c4⟩ := c
  have := hi6 c1
  have := g.nn (e + 2) (by lia) (by lia)
  exact tot_syu H g h0 (by lia) (by lia) (by lia) (by lia) (by lia) (by lia) (by lia)
 ·refine Tot.bind (f := via rec (incIso e) (decIso e) (e + 1)) (g := fun R => (two rec i e (e + 1) R).bind (one rec i e)) (tot_Iso H g h0 h1 (by lia) (by lia)) fun R' q n => ?_
  have g1 := g.eqv q n
  refine Tot.bind (tot_two H h0 h1 g1 (by rw [q.tl]; lia) hi7 (by lia) (by lia) (by rw [q.tl]; lia)) fun R'' q' n' => ?_
  exact tot_one H h0 h1 (g1.eqv q' n') (by rw [q'.tl, q.tl]; lia) hi8 (by rw [q'.tl, q.tl]; lia)
end
theorem tot_stepB {e v : Int} {b : RS → Option RS} {R : RS} (hn : -1 ≤ R.mn) (h : gt R.tl e = v → Tot b R) : Tot (stepB e v b) R := by
 unfold Tot stepB
 split
 ·rename_i c; exact h c
 ·exact Tot.pure hn
theorem runO_total : ∀ k, TotOk (runO k) k := by
 intro k
 induction k with
 | zero =>
  intro d R g h0 h27 hm
  have := s27_nonneg g.len g.nn
  lia
 | succ k ih =>
  intro d R g h0 h27 hm
  unfold Tot runO
  split
  ·exact Tot.pure g.n0
  obtain ⟨b0, b1, b2, b3⟩ := nzI_bd (l := R.tl) (k := 28) h0 h27 (by lia)
  generalize nzI 28 R.tl d = e at *
  split
  ·unfold updO
   have h1 := s27_nonneg g.len g.nn
   have h2 := g.bd
   have h3 := g.m0
   rw [if_pos (by lia)]
   exact ⟨upd R, rfl, ⟨rfl, rfl, rfl, rfl, rfl⟩, upd_low g⟩
  ·rename_i c
   have e1 : e < 27 := by lia
   obtain ⟨a1, a2, a3, a4, a5⟩ := iV_bd b0 e1
   have hm' : (27 - e) + s27 R.tl ≤ (k : Int) + 0 := by lia
   unfold runB
   refine Tot.bind (f := stepB e 4 (blk4 (runO k) (iV e) e)) (tot_stepB g.n0 fun c => tot_blk4 ih b0 e1 g c a4 a3 hm') fun R1 q1 n1 => ?_
   have g1 := g.eqv q1 n1
   refine Tot.bind (f := stepB e 3 (blk3 (runO k) (iV e) e)) (tot_stepB g1.n0 fun c => tot_blk3 ih b0 e1 g1 c a4 a3 (by rw [q1.tl]; exact hm')) fun R2 q2 n2 => ?_
   have g2 := g1.eqv q2 n2
   refine Tot.bind (f := stepB e 2 (blk2 (runO k) (iV e) e)) (tot_stepB g2.n0 fun c => tot_blk2 ih b0 e1 g2 c a4 (by rw [q2.tl, q1.tl]; exact hm')) fun R3 q3 n3 => ?_
   have g3 := g2.eqv q3 n3
   exact tot_stepB g3.n0 fun c => tot_blk1 ih b0 e1 g3 c a5 a4 a3 (by rw [q3.tl, q2.tl, q1.tl]; exact hm')
theorem wAt_new {σ : Sto} {c : Cl} {K : Cl → Prop} (h : K c) : wAt σ.length (σ ++ [c]) K := wAt_i (by simp) h
theorem wLst_new {σ : Sto} {b : Bool} {xs : List AV} {K : Bool → List AV → Prop} (h : K b xs) : wLst σ.length (σ ++ [⟨b, .list xs⟩]) K := wLst_i (by simp) h
theorem old_app {σ τ : Sto} {k : Nat} {c : Cl} (e : σ[k]? = some c) : (σ ++ τ)[k]? = some c := by rw [List.getElem?_append_left (List.getElem?_eq_some_iff.mp e).1]; exact e
theorem set_app {σ τ : Sto} {L : Nat} {c : Cl} (h : σ.length ≤ L) : (σ ++ τ).set L c = σ ++ τ.set (L - σ.length) c := List.set_append_right _ _ h
theorem it_list {σ : Sto} {k : Nat} {b : Bool} {l : List Int} {j : Int} {K : AV → Prop} (e : σ[k]? = some ⟨b, .list (l.map AV.int)⟩) (hl : l.length = 34) (h0 : 0 ≤ j) (h1 : j < 34) (h : K (.int (gt l j))) : lItem (.ref k) (.int j) σ K :=
 lItem.mk <| wAt_i e (wIdx_i h0 (by lia) (by lia) h)
theorem it_any {σ : Sto} {k : Nat} {b : Bool} {l : List Int} {j : Int} {K : AV → Prop} (e : σ[k]? = some ⟨b, .list (l.map AV.int)⟩) (hl : l.length ≤ 100000) (h0 : 0 ≤ j) (h1 : j < l.length) (h : K (.int (gt l j))) : lItem (.ref k) (.int j) σ K :=
 lItem.mk <| wAt_i e (wIdx_i h0 h1 hl h)
theorem pa_list {σ : Sto} {j : Nat} {l : List Int} {k v : Int} {K : Sto → Prop} (e : σ[j]? = some ⟨true, .list (l.map AV.int)⟩) (h0 : 0 ≤ k) (h1 : k < l.length) (hl : l.length ≤ 100000) (h : K (σ.set j ⟨true, .list ((stl l k v).map AV.int)⟩)) :
  lPut (.ref j) (.int k) (.int v) σ K := lPut.mk <| by
 refine wAt_i e (wG_i ⟨h0, by simpa using h1, by simpa using hl⟩ ?_)
 unfold stl at h
 rw [List.map_set] at h
 exact h
theorem app_list {σ : Sto} {L : Nat} {xs : List AV} {v : AV} {K : KE} (e : σ[L]? = some ⟨true, .list xs⟩) (hl : xs.length ≤ 100000) (h : K .none (σ.set L ⟨true, .list (xs ++ [v])⟩)) : wAppend L v σ K := wLst_i e (wG_i hl h)
theorem res_list {σ : Sto} {L : Nat} {b : Bool} {xs : List AV} {Kf : Addr → List AV → Prop} {Kl : Nat → Bool → Prop} (e : σ[L]? = some ⟨b, .list xs⟩) (h : Kl L true) : lRes XW (.ref L) "append" σ Kf Kl := lRes.mk <| wAt_i e h
theorem res_con {C : Addr} {name : Str} {f : Addr} {σ : Sto} {Kf : Addr → List AV → Prop} {Kl : Nat → Bool → Prop} (e : XW.stat C name = some f) (k : Kf f []) : lRes XW (.con (.ref C)) name σ Kf Kl := lRes.mk <| by
 show wO (XW.stat C name) _
 rw [e]; exact k
theorem numsA_int : ∀ (l : List Int), numsA (l.map AV.int) = some l
 | [] => rfl
 | a :: l => by show (numsA (l.map AV.int)).map (a :: ·) = _; rw [numsA_int l]; rfl
theorem numsA_bool : ∀ (l : List Bool), numsA (l.map AV.bool) = some (l.map b2iA)
 | [] => rfl
 | a :: l => by show (numsA (l.map AV.bool)).map (b2iA a :: ·) = _; rw [numsA_bool l]; rfl
theorem take_succ_sum {l : List Int} {j : Nat} (h : j < l.length) : (l.take (j + 1)).sum = (l.take j).sum + l.getD j 0 := by
 rw [List.take_succ, List.sum_append, List.getD_eq_getElem?_getD, List.getElem?_eq_getElem h]
 simp
theorem preSum_take {l : List Int} : ∀ {n : Nat}, n ≤ l.length → preSum (fun i => l.getD i 0) n = (l.take n).sum
 | 0, _ => by simp [preSum]
 | n + 1, h => by
  rw [take_succ_sum h, ← preSum_take (Nat.le_of_succ_le h)]; rfl
theorem sumA_eq (l : List Int) : sumA l = l.sum := by
 unfold sumA
 rw [preSum_take (Nat.le_refl _), List.take_length]
theorem wNums_i {l : List Int} {K : List Int → Prop} (h : K l) : wNums (l.map AV.int) K := by unfold wNums; exact ⟨l, numsA_int l, h⟩
theorem wNumsB_i {l : List Bool} {K : List Int → Prop} (h : K (l.map b2iA)) : wNums (l.map AV.bool) K := by unfold wNums; exact ⟨_, numsA_bool l, h⟩
theorem a_name {X : Ctx} {call : Addr → List AV → Sto → XE} {n : Nat} {sc : Scope} {x : Str} {p : _} {v : AV} {ae ae' : Loc} {σ : Sto} {K : Loc → Sto → Prop} (e : asgName sc x v ae = some ae') (h : K ae' σ) : asgA X call n sc (.Name x p) v ae σ K := by
 show wO (asgName sc x v ae) _
 rw [e]; exact h
noncomputable def ItIs (σ : Sto) : It → List AV → Prop
 | .list k i, vs => ∃ b xs, σ[k]? = some ⟨b, .list xs⟩ ∧ vs = xs.drop i
 | .rng x n st, vs => vs = rangeFrom x st n
 | .fset k i, vs => ∃ b xs, σ[k]? = some ⟨b, .fset xs⟩ ∧ vs = xs.drop i
 | .enum .., _ => False
noncomputable def itStep : It → It
 | .list k i => .list k (i + 1)
 | .rng x n st => .rng (x + st) (n - 1) st
 | .fset k i => .fset k (i + 1)
 | it => it
theorem it_cons {σ : Sto} {it : It} {v : AV} {vs : List AV} (h : ItIs σ it (v :: vs)) : (∀ (D : Prop) (K : AV → It → Sto → Prop), K v (itStep it) σ → wNext it σ D K) ∧ ItIs σ (itStep it) vs := by
 cases it with
 | list k i =>
  obtain ⟨b, xs, e, hd⟩ := h
  have hx : xs[i]? = some v := by rw [← List.head?_drop, ← hd]; rfl
  refine ⟨fun D K q => ?_, b, xs, e, by rw [← List.tail_drop, ← hd]; rfl⟩
  refine wLst_i e ?_
  rw [hx]; exact q
 | rng x n st =>
  cases n with
  | zero => cases h
  | succ n =>
   have h : v :: vs = .int x :: rangeFrom (x + st) st n := h
   cases h
   exact ⟨fun _ _ q => q, rfl⟩
 | fset k i =>
  obtain ⟨b, xs, e, hd⟩ := h
  have hx : xs[i]? = some v := by rw [← List.head?_drop, ← hd]; rfl
  refine ⟨fun D K q => ?_, b, xs, e, by rw [← List.tail_drop, ← hd]; rfl⟩
  refine wAt_i e ?_
  dsimp only
  rw [hx]; exact q
 | enum k i => exact h.elim
theorem it_nil {σ : Sto} {it : It} (h : ItIs σ it []) (D : Prop) (K : AV → It → Sto → Prop) (q : D) : wNext it σ D K := by
 cases it with
 | list k i =>
  obtain ⟨b, xs, e, hd⟩ := h
  have hx : xs[i]? = none := by rw [← List.head?_drop, ← hd]; rfl
  refine wLst_i e ?_
  rw [hx]; exact q
 | rng x n st =>
  cases n with
  | zero => exact q
  | succ n => cases h
 | fset k i =>
  obtain ⟨b, xs, e, hd⟩ := h
  have hx : xs[i]? = none := by rw [← List.head?_drop, ← hd]; rfl
  refine wAt_i e ?_
  dsimp only
  rw [hx]; exact q
 | enum k i => exact h.elim
theorem it_keep {σ τ : Sto} {it : It} {vs : List AV} (h : ItIs σ it vs) (hk : ∀ (k : Nat) (c : Cl), σ[k]? = some c → (match c.o with | .list _ | .fset _ => True | _ => False) → τ[k]? = some c) : ItIs τ it vs := by
 cases it with
 | list k i => obtain ⟨b, xs, e, hd⟩ := h; exact ⟨b, xs, hk _ _ e trivial, hd⟩
 | rng x n st => exact h
 | fset k i => obtain ⟨b, xs, e, hd⟩ := h; exact ⟨b, xs, hk _ _ e trivial, hd⟩
 | enum k i => exact h.elim
theorem it_app {σ τ : Sto} {it : It} {vs : List AV} (h : ItIs σ it vs) : ItIs (σ ++ τ) it vs :=
 it_keep h fun k c e _ => old_app e
section
variable {asg : AV → Loc → Sto → (Loc → Sto → Prop) → Prop} {body : Loc → Sto → XS} {K : KS}
/-- one turn of a for -/
theorem f_turn {N : Nat} {it it' : It} {v : AV} {ae : Loc} {σ σ1 : Sto} (e : ∀ (D : Prop) (K : AV → It → Sto → Prop), K v it' σ1 → wNext it σ D K) (I : Loc → Sto → Prop)
  (h : asg v ae σ1 fun ae σ => body ae σ fun fl ae σ => fl = .next ∧ I ae σ) (k : ∀ ae σ, I ae σ → forA asg body N it' ae σ K) : forA asg body (N + 1) it ae σ K :=
 e _ _ ⟨_, h, fun fl ae σ ⟨e, i⟩ => by subst e; exact k _ _ i⟩
theorem f_end {N : Nat} {it : It} {ae : Loc} {σ : Sto} (e : ∀ (D : Prop) (K : AV → It → Sto → Prop), D → wNext it σ D K) (h : K .next ae σ) : forA asg body (N + 1) it ae σ K := e _ _ h
theorem nx_enum {σ : Sto} {k i : Nat} {b : Bool} {xs : List AV} {x : AV} (e : σ[k]? = some ⟨b, .list xs⟩) (hx : xs[i]? = some x) (D : Prop) (K : AV → It → Sto → Prop) (q : K (.ref σ.length) (.enum k (i + 1)) (σ ++ [⟨true, .tuple [.int i, x]⟩])) : wNext (.enum k i) σ D K := by
 refine wLst_i e ?_
 rw [hx]; exact q
theorem nx_enum_end {σ : Sto} {k i : Nat} {b : Bool} {xs : List AV} (e : σ[k]? = some ⟨b, .list xs⟩) (hx : xs[i]? = none) (D : Prop) (K : AV → It → Sto → Prop) (q : D) : wNext (.enum k i) σ D K := by
 refine wLst_i e ?_
 rw [hx]; exact q
/-- a for loop that goes on to its end -/
theorem for_rule {σ0 : Sto} (Inv : List AV → Loc → Sto → Prop) (hit : ∀ vs ae σ it, Inv vs ae σ → ItIs σ0 it vs → ItIs σ it vs)
  (step : ∀ v vs ae σ, Inv (v :: vs) ae σ → asg v ae σ fun ae σ => body ae σ fun fl ae σ => fl = .next ∧ Inv vs ae σ) (fin : ∀ ae σ, Inv [] ae σ → K .next ae σ) :
  ∀ (vs : List AV) (N : Nat) (it : It) (ae : Loc) (σ : Sto), vs.length < N → ItIs σ0 it vs → Inv vs ae σ → forA asg body N it ae σ K := by
 intro vs
 induction vs with
 | nil =>
  intro N it ae σ hN hi I
  obtain ⟨N, rfl⟩ : ∃ M, N = M + 1 := ⟨N - 1, by lia⟩
  exact f_end (fun D K => it_nil (hit _ _ _ _ I hi) D K) (fin _ _ I)
 | cons v vs ih =>
  intro N it ae σ hN hi I
  obtain ⟨N, rfl⟩ : ∃ M, N = M + 1 := ⟨N - 1, by simp at hN; lia⟩
  exact f_turn (it_cons (hit _ _ _ _ I hi)).1 (fun ae σ => Inv vs ae σ) (step v vs ae σ I) fun ae σ I2 => ih N _ ae σ (by simp at hN; lia) (it_cons hi).2 I2
end
theorem ex2 {α β : Type} {Q : α → β → Prop} {P : Prop} (h : ∃ x y, Q x y) (k : ∀ x y, Q x y → P) : P := let ⟨x, y, q⟩ := h; k x y q
theorem ex3 {α β γ : Type} {Q : α → β → γ → Prop} {P : Prop} (h : ∃ x y z, Q x y z) (k : ∀ x y z, Q x y z → P) : P := let ⟨x, y, z, q⟩ := h; k x y z q
theorem ex4 {α β γ δ : Type} {Q : α → β → γ → δ → Prop} {P : Prop} (h : ∃ x y z w, Q x y z w) (k : ∀ x y z w, Q x y z w → P) : P := let ⟨x, y, z, w, q⟩ := h; k x y z w q
theorem and4 {a b c d P : Prop} (h : a ∧ b ∧ c ∧ d) (k : a → b → c → d → P) : P := k h.1 h.2.1 h.2.2.1 h.2.2.2
theorem and5 {a b c d e P : Prop} (h : a ∧ b ∧ c ∧ d ∧ e) (k : a → b → c → d → e → P) : P := and4 h.2 (k h.1)
theorem and6 {a b c d e f P : Prop} (h : a ∧ b ∧ c ∧ d ∧ e ∧ f) (k : a → b → c → d → e → f → P) : P := and5 h.2 (k h.1)
theorem and7 {a b c d e f g P : Prop} (h : a ∧ b ∧ c ∧ d ∧ e ∧ f ∧ g) (k : a → b → c → d → e → f → g → P) : P := and6 h.2 (k h.1)
theorem and8 {a b c d e f g i P : Prop} (h : a ∧ b ∧ c ∧ d ∧ e ∧ f ∧ g ∧ i) (k : a → b → c → d → e → f → g → i → P) : P := and7 h.2 (k h.1)
section
variable {asg : AV → Loc → Sto → (Loc → Sto → Prop) → Prop} {body : Loc → Sto → XS} {K : KS}
/-- a loop over ints that goes on to its end -/
theorem for_ints {σ0 : Sto} (Inv : List Int → Loc → Sto → Prop) (hit : ∀ vs ae σ it, Inv vs ae σ → ItIs σ0 it (vs.map AV.int) → ItIs σ it (vs.map AV.int))
  (step : ∀ v vs ae σ, Inv (v :: vs) ae σ → asg (.int v) ae σ fun ae σ => body ae σ fun fl ae σ => fl = .next ∧ Inv vs ae σ) (fin : ∀ ae σ, Inv [] ae σ → K .next ae σ) :
  ∀ (vs : List Int) (N : Nat) (it : It) (ae : Loc) (σ : Sto), vs.length < N → ItIs σ0 it (vs.map AV.int) → Inv vs ae σ → forA asg body N it ae σ K := by
 intro vs
 induction vs with
 | nil =>
  intro N it ae σ hN hi I
  obtain ⟨N, rfl⟩ : ∃ M, N = M + 1 := ⟨N - 1, by lia⟩
  exact f_end (fun D K => it_nil (hit _ _ _ _ I hi) D K) (fin _ _ I)
 | cons v vs ih =>
  intro N it ae σ hN hi I
  obtain ⟨N, rfl⟩ : ∃ M, N = M + 1 := ⟨N - 1, by simp at hN; lia⟩
  exact f_turn (it_cons (hit _ _ _ _ I hi)).1 (fun ae σ => Inv vs ae σ) (step v vs ae σ I) fun ae σ I2 => ih N _ ae σ (by simp at hN; lia) (it_cons hi).2 I2
theorem for_rngI (Inv : List Int → Loc → Sto → Prop)
  (step : ∀ v vs ae σ, Inv (v :: vs) ae σ → asg (.int v) ae σ fun ae σ => body ae σ fun fl ae σ => fl = .next ∧ Inv vs ae σ) (fin : ∀ ae σ, Inv [] ae σ → K .next ae σ) (vs : List Int) {c N : Nat} {x st : Int} {ae : Loc} {σ : Sto} (hN : vs.length < N) (e : vs.map AV.int = rangeFrom x st c) (I : Inv vs ae σ) :
  forA asg body N (.rng x c st) ae σ K :=
 for_ints (σ0 := []) (fun vs ae σ => Inv vs ae σ) (fun vs ae σ it _ h => it_keep h fun k c e _ => by cases e) step fin vs N _ ae σ hN e I
end
theorem put_app {σ τ : Sto} {p d t : Nat} {R : RS} (h : RO σ p d t) : put σ d t R ++ τ = put (σ ++ τ) d t R := by
 unfold put
 rw [← List.set_append_left _ _ (by simpa using h.ht), ← List.set_append_left _ _ h.hd]
theorem RO.app {σ : Sto} {p d t : Nat} (h : RO σ p d t) (τ : Sto) : RO (σ ++ τ) p d t := by
 obtain ⟨b, e⟩ := h.hp
 exact ⟨⟨b, old_app e⟩, by have := h.hd; simp; lia, by have := h.ht; simp; lia, h.pd, h.pt, h.dt⟩
theorem put_len {σ : Sto} {d t : Nat} {R : RS} : (put σ d t R).length = σ.length := by unfold put; simp
theorem put_old {σ : Sto} {d t k : Nat} {R : RS} (hd : k ≠ d) (ht : k ≠ t) : (put σ d t R)[k]? = σ[k]? := by
 unfold put
 rw [List.getElem?_set_ne (Ne.symm ht), List.getElem?_set_ne (Ne.symm hd)]
theorem ite_len {c : Prop} [Decidable c] {A B : RS} (h : A.tl.length = 34) (h' : B.tl.length = 34) : (if c then A else B).tl.length = 34 := by split <;> assumption
/-- one honour -/
noncomputable def h4 (j : Int) (R : RS) : RS := if gt R.tl (27 + j) = 4 then { R with m := R.m + 1, jd := R.jd + 1 } else R
noncomputable def h4f (j : Int) (R : RS) (f : Int) : Int := if gt R.tl (27 + j) = 4 then Builtin.bitOr f (1 * 2 ^ j.toNat) else f
noncomputable def h3 (j : Int) (R : RS) : RS := if gt R.tl (27 + j) = 3 then { R with m := R.m + 1 } else R
noncomputable def h2 (j : Int) (R : RS) : RS := if gt R.tl (27 + j) = 2 then { R with pr := R.pr + 1 } else R
noncomputable def h1f (j : Int) (R : RS) (f : Int) : Int := if gt R.tl (27 + j) = 1 then Builtin.bitOr f (1 * 2 ^ j.toNat) else f
noncomputable def hoR (j : Int) (R : RS) : RS := h2 j (h3 j (h4 j R))
noncomputable def hoI (j : Int) (R : RS) (s : Int) : Int := h1f j (hoR j R) (h4f j R s)
noncomputable abbrev aeH (p : Nat) (nc f s : Int) (ix : Nat) (x : Loc) : Loc := ("self", .ref p) :: ("nc", .int nc) :: ("is_three_player", .bool false) :: ("four_copies", .int f) :: ("isolated", .int s) :: ("indices", .ref ix) :: x
noncomputable def stH (j : Nat) : Stmt := (dBody 14 17).getD j (.Pass pos0)
noncomputable abbrev aeHx (p : Nat) (nc f s : Int) (ix : Nat) (j : Int) : Loc := aeH p nc f s ix [("flag_pos", .int j), ("i", .int (27 + j))]
section
variable {σ : Sto} {p d t n ix : Nat} {R : RS} {nc f s j : Int} {call : Addr → List AV → Sto → XE}
set_option maxHeartbeats 8000000 in
theorem body_H (h : RO σ p d t) (hl : R.tl.length = 34) (h0 : 0 ≤ j) (h1 : j < 7) : seqA (execS XW call 39 (dScope 14 17)) (forBody (stH 4)) (aeHx p nc f s ix j) (put σ d t R)
  fun fl a τ => fl = .next ∧ a = aeHx p nc (h4f j R f) (hoI j R s) ix j ∧ τ = put σ d t (hoR j R) := by
 have l4 : (h4 j R).tl.length = 34 := ite_len hl hl
 have l3 : (h3 j (h4 j R)).tl.length = 34 := ite_len l4 l4
 have l2 : (hoR j R).tl.length = 34 := ite_len l3 l3
 refine s_join (aeHx p nc (h4f j R f) (h4f j R s) ix j) (put σ d t (h4 j R)) ?_ ?_
 ·unfold h4f h4
  refine get_put (by assumption) (by rfl) ?_
  refine it_put (by assumption) (by k_mem) (by lia) (by lia) ?_
  refine wIf_beqI ?_
  refine if_split (fun q => ?_) (fun q => ?_)
  ·rw [if_pos q, if_pos q, if_pos q]
   with_reducible refine s_cons ?_
   refine get_put (by assumption) (by rfl) ?_
   refine set_m (by assumption) ?_
   with_reducible refine s_cons ?_
   refine get_put (by assumption) (by rfl) ?_
   refine set_jd (by assumption) ?_
   with_reducible refine s_cons ?_
   refine wG_sh (by lia) ?_
   refine s_cons ?_
   refine wG_sh (by lia) ?_
   exact ⟨rfl, rfl, rfl⟩
  ·rw [if_neg q, if_neg q, if_neg q]
   with_reducible refine s_nil ?_
   exact ⟨rfl, rfl, rfl⟩
 refine s_join (aeHx p nc (h4f j R f) (h4f j R s) ix j) (put σ d t (h3 j (h4 j R))) ?_ ?_
 ·generalize h4 j R = R at *
  unfold h3
  refine get_put (by assumption) (by rfl) ?_
  refine it_put (by assumption) (by k_mem) (by lia) (by lia) ?_
  refine wIf_beqI ?_
  refine if_split (fun q => ?_) (fun q => ?_)
  ·rw [if_pos q]
   with_reducible refine s_cons ?_
   refine get_put (by assumption) (by rfl) ?_
   refine set_m (by assumption) ?_
   with_reducible refine s_nil ?_
   exact ⟨rfl, rfl, rfl⟩
  ·rw [if_neg q]
   with_reducible refine s_nil ?_
   exact ⟨rfl, rfl, rfl⟩
 refine s_join (aeHx p nc (h4f j R f) (h4f j R s) ix j) (put σ d t (hoR j R)) ?_ ?_
 ·unfold hoR
  generalize h3 j (h4 j R) = R at *
  unfold h2
  refine get_put (by assumption) (by rfl) ?_
  refine it_put (by assumption) (by k_mem) (by lia) (by lia) ?_
  refine wIf_beqI ?_
  refine if_split (fun q => ?_) (fun q => ?_)
  ·rw [if_pos q]
   with_reducible refine s_cons ?_
   refine get_put (by assumption) (by rfl) ?_
   refine set_pr (by assumption) ?_
   with_reducible refine s_nil ?_
   exact ⟨rfl, rfl, rfl⟩
  ·rw [if_neg q]
   with_reducible refine s_nil ?_
   exact ⟨rfl, rfl, rfl⟩
 refine s_join (aeHx p nc (h4f j R f) (hoI j R s) ix j) (put σ d t (hoR j R)) ?_ ?_
 ·unfold hoI
  generalize hoR j R = R' at *
  unfold h1f
  refine get_put (by assumption) (by rfl) ?_
  refine it_put (by assumption) (by k_mem) (by lia) (by lia) ?_
  refine wIf_beqI ?_
  refine if_split (fun q => ?_) (fun q => ?_)
  ·rw [if_pos q]
   with_reducible refine s_cons ?_
   refine wG_sh (by lia) ?_
   exact ⟨rfl, rfl, rfl⟩
  ·rw [if_neg q]
   with_reducible refine s_nil ?_
   exact ⟨rfl, rfl, rfl⟩
 exact s_nil ⟨rfl, rfl, rfl⟩
end
noncomputable def foldH : Nat → Nat → RS → Int → Int → RS × Int × Int
 | 0, _, R, f, s => (R, f, s)
 | m + 1, j, R, f, s => foldH m (j + 1) (hoR j R) (h4f j R f) (hoI j R s)
noncomputable def idxA : List AV := [27, 28, 29, 30, 31, 32, 33].map AV.int
theorem idx_some {j : Nat} (h : j < 7) : idxA[j]? = some (.int (27 + (j : Int))) := by
 have := (show ∀ j : Fin 7, (([27, 28, 29, 30, 31, 32, 33] : List Int))[j.1]? = some (27 + (j.1 : Int)) by decide) ⟨j, h⟩
 unfold idxA
 rw [List.getElem?_map, this]; rfl
theorem hoR_len {j : Int} {R : RS} (h : R.tl.length = 34) : (hoR j R).tl.length = 34 := by
 have h4' : (h4 j R).tl.length = 34 := ite_len h h
 have h3' : (h3 j (h4 j R)).tl.length = 34 := ite_len h4' h4'
 exact ite_len h3' h3'
theorem foldH_len : ∀ (m j : Nat) (R : RS) (f s : Int), R.tl.length = 34 → (foldH m j R f s).1.tl.length = 34
 | 0, _, _, _, _, hl => hl
 | m + 1, _, _, _, _, hl => foldH_len m _ _ _ _ (hoR_len hl)
theorem unpack_i {σ : Sto} {k : Nat} {b : Bool} {xs : List AV} {n : Nat} {K : List AV → Prop} (e : σ[k]? = some ⟨b, .tuple xs⟩) (hn : xs.length = n) (h : K xs) : wUnpack (.ref k) n σ K := wAt_i e (wG_i hn h)
theorem a_tup {X : Ctx} {call : Addr → List AV → Sto → XE} {n : Nat} {sc : Scope} {ts : List Expr} {c : _} {p : _} {ae ae' : Loc} {σ : Sto} {xs : List Str} {vs : List AV} {b : Bool} {k : Nat} {K : Loc → Sto → Prop} (e1 : namesA ts = some xs) (e : σ[k]? = some ⟨b, .tuple vs⟩) (hn : vs.length = xs.length)
  (e2 : asgNames sc xs vs ae = some ae') (h : K ae' σ) : asgA X call n sc (.Tuple ts c p) (.ref k) ae σ K := by
 show wO (namesA ts) _
 rw [e1]
 show wUnpack (.ref k) xs.length σ (fun vs => wO (asgNames sc xs vs ae) fun ae => K ae σ)
 refine unpack_i e hn ?_
 rw [e2]
 exact h
section
variable {p d t n ix : Nat} {nc : Int} {call : Addr → List AV → Sto → XE} {K : KS}
theorem loop_H : ∀ (m j N : Nat) (σ : Sto) (R : RS) (f s : Int) (x : Loc) (b : Bool), j + m = 7 → m < N → RO σ p d t → R.tl.length = 34 → σ[ix]? = some ⟨b, .list idxA⟩ → ix ≠ d → ix ≠ t → (x = [] ∨ ∃ a c, x = ([("flag_pos", a), ("i", c)] : Loc)) →
  (∀ τ x', K .next (aeH p nc (foldH m j R f s).2.1 (foldH m j R f s).2.2 ix x') (put (σ ++ τ) d t (foldH m j R f s).1)) →
  forA (asgA XW call 39 (dScope 14 17) (forTgt (stH 4))) (seqA (execS XW call 39 (dScope 14 17)) (forBody (stH 4))) N (.enum ix j) (aeH p nc f s ix x) (put σ d t R) K := by
 intro m
 induction m with
 | zero =>
  intro j N σ R f s x b hj hN h hl hi hd ht hx hq
  obtain ⟨N, rfl⟩ : ∃ M, N = M + 1 := ⟨N - 1, by lia⟩
  have hj7 : j = 7 := by lia
  subst hj7
  refine f_end (nx_enum_end (b := b) (xs := idxA) (by rw [put_old hd ht]; exact hi) rfl) ?_
  have := hq [] x
  rw [List.append_nil] at this
  exact this
 | succ m ih =>
  intro j N σ R f s x b hj hN h hl hi hd ht hx hq
  obtain ⟨N, rfl⟩ : ∃ M, N = M + 1 := ⟨N - 1, by lia⟩
  have h' := h.app [⟨true, .tuple [.int j, .int (27 + (j : Int))]⟩]
  refine f_turn (nx_enum (b := b) (xs := idxA) (by rw [put_old hd ht]; exact hi) (idx_some (by lia))) (fun a τ => a = aeHx p nc (h4f j R f) (hoI j R s) ix j ∧ τ = put (σ ++ [⟨true, .tuple [.int j, .int (27 + (j : Int))]⟩]) d t (hoR j R)) ?_ ?_
  ·refine a_tup (xs := ["flag_pos", "i"]) (ae' := aeHx p nc f s ix j) (b := true) (vs := [.int j, .int (27 + (j : Int))]) (by rfl) (by simp) rfl (by rcases hx with rfl | ⟨a, c, rfl⟩ <;> rfl) ?_
   rw [put_app h]
   exact body_H h' hl (by lia) (by lia)
  ·rintro _ _ ⟨rfl, rfl⟩
   refine ih (j + 1) N _ (hoR j R) _ _ _ b (by lia) (by lia) h' (hoR_len hl) (old_app hi) hd ht (.inr ⟨_, _, rfl⟩) fun τ x' => ?_
   have := hq ([⟨true, .tuple [.int j, .int (27 + (j : Int))]⟩] ++ τ) x'
   rw [← List.append_assoc] at this
   exact this
end
/-- behind the honours -/
noncomputable def remR (nc : Int) (R : RS) : RS :=
 let x := foldH 7 0 R 0 0
 let R1 := if x.1.jd ≠ 0 ∧ nc.fmod 3 = 2 then { x.1 with jd := x.1.jd - 1 } else x.1
 let R2 := if x.2.2 ≠ 0 then { R1 with fi := Builtin.bitOr R1.fi (1 * 2 ^ (27 : Int).toNat) } else R1
 if x.2.2 ≠ 0 ∧ Builtin.bitOr x.2.1 x.2.2 = x.2.1 then { R2 with fc := Builtin.bitOr R2.fc (1 * 2 ^ (27 : Int).toNat) } else R2
section
variable {σ : Sto} {p d t n : Nat} {R : RS} {nc : Int} {K : KE}
set_option maxHeartbeats 8000000 in
theorem c218 (h : RO σ p d t) (hl : R.tl.length = 34) (hq : ∀ τ, K .none (put (σ ++ τ) d t (remR nc R))) : lCall (callA XW (n + 1)) 218 [.ref p, .int nc, .bool false] (put σ d t R) K := by
 refine lCall.mk (call_of (fn := fnAt 14 17 []) (ae := [("self", .ref p), ("nc", .int nc), ("is_three_player", .bool false)]) (by rfl) ?_)
 have h1 := h.app [⟨true, .range 27 34 1⟩]
 have h2 := h1.app [⟨true, .list idxA⟩]
 have hi : (σ ++ [⟨true, .range 27 34 1⟩] ++ [⟨true, .list idxA⟩])[σ.length + 1]? = some ⟨true, .list idxA⟩ := by simp
 have hpd := h.hd
 have hpt := h.ht
 refine s_cons ?_
 refine s_cons ?_
 refine s_join (aeH p nc 0 0 (σ.length + 1) []) (put (σ ++ [⟨true, .range 27 34 1⟩] ++ [⟨true, .list idxA⟩]) d t R) ?_ ?_
 ·refine wAt_new ?_
  refine wG_i (by first | assumption | decide) ?_
  refine ⟨rfl, ?_, ?_⟩
  ·rw [List.length_append, put_len]; rfl
  ·rw [put_app h, put_app h1]; rfl
 refine s_join (aeH p nc 0 0 (σ.length + 1) []) (put (σ ++ [⟨true, .range 27 34 1⟩] ++ [⟨true, .list idxA⟩]) d t R) ?_ ?_
 ·refine wIf_f ?_
  with_reducible refine s_nil ?_
  exact ⟨rfl, rfl, rfl⟩
 refine s_cons ?_
 refine wLst_i (b := true) (xs := idxA) (by rw [put_old (by lia) (by lia)]; exact hi) ?_
 refine lockF.mk ?_
 refine loop_H 7 0 1000 _ R 0 0 [] true (by lia) (by lia) h2 hl hi (by lia) (by lia) (.inl rfl) fun τ x' => ?_
 have h3 := h2.app τ
 have l3 := foldH_len 7 0 R 0 0 hl
 have hq : ∀ τ', K .none (put (σ ++ [⟨true, .range 27 34 1⟩] ++ [⟨true, .list idxA⟩] ++ τ ++ τ') d t (remR nc R)) := fun τ' => by
  have := hq ([⟨true, .range 27 34 1⟩] ++ ([⟨true, .list idxA⟩] ++ (τ ++ τ')))
  simpa only [List.append_assoc] using this
 have hq := hq []
 rw [List.append_nil] at hq
 unfold remR at hq
 dsimp only at hq
 generalize foldH 7 0 R 0 0 = x at *
 obtain ⟨R', f, s⟩ := x
 dsimp only at *
 generalize hσ : (σ ++ [⟨true, .range 27 34 1⟩] ++ [⟨true, .list idxA⟩] ++ τ : Sto) = σ' at *
 generalize hq1 : (if R'.jd ≠ 0 ∧ nc.fmod 3 = 2 then ({ R' with jd := R'.jd - 1 } : RS) else R') = Q1 at *
 refine s_join (aeH p nc f s (σ.length + 1) x') (put σ' d t Q1) ?_ ?_
 ·subst hq1
  refine get_put (by assumption) (by rfl) ?_
  refine wIf_bneI ?_
  refine if_split (fun q => ?_) (fun q => ?_)
  ·refine wG_i (by first | assumption | decide) ?_
   refine wIf_beqI ?_
   refine if_split (fun q2 => ?_) (fun q2 => ?_)
   ·rw [if_pos ⟨q, q2⟩]
    refine wIf_t ?_
    with_reducible refine s_cons ?_
    refine get_put (by assumption) (by rfl) ?_
    refine set_jd (by assumption) ?_
    with_reducible refine s_nil ?_
    exact ⟨rfl, rfl, rfl⟩
   ·rw [if_neg (fun c => q2 c.2)]
    refine wIf_f ?_
    with_reducible refine s_nil ?_
    exact ⟨rfl, rfl, rfl⟩
  ·rw [if_neg (fun c => q c.1)]
   refine wIf_f ?_
   with_reducible refine s_nil ?_
   exact ⟨rfl, rfl, rfl⟩
 have lq : Q1.tl.length = 34 := by subst hq1; split <;> exact l3
 with_reducible refine s_cons ?_
 refine wIf_bneI ?_
 refine if_split (fun q => ?_) (fun q => ?_)
 ·rw [if_pos q] at hq
  with_reducible refine s_cons ?_
  refine get_put (by assumption) (by rfl) ?_
  refine wG_sh (by lia) ?_
  refine set_fi (by assumption) ?_
  with_reducible refine s_cons ?_
  refine wIf_beqI ?_
  refine if_split (fun q2 => ?_) (fun q2 => ?_)
  ·rw [if_pos ⟨q, q2⟩] at hq
   with_reducible refine s_cons ?_
   refine get_put (by assumption) (by rfl) ?_
   refine wG_sh (by lia) ?_
   refine set_fc (by assumption) ?_
   with_reducible refine s_nil ?_
   with_reducible refine s_nil ?_
   with_reducible refine s_nil ?_
   exact hq
  ·rw [if_neg (fun c => q2 c.2)] at hq
   with_reducible refine s_nil ?_
   with_reducible refine s_nil ?_
   with_reducible refine s_nil ?_
   exact hq
 ·rw [if_neg q, if_neg (fun c => q c.1)] at hq
  with_reducible refine s_nil ?_
  with_reducible refine s_nil ?_
  exact hq
end
noncomputable def stC (j : Nat) : Stmt := (dBody 14 2).getD j (.Pass pos0)
noncomputable abbrev aeC (p : Nat) (im : Int) (x : Loc) : Loc := ("self", .ref p) :: ("init_mentsu", .int im) :: ("is_three_player", .bool false) :: x
noncomputable def scan1 (x : Int) (R : RS) : RS := { R with fc := Builtin.bitOr R.fc (b2iA (gt R.tl x == 4) * 2 ^ x.toNat) }
noncomputable def scanF : Nat → Int → RS → RS
 | 0, _, R => R
 | m + 1, x, R => scanF m (x + 1) (scan1 x R)
noncomputable def scanR (im : Int) (R : RS) : RS := { scanF 27 0 R with m := (scanF 27 0 R).m + im }
section
variable {p d t n ix : Nat} {im : Int} {call : Addr → List AV → Sto → XE} {K : KS}
theorem loop_C : ∀ (m N : Nat) (j : Int) (σ : Sto) (R : RS) (x : Loc), 0 ≤ j → j + m = 27 → m < N → RO σ p d t → R.tl.length = 34 → (x = [] ∨ ∃ a, x = ([("i", a)] : Loc)) →
  (∀ x', K .next (aeC p im x') (put σ d t (scanF m j R))) →
  forA (asgA XW call 39 (dScope 14 2) (forTgt (stC 0))) (seqA (execS XW call 39 (dScope 14 2)) (forBody (stC 0))) N (.rng j m 1) (aeC p im x) (put σ d t R) K := by
 intro m
 induction m with
 | zero =>
  intro N j σ R x h0 hj hN h hl hx hq
  obtain ⟨N, rfl⟩ : ∃ M, N = M + 1 := ⟨N - 1, by lia⟩
  exact f_end (fun _ _ q => q) (hq x)
 | succ m ih =>
  intro N j σ R x h0 hj hN h hl hx hq
  obtain ⟨N, rfl⟩ : ∃ M, N = M + 1 := ⟨N - 1, by lia⟩
  refine f_turn (v := .int j) (it' := .rng (j + 1) m 1) (fun _ _ q => q) (fun a τ => a = aeC p im [("i", .int j)] ∧ τ = put σ d t (scan1 j R)) ?_ ?_
  ·refine a_name (ae' := aeC p im [("i", .int j)]) (by rcases hx with rfl | ⟨a, rfl⟩ <;> rfl) ?_
   refine s_cons ?_
   refine get_put (by assumption) (by rfl) ?_
   refine get_put (by assumption) (by rfl) ?_
   refine it_put (by assumption) (by k_mem) (by lia) (by lia) ?_
   refine wG_i (by lia) ?_
   refine set_fc (by assumption) ?_
   with_reducible refine s_nil ?_
   exact ⟨rfl, rfl, rfl⟩
  ·rintro _ _ ⟨rfl, rfl⟩
   exact ih N (j + 1) σ (scan1 j R) _ (by lia) (by lia) (by lia) h hl (.inr ⟨_, rfl⟩) hq
end
theorem scanF_keep : ∀ (m : Nat) (j : Int) (R : RS), (scanF m j R).tl = R.tl ∧ (scanF m j R).m = R.m ∧ (scanF m j R).ta = R.ta ∧ (scanF m j R).pr = R.pr ∧ (scanF m j R).jd = R.jd ∧ (scanF m j R).mn = R.mn
 | 0, _, _ => ⟨rfl, rfl, rfl, rfl, rfl, rfl⟩
 | m + 1, j, R => scanF_keep m (j + 1) (scan1 j R)
theorem scanR_len {R : RS} {im : Int} (hl : R.tl.length = 34) : (scanR im R).tl.length = 34 := by
 have := (scanF_keep 27 0 R).1
 unfold scanR
 generalize scanF 27 0 R = S at this ⊢
 show S.tl.length = 34
 rw [this]; exact hl
set_option maxHeartbeats 1000000 in
theorem c113 {σ : Sto} {p d t k : Nat} {R R' : RS} {im : Int} {K : KE} (h : RO σ p d t) (hl : R.tl.length = 34) (hr : runO k 0 (scanR im R) = some R') (hq : ∀ τ, K .none (put (σ ++ τ) d t R')) :
  lCall (callA XW (k + 2 + 1)) 113 [.ref p, .int im, .bool false] (put σ d t R) K := by
 refine lCall.mk (call_of (fn := fnAt 14 2 []) (ae := aeC p im []) (by rfl) ?_)
 have h1 := h.app [⟨true, .range 0 27 1⟩]
 refine s_cons ?_
 refine lIter.mk ?_
 refine wAt_new ?_
 refine wG_i (by first | assumption | decide) ?_
 rw [put_app h]
 rw [show rangeN 0 27 1 = 27 by decide]
 refine lockF.mk ?_
 refine loop_C 27 1000 0 _ R [] (by lia) (by lia) (by lia) h1 hl (.inl rfl) fun x' => ?_
 refine s_join (aeC p im x') (put (σ ++ [⟨true, .range 0 27 1⟩]) d t (scanR im R)) ?_ ?_
 ·refine get_put (by assumption) (by rfl) ?_
  refine set_m (by assumption) ?_
  exact ⟨rfl, rfl, rfl⟩
 have ih := run_sim h1 k
 have l2 : (scanR im R).tl.length = 34 := scanR_len hl
 generalize scanR im R = S at hr l2 ⊢
 clear hl
 with_reducible refine s_cons ?_
 refine res_put (by assumption) (by rfl) ?_
 refine wIf_f ?_
 refine c120 ih hr l2 (by lia) (by lia) ?_
 exact hq _
noncomputable def R0 (h : List Int) : RS := ⟨h, 0, 0, 0, 0, 0, 0, 8⟩
noncomputable def R1 (cnt : Int) (h : List Int) : RS := scanR ((14 - cnt).fdiv 3) (remR cnt (R0 h))
theorem len_rem {nc : Int} {R : RS} (hl : R.tl.length = 34) : (remR nc R).tl.length = 34 := by
 have := foldH_len 7 0 R 0 0 hl
 unfold remR
 generalize foldH 7 0 R 0 0 = x at this ⊢
 obtain ⟨R', f, s⟩ := x
 dsimp only at this ⊢
 repeat' split
 all_goals exact this
set_option maxHeartbeats 1000000 in
theorem c106 {σ : Sto} {p d t k : Nat} {h : List Int} {cnt : Int} {R' : RS} {K : KE} (ho : RO σ p d t) (hl : h.length = 34) (hc : cnt ≤ 14) (hm : cnt.fmod 3 ≠ 0) (hr : runO k 0 (R1 cnt h) = some R') (hq : ∀ τ, K (.int R'.mn) (put (σ ++ τ) d t R')) :
  lCall (callA XW (k + 3 + 1)) 106 [.ref p, .int cnt, .bool false] (put σ d t (R0 h)) K := by
 refine lCall.mk (call_of (fn := fnAt 14 1 []) (ae := [("self", .ref p), ("count_of_tiles", .int cnt), ("is_three_player", .bool false)]) (by rfl) ?_)
 refine s_cons ?_
 refine wIf_f ?_
 refine wIf_f ?_
 with_reducible refine s_nil ?_
 with_reducible refine s_cons ?_
 refine wIf_decI ?_
 refine if_split (fun q => absurd q (by lia)) (fun q => ?_)
 with_reducible refine s_nil ?_
 with_reducible refine s_cons ?_
 refine wG_i (by first | assumption | decide) ?_
 refine wIf_beqI ?_
 refine if_split (fun q => absurd q hm) (fun q => ?_)
 with_reducible refine s_nil ?_
 with_reducible refine s_cons ?_
 refine res_put (by assumption) (by rfl) ?_
 refine c218 ho hl fun τ => ?_
 have ho1 := ho.app τ
 have lr : (remR cnt (R0 h)).tl.length = 34 := len_rem hl
 unfold R1 at hr
 generalize remR cnt (R0 h) = Rm at hr lr ⊢
 refine s_cons ?_
 refine wG_i (by first | assumption | decide) ?_
 refine s_cons ?_
 refine res_put (by assumption) (by rfl) ?_
 refine c113 ho1 lr hr fun τ' => ?_
 have ho2 := ho1.app τ'
 have hq := hq (τ ++ τ')
 rw [← List.append_assoc] at hq
 refine s_cons ?_
 refine get_put (by assumption) (by rfl) ?_
 exact hq
structure HI (h : List Int) (j : Nat) (R : RS) : Prop where
 tl : R.tl = h
 m : 3 * R.m ≤ ((h.drop 27).take j).sum
 m0 : 0 ≤ R.m
 ta : R.ta = 0
 pr : 0 ≤ R.pr
 jd : 0 ≤ R.jd
 mn : R.mn = 8
theorem gt_drop {h : List Int} {j : Nat} : (h.drop 27).getD j 0 = gt h (27 + (j : Int)) := by
 unfold gt
 rw [List.getD_eq_getElem?_getD, List.getD_eq_getElem?_getD, List.getElem?_drop]
 congr 2
theorem hI_step {h : List Int} {j : Nat} {R : RS} (hl : h.length = 34) (hn : ∀ j : Int, 0 ≤ j → j < 34 → 0 ≤ gt h j) (hj : j < 7) (I : HI h j R) : HI h (j + 1) (hoR j R) := by
 obtain ⟨a, b, c, d, e, f, g⟩ := I
 have hs := take_succ_sum (l := h.drop 27) (j := j) (by simp; lia)
 rw [gt_drop] at hs
 have hp := hn (27 + j) (by lia) (by lia)
 unfold hoR
 by_cases v4 : gt R.tl (27 + (j : Int)) = 4
 ·have e4 : h4 j R = { R with m := R.m + 1, jd := R.jd + 1 } := if_pos v4
  rw [e4, show h3 j { R with m := R.m + 1, jd := R.jd + 1 } = { R with m := R.m + 1, jd := R.jd + 1 } from if_neg (by show ¬ gt R.tl _ = 3; rw [v4]; decide), show h2 j { R with m := R.m + 1, jd := R.jd + 1 } = { R with m := R.m + 1, jd := R.jd + 1 } from if_neg (by show ¬ gt R.tl _ = 2; rw [v4]; decide)]
  rw [a] at v4
  exact ⟨a, by show 3 * (R.m + 1) ≤ _; lia, by show 0 ≤ R.m + 1; lia, d, e, by show 0 ≤ R.jd + 1; lia, g⟩
 ·rw [show h4 j R = R from if_neg v4]
  by_cases v3 : gt R.tl (27 + (j : Int)) = 3
  ·rw [show h3 j R = { R with m := R.m + 1 } from if_pos v3, show h2 j { R with m := R.m + 1 } = { R with m := R.m + 1 } from if_neg (by show ¬ gt R.tl _ = 2; rw [v3]; decide)]
   rw [a] at v3
   exact ⟨a, by show 3 * (R.m + 1) ≤ _; lia, by show 0 ≤ R.m + 1; lia, d, e, f, g⟩
  ·rw [show h3 j R = R from if_neg v3]
   have b' : 3 * R.m ≤ ((h.drop 27).take (j + 1)).sum := by rw [hs]; lia
   unfold h2
   split
   ·exact ⟨a, b', c, d, by show 0 ≤ R.pr + 1; lia, f, g⟩
   ·exact ⟨a, b', c, d, e, f, g⟩
theorem hI_fold {h : List Int} (hl : h.length = 34) (hn : ∀ j : Int, 0 ≤ j → j < 34 → 0 ≤ gt h j) : ∀ (m j : Nat) (R : RS) (f s : Int), j + m = 7 → HI h j R → HI h 7 (foldH m j R f s).1
 | 0, j, R, f, s, e, I => by
  have : j = 7 := by lia
  subst this
  exact I
 | m + 1, j, R, f, s, e, I => hI_fold hl hn m (j + 1) _ _ _ (by lia) (hI_step hl hn (by lia) I)
noncomputable def RQ (h : List Int) (R : RS) : Prop := R.tl = h ∧ 3 * R.m ≤ (h.drop 27).sum ∧ 0 ≤ R.m ∧ R.ta = 0 ∧ 0 ≤ R.pr ∧ 0 ≤ R.jd ∧ R.mn = 8
theorem ite_ind {α : Type} {Q : α → Prop} {c : Prop} [Decidable c] {A B : α} (hA : Q A) (hB : Q B) : Q (if c then A else B) := by split <;> assumption
theorem remR_q {h : List Int} {nc : Int} {R : RS} (q : RQ h (foldH 7 0 R 0 0).1) : RQ h (remR nc R) := by
 unfold remR
 generalize foldH 7 0 R 0 0 = x at q ⊢
 obtain ⟨R', f, s⟩ := x
 dsimp only at q ⊢
 have q1 : RQ h (if R'.jd ≠ 0 ∧ nc.fmod 3 = 2 then { R' with jd := R'.jd - 1 } else R') := by
  split
  ·exact ⟨q.1, q.2.1, q.2.2.1, q.2.2.2.1, q.2.2.2.2.1, by have := q.2.2.2.2.2.1; show 0 ≤ R'.jd - 1; lia, q.2.2.2.2.2.2⟩
  ·exact q
 generalize (if R'.jd ≠ 0 ∧ nc.fmod 3 = 2 then { R' with jd := R'.jd - 1 } else R') = R1 at q1 ⊢
 exact ite_ind (Q := RQ h) (ite_ind (Q := RQ h) q1 q1) (ite_ind (Q := RQ h) q1 q1)
theorem good_R1 {h : List Int} {cnt : Int} (hl : h.length = 34) (hn : ∀ j : Int, 0 ≤ j → j < 34 → 0 ≤ gt h j) (hs : h.sum = cnt) (hc : cnt ≤ 14) : Good (R1 cnt h) ∧ (R1 cnt h).tl = h := by
 have I := hI_fold hl hn 7 0 (R0 h) 0 0 rfl ⟨rfl, by simp [R0], by simp [R0], rfl, by simp [R0], by simp [R0], rfl⟩
 have hsum : h.sum = s27 h + (h.drop 27).sum := by
  unfold s27
  rw [← List.sum_append, List.take_append_drop]
 have h7 : (h.drop 27).take 7 = h.drop 27 := List.take_of_length_le (by simp; lia)
 have hc0 : 0 ≤ cnt := by
  rw [← hs]
  refine sum_nonneg fun x hx => ?_
  obtain ⟨i, hi, e⟩ := List.getElem_of_mem hx
  have := hn i (by lia) (by lia)
  unfold gt at this
  rw [List.getD_eq_getElem?_getD, Int.toNat_natCast, List.getElem?_eq_getElem hi] at this
  simpa [e] using this
 have q0 : RQ h (foldH 7 0 (R0 h) 0 0).1 := ⟨I.tl, by rw [← h7]; exact I.m, I.m0, I.ta, I.pr, I.jd, I.mn⟩
 have q1 := remR_q (nc := cnt) q0
 unfold R1
 generalize remR cnt (R0 h) = Rm at q1 ⊢
 obtain ⟨a1, a2, a3, a4, a5, a6, a7⟩ := q1
 obtain ⟨b1, b2, b3, b4, b5, b6⟩ := scanF_keep 27 0 Rm
 unfold scanR
 generalize scanF 27 0 Rm = S at *
 have hd : 3 * ((14 - cnt).fdiv 3) ≤ 14 - cnt := by rw [Int.fdiv_eq_ediv_of_nonneg _ (by lia)]; lia
 have hd0 : 0 ≤ (14 - cnt).fdiv 3 := by rw [Int.fdiv_eq_ediv_of_nonneg _ (by lia)]; lia
 refine ⟨⟨by show S.tl.length = 34; rw [b1, a1]; exact hl, by show ∀ j : Int, 0 ≤ j → j < 34 → 0 ≤ gt S.tl j; rw [b1, a1]; exact hn, ?_, ?_, ?_, ?_, ?_, ?_⟩, b1.trans a1⟩
 ·show 3 * (S.m + (14 - cnt).fdiv 3) + s27 S.tl ≤ 14
  rw [b1, a1, b2]; lia
 ·show 0 ≤ S.m + (14 - cnt).fdiv 3
  rw [b2]; lia
 ·show 0 ≤ S.ta
  rw [b3]; lia
 ·show 0 ≤ S.pr
  rw [b4]; lia
 ·show -1 ≤ S.jd
  rw [b5]; lia
 ·show -1 ≤ S.mn
  rw [b6]; lia
theorem reg_ex {h : List Int} {cnt : Int} {k : Nat} (hl : h.length = 34) (hn : ∀ j : Int, 0 ≤ j → j < 34 → 0 ≤ gt h j) (hs : h.sum = cnt) (hc : cnt ≤ 14) (hk : 42 ≤ k) : ∃ R', runO k 0 (R1 cnt h) = some R' ∧ -1 ≤ R'.mn := by
 obtain ⟨g, e⟩ := good_R1 hl hn hs hc
 have hb : s27 h ≤ 14 := by
  have := g.bd
  have := g.m0
  rw [e] at *
  lia
 obtain ⟨R', a, _, c⟩ := runO_total k 0 (R1 cnt h) g (by lia) (by lia) (by rw [e]; lia)
 exact ⟨R', a, c⟩
/-- a new object, its fields so far -/
noncomputable def newS (σ : Sto) (es : List (Str × AV)) (h : List Int) : Sto := σ ++ [⟨true, .ns es⟩, ⟨true, .inst 221 σ.length⟩, ⟨true, .list (h.map AV.int)⟩]
theorem newS_d {σ : Sto} {es : List (Str × AV)} {h : List Int} : (newS σ es h)[σ.length]? = some ⟨true, .ns es⟩ := by unfold newS; simp
theorem newS_p {σ : Sto} {es : List (Str × AV)} {h : List Int} : (newS σ es h)[σ.length + 1]? = some ⟨true, .inst 221 σ.length⟩ := by unfold newS; simp
theorem set_new {σ : Sto} {es : List (Str × AV)} {h : List Int} {name : Str} {v : AV} {K : Sto → Prop} (ho : (ownW.contains name && Nat.ble es.length 100) = true) (k : K (newS σ (putField name v es) h)) : lSet XW (.ref (σ.length + 1)) name v (newS σ es h) K := lSet.mk <| by
 refine wAt_i newS_p (wAt_i newS_d ?_)
 obtain ⟨h1, h2⟩ := Bool.and_eq_true_iff.mp ho
 show wB (true && XW.own 221 name && Nat.ble es.length 100) _
 rw [own_w h1, h2]
 show K _
 rw [show (newS σ es h).set σ.length ⟨true, .ns (putField name v es)⟩ = newS σ (putField name v es) h by
  unfold newS
  rw [List.set_append_right _ _ (Nat.le_refl _)]
  simp]
 exact k
theorem newS_put {σ : Sto} {h : List Int} : newS σ (flds (σ.length + 2) (R0 h)) h = put (newS σ [] h) σ.length (σ.length + 2) (R0 h) := by
 unfold put newS R0
 rw [List.set_append_right _ _ (Nat.le_refl _), List.set_append_right _ _ (by lia)]
 simp
theorem newS_RO {σ : Sto} {h : List Int} : RO (newS σ [] h) (σ.length + 1) σ.length (σ.length + 2) :=
 ⟨⟨true, newS_p⟩, by unfold newS; simp, by unfold newS; simp, by lia, by lia, by lia⟩
/-- the number of a hand by sets and a pair -/
noncomputable def RegIs (k : Nat) (cnt : Int) (h : List Int) (r : Int) : Prop := ∃ R', runO k 0 (R1 cnt h) = some R' ∧ R'.mn = r
set_option maxHeartbeats 1000000 in
theorem new_obj {σ : Sto} {k n : Nat} {b : Bool} {h : List Int} {K : Sto → Prop} (e : σ[k]? = some ⟨b, .list (h.map AV.int)⟩) (hl : h.length = 34) (hq : K (put (newS σ [] h) σ.length (σ.length + 2) (R0 h))) :
  lCall (callA XW (n + 1)) 99 [.ref (σ.length + 1), .ref k] (σ ++ [⟨true, .ns []⟩, ⟨true, .inst 221 σ.length⟩]) fun v σ' => ifNone v (K σ') := by
 have hk : (σ ++ [⟨true, .ns []⟩, ⟨true, .inst 221 σ.length⟩] : Sto)[k]? = some ⟨b, .list (h.map AV.int)⟩ := old_app e
 refine lCall.mk (call_of (fn := fnAt 14 0 []) (ae := [("self", .ref (σ.length + 1)), ("tiles_34", .ref k)]) (by rfl) ?_)
 refine s_cons ?_
 refine wAt_i hk ?_
 refine wG_i (by simp [hl]) ?_
 rw [← newS_put] at hq
 rw [show (σ ++ [⟨true, .ns []⟩, ⟨true, .inst 221 σ.length⟩] ++ [⟨true, .list (h.map AV.int)⟩] : Sto) = newS σ [] h by unfold newS; simp, show (σ ++ [⟨true, .ns []⟩, ⟨true, .inst 221 σ.length⟩] : Sto).length = σ.length + 2 by simp]
 repeat (first | refine set_new (by rfl) ?_ | with_reducible refine s_cons ?_ | refine s_cons ?_)
 exact hq
theorem put_newS_app {σ τ : Sto} {h : List Int} {R : RS} : ∃ τ', put (newS σ [] h ++ τ) σ.length (σ.length + 2) R = σ ++ τ' := by
 unfold put newS
 rw [List.append_assoc, List.set_append_right _ _ (Nat.le_refl _), List.set_append_right _ _ (by lia)]
 exact ⟨_, rfl⟩
theorem calc_on {σ : Sto} {k : Nat} {h : List Int} {cnt r : Int} {K : KE} (hl : h.length = 34) (hc : cnt ≤ 14) (hm : cnt.fmod 3 ≠ 0) (hr : RegIs k cnt h r) (hq : ∀ τ, K (.int r) (σ ++ τ)) :
  lCall (callA XW (k + 3 + 1)) 106 [.ref (σ.length + 1), .int cnt, .bool false] (put (newS σ [] h) σ.length (σ.length + 2) (R0 h)) K := by
 obtain ⟨R', e1, rfl⟩ := hr
 refine c106 newS_RO hl hc hm e1 fun τ => ?_
 obtain ⟨τ', e4⟩ := put_newS_app (σ := σ) (τ := τ) (h := h) (R := R')
 rw [e4]
 exact hq τ'
theorem res_calc {σ : Sto} {h : List Int} {Kf : Addr → List AV → Prop} {Kl : Nat → Bool → Prop} (k : Kf 106 [.ref (σ.length + 1)]) : lRes XW (.ref (σ.length + 1)) "calculate" (put (newS σ [] h) σ.length (σ.length + 2) (R0 h)) Kf Kl := res_put newS_RO rfl k
set_option maxHeartbeats 1000000 in
theorem c75 {σ : Sto} {j k : Nat} {b : Bool} {h : List Int} {cnt r : Int} {K : KE} (e : σ[j]? = some ⟨b, .list (h.map AV.int)⟩) (hl : h.length = 34) (hs : h.sum = cnt) (hc : cnt ≤ 14) (hm : cnt.fmod 3 ≠ 0) (hr : RegIs k cnt h r) (hq : ∀ τ, K (.int r) (σ ++ τ)) :
  lCall (callA XW (k + 4 + 1)) 75 [.ref j] σ K := by
 refine lCall.mk (call_of (fn := fnAt 13 7 [.bool false]) (ae := [("tiles_34", .ref j), ("is_three_player", .bool false)]) (by rfl) ?_)
 refine s_cons ?_
 refine wLst_i (by assumption) ?_
 refine wNums_i ?_
 refine s_cons ?_
 rw [sumA_eq, hs]
 refine new_obj e hl ?_
 refine res_calc ?_
 exact calc_on hl hc hm hr hq
theorem mid_get {σ γ : Sto} {c : Cl} : (σ ++ (c :: γ))[σ.length]? = some c := by rw [List.getElem?_append_right (Nat.le_refl _), Nat.sub_self]; rfl
theorem mid_set {σ γ : Sto} {c c' : Cl} : (σ ++ (c :: γ)).set σ.length c' = σ ++ (c' :: γ) := by rw [List.set_append_right _ _ (Nat.le_refl _), Nat.sub_self]; rfl
/-- a comprehension; what its items leave behind is γ -/
theorem comp_rule {X : Ctx} {call : Addr → List AV → Sto → XE} {n : Nat} {scope : Scope} {elt iter : Expr} {ifs : List Expr} {x : Str} {p : Pos} {σ : Sto} {it : It} {vs : List AV} {ae0 : Loc} {aeX : AV → Loc} {t : AV → Bool} {g : AV → AV} {K : Loc → Sto → Prop}
  (hi : ItIs σ it vs) (hN : vs.length < X.N) (hx : scope.names.lookup x = some .local) (hp0 : ∀ v, putField x v ae0 = aeX v) (hp1 : ∀ u v, putField x v (aeX u) = aeX v) (hl : vs.length ≤ 1000)
  (ht : ∀ v ∈ vs, ∀ acc γ K, K (t v) (σ ++ (⟨true, .list acc⟩ :: γ)) → allA (testE X call n scope) .And ifs (aeX v) (σ ++ (⟨true, .list acc⟩ :: γ)) K)
  (he : ∀ v ∈ vs, t v = true → ∀ acc γ K, (∀ γ', K (g v) (σ ++ (⟨true, .list acc⟩ :: γ'))) → evalE X call n scope elt (aeX v) (σ ++ (⟨true, .list acc⟩ :: γ)) K)
  (hq : ∀ ae γ, K ae (σ ++ (⟨true, .list ((vs.filter t).map g)⟩ :: γ))) :
  lockG (gensA X call (n + 1) scope elt σ.length [⟨.Name x p, iter, ifs, 0⟩] it ae0 (σ ++ [⟨true, .list []⟩]) K) := by
 refine lockG.mk ?_
 have main : ∀ (vs' : List AV) (N : Nat) (it : It) (ae : Loc) (acc : List AV) (γ : Sto), (∀ v ∈ vs', v ∈ vs) → vs'.length < N → acc.length + vs'.length ≤ 1000 → ItIs σ it vs' → (ae = ae0 ∨ ∃ u, ae = aeX u) →
   (∀ ae γ, K ae (σ ++ (⟨true, .list (acc ++ (vs'.filter t).map g)⟩ :: γ))) →
   wLoop (turnG scope x (allA (testE X call n scope) .And ifs) fun ae σ' K => evalE X call n scope elt ae σ' fun u σ' => wAppend σ.length u σ' fun _ σ' => K ae σ') N it ae (σ ++ (⟨true, .list acc⟩ :: γ)) K := by
  intro vs'
  induction vs' with
  | nil =>
   intro N it ae acc γ hm hN ha hi hae hq
   obtain ⟨N, rfl⟩ : ∃ M, N = M + 1 := ⟨N - 1, by lia⟩
   refine it_nil (it_app hi) _ _ ?_
   have := hq ae γ
   simpa using this
  | cons v vs' ih =>
   intro N it ae acc γ hm hN ha hi hae hq
   obtain ⟨N, rfl⟩ : ∃ M, N = M + 1 := ⟨N - 1, by simp at hN; lia⟩
   have hpv : putField x v ae = aeX v := by rcases hae with rfl | ⟨u, rfl⟩ <;> first | exact hp0 v | exact hp1 u v
   have hv := hm v (List.mem_cons_self ..)
   refine (it_cons (it_app hi)).1 _ _ ?_
   refine ⟨fun a τ => a = aeX v ∧ ∃ γ', τ = σ ++ (⟨true, .list (acc ++ if t v = true then [g v] else [])⟩ :: γ'), ?_, ?_⟩
   ·unfold turnG
    rw [hx, hpv]
    show allA _ _ _ _ _ _
    refine ht v hv acc γ _ ?_
    refine wIf_i (fun c => ?_) (fun c => ?_)
    ·refine he v hv c acc γ _ fun γ' => ?_
     refine app_list mid_get (by simp at ha; lia) ?_
     rw [mid_set, if_pos c]
     exact ⟨rfl, γ', rfl⟩
    ·rw [c]
     exact ⟨rfl, γ, by simp⟩
   ·rintro a τ ⟨rfl, γ', rfl⟩
    refine ih N (itStep it) (aeX v) _ γ' (fun w hw => hm w (List.mem_cons_of_mem _ hw)) (by simp at hN; lia) (by simp at ha ⊢; split <;> simp <;> lia) (it_cons hi).2 (.inr ⟨v, rfl⟩) fun ae γ => ?_
    have := hq ae γ
    rw [List.append_assoc]
    rw [List.filter_cons] at this
    split
    ·rename_i c; rw [if_pos c] at this; exact this
    ·rename_i c; rw [if_neg c] at this; exact this
 exact main vs X.N it ae0 [] [] (fun _ h => h) hN (by simp; exact hl) hi (.inl rfl) hq
/-- pairs and kinds of a hand -/
noncomputable def nP (h : List Int) : Int := ((h.filter fun x => decide (x ≥ 2)).length : Nat)
noncomputable def nK (h : List Int) : Int := ((h.filter fun x => decide (x ≥ 1)).length : Nat)
noncomputable def chiV (h : List Int) : Int := if nP h = 7 then -1 else 6 - nP h + (if nK h < 7 then 7 - nK h else 0)
noncomputable def geA (m : Int) : AV → Bool
 | .int x => decide (x ≥ m)
 | _ => false
theorem filter_ge (h : List Int) (m : Int) : (((h.map AV.int).filter (geA m)).map id).length = (h.filter fun x => decide (x ≥ m)).length := by
 rw [List.map_id]
 induction h with
 | nil => rfl
 | cons a h ih =>
  rw [List.map_cons, List.filter_cons, List.filter_cons]
  have q : geA m (.int a) = decide (a ≥ m) := rfl
  rw [q]
  cases decide (a ≥ m)
  ·exact ih
  ·show _ + 1 = _ + 1
   rw [ih]
theorem wLst_mid {σ γ : Sto} {b : Bool} {xs : List AV} {K : Bool → List AV → Prop} (h : K b xs) : wLst σ.length (σ ++ (⟨b, .list xs⟩ :: γ)) K := wLst_i mid_get h
theorem wIf_v {c : Bool} {p q : Prop} (h : p) (h' : q) : wIf c p q := wIf_i (fun _ => h) (fun _ => h')
set_option maxHeartbeats 1000000 in
theorem c54 {σ : Sto} {k n : Nat} {b : Bool} {h : List Int} {K : KE} (e : σ[k]? = some ⟨b, .list (h.map AV.int)⟩) (hl : h.length = 34) (hq : ∀ τ, K (.int (chiV h)) (σ ++ τ)) : lCall (callA XW (n + 1)) 54 [.ref k] σ K := by
 have hit : ∀ σ : Sto, σ[k]? = some ⟨b, .list (h.map AV.int)⟩ → ItIs σ (.list k 0) (h.map AV.int) := fun σ e => ⟨b, _, e, rfl⟩
 have hlen : ∀ m, (((h.map AV.int).filter (geA m)).map id).length ≤ 100000 := fun m => by
  rw [filter_ge]; exact Nat.le_trans (List.length_filter_le ..) (by rw [hl]; decide)
 refine lCall.mk (call_of (fn := fnAt 13 5 []) (ae := [("tiles_34", .ref k)]) (by rfl) ?_)
 refine s_cons ?_
 refine lIter.mk ?_
 refine wAt_i (by assumption) ?_
 refine comp_rule (n := 36) (ae0 := []) (aeX := fun v => [("x", v)]) (t := geA 2) (g := id) (hit _ e) (by rw [List.length_map, hl]; decide) (by rfl) (fun v => rfl) (fun u v => rfl) (by rw [List.length_map, hl]; decide) ?_ ?_ ?_
 ·intro v hv acc γ K hK
  obtain ⟨x, _, rfl⟩ := List.mem_map.mp hv
  have hK : K (decide (x ≥ 2)) _ := hK
  refine wIf_decI ?_
  refine if_split (fun q => ?_) (fun q => ?_)
  ·rw [decide_eq_true q] at hK; exact hK
  ·rw [decide_eq_false q] at hK; exact hK
 ·intro v hv _ acc γ K hK
  exact hK γ
 intro _ γ1
 refine wLst_mid ?_
 refine wG_i (hlen _) ?_
 rw [filter_ge]
 generalize hσ : (⟨true, .list (((h.map AV.int).filter (geA 2)).map id)⟩ :: γ1 : Sto) = τ1
 have e := old_app (τ := τ1) e
 have e' := e
 refine s_cons ?_
 refine wIf_beqI ?_
 refine if_split (fun q => ?_) (fun q => ?_)
 ·have := hq τ1
  unfold chiV at this
  rw [if_pos (show nP h = 7 from q)] at this
  with_reducible refine s_cons ?_
  refine get_con (by rfl) ?_
  exact this
 with_reducible refine s_nil ?_
 with_reducible refine s_cons ?_
 refine lIter.mk ?_
 refine wAt_i (by assumption) ?_
 refine comp_rule (n := 36) (ae0 := []) (aeX := fun v => [("x", v)]) (t := geA 1) (g := id) (hit _ e) (by rw [List.length_map, hl]; decide) (by rfl) (fun v => rfl) (fun u v => rfl) (by rw [List.length_map, hl]; decide) ?_ ?_ ?_
 ·intro v hv acc γ K hK
  obtain ⟨x, _, rfl⟩ := List.mem_map.mp hv
  have hK : K (decide (x ≥ 1)) _ := hK
  refine wIf_decI ?_
  refine if_split (fun q => ?_) (fun q => ?_)
  ·rw [decide_eq_true q] at hK; exact hK
  ·rw [decide_eq_false q] at hK; exact hK
 ·intro v hv _ acc γ K hK
  exact hK γ
 intro _ γ2
 refine wLst_mid ?_
 refine wG_i (hlen _) ?_
 rw [filter_ge]
 generalize (⟨true, .list (((h.map AV.int).filter (geA 1)).map id)⟩ :: γ2 : Sto) = τ2
 have hq := hq (τ1 ++ τ2)
 rw [← List.append_assoc] at hq
 unfold chiV at hq
 rw [if_neg (show ¬ nP h = 7 from q)] at hq
 refine s_cons ?_
 refine wIf_decI ?_
 refine if_split (fun q => ?_) (fun q => ?_)
 ·rw [if_pos (show nK h < 7 from q)] at hq
  exact hq
 ·rw [if_neg (show ¬ nK h < 7 from q)] at hq
  exact hq
noncomputable def endsI : List Int := [0, 8, 9, 17, 18, 26, 27, 28, 29, 30, 31, 32, 33]
noncomputable def cE (h : List Int) (es : List Int) : Int := (es.map fun e => b2iA (decide (gt h e ≥ 2))).sum
noncomputable def tE (h : List Int) (es : List Int) : Int := (es.map fun e => b2iA (gt h e != 0)).sum
noncomputable def kokV (h : List Int) : Int := 13 - tE h endsI - (if cE h endsI ≠ 0 then 1 else 0)
theorem sum_perm {l l' : List Int} (h : l.Perm l') : l.sum = l'.sum := by
 induction h with
 | nil => rfl
 | cons x _ ih => simp [ih]
 | swap x y l => simp; lia
 | trans _ _ h1 h2 => exact h1.trans h2
theorem endsA_eq : endsA = endsI.map AV.int := rfl
theorem ends_of {vs : List AV} (h : vs.Perm endsA) : ∃ es : List Int, vs = es.map AV.int ∧ es.Perm endsI := by
 rw [endsA_eq] at h
 have : ∀ {vs : List AV} {l : List Int}, vs.Perm (l.map AV.int) → ∃ es : List Int, vs = es.map AV.int ∧ es.Perm l := by
  intro vs l h
  refine ⟨vs.filterMap fun | .int i => some i | _ => none, ?_, ?_⟩
  ·have hm : ∀ v ∈ vs, ∃ i, v = .int i := fun v hv => by
    obtain ⟨i, _, e⟩ := List.mem_map.mp (h.mem_iff.mp hv); exact ⟨i, e.symm⟩
   clear h
   induction vs with
   | nil => rfl
   | cons v vs ih =>
    obtain ⟨i, rfl⟩ := hm v (List.mem_cons_self ..)
    rw [List.filterMap_cons]
    show _ = AV.int i :: _
    rw [← ih fun u hu => hm u (List.mem_cons_of_mem _ hu)]
  ·have := h.filterMap (fun | AV.int i => some i | _ => none)
   rw [List.filterMap_map] at this
   have e : (l.filterMap ((fun | AV.int i => some i | _ => none) ∘ AV.int)) = l := by
    clear this h
    induction l with
    | nil => rfl
    | cons a l ih => rw [List.filterMap_cons]; show a :: _ = _; rw [ih]
   rw [e] at this
   exact this
 exact this h
theorem ends_rng {e : Int} (h : e ∈ endsI) : 0 ≤ e ∧ e < 34 := (show ∀ e ∈ endsI, 0 ≤ e ∧ e < 34 by decide) e h
noncomputable abbrev aeK (k : Nat) (c t : Int) (x : Loc) : Loc := ("tiles_34", .ref k) :: ("completed_terminals", .int c) :: ("terminals", .int t) :: x
set_option maxHeartbeats 1000000 in
theorem c64 {σ : Sto} {k n : Nat} {b : Bool} {h : List Int} {vs : List AV} {K : KE} (e : σ[k]? = some ⟨b, .list (h.map AV.int)⟩) (hl : h.length = 34) (h0 : σ[0]? = some ⟨false, .fset vs⟩) (hv : vs.Perm endsA) (hq : K (.int (kokV h)) σ) : lCall (callA XW (n + 1)) 64 [.ref k] σ K := by
 obtain ⟨es, rfl, hp⟩ := ends_of hv
 refine lCall.mk (call_of (fn := fnAt 13 6 []) (ae := [("tiles_34", .ref k)]) (by rfl) ?_)
 refine s_cons ?_
 refine s_cons ?_
 refine s_cons ?_
 refine lIter.mk ?_
 refine wAt_i (by assumption) ?_
 refine lockF.mk ?_
 refine for_ints (σ0 := σ) (fun es' ae τ => ∃ c t x, ae = aeK k c t x ∧ τ = σ ∧ c + cE h es' = cE h endsI ∧ t + tE h es' = tE h endsI ∧ (∀ e ∈ es', 0 ≤ e ∧ e < 34) ∧ (x = [] ∨ ∃ a, x = ([("i", a)] : Loc)))
  (fun vs ae τ it I hi => ?_) (fun i es' ae τ I => ?_) (fun ae τ I => ?_) es 1000 _ _ _ ?_ ⟨false, _, h0, rfl⟩ ?_
 ·obtain ⟨_, _, _, _, e, _⟩ := I
  rw [e]; exact hi
 ·refine ex3 I fun c t x hI => and6 hI fun e2 e3 e4 e5 e6 e7 => ?_
  clear hI I
  subst e2 e3
  have i0 := (e6 i (List.mem_cons_self ..)).1
  have i1 := (e6 i (List.mem_cons_self ..)).2
  refine a_name (ae' := aeK k c t [("i", .int i)]) (by rcases e7 with rfl | ⟨a, rfl⟩ <;> rfl) ?_
  with_reducible refine s_cons ?_
  refine it_list (by assumption) (by assumption) (by lia) (by lia) ?_
  refine s_cons ?_
  refine it_list (by assumption) (by assumption) (by lia) (by lia) ?_
  refine ⟨rfl, _, _, _, rfl, rfl, ?_, ?_, fun e he => e6 e (List.mem_cons_of_mem _ he), .inr ⟨_, rfl⟩⟩
  ·rw [← e4]; unfold cE; rw [List.map_cons, List.sum_cons, Int.add_assoc]
  ·rw [← e5]; unfold tE; rw [List.map_cons, List.sum_cons, Int.add_assoc]
 ·refine ex3 I fun c t x hI => and6 hI fun e2 e3 e4 e5 e6 e7 => ?_
  clear hI I
  subst e2 e3
  have c0 : c = cE h endsI := by rw [← e4]; simp [cE]
  have t0 : t = tE h endsI := by rw [← e5]; simp [tE]
  subst c0 t0
  unfold kokV at hq
  with_reducible refine s_cons ?_
  refine wIf_bneI ?_
  refine if_split (fun q => ?_) (fun q => ?_)
  ·rw [if_pos q] at hq
   exact hq
  ·rw [if_neg q] at hq
   exact hq
 ·rw [hp.length_eq]; decide
 ·refine ⟨0, 0, [], rfl, rfl, ?_, ?_, fun e he => ends_rng (hp.mem_iff.mp he), .inl rfl⟩
  ·rw [Int.zero_add]; exact sum_perm (hp.map _)
  ·rw [Int.zero_add]; exact sum_perm (hp.map _)
theorem s_mid {f : Stmt → Loc → Sto → XS} {s : Stmt} {r : List Stmt} {ae : Loc} {σ : Sto} {K : KS} (I : Loc → Sto → Prop) (h : f s ae σ fun fl a τ => fl = .next ∧ I a τ) (k : ∀ a τ, I a τ → seqA f r a τ K) : seqA f (s :: r) ae σ K :=
 ⟨_, h, fun fl a τ ⟨e1, i⟩ => by subst e1; exact k a τ i⟩
theorem s_st {f : Stmt → Loc → Sto → XS} {s : Stmt} {r : List Stmt} {ae : Loc} {σ : Sto} {K : KS} (ae' : Loc) (I : Sto → Prop) (h : f s ae σ fun fl a τ => fl = .next ∧ a = ae' ∧ I τ) (k : ∀ τ, I τ → seqA f r ae' τ K) : seqA f (s :: r) ae σ K :=
 ⟨_, h, fun fl a τ ⟨e1, e2, i⟩ => by subst e1 e2; exact k τ i⟩
theorem s_ap {f : Stmt → Loc → Sto → XS} {s : Stmt} {r : List Stmt} {ae : Loc} {σ : Sto} {K : KS} (ae' : Loc) (σ0 : Sto) (h : f s ae σ fun fl a τ => fl = .next ∧ ∃ γ, τ = σ0 ++ γ ∧ a = ae') (k : ∀ γ, seqA f r ae' (σ0 ++ γ) K) : seqA f (s :: r) ae σ K :=
 ⟨_, h, fun fl a τ ⟨e1, γ, e2, e3⟩ => by subst e1 e2 e3; exact k γ⟩
noncomputable def minL (l : List Int) : Int := bestA (fun x y => decide (x < y)) l
noncomputable def resL (cnt r : Int) (u1 u2 : Bool) (h : List Int) : List Int := [r] ++ (if cnt ≥ 13 ∧ u1 = true then [chiV h] else []) ++ (if cnt ≥ 13 ∧ u2 = true then [kokV h] else [])
noncomputable abbrev aeS (j : Nat) (u1 u2 : Bool) (cnt : Int) (L : Nat) : Loc := [("tiles_34", .ref j), ("use_chiitoitsu", .bool u1), ("use_kokushi", .bool u2), ("is_three_player", .bool false), ("count_of_tiles", .int cnt), ("shanten_results", .ref L)]
theorem wIf_b {c : Bool} {p q : Prop} (h : if c = true then p else q) : wIf c p q := wIf_i (fun x => by rwa [if_pos x] at h) (fun x => by rwa [if_neg (by rw [x]; decide)] at h)
set_option maxHeartbeats 1000000 in
theorem c46 {σ : Sto} {j k : Nat} {b u1 u2 : Bool} {h : List Int} {cnt r : Int} {args : List AV} {vs : List AV} {K : KE} (ha : bindA (fnAt 13 4 [.bool true, .bool true, .bool false]) args = some ([("tiles_34", .ref j), ("use_chiitoitsu", .bool u1), ("use_kokushi", .bool u2), ("is_three_player", .bool false)] : Loc))
  (e : σ[j]? = some ⟨b, .list (h.map AV.int)⟩) (hl : h.length = 34) (hs : h.sum = cnt) (hc : cnt ≤ 14) (hm : cnt.fmod 3 ≠ 0) (hr : RegIs k cnt h r) (h0 : σ[0]? = some ⟨false, .fset vs⟩) (hv : vs.Perm endsA)
  (hq : ∀ τ, K (.int (minL (resL cnt r u1 u2 h))) (σ ++ τ)) : lCall (callA XW (k + 4 + 1)) 46 args σ K := by
 refine lCall.mk (call_of (fn := fnAt 13 4 [.bool true, .bool true, .bool false]) (ae := [("tiles_34", .ref j), ("use_chiitoitsu", .bool u1), ("use_kokushi", .bool u2), ("is_three_player", .bool false)]) (by show ((bindA (fnAt 13 4 [.bool true, .bool true, .bool false]) args).map _) = _; rw [ha]; rfl) ?_)
 refine s_cons ?_
 refine wLst_i e (wNums_i ?_)
 rw [sumA_eq, hs]
 refine s_mid (fun a τ => ∃ L τ', a = aeS j u1 u2 cnt L ∧ τ = σ ++ τ' ∧ σ.length ≤ L ∧ (σ ++ τ')[L]? = some ⟨true, .list ([r].map AV.int)⟩) ?_ ?_
 ·refine new_obj e hl ?_
  refine res_calc ?_
  refine calc_on hl hc hm hr fun τ => ?_
  exact ⟨rfl, (σ ++ τ).length, τ ++ [⟨true, .list [.int r]⟩], rfl, by rw [List.append_assoc], by simp, by rw [← List.append_assoc]; simp⟩
 rintro a τ ⟨L, τ1, rfl, rfl, hL, eL⟩
 refine s_mid (fun a τ => ∃ τ', a = aeS j u1 u2 cnt L ∧ τ = σ ++ τ' ∧ (σ ++ τ')[L]? = some ⟨true, .list ((resL cnt r u1 u2 h).map AV.int)⟩) ?_ ?_
 ·refine wIf_decI ?_
  refine if_split (fun q => ?_) (fun q => ?_)
  ·refine s_mid (fun a τ => ∃ τ', a = aeS j u1 u2 cnt L ∧ τ = σ ++ τ' ∧ (σ ++ τ')[L]? = some ⟨true, .list (([r] ++ (if cnt ≥ 13 ∧ u1 = true then [chiV h] else [])).map AV.int)⟩) ?_ ?_
   ·refine wIf_b ?_
    refine if_split (fun q1 => ?_) (fun q1 => ?_)
    ·subst q1
     rw [if_pos ⟨q, rfl⟩]
     refine s_cons ?_
     refine res_list eL ?_
     refine res_con (by rfl) ?_
     refine c54 (n := k + 3) (old_app e) hl fun τ2 => ?_
     have eL := old_app (τ := τ2) eL
     refine wLst_i eL (wG_i (by simp) ?_)
     rw [List.append_assoc] at eL ⊢
     refine ⟨rfl, _, rfl, set_app hL, ?_⟩
     rw [← set_app hL, List.getElem?_set_self (List.getElem?_eq_some_iff.mp eL).1]
     rfl
    ·rw [if_neg (fun c => q1 c.2)]
     exact ⟨rfl, τ1, rfl, rfl, by simpa using eL⟩
   rintro a τ ⟨τ2, rfl, rfl, eL2⟩
   refine s_cons ?_
   unfold resL
   have hlen : ([r] ++ if cnt ≥ 13 ∧ u1 = true then [chiV h] else []).length ≤ 100000 := by split <;> simp
   generalize ([r] ++ if cnt ≥ 13 ∧ u1 = true then [chiV h] else []) = l1 at eL2 hlen ⊢
   refine wIf_b ?_
   refine if_split (fun q1 => ?_) (fun q1 => ?_)
   ·subst q1
    rw [if_pos ⟨q, rfl⟩]
    refine s_cons ?_
    refine res_list eL2 ?_
    refine res_con (by rfl) ?_
    refine c64 (n := k + 3) (old_app e) hl (old_app h0) hv ?_
    refine wLst_i eL2 (wG_i (by rw [List.length_map]; exact hlen) ?_)
    refine ⟨rfl, _, rfl, set_app hL, ?_⟩
    rw [← set_app hL, List.getElem?_set_self (List.getElem?_eq_some_iff.mp eL2).1]
    simp
   ·rw [if_neg (fun c => q1 c.2)]
    exact ⟨rfl, τ2, rfl, rfl, by simpa using eL2⟩
  ·refine ⟨rfl, τ1, rfl, rfl, ?_⟩
   unfold resL
   rw [if_neg (fun c => q c.1), if_neg (fun c => q c.1)]
   simpa using eL
 rintro a τ ⟨τ2, rfl, rfl, eL2⟩
 with_reducible refine s_cons ?_
 refine wLst_i (by assumption) ?_
 refine wInts_i ?_
 refine wG_i (by unfold resL; simp) ?_
 exact hq τ2
noncomputable def jV (h : List Int) : Int := (Builtin.bitOr (Builtin.bitOr (Builtin.bitOr (Builtin.bitOr (Builtin.bitOr (Builtin.bitOr (1 * 2 ^ (gt h 27).toNat) (1 * 2 ^ (gt h 28).toNat)) (1 * 2 ^ (gt h 29).toNat)) (1 * 2 ^ (gt h 30).toNat)) (1 * 2 ^ (gt h 31).toNat)) (1 * 2 ^ (gt h 32).toNat)) (1 * 2 ^ (gt h 33).toNat))
noncomputable def prV (h : List Int) : Int := gt h 0 * gt h 8 * gt h 9 * gt h 17 * gt h 18 * gt h 26 * gt h 27 * gt h 28 * gt h 29 * gt h 30 * gt h 31 * gt h 32 * gt h 33
noncomputable def twoV (h : List Int) : Int := ((List.range 34).map fun i : Nat => b2iA (gt h (i : Int) == 2)).sum
noncomputable def sm (x : Int) : Bool := decide (x.natAbs < 2 ^ 64)
noncomputable def endsL : List Nat := [0, 8, 9, 17, 18, 26, 27, 28, 29, 30, 31, 32, 33]
noncomputable def prodL (h : List Int) : Nat → Int
 | 0 => gt h 0
 | n + 1 => prodL h n * gt h (endsL.getD (n + 1) 0 : Nat)
noncomputable def partsOk (h : List Int) : Bool := (List.range 13).all fun n => sm (prodL h n) && sm (gt h (endsL.getD n 0 : Nat))
theorem parts_use {h : List Int} (H : partsOk h = true) (n : Nat) (hn : n < 13) : small (prodL h n) ∧ small (gt h (endsL.getD n 0 : Nat)) := by
 have := List.all_eq_true.mp H n (List.mem_range.mpr hn)
 rw [Bool.and_eq_true] at this
 exact ⟨show _ < _ from of_decide_eq_true this.1, show _ < _ from of_decide_eq_true this.2⟩
noncomputable def Hon (h : List Int) : Prop := ∀ j : Int, 27 ≤ j → j < 34 → 0 ≤ gt h j ∧ gt h j ≤ 1000
theorem wG_sh1 {y : Int} {p : Prop} (h : 0 ≤ y ∧ y ≤ 1000) (k : p) : wG (0 ≤ y ∧ y ≤ 1000 ∧ small 1) p := wG_i ⟨h.1, h.2, by unfold small; decide⟩ k
noncomputable abbrev aeG (k : Nat) (h : List Int) : Loc := [("tiles_34", .ref k), ("open_sets_34", .none), ("tiles", .ref k), ("j", .int (jV h))]
section
variable {σ : Sto} {k n : Nat} {b : Bool} {h : List Int} {K : KE}
set_option maxHeartbeats 2000000 in
theorem agari_head (e : σ[k]? = some ⟨b, .list (h.map AV.int)⟩) (hl : h.length = 34) (H : Hon h) (hj : ¬ jV h ≥ 16)
  (hq : seqA (execS XW (callA XW n) 40 (dScope 16 0)) ((dBody 16 0).drop 3) (aeG k h) σ fun fl _ σ => match fl with | .next => K .none σ | .ret v => K v σ | _ => False) : lCall (callA XW (n + 1)) 238 [.ref k] σ K := by
 refine lCall.mk (call_of (fn := fnAt 16 0 [.none]) (ae := [("tiles_34", .ref k), ("open_sets_34", .none)]) (by rfl) ?_)
 refine s_join [("tiles_34", .ref k), ("open_sets_34", .none), ("tiles", .ref k)] σ ?_ ?_
 ·refine wIf_f ?_
  with_reducible refine s_cons ?_
  exact ⟨rfl, rfl, rfl⟩
 refine s_join (aeG k h) σ ?_ ?_
 ·refine it_list (by assumption) (by assumption) (by lia) (by lia) ?_
  refine wG_sh1 (H 27 (by decide) (by decide)) ?_
  refine it_list (by assumption) (by assumption) (by lia) (by lia) ?_
  refine wG_sh1 (H 28 (by decide) (by decide)) ?_
  refine it_list (by assumption) (by assumption) (by lia) (by lia) ?_
  refine wG_sh1 (H 29 (by decide) (by decide)) ?_
  refine it_list (by assumption) (by assumption) (by lia) (by lia) ?_
  refine wG_sh1 (H 30 (by decide) (by decide)) ?_
  refine it_list (by assumption) (by assumption) (by lia) (by lia) ?_
  refine wG_sh1 (H 31 (by decide) (by decide)) ?_
  refine it_list (by assumption) (by assumption) (by lia) (by lia) ?_
  refine wG_sh1 (H 32 (by decide) (by decide)) ?_
  refine it_list (by assumption) (by assumption) (by lia) (by lia) ?_
  refine wG_sh1 (H 33 (by decide) (by decide)) ?_
  exact ⟨rfl, rfl, rfl⟩
 refine s_join (aeG k h) σ ?_ ?_
 ·refine wIf_decI ?_
  refine if_split (fun q => absurd q hj) (fun q => ?_)
  exact ⟨rfl, rfl, rfl⟩
 exact hq
set_option maxHeartbeats 2000000 in
theorem c238A (e : σ[k]? = some ⟨b, .list (h.map AV.int)⟩) (hl : h.length = 34) (H : Hon h) (hj : ¬ jV h ≥ 16) (hj3 : Builtin.bitAnd (jV h) 3 = 2) (hp : prV h = 2) (hs : partsOk h = true) (hq : K (.bool true) σ) :
  lCall (callA XW (n + 1)) 238 [.ref k] σ K := by
 refine agari_head e hl H hj ?_
 refine s_cons ?_
 refine wIf_beqI ?_
 refine if_split (fun q => ?_) (fun q => absurd hj3 q)
 refine it_list (by assumption) (by assumption) (by lia) (by lia) ?_
 refine it_list (by assumption) (by assumption) (by lia) (by lia) ?_
 refine wG_i ⟨(parts_use hs 0 (by decide)).1, (parts_use hs 1 (by decide)).2⟩ ?_
 refine it_list (by assumption) (by assumption) (by lia) (by lia) ?_
 refine wG_i ⟨(parts_use hs 1 (by decide)).1, (parts_use hs 2 (by decide)).2⟩ ?_
 refine it_list (by assumption) (by assumption) (by lia) (by lia) ?_
 refine wG_i ⟨(parts_use hs 2 (by decide)).1, (parts_use hs 3 (by decide)).2⟩ ?_
 refine it_list (by assumption) (by assumption) (by lia) (by lia) ?_
 refine wG_i ⟨(parts_use hs 3 (by decide)).1, (parts_use hs 4 (by decide)).2⟩ ?_
 refine it_list (by assumption) (by assumption) (by lia) (by lia) ?_
 refine wG_i ⟨(parts_use hs 4 (by decide)).1, (parts_use hs 5 (by decide)).2⟩ ?_
 refine it_list (by assumption) (by assumption) (by lia) (by lia) ?_
 refine wG_i ⟨(parts_use hs 5 (by decide)).1, (parts_use hs 6 (by decide)).2⟩ ?_
 refine it_list (by assumption) (by assumption) (by lia) (by lia) ?_
 refine wG_i ⟨(parts_use hs 6 (by decide)).1, (parts_use hs 7 (by decide)).2⟩ ?_
 refine it_list (by assumption) (by assumption) (by lia) (by lia) ?_
 refine wG_i ⟨(parts_use hs 7 (by decide)).1, (parts_use hs 8 (by decide)).2⟩ ?_
 refine it_list (by assumption) (by assumption) (by lia) (by lia) ?_
 refine wG_i ⟨(parts_use hs 8 (by decide)).1, (parts_use hs 9 (by decide)).2⟩ ?_
 refine it_list (by assumption) (by assumption) (by lia) (by lia) ?_
 refine wG_i ⟨(parts_use hs 9 (by decide)).1, (parts_use hs 10 (by decide)).2⟩ ?_
 refine it_list (by assumption) (by assumption) (by lia) (by lia) ?_
 refine wG_i ⟨(parts_use hs 10 (by decide)).1, (parts_use hs 11 (by decide)).2⟩ ?_
 refine it_list (by assumption) (by assumption) (by lia) (by lia) ?_
 refine wG_i ⟨(parts_use hs 11 (by decide)).1, (parts_use hs 12 (by decide)).2⟩ ?_
 refine wIf_beqI ?_
 refine if_split (fun q => ?_) (fun q => absurd hp q)
 refine wIf_t ?_
 with_reducible refine s_cons ?_
 exact hq
theorem range34 : rangeFrom 0 1 34 = (List.range 34).map fun i : Nat => AV.int (i : Int) := by rfl
noncomputable def eq2 (h : List Int) : AV → AV
 | .int i => .bool (gt h i == 2)
 | _ => .none
set_option maxHeartbeats 2000000 in
theorem c238B (e : σ[k]? = some ⟨b, .list (h.map AV.int)⟩) (hl : h.length = 34) (H : Hon h) (hj : ¬ jV h ≥ 16) (hj3 : Builtin.bitAnd (jV h) 3 ≠ 2) (hj10 : Builtin.bitAnd (jV h) 10 = 0) (ht : twoV h = 7) (hq : ∀ τ, K (.bool true) (σ ++ τ)) :
  lCall (callA XW (n + 1)) 238 [.ref k] σ K := by
 refine agari_head e hl H hj ?_
 refine s_join (aeG k h) σ ?_ ?_
 ·refine wIf_beqI ?_
  refine if_split (fun q => absurd q hj3) (fun q => ?_)
  refine wIf_f ?_
  with_reducible refine s_nil ?_
  exact ⟨rfl, rfl, rfl⟩
 refine s_cons ?_
 refine wIf_not ?_
 refine wIf_bneI ?_
 refine if_split (fun q => absurd hj10 q) (fun q => ?_)
 refine lIter.mk ?_
 refine wAt_new ?_
 refine wG_i (by first | assumption | decide) ?_
 have hk := (List.getElem?_eq_some_iff.mp e).1
 refine comp_rule (n := 33) (ae0 := [("tiles", .ref k)]) (aeX := fun v => [("tiles", .ref k), ("i", v)]) (t := fun _ => true) (g := eq2 h) (vs := (List.range 34).map fun i : Nat => AV.int (i : Int)) (show ItIs (σ ++ [⟨true, .range 0 34 1⟩]) (.rng 0 34 1) _ from range34.symm) (by simp; decide) (by rfl) (fun v => rfl) (fun u v => rfl) (by simp) ?_ ?_ ?_
 ·intro v hv acc γ K hK
  exact hK
 ·intro v hv _ acc γ K hK
  obtain ⟨i, hi, rfl⟩ := List.mem_map.mp hv
  have hi := List.mem_range.mp hi
  have e' : (σ ++ [⟨true, .range 0 34 1⟩] ++ (⟨true, .list acc⟩ :: γ) : Sto)[k]? = some ⟨b, .list (h.map AV.int)⟩ := old_app (old_app e)
  refine it_list (by assumption) (by assumption) (by lia) (by lia) ?_
  exact hK γ
 ·intro ae γ
  have hf : (((List.range 34).map fun i : Nat => AV.int (i : Int)).filter fun _ => true).map (eq2 h) = ((List.range 34).map fun i : Nat => gt h (i : Int) == 2).map AV.bool := by
   rw [List.filter_eq_self.mpr (fun _ _ => rfl)]
   simp only [List.map_map]
   rfl
  rw [hf]
  refine wLst_mid ?_
  refine wNumsB_i ?_
  rw [sumA_eq, List.map_map, show ((List.range 34).map (b2iA ∘ fun i : Nat => gt h (i : Int) == 2)).sum = twoV h from rfl, ht]
  refine wIf_t ?_
  refine wIf_t ?_
  with_reducible refine s_cons ?_
  have hq := hq ([⟨true, .range 0 34 1⟩] ++ (⟨true, .list (((List.range 34).map fun i : Nat => gt h (i : Int) == 2).map AV.bool)⟩ :: γ))
  rw [← List.append_assoc] at hq
  exact hq
end
theorem c285 {σ : Sto} {n : Nat} {K : KE} (hq : K (.ref σ.length) (σ ++ [⟨true, .list (endsI.map AV.int)⟩])) : lCall (callA XW (n + 1)) 285 [] σ K :=
 lCall.mk (call_of (fn := fnAt 18 1000 []) (ae := []) (by rfl) (s_cons hq))
/-- four places with a step of five hold not four each -/
theorem gt_set_sum {l : List Int} (hl : l.length = 34) (hn : ∀ j : Int, 0 ≤ j → j < 34 → 0 ≤ gt l j) : ∀ (js : List Int), js.Nodup → (∀ j ∈ js, 0 ≤ j ∧ j < 34) → (js.map (gt l)).sum ≤ l.sum := by
 intro js
 induction js generalizing l with
 | nil =>
  intro _ _
  simp only [List.map_nil, List.sum_nil]
  refine sum_nonneg fun x hx => ?_
  obtain ⟨i, hi, e⟩ := List.getElem_of_mem hx
  have := hn i (by lia) (by lia)
  unfold gt at this
  rw [List.getD_eq_getElem?_getD, Int.toNat_natCast, List.getElem?_eq_getElem hi] at this
  simpa [e] using this
 | cons j js ih =>
  intro hd hj
  obtain ⟨j0, j1⟩ := hj j (List.mem_cons_self ..)
  rw [List.nodup_cons] at hd
  have hl' : (stl l j 0).length = 34 := len_stl hl
  have h1 := ih (l := stl l j 0) hl' (fun i a b => by rw [gt_stl j0 (by lia) a]; split; exact Int.le_refl _; exact hn i a b) hd.2 fun i hi => hj i (List.mem_cons_of_mem _ hi)
  have e1 : (js.map (gt (stl l j 0))) = js.map (gt l) := List.map_congr_left fun i hi => by
   obtain ⟨i0, i1⟩ := hj i (List.mem_cons_of_mem _ hi)
   rw [gt_stl j0 (by lia) i0, if_neg (show ¬ i = j from fun e => hd.1 (by rw [← e]; exact hi))]
  have e2 : (stl l j 0).sum = l.sum - gt l j + 0 := by unfold stl gt; exact sum_set (by lia)
  rw [List.map_cons, List.sum_cons]
  rw [e1, e2] at h1
  lia
noncomputable def nx (k : Int) : Int := (k + 5).fmod 34
theorem fm (k : Int) : 0 ≤ k.fmod 34 ∧ k.fmod 34 < 34 := ⟨Int.fmod_nonneg_of_pos _ (by decide), Int.fmod_lt_of_pos _ (by decide)⟩
theorem nx_eq {k : Int} (h0 : 0 ≤ k) (h1 : k < 34) : nx k = if k + 5 < 34 then k + 5 else k + 5 - 34 := by
 unfold nx
 rw [Int.fmod_eq_emod_of_nonneg _ (by decide)]
 split <;> lia
/-- a kind with room is near -/
theorem room {l : List Int} (hl : l.length = 34) (hn : ∀ j : Int, 0 ≤ j → j < 34 → 0 ≤ gt l j) (hs : l.sum ≤ 12) {k : Int} (h0 : 0 ≤ k) (h1 : k < 34) : gt l k ≠ 4 ∨ gt l (nx k) ≠ 4 ∨ gt l (nx (nx k)) ≠ 4 ∨ gt l (nx (nx (nx k))) ≠ 4 := by
 have e1 := nx_eq h0 h1
 have b1 := fm (k + 5)
 have e2 := nx_eq (k := nx k) b1.1 b1.2
 have b2 := fm (nx k + 5)
 have e3 := nx_eq (k := nx (nx k)) b2.1 b2.2
 have b3 := fm (nx (nx k) + 5)
 have hb1 : 0 ≤ nx k ∧ nx k < 34 := b1
 have hb2 : 0 ≤ nx (nx k) ∧ nx (nx k) < 34 := b2
 have hb3 : 0 ≤ nx (nx (nx k)) ∧ nx (nx (nx k)) < 34 := b3
 have := gt_set_sum hl hn [k, nx k, nx (nx k), nx (nx (nx k))] (by
  simp only [List.nodup_cons, List.mem_cons, List.not_mem_nil, or_false, not_or, not_false_eq_true, List.nodup_nil, and_true]
  generalize nx (nx (nx k)) = c at *
  generalize nx (nx k) = b at *
  generalize nx k = a at *
  split at e1 <;> split at e2 <;> split at e3 <;> lia) (by
  intro j hj
  simp at hj
  rcases hj with rfl | rfl | rfl | rfl
  ·exact ⟨h0, h1⟩
  ·exact hb1
  ·exact hb2
  ·exact hb3)
 simp at this
 lia
/-- the store of the deal -/
structure DS (σ0 σ : Sto) (tp op tl : Nat) (T O D : List Int) : Prop where
 ext : ∃ τ, σ = σ0 ++ τ
 t : σ[tp]? = some ⟨true, .list (T.map AV.int)⟩
 o : σ[op]? = some ⟨true, .list (O.map AV.int)⟩
 d : ∃ b, σ[tl]? = some ⟨b, .list (D.map AV.int)⟩
 t0 : σ0.length ≤ tp
 o0 : σ0.length ≤ op
 ne1 : tp ≠ op
 ne2 : tl ≠ tp
 ne3 : tl ≠ op
section
variable {σ0 σ : Sto} {tp op tl : Nat} {T O D T' O' : List Int}
theorem DS.app (h : DS σ0 σ tp op tl T O D) (τ : Sto) : DS σ0 (σ ++ τ) tp op tl T O D := by
 obtain ⟨⟨τ0, e⟩, a, b, ⟨b', c⟩, r1, r2, r3, r4, r5⟩ := h
 exact ⟨⟨τ0 ++ τ, by rw [e, List.append_assoc]⟩, old_app a, old_app b, ⟨b', old_app c⟩, r1, r2, r3, r4, r5⟩
theorem DS.setT (h : DS σ0 σ tp op tl T O D) : DS σ0 (σ.set tp ⟨true, .list (T'.map AV.int)⟩) tp op tl T' O D := by
 obtain ⟨⟨τ0, e⟩, a, b, ⟨b', c⟩, r1, r2, r3, r4, r5⟩ := h
 refine ⟨⟨_, by rw [e]; exact set_app r1⟩, ?_, ?_, ⟨b', ?_⟩, r1, r2, r3, r4, r5⟩
 ·rw [List.getElem?_set_self (List.getElem?_eq_some_iff.mp a).1]
 ·rw [List.getElem?_set_ne r3]; exact b
 ·rw [List.getElem?_set_ne (Ne.symm r4)]; exact c
theorem DS.setO (h : DS σ0 σ tp op tl T O D) : DS σ0 (σ.set op ⟨true, .list (O'.map AV.int)⟩) tp op tl T O' D := by
 obtain ⟨⟨τ0, e⟩, a, b, ⟨b', c⟩, r1, r2, r3, r4, r5⟩ := h
 refine ⟨⟨_, by rw [e]; exact set_app r2⟩, ?_, ?_, ⟨b', ?_⟩, r1, r2, r3, r4, r5⟩
 ·rw [List.getElem?_set_ne (Ne.symm r3)]; exact a
 ·rw [List.getElem?_set_self (List.getElem?_eq_some_iff.mp b).1]
 ·rw [List.getElem?_set_ne (Ne.symm r5)]; exact c
end
noncomputable def stD (j : Nat) : Stmt := (dBody 19 1000).getD j (.Pass pos0)
noncomputable def whTest (s : Stmt) : Expr := (partsS s).1
/-- hands of counts -/
structure Hd (T : List Int) : Prop where
 len : T.length = 34
 nn : ∀ j : Int, 0 ≤ j → j < 34 → 0 ≤ gt T j
noncomputable abbrev aeW (sc tl : Nat) (wy : Int) (tp op : Nat) (tu : Int) (x : Loc) : Loc := ("script", .ref sc) :: ("told", .ref tl) :: ("way", .int wy) :: ("tiles", .ref tp) :: ("order", .ref op) :: ("turn", .int tu) :: x
noncomputable abbrev aeNK (nu ki : Int) (y : Loc) : Loc := ("number", .int nu) :: ("kind", .int ki) :: y
noncomputable def inWhile : Stmt := (forBody ((forBody (stD 6)).getD 3 (.Pass pos0))).getD 0 (.Pass pos0)
section
variable {σ0 σ : Sto} {sc tp op tl n : Nat} {T O D : List Int} {wy tu nu ki : Int} {y : Loc} {call : Addr → List AV → Sto → XE} {K : KS}
theorem room_step {N : Nat} (h : DS σ0 σ tp op tl T O D) (H : Hd T) (h0 : 0 ≤ ki) (h1 : ki < 34) (hq : gt T ki ≠ 4 → K .next (aeW sc tl wy tp op tu (aeNK nu ki y)) σ)
  (hk : gt T ki = 4 → whileA (testE XW call 37 (dScope 19 1000) (whTest inWhile)) (seqA (execS XW call 37 (dScope 19 1000)) (forBody inWhile)) N (aeW sc tl wy tp op tu (aeNK nu (nx ki) y)) σ K) :
  whileA (testE XW call 37 (dScope 19 1000) (whTest inWhile)) (seqA (execS XW call 37 (dScope 19 1000)) (forBody inWhile)) (N + 1) (aeW sc tl wy tp op tu (aeNK nu ki y)) σ K := by
 have hl := H.len
 have et := h.t
 refine while_of ?_
 refine it_list (by assumption) (by assumption) (by lia) (by lia) ?_
 refine wIf_beqI ?_
 refine if_split (fun q => ?_) (fun q => hq q)
 refine ⟨fun fl a τ => fl = .next ∧ a = aeW sc tl wy tp op tu (aeNK nu (nx ki) y) ∧ τ = σ, ?_, fun fl a τ ⟨e1, e2, e3⟩ => by subst e1 e2 e3; exact hk q⟩
 refine s_cons ?_
 refine wG_i (by first | assumption | decide) ?_
 exact ⟨rfl, rfl, rfl⟩
theorem room_loop (h : DS σ0 σ tp op tl T O D) (H : Hd T) (hs : T.sum ≤ 12) (h0 : 0 ≤ ki) (h1 : ki < 34) (hq : ∀ k', 0 ≤ k' → k' < 34 → gt T k' ≠ 4 → K .next (aeW sc tl wy tp op tu (aeNK nu k' y)) σ) :
  whileA (testE XW call 37 (dScope 19 1000) (whTest inWhile)) (seqA (execS XW call 37 (dScope 19 1000)) (forBody inWhile)) 1000 (aeW sc tl wy tp op tu (aeNK nu ki y)) σ K := by
 have hr := room H.len H.nn hs h0 h1
 have b1 : 0 ≤ nx ki ∧ nx ki < 34 := fm (ki + 5)
 have b2 : 0 ≤ nx (nx ki) ∧ nx (nx ki) < 34 := fm (nx ki + 5)
 have b3 : 0 ≤ nx (nx (nx ki)) ∧ nx (nx (nx ki)) < 34 := fm (nx (nx ki) + 5)
 refine room_step (N := 999) h H h0 h1 (hq _ h0 h1) fun c0 => ?_
 refine room_step (N := 998) h H b1.1 b1.2 (hq _ b1.1 b1.2) fun c1 => ?_
 refine room_step (N := 997) h H b2.1 b2.2 (hq _ b2.1 b2.2) fun c2 => ?_
 refine room_step (N := 996) h H b3.1 b3.2 (hq _ b3.1 b3.2) fun c3 => ?_
 rcases hr with q | q | q | q
 ·exact absurd c0 q
 ·exact absurd c1 q
 ·exact absurd c2 q
 ·exact absurd c3 q
structure Deal (T O : List Int) : Prop where
 hd : Hd T
 le : ∀ j : Int, 0 ≤ j → j < 34 → gt T j ≤ 4
 sum : T.sum = O.length
 rng : ∀ x ∈ O, 0 ≤ x ∧ x < 34
theorem Deal.add (h : Deal T O) {k : Int} (h0 : 0 ≤ k) (h1 : k < 34) (h4 : gt T k ≠ 4) : Deal (stl T k (gt T k + 1)) (O ++ [k]) := by
 have L := h.hd.len
 refine ⟨⟨len_stl L, fun j a b => ?_⟩, fun j a b => ?_, ?_, fun x hx => ?_⟩
 ·rw [gt_stl h0 (by lia) a]
  have := h.hd.nn j a b
  split
  ·rename_i c; subst c; lia
  ·exact this
 ·rw [gt_stl h0 (by lia) a]
  have := h.le j a b
  split
  ·rename_i c; subst c; lia
  ·exact this
 ·have := h.sum
  unfold stl
  rw [sum_set (by lia)]
  show T.sum - gt T k + (gt T k + 1) = _
  simp
  lia
 ·rcases List.mem_append.mp hx with hx | hx
  ·exact h.rng x hx
  ·simp at hx; subst hx; exact ⟨h0, h1⟩
noncomputable def stF : Stmt := (forBody (stD 6)).getD 3 (.Pass pos0)
set_option maxHeartbeats 1000000 in
theorem deal_one (h : DS σ0 σ tp op tl T O D) (H : Deal T O) (hO : O.length ≤ 12) (h0 : 0 ≤ ki) (h1 : ki < 34)
  (hq : ∀ k' σ', 0 ≤ k' → k' < 34 → gt T k' ≠ 4 → DS σ0 σ' tp op tl (stl T k' (gt T k' + 1)) (O ++ [k']) D → K .next (aeW sc tl wy tp op tu (aeNK nu k' y)) σ') :
  seqA (execS XW call 38 (dScope 19 1000)) (forBody stF) (aeW sc tl wy tp op tu (aeNK nu ki y)) σ K := by
 have hl := H.hd.len
 have et := h.t
 refine s_cons ?_
 refine lockW.mk ?_
 refine room_loop h H.hd (by rw [H.sum]; lia) h0 h1 fun k' k0 k1 k4 => ?_
 refine s_cons ?_
 refine it_list (by assumption) (by assumption) (by lia) (by lia) ?_
 refine pa_list et k0 (by lia) (by lia) ?_
 have h2 := h.setT (T' := stl T k' (gt T k' + 1))
 with_reducible refine s_cons ?_
 refine res_list h2.o ?_
 refine wLst_i h2.o (wG_i (by rw [List.length_map]; lia) ?_)
 have h3 := h2.setO (O' := O ++ [k'])
 rw [List.map_append] at h3
 exact hq k' _ k0 k1 k4 h3
end
theorem gt_ends {j : Int} (h0 : 0 ≤ j) (h1 : j < 13) : 0 ≤ gt endsI j ∧ gt endsI j < 34 := by
 have : ∀ i : Fin 13, 0 ≤ gt endsI (i.1 : Int) ∧ gt endsI (i.1 : Int) < 34 := by decide
 have := this ⟨j.toNat, by lia⟩
 rwa [show ((⟨j.toNat, by lia⟩ : Fin 13).1 : Int) = j from by show (j.toNat : Int) = j; lia] at this
theorem for_rng {asg : AV → Loc → Sto → (Loc → Sto → Prop) → Prop} {body : Loc → Sto → XS} {K : KS} (Inv : List AV → Loc → Sto → Prop)
  (step : ∀ v vs ae σ, Inv (v :: vs) ae σ → asg v ae σ fun ae σ => body ae σ fun fl ae σ => fl = .next ∧ Inv vs ae σ) (fin : ∀ ae σ, Inv [] ae σ → K .next ae σ) :
  ∀ (c N : Nat) (x st : Int) (ae : Loc) (σ : Sto), c < N → Inv (rangeFrom x st c) ae σ → forA asg body N (.rng x c st) ae σ K := by
 intro c
 induction c with
 | zero =>
  intro N x st ae σ hN I
  obtain ⟨N, rfl⟩ : ∃ M, N = M + 1 := ⟨N - 1, by lia⟩
  exact f_end (fun _ _ q => q) (fin _ _ I)
 | succ c ih =>
  intro N x st ae σ hN I
  obtain ⟨N, rfl⟩ : ∃ M, N = M + 1 := ⟨N - 1, by lia⟩
  exact f_turn (v := .int x) (it' := .rng (x + st) c st) (fun _ _ q => q) (fun ae σ => Inv (rangeFrom (x + st) st c) ae σ) (step (.int x) _ ae σ I) fun ae σ I2 => ih N (x + st) st ae σ (by lia) I2
theorem rangeFrom_len : ∀ (c : Nat) (x st : Int), (rangeFrom x st c).length = c
 | 0, _, _ => rfl
 | c + 1, x, st => by show (rangeFrom (x + st) st c).length + 1 = _; rw [rangeFrom_len c]
theorem inc_new {σ : Sto} {c : Cl} : (σ ++ [c])[σ.length]? = some c := by rw [List.getElem?_append_right (Nat.le_refl _), Nat.sub_self]; rfl
section
variable {σ0 σ : Sto} {sc tp op tl n : Nat} {T O D : List Int} {wy tu nu ki : Int} {y : Loc} {call : Addr → List AV → Sto → XE} {K : KS}
theorem deal_for (h : DS σ0 σ tp op tl T O D) (H : Deal T O) (h0 : 0 ≤ ki) (h1 : ki < 34) (hy : y = [] ∨ ∃ a, y = ([("again", a)] : Loc)) {c : Nat} (hc : O.length + c ≤ 13)
  (hq : ∀ T' O' k' y' σ', DS σ0 σ' tp op tl T' O' D → Deal T' O' → 0 ≤ k' → k' < 34 → (y' = [] ∨ ∃ a, y' = ([("again", a)] : Loc)) → O'.length = O.length + c → (1 ≤ c → ∃ a, y' = ([("again", a)] : Loc)) → K .next (aeW sc tl wy tp op tu (aeNK nu k' y')) σ') :
  forA (asgA XW call 38 (dScope 19 1000) (forTgt stF)) (seqA (execS XW call 38 (dScope 19 1000)) (forBody stF)) 1000 (.rng 0 c 1) (aeW sc tl wy tp op tu (aeNK nu ki y)) σ K := by
 refine for_rng (fun rest ae τ => ∃ T' O' k' y', ae = aeW sc tl wy tp op tu (aeNK nu k' y') ∧ DS σ0 τ tp op tl T' O' D ∧ Deal T' O' ∧ 0 ≤ k' ∧ k' < 34 ∧ (y' = [] ∨ ∃ a, y' = ([("again", a)] : Loc)) ∧ O'.length + rest.length = O.length + c ∧ (rest.length < c → ∃ a, y' = ([("again", a)] : Loc)))
  (fun v rest ae τ I => ?_) (fun ae τ I => ?_) c 1000 0 1 _ _ (by lia) ?_
 ·obtain ⟨T', O', k', y', rfl, D', H', k0, k1, hy', hl, _⟩ := I
  refine a_name (ae' := aeW sc tl wy tp op tu (aeNK nu k' [("again", v)])) (by rcases hy' with rfl | ⟨a, rfl⟩ <;> rfl) ?_
  simp only [List.length_cons] at hl
  refine deal_one D' H' (by lia) k0 k1 fun k2 σ2 k20 k21 k24 D2 => ?_
  refine ⟨rfl, _, _, k2, _, rfl, D2, H'.add k20 k21 k24, k20, k21, .inr ⟨_, rfl⟩, by simp; lia, fun _ => ⟨_, rfl⟩⟩
 ·obtain ⟨T', O', k', y', rfl, D', H', k0, k1, hy', hl, hy2⟩ := I
  simp only [List.length_nil, Nat.add_zero] at hl hy2
  exact hq T' O' k' y' τ D' H' k0 k1 hy' hl hy2
 ·exact ⟨T, O, ki, y, rfl, h, H, h0, h1, hy, by rw [rangeFrom_len], fun q => by rw [rangeFrom_len] at q; lia⟩
set_option maxHeartbeats 2000000 in
theorem deal_rest (h : DS σ0 σ tp op tl T O D) (H : Deal T O) (hO : O.length ≤ 12) (ht : 0 ≤ tu) (hw0 : 0 ≤ wy) (hw1 : wy < 4) (k0 : 0 ≤ ki) (k1 : ki < 34) (hy : y = [] ∨ ∃ a, y = ([("again", a)] : Loc))
  (hq : ∀ T' O' σ' b c, DS σ0 σ' tp op tl T' O' D → Deal T' O' → O.length < O'.length → O'.length ≤ 13 → K .next (aeW sc tl wy tp op (tu + 1) (("number", .int nu) :: ("kind", .int b) :: ("again", c) :: [])) σ') :
  seqA (execS XW (callA XW (n + 1)) 39 (dScope 19 1000)) ((forBody (stD 6)).drop 2) (aeW sc tl wy tp op tu (aeNK nu ki y)) σ K := by
 refine s_mid (fun a τ => ∃ k', a = aeW sc tl wy tp op tu (aeNK nu k' y) ∧ 0 ≤ k' ∧ k' < 34 ∧ DS σ0 τ tp op tl T O D) ?_ ?_
 ·have g0 : 0 ≤ nu.fmod 13 := Int.fmod_nonneg_of_pos _ (by decide)
  have g1 : nu.fmod 13 < 13 := Int.fmod_lt_of_pos _ (by decide)
  refine wIf_decI ?_
  refine if_split (fun q => ?_) (fun q => ?_)
  ·refine wG_i (by first | assumption | decide) ?_
   refine wIf_decI ?_
   refine if_split (fun q2 => ?_) (fun q2 => ?_)
   ·refine wIf_t ?_
    with_reducible refine s_cons ?_
    refine c285 ?_
    refine wG_i (by first | assumption | decide) ?_
    refine it_any inc_new (by decide) g0 (by show nu.fmod 13 < 13; exact g1) ?_
    obtain ⟨u0, u1⟩ := gt_ends g0 g1
    exact ⟨rfl, _, rfl, u0, u1, h.app _⟩
   ·refine wIf_f ?_
    with_reducible refine s_nil ?_
    exact ⟨rfl, ki, rfl, k0, k1, h⟩
  ·refine wIf_f ?_
   with_reducible refine s_nil ?_
   exact ⟨rfl, ki, rfl, k0, k1, h⟩
 rintro ae τ ⟨k', rfl, k0', k1', h'⟩
 have eo := h'.o
 refine s_cons ?_
 refine wG_i (by first | assumption | decide) ?_
 refine wLst_i (by assumption) ?_
 refine wG_i (by rw [List.length_map]; lia) ?_
 have hw : 0 ≤ wy.fmod 2 := Int.fmod_nonneg_of_pos _ (by decide)
 have hw' : wy.fmod 2 < 2 := Int.fmod_lt_of_pos _ (by decide)
 have hc : ∃ m : Nat, (if 13 - (O.length : Int) < wy.fmod 2 + 1 then 13 - (O.length : Int) else wy.fmod 2 + 1) = (m : Int) ∧ (m = 1 ∨ m = 2) ∧ O.length + m ≤ 13 := by
  split
  ·exact ⟨13 - O.length, by lia, by lia, by lia⟩
  ·exact ⟨(wy.fmod 2 + 1).toNat, by lia, by lia, by lia⟩
 obtain ⟨m, em, hm, hm13⟩ := hc
 refine lIter.mk ?_
 refine wAt_new ?_
 rw [List.length_map, em]
 have hsm : Builtin.Range.small 0 (m : Int) 1 = true := by rcases hm with rfl | rfl <;> decide
 have hrn : rangeN 0 (m : Int) 1 = m := by rcases hm with rfl | rfl <;> decide
 refine wG_i hsm ?_
 rw [hrn]
 refine lockF.mk ?_
 refine deal_for (h'.app _) H k0' k1' hy hm13 fun T' O' k2 y2 σ2 D2 H2 k20 k21 hy2 hl2 hy3 => ?_
 obtain ⟨a, rfl⟩ := hy3 (by lia)
 with_reducible refine s_cons ?_
 exact hq T' O' σ2 k2 a D2 H2 (by lia) (by lia)
end
section
variable {σ0 σ : Sto} {sc tp op tl n : Nat} {T O D : List Int} {wy tu nu ki : Int} {y : Loc} {K : KS}
set_option maxHeartbeats 2000000 in
theorem deal_turn (h : DS σ0 σ tp op tl T O D) (H : Deal T O) (hO : O.length ≤ 12) (hD0 : 0 < D.length) (hD1 : D.length ≤ 100) (ht : 0 ≤ tu) (ht1 : tu ≤ O.length) (hw0 : 0 ≤ wy) (hw1 : wy < 4) {x : Loc} (hx : x = [] ∨ ∃ a b c, x = (("number", .int a) :: ("kind", .int b) :: ("again", c) :: [] : Loc))
  (hq : ∀ T' O' σ' a b c, DS σ0 σ' tp op tl T' O' D → Deal T' O' → O.length < O'.length → O'.length ≤ 13 → K .next (aeW sc tl wy tp op (tu + 1) (("number", .int a) :: ("kind", .int b) :: ("again", c) :: [])) σ') :
  seqA (execS XW (callA XW (n + 1)) 39 (dScope 19 1000)) (forBody (stD 6)) (aeW sc tl wy tp op tu x) σ K := by
 obtain ⟨bd, ed⟩ := h.d
 have f0 : 0 ≤ tu.fmod (D.length : Int) := Int.fmod_nonneg_of_pos _ (by lia)
 have f1 : tu.fmod (D.length : Int) < D.length := Int.fmod_lt_of_pos _ (by lia)
 have f2 : 0 ≤ tu.fdiv (D.length : Int) := by rw [Int.fdiv_eq_ediv_of_nonneg _ (by lia)]; exact Int.ediv_nonneg ht (by lia)
 have f3 : tu.fdiv (D.length : Int) ≤ tu := by rw [Int.fdiv_eq_ediv_of_nonneg _ (by lia)]; exact Int.ediv_le_self _ ht
 refine s_join (aeW sc tl wy tp op tu (("number", .int (gt D (tu.fmod (D.length : Int)) + 9 * tu.fdiv (D.length : Int))) :: x.tail)) σ ?_ ?_
 ·refine wLst_i ed ?_
  show wG ((D.map AV.int).length ≤ 100000) _
  rw [List.length_map]
  refine wG_i (by lia) (wG_i (by lia) ?_)
  refine it_any ed (by lia) f0 f1 ?_
  refine wLst_i ed ?_
  show wG ((D.map AV.int).length ≤ 100000) _
  rw [List.length_map]
  refine wG_i (by lia) (wG_i (by lia) ?_)
  refine wG_sm (by lia) ?_
  refine ⟨rfl, ?_, rfl⟩
  rcases hx with rfl | ⟨a, b, c, rfl⟩ <;> rfl
 generalize gt D (tu.fmod (D.length : Int)) + 9 * tu.fdiv (D.length : Int) = nu
 have hy : x.tail.tail = [] ∨ ∃ a, x.tail.tail = ([("again", a)] : Loc) := by rcases hx with rfl | ⟨a, b, c, rfl⟩; exact .inl rfl; exact .inr ⟨_, rfl⟩
 refine s_join (aeW sc tl wy tp op tu (aeNK nu (nu.fmod 34) x.tail.tail)) σ ?_ ?_
 ·refine wG_i (by first | assumption | decide) ?_
  refine ⟨rfl, ?_, rfl⟩
  rcases hx with rfl | ⟨a, b, c, rfl⟩ <;> rfl
 exact deal_rest h H hO ht hw0 hw1 (fm nu).1 (fm nu).2 hy fun T' O' σ' b c d1 d2 d3 d4 => hq T' O' σ' nu b c d1 d2 d3 d4
theorem deal_loop (hD0 : 0 < D.length) (hD1 : D.length ≤ 100) (hw0 : 0 ≤ wy) (hw1 : wy < 4)
  (hq : ∀ T' O' σ' tu x, DS σ0 σ' tp op tl T' O' D → Deal T' O' → O'.length = 13 → K .next (aeW sc tl wy tp op tu x) σ') :
  ∀ (m N : Nat) (T O : List Int) (σ : Sto) (tu : Int) (x : Loc), DS σ0 σ tp op tl T O D → Deal T O → O.length ≤ 13 → 13 - O.length ≤ m → m < N → 0 ≤ tu → tu ≤ O.length → (x = [] ∨ ∃ a b c, x = (("number", .int a) :: ("kind", .int b) :: ("again", c) :: [] : Loc)) →
   whileA (testE XW (callA XW (n + 1)) 39 (dScope 19 1000) (whTest (stD 6))) (seqA (execS XW (callA XW (n + 1)) 39 (dScope 19 1000)) (forBody (stD 6))) N (aeW sc tl wy tp op tu x) σ K := by
 intro m
 induction m with
 | zero =>
  intro N T O σ tu x h H h13 hm hN ht ht1 hx
  obtain ⟨N, rfl⟩ : ∃ M, N = M + 1 := ⟨N - 1, by lia⟩
  have eo := h.o
  refine while_of ?_
  refine wLst_i eo ?_
  show wG ((O.map AV.int).length ≤ 100000) _
  rw [List.length_map]
  refine wG_i (by lia) (wIf_decI ?_)
  refine if_split (fun q => absurd q (by lia)) (fun q => ?_)
  exact hq T O σ tu x h H (by lia)
 | succ m ih =>
  intro N T O σ tu x h H h13 hm hN ht ht1 hx
  obtain ⟨N, rfl⟩ : ∃ M, N = M + 1 := ⟨N - 1, by lia⟩
  have eo := h.o
  refine while_of ?_
  refine wLst_i eo ?_
  show wG ((O.map AV.int).length ≤ 100000) _
  rw [List.length_map]
  refine wG_i (by lia) (wIf_decI ?_)
  refine if_split (fun q => ?_) (fun q => hq T O σ tu x h H (by lia))
  refine ⟨fun fl a τ => fl = .next ∧ ∃ T' O' tu' y, a = aeW sc tl wy tp op tu' y ∧ DS σ0 τ tp op tl T' O' D ∧ Deal T' O' ∧ O.length < O'.length ∧ O'.length ≤ 13 ∧ tu' = tu + 1 ∧ (y = [] ∨ ∃ a b c, y = (("number", .int a) :: ("kind", .int b) :: ("again", c) :: [] : Loc)), ?_, ?_⟩
  ·exact deal_turn h H (by lia) hD0 hD1 ht ht1 hw0 hw1 hx fun T' O' σ' a b c d1 d2 d3 d4 => ⟨rfl, T', O', _, _, rfl, d1, d2, d3, d4, rfl, .inr ⟨a, b, c, rfl⟩⟩
  ·rintro fl a τ ⟨rfl, T', O', tu', y, rfl, d1, d2, d3, d4, rfl, hy⟩
   exact ih N T' O' τ (tu + 1) y d1 d2 d4 (by lia) (by lia) (by lia) (by lia) hy
end
theorem slice_list {σ : Sto} {k : Nat} {b : Bool} {l : List Int} {lo hi : AV} {a c : Nat} {K : KE} (e : σ[k]? = some ⟨b, .list (l.map AV.int)⟩) (hl : l.length ≤ 100000) (h1 : boundA l.length lo 0 = some a) (h2 : boundA l.length hi l.length = some c)
  (h : K (.ref σ.length) (σ ++ [⟨true, .list (((l.drop a).take (c - a)).map AV.int)⟩])) : lSlice (.ref k) lo hi σ K := lSlice.mk <| by
 refine wLst_i e (wG_i (by simpa using hl) ?_)
 rw [List.length_map, h1, h2]
 rw [List.map_take, List.map_drop] at h
 exact h
noncomputable abbrev ae2 (sc tl : Nat) : Loc := [("script", .ref sc), ("told", .ref tl)]
noncomputable def z34 : List Int := List.replicate 34 0
set_option maxHeartbeats 2000000 in
theorem c292 {σ : Sto} {sc n : Nat} {b : Bool} {S : List Int} {K : KE} (e : σ[sc]? = some ⟨b, .list (S.map AV.int)⟩) (hl : S.length ≤ 63)
  (hq : ∀ (τ : Sto) (p tp op : Nat) (T O : List Int), (σ ++ τ)[p]? = some ⟨true, .tuple [.ref tp, .ref op]⟩ → (σ ++ τ)[tp]? = some ⟨true, .list (T.map AV.int)⟩ → (σ ++ τ)[op]? = some ⟨true, .list (O.map AV.int)⟩ → Deal T O → O.length = 13 → tp ≠ op → K (.ref p) (σ ++ τ)) :
  lCall (callA XW (n + 1 + 1)) 292 [.ref sc] σ K := by
 refine lCall.mk (call_of (fn := fnAt 19 1000 []) (ae := [("script", .ref sc)]) (by rfl) ?_)
 refine s_mid (fun a τ => ∃ (τ0 : Sto) (tl : Nat) (D : List Int), a = ae2 sc tl ∧ τ = σ ++ τ0 ∧ (∃ b, (σ ++ τ0)[tl]? = some ⟨b, .list (D.map AV.int)⟩) ∧ D.length ≤ 100) ?_ ?_
 ·refine slice_list e (by lia) rfl rfl ?_
  refine ⟨rfl, _, σ.length, _, rfl, rfl, ⟨true, inc_new⟩, ?_⟩
  rw [List.length_take, List.length_drop]; lia
 rintro a τ ⟨τ0, tl, D, rfl, rfl, ⟨bd, ed⟩, hD⟩
 refine s_mid (fun a τ => ∃ (τ0 : Sto) (tl : Nat) (D : List Int), a = ae2 sc tl ∧ τ = σ ++ τ0 ∧ (∃ b, (σ ++ τ0)[tl]? = some ⟨b, .list (D.map AV.int)⟩) ∧ D.length ≤ 100 ∧ 0 < D.length) ?_ ?_
 ·refine wLst_i (old_app ed) ?_
  refine wLst_new ?_
  refine wInts_i ?_
  refine wInts_i (l := []) ?_
  refine wIf_b ?_
  refine if_split (fun q => ?_) (fun q => ?_)
  ·refine s_cons ?_
   refine ⟨rfl, τ0 ++ [⟨true, .list []⟩] ++ [⟨true, .list (([4, 19, 8, 27] : List Int).map AV.int)⟩], (σ ++ τ0 ++ [⟨true, .list []⟩] : Sto).length, [4, 19, 8, 27], rfl, by simp, ⟨true, ?_⟩, by decide, by decide⟩
   rw [← List.append_assoc, ← List.append_assoc]
   exact inc_new
  ·refine ⟨rfl, τ0 ++ [⟨true, .list []⟩], tl, D, rfl, by rw [List.append_assoc], ⟨bd, by rw [← List.append_assoc]; exact old_app ed⟩, hD, ?_⟩
   cases D with
   | nil => exact absurd rfl q
   | cons a D => simp
 rintro a τ ⟨τ1, tl, D, rfl, rfl, ⟨bd, ed⟩, hD, hD0⟩
 refine s_mid (fun a τ => ∃ (τ0 : Sto) (wy : Int), a = (("script", .ref sc) :: ("told", .ref tl) :: ("way", .int wy) :: [] : Loc) ∧ τ = σ ++ τ1 ++ τ0 ∧ 0 ≤ wy ∧ wy < 4) ?_ ?_
 ·have es : (σ ++ τ1 ++ [⟨true, .list (([0] : List Int).map AV.int)⟩] : Sto)[sc]? = some ⟨b, .list (S.map AV.int)⟩ := old_app (old_app e)
  refine wLst_i es ?_
  refine wLst_new ?_
  refine wG_i (by rw [List.length_map]; show S.length + 1 ≤ 100000; lia) ?_
  have e1 : (σ ++ τ1 ++ [⟨true, .list (([0] : List Int).map AV.int)⟩] ++ [⟨true, .list ((S ++ [0]).map AV.int)⟩] : Sto)[(σ ++ τ1 ++ [⟨true, .list (([0] : List Int).map AV.int)⟩] : Sto).length]? = some ⟨true, .list ((S ++ [0]).map AV.int)⟩ := inc_new
  rw [List.map_append] at e1
  rw [← List.map_append] at e1
  rw [show S.map AV.int ++ [AV.int 0] = (S ++ [0]).map AV.int by rw [List.map_append]; rfl]
  refine it_any e1 (by simp; lia) (by decide) (by simp only [List.length_append, List.length_cons, List.length_nil]; lia) ?_
  refine wG_i (by decide) ?_
  exact ⟨rfl, _, _, rfl, by rw [List.append_assoc (σ ++ τ1)], Int.fmod_nonneg_of_pos _ (by decide), Int.fmod_lt_of_pos _ (by decide)⟩
 rintro a τ ⟨τ2, wy, rfl, rfl, hw0, hw1⟩
 have ed2 := old_app (τ := τ2) ed
 have htl := (List.getElem?_eq_some_iff.mp ed2).1
 have hz : (List.replicate (34 : Int).toNat [AV.int 0]).flatten = z34.map AV.int := by rfl
 refine s_cons ?_
 refine wLst_new ?_
 refine wG_i (by decide) ?_
 rw [hz]
 refine s_cons ?_
 refine s_cons ?_
 generalize hσ2 : (σ ++ τ1 ++ τ2 : Sto) = σ2 at *
 have hx2 : ∃ γ, σ2 = σ ++ γ := ⟨τ1 ++ τ2, by rw [← hσ2, List.append_assoc]⟩
 obtain ⟨γ, hγ⟩ := hx2
 have hs0 : DS σ (σ2 ++ [⟨true, .list [.int 0]⟩] ++ [⟨true, .list (z34.map AV.int)⟩] ++ [⟨true, .list []⟩]) (σ2 ++ [⟨true, .list [.int 0]⟩] : Sto).length (σ2 ++ [⟨true, .list [.int 0]⟩] ++ [⟨true, .list (z34.map AV.int)⟩] : Sto).length tl z34 [] D := by
  refine ⟨⟨γ ++ [⟨true, .list [.int 0]⟩] ++ [⟨true, .list (z34.map AV.int)⟩] ++ [⟨true, .list []⟩], by rw [hγ]; simp only [List.append_assoc]⟩, old_app inc_new, inc_new, ⟨bd, old_app (old_app (old_app ed2))⟩, ?_, ?_, ?_, ?_, ?_⟩
  all_goals (try rw [hγ] at htl ⊢)
  all_goals simp only [List.length_append, List.length_cons, List.length_nil] at htl ⊢
  all_goals lia
 have H0 : Deal z34 [] := by
  have g0 : ∀ j : Int, gt z34 j = 0 := fun j => by unfold gt z34; rw [List.getD_eq_getElem?_getD, List.getElem?_replicate]; split <;> rfl
  exact ⟨⟨by simp [z34], fun j _ _ => by rw [g0]; exact Int.le_refl _⟩, fun j _ _ => by rw [g0]; decide, by decide, fun x hx => by cases hx⟩
 refine s_cons ?_
 refine lockW.mk ?_
 refine deal_loop (wy := wy) (sc := sc) hD0 hD hw0 hw1 (fun T O σ' tu x h' H' h13 => ?_) 13 1000 _ _ _ 0 [] hs0 H0 (by decide) (by decide) (by decide) (by decide) (by decide) (.inl rfl)
 refine s_cons ?_
 obtain ⟨τ5, hτ5⟩ := h'.ext
 have h1 := h'.t
 have h2 := h'.o
 have hne := h'.ne1
 revert h1 h2 hne
 generalize (σ2 ++ [⟨true, .list [.int 0]⟩] ++ [⟨true, .list (z34.map AV.int)⟩] : Sto).length = op
 generalize (σ2 ++ [⟨true, .list [.int 0]⟩] : Sto).length = tp
 intro h1 h2 hne
 have h1 := old_app (τ := [⟨true, .tuple [.ref tp, .ref op]⟩]) h1
 have h2 := old_app (τ := [⟨true, .tuple [.ref tp, .ref op]⟩]) h2
 have h3 : (σ' ++ [⟨true, .tuple [.ref tp, .ref op]⟩] : Sto)[σ'.length]? = _ := inc_new
 subst hτ5
 rw [List.append_assoc] at h1 h2 h3
 have := hq _ _ tp op T O h3 h1 h2 H' h13 hne
 rw [← List.append_assoc] at this
 exact this
theorem c309 {σ : Sto} {k n : Nat} {b u : Bool} {h : List Int} {vs : List AV} {K : KE} (e : σ[k]? = some ⟨b, .list (h.map AV.int)⟩) (hl : h.length = 34) (h0 : σ[0]? = some ⟨false, .fset vs⟩) (hv : vs.Perm endsA)
  (hq : ∀ τ, K (.int (if u = true then chiV h else kokV h)) (σ ++ τ)) : lCall (callA XW (n + 1 + 1)) 309 [.bool u, .ref k] σ K := by
 refine lCall.mk (call_of (fn := fnAt 22 1000 []) (ae := [("pairs", .bool u), ("tiles", .ref k)]) (by rfl) ?_)
 refine s_cons ?_
 refine wIf_b ?_
 refine if_split (fun q => ?_) (fun q => ?_)
 ·rw [if_pos q] at hq
  with_reducible refine s_cons ?_
  refine res_con (by rfl) ?_
  exact c54 e hl hq
 ·rw [if_neg q] at hq
  with_reducible refine s_nil ?_
  with_reducible refine s_cons ?_
  refine res_con (by rfl) ?_
  have := hq []
  rw [List.append_nil] at this
  exact c64 e hl h0 hv this
noncomputable def lk1 (T : List Int) (e k : Int) : Int := if (if k = e then 2 else 1) - gt T k > 0 then (if k = e then 2 else 1) - gt T k else 0
noncomputable def lkV (T : List Int) (e : Int) (ks : List Int) : Int := (ks.map (lk1 T e)).sum
/-- the first of the least -/
noncomputable def pickE (T : List Int) : List Int → Int × Int → Int × Int
 | [], p => p
 | e :: r, p => pickE T r (if lkV T e endsI < p.1 then (lkV T e endsI, e) else p)
noncomputable abbrev aeM (k : Nat) (le fo : Int) (x : Loc) : Loc := ("tiles", .ref k) :: ("least", .int le) :: ("found", .int fo) :: x
noncomputable abbrev aeM2 (tw la : Int) (y : Loc) : Loc := ("twice", .int tw) :: ("lacks", .int la) :: y
noncomputable def stE (j : Nat) : Stmt := (dBody 21 1000).getD j (.Pass pos0)
set_option maxHeartbeats 1000000 in
theorem ends_turn {σ : Sto} {k n : Nat} {b : Bool} {T : List Int} {le fo tw : Int} {x : Loc} {K : KS} (e : σ[k]? = some ⟨b, .list (T.map AV.int)⟩) (hl : T.length = 34) (hx : ∃ y, asgName (dScope 21 1000) "lacks" (.int 0) (aeM k le fo x) = some (aeM k le fo (aeM2 tw 0 y)) ∧ (y = [] ∨ ∃ a, y = ([("kind", a)] : Loc)))
  (hq : ∀ τ y, (∃ a, y = ([("kind", a)] : Loc)) → K .next (aeM k (if lkV T tw endsI < le then (lkV T tw endsI, tw) else (le, fo)).1 (if lkV T tw endsI < le then (lkV T tw endsI, tw) else (le, fo)).2 (aeM2 tw (lkV T tw endsI) y)) (σ ++ τ)) :
  seqA (execS XW (callA XW (n + 1)) 39 (dScope 21 1000)) (forBody (stE 2)) (aeM k le fo x) σ K := by
 obtain ⟨y, ey, hy⟩ := hx
 refine s_join (aeM k le fo (aeM2 tw 0 y)) σ ?_ ?_
 ·exact ⟨rfl, Option.some.inj (show some _ = some _ from ey), rfl⟩
 refine s_cons ?_
 refine c285 ?_
 have e' := old_app (τ := [⟨true, .list (endsI.map AV.int)⟩]) e
 refine lIter.mk ?_
 refine wAt_new ?_
 refine lockF.mk ?_
 refine for_ints (σ0 := σ ++ [⟨true, .list (endsI.map AV.int)⟩]) (fun ks ae τ => ∃ la y, ae = aeM k le fo (aeM2 tw la y) ∧ τ = σ ++ [⟨true, .list (endsI.map AV.int)⟩] ∧ la + lkV T tw ks = lkV T tw endsI ∧ (∀ q ∈ ks, 0 ≤ q ∧ q < 34) ∧ (y = [] ∨ ∃ a, y = ([("kind", a)] : Loc)) ∧ (ks.length < 13 → ∃ a, y = ([("kind", a)] : Loc)))
  (fun vs ae τ it I hi => ?_) (fun q ks ae τ I => ?_) (fun ae τ I => ?_) endsI 1000 _ _ _ (by decide) ⟨true, _, inc_new, rfl⟩ ⟨0, y, rfl, rfl, by lia, fun q hq => ends_rng hq, hy, fun q => absurd q (by decide)⟩
 ·obtain ⟨_, _, _, rfl, _⟩ := I
  exact hi
 ·refine ex2 I fun la y hI => and6 hI fun e2 e3 e4 e5 e6 e7 => ?_
  clear hI I
  subst e2 e3
  have q0 := (e5 q (List.mem_cons_self ..)).1
  have q1 := (e5 q (List.mem_cons_self ..)).2
  refine a_name (ae' := aeM k le fo (aeM2 tw la [("kind", .int q)])) (by rcases e6 with rfl | ⟨a, rfl⟩ <;> rfl) ?_
  have key : la + lk1 T tw q + lkV T tw ks = lkV T tw endsI := by
   rw [← e4]
   unfold lkV
   rw [List.map_cons, List.sum_cons, Int.add_assoc]
  unfold lk1 at key
  with_reducible refine s_cons ?_
  refine wIf_beqI ?_
  refine if_split (fun c => ?_) (fun c => ?_)
  ·rw [if_pos c] at key
   refine it_list (by assumption) (by assumption) (by lia) (by lia) ?_
   exact ⟨rfl, _, _, rfl, rfl, key, fun r hr => e5 r (List.mem_cons_of_mem _ hr), .inr ⟨_, rfl⟩, fun _ => ⟨_, rfl⟩⟩
  ·rw [if_neg c] at key
   refine it_list (by assumption) (by assumption) (by lia) (by lia) ?_
   exact ⟨rfl, _, _, rfl, rfl, key, fun r hr => e5 r (List.mem_cons_of_mem _ hr), .inr ⟨_, rfl⟩, fun _ => ⟨_, rfl⟩⟩
 ·refine ex2 I fun la y hI => and6 hI fun e2 e3 e4 e5 e6 e7 => ?_
  clear hI I
  subst e2 e3
  obtain ⟨a, rfl⟩ := e7 (by decide)
  have : la = lkV T tw endsI := by rw [← e4]; simp [lkV]
  subst this
  have hq := hq [⟨true, .list (endsI.map AV.int)⟩] [("kind", a)] ⟨_, rfl⟩
  generalize lkV T tw endsI = L at hq ⊢
  with_reducible refine s_cons ?_
  refine wIf_decI ?_
  refine if_split (fun c => ?_) (fun c => ?_)
  ·rw [if_pos c] at hq
   with_reducible refine s_cons ?_
   refine s_cons ?_
   exact hq
  ·rw [if_neg c] at hq
   with_reducible refine s_nil ?_
   with_reducible refine s_nil ?_
   exact hq
noncomputable def aimE (f : Int) : List Int := (List.range 34).map fun i : Nat => if endsI.contains (i : Int) then (if (i : Int) = f then 2 else 1) else 0
noncomputable def gE (f : Int) : AV → AV
 | .int i => .int (if endsI.contains i then (if i = f then 2 else 1) else 0)
 | _ => .none
theorem gE_aim (f : Int) : (rangeFrom 0 1 34).map (gE f) = (aimE f).map AV.int := by
 rw [range34, List.map_map]
 unfold aimE
 rw [List.map_map]
 rfl
set_option maxHeartbeats 1000000 in
theorem c302 {σ : Sto} {k n : Nat} {b : Bool} {T : List Int} {K : KE} (e : σ[k]? = some ⟨b, .list (T.map AV.int)⟩) (hl : T.length = 34)
  (hq : ∀ τ j, (σ ++ τ)[j]? = some ⟨true, .list ((aimE (pickE T endsI (99, 0)).2).map AV.int)⟩ → K (.ref j) (σ ++ τ)) : lCall (callA XW (n + 1 + 1)) 302 [.ref k] σ K := by
 refine lCall.mk (call_of (fn := fnAt 21 1000 []) (ae := [("tiles", .ref k)]) (by rfl) ?_)
 refine s_cons ?_
 refine s_cons ?_
 refine s_cons ?_
 refine c285 ?_
 have e1 := old_app (τ := [⟨true, .list (endsI.map AV.int)⟩]) e
 refine lIter.mk ?_
 refine wAt_new ?_
 refine lockF.mk ?_
 have hi0 : (σ ++ [⟨true, .list (endsI.map AV.int)⟩] : Sto)[σ.length]? = some ⟨true, .list (endsI.map AV.int)⟩ := inc_new
 generalize hσ : (σ ++ [⟨true, .list (endsI.map AV.int)⟩] : Sto) = σ1 at e1 hi0 ⊢
 refine for_ints (σ0 := σ1) (fun ks ae τ => ∃ (p : Int × Int) (x : Loc) (τ' : Sto), ae = aeM k p.1 p.2 x ∧ τ = σ1 ++ τ' ∧ pickE T ks p = pickE T endsI (99, 0) ∧ (x = [] ∨ ∃ tw la a, x = aeM2 tw la [("kind", a)]))
  (fun vs ae τ it I hi => ?_) (fun q ks ae τ I => ?_) (fun ae τ I => ?_) endsI 1000 _ _ _ (by decide) ⟨true, _, hi0, rfl⟩ ⟨(99, 0), [], [], rfl, by simp, rfl, .inl rfl⟩
 ·obtain ⟨_, _, τ', _, rfl, _⟩ := I
  exact it_app hi
 ·refine ex3 I fun p x τ' hI => and4 hI fun e1' e2' h4 h5 => ?_
  clear hI I
  subst e1' e2'
  refine a_name (ae' := aeM k p.1 p.2 (putField "twice" (.int q) x)) (by rcases h5 with rfl | ⟨tw, la, a, rfl⟩ <;> rfl) ?_
  refine ends_turn (tw := q) (old_app e1) hl ?_ fun τ2 y hy => ?_
  ·rcases h5 with rfl | ⟨tw, la, a, rfl⟩
   ·exact ⟨[], rfl, .inl rfl⟩
   ·exact ⟨[("kind", a)], rfl, .inr ⟨_, rfl⟩⟩
  ·obtain ⟨a, rfl⟩ := hy
   exact ⟨rfl, _, _, τ' ++ τ2, rfl, by rw [List.append_assoc], h4, .inr ⟨_, _, _, rfl⟩⟩
 ·refine ex3 I fun p x τ' hI => and4 hI fun e1' e2' h4 h5 => ?_
  clear hI I
  subst e1' e2'
  have hp : p = pickE T endsI (99, 0) := h4
  rw [← hp] at hq
  obtain ⟨le, fo⟩ := p
  dsimp only at hq ⊢
  clear hp h4
  refine s_cons ?_
  refine lIter.mk ?_
  refine wAt_new ?_
  refine wG_i (by first | assumption | decide) ?_
  refine comp_rule (n := 37) (vs := rangeFrom 0 1 34) (aeX := fun v => [("found", .int fo), ("kind", v)]) (t := fun _ => true) (g := gE fo) (show ItIs (σ1 ++ τ' ++ [⟨true, .range 0 34 1⟩]) (.rng 0 34 1) _ from rfl) (by decide) (by rfl) (fun v => ?_) (fun u v => rfl) (by decide) ?_ ?_ ?_
  ·rcases h5 with rfl | ⟨tw, la, a, rfl⟩ <;> rfl
  ·intro v hv acc γ K hK
   exact hK
  ·intro v hv _ acc γ K hK
   rw [range34] at hv
   obtain ⟨i, hi, rfl⟩ := List.mem_map.mp hv
   refine c285 ?_
   have hK := hK (γ ++ [⟨true, .list (endsI.map AV.int)⟩])
   unfold gE at hK
   dsimp only at hK
   rw [← List.cons_append, ← List.append_assoc] at hK
   refine wAt_new ?_
   refine wInts_i ?_
   refine wIf_b ?_
   refine if_split (fun c => ?_) (fun c => ?_)
   ·rw [if_pos c] at hK
    refine wIf_beqI ?_
    refine if_split (fun c => ?_) (fun c => ?_)
    ·rw [if_pos c] at hK
     exact hK
    ·rw [if_neg c] at hK
     exact hK
   ·rw [if_neg c] at hK
    exact hK
  ·intro ae γ
   rw [List.filter_eq_self.mpr (fun _ _ => rfl), gE_aim]
   have hq := hq ([⟨true, .list (endsI.map AV.int)⟩] ++ τ' ++ [⟨true, .range 0 34 1⟩] ++ (⟨true, .list ((aimE fo).map AV.int)⟩ :: γ))
   simp only [← List.append_assoc, hσ] at hq
   exact hq _ mid_get
/-- the pick is of the ends, and none lacks less -/
theorem pickE_spec {T : List Int} : ∀ (ks : List Int) (p : Int × Int), (pickE T ks p).1 ≤ p.1 ∧ (∀ q ∈ ks, (pickE T ks p).1 ≤ lkV T q endsI) ∧ (pickE T ks p = p ∨ ((pickE T ks p).2 ∈ ks ∧ (pickE T ks p).1 = lkV T (pickE T ks p).2 endsI))
 | [], p => ⟨Int.le_refl _, (fun q hq => by cases hq), .inl rfl⟩
 | e :: r, p => by
  unfold pickE
  generalize hp : (if lkV T e endsI < p.1 then (lkV T e endsI, e) else p) = p'
  obtain ⟨a, b, c⟩ := pickE_spec (T := T) r p'
  have h1 : p'.1 ≤ p.1 ∧ p'.1 ≤ lkV T e endsI := by
   rw [← hp]; split
   ·exact ⟨by dsimp only; lia, Int.le_refl _⟩
   ·exact ⟨Int.le_refl _, by lia⟩
  refine ⟨by lia, fun q hq => ?_, ?_⟩
  ·rcases List.mem_cons.mp hq with rfl | hq
   ·lia
   ·exact b q hq
  ·rcases c with c | ⟨c1, c2⟩
   ·rw [c, ← hp]
    split
    ·exact .inr ⟨List.mem_cons_self .., rfl⟩
    ·exact .inl rfl
   ·exact .inr ⟨List.mem_cons_of_mem _ c1, c2⟩
noncomputable def cn (l : List Int) (j : Int) : Int := (l.count j : Nat)
theorem cn_cons {x : Int} {l : List Int} {j : Int} : cn (x :: l) j = cn l j + if j = x then 1 else 0 := by
 unfold cn
 rw [List.count_cons]
 by_cases h : j = x
 ·subst h; simp
 ·rw [if_neg h, if_neg (by simpa using Ne.symm h)]; simp
theorem cn_nonneg {l : List Int} {j : Int} : 0 ≤ cn l j := by unfold cn; lia
theorem cn_app {l l' : List Int} {j : Int} : cn (l ++ l') j = cn l j + cn l' j := by unfold cn; rw [List.count_append]; lia
theorem cn_drop_le {l : List Int} {t : Nat} {j : Int} : cn (l.drop t) j ≤ cn l j := by
 have := List.take_append_drop t l
 have h : cn l j = cn (l.take t) j + cn (l.drop t) j := by rw [← cn_app, this]
 have := cn_nonneg (l := l.take t) (j := j)
 lia
theorem cn_perm {l l' : List Int} (h : l.Perm l') {j : Int} : cn l j = cn l' j := by unfold cn; rw [h.count_eq]
/-- the hand lacks RL and has RS over, to the aim A -/
structure On (A RL RS H : List Int) : Prop where
 len : H.length = 34
 val : ∀ j : Int, 0 ≤ j → j < 34 → gt H j = gt A j - cn RL j + cn RS j
theorem On.draw {A RL RS H : List Int} {x : Int} (h : On A (x :: RL) RS H) (h0 : 0 ≤ x) (h1 : x < 34) : On A RL RS (stl H x (gt H x + 1)) :=
 ⟨len_stl h.len, fun j a b => by
  rw [gt_stl h0 (by rw [h.len]; lia) a]
  have := h.val j a b
  rw [cn_cons] at this
  split
  ·rename_i c; subst c; rw [if_pos rfl] at this; lia
  ·rename_i c; rw [if_neg c] at this; lia⟩
theorem On.throw {A RL RS H : List Int} {x : Int} (h : On A RL (x :: RS) H) (h0 : 0 ≤ x) (h1 : x < 34) : On A RL RS (stl H x (gt H x - 1)) :=
 ⟨len_stl h.len, fun j a b => by
  rw [gt_stl h0 (by rw [h.len]; lia) a]
  have := h.val j a b
  rw [cn_cons] at this
  split
  ·rename_i c; subst c; rw [if_pos rfl] at this; lia
  ·rename_i c; rw [if_neg c] at this; lia⟩
theorem On.done {A H : List Int} (h : On A [] [] H) (hA : A.length = 34) : H = A :=
 list_ext h.len hA fun j a b => by rw [h.val j a b]; simp [cn]
/-- what lacks of A in T -/
noncomputable def mx (A T : List Int) (k : Int) : Int := if gt A k - gt T k > 0 then gt A k - gt T k else 0
noncomputable def lackOf (A T : List Int) (ks : List Int) : List Int := (ks.map fun k => List.replicate (mx A T k).toNat k).flatten
theorem mx_nonneg {A T : List Int} {k : Int} : 0 ≤ mx A T k := by unfold mx; split <;> lia
theorem lackOf_cons {A T : List Int} {k : Int} {ks : List Int} : lackOf A T (k :: ks) = List.replicate (mx A T k).toNat k ++ lackOf A T ks := rfl
theorem cn_replicate {n : Nat} {k j : Int} : cn (List.replicate n k) j = if j = k then (n : Int) else 0 := by
 unfold cn
 rw [List.count_replicate]
 by_cases h : j = k
 ·subst h; simp
 ·rw [if_neg h, if_neg (by simpa using Ne.symm h)]; rfl
theorem cn_lackOf {A T : List Int} {j : Int} : ∀ {ks : List Int}, ks.Nodup → cn (lackOf A T ks) j = if j ∈ ks then mx A T j else 0
 | [], _ => by simp [lackOf, cn]
 | k :: ks, h => by
  rw [List.nodup_cons] at h
  rw [lackOf_cons, cn_app, cn_replicate, cn_lackOf h.2]
  have := mx_nonneg (A := A) (T := T) (k := k)
  by_cases c : j = k
  ·subst c
   rw [if_pos rfl, if_neg h.1, if_pos (List.mem_cons_self ..)]; lia
  ·rw [if_neg c]
   by_cases d : j ∈ ks
   ·rw [if_pos d, if_pos (List.mem_cons_of_mem _ d)]; lia
   ·rw [if_neg d, if_neg (by simp [c, d])]; lia
theorem lackOf_mem {A T : List Int} {x : Int} : ∀ {ks : List Int}, x ∈ lackOf A T ks → x ∈ ks
 | [], h => by simp [lackOf] at h
 | k :: ks, h => by
  rw [lackOf_cons] at h
  rcases List.mem_append.mp h with h | h
  ·rw [(List.mem_replicate.mp h).2]; exact List.mem_cons_self ..
  ·exact List.mem_cons_of_mem _ (lackOf_mem h)
theorem lackOf_len {A T : List Int} : ∀ {ks : List Int}, ((lackOf A T ks).length : Int) - (lackOf T A ks).length = (ks.map fun k => gt A k - gt T k).sum
 | [] => by simp [lackOf]
 | k :: ks => by
  have := lackOf_len (A := A) (T := T) (ks := ks)
  rw [lackOf_cons, lackOf_cons, List.length_append, List.length_append, List.length_replicate, List.length_replicate, List.map_cons, List.sum_cons, ← this]
  unfold mx
  split <;> split <;> lia
/-- a list turned round -/
noncomputable def rot (r : Nat) (l : List Int) : List Int := l.drop r ++ l.take r
theorem rot_perm {r : Nat} {l : List Int} : (rot r l).Perm l := by
 unfold rot
 exact List.perm_append_comm.trans (by rw [List.take_append_drop])
theorem rot_len {r : Nat} {l : List Int} : (rot r l).length = l.length := rot_perm.length_eq
theorem rot_get {r i : Nat} {l : List Int} (hr : r < l.length) (hi : i < l.length) : (rot r l)[i]? = l[(i + r) % l.length]? := by
 unfold rot
 by_cases h : i + r < l.length
 ·rw [Nat.mod_eq_of_lt h, List.getElem?_append_left (by simp; lia), List.getElem?_drop, Nat.add_comm]
 ·rw [List.getElem?_append_right (by simp; lia), List.length_drop, Nat.mod_eq_sub_mod (by lia), Nat.mod_eq_of_lt (by lia), List.getElem?_take_of_lt (by lia)]
  congr 1
  lia
theorem rot_fmod {l : List Int} {i : Nat} {p : Int} (hi : i < l.length) : (rot (p.fmod (l.length : Int)).toNat l)[i]? = some (gt l (((i : Int) + p).fmod (l.length : Int))) ∧ 0 ≤ ((i : Int) + p).fmod (l.length : Int) ∧ ((i : Int) + p).fmod (l.length : Int) < l.length := by
 have h0 : 0 ≤ p.fmod (l.length : Int) := Int.fmod_nonneg_of_pos _ (by lia)
 have h1 : p.fmod (l.length : Int) < l.length := Int.fmod_lt_of_pos _ (by lia)
 have g0 : 0 ≤ ((i : Int) + p).fmod (l.length : Int) := Int.fmod_nonneg_of_pos _ (by lia)
 have g1 : ((i : Int) + p).fmod (l.length : Int) < l.length := Int.fmod_lt_of_pos _ (by lia)
 refine ⟨?_, g0, g1⟩
 have e : (i + (p.fmod (l.length : Int)).toNat) % l.length = (((i : Int) + p).fmod (l.length : Int)).toNat := by
  have : ((i : Int) + p).fmod (l.length : Int) = ((i : Int) + p.fmod (l.length : Int)).fmod (l.length : Int) := by
   rw [Int.fmod_eq_emod_of_nonneg _ (by lia), Int.fmod_eq_emod_of_nonneg _ (by lia), Int.fmod_eq_emod_of_nonneg _ (by lia), Int.add_emod_emod]
  rw [this]
  obtain ⟨rn, hrn⟩ := Int.eq_ofNat_of_zero_le h0
  rw [hrn, Int.fmod_eq_emod_of_nonneg _ (by lia)]
  have h2 : ((i : Int) + (rn : Int)) % (l.length : Int) = (((i + rn) % l.length : Nat) : Int) := by rw [Int.natCast_emod, Int.natCast_add]
  rw [h2]
  rfl
 rw [rot_get (by lia) hi, e]
 unfold gt
 rw [List.getD_eq_getElem?_getD, List.getElem?_eq_getElem (by lia)]
 rfl
noncomputable def kinds34 : List Int := (List.range 34).map fun i : Nat => (i : Int)
theorem kinds_nodup : kinds34.Nodup := by decide
theorem mem_kinds {j : Int} : j ∈ kinds34 ↔ 0 ≤ j ∧ j < 34 := by
 unfold kinds34
 rw [List.mem_map]
 constructor
 ·rintro ⟨i, hi, rfl⟩
  have := List.mem_range.mp hi
  lia
 ·rintro ⟨a, b⟩
  exact ⟨j.toNat, List.mem_range.mpr (by lia), by lia⟩
theorem sum_kinds {l : List Int} (hl : l.length = 34) : (kinds34.map (gt l)).sum = l.sum := by
 have : kinds34.map (gt l) = l := by
  apply List.ext_getElem
  ·simp [kinds34, hl]
  ·intro i h1 h2
   simp only [kinds34, List.map_map, List.getElem_map, List.getElem_range, Function.comp]
   unfold gt
   rw [List.getD_eq_getElem?_getD, Int.toNat_natCast, List.getElem?_eq_getElem h2]
   rfl
 rw [this]
theorem sum_sub {f g : Int → Int} : ∀ (l : List Int), (l.map fun k => f k - g k).sum = (l.map f).sum - (l.map g).sum
 | [] => by simp
 | a :: l => by simp only [List.map_cons, List.sum_cons, sum_sub l]; lia
theorem rep_flat (n : Nat) (k : Int) : (List.replicate n [AV.int k]).flatten = (List.replicate n k).map AV.int := by
 induction n with
 | zero => rfl
 | succ n ih => rw [List.replicate_succ, List.replicate_succ, List.flatten_cons, ih]; rfl
/-- hand, lacking and spare -/
structure WD (σ0 σ : Sto) (hp lp sp : Nat) (H L S : List Int) : Prop where
 ext : ∃ τ, σ = σ0 ++ τ
 h : σ[hp]? = some ⟨true, .list (H.map AV.int)⟩
 l : σ[lp]? = some ⟨true, .list (L.map AV.int)⟩
 s : σ[sp]? = some ⟨true, .list (S.map AV.int)⟩
 h0 : σ0.length ≤ hp
 l0 : σ0.length ≤ lp
 s0 : σ0.length ≤ sp
 hl : hp ≠ lp
 hs : hp ≠ sp
 ls : lp ≠ sp
section
variable {σ0 σ : Sto} {hp lp sp : Nat} {H L S H' L' S' : List Int}
theorem WD.app (w : WD σ0 σ hp lp sp H L S) (τ : Sto) : WD σ0 (σ ++ τ) hp lp sp H L S := by
 obtain ⟨⟨τ0, e⟩, a, b, c, r1, r2, r3, r4, r5, r6⟩ := w
 exact ⟨⟨τ0 ++ τ, by rw [e, List.append_assoc]⟩, old_app a, old_app b, old_app c, r1, r2, r3, r4, r5, r6⟩
theorem WD.old (w : WD σ0 σ hp lp sp H L S) {k : Nat} {c : Cl} (e : σ0[k]? = some c) : σ[k]? = some c := by
 obtain ⟨τ, rfl⟩ := w.ext
 exact old_app e
theorem WD.setH (w : WD σ0 σ hp lp sp H L S) : WD σ0 (σ.set hp ⟨true, .list (H'.map AV.int)⟩) hp lp sp H' L S := by
 obtain ⟨⟨τ0, e⟩, a, b, c, r1, r2, r3, r4, r5, r6⟩ := w
 refine ⟨⟨_, by rw [e]; exact set_app r1⟩, ?_, ?_, ?_, r1, r2, r3, r4, r5, r6⟩
 ·rw [List.getElem?_set_self (List.getElem?_eq_some_iff.mp a).1]
 ·rw [List.getElem?_set_ne r4]; exact b
 ·rw [List.getElem?_set_ne r5]; exact c
theorem WD.setL (w : WD σ0 σ hp lp sp H L S) : WD σ0 (σ.set lp ⟨true, .list (L'.map AV.int)⟩) hp lp sp H L' S := by
 obtain ⟨⟨τ0, e⟩, a, b, c, r1, r2, r3, r4, r5, r6⟩ := w
 refine ⟨⟨_, by rw [e]; exact set_app r2⟩, ?_, ?_, ?_, r1, r2, r3, r4, r5, r6⟩
 ·rw [List.getElem?_set_ne (Ne.symm r4)]; exact a
 ·rw [List.getElem?_set_self (List.getElem?_eq_some_iff.mp b).1]
 ·rw [List.getElem?_set_ne r6]; exact c
theorem WD.setS (w : WD σ0 σ hp lp sp H L S) : WD σ0 (σ.set sp ⟨true, .list (S'.map AV.int)⟩) hp lp sp H L S' := by
 obtain ⟨⟨τ0, e⟩, a, b, c, r1, r2, r3, r4, r5, r6⟩ := w
 refine ⟨⟨_, by rw [e]; exact set_app r3⟩, ?_, ?_, ?_, r1, r2, r3, r4, r5, r6⟩
 ·rw [List.getElem?_set_ne (Ne.symm r5)]; exact a
 ·rw [List.getElem?_set_ne (Ne.symm r6)]; exact b
 ·rw [List.getElem?_set_self (List.getElem?_eq_some_iff.mp c).1]
end
noncomputable abbrev aeY (u : Bool) (tk ap : Nat) (pk : Int) (hp lp sp : Nat) (x : Loc) : Loc := ("pairs", .bool u) :: ("tiles", .ref tk) :: ("aim", .ref ap) :: ("pick", .int pk) :: ("hand", .ref hp) :: ("lacking", .ref lp) :: ("spare", .ref sp) :: x
noncomputable def stY (j : Nat) : Stmt := (dBody 23 1000).getD j (.Pass pos0)
section
variable {σ0 σ : Sto} {hp lp sp tk ap n : Nat} {u ba : Bool} {pk k : Int} {A T L S : List Int} {call : Addr → List AV → Sto → XE} {K : KS} {x : Loc}
set_option maxHeartbeats 1000000 in
theorem way_kind (w : WD σ0 σ hp lp sp T L S) (ea : σ0[ap]? = some ⟨ba, .list (A.map AV.int)⟩) (hA : A.length = 34) (hT : T.length = 34) (k0 : 0 ≤ k) (k1 : k < 34) (hm : mx A T k ≤ 4) (hm' : mx T A k ≤ 4) (hL : L.length ≤ 1000) (hS : S.length ≤ 1000)
  (hq : ∀ σ', WD σ0 σ' hp lp sp T (L ++ List.replicate (mx A T k).toNat k) (S ++ List.replicate (mx T A k).toNat k) → K .next (aeY u tk ap pk hp lp sp [("kind", .int k)]) σ') :
  seqA (execS XW call 39 (dScope 23 1000)) (forBody (stY 3)) (aeY u tk ap pk hp lp sp [("kind", .int k)]) σ K := by
 refine s_st (aeY u tk ap pk hp lp sp [("kind", .int k)]) (fun τ => WD σ0 τ hp lp sp T (L ++ List.replicate (mx A T k).toNat k) S) ?_ ?_
 ·have w1 := w.app [⟨true, .list [.int k]⟩]
  have eh1 := w1.h
  have ea1 := w1.old ea
  refine it_list (by assumption) (by assumption) (by lia) (by lia) ?_
  refine it_list (by assumption) (by assumption) (by lia) (by lia) ?_
  refine wLst_new ?_
  refine wG_i (show 1 * (mx A T k).toNat ≤ 100000 ∧ (mx A T k).natAbs ≤ 100000 from ⟨by lia, by have := mx_nonneg (A := A) (T := T) (k := k); lia⟩) ?_
  rw [rep_flat]
  have w2 := w1.app [⟨true, .list ((List.replicate (mx A T k).toNat k).map AV.int)⟩]
  refine wLst_i w2.l ?_
  refine wLst_new ?_
  refine wG_i (And.intro ?_ ?_) ?_
  ·have := (List.getElem?_eq_some_iff.mp w1.l).1; lia
  ·rw [List.length_map, List.length_map, List.length_replicate]; show _ + (mx A T k).toNat ≤ _; lia
  have w3 := w2.setL (L' := L ++ List.replicate (mx A T k).toNat k)
  rw [List.map_append] at w3
  exact ⟨rfl, rfl, w3⟩
 intro τ w'
 refine s_st (aeY u tk ap pk hp lp sp [("kind", .int k)]) (fun τ => WD σ0 τ hp lp sp T (L ++ List.replicate (mx A T k).toNat k) (S ++ List.replicate (mx T A k).toNat k)) ?_ ?_
 ·have w1 := w'.app [⟨true, .list [.int k]⟩]
  have eh1 := w1.h
  have ea1 := w1.old ea
  refine it_list (by assumption) (by assumption) (by lia) (by lia) ?_
  refine it_list (by assumption) (by assumption) (by lia) (by lia) ?_
  refine wLst_new ?_
  refine wG_i (show 1 * (mx T A k).toNat ≤ 100000 ∧ (mx T A k).natAbs ≤ 100000 from ⟨by lia, by have := mx_nonneg (A := T) (T := A) (k := k); lia⟩) ?_
  rw [rep_flat]
  have w2 := w1.app [⟨true, .list ((List.replicate (mx T A k).toNat k).map AV.int)⟩]
  refine wLst_i w2.s ?_
  refine wLst_new ?_
  refine wG_i (And.intro ?_ ?_) ?_
  ·have := (List.getElem?_eq_some_iff.mp w1.s).1; lia
  ·rw [List.length_map, List.length_map, List.length_replicate]; show _ + (mx T A k).toNat ≤ _; lia
  have w3 := w2.setS (S' := S ++ List.replicate (mx T A k).toNat k)
  rw [List.map_append] at w3
  exact ⟨rfl, rfl, w3⟩
 intro τ w''
 exact s_nil (hq _ w'')
end
noncomputable def numV (u : Bool) (h : List Int) : Int := if u = true then chiV h else kokV h
/-- what a way needs of its aim -/
structure Aim (u : Bool) (A T : List Int) (k : Nat) : Prop where
 lenA : A.length = 34
 hd : Hd T
 t4 : ∀ j : Int, 0 ≤ j → j < 34 → gt T j ≤ 4
 a0 : ∀ j : Int, 0 ≤ j → j < 34 → 0 ≤ gt A j
 a2 : ∀ j : Int, 0 ≤ j → j < 34 → gt A j ≤ 2
 sT : T.sum = 13
 sA : A.sum = 14
 num : ∀ RL RS H, On A RL RS H → (∀ j : Int, 0 ≤ j → j < 34 → cn RL j ≤ mx A T j) → (∀ j : Int, 0 ≤ j → j < 34 → cn RS j ≤ mx T A j) → (∀ x ∈ RL, 0 ≤ x ∧ x < 34) → numV u H = (RL.length : Int) - 1
 ag : ∀ (σ : Sto) (j n : Nat) (b : Bool) (K : KE), σ[j]? = some ⟨b, .list (A.map AV.int)⟩ → (∀ τ, K (.bool true) (σ ++ τ)) → lCall (callA XW (n + 1)) 238 [.ref j] σ K
 mn : ∀ r, -1 ≤ r → minL (resL 14 r true true A) = -1
theorem lackOf_le {A T : List Int} {B : Nat} : ∀ {ks : List Int}, (∀ q ∈ ks, mx A T q ≤ B) → (lackOf A T ks).length ≤ B * ks.length
 | [], _ => by simp [lackOf]
 | k :: ks, h => by
  have h1 := h k (List.mem_cons_self ..)
  have h2 := lackOf_le (ks := ks) fun q hq => h q (List.mem_cons_of_mem _ hq)
  rw [lackOf_cons, List.length_append, List.length_replicate, List.length_cons, Nat.mul_succ]
  lia
noncomputable abbrev aeZ (u : Bool) (tk ap : Nat) (pk : Int) (hp lp sp : Nat) (kd : AV) (c : Int) (y : Loc) : Loc := aeY u tk ap pk hp lp sp (("kind", kd) :: ("count", .int c) :: y)
theorem drop_cons {l : List Int} {t : Nat} {x : Int} (h : l[t]? = some x) : l.drop t = x :: l.drop (t + 1) := by
 obtain ⟨h1, h2⟩ := List.getElem?_eq_some_iff.mp h
 rw [List.drop_eq_getElem_cons h1, h2]
theorem kinds_range : rangeFrom 0 1 34 = kinds34.map AV.int := by rw [range34]; unfold kinds34; rw [List.map_map]; rfl
section
variable {σ0 σ : Sto} {hp lp sp tk ap n c t : Nat} {u ba : Bool} {pk : Int} {A T L S H RL RS : List Int} {kd : AV} {vs : List AV}
/-- the check of the number -/
theorem way_check {K : KE} (w : WD σ0 σ hp lp sp H L S) (hl : H.length = 34) (h0 : σ0[0]? = some ⟨false, .fset vs⟩) (hv : vs.Perm endsA) (hq : ∀ τ, WD σ0 (σ ++ τ) hp lp sp H L S → K (.int (numV u H)) (σ ++ τ)) :
  lCall (callA XW (n + 1 + 1)) 309 [.bool u, .ref hp] σ K := c309 w.h hl (w.old h0) hv fun τ => hq τ (w.app τ)
theorem gt_mem {l : List Int} {i : Int} (h0 : 0 ≤ i) (h1 : i < l.length) : gt l i ∈ l := by
 unfold gt
 rw [List.getD_eq_getElem?_getD, List.getElem?_eq_getElem (by lia)]
 exact List.getElem_mem _
set_option maxHeartbeats 2000000 in
theorem way_turn {K : KS} (w : WD σ0 σ hp lp sp H L S) (h0 : σ0[0]? = some ⟨false, .fset vs⟩) (hv : vs.Perm endsA) (o : On A (RL.drop t) (RS.drop t) H)
  (hc : L.length = c) (hS : S.length + 1 = c) (ht : t < c) (hc' : c ≤ 500) (hL : ∀ x ∈ L, 0 ≤ x ∧ x < 34) (hS' : ∀ x ∈ S, 0 ≤ x ∧ x < 34)
  (eL : RL = rot (pk.fmod (L.length : Int)).toNat L) (eS : RS = rot (pk.fmod (S.length : Int)).toNat S)
  (num : ∀ t' t'' H, On A (RL.drop t') (RS.drop t'') H → numV u H = ((RL.drop t').length : Int) - 1)
  (hq : ∀ σ' H', WD σ0 σ' hp lp sp H' L S → On A (RL.drop (t + 1)) (RS.drop (t + 1)) H' → K .next (aeZ u tk ap pk hp lp sp kd c [("turn", .int t)]) σ') :
  seqA (execS XW (callA XW (n + 1 + 1)) 39 (dScope 23 1000)) (forBody (stY 6)) (aeZ u tk ap pk hp lp sp kd c [("turn", .int t)]) σ K := by
 subst hc
 obtain ⟨r1, r2, r3⟩ := rot_fmod (l := L) (i := t) (p := pk) ht
 rw [← eL] at r1
 have hx := hL _ (gt_mem r2 r3)
 have hlR : RL.length = L.length := by rw [eL]; exact rot_len
 have hlS : RS.length = S.length := by rw [eS]; exact rot_len
 have eh := w.h
 have el := w.l
 have es := w.s
 have hlen := o.len
 rw [drop_cons r1] at o
 have o1 := o.draw hx.1 hx.2
 generalize hxd : gt L (((t : Int) + pk).fmod (L.length : Int)) = xd at *
 refine s_st (aeZ u tk ap pk hp lp sp kd L.length [("turn", .int t)]) (fun τ => WD σ0 τ hp lp sp (stl H xd (gt H xd + 1)) L S) ?_ ?_
 ·refine wG_i (by lia) ?_
  refine it_any el (by lia) r2 r3 ?_
  rw [hxd]
  refine it_list eh hlen hx.1 hx.2 ?_
  refine pa_list eh hx.1 (by lia) (by lia) ?_
  exact ⟨rfl, rfl, w.setH⟩
 intro τ w1
 have n1 := num (t + 1) t _ o1
 have nd : ((RL.drop (t + 1)).length : Int) = (L.length : Int) - t - 1 := by rw [List.length_drop]; lia
 refine s_st (aeZ u tk ap pk hp lp sp kd L.length [("turn", .int t)]) (fun τ => WD σ0 τ hp lp sp (stl H xd (gt H xd + 1)) L S) ?_ ?_
 ·refine way_check w1 (len_stl hlen) h0 hv fun τ2 w2 => ?_
  refine wIf_bneI ?_
  refine if_split (fun q => absurd (by rw [n1, nd]; lia) q) (fun q => ?_)
  exact s_nil ⟨rfl, rfl, w2⟩
 intro τ w2
 refine s_cons ?_
 refine wIf_decI ?_
 refine if_split (fun q => ?_) (fun q => ?_)
 ·have hts : t < S.length := by lia
  obtain ⟨q1, q2, q3⟩ := rot_fmod (l := S) (i := t) (p := pk) hts
  rw [← eS] at q1
  have hy := hS' _ (gt_mem q2 q3)
  rw [drop_cons q1] at o1
  have o2 := o1.throw hy.1 hy.2
  have ec : (L.length : Int) - 1 = S.length := by lia
  generalize hyd : gt S (((t : Int) + pk).fmod (S.length : Int)) = yd at *
  have eh2 := w2.h
  have es2 := w2.s
  have hlen2 : (stl H xd (gt H xd + 1)).length = 34 := len_stl hlen
  refine s_st (aeZ u tk ap pk hp lp sp kd L.length [("turn", .int t)]) (fun τ => WD σ0 τ hp lp sp (stl (stl H xd (gt H xd + 1)) yd (gt (stl H xd (gt H xd + 1)) yd - 1)) L S) ?_ ?_
  ·refine wG_i (by lia) ?_
   rw [ec]
   refine it_any es2 (by lia) q2 q3 ?_
   rw [hyd]
   refine it_list eh2 hlen2 hy.1 hy.2 ?_
   refine pa_list eh2 hy.1 (by lia) (by lia) ?_
   exact ⟨rfl, rfl, w2.setH⟩
  intro τ w3
  have n2 := num (t + 1) (t + 1) _ o2
  refine s_cons ?_
  refine way_check w3 (len_stl hlen2) h0 hv fun τ2 w4 => ?_
  refine wIf_bneI ?_
  refine if_split (fun q => absurd (by rw [n2, nd]; lia) q) (fun q => ?_)
  with_reducible refine s_nil ?_
  with_reducible refine s_nil ?_
  exact hq _ _ w4 o2
 ·have e1 : RS.drop t = [] := List.drop_eq_nil_of_le (by lia)
  have e2 : RS.drop (t + 1) = [] := List.drop_eq_nil_of_le (by lia)
  rw [e1, ← e2] at o1
  with_reducible refine s_nil ?_
  exact hq _ _ w2 o1
end
theorem take_all {l : List Int} : ((l.drop 0).take (l.length - 0)) = l := by simp
theorem cmp_same {l : List Int} {σ : Sto} {i j : Nat} {b c : Bool} {K : Bool → Prop} (e : σ[i]? = some ⟨b, .list (l.map AV.int)⟩) (e' : σ[j]? = some ⟨c, .list (l.map AV.int)⟩) (h : K true) : wCmp .Eq (.ref i) (.ref j) σ K := by
 refine wLst_i e (wLst_i e' (wInts_i (wInts_i ?_)))
 show K (l == l)
 rw [show (l == l) = true by simp]
 exact h
set_option maxHeartbeats 4000000 in
theorem c316 {σ : Sto} {tk ap k : Nat} {u bt ba : Bool} {pk : Int} {A T : List Int} {vs : List AV} {K : KE} (et : σ[tk]? = some ⟨bt, .list (T.map AV.int)⟩) (ea : σ[ap]? = some ⟨ba, .list (A.map AV.int)⟩) (h0 : σ[0]? = some ⟨false, .fset vs⟩) (hv : vs.Perm endsA) (M : Aim u A T k)
  {r : Int} (hr : RegIs k 14 A r) (hr1 : -1 ≤ r) (hK : ∀ τ, K (.bool true) (σ ++ τ)) : lCall (callA XW (k + 4 + 1 + 1)) 316 [.bool u, .ref tk, .ref ap, .int pk] σ K := by
 have hT := M.hd.len
 refine lCall.mk (call_of (fn := fnAt 23 1000 []) (ae := [("pairs", .bool u), ("tiles", .ref tk), ("aim", .ref ap), ("pick", .int pk)]) (by rfl) ?_)
 refine s_cons ?_
 refine slice_list et (by lia) rfl rfl ?_
 rw [take_all]
 refine s_cons ?_
 refine s_join (aeY u tk ap pk σ.length (σ.length + 1) (σ.length + 2) []) (σ ++ [⟨true, .list (T.map AV.int)⟩] ++ [⟨true, .list (([] : List Int).map AV.int)⟩] ++ [⟨true, .list (([] : List Int).map AV.int)⟩]) ?_ ?_
 ·refine ⟨rfl, ?_, rfl⟩
  rw [show (σ ++ [⟨true, .list (T.map AV.int)⟩] ++ [⟨true, .list []⟩] : Sto).length = σ.length + 2 by simp, show (σ ++ [⟨true, .list (T.map AV.int)⟩] : Sto).length = σ.length + 1 by simp]
  rfl
 have w0 : WD σ (σ ++ [⟨true, .list (T.map AV.int)⟩] ++ [⟨true, .list (([] : List Int).map AV.int)⟩] ++ [⟨true, .list (([] : List Int).map AV.int)⟩]) σ.length (σ.length + 1) (σ.length + 2) T [] [] := by
  refine ⟨⟨_, by rw [List.append_assoc, List.append_assoc]⟩, ?_, ?_, ?_, by lia, by lia, by lia, by lia, by lia, by lia⟩
  ·rw [List.append_assoc, List.append_assoc, List.getElem?_append_right (by lia)]; simp
  ·rw [List.append_assoc, List.append_assoc, List.getElem?_append_right (by lia)]; simp
  ·rw [List.append_assoc, List.append_assoc, List.getElem?_append_right (by lia)]; simp
 generalize (σ ++ [⟨true, .list (T.map AV.int)⟩] ++ [⟨true, .list (([] : List Int).map AV.int)⟩] ++ [⟨true, .list (([] : List Int).map AV.int)⟩] : Sto) = σ1 at w0 ⊢
 generalize σ.length + 1 = lp at w0 ⊢
 generalize σ.length + 2 = sp at w0 ⊢
 generalize hhp : σ.length = hp at w0 ⊢
 have bd1 : ∀ q ∈ kinds34, mx A T q ≤ 2 := fun q hq => by
  obtain ⟨a, b⟩ := mem_kinds.mp hq
  have := M.a2 q a b
  have := M.hd.nn q a b
  unfold mx; split <;> lia
 have bd2 : ∀ q ∈ kinds34, mx T A q ≤ 4 := fun q hq => by
  obtain ⟨a, b⟩ := mem_kinds.mp hq
  have := M.t4 q a b
  have := M.a0 q a b
  unfold mx; split <;> lia
 have hk34 : kinds34.length = 34 := by decide
 have len1 := lackOf_le (A := A) (T := T) (B := 2) bd1
 have len2 := lackOf_le (A := T) (T := A) (B := 4) bd2
 rw [hk34] at len1 len2
 have hcnt : ((lackOf A T kinds34).length : Int) - (lackOf T A kinds34).length = 1 := by
  rw [lackOf_len, sum_sub, sum_kinds M.lenA, sum_kinds hT, M.sA, M.sT]; rfl
 generalize hL : lackOf A T kinds34 = LL at *
 generalize hS : lackOf T A kinds34 = SS at *
 refine s_cons ?_
 refine lIter.mk ?_
 refine wAt_new ?_
 refine wG_i (by first | assumption | decide) ?_
 rw [show rangeN 0 34 1 = 34 by decide]
 have w1 := w0.app [⟨true, .range 0 34 1⟩]
 generalize (σ1 ++ [⟨true, .range 0 34 1⟩] : Sto) = σ2 at w1 ⊢
 refine lockF.mk ?_
 refine for_rngI (fun ks ae τ => ∃ (x : Loc) (L S : List Int), ae = aeY u tk ap pk hp lp sp x ∧ WD σ τ hp lp sp T L S ∧ L ++ lackOf A T ks = LL ∧ S ++ lackOf T A ks = SS ∧ (∀ q ∈ ks, q ∈ kinds34) ∧ (x = [] ∨ ∃ a, x = ([("kind", a)] : Loc)) ∧ (ks.length < 34 → ∃ a, x = ([("kind", a)] : Loc)))
  (fun q ks ae τ I => ?_) (fun ae τ I => ?_) kinds34 (by rw [hk34]; decide) kinds_range.symm ⟨[], [], [], rfl, w1, hL, hS, fun q hq => hq, .inl rfl, fun q => absurd q (by rw [hk34]; decide)⟩
 ·refine ex3 I fun x L S hI => and7 hI fun e2 w e4 e5 e6 e7 e8 => ?_
  clear hI I
  subst e2
  have hq := e6 q (List.mem_cons_self ..)
  have b1 := bd1 q hq
  have b2 := bd2 q hq
  have l1 : L.length ≤ LL.length := by rw [← e4]; simp
  have l2 : S.length ≤ SS.length := by rw [← e5]; simp
  refine a_name (ae' := aeY u tk ap pk hp lp sp [("kind", .int q)]) (by rcases e7 with rfl | ⟨a, rfl⟩ <;> rfl) ?_
  refine way_kind w ea M.lenA hT (mem_kinds.mp hq).1 (mem_kinds.mp hq).2 (by lia) b2 (by lia) (by lia) fun σ' w' => ?_
  exact ⟨rfl, _, _, _, rfl, w', by rw [List.append_assoc]; exact e4, by rw [List.append_assoc]; exact e5, fun r hr => e6 r (List.mem_cons_of_mem _ hr), .inr ⟨_, rfl⟩, fun _ => ⟨_, rfl⟩⟩
 refine ex3 I fun x L S hI => and7 hI fun e2 w e4 e5 e6 e7 e8 => ?_
 clear hI I
 subst e2
 obtain ⟨kd, rfl⟩ := e8 (by decide)
 have e4 : L = LL := by rw [← e4]; simp [lackOf]
 have e5 : S = SS := by rw [← e5]; simp [lackOf]
 subst e4 e5
 have el := w.l
 clear w0 w1 e6 e7 e8
 refine s_join (aeZ u tk ap pk hp lp sp kd L.length []) τ ?_ ?_
 ·refine wLst_i el ?_
  show wG ((L.map AV.int).length ≤ 100000) _
  rw [List.length_map]
  exact wG_i (by lia) ⟨rfl, rfl, rfl⟩
 have memL : ∀ y ∈ L, 0 ≤ y ∧ y < 34 := fun y hy => mem_kinds.mp (lackOf_mem (hL ▸ hy))
 have memS : ∀ y ∈ S, 0 ≤ y ∧ y < 34 := fun y hy => mem_kinds.mp (lackOf_mem (hS ▸ hy))
 generalize hRL : rot (pk.fmod (L.length : Int)).toNat L = RL
 generalize hRS : rot (pk.fmod (S.length : Int)).toNat S = RS
 have pL : RL.Perm L := hRL ▸ rot_perm
 have pS : RS.Perm S := hRS ▸ rot_perm
 have cL : ∀ j : Int, 0 ≤ j → j < 34 → cn RL j = mx A T j := fun j a b => by rw [cn_perm pL, ← hL, cn_lackOf kinds_nodup, if_pos (mem_kinds.mpr ⟨a, b⟩)]
 have cS : ∀ j : Int, 0 ≤ j → j < 34 → cn RS j = mx T A j := fun j a b => by rw [cn_perm pS, ← hS, cn_lackOf kinds_nodup, if_pos (mem_kinds.mpr ⟨a, b⟩)]
 have num : ∀ t' t'' H, On A (RL.drop t') (RS.drop t'') H → numV u H = ((RL.drop t').length : Int) - 1 := fun t' t'' H o =>
  M.num _ _ H o (fun j a b => by rw [← cL j a b]; exact cn_drop_le) (fun j a b => by rw [← cS j a b]; exact cn_drop_le) fun y hy => memL y (pL.mem_iff.mp (List.mem_of_mem_drop hy))
 have o0 : On A (RL.drop 0) (RS.drop 0) T := ⟨hT, fun j a b => by
  rw [List.drop_zero, List.drop_zero, cL j a b, cS j a b]
  unfold mx; split <;> split <;> lia⟩
 have n0 := num 0 0 T o0
 rw [List.drop_zero, pL.length_eq] at n0
 refine s_st (aeZ u tk ap pk hp lp sp kd L.length []) (fun τ => WD σ τ hp lp sp T L S) ?_ ?_
 ·refine way_check (n := k + 3) w hT h0 hv fun τ2 w2 => ?_
  refine wIf_bneI ?_
  refine if_split (fun q => absurd (by rw [n0]) q) (fun q => ?_)
  exact s_nil ⟨rfl, rfl, w2⟩
 intro τ3 w3
 have hsm : Builtin.Range.small 0 (L.length : Int) 1 = true := by
  have : ∀ m : Fin 200, Builtin.Range.small 0 (m.1 : Int) 1 = true := by decide
  exact this ⟨L.length, by lia⟩
 have hrn : rangeN 0 (L.length : Int) 1 = L.length := by
  have : ∀ m : Fin 200, rangeN 0 (m.1 : Int) 1 = m.1 := by decide
  exact this ⟨L.length, by lia⟩
 refine s_cons ?_
 refine lIter.mk ?_
 refine wAt_new ?_
 refine wG_i hsm ?_
 rw [hrn]
 have w4 := w3.app [⟨true, .range 0 (L.length : Int) 1⟩]
 refine lockF.mk ?_
 refine for_rng (fun rest ae τ => ∃ (t : Nat) (y : Loc) (H : List Int), rest = rangeFrom (t : Int) 1 (L.length - t) ∧ t ≤ L.length ∧ ae = aeZ u tk ap pk hp lp sp kd L.length y ∧ WD σ τ hp lp sp H L S ∧ On A (RL.drop t) (RS.drop t) H ∧ (y = [] ∨ ∃ a, y = ([("turn", a)] : Loc)))
  (fun v rest ae τ I => ?_) (fun ae τ I => ?_) L.length 1000 0 1 _ _ (by lia) ⟨0, [], T, rfl, Nat.zero_le _, rfl, w4, o0, .inl rfl⟩
 ·refine ex3 I fun t y H hI => and6 hI fun e1 ht e2 w o hy => ?_
  clear hI I
  subst e2
  obtain ⟨m, hm⟩ : ∃ m, L.length - t = m + 1 := by
   cases hm : L.length - t with
   | zero => rw [hm] at e1; cases e1
   | succ m => exact ⟨m, rfl⟩
  rw [hm] at e1
  have e1 : v :: rest = AV.int (t : Int) :: rangeFrom ((t : Int) + 1) 1 m := e1
  cases e1
  refine a_name (ae' := aeZ u tk ap pk hp lp sp kd L.length [("turn", .int t)]) (by rcases hy with rfl | ⟨a, rfl⟩ <;> rfl) ?_
  refine way_turn (n := k + 3) (RL := RL) (RS := RS) w h0 hv o rfl (by lia) (by lia) (by lia) memL memS hRL.symm hRS.symm num fun σ' H' w' o' => ?_
  exact ⟨rfl, t + 1, _, H', by rw [show L.length - (t + 1) = m by lia]; rfl, by lia, rfl, w', o', .inr ⟨_, rfl⟩⟩
 refine ex3 I fun t y H hI => and6 hI fun e1 ht e2 w o hy => ?_
 clear hI I
 subst e2
 have htc : t = L.length := by
  cases hm : L.length - t with
  | zero => lia
  | succ m => rw [hm] at e1; cases e1
 subst htc
 rw [List.drop_eq_nil_of_le (by rw [pL.length_eq]; exact Nat.le_refl _), List.drop_eq_nil_of_le (by rw [pS.length_eq]; lia)] at o
 have hHA := o.done M.lenA
 subst hHA
 have ea' := w.old ea
 have eh := w.h
 clear w3 w4 num n0 o0 o e1
 obtain ⟨τ5, rfl⟩ := w.ext
 refine s_cons ?_
 refine cmp_same eh ea' ?_
 refine wIf_t ?_
 refine res_con (by rfl) ?_
 refine M.ag (σ ++ τ5) hp (k + 4) true _ eh fun τ6 => ?_
 refine wIf_t ?_
 refine res_con (by rfl) ?_
 refine c46 (k := k) (j := hp) (u1 := true) (u2 := true) (r := r) (cnt := 14) (args := [.ref hp]) (by rfl) (old_app eh) M.lenA M.sA (by decide) (by decide) hr (old_app (old_app h0)) hv fun τ7 => ?_
 rw [M.mn r hr1]
 have := hK (τ5 ++ τ6 ++ τ7)
 simp only [← List.append_assoc] at this
 exact this
theorem lookup_putKey {k j : Int} {v : AV} : ∀ {es : List (Int × AV)}, (putKey k v es).lookup j = if j = k then some v else es.lookup j
 | [] => by
  unfold putKey
  rw [List.lookup_cons]
  by_cases h : j = k
  ·subst h; simp
  ·rw [if_neg h, show (j == k) = false by simpa using h]
 | (m, u) :: r => by
  unfold putKey
  by_cases hm : m = k
  ·subst hm
   rw [if_pos (by simp), List.lookup_cons, List.lookup_cons]
   by_cases h : j = m
   ·subst h; simp
   ·rw [if_neg h, show (j == m) = false by simpa using h]
  ·rw [if_neg (by simpa using hm), List.lookup_cons, List.lookup_cons, lookup_putKey]
   by_cases h : j = m
   ·subst h; simp [hm]
   ·rw [show (j == m) = false by simpa using h]
theorem it_map {σ : Sto} {j n : Nat} {b : Bool} {es : List (Int × AV)} {x : Int} {v : AV} {K : AV → Prop} (e : σ[j]? = some ⟨b, .imap es n⟩) (el : es.lookup x = some v) (h : K v) : lItem (.ref j) (.int x) σ K := lItem.mk <| wAt_i e <| by
 show wKey es x K
 unfold wKey; exact ⟨v, el, h⟩
theorem it_tup {σ : Sto} {j i : Nat} {b : Bool} {xs : List AV} {v : AV} {K : AV → Prop} (e : σ[j]? = some ⟨b, .tuple xs⟩) (hv : xs.length ≤ 100000 ∧ (placeA (i : Int) xs.length).bind (xs[·]?) = some v) (h : K v) : lItem (.ref j) (.int (i : Int)) σ K := lItem.mk <| wAt_i e <| by
 show wIdx xs i K
 unfold wIdx; exact ⟨v, hv.1, hv.2, h⟩
theorem it_tup0 {σ : Sto} {j : Nat} {b : Bool} {v u : AV} {K : AV → Prop} (e : σ[j]? = some ⟨b, .tuple [v, u]⟩) (h : K v) : lItem (.ref j) (.int 0) σ K := it_tup (i := 0) e ⟨by simp, rfl⟩ h
theorem it_tup1 {σ : Sto} {j : Nat} {b : Bool} {v u : AV} {K : AV → Prop} (e : σ[j]? = some ⟨b, .tuple [v, u]⟩) (h : K u) : lItem (.ref j) (.int 1) σ K := it_tup (i := 1) e ⟨by simp, rfl⟩ h
theorem pa_map {σ : Sto} {j n : Nat} {es : List (Int × AV)} {x : Int} {v : AV} {K : Sto → Prop} (e : σ[j]? = some ⟨true, .imap es n⟩) (hn : n ≤ 1000) (h : K (σ.set j ⟨true, .imap (putKey x v es) (n + 1)⟩)) : lPut (.ref j) (.int x) v σ K := lPut.mk <| wAt_i e (wG_i hn h)
noncomputable abbrev DT := Nat → Option (Int × List Int)
noncomputable def AtD (σ : Sto) (bp : Nat) (es : List (Int × AV)) (d : Option (Int × List Int)) (c : Nat) : Prop := match d with
 | none => es.lookup (c : Int) = none
 | some (h, l) => ∃ (tp lp : Nat) (t1 t2 : Bool), es.lookup (c : Int) = some (.ref tp) ∧ tp ≠ bp ∧ lp ≠ bp ∧ σ[tp]? = some ⟨t1, .tuple [.int h, .ref lp]⟩ ∧ σ[lp]? = some ⟨t2, .list (l.map AV.int)⟩
structure BD (σ0 σ : Sto) (bp n : Nat) (D : DT) : Prop where
 ext : ∃ τ, σ = σ0 ++ τ
 bnd : σ0.length ≤ bp
 at' : ∃ es, σ[bp]? = some ⟨true, .imap es n⟩ ∧ ∀ c ≤ 7, AtD σ bp es (D c) c
theorem AtD.app {σ τ : Sto} {bp c : Nat} {es : List (Int × AV)} {d : Option (Int × List Int)} (h : AtD σ bp es d c) : AtD (σ ++ τ) bp es d c := by
 cases d with
 | none => exact h
 | some p =>
  obtain ⟨tp, lp, t1, t2, e1, e2, e3, e4, e5⟩ := h
  exact ⟨tp, lp, t1, t2, e1, e2, e3, old_app e4, old_app e5⟩
theorem BD.app {σ0 σ : Sto} {bp n : Nat} {D : DT} (w : BD σ0 σ bp n D) (τ : Sto) : BD σ0 (σ ++ τ) bp n D := by
 obtain ⟨⟨τ0, e⟩, b, es, e1, e2⟩ := w
 exact ⟨⟨τ0 ++ τ, by rw [e, List.append_assoc]⟩, b, es, old_app e1, fun c hc => (e2 c hc).app⟩
theorem BD.old {σ0 σ : Sto} {bp n : Nat} {D : DT} (w : BD σ0 σ bp n D) {k : Nat} {c : Cl} (e : σ0[k]? = some c) : σ[k]? = some c := by
 obtain ⟨⟨τ0, rfl⟩, _⟩ := w
 exact old_app e
noncomputable def setD (D : DT) (c : Nat) (p : Option (Int × List Int)) : DT := fun j => if j = c then p else D j
theorem BD.put {σ0 σ : Sto} {bp n c tp lp : Nat} {D : DT} {es : List (Int × AV)} {t1 t2 : Bool} {h : Int} {l : List Int} (w : BD σ0 σ bp n D) (eb : σ[bp]? = some ⟨true, .imap es n⟩) (ht : tp ≠ bp) (hlp : lp ≠ bp)
  (e1 : σ[tp]? = some ⟨t1, .tuple [.int h, .ref lp]⟩) (e2 : σ[lp]? = some ⟨t2, .list (l.map AV.int)⟩) :
  BD σ0 (σ.set bp ⟨true, .imap (putKey (c : Int) (.ref tp) es) (n + 1)⟩) bp (n + 1) (setD D c (some (h, l))) := by
 obtain ⟨⟨τ0, rfl⟩, b, es', e1', e2'⟩ := w
 rw [eb] at e1'
 injection e1' with e1'
 injection e1' with _ e1'
 injection e1' with e1' _
 subst e1'
 refine ⟨⟨_, set_app b⟩, b, _, List.getElem?_set_self (List.getElem?_eq_some_iff.mp eb).1, fun j hj => ?_⟩
 ·unfold setD
  by_cases hjc : j = c
  ·subst hjc
   rw [if_pos rfl]
   exact ⟨tp, lp, t1, t2, by rw [lookup_putKey, if_pos rfl], ht, hlp, by rw [List.getElem?_set_ne (Ne.symm ht)]; exact e1, by rw [List.getElem?_set_ne (Ne.symm hlp)]; exact e2⟩
  ·rw [if_neg hjc]
   have h := e2' j hj
   cases hd : D j with
   | none =>
    rw [hd] at h
    show _ = none
    rw [lookup_putKey, if_neg (by lia)]
    exact h
   | some p =>
    rw [hd] at h
    obtain ⟨tp', lp', t1', t2', f1, f2, f3, f4, f5⟩ := h
    exact ⟨tp', lp', t1', t2', by rw [lookup_putKey, if_neg (by lia)]; exact f1, f2, f3, by rw [List.getElem?_set_ne (Ne.symm f2)]; exact f4, by rw [List.getElem?_set_ne (Ne.symm f3)]; exact f5⟩
noncomputable def m2 (T : List Int) (q : Int) : Int := if 2 < gt T q then 2 else gt T q
noncomputable def stepV (T : List Int) (q : Int) (D : DT) (c : Nat) : Option (Int × List Int) := match D c with
 | none => D (c + 1)
 | some (h, l) => match D (c + 1) with
  | none => some (h + m2 T q, l ++ [q])
  | some p => if h + m2 T q > p.1 then some (h + m2 T q, l ++ [q]) else some p
theorem setD_self {D : DT} {c : Nat} : setD D c (D c) = D := by
 funext j; unfold setD; split
 ·rename_i h; rw [h]
 ·rfl
noncomputable abbrev aeB (tp bp : Nat) (x : Loc) : Loc := ("tiles", .ref tp) :: ("best", .ref bp) :: x
noncomputable abbrev aeB2 (q c : Int) (y : Loc) : Loc := ("kind", .int q) :: ("chosen", .int c) :: y
noncomputable def stB (j : Nat) : Stmt := (dBody 20 1000).getD j (.Pass pos0)
noncomputable def inB : Stmt := (forBody (stB 1)).getD 0 (.Pass pos0)
noncomputable def inIf (s : Stmt) : List Stmt := forBody ((forBody ((forBody s).getD 0 (.Pass pos0))).getD 1 (.Pass pos0))
set_option maxHeartbeats 1000000 in
theorem dp_turn {σ0 σ : Sto} {tp bp n k c : Nat} {b : Bool} {T : List Int} {q : Int} {D : DT} {y : Loc} {K : KS} (w : BD σ0 σ bp n D) (et : σ0[tp]? = some ⟨b, .list (T.map AV.int)⟩) (hl : T.length = 34) (q0 : 0 ≤ q) (q1 : q < 34) (hc : c ≤ 6) (hn : n ≤ 1000)
  (hD : ∀ h l, D c = some (h, l) → l.length ≤ 900) (hy : y = [] ∨ ∃ a, y = ([("held", a)] : Loc))
  (hq : ∀ σ' n' y', n' ≤ n + 1 → (y' = [] ∨ ∃ a, y' = ([("held", a)] : Loc)) → BD σ0 σ' bp n' (setD D (c + 1) (stepV T q D c)) → K .next (aeB tp bp (aeB2 q c y')) σ') :
  seqA (execS XW (callA XW k) 38 (dScope 20 1000)) ((forBody inB)) (aeB tp bp (aeB2 q c y)) σ K := by
 have e1 := w.old et
 obtain ⟨es, eb, hat⟩ := w.at'
 have hcc := hat c (by lia)
 have hc1 := hat (c + 1) (by lia)
 refine s_cons ?_
 refine wAt_i eb ?_
 show wIf (es.lookup (c : Int)).isSome _ _
 cases hd : D c with
 | none =>
  rw [hd] at hcc
  rw [show es.lookup (c : Int) = none from hcc]
  refine wIf_f ?_
  with_reducible refine s_nil ?_
  refine hq σ n y (by lia) hy ?_
  rw [show stepV T q D c = D (c + 1) by unfold stepV; rw [hd]]
  rw [setD_self]; exact w
 | some p =>
  obtain ⟨h, l⟩ := p
  have hll := hD h l hd
  rw [hd] at hcc
  obtain ⟨tp1, lp1, t1, t2, f1, f2, f3, f4, f5⟩ := hcc
  rw [f1]
  refine wIf_t ?_
  refine s_join (aeB tp bp (aeB2 q c [("held", .int (h + m2 T q))])) σ ?_ ?_
  ·refine it_map eb f1 ?_
   refine it_tup0 f4 ?_
   refine it_list e1 hl q0 q1 ?_
   exact ⟨rfl, by rcases hy with rfl | ⟨a, rfl⟩ <;> rfl, rfl⟩
  have ec : ((c + 1 : Nat) : Int) = (c : Int) + 1 := rfl
  refine s_st (aeB tp bp (aeB2 q c [("held", .int (h + m2 T q))])) (fun τ => ∃ n', n' ≤ n + 1 ∧ BD σ0 τ bp n' (setD D (c + 1) (stepV T q D c))) ?_ ?_
  ·have hput : stepV T q D c = some (h + m2 T q, l ++ [q]) → seqA (execS XW (callA XW k) 36 (dScope 20 1000)) (inIf inB) (aeB tp bp (aeB2 q c [("held", .int (h + m2 T q))])) σ fun fl a τ => fl = .next ∧ a = aeB tp bp (aeB2 q c [("held", .int (h + m2 T q))]) ∧ ∃ n', n' ≤ n + 1 ∧ BD σ0 τ bp n' (setD D (c + 1) (stepV T q D c)) := by
    intro hst
    refine s_cons ?_
    refine it_map eb f1 ?_
    refine it_tup1 f4 ?_
    refine wLst_i (old_app f5) ?_
    refine wLst_new ?_
    refine wG_i (by rw [List.length_map]; show l.length + 1 ≤ 100000; lia) ?_
    have w3 : BD σ0 (σ ++ [⟨true, .list [.int q]⟩] ++ [⟨true, .list (l.map AV.int ++ [.int q])⟩] ++ [⟨true, .tuple [.int (h + m2 T q), .ref ((σ ++ [⟨true, .list [.int q]⟩] : Sto)).length]⟩]) bp n D := ((w.app _).app _).app _
    have lb := (List.getElem?_eq_some_iff.mp eb).1
    refine pa_map (old_app (old_app (old_app eb))) hn ?_
    have w4 := w3.put (c := c + 1) (old_app (old_app (old_app eb))) (tp := (σ ++ [⟨true, .list [.int q]⟩] ++ [⟨true, .list (l.map AV.int ++ [.int q])⟩] : Sto).length) (lp := ((σ ++ [⟨true, .list [.int q]⟩] : Sto)).length) (l := l ++ [q]) (h := h + m2 T q) (by simp only [List.length_append]; lia) (by simp only [List.length_append]; lia) inc_new
     (by rw [List.map_append]; exact old_app inc_new)
    rw [← hst] at w4
    exact ⟨rfl, rfl, _, by lia, w4⟩
   refine wAt_i eb ?_
   show wIf (!(es.lookup ((c : Int) + 1)).isSome) _ _
   cases hd1 : D (c + 1) with
   | none =>
    rw [hd1] at hc1
    rw [← ec, show es.lookup ((c + 1 : Nat) : Int) = none from hc1]
    refine wIf_t ?_
    refine wIf_t ?_
    refine hput ?_
    unfold stepV; rw [hd, hd1]
   | some p1 =>
    obtain ⟨h1, l1⟩ := p1
    rw [hd1] at hc1
    obtain ⟨tp2, lp2, t3, t4, g1, g2, g3, g4, g5⟩ := hc1
    rw [← ec, g1]
    refine wIf_f ?_
    refine it_map eb g1 ?_
    refine it_tup0 g4 ?_
    refine wIf_decI ?_
    refine if_split (fun cc => ?_) (fun cc => ?_)
    ·refine wIf_t ?_
     refine hput ?_
     unfold stepV; rw [hd, hd1]; dsimp only; rw [if_pos cc]
    ·refine wIf_f ?_
     refine s_nil ⟨rfl, rfl, n, by lia, ?_⟩
     have : stepV T q D c = D (c + 1) := by unfold stepV; rw [hd, hd1]; dsimp only; rw [if_neg cc]
     rw [this, setD_self]; exact w
  ·rintro τ ⟨n', hn', w'⟩
   with_reducible refine s_nil ?_
   with_reducible refine s_nil ?_
   exact hq _ _ _ hn' (.inr ⟨_, rfl⟩) w'
structure Best (w : Int → Int) (K : List Int) (D : DT) : Prop where
 no : ∀ c, D c = none → K.length < c
 yes : ∀ c h l, D c = some (h, l) → l.length = c ∧ l.Sublist K ∧ h = (l.map w).sum ∧ ∀ P : Int → Bool, (K.filter P).length = c → ((K.filter P).map w).sum ≤ h
noncomputable def stepE (T : List Int) (q : Int) (D : DT) : DT
 | 0 => D 0
 | c + 1 => stepV T q D c
theorem Best.step {T K : List Int} {q : Int} {D : DT} (b : Best (m2 T) K D) : Best (m2 T) (K ++ [q]) (stepE T q D) := by
 have hlen : (K ++ [q]).length = K.length + 1 := by simp
 have hf : ∀ P : Int → Bool, (K ++ [q]).filter P = K.filter P ++ if P q then [q] else [] := fun P => by
  rw [List.filter_append]; congr 1
  rw [List.filter_cons, List.filter_nil]
 have add : ∀ c h l, D c = some (h, l) → (l ++ [q]).length = c + 1 ∧ (l ++ [q]).Sublist (K ++ [q]) ∧ h + m2 T q = ((l ++ [q]).map (m2 T)).sum ∧ ∀ P : Int → Bool, P q = true → ((K ++ [q]).filter P).length = c + 1 → (((K ++ [q]).filter P).map (m2 T)).sum ≤ h + m2 T q := by
  intro c h l e
  obtain ⟨y1, y2, y3, y4⟩ := b.yes c h l e
  refine ⟨by simp [y1], y2.append (List.Sublist.refl _), by rw [y3, List.map_append, List.sum_append]; simp, fun P hp hl => ?_⟩
  rw [hf, if_pos hp] at hl ⊢
  rw [List.length_append] at hl
  have := y4 P (by simpa using hl)
  rw [List.map_append, List.sum_append]
  simp only [List.map_cons, List.map_nil, List.sum_cons, List.sum_nil]
  lia
 have keep : ∀ c h l, D c = some (h, l) → l.length = c ∧ l.Sublist (K ++ [q]) ∧ h = (l.map (m2 T)).sum ∧ ∀ P : Int → Bool, P q = false → ((K ++ [q]).filter P).length = c → (((K ++ [q]).filter P).map (m2 T)).sum ≤ h := by
  intro c h l e
  obtain ⟨y1, y2, y3, y4⟩ := b.yes c h l e
  refine ⟨y1, y2.trans (List.sublist_append_left ..), y3, fun P hp hl => ?_⟩
  rw [hf, if_neg (by simp [hp]), List.append_nil] at hl ⊢
  exact y4 P hl
 refine ⟨fun c e => ?_, fun c h l e => ?_⟩
 ·rw [hlen]
  cases c with
  | zero => exact absurd (b.no 0 e) (by lia)
  | succ c =>
   have e : stepV T q D c = none := e
   unfold stepV at e
   split at e
   ·rename_i e0; have := b.no _ e0; lia
   ·split at e
    ·cases e
    ·split at e <;> cases e
 ·cases c with
  | zero =>
   have e : D 0 = some (h, l) := e
   obtain ⟨k1, k2, k3, k4⟩ := keep 0 h l e
   refine ⟨k1, k2, k3, fun P hl => ?_⟩
   rw [List.length_eq_zero_iff] at hl k1
   rw [k3, hl, k1]; exact Int.le_refl _
  | succ c =>
   have e : stepV T q D c = some (h, l) := e
   unfold stepV at e
   split at e
   ·rename_i e0
    have h1 := b.no _ e0
    obtain ⟨y1, y2, _⟩ := b.yes _ _ _ e
    have := y2.length_le
    lia
   ·rename_i h0 l0 e0
    obtain ⟨a1, a2, a3, a4⟩ := add _ _ _ e0
    split at e
    ·rename_i e1
     have h1 := b.no _ e1
     cases e
     refine ⟨a1, a2, a3, fun P hl => ?_⟩
     cases hp : P q
     ·rw [hf, if_neg (by simp [hp]), List.append_nil] at hl
      have := List.length_filter_le P K
      lia
     ·exact a4 P hp hl
    ·rename_i p1 e1
     obtain ⟨h1, l1⟩ := p1
     obtain ⟨k1, k2, k3, k4⟩ := keep _ _ _ e1
     split at e
     ·rename_i cc
      cases e
      refine ⟨a1, a2, a3, fun P hl => ?_⟩
      cases hp : P q
      ·have := k4 P hp hl
       have cc : h0 + m2 T q > h1 := cc
       lia
      ·exact a4 P hp hl
     ·rename_i cc
      cases e
      refine ⟨k1, k2, k3, fun P hl => ?_⟩
      cases hp : P q
      ·exact k4 P hp hl
      ·have := a4 P hp hl
       have cc : ¬ h0 + m2 T q > h := cc
       lia
theorem BD.congr {σ0 σ : Sto} {bp n : Nat} {D D' : DT} (w : BD σ0 σ bp n D) (h : ∀ c ≤ 7, D c = D' c) : BD σ0 σ bp n D' :=
 let ⟨a, b, es, e1, e2⟩ := w
 ⟨a, b, es, e1, fun c hc => h c hc ▸ e2 c hc⟩
noncomputable def mixD (m : Nat) (D E : DT) : DT := fun j => if j ≤ m then D j else E j
theorem mix_step {T : List Int} {q : Int} {D : DT} {m : Nat} : setD (mixD (m + 1) D (stepE T q D)) (m + 1) (stepV T q (mixD (m + 1) D (stepE T q D)) m) = mixD m D (stepE T q D) := by
 funext j
 unfold setD
 have a : mixD (m + 1) D (stepE T q D) m = D m := by unfold mixD; rw [if_pos (by lia)]
 have b : mixD (m + 1) D (stepE T q D) (m + 1) = D (m + 1) := by unfold mixD; rw [if_pos (by lia)]
 have e : stepV T q (mixD (m + 1) D (stepE T q D)) m = stepV T q D m := by unfold stepV; rw [a, b]
 rw [e]
 unfold mixD
 by_cases h1 : j = m + 1
 ·subst h1
  rw [if_pos rfl, if_neg (by lia)]; rfl
 ·rw [if_neg h1]
  by_cases h2 : j ≤ m
  ·rw [if_pos h2, if_pos (by lia)]
  ·rw [if_neg h2, if_neg (by lia)]
theorem rangeDown : ∀ m : Nat, rangeFrom ((m : Int)) (-1) (m + 1) = AV.int (m : Int) :: rangeFrom ((m : Int) - 1) (-1) m := fun m => by
 show AV.int (m : Int) :: rangeFrom ((m : Int) + -1) (-1) m = _
 rfl
set_option maxHeartbeats 1000000 in
theorem dp_kind {σ0 σ : Sto} {tp bp n k : Nat} {b : Bool} {T K : List Int} {q : Int} {D : DT} {x : Loc} {Q : KS} (w : BD σ0 σ bp n D) (bs : Best (m2 T) K D) (et : σ0[tp]? = some ⟨b, .list (T.map AV.int)⟩) (hl : T.length = 34) (q0 : 0 ≤ q) (q1 : q < 34) (hn : n ≤ 900)
  (hx : x = ([("kind", .int q)] : Loc) ∨ ∃ c y, x = aeB2 q c y ∧ (y = [] ∨ ∃ a, y = ([("held", a)] : Loc)))
  (hq : ∀ σ' n' c' y', n' ≤ n + 7 → (y' = [] ∨ ∃ a, y' = ([("held", a)] : Loc)) → BD σ0 σ' bp n' (stepE T q D) → Q .next (aeB tp bp (aeB2 q c' y')) σ') :
  seqA (execS XW (callA XW k) 39 (dScope 20 1000)) (forBody (stB 1)) (aeB tp bp x) σ Q := by
 refine s_cons ?_
 refine wG_i (by first | assumption | decide) ?_
 refine lIter.mk ?_
 refine wAt_new ?_
 refine wG_i (by first | assumption | decide) ?_
 rw [show rangeN 6 (-1) (-1) = 7 by decide]
 have w1 := (w.app [⟨true, .range 6 (-1) (-1)⟩]).congr (D' := mixD 7 D (stepE T q D)) fun c hc => by unfold mixD; rw [if_pos hc]
 refine lockF.mk ?_
 refine for_rng (fun rest ae τ => ∃ (m n' : Nat) (x : Loc), rest = rangeFrom ((m : Int) - 1) (-1) m ∧ m ≤ 7 ∧ ae = aeB tp bp x ∧ n' + m ≤ n + 7 ∧ BD σ0 τ bp n' (mixD m D (stepE T q D)) ∧ ((m = 7 ∧ x = ([("kind", .int q)] : Loc)) ∨ ∃ c y, x = aeB2 q c y ∧ (y = [] ∨ ∃ a, y = ([("held", a)] : Loc))))
  (fun v rest ae τ I => ?_) (fun ae τ I => ?_) 7 1000 6 (-1) _ _ (by decide) ⟨7, n, x, rfl, by lia, rfl, by lia, w1, hx.imp (fun h => ⟨rfl, h⟩) id⟩
 ·refine ex3 I fun m n' x hI => and6 hI fun e1 hm e2 e4 w2 hx => ?_
  clear hI I
  subst e2
  cases m with
  | zero => cases e1
  | succ m =>
   rw [show ((m + 1 : Nat) : Int) - 1 = (m : Int) by lia, rangeDown m] at e1
   cases e1
   obtain ⟨y, hy, ea⟩ : ∃ y : Loc, (y = [] ∨ ∃ a, y = ([("held", a)] : Loc)) ∧ asgName (dScope 20 1000) "chosen" (.int (m : Int)) (aeB tp bp x) = some (aeB tp bp (aeB2 q m y)) := by
    rcases hx with ⟨_, rfl⟩ | ⟨c, y, rfl, hy⟩
    ·exact ⟨[], .inl rfl, rfl⟩
    ·exact ⟨y, hy, rfl⟩
   refine a_name ea ?_
   refine dp_turn (k := k) w2 et hl q0 q1 (c := m) (by lia) (by lia) ?_ hy fun σ' n2 y' hn2 hy' w3 => ?_
   ·intro h l e
    unfold mixD at e
    rw [if_pos (by lia)] at e
    have := (bs.yes _ _ _ e).1
    lia
   ·rw [mix_step] at w3
    exact ⟨rfl, m, n2, _, rfl, by lia, rfl, by lia, w3, .inr ⟨_, _, rfl, hy'⟩⟩
 ·refine ex3 I fun m n' x hI => and6 hI fun e1 hm e2 e4 w2 hx => ?_
  clear hI I
  subst e2
  cases m with
  | succ m => cases e1
  | zero =>
   rcases hx with ⟨h, _⟩ | ⟨c, y, rfl, hy⟩
   ·cases h
   ·have hE : mixD 0 D (stepE T q D) = stepE T q D := by
     funext j
     unfold mixD
     split
     ·have : j = 0 := by lia
      subst this; rfl
     ·rfl
    rw [hE] at w2
    exact s_nil (hq _ _ c _ (by lia) hy w2)
noncomputable def aimP (S : List Int) : List Int := kinds34.map fun q => if S.contains q then 2 else 0
noncomputable def gP (S : List Int) : AV → AV
 | .int i => .int (if S.contains i then 2 else 0)
 | _ => .none
theorem gP_aim (S : List Int) : (rangeFrom 0 1 34).map (gP S) = (aimP S).map AV.int := by
 rw [range34, List.map_map]
 unfold aimP kinds34
 rw [List.map_map, List.map_map]
 rfl
noncomputable def best0 : DT := fun c => if c = 0 then some (0, []) else none
theorem best0_ok {w : Int → Int} : Best w [] best0 := by
 refine ⟨fun c e => ?_, fun c h l e => ?_⟩
 ·unfold best0 at e
  split at e
  ·cases e
  ·show 0 < c; lia
 ·unfold best0 at e
  split at e
  ·cases e
   rename_i h
   exact ⟨h.symm, List.Sublist.refl _, rfl, fun P _ => Int.le_refl _⟩
  ·cases e
set_option maxHeartbeats 1000000 in
theorem c297 {σ : Sto} {tp k : Nat} {b : Bool} {T : List Int} {Q : KE} (et : σ[tp]? = some ⟨b, .list (T.map AV.int)⟩) (hl : T.length = 34)
  (hq : ∀ (τ : Sto) (j : Nat) (S : List Int), (σ ++ τ)[j]? = some ⟨true, .list ((aimP S).map AV.int)⟩ → S.Sublist kinds34 → S.length = 7 → (∀ P : Int → Bool, (kinds34.filter P).length = 7 → ((kinds34.filter P).map (m2 T)).sum ≤ (S.map (m2 T)).sum) → Q (.ref j) (σ ++ τ)) :
  lCall (callA XW (k + 1)) 297 [.ref tp] σ Q := by
 refine lCall.mk (call_of (fn := fnAt 20 1000 []) (ae := [("tiles", .ref tp)]) (by rfl) ?_)
 generalize hbp : σ.length + 2 = bp
 refine s_join (aeB tp bp []) (σ ++ [⟨true, .list []⟩] ++ [⟨true, .tuple [.int 0, .ref σ.length]⟩] ++ [⟨true, .imap [(0, .ref (σ.length + 1))] 1⟩]) ?_ ?_
 ·have h1 : (σ ++ [⟨true, .list []⟩] : Sto).length = σ.length + 1 := by simp
  have h2 : (σ ++ [⟨true, .list []⟩] ++ [⟨true, .tuple [.int 0, .ref σ.length]⟩] : Sto).length = bp := by simp; lia
  refine ⟨rfl, ?_, ?_⟩
  ·rw [h2]; rfl
  ·rw [h1]
 have w0 : BD σ (σ ++ [⟨true, .list []⟩] ++ [⟨true, .tuple [.int 0, .ref σ.length]⟩] ++ [⟨true, .imap [(0, .ref (σ.length + 1))] 1⟩]) bp 1 best0 := by
  have h1 : (σ ++ [⟨true, .list []⟩] : Sto).length = σ.length + 1 := by simp
  have h2 : (σ ++ [⟨true, .list []⟩] ++ [⟨true, .tuple [.int 0, .ref σ.length]⟩] : Sto).length = bp := by simp; lia
  refine ⟨⟨_, by rw [List.append_assoc, List.append_assoc]⟩, by lia, _, by rw [← h2]; exact inc_new, fun c hc => ?_⟩
  unfold best0
  by_cases h : c = 0
  ·subst h
   rw [if_pos rfl]
   exact ⟨σ.length + 1, σ.length, true, true, rfl, by lia, by lia, by rw [← h1]; exact old_app inc_new, old_app (old_app inc_new)⟩
  ·rw [if_neg h]
   show List.lookup _ _ = none
   rw [List.lookup_cons, show (((c : Nat) : Int) == 0) = false by simpa using h]; rfl
 generalize (σ ++ [⟨true, .list []⟩] ++ [⟨true, .tuple [.int 0, .ref σ.length]⟩] ++ [⟨true, .imap [(0, .ref (σ.length + 1))] 1⟩] : Sto) = σ1 at w0 ⊢
 refine s_cons ?_
 refine lIter.mk ?_
 refine wAt_new ?_
 refine wG_i (by first | assumption | decide) ?_
 rw [show rangeN 0 34 1 = 34 by decide]
 have w1 := w0.app [⟨true, .range 0 34 1⟩]
 refine lockF.mk ?_
 refine for_rngI (fun ks ae τ => ∃ (K : List Int) (n : Nat) (D : DT) (x : Loc), K ++ ks = kinds34 ∧ ae = aeB tp bp x ∧ n ≤ 1 + 7 * K.length ∧ BD σ τ bp n D ∧ Best (m2 T) K D ∧ (x = [] ∨ ∃ q c y, x = aeB2 q c y ∧ (y = [] ∨ ∃ a, y = ([("held", a)] : Loc))))
  (fun q ks ae τ I => ?_) (fun ae τ I => ?_) kinds34 (by decide) kinds_range.symm ⟨[], 1, best0, [], rfl, rfl, by simp, w1, best0_ok, .inl rfl⟩
 ·refine ex4 I fun K n D x hI => and6 hI fun e2 e3 hn w bs hx => ?_
  clear hI I
  subst e3
  have hq := mem_kinds.mp (show q ∈ kinds34 by rw [← e2]; simp)
  have hK : K.length < 34 := by
   have : (K ++ q :: ks).length = 34 := by rw [e2]; decide
   simp at this; lia
  obtain ⟨x', hx', ea⟩ : ∃ x' : Loc, (x' = ([("kind", .int q)] : Loc) ∨ ∃ c y, x' = aeB2 q c y ∧ (y = [] ∨ ∃ a, y = ([("held", a)] : Loc))) ∧ asgName (dScope 20 1000) "kind" (.int q) (aeB tp bp x) = some (aeB tp bp x') := by
   rcases hx with rfl | ⟨q', c, y, rfl, hy⟩
   ·exact ⟨_, .inl rfl, rfl⟩
   ·exact ⟨aeB2 q c y, .inr ⟨c, y, rfl, hy⟩, rfl⟩
  refine a_name ea ?_
  refine dp_kind (k := k) w bs et hl hq.1 hq.2 (by lia) hx' fun σ' n' c' y' hn' hy' w' => ?_
  exact ⟨rfl, K ++ [q], n', _, _, by rw [← e2, List.append_assoc]; rfl, rfl, by simp; lia, w', bs.step, .inr ⟨_, _, _, rfl, hy'⟩⟩
 ·refine ex4 I fun K n D x hI => and6 hI fun e2 e3 hn w bs hx => ?_
  clear hI I
  rw [List.append_nil] at e2
  subst e2 e3
  obtain ⟨⟨τ0, rfl⟩, hb, es, eb, hat⟩ := w
  have h7 := hat 7 (Nat.le_refl _)
  cases hd : D 7 with
  | none => exact absurd (bs.no 7 hd) (by decide)
  | some p =>
  obtain ⟨h, S⟩ := p
  rw [hd] at h7
  obtain ⟨tp1, lp1, t1, t2, f1, f2, f3, f4, f5⟩ := h7
  obtain ⟨y1, y2, y3, y4⟩ := bs.yes 7 h S hd
  have f1 : es.lookup 7 = some (.ref tp1) := f1
  refine s_cons ?_
  refine lIter.mk ?_
  refine wAt_new ?_
  refine wG_i (by first | assumption | decide) ?_
  refine comp_rule (n := 37) (vs := rangeFrom 0 1 34) (aeX := fun v => [("best", .ref bp), ("kind", v)]) (t := fun _ => true) (g := gP S) (show ItIs (σ ++ τ0 ++ [⟨true, .range 0 34 1⟩]) (.rng 0 34 1) _ from rfl) (by decide) (by rfl) (fun v => ?_) (fun u v => rfl) (by decide) ?_ ?_ ?_
  ·rcases hx with rfl | ⟨q, c, y, rfl, rfl | ⟨a, rfl⟩⟩ <;> rfl
  ·intro v hv acc γ K hK
   exact hK
  ·intro v hv _ acc γ K hK
   rw [range34] at hv
   obtain ⟨i, hi, rfl⟩ := List.mem_map.mp hv
   have hK := hK γ
   unfold gP at hK
   dsimp only at hK
   refine it_map (old_app (old_app eb)) f1 ?_
   refine it_tup1 (old_app (old_app f4)) ?_
   refine wAt_i (old_app (old_app f5)) ?_
   refine wInts_i ?_
   refine wIf_b ?_
   refine if_split (fun c => ?_) (fun c => ?_)
   ·rw [if_pos c] at hK
    exact hK
   ·rw [if_neg c] at hK
    exact hK
  ·intro ae γ
   rw [List.filter_eq_self.mpr (fun _ _ => rfl), gP_aim]
   have hq := hq (τ0 ++ [⟨true, .range 0 34 1⟩] ++ (⟨true, .list ((aimP S).map AV.int)⟩ :: γ))
   simp only [← List.append_assoc] at hq
   exact hq _ S mid_get y2 y1 fun P hP => by rw [← y3]; exact y4 P hP
noncomputable def sk (f : Int → Int) : Int := (kinds34.map f).sum
theorem sum_congr {f g : Int → Int} : ∀ {l : List Int}, (∀ q ∈ l, f q = g q) → (l.map f).sum = (l.map g).sum
 | [], _ => rfl
 | a :: l, h => by rw [List.map_cons, List.map_cons, List.sum_cons, List.sum_cons, h a (List.mem_cons_self ..), sum_congr fun q hq => h q (List.mem_cons_of_mem _ hq)]
theorem sum_le {f g : Int → Int} : ∀ {l : List Int}, (∀ q ∈ l, f q ≤ g q) → (l.map f).sum ≤ (l.map g).sum
 | [], _ => Int.le_refl _
 | a :: l, h => by
  rw [List.map_cons, List.map_cons, List.sum_cons, List.sum_cons]
  have := h a (List.mem_cons_self ..)
  have := sum_le fun q hq => h q (List.mem_cons_of_mem _ hq)
  lia
theorem sum_add {f g : Int → Int} : ∀ (l : List Int), (l.map fun k => f k + g k).sum = (l.map f).sum + (l.map g).sum
 | [] => by simp
 | a :: l => by simp only [List.map_cons, List.sum_cons, sum_add l]; lia
theorem sum_zero {f : Int → Int} : ∀ {l : List Int}, (∀ q ∈ l, f q = 0) → (l.map f).sum = 0
 | [], _ => rfl
 | a :: l, h => by rw [List.map_cons, List.sum_cons, h a (List.mem_cons_self ..), sum_zero fun q hq => h q (List.mem_cons_of_mem _ hq)]; rfl
theorem sum_at {x c : Int} : ∀ {l : List Int}, l.Nodup → (l.map fun q => if q = x then c else 0).sum = if x ∈ l then c else 0
 | [], _ => by simp
 | a :: l, h => by
  rw [List.nodup_cons] at h
  rw [List.map_cons, List.sum_cons, sum_at h.2]
  by_cases e : a = x
  ·subst e
   rw [if_pos rfl, if_neg h.1, if_pos (List.mem_cons_self ..)]; lia
  ·rw [if_neg e]
   by_cases d : x ∈ l
   ·rw [if_pos d, if_pos (List.mem_cons_of_mem _ d)]; lia
   ·rw [if_neg d, if_neg (by simp [d, Ne.symm e])]; rfl
theorem sk_congr {f g : Int → Int} (h : ∀ q, 0 ≤ q → q < 34 → f q = g q) : sk f = sk g := sum_congr fun q hq => h q (mem_kinds.mp hq).1 (mem_kinds.mp hq).2
theorem sk_le {f g : Int → Int} (h : ∀ q, 0 ≤ q → q < 34 → f q ≤ g q) : sk f ≤ sk g := sum_le fun q hq => h q (mem_kinds.mp hq).1 (mem_kinds.mp hq).2
theorem sk_add {f g : Int → Int} : (sk fun q => f q + g q) = sk f + sk g := sum_add _
theorem sk_sub {f g : Int → Int} : (sk fun q => f q - g q) = sk f - sk g := sum_sub _
theorem sk_at {x c : Int} (h0 : 0 ≤ x) (h1 : x < 34) : (sk fun q => if q = x then c else 0) = c := by
 unfold sk; rw [sum_at kinds_nodup, if_pos (mem_kinds.mpr ⟨h0, h1⟩)]
theorem sk_gt {l : List Int} (h : l.length = 34) : sk (gt l) = l.sum := sum_kinds h
theorem filter_sum {P : Int → Bool} {w : Int → Int} : ∀ (l : List Int), ((l.filter P).map w).sum = (l.map fun q => if P q = true then w q else 0).sum
 | [] => rfl
 | a :: l => by
  rw [List.filter_cons, List.map_cons, List.sum_cons, ← filter_sum l]
  split
  ·rw [List.map_cons, List.sum_cons]
  ·lia
theorem filter_len {P : Int → Bool} : ∀ (l : List Int), ((l.filter P).length : Int) = (l.map fun q => if P q = true then (1 : Int) else 0).sum
 | [] => rfl
 | a :: l => by
  rw [List.filter_cons, List.map_cons, List.sum_cons, ← filter_len l]
  split
  ·rw [List.length_cons]; lia
  ·lia
theorem filter_sub {S K : List Int} (h : S.Sublist K) (hn : K.Nodup) : K.filter S.contains = S := by
 induction h with
 | slnil => rfl
 | cons a h ih =>
  rw [List.nodup_cons] at hn
  rw [List.filter_cons, if_neg, ih hn.2]
  intro c
  exact hn.1 (h.subset (by simpa using c))
 | @cons_cons S' K' a h ih =>
  rw [List.nodup_cons] at hn
  rw [List.filter_cons, if_pos (by simp)]
  congr 1
  refine Eq.trans (List.filter_congr fun x hx => ?_) (ih hn.2)
  have : x ≠ a := fun e => hn.1 (e ▸ hx)
  simp [this]
theorem kinds_map {l : List Int} (hl : l.length = 34) : kinds34.map (gt l) = l := by
 apply List.ext_getElem
 ·simp [kinds34, hl]
 ·intro i h1 h2
  simp only [kinds34, List.map_map, List.getElem_map, List.getElem_range, Function.comp]
  unfold gt
  rw [List.getD_eq_getElem?_getD, Int.toNat_natCast, List.getElem?_eq_getElem h2]
  rfl
theorem gt_kinds {f : Int → Int} {q : Int} (h0 : 0 ≤ q) (h1 : q < 34) : gt (kinds34.map f) q = f q := by
 unfold gt kinds34
 rw [List.getD_eq_getElem?_getD, List.map_map, List.getElem?_map, List.getElem?_range (by lia)]
 show f ((q.toNat : Nat) : Int) = f q
 rw [Int.toNat_of_nonneg h0]
theorem count_sk {l : List Int} {p : Int → Bool} (hl : l.length = 34) : ((l.filter p).length : Int) = sk fun q => if p (gt l q) = true then 1 else 0 := by
 rw [filter_len]
 conv => lhs; rw [← kinds_map hl]
 rw [List.map_map]; rfl
theorem len_cn : ∀ {l : List Int}, (∀ x ∈ l, 0 ≤ x ∧ x < 34) → (l.length : Int) = sk (cn l)
 | [], _ => by
  symm
  exact sum_zero fun q _ => rfl
 | a :: l, h => by
  have e : sk (cn (a :: l)) = sk fun q => cn l q + if q = a then 1 else 0 := sk_congr fun q _ _ => cn_cons
  obtain ⟨a0, a1⟩ := h a (List.mem_cons_self ..)
  rw [e, sk_add, sk_at a0 a1, ← len_cn fun x hx => h x (List.mem_cons_of_mem _ hx), List.length_cons]; lia
theorem nP_sk {h : List Int} (hl : h.length = 34) : nP h = sk fun q => if gt h q ≥ 2 then 1 else 0 := by
 unfold nP; rw [count_sk hl]; exact sk_congr fun q _ _ => by simp
theorem nK_sk {h : List Int} (hl : h.length = 34) : nK h = sk fun q => if gt h q ≥ 1 then 1 else 0 := by
 unfold nK; rw [count_sk hl]; exact sk_congr fun q _ _ => by simp
/-- a choice of seven kinds that holds the most -/
structure Choice (T S : List Int) : Prop where
 sub : S.Sublist kinds34
 len : S.length = 7
 max : ∀ P : Int → Bool, (kinds34.filter P).length = 7 → ((kinds34.filter P).map (m2 T)).sum ≤ (S.map (m2 T)).sum
noncomputable def sI (S : List Int) (q : Int) : Int := if S.contains q = true then 1 else 0
theorem Choice.seven {T S : List Int} (c : Choice T S) : sk (sI S) = 7 := by
 have := filter_len (P := S.contains) kinds34
 rw [filter_sub c.sub kinds_nodup, c.len] at this
 exact this.symm
theorem Choice.thr {T S : List Int} (c : Choice T S) {j k : Int} (j0 : 0 ≤ j) (j1 : j < 34) (k0 : 0 ≤ k) (k1 : k < 34) (hj : S.contains j = false) (hk : S.contains k = true) : m2 T j ≤ m2 T k := by
 have hjk : j ≠ k := fun e => by rw [e, hk] at hj; cases hj
 let P : Int → Bool := fun q => if q = j then true else if q = k then false else S.contains q
 have h1 : ((kinds34.filter P).length : Int) = 7 := by
  rw [filter_len]
  have : sk (fun q => if P q = true then (1 : Int) else 0) = sk fun q => sI S q + (if q = j then 1 else 0) - (if q = k then 1 else 0) := sk_congr fun q _ _ => by
   show (if (if q = j then true else if q = k then false else S.contains q) = true then (1 : Int) else 0) = _
   unfold sI
   by_cases a : q = j
   ·subst a; rw [if_pos rfl, hj, if_neg hjk]; simp
   ·rw [if_neg a]
    by_cases b : q = k
    ·subst b; rw [if_pos rfl, hk]; simp [a]
    ·rw [if_neg b]; simp [a, b]
  exact this.trans (by rw [sk_sub, sk_add, sk_at j0 j1, sk_at k0 k1, c.seven]; rfl)
 have h2 := c.max P (by lia)
 rw [filter_sum] at h2
 have h3 : (S.map (m2 T)).sum = sk fun q => if S.contains q = true then m2 T q else 0 := by
  conv => lhs; rw [← filter_sub c.sub kinds_nodup]
  exact filter_sum _
 have h4 : sk (fun q => if P q = true then m2 T q else 0) = sk fun q => (if S.contains q = true then m2 T q else 0) + (if q = j then m2 T j else 0) - (if q = k then m2 T k else 0) := sk_congr fun q _ _ => by
  show (if (if q = j then true else if q = k then false else S.contains q) = true then m2 T q else 0) = _
  by_cases a : q = j
  ·subst a; rw [if_pos rfl, hj, if_neg hjk]; simp
  ·rw [if_neg a]
   by_cases b : q = k
   ·subst b; rw [if_pos rfl, hk]; simp [a]
   ·rw [if_neg b]; simp [a, b]
 have h5 : sk (fun q => if P q = true then m2 T q else 0) ≤ (S.map (m2 T)).sum := h2
 rw [h4, sk_sub, sk_add, sk_at j0 j1, sk_at k0 k1, ← h3] at h5
 lia
theorem aimP_gt {S : List Int} {q : Int} (h0 : 0 ≤ q) (h1 : q < 34) : gt (aimP S) q = if S.contains q = true then 2 else 0 := gt_kinds h0 h1
noncomputable abbrev gdP (s : Bool) (t r p : Nat) : Prop := if s = true then (2 ≤ t → r = 0) ∧ (t < 2 → r + t ≤ 2 ∧ p = 0) else r = 0 ∧ p ≤ t
noncomputable abbrev hP (s : Bool) (r p : Nat) : Int := if s = true then 2 - (r : Int) + (p : Int) else (p : Int)
theorem ptA : ∀ (s : Bool) (t : Fin 5) (r : Fin 3) (p : Fin 5), gdP s t.1 r.1 p.1 → (s = true → 1 ≤ t.1) → (s = false → ¬ hP s r.1 p.1 ≥ 2) → (if hP s r.1 p.1 ≥ 2 then (1 : Int) else 0) = (if s = true then 1 else 0) - (r.1 : Int) := by decide
theorem ptB : ∀ (s : Bool) (t : Fin 5) (r : Fin 3) (p : Fin 5), gdP s t.1 r.1 p.1 → (s = true → 1 ≤ t.1) → (if s = true then (1 : Int) else 0) ≤ if hP s r.1 p.1 ≥ 1 then 1 else 0 := by decide
theorem ptC : ∀ (s : Bool) (t : Fin 5) (r : Fin 3) (p : Fin 5), gdP s t.1 r.1 p.1 → (s = false → ¬ hP s r.1 p.1 ≥ 1) → (if hP s r.1 p.1 ≥ 2 then (1 : Int) else 0) + (if hP s r.1 p.1 ≥ 1 then 1 else 0) = (if s = true then 1 else 0) + (if s = true then 1 else 0) - (r.1 : Int) := by decide
theorem ptD : ∀ (s : Bool) (r : Fin 3) (p : Fin 5), (s = false → ¬ hP s r.1 p.1 ≥ 1) → (if hP s r.1 p.1 ≥ 1 then (1 : Int) else 0) ≤ if s = true then 1 else 0 := by decide
theorem num_pairs {T S RL RS H : List Int} (c : Choice T S) (hd : Hd T) (t4 : ∀ j : Int, 0 ≤ j → j < 34 → gt T j ≤ 4) (sT : T.sum = 13) (o : On (aimP S) RL RS H) (c1 : ∀ j : Int, 0 ≤ j → j < 34 → cn RL j ≤ mx (aimP S) T j) (c2 : ∀ j : Int, 0 ≤ j → j < 34 → cn RS j ≤ mx T (aimP S) j) (hr : ∀ x ∈ RL, 0 ≤ x ∧ x < 34) :
  chiV H = (RL.length : Int) - 1 := by
 have hRL := len_cn hr
 have hP' := nP_sk o.len
 have hK := nK_sk o.len
 have h7 := c.seven
 have base : ∀ q : Int, 0 ≤ q → q < 34 → ∃ (t : Fin 5) (r : Fin 3) (p : Fin 5), gt T q = t.1 ∧ cn RL q = r.1 ∧ gt H q = hP (S.contains q) r.1 p.1 ∧ gdP (S.contains q) t.1 r.1 p.1 := by
  intro q q0 q1
  have t0 := hd.nn q q0 q1
  have tm := t4 q q0 q1
  have r0 := cn_nonneg (l := RL) (j := q)
  have p0 := cn_nonneg (l := RS) (j := q)
  have v := o.val q q0 q1
  have r1 := c1 q q0 q1
  have p1 := c2 q q0 q1
  unfold mx at r1 p1
  rw [aimP_gt q0 q1] at v r1 p1
  clear c hd t4 sT o c1 c2 hr hRL hP' hK h7
  generalize S.contains q = s at *
  generalize gt H q = h at *
  generalize gt T q = t at *
  generalize cn RL q = r at *
  generalize cn RS q = p at *
  obtain ⟨t, rfl⟩ := Int.eq_ofNat_of_zero_le t0
  obtain ⟨r, rfl⟩ := Int.eq_ofNat_of_zero_le r0
  obtain ⟨p, rfl⟩ := Int.eq_ofNat_of_zero_le p0
  subst v
  cases s
  ·have r1 : (r : Int) ≤ (if (0 : Int) - (t : Int) > 0 then (0 : Int) - (t : Int) else (0 : Int)) := r1
   have p1 : (p : Int) ≤ (if (t : Int) - (0 : Int) > 0 then (t : Int) - (0 : Int) else (0 : Int)) := p1
   have hr0 : r = 0 := by split at r1 <;> lia
   have hp : p ≤ t := by split at p1 <;> lia
   subst hr0
   exact ⟨⟨t, by lia⟩, 0, ⟨p, by lia⟩, rfl, rfl, by show (0 : Int) - 0 + p = p; lia, rfl, hp⟩
  ·have r1 : (r : Int) ≤ (if (2 : Int) - (t : Int) > 0 then (2 : Int) - (t : Int) else (0 : Int)) := r1
   have p1 : (p : Int) ≤ (if (t : Int) - (2 : Int) > 0 then (t : Int) - (2 : Int) else (0 : Int)) := p1
   have hr2 : (2 ≤ t → r = 0) ∧ (t < 2 → r + t ≤ 2) ∧ r ≤ 2 := by split at r1 <;> lia
   have hp2 : (t < 2 → p = 0) ∧ p ≤ 4 := by split at p1 <;> lia
   exact ⟨⟨t, by lia⟩, ⟨r, by lia⟩, ⟨p, by lia⟩, rfl, rfl, rfl, hr2.1, fun z => ⟨hr2.2.1 z, hp2.1 z⟩⟩
 have nn2 : ∀ j : Int, 0 ≤ j → j < 34 → S.contains j = false → ¬ gt H j ≥ 2 := by
  intro j j0 j1 hs hh
  have tj : gt T j ≥ 2 := by
   obtain ⟨t, r, p, a1, a2, a3, g⟩ := base j j0 j1
   rw [hs] at a3 g
   have a3 : gt H j = p.1 := a3
   rw [a3] at hh
   rw [a1]
   exact Int.le_trans hh (Int.ofNat_le.mpr g.2)
  have hle : sk (fun q => sI S q + sI S q + if q = j then 2 else 0) ≤ sk (gt T) := sk_le fun q q0 q1 => by
   have t0 := hd.nn q q0 q1
   unfold sI
   cases a1 : S.contains q
   ·show (0 : Int) + 0 + (if q = j then 2 else 0) ≤ _
    split
    ·rename_i e; rw [e]; lia
    ·lia
   ·have := c.thr j0 j1 q0 q1 hs a1
    unfold m2 at this
    show (1 : Int) + 1 + (if q = j then 2 else 0) ≤ _
    rw [if_neg (fun e : q = j => by rw [e, hs] at a1; cases a1)]
    split at this <;> split at this <;> lia
  rw [sk_add, sk_add, sk_at j0 j1, h7, sk_gt hd.len, sT] at hle
  lia
 by_cases ex : ∃ j : Int, 0 ≤ j ∧ j < 34 ∧ S.contains j = false ∧ gt H j ≥ 1
 ·have all : ∀ q : Int, 0 ≤ q → q < 34 → S.contains q = true → gt T q ≥ 1 := fun q q0 q1 hs => by
   obtain ⟨j, j0, j1, js, jh⟩ := ex
   obtain ⟨t, r, p, a1, a2, a3, g⟩ := base j j0 j1
   rw [js] at a3 g
   have a3 : gt H j = p.1 := a3
   rw [a3] at jh
   have tj : gt T j ≥ 1 := by rw [a1]; exact Int.le_trans jh (Int.ofNat_le.mpr g.2)
   clear a1 a2 a3 jh g
   have := c.thr j0 j1 q0 q1 js hs
   unfold m2 at this
   split at this <;> split at this <;> lia
  have e1 : nP H = 7 - RL.length := by
   rw [hP', hRL, ← h7, ← sk_sub]
   refine sk_congr fun q q0 q1 => ?_
   obtain ⟨t, r, p, a1, a2, a3, g⟩ := base q q0 q1
   have n2 := nn2 q q0 q1
   have al := all q q0 q1
   rw [a3] at n2 ⊢
   rw [a1] at al
   rw [a2]
   exact ptA _ t r p g (fun hs => Int.ofNat_le.mp (al hs)) n2
  have e2 : nK H ≥ 7 := by
   rw [hK, ← h7]
   refine sk_le fun q q0 q1 => ?_
   obtain ⟨t, r, p, a1, a2, a3, g⟩ := base q q0 q1
   have al := all q q0 q1
   rw [a1] at al
   rw [a3]
   exact ptB _ t r p g (fun hs => Int.ofNat_le.mp (al hs))
  unfold chiV
  split
  ·lia
  ·rw [if_neg (by lia)]; lia
 ·have none' : ∀ q : Int, 0 ≤ q → q < 34 → S.contains q = false → ¬ gt H q ≥ 1 := fun q q0 q1 hs hh => ex ⟨q, q0, q1, hs, hh⟩
  clear ex nn2
  have e1 : nP H + nK H = 14 - RL.length := by
   have : sk (fun q => (if gt H q ≥ 2 then (1 : Int) else 0) + (if gt H q ≥ 1 then 1 else 0)) = sk fun q => sI S q + sI S q - cn RL q := sk_congr fun q q0 q1 => by
    obtain ⟨t, r, p, a1, a2, a3, g⟩ := base q q0 q1
    have no := none' q q0 q1
    rw [a3] at no ⊢
    rw [a2]
    exact ptC _ t r p g no
   rw [sk_add, sk_sub, sk_add, ← hP', ← hK, ← hRL, h7] at this
   lia
  have e2 : nK H ≤ 7 := by
   rw [hK, ← h7]
   refine sk_le fun q q0 q1 => ?_
   obtain ⟨t, r, p, a1, a2, a3, g⟩ := base q q0 q1
   have no := none' q q0 q1
   rw [a3] at no ⊢
   exact ptD _ r p no
  have e3 : nP H ≤ nK H := by
   rw [hP', hK]
   refine sk_le fun q q0 q1 => ?_
   generalize gt H q = x
   clear base none' e1 e2 c hd t4 sT o c1 c2 hr hRL hP' hK h7
   split <;> split <;> lia
  clear base none' c hd t4 sT o c1 c2 hr hRL hP' hK h7
  unfold chiV
  split
  ·lia
  ·split <;> lia
theorem ends_sub : endsI.Sublist kinds34 := by decide
theorem ends_sk {w : Int → Int} : (endsI.map w).sum = sk fun q => if endsI.contains q = true then w q else 0 := by
 conv => lhs; rw [← filter_sub ends_sub kinds_nodup]
 exact filter_sum _
theorem sk_ends : (sk fun q => if endsI.contains q = true then 1 else 0) = 13 := by decide
theorem aimE_gt {f q : Int} (h0 : 0 ≤ q) (h1 : q < 34) : gt (aimE f) q = if endsI.contains q = true then (if q = f then 2 else 1) else 0 := by
 have : aimE f = kinds34.map fun q => if endsI.contains q = true then (if q = f then 2 else 1) else 0 := by
  unfold aimE kinds34
  rw [List.map_map]
  refine List.map_congr_left fun i hi => ?_
  show (if endsI.contains (i : Int) then _ else _) = if endsI.contains (i : Int) = true then _ else _
  split <;> rfl
 rw [this, gt_kinds h0 h1]
theorem sum_one_le {w : Int → Int} {x : Int} : ∀ {l : List Int}, x ∈ l → (∀ q ∈ l, 0 ≤ w q) → w x ≤ (l.map w).sum
 | a :: l, h, hn => by
  rw [List.map_cons, List.sum_cons]
  have hnl : 0 ≤ (l.map w).sum := by
   have := sum_le (f := fun _ => 0) (g := w) (l := l) fun q hq => hn q (List.mem_cons_of_mem _ hq)
   rw [sum_zero (fun _ _ => rfl)] at this; exact this
  have := hn a (List.mem_cons_self ..)
  rcases List.mem_cons.mp h with rfl | h
  ·lia
  ·have := sum_one_le h fun q hq => hn q (List.mem_cons_of_mem _ hq)
   lia
theorem b2i_nonneg {b : Bool} : 0 ≤ b2iA b := by cases b <;> decide
theorem cE_zero {h : List Int} : cE h endsI = 0 ↔ ∀ e ∈ endsI, ¬ gt h e ≥ 2 := by
 unfold cE
 constructor
 ·intro hz e he hh
  have := sum_one_le (w := fun e => b2iA (decide (gt h e ≥ 2))) he fun q _ => b2i_nonneg
  simp only [show decide (gt h e ≥ 2) = true by simpa using hh, b2iA, if_true] at this
  simp only [b2iA] at hz
  lia
 ·intro hz
  exact sum_zero fun q hq => by simp only [show decide (gt h q ≥ 2) = false by simpa using hz q hq]; rfl
noncomputable abbrev aV (i f : Bool) : Nat := if i = true then (if f = true then 2 else 1) else 0
noncomputable abbrev gdE (a t r p : Nat) : Prop := (a ≤ t → r = 0) ∧ (t ≤ a → p = 0) ∧ (t < a → r + t ≤ a) ∧ (0 < p → p + a ≤ t)
theorem ptE : ∀ (i f : Bool) (t : Fin 5) (r : Fin 3) (p : Fin 5), gdE (aV i f) t.1 r.1 p.1 → (f = true → i = true) → (r.1 : Int) = (if i = true then 1 else 0) - (if i = true then b2iA (((aV i f : Nat) : Int) - (r.1 : Int) + (p.1 : Int) != 0) else 0) + (if f = true then 1 - (if ((aV i f : Nat) : Int) - (r.1 : Int) + (p.1 : Int) ≥ 2 then 1 else 0) else 0) := by decide
theorem ptF : ∀ (t : Fin 5) (r : Fin 3) (p : Fin 5), gdE 2 t.1 r.1 p.1 → 2 ≤ t.1 → (2 : Int) - (r.1 : Int) + (p.1 : Int) ≥ 2 := by decide
theorem ptG : ∀ (t : Fin 5) (r : Fin 3) (p : Fin 5), gdE 1 t.1 r.1 p.1 → (1 : Int) - (r.1 : Int) + (p.1 : Int) ≥ 2 → 2 ≤ t.1 := by decide
theorem num_ends {T RL RS H : List Int} {f : Int} (hd : Hd T) (t4 : ∀ j : Int, 0 ≤ j → j < 34 → gt T j ≤ 4) (hf : f ∈ endsI) (pf : ∀ e ∈ endsI, gt T e ≥ 2 → gt T f ≥ 2) (o : On (aimE f) RL RS H) (c1 : ∀ j : Int, 0 ≤ j → j < 34 → cn RL j ≤ mx (aimE f) T j) (c2 : ∀ j : Int, 0 ≤ j → j < 34 → cn RS j ≤ mx T (aimE f) j) (hr : ∀ x ∈ RL, 0 ≤ x ∧ x < 34) :
  kokV H = (RL.length : Int) - 1 := by
 have hRL := len_cn hr
 have f01 := ends_rng hf
 have hfc : endsI.contains f = true := by simpa using hf
 have base : ∀ q : Int, 0 ≤ q → q < 34 → ∃ (t : Fin 5) (r : Fin 3) (p : Fin 5), gt T q = t.1 ∧ cn RL q = r.1 ∧ gt H q = ((aV (endsI.contains q) (q == f) : Nat) : Int) - (r.1 : Int) + (p.1 : Int) ∧ gdE (aV (endsI.contains q) (q == f)) t.1 r.1 p.1 := by
  intro q q0 q1
  have t0 := hd.nn q q0 q1
  have tm := t4 q q0 q1
  have r0 := cn_nonneg (l := RL) (j := q)
  have p0 := cn_nonneg (l := RS) (j := q)
  have v := o.val q q0 q1
  have r1 := c1 q q0 q1
  have p1 := c2 q q0 q1
  unfold mx at r1 p1
  have ha : gt (aimE f) q = ((aV (endsI.contains q) (q == f) : Nat) : Int) := by
   rw [aimE_gt q0 q1]
   cases endsI.contains q
   ·rfl
   ·by_cases e : q = f
    ·subst e; simp [aV]
    ·simp [aV, e]
  have ha2 : aV (endsI.contains q) (q == f) ≤ 2 := by
   cases endsI.contains q <;> cases (q == f) <;> decide
  rw [ha] at v r1 p1
  clear hd t4 hf pf o c1 c2 hr hRL f01 hfc ha
  generalize aV (endsI.contains q) (q == f) = a at *
  generalize gt H q = h at *
  generalize gt T q = t at *
  generalize cn RL q = r at *
  generalize cn RS q = p at *
  obtain ⟨t, rfl⟩ := Int.eq_ofNat_of_zero_le t0
  obtain ⟨r, rfl⟩ := Int.eq_ofNat_of_zero_le r0
  obtain ⟨p, rfl⟩ := Int.eq_ofNat_of_zero_le p0
  have g : gdE a t r p ∧ r ≤ 2 ∧ p ≤ 4 := by
   clear v
   split at r1 <;> split at p1 <;> lia
  exact ⟨⟨t, by lia⟩, ⟨r, by lia⟩, ⟨p, by lia⟩, rfl, rfl, v, g.1⟩
 have hc : (if cE H endsI ≠ 0 then (1 : Int) else 0) = if gt H f ≥ 2 then 1 else 0 := by
  by_cases h : gt H f ≥ 2
  ·rw [if_pos h, if_pos]
   intro hz
   exact cE_zero.mp hz f hf h
  ·rw [if_neg h, if_neg]
   intro hz
   refine hz (cE_zero.mpr fun e he hh => ?_)
   by_cases hef : e = f
   ·subst hef; exact h hh
   ·have e01 := ends_rng he
    have te : gt T e ≥ 2 := by
     obtain ⟨t, r, p, a1, a2, a3, g⟩ := base e e01.1 e01.2
     rw [show endsI.contains e = true by simpa using he, show (e == f) = false by simpa using hef] at a3 g
     rw [a3] at hh
     rw [a1]
     exact Int.ofNat_le.mpr (ptG t r p g hh)
    have tf := pf e he te
    obtain ⟨t, r, p, a1, a2, a3, g⟩ := base f f01.1 f01.2
    rw [hfc, show (f == f) = true by simp] at a3 g
    rw [a1] at tf
    rw [a3] at h
    exact h (ptF t r p g (Int.ofNat_le.mp tf))
 have ht : tE H endsI = sk fun q => if endsI.contains q = true then b2iA (gt H q != 0) else 0 := ends_sk
 have hl : (RL.length : Int) = 13 - tE H endsI + 1 - (if gt H f ≥ 2 then 1 else 0) := by
  have e1 : sk (cn RL) = sk fun q => (if endsI.contains q = true then 1 else 0) - (if endsI.contains q = true then b2iA (gt H q != 0) else 0) + (if q = f then (1 - (if gt H f ≥ 2 then 1 else 0)) else 0) := sk_congr fun q q0 q1 => by
   have hq : (if q = f then (1 - (if gt H f ≥ 2 then (1 : Int) else 0)) else 0) = if (q == f) = true then (1 - (if gt H q ≥ 2 then (1 : Int) else 0)) else 0 := by
    by_cases e : q = f
    ·subst e; simp
    ·simp [e]
   rw [hq]
   obtain ⟨t, r, p, a1, a2, a3, g⟩ := base q q0 q1
   rw [a2, a3]
   exact ptE _ _ t r p g fun e => by rw [show q = f by simpa using e]; exact hfc
  rw [hRL, e1, sk_add, sk_sub, sk_ends, ← ht, sk_at f01.1 f01.2]
  clear base hc e1 ht
  lia
 unfold kokV
 rw [hc, hl]
 clear base hc hl
 lia
theorem minL3 {a b c : Int} : minL [a, b, c] = if c < (if b < a then b else a) then c else (if b < a then b else a) := by
 show [a, b, c].getD (if decide (c < [a, b, c].getD (if decide (b < a) = true then 1 else 0) 0) = true then 2 else (if decide (b < a) = true then 1 else 0)) 0 = _
 by_cases h : b < a
 ·simp only [h, decide_true, if_true]
  show [a, b, c].getD (if decide (c < b) = true then 2 else 1) 0 = _
  by_cases h2 : c < b
  ·simp [h2]
  ·simp [h2]
 ·simp only [h, decide_false, Bool.false_eq_true, if_false]
  show [a, b, c].getD (if decide (c < a) = true then 2 else 0) 0 = _
  by_cases h2 : c < a
  ·simp [h2]
  ·simp [h2]
theorem b2i_le {b : Bool} : b2iA b ≤ 1 := by cases b <;> decide
theorem kokV_ge {h : List Int} : -1 ≤ kokV h := by
 have h1 : tE h endsI ≤ 13 := by
  have : tE h endsI ≤ (endsI.map fun _ => (1 : Int)).sum := sum_le fun q _ => b2i_le
  exact Int.le_trans this (by decide)
 unfold kokV
 split <;> lia
theorem min_of {r : Int} {A : List Int} (hr : -1 ≤ r) (h1 : -1 ≤ chiV A) (h2 : -1 ≤ kokV A) (h : chiV A = -1 ∨ kokV A = -1) : minL (resL 14 r true true A) = -1 := by
 have : resL 14 r true true A = [r, chiV A, kokV A] := by
  unfold resL
  rw [if_pos ⟨by decide, rfl⟩, if_pos ⟨by decide, rfl⟩]; rfl
 rw [this, minL3]
 split <;> split at * <;> lia
noncomputable def okJ (x : Int) : Bool := x == 1 || x == 4 || x == 5
theorem okJ_or {x : Int} {n : Nat} (h : okJ x = true) (hn : n = 0 ∨ n = 2) : okJ (Builtin.bitOr x (1 * 2 ^ n)) = true := by
 unfold okJ at h
 simp only [Bool.or_eq_true, beq_iff_eq] at h
 rcases h with (rfl | rfl) | rfl <;> rcases hn with rfl | rfl <;> decide
theorem jV_ok {A : List Int} (h : ∀ j : Int, 27 ≤ j → j < 34 → gt A j = 0 ∨ gt A j = 2) : okJ (jV A) = true := by
 have n : ∀ j : Int, 27 ≤ j → j < 34 → (gt A j).toNat = 0 ∨ (gt A j).toNat = 2 := fun j a b => by rcases h j a b with e | e <;> rw [e] <;> simp
 unfold jV
 refine okJ_or (okJ_or (okJ_or (okJ_or (okJ_or (okJ_or ?_ (n 28 (by lia) (by lia))) (n 29 (by lia) (by lia))) (n 30 (by lia) (by lia))) (n 31 (by lia) (by lia))) (n 32 (by lia) (by lia))) (n 33 (by lia) (by lia))
 rcases n 27 (by lia) (by lia) with e | e <;> rw [e] <;> decide
theorem okJ_use {x : Int} (h : okJ x = true) : ¬ x ≥ 16 ∧ Builtin.bitAnd x 3 ≠ 2 ∧ Builtin.bitAnd x 10 = 0 := by
 unfold okJ at h
 simp only [Bool.or_eq_true, beq_iff_eq] at h
 rcases h with (rfl | rfl) | rfl <;> decide
theorem aimP_len {S : List Int} : (aimP S).length = 34 := by unfold aimP; rw [List.length_map]; decide
theorem twoV_sk {h : List Int} : twoV h = sk fun q => b2iA (gt h q == 2) := by
 unfold twoV sk kinds34
 rw [List.map_map]; rfl
theorem on_self {A : List Int} (h : A.length = 34) : On A [] [] A := ⟨h, fun j _ _ => by simp [cn]⟩
theorem aim_pairs {T S : List Int} {k : Nat} (c : Choice T S) (hd : Hd T) (t4 : ∀ j : Int, 0 ≤ j → j < 34 → gt T j ≤ 4) (sT : T.sum = 13) : Aim true (aimP S) T k where
 lenA := aimP_len
 hd := hd
 t4 := t4
 a0 j a b := by rw [aimP_gt a b]; split <;> lia
 a2 j a b := by rw [aimP_gt a b]; split <;> lia
 sT := sT
 sA := by
  rw [← sk_gt aimP_len]
  have : sk (gt (aimP S)) = sk fun q => sI S q + sI S q := sk_congr fun q a b => by rw [aimP_gt a b]; unfold sI; split <;> rfl
  rw [this, sk_add, c.seven]; rfl
 num RL RS H o c1 c2 hr := num_pairs c hd t4 sT o c1 c2 hr
 ag σ j n b K e hK := by
  have hv : ∀ j : Int, 0 ≤ j → j < 34 → gt (aimP S) j = 0 ∨ gt (aimP S) j = 2 := fun j a b => by rw [aimP_gt a b]; split <;> lia
  have hb : ∀ j : Int, 0 ≤ j → j < 34 → 0 ≤ gt (aimP S) j ∧ gt (aimP S) j ≤ 1000 := fun j a b => by have := hv j a b; lia
  obtain ⟨j1, j2, j3⟩ := okJ_use (jV_ok fun j a b => hv j (by lia) b)
  refine c238B e aimP_len (fun j a b => hb j (Int.le_trans (by decide) a) b) j1 j2 j3 ?_ hK
  rw [twoV_sk, ← c.seven]
  refine sk_congr fun q a b => ?_
  rw [aimP_gt a b]; unfold sI
  cases S.contains q <;> rfl
 mn r hr := by
  have := num_pairs (RL := []) (RS := []) c hd t4 sT (on_self aimP_len) (fun j _ _ => mx_nonneg) (fun j _ _ => mx_nonneg) (fun x hx => by cases hx)
  simp only [List.length_nil] at this
  exact min_of hr (by lia) kokV_ge (.inl (by lia))
theorem ends_all {P : Int → Prop} [DecidablePred P] (h : ∀ f ∈ endsI, P f) {f : Int} (hf : f ∈ endsI) : P f := h f hf
theorem kinds_of {P : Int → Prop} (h : ∀ j ∈ kinds34, P j) : ∀ j : Int, 0 ≤ j → j < 34 → P j := fun j a b => h j (mem_kinds.mpr ⟨a, b⟩)
theorem aimE_facts : ∀ f ∈ endsI, (aimE f).length = 34 ∧ (∀ j ∈ kinds34, 0 ≤ gt (aimE f) j ∧ gt (aimE f) j ≤ 2) ∧ (aimE f).sum = 14 ∧ ¬ jV (aimE f) ≥ 16 ∧ Builtin.bitAnd (jV (aimE f)) 3 = 2 ∧ prV (aimE f) = 2 ∧ partsOk (aimE f) = true ∧ chiV (aimE f) = 5 := by
 decide
theorem aim_ends {T : List Int} {f : Int} {k : Nat} (hf : f ∈ endsI) (pf : ∀ e ∈ endsI, gt T e ≥ 2 → gt T f ≥ 2) (hd : Hd T) (t4 : ∀ j : Int, 0 ≤ j → j < 34 → gt T j ≤ 4) (sT : T.sum = 13) : Aim false (aimE f) T k := by
 obtain ⟨f1, f2, f3, f4, f5, f6, f7, f8⟩ := aimE_facts f hf
 have hb : ∀ j : Int, 0 ≤ j → j < 34 → 0 ≤ gt (aimE f) j ∧ gt (aimE f) j ≤ 1000 := fun j a b => by have := kinds_of f2 j a b; lia
 refine ⟨f1, hd, t4, fun j a b => (kinds_of f2 j a b).1, fun j a b => (kinds_of f2 j a b).2, sT, f3, fun RL RS H o c1 c2 hr => num_ends hd t4 hf pf o c1 c2 hr, fun σ j n b K e hK => ?_, fun r hr => ?_⟩
 ·have hK := hK []
  rw [List.append_nil] at hK
  exact c238A e f1 (fun j a b => hb j (Int.le_trans (by decide) a) b) f4 f5 f6 f7 hK
 ·have := num_ends (RL := []) (RS := []) hd t4 hf pf (on_self f1) (fun j _ _ => mx_nonneg) (fun j _ _ => mx_nonneg) (fun x hx => by cases hx)
  simp only [List.length_nil] at this
  exact min_of hr (by lia) kokV_ge (.inr (by lia))
theorem pick_ok {T : List Int} (hd : Hd T) : (pickE T endsI (99, 0)).2 ∈ endsI ∧ ∀ e ∈ endsI, gt T e ≥ 2 → gt T (pickE T endsI (99, 0)).2 ≥ 2 := by
 obtain ⟨h1, h2, h3⟩ := pickE_spec (T := T) endsI (99, 0)
 generalize pickE T endsI (99, 0) = p at h1 h2 h3
 have le2 : ∀ q, lkV T q endsI ≤ 26 := fun q => by
  have : lkV T q endsI ≤ (endsI.map fun _ => (2 : Int)).sum := sum_le fun x hx => by
   obtain ⟨a, b⟩ := ends_rng hx
   have := hd.nn x a b
   unfold lk1
   split <;> split <;> lia
  exact Int.le_trans this (by decide)
 rcases h3 with rfl | ⟨h3, h4⟩
 ·have := h2 0 (by decide)
  have := le2 0
  lia
 ·refine ⟨h3, fun e he h => ?_⟩
  have h5 := h2 e he
  rw [h4] at h5
  obtain ⟨p0, p1⟩ := ends_rng h3
  obtain ⟨e0, e1⟩ := ends_rng he
  have key : ∀ y ∈ endsI, lkV T y endsI = ((endsI.map fun x => if 1 - gt T x > 0 then 1 - gt T x else 0).sum) + if gt T y ≤ 1 then 1 else 0 := by
   intro y hy
   obtain ⟨y0, y1⟩ := ends_rng hy
   unfold lkV
   rw [ends_sk, ends_sk]
   have : (sk fun q => if endsI.contains q = true then lk1 T y q else 0) = sk fun q => (if endsI.contains q = true then (if 1 - gt T q > 0 then 1 - gt T q else 0) else 0) + if q = y then (if gt T y ≤ 1 then 1 else 0) else 0 := sk_congr fun q a b => by
    have := hd.nn q a b
    by_cases hq : q = y
    ·subst hq
     have hyc : endsI.contains q = true := by simpa using hy
     simp only [hyc, if_true]
     unfold lk1
     rw [if_pos rfl]
     split <;> split <;> split <;> lia
    ·rw [if_neg hq]
     unfold lk1
     rw [if_neg hq]
     split <;> lia
   rw [this, sk_add, sk_at y0 y1]
  rw [key _ h3, key _ he] at h5
  rw [if_neg (by lia : ¬ gt T e ≤ 1)] at h5
  split at h5 <;> lia
theorem Aim.numT {u : Bool} {A T : List Int} {k : Nat} (M : Aim u A T k) : numV u T = sk (mx A T) - 1 := by
 have cL : ∀ j : Int, 0 ≤ j → j < 34 → cn (lackOf A T kinds34) j = mx A T j := fun j a b => by rw [cn_lackOf kinds_nodup, if_pos (mem_kinds.mpr ⟨a, b⟩)]
 have cS : ∀ j : Int, 0 ≤ j → j < 34 → cn (lackOf T A kinds34) j = mx T A j := fun j a b => by rw [cn_lackOf kinds_nodup, if_pos (mem_kinds.mpr ⟨a, b⟩)]
 have hr : ∀ x ∈ lackOf A T kinds34, 0 ≤ x ∧ x < 34 := fun x hx => mem_kinds.mp (lackOf_mem hx)
 have o : On A (lackOf A T kinds34) (lackOf T A kinds34) T := ⟨M.hd.len, fun j a b => by
  rw [cL j a b, cS j a b]
  unfold mx; split <;> split <;> lia⟩
 rw [M.num _ _ T o (fun j a b => by rw [cL j a b]; exact Int.le_refl _) (fun j a b => by rw [cS j a b]; exact Int.le_refl _) hr, len_cn hr]
 congr 1
 exact sk_congr fun q a b => cL q a b
structure LW (σ : Sto) (tp op bp pp ep : Nat) (T O A E : List Int) (vs : List AV) : Prop where
 h0 : σ[0]? = some ⟨false, .fset vs⟩
 t : σ[tp]? = some ⟨true, .list (T.map AV.int)⟩
 o : σ[op]? = some ⟨true, .list (O.map AV.int)⟩
 b : σ[bp]? = some ⟨true, .list (T.map AV.int)⟩
 p : σ[pp]? = some ⟨true, .list (A.map AV.int)⟩
 e : σ[ep]? = some ⟨true, .list (E.map AV.int)⟩
theorem LW.app {σ τ : Sto} {tp op bp pp ep : Nat} {T O A E : List Int} {vs : List AV} (w : LW σ tp op bp pp ep T O A E vs) : LW (σ ++ τ) tp op bp pp ep T O A E vs := ⟨old_app w.h0, old_app w.t, old_app w.o, old_app w.b, old_app w.p, old_app w.e⟩
noncomputable abbrev aeQ (sc tp op : Nat) (pk : Int) (bp pp ep : Nat) (x : Loc) : Loc := ("script", .ref sc) :: ("tiles", .ref tp) :: ("order", .ref op) :: ("pick", .int pk) :: ("before", .ref bp) :: ("pairs_aim", .ref pp) :: ("ends_aim", .ref ep) :: x
noncomputable def stW (j : Nat) : Stmt := (dBody 24 1000).getD j (.Pass pos0)
set_option maxHeartbeats 4000000 in
/-- the law's first half: the deal, the aims, the ways -/
theorem law_head {σ : Sto} {sc : Nat} {b : Bool} {S : List Int} {vs : List AV} {Q : KE} (h0 : σ[0]? = some ⟨false, .fset vs⟩) (hv : vs.Perm endsA) (es : σ[sc]? = some ⟨b, .list (S.map AV.int)⟩) (hl : S.length ≤ 63)
  (hq : ∀ (σ' : Sto) (tp op bp pp ep : Nat) (T O A E : List Int) (pk : Int), LW σ' tp op bp pp ep T O A E vs → Deal T O → O.length = 13 → Aim true A T 52 → Aim false E T 52 →
   seqA (execS XW (callA XW 58) 40 (dScope 24 1000)) ((dBody 24 1000).drop 7) (aeQ sc tp op pk bp pp ep []) σ' fun fl _ σ => match fl with | .next => Q .none σ | .ret v => Q v σ | _ => False) :
  callA XW 59 321 [.ref sc] σ Q := by
 refine call_of (fn := fnAt 24 1000 []) (ae := [("script", .ref sc)]) (by rfl) ?_
 refine s_cons ?_
 refine c292 (n := 56) es hl fun τ0 p tp op T O ep e1 e2 dl hO _ => ?_
 refine unpack_i ep rfl ?_
 have h0' := old_app (τ := τ0) h0
 have es' := old_app (τ := τ0) es
 generalize (σ ++ τ0 : Sto) = σ1 at *
 refine s_mid (fun a τ => ∃ (τ0 : Sto) (pk : Int), τ = σ1 ++ τ0 ∧ a = ([("script", .ref sc), ("tiles", .ref tp), ("order", .ref op), ("pick", .int pk)] : Loc)) ?_ ?_
 ·refine slice_list es' (by lia) rfl rfl ?_
  refine wLst_new ?_
  refine wNums_i ?_
  exact ⟨rfl, _, _, rfl, rfl⟩
 rintro a τ ⟨τ1, pk, rfl, rfl⟩
 have h0' := old_app (τ := τ1) h0'
 have e1 := old_app (τ := τ1) e1
 have e2 := old_app (τ := τ1) e2
 clear es' ep
 generalize (σ1 ++ τ1 : Sto) = σ2 at *
 have hT := dl.hd.len
 refine s_cons ?_
 refine slice_list e1 (by lia) rfl rfl ?_
 rw [take_all]
 have h0' := old_app (τ := [⟨true, .list (T.map AV.int)⟩]) h0'
 have e1 := old_app (τ := [⟨true, .list (T.map AV.int)⟩]) e1
 have e2 := old_app (τ := [⟨true, .list (T.map AV.int)⟩]) e2
 have e3 : (σ2 ++ [⟨true, .list (T.map AV.int)⟩] : Sto)[σ2.length]? = some ⟨true, .list (T.map AV.int)⟩ := inc_new
 generalize (σ2 ++ [⟨true, .list (T.map AV.int)⟩] : Sto) = σ3 at *
 generalize σ2.length = bp at *
 refine s_cons ?_
 refine c297 (k := 57) e1 hT fun τ3 pp U e4 c2 c3 c4 => ?_
 have ch : Choice T U := ⟨c2, c3, c4⟩
 have h0' := old_app (τ := τ3) h0'
 have e1 := old_app (τ := τ3) e1
 have e2 := old_app (τ := τ3) e2
 have e3 := old_app (τ := τ3) e3
 generalize (σ3 ++ τ3 : Sto) = σ4 at *
 obtain ⟨pk1, pk2⟩ := pick_ok dl.hd
 refine s_cons ?_
 refine c302 (n := 56) e1 hT fun τ4 ep e5 => ?_
 generalize (pickE T endsI (99, 0)).2 = f at *
 have w : LW (σ4 ++ τ4) tp op bp pp ep T O (aimP U) (aimE f) vs := ⟨old_app h0', old_app e1, old_app e2, old_app e3, old_app e4, e5⟩
 clear h0' e1 e2 e3 e4 e5
 generalize (σ4 ++ τ4 : Sto) = σ5 at *
 have sT : T.sum = 13 := by rw [dl.sum, hO]; rfl
 have MA : Aim true (aimP U) T 52 := aim_pairs ch dl.hd dl.le sT
 have ME : Aim false (aimE f) T 52 := aim_ends pk1 pk2 dl.hd dl.le sT
 obtain ⟨RA, rA1, rA2⟩ := reg_ex (k := 52) (cnt := 14) MA.lenA MA.a0 MA.sA (by decide) (by decide)
 obtain ⟨RE', rE1, rE2⟩ := reg_ex (k := 52) (cnt := 14) ME.lenA ME.a0 ME.sA (by decide) (by decide)
 have hrA : RegIs 52 14 (aimP U) RA.mn := ⟨RA, rA1, rfl⟩
 have hrE : RegIs 52 14 (aimE f) RE'.mn := ⟨RE', rE1, rfl⟩
 clear rA1 rE1
 generalize RA.mn = ra at *
 generalize RE'.mn = re at *
 refine s_ap (aeQ sc tp op pk bp pp ep []) σ5 ?_ ?_
 ·refine c316 (k := 52) w.t w.p w.h0 hv MA hrA rA2 fun τ => ?_
  refine wIf_f ?_
  exact s_nil ⟨rfl, τ, rfl, rfl⟩
 intro τ5
 have w := w.app (τ := τ5)
 generalize (σ5 ++ τ5 : Sto) = σ6 at *
 refine s_ap (aeQ sc tp op pk bp pp ep []) σ6 ?_ ?_
 ·refine c316 (k := 52) w.t w.e w.h0 hv ME hrE rE2 fun τ => ?_
  refine wIf_f ?_
  exact s_nil ⟨rfl, τ, rfl, rfl⟩
 intro τ6
 exact hq _ _ _ _ _ _ _ _ _ _ _ (w.app (τ := τ6)) dl hO MA ME
noncomputable def gM (A T : List Int) : AV → AV
 | .int i => .int (mx A T i)
 | _ => .none
theorem gM_map (A T : List Int) : (rangeFrom 0 1 34).map (gM A T) = (kinds34.map (mx A T)).map AV.int := by
 rw [range34, List.map_map]
 unfold kinds34
 rw [List.map_map, List.map_map]
 rfl
noncomputable abbrev aeV (sc tp op : Nat) (pk : Int) (bp pp ep : Nat) (u1 u2 : Bool) (sp : Nat) (x : Loc) : Loc := aeQ sc tp op pk bp pp ep (("with_pairs", .bool u1) :: ("with_ends", .bool u2) :: ("several", .ref sp) :: x)
section
variable {σ σb : Sto} {sc tp op bp pp ep sp : Nat} {T O A E L : List Int} {vs : List AV} {pk : Int} {u1 u2 : Bool}
set_option maxHeartbeats 2000000 in
theorem add_pairs (w : LW σb tp op bp pp ep T O A E vs) (M : Aim true A T 52) (hT : T.length = 34) (hx : ∃ γ, σ = σb ++ γ) (hs : σ[sp]? = some ⟨true, .list (L.map AV.int)⟩) (hb : σb.length ≤ sp) (hL : L.length ≤ 10) :
  execS XW (callA XW 58) 40 (dScope 24 1000) (stW 10) (aeV sc tp op pk bp pp ep u1 u2 sp []) σ fun fl a τ => fl = .next ∧ a = aeV sc tp op pk bp pp ep u1 u2 sp [] ∧ (∃ γ, τ = σb ++ γ) ∧ τ[sp]? = some ⟨true, .list ((L ++ if u1 = true then [chiV T] else []).map AV.int)⟩ := by
 have hn := M.numT
 have hAl := M.lenA
 obtain ⟨γ0, rfl⟩ := hx
 have w := w.app (τ := γ0)
 refine wIf_b ?_
 refine if_split (fun q => ?_) (fun q => ?_)
 ·rw [if_pos q]
  refine s_cons ?_
  refine res_list hs ?_
  refine lIter.mk ?_
  refine wAt_new ?_
  refine wG_i (by first | assumption | decide) ?_
  refine comp_rule (n := 33) (vs := rangeFrom 0 1 34) (ae0 := [("tiles", .ref tp), ("pairs_aim", .ref pp)]) (aeX := fun v => [("tiles", .ref tp), ("pairs_aim", .ref pp), ("kind", v)]) (t := fun _ => true) (g := gM A T) (show ItIs (σb ++ γ0 ++ [⟨true, .range 0 34 1⟩]) (.rng 0 34 1) _ from rfl) (by decide) (by rfl) (fun v => rfl) (fun u v => rfl) (by decide) ?_ ?_ ?_
  ·intro v hv acc γ K hK
   exact hK
  ·intro v hv _ acc γ K hK
   rw [range34] at hv
   obtain ⟨i, hi, rfl⟩ := List.mem_map.mp hv
   have hi := List.mem_range.mp hi
   have e1 : (σb ++ γ0 ++ [⟨true, .range 0 34 1⟩] ++ (⟨true, .list acc⟩ :: γ) : Sto)[tp]? = some ⟨true, .list (T.map AV.int)⟩ := old_app (old_app w.t)
   have e2 : (σb ++ γ0 ++ [⟨true, .range 0 34 1⟩] ++ (⟨true, .list acc⟩ :: γ) : Sto)[pp]? = some ⟨true, .list (A.map AV.int)⟩ := old_app (old_app w.p)
   refine it_list (by assumption) (by assumption) (by lia) (by lia) ?_
   refine it_list (by assumption) (by assumption) (by lia) (by lia) ?_
   exact hK γ
  ·intro ae γ
   rw [List.filter_eq_self.mpr (fun _ _ => rfl), gM_map]
   refine wLst_mid ?_
   refine wNums_i ?_
   rw [sumA_eq]
   have hs' : (σb ++ γ0 ++ [⟨true, .range 0 34 1⟩] ++ (⟨true, .list ((kinds34.map (mx A T)).map AV.int)⟩ :: γ) : Sto)[sp]? = some ⟨true, .list (L.map AV.int)⟩ := old_app (old_app hs)
   refine wLst_i hs' (wG_i (by rw [List.length_map]; lia) ?_)
   refine ⟨rfl, rfl, ?_, ?_⟩
   ·rw [List.append_assoc, List.append_assoc, set_app hb]
    exact ⟨_, rfl⟩
   ·rw [List.getElem?_set_self (List.getElem?_eq_some_iff.mp hs').1, List.map_append]
    rw [show chiV T = (kinds34.map (mx A T)).sum - 1 from hn]
    rfl
 ·rw [if_neg q]
  exact s_nil ⟨rfl, rfl, ⟨γ0, rfl⟩, by simpa using hs⟩
set_option maxHeartbeats 2000000 in
theorem add_ends (w : LW σb tp op bp pp ep T O A E vs) (M : Aim false E T 52) (hT : T.length = 34) (hx : ∃ γ, σ = σb ++ γ) (hs : σ[sp]? = some ⟨true, .list (L.map AV.int)⟩) (hb : σb.length ≤ sp) (hL : L.length ≤ 10) :
  execS XW (callA XW 58) 40 (dScope 24 1000) (stW 11) (aeV sc tp op pk bp pp ep u1 u2 sp []) σ fun fl a τ => fl = .next ∧ a = aeV sc tp op pk bp pp ep u1 u2 sp [] ∧ (∃ γ, τ = σb ++ γ) ∧ τ[sp]? = some ⟨true, .list ((L ++ if u2 = true then [kokV T] else []).map AV.int)⟩ := by
 have hn := M.numT
 have hAl := M.lenA
 obtain ⟨γ0, rfl⟩ := hx
 have w := w.app (τ := γ0)
 refine wIf_b ?_
 refine if_split (fun q => ?_) (fun q => ?_)
 ·rw [if_pos q]
  refine s_cons ?_
  refine res_list hs ?_
  refine lIter.mk ?_
  refine wAt_new ?_
  refine wG_i (by first | assumption | decide) ?_
  refine comp_rule (n := 33) (vs := rangeFrom 0 1 34) (ae0 := [("tiles", .ref tp), ("ends_aim", .ref ep)]) (aeX := fun v => [("tiles", .ref tp), ("ends_aim", .ref ep), ("kind", v)]) (t := fun _ => true) (g := gM E T) (show ItIs (σb ++ γ0 ++ [⟨true, .range 0 34 1⟩]) (.rng 0 34 1) _ from rfl) (by decide) (by rfl) (fun v => rfl) (fun u v => rfl) (by decide) ?_ ?_ ?_
  ·intro v hv acc γ K hK
   exact hK
  ·intro v hv _ acc γ K hK
   rw [range34] at hv
   obtain ⟨i, hi, rfl⟩ := List.mem_map.mp hv
   have hi := List.mem_range.mp hi
   have e1 : (σb ++ γ0 ++ [⟨true, .range 0 34 1⟩] ++ (⟨true, .list acc⟩ :: γ) : Sto)[tp]? = some ⟨true, .list (T.map AV.int)⟩ := old_app (old_app w.t)
   have e2 : (σb ++ γ0 ++ [⟨true, .range 0 34 1⟩] ++ (⟨true, .list acc⟩ :: γ) : Sto)[ep]? = some ⟨true, .list (E.map AV.int)⟩ := old_app (old_app w.e)
   refine it_list (by assumption) (by assumption) (by lia) (by lia) ?_
   refine it_list (by assumption) (by assumption) (by lia) (by lia) ?_
   exact hK γ
  ·intro ae γ
   rw [List.filter_eq_self.mpr (fun _ _ => rfl), gM_map]
   refine wLst_mid ?_
   refine wNums_i ?_
   rw [sumA_eq]
   have hs' : (σb ++ γ0 ++ [⟨true, .range 0 34 1⟩] ++ (⟨true, .list ((kinds34.map (mx E T)).map AV.int)⟩ :: γ) : Sto)[sp]? = some ⟨true, .list (L.map AV.int)⟩ := old_app (old_app hs)
   refine wLst_i hs' (wG_i (by rw [List.length_map]; lia) ?_)
   refine ⟨rfl, rfl, ?_, ?_⟩
   ·rw [List.append_assoc, List.append_assoc, set_app hb]
    exact ⟨_, rfl⟩
   ·rw [List.getElem?_set_self (List.getElem?_eq_some_iff.mp hs').1, List.map_append]
    rw [show kokV T = (kinds34.map (mx E T)).sum - 1 from hn]
    rfl
 ·rw [if_neg q]
  exact s_nil ⟨rfl, rfl, ⟨γ0, rfl⟩, by simpa using hs⟩
end
section
variable {σ : Sto} {sc tp op bp pp ep : Nat} {T O A E : List Int} {vs : List AV} {pk : Int}
theorem lt_self {l : Int} {p q : Prop} (h : q) : wIf (l != l) p q := wIf_bne (fun e => absurd rfl e) (fun _ => h)
set_option maxHeartbeats 4000000 in
theorem law_mid (w : LW σ tp op bp pp ep T O A E vs) (hv : vs.Perm endsA) (MA : Aim true A T 52) (ME : Aim false E T 52) {Q : KS}
  (hq : ∀ (τ : Sto) (u1 u2 : Bool) (sp : Nat), seqA (execS XW (callA XW 58) 40 (dScope 24 1000)) ((dBody 24 1000).drop 13) (aeV sc tp op pk bp pp ep u1 u2 sp []) (σ ++ τ) Q) :
  seqA (execS XW (callA XW 58) 40 (dScope 24 1000)) ((dBody 24 1000).drop 7) (aeQ sc tp op pk bp pp ep []) σ Q := by
 have hT := MA.hd.len
 have sT := MA.sT
 obtain ⟨R, r1, r2⟩ := reg_ex (k := 53) (cnt := 13) hT MA.hd.nn sT (by decide) (by decide)
 have hr : RegIs 53 13 T R.mn := ⟨R, r1, rfl⟩
 clear r1
 generalize R.mn = r at *
 refine s_join (aeQ sc tp op pk bp pp ep [("with_pairs", .bool (pk.fmod 2 == 0))]) σ ?_ ?_
 ·exact wG_i (by decide) ⟨rfl, rfl, rfl⟩
 generalize (pk.fmod 2 == 0) = u1
 refine s_join (aeQ sc tp op pk bp pp ep [("with_pairs", .bool u1), ("with_ends", .bool ((pk.fdiv 2).fmod 2 == 0))]) σ ?_ ?_
 ·exact wG_i (by decide) (wG_i (by decide) ⟨rfl, rfl, rfl⟩)
 generalize ((pk.fdiv 2).fmod 2 == 0) = u2
 refine s_mid (fun a τ => ∃ (γ : Sto) (sp : Nat), τ = σ ++ γ ∧ a = aeV sc tp op pk bp pp ep u1 u2 sp [] ∧ σ.length ≤ sp ∧ (σ ++ γ)[sp]? = some ⟨true, .list ([r].map AV.int)⟩) ?_ ?_
 ·refine res_con rfl ?_
  refine c75 (k := 53) w.t hT sT (by decide) (by decide) hr fun τ => ?_
  exact ⟨rfl, τ ++ [⟨true, .list ([r].map AV.int)⟩], (σ ++ τ : Sto).length, by rw [List.append_assoc]; rfl, rfl, by rw [List.length_append]; lia, by rw [← List.append_assoc]; exact inc_new⟩
 rintro a τ ⟨γ, sp, rfl, rfl, hb, hs⟩
 refine s_mid (fun a τ => a = aeV sc tp op pk bp pp ep u1 u2 sp [] ∧ (∃ γ, τ = σ ++ γ) ∧ τ[sp]? = some ⟨true, .list (([r] ++ if u1 = true then [chiV T] else []).map AV.int)⟩) (add_pairs w MA hT ⟨γ, rfl⟩ hs hb (by simp)) ?_
 rintro a τ ⟨rfl, ⟨γ1, rfl⟩, hs1⟩
 refine s_mid (fun a τ => a = aeV sc tp op pk bp pp ep u1 u2 sp [] ∧ (∃ γ, τ = σ ++ γ) ∧ τ[sp]? = some ⟨true, .list ((([r] ++ if u1 = true then [chiV T] else []) ++ if u2 = true then [kokV T] else []).map AV.int)⟩) (add_ends w ME hT ⟨γ1, rfl⟩ hs1 hb (by split <;> simp)) ?_
 rintro a τ ⟨rfl, ⟨γ2, rfl⟩, hs2⟩
 have hL : resL 13 r u1 u2 T = ([r] ++ if u1 = true then [chiV T] else []) ++ if u2 = true then [kokV T] else [] := by
  unfold resL
  cases u1 <;> cases u2 <;> simp
 rw [← hL] at hs2
 refine s_ap (aeV sc tp op pk bp pp ep u1 u2 sp []) σ ?_ ?_
 ·refine res_con rfl ?_
  refine c46 (k := 53) (j := tp) (u1 := u1) (u2 := u2) (r := r) (cnt := 13) (args := [.ref tp, .bool u1, .bool u2]) (by rfl) (old_app w.t) hT sT (by decide) (by decide) hr (old_app w.h0) hv fun τ7 => ?_
  refine wLst_i (old_app hs2) ?_
  refine wInts_i ?_
  refine wG_i (by unfold resL; simp) ?_
  refine lt_self (l := minL _) ?_
  exact s_nil ⟨rfl, γ2 ++ τ7, by rw [List.append_assoc], rfl⟩
 intro γ3
 exact hq γ3 u1 u2 sp
/-- a loop over a list that stays as it is -/
theorem for_list {asg : AV → Loc → Sto → (Loc → Sto → Prop) → Prop} {body : Loc → Sto → XS} {Q : KS} {k : Nat} {xs : List Int} (Inv : List Int → Loc → Sto → Prop) (hk : ∀ vs ae σ, Inv vs ae σ → ∃ b, σ[k]? = some ⟨b, .list (xs.map AV.int)⟩)
  (step : ∀ v vs ae σ, Inv (v :: vs) ae σ → asg (.int v) ae σ fun ae σ => body ae σ fun fl ae σ => fl = .next ∧ Inv vs ae σ) (fin : ∀ ae σ, Inv [] ae σ → Q .next ae σ) :
  ∀ (vs : List Int) (N i : Nat) (ae : Loc) (σ : Sto), vs.length < N → vs = xs.drop i → Inv vs ae σ → forA asg body N (.list k i) ae σ Q := by
 intro vs
 induction vs with
 | nil =>
  intro N i ae σ hN hi I
  obtain ⟨N, rfl⟩ : ∃ M, N = M + 1 := ⟨N - 1, by lia⟩
  obtain ⟨b, e⟩ := hk _ _ _ I
  exact f_end (fun D K => it_nil (it := .list k i) ⟨b, _, e, by rw [← List.map_drop, ← hi]; rfl⟩ D K) (fin _ _ I)
 | cons v vs ih =>
  intro N i ae σ hN hi I
  obtain ⟨N, rfl⟩ : ∃ M, N = M + 1 := ⟨N - 1, by simp at hN; lia⟩
  obtain ⟨b, e⟩ := hk _ _ _ I
  have hc := it_cons (it := .list k i) (v := .int v) (vs := vs.map AV.int) (show ItIs σ (.list k i) _ from ⟨b, _, e, by rw [← List.map_drop, ← hi]; rfl⟩)
  exact f_turn hc.1 (fun ae σ => Inv vs ae σ) (step v vs ae σ I) fun ae σ I2 => ih N (i + 1) ae σ (by simp at hN; lia) (by rw [← List.tail_drop, ← hi]; rfl) I2
theorem stl_sum {l : List Int} {k : Int} {v : Int} (hl : l.length = 34) (h0 : 0 ≤ k) (h1 : k < 34) : (stl l k v).sum = l.sum + v - gt l k := by
 rw [← sk_gt (len_stl hl), ← sk_gt hl]
 have : sk (gt (stl l k v)) = sk fun q => gt l q + (if q = k then v - gt l k else 0) := sk_congr fun q a b => by
  rw [gt_stl h0 (by rw [hl]; lia) a]
  split
  ·rename_i e; rw [e]; lia
  ·lia
 rw [this, sk_add, sk_at h0 h1]; lia
set_option maxHeartbeats 4000000 in
theorem law_end (w : LW σ tp op bp pp ep T O A E vs) (hv : vs.Perm endsA) (dl : Deal T O) (hO : O.length = 13) {u1 u2 : Bool} {sp : Nat} :
  seqA (execS XW (callA XW 58) 40 (dScope 24 1000)) ((dBody 24 1000).drop 13) (aeV sc tp op pk bp pp ep u1 u2 sp []) σ fun fl _ σ' => match fl with | .next => AV.none = .bool true | .ret v => v = .bool true | _ => False := by
 refine s_join (aeV sc tp op pk bp pp ep u1 u2 sp [("few", .ref (σ.length + 1))]) (σ ++ [⟨true, .list [.int 0]⟩] ++ [⟨true, .list (z34.map AV.int)⟩]) ?_ ?_
 ·refine wLst_new ?_
  refine wG_i (by decide) ?_
  exact ⟨rfl, by rw [List.length_append]; rfl, rfl⟩
 have w1 := w.app (τ := [⟨true, .list [.int 0]⟩])
 have hfp : σ.length + 1 = (σ ++ [⟨true, .list [.int 0]⟩] : Sto).length := by simp
 rw [hfp]
 clear hfp w
 generalize (σ ++ [⟨true, .list [.int 0]⟩] : Sto) = σ1 at *
 generalize hfp : σ1.length = fp
 have w2 := w1.app (τ := [⟨true, .list (z34.map AV.int)⟩])
 obtain ⟨m, hm, m0, m1⟩ : ∃ m, pk.fmod 4 = m ∧ 0 ≤ m ∧ m < 4 := ⟨_, rfl, Int.fmod_nonneg_of_pos _ (by decide), Int.fmod_lt_of_pos _ (by decide)⟩
 obtain ⟨cc, hcc, hc13⟩ : ∃ cc : Nat, (cc : Int) = 1 + 3 * m ∧ cc ≤ 10 := ⟨(1 + 3 * m).toNat, by lia, by lia⟩
 have hbnd : boundA O.length (.int (1 + 3 * m)) O.length = some cc := by
  rw [hO, ← hcc]
  have : ∀ c : Fin 11, boundA 13 (.int ((c.1 : Nat) : Int)) 13 = some c.1 := by decide
  exact this ⟨cc, by lia⟩
 generalize hX : (O.drop 0).take (cc - 0) = X
 have hXl : X.length = cc := by rw [← hX, List.length_take, List.length_drop, hO]; lia
 have hXm : ∀ x ∈ X, 0 ≤ x ∧ x < 34 := fun x hx => dl.rng x (by rw [← hX] at hx; exact List.mem_of_mem_drop (List.mem_of_mem_take hx))
 refine s_mid (fun a τ => ∃ (F : List Int) (x : Loc), a = aeV sc tp op pk bp pp ep u1 u2 sp (("few", .ref fp) :: x) ∧ τ = σ1 ++ [⟨true, .list (F.map AV.int)⟩] ++ [⟨true, .list (X.map AV.int)⟩] ∧ Hd F ∧ F.sum = cc ∧ (x = [] ∨ ∃ a, x = ([("kind", a)] : Loc))) ?_ ?_
 ·refine wG_i (by decide) ?_
  refine wG_sm (by lia) ?_
  rw [hm]
  refine slice_list w2.o (by lia) rfl hbnd ?_
  rw [hX]
  refine lIter.mk ?_
  refine wAt_new ?_
  refine lockF.mk ?_
  have hF0 : Hd z34 := ⟨by decide, fun j a b => by
   have : ∀ j ∈ kinds34, 0 ≤ gt z34 j := by decide
   exact kinds_of this j a b⟩
  refine for_list (k := (σ1 ++ [⟨true, .list (z34.map AV.int)⟩] : Sto).length) (xs := X) (fun ks ae τ => ∃ (F : List Int) (x : Loc), ae = aeV sc tp op pk bp pp ep u1 u2 sp (("few", .ref fp) :: x) ∧ τ = σ1 ++ [⟨true, .list (F.map AV.int)⟩] ++ [⟨true, .list (X.map AV.int)⟩] ∧ Hd F ∧ F.sum + ks.length = cc ∧ (∀ q ∈ ks, 0 ≤ q ∧ q < 34) ∧ (x = [] ∨ ∃ a, x = ([("kind", a)] : Loc)))
   (fun vs ae τ I => ?_) (fun q ks ae τ I => ?_) (fun ae τ I => ?_) X 1000 0 _ _ (by lia) rfl ⟨_, [], rfl, rfl, hF0, by rw [hXl, show z34.sum = 0 by decide]; lia, hXm, .inl rfl⟩
  ·obtain ⟨F, x, _, rfl, _⟩ := I
   refine ⟨true, ?_⟩
   rw [show (σ1 ++ [⟨true, .list (z34.map AV.int)⟩] : Sto).length = (σ1 ++ [⟨true, .list (F.map AV.int)⟩] : Sto).length by simp]
   exact inc_new
  ·refine ex2 I fun F x hI => and6 hI fun e2 e3 e4 e5 e6 e7 => ?_
   clear hI I
   subst e2 e3
   have q0 := (e6 q (List.mem_cons_self ..)).1
   have q1 := (e6 q (List.mem_cons_self ..)).2
   have hFl := e4.len
   have ef : (σ1 ++ [⟨true, .list (F.map AV.int)⟩] ++ [⟨true, .list (X.map AV.int)⟩] : Sto)[fp]? = some ⟨true, .list (F.map AV.int)⟩ := by rw [← hfp]; exact old_app inc_new
   refine a_name (ae' := aeV sc tp op pk bp pp ep u1 u2 sp (("few", .ref fp) :: [("kind", .int q)])) (by rcases e7 with rfl | ⟨a, rfl⟩ <;> rfl) ?_
   refine s_cons ?_
   refine it_list ef hFl q0 q1 ?_
   refine pa_list ef q0 (by lia) (by lia) ?_
   refine ⟨rfl, stl F q (gt F q + 1), [("kind", .int q)], rfl, ?_, ?_, ?_, fun r hr => e6 r (List.mem_cons_of_mem _ hr), .inr ⟨_, rfl⟩⟩
   ·rw [List.append_assoc, set_app (by lia), ← hfp, Nat.sub_self, List.append_assoc]; rfl
   ·refine ⟨len_stl hFl, fun j a b => ?_⟩
    have := e4.nn j a b
    have := e4.nn q q0 q1
    rw [gt_stl q0 (by rw [hFl]; lia) a]
    split <;> lia
   ·rw [stl_sum hFl q0 q1]
    simp only [List.length_cons] at e5
    lia
  ·refine ex2 I fun F x hI => and6 hI fun e2 e3 e4 e5 e6 e7 => ?_
   clear hI I
   subst e2 e3
   exact ⟨rfl, F, x, rfl, rfl, e4, by simpa using e5, e7⟩
 intro a τ I
 refine ex2 I fun F x hI => and5 hI fun e2 e3 hF sF hx => ?_
 clear hI I
 subst e2 e3
 have w3 : LW (σ1 ++ [⟨true, .list (F.map AV.int)⟩] ++ [⟨true, .list (X.map AV.int)⟩]) tp op bp pp ep T O A E vs := w1.app.app
 have ef : (σ1 ++ [⟨true, .list (F.map AV.int)⟩] ++ [⟨true, .list (X.map AV.int)⟩] : Sto)[fp]? = some ⟨true, .list (F.map AV.int)⟩ := by rw [← hfp]; exact old_app inc_new
 clear w1 w2
 generalize (σ1 ++ [⟨true, .list (F.map AV.int)⟩] ++ [⟨true, .list (X.map AV.int)⟩] : Sto) = σ3 at *
 obtain ⟨R, r1, r2⟩ := reg_ex (k := 53) (cnt := (cc : Int)) hF.len hF.nn sF (by lia) (by decide)
 have hr : RegIs 53 cc F R.mn := ⟨R, r1, rfl⟩
 clear r1
 generalize R.mn = r at *
 have hmod : ((cc : Nat) : Int).fmod 3 ≠ 0 := by
  rw [hcc]
  have : m = 0 ∨ m = 1 ∨ m = 2 ∨ m = 3 := by lia
  rcases this with rfl | rfl | rfl | rfl <;> decide
 have hL : resL cc r true true F = [r] := by
  unfold resL
  rw [if_neg (by lia), if_neg (by lia)]; rfl
 refine s_ap (aeV sc tp op pk bp pp ep u1 u2 sp (("few", .ref fp) :: x)) σ3 ?_ ?_
 ·refine res_con rfl ?_
  refine c46 (k := 53) (j := fp) (u1 := true) (u2 := true) (r := r) (cnt := cc) (args := [.ref fp]) (by rfl) ef hF.len sF (by lia) hmod hr w3.h0 hv fun τ7 => ?_
  rw [hL]
  refine res_con rfl ?_
  refine c75 (k := 53) (old_app ef) hF.len sF (by lia) hmod hr fun τ8 => ?_
  refine lt_self (l := r) ?_
  exact s_nil ⟨rfl, τ7 ++ τ8, by rw [List.append_assoc], rfl⟩
 intro γ3
 refine s_cons ?_
 refine cmp_same (old_app w3.t) (old_app w3.b) ?_
 rfl
end
/-- the law's own function gives True -/
theorem c321 {σ : Sto} {sc : Nat} {b : Bool} {S : List Int} {vs : List AV} (h0 : σ[0]? = some ⟨false, .fset vs⟩) (hv : vs.Perm endsA) (es : σ[sc]? = some ⟨b, .list (S.map AV.int)⟩) (hl : S.length ≤ 63) :
  callA XW 59 321 [.ref sc] σ fun v _ => v = .bool true := by
 refine law_head h0 hv es hl ?_
 intro σ' tp op bp pp ep T O A E pk w dl hO MA ME
 refine law_mid w hv MA ME ?_
 intro τ u1 u2 sp
 refine seqA_mono ?_ (law_end (w.app (τ := τ)) hv dl hO)
 intro fl a σ'' h
 cases fl <;> exact h
end Mj
namespace Mj
open PySem PySem.W PyProof.Rows
set_option maxRecDepth 100000
set_option maxHeartbeats 8000000 in
theorem joined (h : WalkO qW looseN (fun _ _ => True) YPW PySem.Challenge.rw_im0120_01.row.toRowW recLaw [] fun f vs => PySem.call f vs) : PySem.Challenge.rw_im0120_01.Holds := by
 w_on
 refine holds_law (by decide +kernel) fun said => ?_
 refine PySem.W.holds_open (r := PySem.Challenge.rw_im0120_01.row) (q := qW) (loose := looseN) (Xt := XtW) (XP := fun _ _ => True) (Yf := YfW) (Ya := YaW) (YP := YPW) (d := recLaw) (kwd := []) (N := 4000) leftW ypW ypW_keeps (fun _ _ => trivial) (fun _ _ _ _ _ => trivial) (by rfl) (by rfl) (by rfl)
  (fun s _ => recFacts_nil rfl) (by decide +kernel) (by first | assumption | decide +kernel) (by decide +kernel) ⟨rfl, rfl, rfl, rfl, rfl, by decide +kernel⟩ ?hw h
 case hw => w_witness2
/-- law 01 from the interpreter's own run -/
theorem law01_of (hp : ∀ (vs : List AV) (sc : List Int), vs.Perm endsA → sc.length ≤ 63 → callA XW 59 321 [.ref 1] [⟨false, .fset vs⟩, ⟨false, .list (sc.map .int)⟩] fun v _ => v = .bool true) :
  PySem.Challenge.rw_im0120_01.Holds := joined (walkW hp)
end Mj
theorem PySem.Challenge.cw_im0120_01_holds : PySem.Challenge.rw_im0120_01.Holds :=
 Mj.law01_of fun vs sc hv hl => Mj.c321 (b := false) rfl hv (σ := [⟨false, .fset vs⟩, ⟨false, .list (sc.map .int)⟩]) (sc := 1) rfl hl
