import PyProof.Rows.All
import Wide.All
import OpenK.AllK
import Wide.FinOn
import PySem.Challenge.RW_im0120_11
set_option Elab.async false
set_option bootstrap.genMatcherCode false
namespace Internal.Mj
open PySem PySem.W PyProof.Rows
set_option maxRecDepth 100000
set_option linter.all false
set_option linter.unusedSectionVars false
section
theorem no_ft {P : Prop} (h : false = true) : P := Bool.noConfusion h
theorem no_so {α : Type} {x : α} {P : Prop} (h : none = some x) : P := nomatch h
inductive AV where
 | none | bool (b : Bool) | int (i : Int) | str (x : Str) | ref (k : Nat) | con (v : Value)
inductive AO where
 | list (xs : List AV) | tuple (xs : List AV) | range (lo hi st : Int) | ns (es : List (Str × AV)) | inst (C : Addr) (d : Nat)
structure Cl where
 wr : Bool
 o : AO
noncomputable abbrev Sto := List Cl
noncomputable abbrev Rho := List Addr
noncomputable def VR (ρ : Rho) : AV → Value → Prop
 | .none, v => v = .none
 | .bool b, v => v = .bool b
 | .int i, v => ∃ t, v = .int i t
 | .str x, v => ∃ t, v = .str x t
 | .ref k, v => ∃ a, ρ[k]? = some a ∧ v = .ref a
 | .con c, v => v = c
noncomputable def VRs (ρ : Rho) : List AV → List Value → Prop
 | [], [] => True
 | a :: as, v :: vs => VR ρ a v ∧ VRs ρ as vs
 | _, _ => False
theorem get_prefix {α : Type} {l l' : List α} (h : l <+: l') {k : Nat} {a : α} (e : l[k]? = some a) : l'[k]? = some a := by
 obtain ⟨t, rfl⟩ := h
 rw [List.getElem?_append_left (List.getElem?_eq_some_iff.mp e).1]; exact e
theorem VR.mono {ρ ρ' : Rho} (hp : ρ <+: ρ') : ∀ {a : AV} {v : Value}, VR ρ a v → VR ρ' a v
 | .none, _, h | .bool _, _, h | .int _, _, h | .str _, _, h | .con _, _, h => h
 | .ref _, _, ⟨a, e, hv⟩ => ⟨a, get_prefix hp e, hv⟩
theorem VRs.nil_iff {ρ : Rho} {vs : List Value} : VRs ρ [] vs ↔ vs = [] := by cases vs <;> simp [VRs]
theorem VRs.mono {ρ ρ' : Rho} (hp : ρ <+: ρ') : ∀ {as : List AV} {vs : List Value}, VRs ρ as vs → VRs ρ' as vs := by
 intro as
 induction as with
 | nil => intro vs h; cases vs with
  | nil => trivial
  | cons => exact h.elim
 | cons a as ih => intro vs h; cases vs with
  | nil => exact h.elim
  | cons v vs => exact ⟨h.1.mono hp, ih h.2⟩
theorem VRs.length {ρ : Rho} : ∀ {as : List AV} {vs : List Value}, VRs ρ as vs → vs.length = as.length := by
 intro as
 induction as with
 | nil => intro vs h; cases vs with
  | nil => rfl
  | cons => exact h.elim
 | cons a as ih => intro vs h; cases vs with
  | nil => exact h.elim
  | cons v vs => simp [ih h.2]
theorem VRs.get {ρ : Rho} : ∀ {as : List AV} {vs : List Value} {i : Nat} {a : AV}, VRs ρ as vs → as[i]? = some a → ∃ v, vs[i]? = some v ∧ VR ρ a v := by
 intro as
 induction as with
 | nil => intro vs i a _ e; simp at e
 | cons b as ih => intro vs i a h e; cases vs with
  | nil => exact h.elim
  | cons v vs => cases i with
   | zero => cases e; exact ⟨v, rfl, h.1⟩
   | succ i => have := ih (vs := vs) (i := i) h.2 (by simpa using e); simpa using this
theorem VRs.getV {ρ : Rho} : ∀ {as : List AV} {vs : List Value} {i : Nat} {v : Value}, VRs ρ as vs → vs[i]? = some v → ∃ a, as[i]? = some a ∧ VR ρ a v := by
 intro as
 induction as with
 | nil => intro vs i v h e; cases vs with
  | nil => simp at e
  | cons => exact h.elim
 | cons b as ih => intro vs i a h e; cases vs with
  | nil => exact h.elim
  | cons v vs => cases i with
   | zero => cases e; exact ⟨b, rfl, h.1⟩
   | succ i => have := ih (vs := vs) (i := i) h.2 (by simpa using e); simpa using this
theorem VRs.append {ρ : Rho} : ∀ {as bs : List AV} {vs ws : List Value}, VRs ρ as vs → VRs ρ bs ws → VRs ρ (as ++ bs) (vs ++ ws) := by
 intro as
 induction as with
 | nil => intro bs vs ws h h'; cases vs with
  | nil => exact h'
  | cons => exact h.elim
 | cons a as ih => intro bs vs ws h h'; cases vs with
  | nil => exact h.elim
  | cons v vs => exact ⟨h.1, ih h.2 h'⟩
theorem VRs.set {ρ : Rho} : ∀ {as : List AV} {vs : List Value} {i : Nat} {a : AV} {v : Value}, VRs ρ as vs → VR ρ a v → VRs ρ (as.set i a) (vs.set i v) := by
 intro as
 induction as with
 | nil => intro vs i a v h _; cases vs with
  | nil => trivial
  | cons => exact h.elim
 | cons b as ih => intro vs i a v h h'; cases vs with
  | nil => exact h.elim
  | cons w vs => cases i with
   | zero => exact ⟨h', h.2⟩
   | succ i => exact ⟨h.1, ih h.2 h'⟩
theorem VRs.take {ρ : Rho} : ∀ {as : List AV} {vs : List Value} (i : Nat), VRs ρ as vs → VRs ρ (as.take i) (vs.take i) := by
 intro as
 induction as with
 | nil => intro vs i h; rw [VRs.nil_iff] at h; subst h; simp [VRs]
 | cons b as ih => intro vs i h; cases vs with
  | nil => exact h.elim
  | cons w vs => cases i with
   | zero => simp [VRs]
   | succ i => exact ⟨h.1, ih i h.2⟩
theorem VRs.drop {ρ : Rho} : ∀ {as : List AV} {vs : List Value} (i : Nat), VRs ρ as vs → VRs ρ (as.drop i) (vs.drop i) := by
 intro as
 induction as with
 | nil => intro vs i h; rw [VRs.nil_iff] at h; subst h; simp [VRs]
 | cons b as ih => intro vs i h; cases vs with
  | nil => exact h.elim
  | cons w vs => cases i with
   | zero => exact h
   | succ i => exact ih i h.2
theorem VRs.one {ρ : Rho} {a : AV} {vs : List Value} (h : VRs ρ [a] vs) : ∃ v, vs = [v] ∧ VR ρ a v := by
 match vs, h with
 | [v], h => exact ⟨v, rfl, h.1⟩
noncomputable def NsR (ρ : Rho) : List (Str × AV) → List DictEntry → Prop
 | [], [] => True
 | (x, v) :: es, e :: rs => (∃ t, e.key = .str x t) ∧ VR ρ v e.val ∧ NsR ρ es rs
 | _, _ => False
theorem NsR.mono {ρ ρ' : Rho} (hp : ρ <+: ρ') : ∀ {es : List (Str × AV)} {rs : List DictEntry}, NsR ρ es rs → NsR ρ' es rs := by
 intro es
 induction es with
 | nil => intro rs h; cases rs with
  | nil => trivial
  | cons => exact h.elim
 | cons e es ih => intro rs h; cases rs with
  | nil => exact h.elim
  | cons r rs => exact ⟨h.1, h.2.1.mono hp, ih h.2.2⟩
noncomputable def OR (ρ : Rho) (h : Heap) (a : Addr) : AO → Prop
 | .list xs => ∃ vs n, h.get? a = some { cls := .type "list", data := .seq vs n } ∧ VRs ρ xs vs.toList
 | .tuple xs => ∃ vs n, h.get? a = some { cls := .type "tuple", data := .seq vs n } ∧ VRs ρ xs vs.toList
 | .range lo hi st => ∃ t u v, IsRange h a lo hi st t u v
 | .ns es => ∃ rs n, h.get? a = some (dictOf rs n) ∧ NsR ρ es rs
 | .inst C k => ∃ d, ρ[k]? = some d ∧ h.get? a = some { cls := .ref C, dict := some d }
theorem OR.mono {ρ ρ' : Rho} {h h' : Heap} {a : Addr} (hp : ρ <+: ρ') (hh : ∀ o, h.get? a = some o → h'.get? a = some o) : ∀ {c : AO}, OR ρ h a c → OR ρ' h' a c
 | .list _, ⟨vs, n, e, r⟩ => ⟨vs, n, hh _ e, r.mono hp⟩
 | .tuple _, ⟨vs, n, e, r⟩ => ⟨vs, n, hh _ e, r.mono hp⟩
 | .range .., ⟨t, u, v, e⟩ => ⟨t, u, v, hh _ e⟩
 | .ns _, ⟨rs, n, e, r⟩ => ⟨rs, n, hh _ e, r.mono hp⟩
 | .inst _ _, ⟨d, e, e'⟩ => ⟨d, get_prefix hp e, hh _ e'⟩
theorem OR.live {ρ : Rho} {h : Heap} {a : Addr} : ∀ {c : AO}, OR ρ h a c → ∃ o, h.get? a = some o
 | .list _, ⟨_, _, e, _⟩ => ⟨_, e⟩
 | .tuple _, ⟨_, _, e, _⟩ => ⟨_, e⟩
 | .range .., ⟨_, _, _, e⟩ => ⟨_, e⟩
 | .ns _, ⟨_, _, e, _⟩ => ⟨_, e⟩
 | .inst _ _, ⟨_, _, e⟩ => ⟨_, e⟩
theorem nodup_inj {α : Type} : ∀ {l : List α}, l.Nodup → ∀ {i j : Nat} (hi : i < l.length) (hj : j < l.length), l[i] = l[j] → i = j := by
 intro l
 induction l with
 | nil => intro _ i j hi; simp at hi
 | cons x l ih =>
  intro hn i j hi hj e
  obtain ⟨h1, h2⟩ := List.nodup_cons.mp hn
  cases i with
  | zero => cases j with
   | zero => rfl
   | succ j => simp at e; exact absurd (e ▸ List.getElem_mem _) h1
  | succ i => cases j with
   | zero => simp at e; exact absurd (e ▸ List.getElem_mem _) h1
   | succ j => simp at e; rw [ih h2 _ _ e]
structure HR (B : Heap) (F : List (Addr × Obj)) (ρ : Rho) (σ : Sto) (h : Heap) : Prop where
 base : ∀ b o, B.get? b = some o → h.get? b = some o
 fr : ∀ p ∈ F, h.get? p.1 = some p.2
 fB : ∀ p ∈ F, B.get? p.1 = none
 fN : (F.map (·.1)).Nodup
 len : ρ.length = σ.length
 nd : ρ.Nodup
 obj : ∀ (k : Nat) (c : Cl) (a : Addr), σ[k]? = some c → ρ[k]? = some a → OR ρ h a c.o
 sepB : ∀ (k : Nat) (c : Cl) (a : Addr), σ[k]? = some c → ρ[k]? = some a → c.wr = true → B.get? a = none
 sepF : ∀ a ∈ ρ, ∀ p ∈ F, p.1 ≠ a
namespace HR
variable {B : Heap} {F : List (Addr × Obj)} {ρ : Rho} {σ : Sto} {h h' : Heap}
theorem lt (H : HR B F ρ σ h) {a : Addr} (ha : a ∈ ρ) : a < h.objs.size := by
 obtain ⟨k, hk, e⟩ := List.getElem_of_mem ha
 have hk' : k < σ.length := H.len ▸ hk
 obtain ⟨o, ho⟩ := OR.live (H.obj k σ[k] a (by simp [hk']) (by simp [hk, e]))
 exact Heap.lt_size ho
theorem at_ (H : HR B F ρ σ h) {k : Nat} {c : Cl} (e : σ[k]? = some c) : ∃ a, ρ[k]? = some a ∧ OR ρ h a c.o := by
 have hk : k < σ.length := (List.getElem?_eq_some_iff.mp e).1
 have hk' : k < ρ.length := H.len ▸ hk
 exact ⟨ρ[k], by simp [hk'], H.obj k c _ e (by simp [hk'])⟩
theorem fresh (H : HR B F ρ σ h) : B.get? h.objs.size = none := by
 cases e : B.get? h.objs.size with
 | none => rfl
 | some o => exact absurd (Heap.lt_size (H.base _ _ e)) (Nat.lt_irrefl _)
theorem keeps (H : HR B F ρ σ h) (hk : ∀ b o, h.get? b = some o → h'.get? b = some o) : HR B F ρ σ h' :=
 {H with base := fun b o e => hk _ _ (H.base b o e), fr := fun p hp => hk _ _ (H.fr p hp), obj := fun k c a e e' => (H.obj k c a e e').mono (List.prefix_refl _) fun o => hk _ o }
theorem push (H : HR B F ρ σ h) (o : Obj) : HR B F ρ σ (h.push o) := H.keeps fun _ _ e => Heap.get?_push_of_some o e
theorem alloc (H : HR B F ρ σ h) (hk : ∀ b o, h.get? b = some o → h'.get? b = some o) {a : Addr} {c : Cl} (ha : h.objs.size ≤ a) (ho : OR (ρ ++ [a]) h' a c.o) : HR B F (ρ ++ [a]) (σ ++ [c]) h' := by
 have H' := H.keeps hk
 have hna : a ∉ ρ := fun hm => Nat.lt_irrefl _ (Nat.lt_of_lt_of_le (H.lt hm) ha)
 have hBa : B.get? a = none := by
  cases e : B.get? a with
  | none => rfl
  | some o => exact absurd (Heap.lt_size (H.base _ _ e)) (Nat.not_lt.mpr ha)
 refine ⟨H'.base, H'.fr, H'.fB, H'.fN, by simp [H.len], ?_, ?_, ?_, ?_⟩
 ·rw [List.nodup_append]; exact ⟨H.nd, by simp, fun x hx y hy => by simp at hy; subst hy; exact fun e => hna (e ▸ hx)⟩
 ·intro k d b hk1 hk2
  by_cases hlt : k < σ.length
  ·rw [List.getElem?_append_left hlt] at hk1
   rw [List.getElem?_append_left (H.len ▸ hlt)] at hk2
   exact (H'.obj k d b hk1 hk2).mono (List.prefix_append _ _) fun _ e => e
  ·have hk3 := (List.getElem?_eq_some_iff.mp hk1).1
   have : k = σ.length := by simp at hk3; lia
   subst this
   simp at hk1
   rw [← H.len] at hk2
   simp at hk2
   subst hk1; subst hk2; exact ho
 ·intro k d b hk1 hk2 hw
  by_cases hlt : k < σ.length
  ·rw [List.getElem?_append_left hlt] at hk1
   rw [List.getElem?_append_left (H.len ▸ hlt)] at hk2
   exact H.sepB k d b hk1 hk2 hw
  ·have hk3 := (List.getElem?_eq_some_iff.mp hk1).1
   have : k = σ.length := by simp at hk3; lia
   subst this
   rw [← H.len] at hk2
   simp at hk2
   subst hk2; exact hBa
 ·intro b hb p hp e
  rcases List.mem_append.mp hb with hb | hb
  ·exact H.sepF b hb p hp e
  ·simp at hb; subst hb
   exact Nat.lt_irrefl _ (Nat.lt_of_lt_of_le (e ▸ Heap.lt_size (H.fr p hp)) ha)
theorem upd (H : HR B F ρ σ h) {k : Nat} {c : Cl} {a : Addr} (e : σ[k]? = some c) (ea : ρ[k]? = some a) (hw : c.wr = true) (hs : ∀ b o, b ≠ a → h.get? b = some o → h'.get? b = some o) {o' : AO} (ho : OR ρ h' a o') :
  HR B F ρ (σ.set k ⟨true, o'⟩) h' := by
 have hBa := H.sepB k c a e ea hw
 have ham : a ∈ ρ := List.mem_of_getElem? ea
 refine ⟨fun b o eb => hs b o (fun q => by subst q; rw [hBa] at eb; cases eb) (H.base b o eb), fun p hp => hs _ _ (H.sepF a ham p hp) (H.fr p hp), H.fB, H.fN, by simp [H.len], H.nd, ?_, ?_, H.sepF⟩
 ·intro j d b hj hb
  rw [List.getElem?_set] at hj
  split at hj
  ·rename_i hkj
   subst hkj
   split at hj
   ·cases hj
    rw [ea] at hb; cases hb; exact ho
   ·cases hj
  ·rename_i hkj
   have hba : b ≠ a := by
    rintro rfl
    have h1 := (List.getElem?_eq_some_iff.mp ea)
    have h2 := (List.getElem?_eq_some_iff.mp hb)
    obtain ⟨p1, q1⟩ := h1
    obtain ⟨p2, q2⟩ := h2
    exact hkj (nodup_inj H.nd p1 p2 (q1.trans q2.symm))
   exact (H.obj j d b hj hb).mono (List.prefix_refl _) fun o => hs _ o hba
 ·intro j d b hj hb hw'
  rw [List.getElem?_set] at hj
  split at hj
  ·rename_i hkj
   subst hkj
   rw [ea] at hb; cases hb; exact hBa
  ·exact H.sepB j d b hj hb hw'
theorem pushF (H : HR B F ρ σ h) (hk : ∀ b o, h.get? b = some o → h'.get? b = some o) {a : Addr} {o : Obj} (ha : h.objs.size ≤ a) (ho : h'.get? a = some o) : HR B ((a, o) :: F) ρ σ h' := by
 have H' := H.keeps hk
 refine ⟨H'.base, ?_, ?_, ?_, H'.len, H'.nd, H'.obj, H'.sepB, ?_⟩
 ·intro p hp
  rcases List.mem_cons.mp hp with rfl | hp
  ·exact ho
  ·exact H'.fr p hp
 ·intro p hp
  rcases List.mem_cons.mp hp with rfl | hp
  ·show B.get? a = none
   cases e : B.get? a with
   | none => rfl
   | some o => exact absurd (Heap.lt_size (H.base _ _ e)) (Nat.not_lt.mpr ha)
  ·exact H.fB p hp
 ·rw [List.map_cons, List.nodup_cons]
  refine ⟨fun hm => ?_, H.fN⟩
  obtain ⟨p, hp, e⟩ := List.mem_map.mp hm
  have e' : p.1 = a := e
  exact Nat.lt_irrefl _ (Nat.lt_of_lt_of_le (e' ▸ Heap.lt_size (H.fr p hp)) ha)
 ·intro b hb p hp
  rcases List.mem_cons.mp hp with rfl | hp
  ·rintro rfl; exact Nat.lt_irrefl _ (Nat.lt_of_lt_of_le (H.lt hb) ha)
  ·exact H.sepF b hb p hp
theorem popF {p : Addr × Obj} (H : HR B (p :: F) ρ σ h) : HR B F ρ σ h :=
 ⟨H.base, fun q hq => H.fr q (List.mem_cons_of_mem _ hq), fun q hq => H.fB q (List.mem_cons_of_mem _ hq), (List.nodup_cons.mp H.fN).2, H.len, H.nd, H.obj, H.sepB, fun a ha q hq => H.sepF a ha q (List.mem_cons_of_mem _ hq)⟩
noncomputable def turnF (a : Addr) (o : Obj) (F : List (Addr × Obj)) : List (Addr × Obj) := F.map fun p => if p.1 = a then (a, o) else p
theorem turnF_fst (a : Addr) (o : Obj) (F : List (Addr × Obj)) : (turnF a o F).map (·.1) = F.map (·.1) := by
 unfold turnF
 rw [List.map_map]
 apply List.map_congr_left
 intro p _
 simp only [Function.comp]
 split
 ·rename_i e; exact e.symm
 ·rfl
theorem mem_turnF {a : Addr} {o : Obj} {F : List (Addr × Obj)} {p : Addr × Obj} (hp : p ∈ turnF a o F) : p = (a, o) ∨ (p ∈ F ∧ p.1 ≠ a) := by
 unfold turnF at hp
 obtain ⟨q, hq, e⟩ := List.mem_map.mp hp
 split at e
 ·exact .inl e.symm
 ·rename_i hne; subst e; exact .inr ⟨hq, hne⟩
theorem turnF_mem {a b : Addr} {o o' : Obj} {F : List (Addr × Obj)} (hp : (b, o') ∈ F) (hne : b ≠ a) : (b, o') ∈ turnF a o F := by
 unfold turnF
 exact List.mem_map.mpr ⟨(b, o'), hp, by simp [hne]⟩
theorem turnF_self {a : Addr} {o o' : Obj} {F : List (Addr × Obj)} (hp : (a, o') ∈ F) : (a, o) ∈ turnF a o F := by
 unfold turnF
 exact List.mem_map.mpr ⟨(a, o'), hp, by simp⟩
theorem turn (H : HR B F ρ σ h) {a : Addr} {o o' : Obj} (hm : (a, o') ∈ F) (hs : ∀ b o, b ≠ a → h.get? b = some o → h'.get? b = some o) (ho : h'.get? a = some o) : HR B (turnF a o F) ρ σ h' := by
 have hBa := H.fB _ hm
 refine ⟨fun b x eb => hs b x (fun q => by subst q; rw [hBa] at eb; cases eb) (H.base b x eb), ?_, ?_, by rw [turnF_fst]; exact H.fN, H.len, H.nd, ?_, H.sepB, ?_⟩
 ·intro p hp
  rcases mem_turnF hp with rfl | ⟨hp, hne⟩
  ·exact ho
  ·exact hs _ _ hne (H.fr p hp)
 ·intro p hp
  rcases mem_turnF hp with rfl | ⟨hp, hne⟩
  ·exact hBa
  ·exact H.fB p hp
 ·intro k c b e e'
  have hb : b ≠ a := fun q => H.sepF b (List.mem_of_getElem? e') _ hm q.symm
  exact (H.obj k c b e e').mono (List.prefix_refl _) fun o => hs _ o hb
 ·intro b hb p hp
  rcases mem_turnF hp with rfl | ⟨hp, hne⟩
  ·exact H.sepF b hb (a, o') hm
  ·exact H.sepF b hb p hp
end HR
end
noncomputable abbrev Loc := List (Str × AV)
structure Fn where
 name : Str
 params : List Str
 dflts : List AV
 body : List Stmt
 scope : Scope
structure Ctx where
 glob : List (Str × AV)
 cattr : Addr → Str → Option AV
 stat : Addr → Str → Option Addr
 meth : Addr → Str → Option Addr
 fn : Addr → Option Fn
 cls : Addr → Option Addr
 own : Addr → Str → Bool
 N : Nat
noncomputable abbrev KE := AV → Sto → Prop
noncomputable abbrev XE := KE → Prop
@[irreducible] noncomputable def wG (p q : Prop) : Prop := p ∧ q
@[irreducible] noncomputable def wIf (c : Bool) (p q : Prop) : Prop := (c = true → p) ∧ (c = false → q)
@[irreducible] noncomputable def wAt (k : Nat) (σ : Sto) (K : Cl → Prop) : Prop := ∃ c, σ[k]? = some c ∧ K c
theorem wG.out {p q : Prop} (h : wG p q) : p ∧ q := by unfold wG at h; exact h
theorem wIf.out {c : Bool} {p q : Prop} (h : wIf c p q) : (c = true → p) ∧ (c = false → q) := by unfold wIf at h; exact h
theorem wAt.out {k : Nat} {σ : Sto} {K : Cl → Prop} (h : wAt k σ K) : ∃ c, σ[k]? = some c ∧ K c := by unfold wAt at h; exact h
@[irreducible] noncomputable def wLst (k : Nat) (σ : Sto) (K : Bool → List AV → Prop) : Prop := ∃ b xs, σ[k]? = some ⟨b, .list xs⟩ ∧ K b xs
theorem wLst.out {k : Nat} {σ : Sto} {K : Bool → List AV → Prop} (h : wLst k σ K) : ∃ b xs, σ[k]? = some ⟨b, .list xs⟩ ∧ K b xs := by unfold wLst at h; exact h
@[irreducible] noncomputable def lockG (p : Prop) : Prop := p
theorem lockG.out {p : Prop} (h : lockG p) : p := by unfold lockG at h; exact h
theorem lockG.mk {p : Prop} (h : p) : lockG p := by unfold lockG; exact h
@[irreducible] noncomputable def lockW (p : Prop) : Prop := p
theorem lockW.out {p : Prop} (h : lockW p) : p := by unfold lockW at h; exact h
theorem lockW.mk {p : Prop} (h : p) : lockW p := by unfold lockW; exact h
@[irreducible] noncomputable def lockF (p : Prop) : Prop := p
theorem lockF.out {p : Prop} (h : lockF p) : p := by unfold lockF at h; exact h
theorem lockF.mk {p : Prop} (h : p) : lockF p := by unfold lockF; exact h
noncomputable def wB (b : Bool) (p : Prop) : Prop := match b with
 | true => p
 | false => False
theorem wB.out {b : Bool} {p : Prop} (h : wB b p) : b = true ∧ p := by cases b with | true => exact ⟨rfl, h⟩ | false => exact h.elim
noncomputable def wO {α : Type} (o : Option α) (K : α → Prop) : Prop := match o with
 | some a => K a
 | none => False
theorem wO.out {α : Type} {o : Option α} {K : α → Prop} (h : wO o K) : ∃ a, o = some a ∧ K a := by cases o with | some a => exact ⟨a, rfl, h⟩ | none => exact h.elim
noncomputable def wTruth (σ : Sto) (v : AV) (K : Bool → Prop) : Prop := match v with
 | .none => K false
 | .bool b => K b
 | .int i => K (i != 0)
 | .ref k => wLst k σ fun _ xs => wG (xs.length ≤ 100000) (K (!xs.isEmpty))
 | _ => False
noncomputable def b2iA (b : Bool) : Int := if b = true then 1 else 0
noncomputable def small (x : Int) : Prop := x.natAbs < 2 ^ 64
noncomputable def wArith (op : Operator) (x y : Int) (K : AV → Prop) : Prop := match op with
 | .Add => K (.int (x + y))
 | .Sub => K (.int (x - y))
 | .Mult => wG (small x ∧ small y) (K (.int (x * y)))
 | .FloorDiv => wG (0 < y ∧ y < 2 ^ 30) (K (.int (x.fdiv y)))
 | .Mod => wG (y ≠ 0) (K (.int (x.fmod y)))
 | .LShift => wG (0 ≤ y ∧ y ≤ 1000 ∧ small x) (K (.int (x * 2 ^ y.toNat)))
 | .BitAnd => K (.int (Builtin.bitAnd x y))
 | .BitOr => K (.int (Builtin.bitOr x y))
 | .RShift => wG (0 ≤ y) (K (.int (x.fdiv (2 ^ y.toNat))))
 | _ => False
noncomputable def wAddB (op : Operator) (x y : Int) (K : AV → Prop) : Prop := match op with
 | .Add => K (.int (x + y))
 | _ => False
noncomputable def wBoolInt (op : Operator) (p : Bool) (y : Int) (K : AV → Prop) : Prop := match op with
 | .Add => K (.int (b2iA p + y))
 | .LShift => wG (0 ≤ y ∧ y ≤ 1000) (K (.int (b2iA p * 2 ^ y.toNat)))
 | _ => False
noncomputable def wCat (op : Operator) (i j : Nat) (σ : Sto) (K : KE) : Prop := match op with
 | .Add => wLst i σ fun _ xs => wLst j σ fun _ ys => wG (xs.length + ys.length ≤ 100000) (K (.ref σ.length) (σ ++ [⟨true, .list (xs ++ ys)⟩]))
 | _ => False
noncomputable def wRep (op : Operator) (i : Nat) (n : Int) (σ : Sto) (K : KE) : Prop := match op with
 | .Mult => wLst i σ fun _ xs => wG (xs.length * n.toNat ≤ 100000 ∧ n.natAbs ≤ 100000) (K (.ref σ.length) (σ ++ [⟨true, .list (List.replicate n.toNat xs).flatten⟩]))
 | _ => False
noncomputable def wBin (op : Operator) (a b : AV) (σ : Sto) (K : KE) : Prop := match a with
 | .int x => (match b with
  | .int y => wArith op x y fun v => K v σ
  | .bool q => wAddB op x (b2iA q) fun v => K v σ
  | _ => False)
 | .bool p => (match b with
  | .int y => wBoolInt op p y fun v => K v σ
  | .bool q => wAddB op (b2iA p) (b2iA q) fun v => K v σ
  | _ => False)
 | .ref i => (match b with
  | .ref j => wCat op i j σ K
  | .int n => wRep op i n σ K
  | _ => False)
 | _ => False
noncomputable def wAug (op : Operator) (a b : AV) (σ : Sto) (K : KE) : Prop := match a with
 | .int x => (match b with
  | .int y => wArith op x y fun v => K v σ
  | _ => False)
 | _ => False
noncomputable def wUn (op : UnaryOp) (a : AV) (σ : Sto) (K : AV → Prop) : Prop := match op with
 | .Not => wTruth σ a fun b => K (.bool (!b))
 | .USub => (match a with
  | .int x => K (.int (-x))
  | _ => False)
 | .Invert => (match a with
  | .int x => K (.int (Builtin.bitNot x))
  | _ => False)
 | _ => False
noncomputable def wOrd (op : CmpOp) (x y : Int) (K : Bool → Prop) : Prop := match op with
 | .Eq => K (x == y) | .NotEq => K (x != y) | .Lt => K (decide (x < y)) | .LtE => K (decide (x ≤ y)) | .Gt => K (decide (x > y)) | .GtE => K (decide (x ≥ y))
 | _ => False
noncomputable def intsA : List AV → Option (List Int)
 | [] => some []
 | .int i :: r => (intsA r).map (i :: ·)
 | _ => none
noncomputable def numsA : List AV → Option (List Int)
 | [] => some []
 | .int i :: r => (numsA r).map (i :: ·)
 | .bool b :: r => (numsA r).map (b2iA b :: ·)
 | _ => none
@[irreducible] noncomputable def wInts (xs : List AV) (K : List Int → Prop) : Prop := ∃ ns, intsA xs = some ns ∧ K ns
@[irreducible] noncomputable def wNums (xs : List AV) (K : List Int → Prop) : Prop := ∃ ns, numsA xs = some ns ∧ K ns
theorem wInts.out {xs : List AV} {K : List Int → Prop} (h : wInts xs K) : ∃ ns, intsA xs = some ns ∧ K ns := by unfold wInts at h; exact h
theorem wNums.out {xs : List AV} {K : List Int → Prop} (h : wNums xs K) : ∃ ns, numsA xs = some ns ∧ K ns := by unfold wNums at h; exact h
noncomputable def wEqB (op : CmpOp) (p q : Bool) (K : Bool → Prop) : Prop := match op with
 | .Eq => K (p == q) | .NotEq => K (p != q)
 | _ => False
noncomputable def wEqL (op : CmpOp) (us vs : List Int) (K : Bool → Prop) : Prop := match op with
 | .Eq => K (us == vs)
 | _ => False
noncomputable def wIn (op : CmpOp) (b : Bool) (K : Bool → Prop) : Prop := match op with
 | .In => K b
 | .NotIn => K (!b)
 | _ => False
noncomputable def wCmp (op : CmpOp) (a b : AV) (σ : Sto) (K : Bool → Prop) : Prop := match a with
 | .int x => (match b with
  | .int y => wOrd op x y K
  | .ref j => wAt j σ fun c => match c.o with
   | .list ys => wInts ys fun vs => wIn op (vs.contains x) K
   | _ => False
  | _ => False)
 | .bool p => (match b with
  | .bool q => wEqB op p q K
  | _ => False)
 | .ref i => (match b with
  | .ref j => wLst i σ fun _ xs => wLst j σ fun _ ys => wInts xs fun us => wInts ys fun vs => wEqL op us vs K
  | _ => False)
 | _ => False
noncomputable def placeA (i : Int) (n : Nat) : Option Nat := if 0 ≤ i then (if i < n then some i.toNat else none) else none
@[irreducible] noncomputable def wIdx (xs : List AV) (j : Int) (K : AV → Prop) : Prop := ∃ v, xs.length ≤ 100000 ∧ (placeA j xs.length).bind (xs[·]?) = some v ∧ K v
theorem wIdx.out {xs : List AV} {j : Int} {K : AV → Prop} (h : wIdx xs j K) : ∃ v, xs.length ≤ 100000 ∧ (placeA j xs.length).bind (xs[·]?) = some v ∧ K v := by unfold wIdx at h; exact h
noncomputable def wItem (a i : AV) (σ : Sto) (K : AV → Prop) : Prop := match a with
 | .ref k => (match i with
  | .int j => wAt k σ fun c => match c.o with
   | .list xs => wIdx xs j K
   | _ => False
  | _ => False)
 | _ => False
noncomputable def wPut (a i v : AV) (σ : Sto) (K : Sto → Prop) : Prop := match a with
 | .ref k => (match i with
  | .int j => wAt k σ fun c => match c.o with
   | .list xs => wB c.wr <| wG (0 ≤ j ∧ j < xs.length ∧ xs.length ≤ 100000) (K (σ.set k ⟨true, .list (xs.set j.toNat v)⟩))
   | _ => False
  | _ => False)
 | _ => False
noncomputable def boundA (n : Nat) (v : AV) (d : Nat) : Option Nat := match v with
 | .none => some d
 | .int i => some (PySem.clipAt n i)
 | _ => none
noncomputable def wSlice (a lo hi : AV) (σ : Sto) (K : KE) : Prop := match a with
 | .ref k => wLst k σ fun _ xs => wG (xs.length ≤ 100000) (wO (boundA xs.length lo 0) fun l => wO (boundA xs.length hi xs.length) fun h => K (.ref σ.length) (σ ++ [⟨true, .list ((xs.drop l).take (h - l))⟩]))
 | _ => False
noncomputable def noCon : AV → Bool
 | .con _ => false
 | _ => true
noncomputable def wGet (X : Ctx) (a : AV) (name : Str) (σ : Sto) (K : AV → Prop) : Prop := match a with
 | .ref k => wAt k σ fun c => match c.o with
  | .inst C d => wAt d σ fun e => match e.o with
   | .ns es => wB (X.own C name) (wO (es.lookup name) fun v => wB (noCon v) (K v))
   | _ => False
  | _ => False
 | .con c => (match c with
  | .ref C => wO (X.cattr C name) K
  | _ => False)
 | _ => False
noncomputable def putField (name : Str) (v : AV) : List (Str × AV) → List (Str × AV)
 | [] => [(name, v)]
 | (n, u) :: r => if n == name then (n, v) :: r else (n, u) :: putField name v r
noncomputable def wSet (X : Ctx) (a : AV) (name : Str) (v : AV) (σ : Sto) (K : Sto → Prop) : Prop := match a with
 | .ref k => wAt k σ fun c => match c.o with
  | .inst C d => wAt d σ fun e => match e.o with
   | .ns es => wB (e.wr && X.own C name && Nat.ble es.length 100) (K (σ.set d ⟨true, .ns (putField name v es)⟩))
   | _ => False
  | _ => False
 | _ => False
@[irreducible] noncomputable def lGet (X : Ctx) (a : AV) (name : Str) (σ : Sto) (K : AV → Prop) : Prop := wGet X a name σ K
theorem lGet.out {X : Ctx} {a : AV} {name : Str} {σ : Sto} {K : AV → Prop} (h : lGet X a name σ K) : wGet X a name σ K := by unfold lGet at h; exact h
theorem lGet.mk {X : Ctx} {a : AV} {name : Str} {σ : Sto} {K : AV → Prop} (h : wGet X a name σ K) : lGet X a name σ K := by unfold lGet; exact h
@[irreducible] noncomputable def lSet (X : Ctx) (a : AV) (name : Str) (v : AV) (σ : Sto) (K : Sto → Prop) : Prop := wSet X a name v σ K
theorem lSet.out {X : Ctx} {a : AV} {name : Str} {v : AV} {σ : Sto} {K : Sto → Prop} (h : lSet X a name v σ K) : wSet X a name v σ K := by unfold lSet at h; exact h
theorem lSet.mk {X : Ctx} {a : AV} {name : Str} {v : AV} {σ : Sto} {K : Sto → Prop} (h : wSet X a name v σ K) : lSet X a name v σ K := by unfold lSet; exact h
@[irreducible] noncomputable def lItem (a : AV) (i : AV) (σ : Sto) (K : AV → Prop) : Prop := wItem a i σ K
theorem lItem.out {a : AV} {i : AV} {σ : Sto} {K : AV → Prop} (h : lItem a i σ K) : wItem a i σ K := by unfold lItem at h; exact h
theorem lItem.mk {a : AV} {i : AV} {σ : Sto} {K : AV → Prop} (h : wItem a i σ K) : lItem a i σ K := by unfold lItem; exact h
@[irreducible] noncomputable def lPut (a : AV) (i : AV) (v : AV) (σ : Sto) (K : Sto → Prop) : Prop := wPut a i v σ K
theorem lPut.out {a : AV} {i : AV} {v : AV} {σ : Sto} {K : Sto → Prop} (h : lPut a i v σ K) : wPut a i v σ K := by unfold lPut at h; exact h
theorem lPut.mk {a : AV} {i : AV} {v : AV} {σ : Sto} {K : Sto → Prop} (h : wPut a i v σ K) : lPut a i v σ K := by unfold lPut; exact h
@[irreducible] noncomputable def lSlice (a : AV) (lo : AV) (hi : AV) (σ : Sto) (K : KE) : Prop := wSlice a lo hi σ K
theorem lSlice.out {a : AV} {lo : AV} {hi : AV} {σ : Sto} {K : KE} (h : lSlice a lo hi σ K) : wSlice a lo hi σ K := by unfold lSlice at h; exact h
theorem lSlice.mk {a : AV} {lo : AV} {hi : AV} {σ : Sto} {K : KE} (h : wSlice a lo hi σ K) : lSlice a lo hi σ K := by unfold lSlice; exact h
@[irreducible] noncomputable def lCall (call : Addr → List AV → Sto → XE) (f : Addr) (args : List AV) (σ : Sto) (K : KE) : Prop := call f args σ K
theorem lCall.out {call : Addr → List AV → Sto → XE} {f : Addr} {args : List AV} {σ : Sto} {K : KE} (h : lCall call f args σ K) : call f args σ K := by unfold lCall at h; exact h
theorem lCall.mk {call : Addr → List AV → Sto → XE} {f : Addr} {args : List AV} {σ : Sto} {K : KE} (h : call f args σ K) : lCall call f args σ K := by unfold lCall; exact h
inductive It where
 | list (k i : Nat)
 | rng (x : Int) (left : Nat) (st : Int)
 | enum (k i : Nat)
noncomputable def rangeN (lo hi st : Int) : Nat := (Builtin.Range.rangeSize lo hi st).toNat
noncomputable def rangeFrom (x : Int) (st : Int) : Nat → List AV
 | 0 => []
 | n + 1 => .int x :: rangeFrom (x + st) st n
noncomputable def wIter (a : AV) (σ : Sto) (K : It → Prop) : Prop := match a with
 | .ref k => wAt k σ fun c => match c.o with
  | .list _ => K (.list k 0)
  | .range lo hi st => wG (Builtin.Range.small lo hi st = true) (K (.rng lo (rangeN lo hi st) st))
  | _ => False
 | _ => False
@[irreducible] noncomputable def lIter (a : AV) (σ : Sto) (K : It → Prop) : Prop := wIter a σ K
theorem lIter.out {a : AV} {σ : Sto} {K : It → Prop} (h : lIter a σ K) : wIter a σ K := by unfold lIter at h; exact h
theorem lIter.mk {a : AV} {σ : Sto} {K : It → Prop} (h : wIter a σ K) : lIter a σ K := by unfold lIter; exact h
noncomputable def wNext (it : It) (σ : Sto) (done : Prop) (K : AV → It → Sto → Prop) : Prop := match it with
 | .list k i => wLst k σ fun _ xs => (match xs[i]? with
  | some x => K x (.list k (i + 1)) σ
  | none => done)
 | .rng x left st => (match left with
  | 0 => done
  | n + 1 => K (.int x) (.rng (x + st) n st) σ)
 | .enum k i => wLst k σ fun _ xs => (match xs[i]? with
  | some x => K (.ref σ.length) (.enum k (i + 1)) (σ ++ [⟨true, .tuple [.int i, x]⟩])
  | none => done)
noncomputable def sumA (ns : List Int) : Int := preSum (fun i => ns.getD i 0) ns.length
inductive Fl where
 | next | brk | cont | ret (v : AV)
section
noncomputable def constA : Const → Option AV
 | .none => some .none
 | .bool b => some (.bool b)
 | .int i => some (.int i)
 | .str s => some (.str s)
 | _ => none
noncomputable def kindO : Option NameKind → Option Bool
 | some .globalImplicit => some true
 | some .local | some .cell | some .free => some false
 | _ => none
noncomputable def kindA (sc : Scope) (x : Str) : Option Bool := kindO (sc.names.lookup x)
noncomputable def nameA (X : Ctx) (sc : Scope) (x : Str) (ae : Loc) : Option AV :=
 if x == ("__debug__" : Str) then none else match kindA sc x with
 | some true => X.glob.lookup x
 | some false => ae.lookup x
 | none => none
noncomputable def asgName (sc : Scope) (x : Str) (v : AV) (ae : Loc) : Option Loc := match sc.names.lookup x with
 | some .local | some .cell => some (putField x v ae)
 | _ => none
noncomputable def ifNone (v : AV) (p : Prop) : Prop := match v with
 | .none => p
 | _ => False
noncomputable def wList (σ : Sto) (v : AV) (K : List AV → Prop) : Prop := match v with
 | .ref k => wLst k σ fun _ xs => K xs
 | _ => False
noncomputable def isInt2 (args : List AV) (K : Int → Int → Prop) (K1 : AV → Prop) : Prop := match args with
 | [] => False
 | a :: r => match r with
  | [] => K1 a
  | b :: r => match r with
   | [] => (match a with
    | .int x => (match b with
     | .int y => K x y
     | _ => False)
    | _ => False)
   | _ :: _ => False
@[irreducible] noncomputable def wSorted (ns : List Int) (K : List Int → Prop) : Prop := ∀ ms : List Int, ms.Perm ns → ms.Pairwise (· ≤ ·) → K ms
theorem wSorted.out {ns : List Int} {K : List Int → Prop} (h : wSorted ns K) : ∀ ms : List Int, ms.Perm ns → ms.Pairwise (· ≤ ·) → K ms := by unfold wSorted at h; exact h
noncomputable def wBuiltin (id : String) (args : List AV) (σ : Sto) (K : KE) : Prop :=
 if id = "len" then isInt2 args (fun _ _ => False) fun a => wList σ a fun xs => wG (xs.length ≤ 100000) (K (.int xs.length) σ)
 else if id = "sum" then isInt2 args (fun _ _ => False) fun a => wList σ a fun xs => wNums xs fun ns => K (.int (sumA ns)) σ
 else if id = "any" then isInt2 args (fun _ _ => False) fun a => wList σ a fun xs => wInts xs fun ns => K (.bool ((List.range ns.length).any fun i => ns.getD i 0 != 0)) σ
 else if id = "min" then isInt2 args (fun a b => K (.int (if b < a then b else a)) σ) fun _ => False
 else if id = "max" then isInt2 args (fun a b => K (.int (if b > a then b else a)) σ) fun _ => False
 else if id = "sorted" then isInt2 args (fun _ _ => False) fun a => wList σ a fun xs => wInts xs fun ns => wG (xs.length < 64) (wSorted ns fun ms => K (.ref σ.length) (σ ++ [⟨true, .list (ms.map .int)⟩]))
 else False
noncomputable def wRange (args : List AV) (K : Int → Int → Int → Prop) : Prop := match args with
 | [] => False
 | a :: r => match a with
  | .int x => (match r with
   | [] => K 0 x 1
   | b :: r => match b with
    | .int y => (match r with
     | [] => K x y 1
     | _ :: _ => False)
    | _ => False)
  | _ => False
noncomputable def wListOf (args : List AV) (σ : Sto) (K : KE) : Prop := match args with
 | [] => False
 | a :: r => match r with
  | [] => (match a with
   | .ref k => wAt k σ fun c => match c.o with
    | .list xs => wG (xs.length ≤ 100000) (K (.ref σ.length) (σ ++ [⟨true, .list xs⟩]))
    | .range lo hi st => wG (Builtin.Range.small lo hi st = true ∧ rangeN lo hi st ≤ 100000) (K (.ref σ.length) (σ ++ [⟨true, .list (rangeFrom lo st (rangeN lo hi st))⟩]))
    | _ => False
   | _ => False)
  | _ :: _ => False
noncomputable def wType (T : String) (args : List AV) (σ : Sto) (K : KE) : Prop :=
 if T = "range" then wRange args fun lo hi st => K (.ref σ.length) (σ ++ [⟨true, .range lo hi st⟩])
 else if T = "list" then wListOf args σ K
 else False
noncomputable def wAppend (k : Nat) (v : AV) (σ : Sto) (K : KE) : Prop := wLst k σ fun b xs => wB b <| wG (xs.length ≤ 100000) (K .none (σ.set k ⟨true, .list (xs ++ [v])⟩))
noncomputable def wExtend (k : Nat) (v : AV) (σ : Sto) (K : KE) : Prop := match v with
 | .ref j => wLst k σ fun b xs => wLst j σ fun _ ys => wB b <| wG (j ≠ k ∧ xs.length + ys.length ≤ 100000) (K .none (σ.set k ⟨true, .list (xs ++ ys)⟩))
 | _ => False
inductive LM where
 | append | extend | count | index | remove
noncomputable def listMeth (name : Str) : Option LM := if name == ("append" : Str) then some .append else if name == ("extend" : Str) then some .extend else if name == ("count" : Str) then some .count
 else if name == ("index" : Str) then some .index else if name == ("remove" : Str) then some .remove else none
noncomputable def wLInt (v : AV) (k : Nat) (σ : Sto) (K : Int → Bool → List Int → Prop) : Prop := match v with
 | .int x => wLst k σ fun b xs => wG (xs.length ≤ 100000) (wInts xs fun ns => K x b ns)
 | _ => False
noncomputable def wMeth (m : LM) (k : Nat) (args : List AV) (σ : Sto) (K : KE) : Prop := match args with
 | [v] => (match m with
  | .append => wAppend k v σ K
  | .extend => wExtend k v σ K
  | .count => wLInt v k σ fun x _ ns => K (.int (ns.count x)) σ
  | .index => wLInt v k σ fun x _ ns => wG (x ∈ ns) (K (.int (ns.idxOf x)) σ)
  | .remove => wLInt v k σ fun x b ns => wB b <| wG (x ∈ ns) (K .none (σ.set k ⟨true, .list ((ns.erase x).map .int)⟩)))
 | _ => False
noncomputable def tagE : Expr → Nat
 | .Slice .. => 1
 | .Set .. => 2
 | .Tuple .. => 3
 | .List .. => 4
 | .Starred .. => 5
 | .Name .. => 6
 | _ => 0
noncomputable def notSl (e : Expr) : Bool := tagE e != 1
noncomputable def noSet (e : Expr) : Bool := tagE e != 2
noncomputable def isTup (e : Expr) : Bool := tagE e == 3
noncomputable def notStar (e : Expr) : Bool := tagE e != 5
noncomputable def tsTup (ts : List Expr) : Bool := match ts with
 | [t] => tagE t == 3 || tagE t == 4
 | _ => false
noncomputable def baseOk (e : Expr) : Bool := match e with
 | .Call f as ks _ => !(tagE f == 6 && as.isEmpty && ks.isEmpty)
 | _ => true
section
variable (X : Ctx) (call : Addr → List AV → Sto → XE)
noncomputable def evalsA (f : Expr → Loc → Sto → XE) : List Expr → Loc → Sto → (List AV → Sto → Prop) → Prop
 | [], _, σ, K => K [] σ
 | e :: r, ae, σ, K => f e ae σ fun v σ => evalsA f r ae σ fun vs σ => K (v :: vs) σ
noncomputable def boolA (f : Expr → Loc → Sto → XE) (op : BoolOp) : List Expr → Loc → Sto → XE
 | [], _, _, _ => False
 | e :: r, ae, σ, K => match r with
  | [] => f e ae σ K
  | _ :: _ => f e ae σ fun v σ => wTruth σ v fun t => match op with
   | .And => wIf t (boolA f op r ae σ K) (K v σ)
   | .Or => wIf t (K v σ) (boolA f op r ae σ K)
noncomputable def allA (f : Expr → Loc → Sto → (Bool → Sto → Prop) → Prop) (op : BoolOp) : List Expr → Loc → Sto → (Bool → Sto → Prop) → Prop
 | [], _, σ, K => K (match op with | .And => true | .Or => false) σ
 | e :: r, ae, σ, K => f e ae σ fun t σ => match op with
  | .And => wIf t (allA f op r ae σ K) (K false σ)
  | .Or => wIf t (K true σ) (allA f op r ae σ K)
noncomputable def constIntsA : List Expr → Option (List Int)
 | [] => some []
 | .Constant (.int i) _ _ :: r => (constIntsA r).map (i :: ·)
 | _ => none
noncomputable def wCls (o : Option Addr) (a : Addr) (args : List AV) (σ : Sto) (K : KE) : Prop := match o with
 | some ini => lCall call ini (.ref (σ.length + 1) :: args) (σ ++ [⟨true, .ns []⟩, ⟨true, .inst a σ.length⟩]) fun v σ' => ifNone v (K (.ref (σ.length + 1)) σ')
 | none => lCall call a args σ K
noncomputable def wApply (f : AV) (args : List AV) (σ : Sto) (K : KE) : Prop := match f with
 | .con c => (match c with
  | .builtin id => wBuiltin id args σ K
  | .type T => wType T args σ K
  | .ref a => wCls call (X.cls a) a args σ K
  | _ => False)
 | _ => False
noncomputable def calleeOk (f : AV) : Bool := match f with
 | .con c => (match c with
  | .builtin _ => true
  | .type _ => true
  | .ref a => (X.cls a).isSome || (X.fn a).isSome
  | _ => false)
 | _ => false
noncomputable def compOk (sc scope : Scope) (ae : Loc) : Bool := scope.kind == .function && (scope.names.lookup ("__classdict__" : Str)).isNone && scope.names.all fun p => p.2 != .cell && scope.names.lookup p.1 == some p.2 && (if p.2 == .free then (ae.lookup p.1).isSome && (sc.names.lookup p.1 == some .cell || sc.names.lookup p.1 == some .free) else true)
noncomputable def wResolve (o : AV) (name : Str) (σ : Sto) (Kf : Addr → List AV → Prop) (Kl : Nat → LM → Prop) : Prop := match o with
 | .con c => (match c with
  | .ref C => wO (X.stat C name) fun f => Kf f []
  | _ => False)
 | .ref k => wAt k σ fun c => match c.o with
  | .inst C d => wAt d σ fun e => match e.o with
   | .ns es => wB (es.lookup name).isNone (wO (X.meth C name) fun f => Kf f [.ref k])
   | _ => False
  | .list _ => wO (listMeth name) fun m => Kl k m
  | _ => False
 | _ => False
end
@[irreducible] noncomputable def lRes (X : Ctx) (o : AV) (name : Str) (σ : Sto) (Kf : Addr → List AV → Prop) (Kl : Nat → LM → Prop) : Prop := wResolve X o name σ Kf Kl
theorem lRes.out {X : Ctx} {o : AV} {name : Str} {σ : Sto} {Kf : Addr → List AV → Prop} {Kl : Nat → LM → Prop} (h : lRes X o name σ Kf Kl) : wResolve X o name σ Kf Kl := by unfold lRes at h; exact h
theorem lRes.mk {X : Ctx} {o : AV} {name : Str} {σ : Sto} {Kf : Addr → List AV → Prop} {Kl : Nat → LM → Prop} (h : wResolve X o name σ Kf Kl) : lRes X o name σ Kf Kl := by unfold lRes; exact h
section
variable (X : Ctx) (call : Addr → List AV → Sto → XE)
noncomputable def wLoop {α : Type} (turn : AV → α → Sto → (α → Sto → Prop) → Prop) : Nat → It → α → Sto → (α → Sto → Prop) → Prop
 | 0, _, _, _, _ => False
 | n + 1, it, a, σ, K => wNext it σ (K a σ) fun v it' σ => ∃ K0, turn v a σ K0 ∧ ∀ a σ, K0 a σ → wLoop turn n it' a σ K
noncomputable def turnG (sc : Scope) (x : Str) (tests : Loc → Sto → (Bool → Sto → Prop) → Prop) (body : Loc → Sto → (Loc → Sto → Prop) → Prop) (v : AV) (ae : Loc) (σ : Sto) (K : Loc → Sto → Prop) : Prop :=
 wB (sc.names.lookup x == some .local) <| tests (putField x v ae) σ fun ok σ => wIf ok (body (putField x v ae) σ K) (K (putField x v ae) σ)
mutual
noncomputable def evalE : Nat → Scope → Expr → Loc → Sto → XE
 | 0, _, _, _, _, _ => False
 | n + 1, sc, e, ae, σ, K => match e with
  | .Constant c _ _ => wO (constA c) fun v => K v σ
  | .Name x _ => wO (nameA X sc x ae) fun v => K v σ
  | .BinOp l op r _ => evalE n sc l ae σ fun a σ => evalE n sc r ae σ fun b σ => wBin op a b σ K
  | .UnaryOp op x _ => evalE n sc x ae σ fun a σ => wUn op a σ fun v => K v σ
  | .BoolOp op vs _ => boolA (evalE n sc) op vs ae σ K
  | .IfExp t b o _ => testE n sc t ae σ fun c σ => wIf c (evalE n sc b ae σ K) (evalE n sc o ae σ K)
  | .Compare l ops rs _ => (match ops with
   | [op] => (match rs with
    | [r] => cmpE n sc l op r ae σ fun b σ => K (.bool b) σ
    | _ => False)
   | _ => False)
  | .List es _ => wB (Nat.ble es.length 1000 && es.all notStar) <| evalsA (evalE n sc) es ae σ fun vs σ => K (.ref σ.length) (σ ++ [⟨true, .list vs⟩])
  | .Subscript v i _ => (match i with
   | .Slice lo hi st _ => (match st with
    | none => evalE n sc v ae σ fun a σ => partE n sc lo ae σ fun l σ => partE n sc hi ae σ fun h σ => lSlice a l h σ K
    | some _ => False)
   | i => evalE n sc v ae σ fun a σ => evalE n sc i ae σ fun b σ => lItem a b σ fun u => K u σ)
  | .Attribute v name _ => wB (baseOk v) <| evalE n sc v ae σ fun a σ => lGet X a name σ fun u => K u σ
  | .Call f args ks pos => (match ks with
   | [] => (match f with
    | .Attribute o name apos => wB (baseOk o && apos.endLine == pos.line && Nat.ble args.length 19 && args.all notStar) <| evalE n sc o ae σ fun a σ =>
      lRes X a name σ (fun g first => wB (X.fn g).isSome <| evalsA (evalE n sc) args ae σ fun vs σ => lCall call g (first ++ vs) σ K) fun k m => evalsA (evalE n sc) args ae σ fun vs σ => wMeth m k vs σ K
    | f => wB (args.all notStar) <| evalE n sc f ae σ fun a σ => wB (calleeOk X a) <| evalsA (evalE n sc) args ae σ fun vs σ => wApply X call a vs σ K)
   | _ => False)
  | .ListComp elt gens scope _ => (match gens with
   | ⟨t, iter, ifs, as⟩ :: gs => wB (compOk sc scope ae && noSet iter && as == 0) <| evalE n sc iter ae σ fun x σ => lIter x σ fun it =>
     lockG <| gensA n scope elt σ.length (⟨t, iter, ifs, as⟩ :: gs) it (ae.filter fun p => scope.names.lookup p.1 == some .free) (σ ++ [⟨true, .list []⟩]) fun _ σ' => K (.ref σ.length) σ'
   | [] => False)
  | _ => False
noncomputable def partE : Nat → Scope → Option Expr → Loc → Sto → XE
 | 0, _, _, _, _, _ => False
 | n + 1, sc, e, ae, σ, K => match e with
  | none => K .none σ
  | some e => evalE n sc e ae σ K
noncomputable def cmpE : Nat → Scope → Expr → CmpOp → Expr → Loc → Sto → (Bool → Sto → Prop) → Prop
 | 0, _, _, _, _, _, _, _ => False
 | n + 1, sc, l, op, r, ae, σ, K => match r with
  | .Set es k _ => wB (k == 0 && Nat.ble es.length 2 && op == .In) <| evalE n sc l ae σ fun a σ => (match a with
   | .int x => wO (constIntsA es) fun ns => K (ns.contains x) σ
   | _ => False)
  | r => evalE n sc l ae σ fun a σ => evalE n sc r ae σ fun b σ => wCmp op a b σ fun c => K c σ
noncomputable def testE : Nat → Scope → Expr → Loc → Sto → (Bool → Sto → Prop) → Prop
 | 0, _, _, _, _, _ => False
 | n + 1, sc, e, ae, σ, K => match e with
  | .UnaryOp op x p => (match op with
   | .Not => testE n sc x ae σ fun b σ => K (!b) σ
   | op => evalE n sc (.UnaryOp op x p) ae σ fun v σ => wTruth σ v fun b => K b σ)
  | .BoolOp op vs _ => allA (testE n sc) op vs ae σ K
  | .IfExp .. => False
  | .Compare l ops rs _ => (match ops with
   | [op] => (match rs with
    | [r] => cmpE n sc l op r ae σ K
    | _ => False)
   | _ => False)
  | e => evalE n sc e ae σ fun v σ => wTruth σ v fun b => K b σ
noncomputable def gensA : Nat → Scope → Expr → Nat → List Comprehension → It → Loc → Sto → (Loc → Sto → Prop) → Prop
 | 0, _, _, _, _, _, _, _, _ => False
 | n + 1, sc, elt, k, gens, it, ae, σ, K => match gens with
  | ⟨t, _, ifs, as⟩ :: gs => wB (as == 0) (match t with
   | .Name x _ => (match gs with
    | [] => wLoop (turnG sc x (allA (testE n sc) .And ifs) fun ae σ K => evalE n sc elt ae σ fun u σ => wAppend k u σ fun _ σ => K ae σ) X.N it ae σ K
    | _ :: _ => False)
   | _ => False)
  | [] => False
end
noncomputable abbrev KS := Fl → Loc → Sto → Prop
noncomputable abbrev XS := KS → Prop
noncomputable def seqA (f : Stmt → Loc → Sto → XS) : List Stmt → Loc → Sto → XS
 | [], ae, σ, K => K .next ae σ
 | s :: r, ae, σ, K => ∃ K0, f s ae σ K0 ∧ ∀ fl ae σ, K0 fl ae σ → match fl with
  | .next => seqA f r ae σ K
  | .brk => K .brk ae σ
  | .cont => K .cont ae σ
  | .ret v => K (.ret v) ae σ
noncomputable def whileA (test : Loc → Sto → (Bool → Sto → Prop) → Prop) (body : Loc → Sto → XS) : Nat → Loc → Sto → XS
 | 0, _, _, _ => False
 | n + 1, ae, σ, K => test ae σ fun c σ => wIf c (∃ K0, body ae σ K0 ∧ ∀ fl ae σ, K0 fl ae σ → match fl with
   | .next => whileA test body n ae σ K
   | .cont => whileA test body n ae σ K
   | .brk => K .next ae σ
   | .ret v => K (.ret v) ae σ) (K .next ae σ)
noncomputable def forA (asg : AV → Loc → Sto → (Loc → Sto → Prop) → Prop) (body : Loc → Sto → XS) : Nat → It → Loc → Sto → XS
 | 0, _, _, _, _ => False
 | n + 1, it, ae, σ, K => wNext it σ (K .next ae σ) fun v it' σ => ∃ K0, (asg v ae σ fun ae σ => body ae σ K0) ∧ ∀ fl ae σ, K0 fl ae σ → match fl with
   | .next => forA asg body n it' ae σ K
   | .cont => forA asg body n it' ae σ K
   | .brk => K .next ae σ
   | .ret v => K (.ret v) ae σ
noncomputable def wUnpack (v : AV) (n : Nat) (σ : Sto) (K : List AV → Prop) : Prop := match v with
 | .ref k => wAt k σ fun c => match c.o with
  | .tuple xs => wG (xs.length = n) (K xs)
  | _ => False
 | _ => False
noncomputable def namesA : List Expr → Option (List Str)
 | [] => some []
 | .Name x _ :: r => (namesA r).map (x :: ·)
 | _ => none
noncomputable def asgNames (sc : Scope) : List Str → List AV → Loc → Option Loc
 | [], [], ae => some ae
 | x :: xs, v :: vs, ae => (asgName sc x v ae).bind fun ae => asgNames sc xs vs ae
 | _, _, _ => none
noncomputable def asgA (n : Nat) (sc : Scope) (t : Expr) (v : AV) (ae : Loc) (σ : Sto) (K : Loc → Sto → Prop) : Prop := match t with
 | .Name x _ => wO (asgName sc x v ae) fun ae => K ae σ
 | .Attribute o name _ => evalE X call n sc o ae σ fun a σ => lSet X a name v σ fun σ => K ae σ
 | .Subscript o i _ => wB (notSl i) <| evalE X call n sc o ae σ fun a σ => evalE X call n sc i ae σ fun b σ => lPut a b v σ fun σ => K ae σ
 | .Tuple ts _ _ => wO (namesA ts) fun xs => wUnpack v xs.length σ fun vs => wO (asgNames sc xs vs ae) fun ae => K ae σ
 | _ => False
noncomputable def wEnumK (a : AV) (σ : Sto) (K : It → Sto → Prop) : Prop := match a with
 | .ref k => wLst k σ fun _ _ => K (.enum k 0) σ
 | _ => False
noncomputable def isEnum : Option AV → Bool
 | some (.con (.type s)) => s == "enumerate"
 | _ => false
noncomputable def enumArg (sc : Scope) (e : Expr) (ae : Loc) : Option Expr := match e with
 | .Call (.Name f _) [x] [] _ => if isEnum (nameA X sc f ae) = true then some x else none
 | _ => none
noncomputable def wIterE (n : Nat) (sc : Scope) (t e : Expr) (ae : Loc) (σ : Sto) (K : It → Sto → Prop) : Prop := match enumArg X sc e ae with
 | some x => wB (isTup t && notStar x) <| evalE X call n sc x ae σ fun a σ => wEnumK a σ K
 | none => wB (noSet e) <| evalE X call n sc e ae σ fun a σ => lIter a σ fun it => K it σ
noncomputable def execS : Nat → Scope → Stmt → Loc → Sto → XS
 | 0, _, _, _, _, _ => False
 | n + 1, sc, s, ae, σ, K => match s with
  | .Expr e _ => (match e with
   | .Call f as ks p => evalE X call n sc (.Call f as ks p) ae σ fun v σ => ifNone v (K .next ae σ)
   | _ => False)
  | .Break _ => K .brk ae σ
  | .Return e _ => (match e with
   | some e => evalE X call n sc e ae σ fun v σ => K (.ret v) ae σ
   | none => False)
  | .Assign ts e _ => wB (!(isTup e && tsTup ts)) (match ts with
   | [t] => evalE X call n sc e ae σ fun v σ => asgA X call n sc t v ae σ fun ae σ => K .next ae σ
   | [t, t'] => evalE X call n sc e ae σ fun v σ => asgA X call n sc t v ae σ fun ae σ => asgA X call n sc t' v ae σ fun ae σ => K .next ae σ
   | _ => False)
  | .AugAssign t op e _ => (match t with
   | .Name x _ => wO (nameA X sc x ae) fun a => evalE X call n sc e ae σ fun b σ => wAug op a b σ fun v σ => wO (asgName sc x v ae) fun ae => K .next ae σ
   | .Attribute o name _ => evalE X call n sc o ae σ fun a σ => lGet X a name σ fun u => evalE X call n sc e ae σ fun b σ => wAug op u b σ fun v σ => lSet X a name v σ fun σ => K .next ae σ
   | .Subscript o i _ => wB (notSl i) <| evalE X call n sc o ae σ fun a σ => evalE X call n sc i ae σ fun j σ => lItem a j σ fun u => evalE X call n sc e ae σ fun b σ =>
     wAug op u b σ fun v σ => lPut a j v σ fun σ => K .next ae σ
   | _ => False)
  | .If t b o _ => testE X call n sc t ae σ fun c σ => wIf c (seqA (execS n sc) b ae σ K) (seqA (execS n sc) o ae σ K)
  | .While t b o _ => wB o.isEmpty <| lockW <| whileA (testE X call n sc t) (seqA (execS n sc) b) X.N ae σ K
  | .For t e b o _ => wB o.isEmpty <| wIterE X call n sc t e ae σ fun it σ => lockF <| forA (asgA X call n sc t) (seqA (execS n sc) b) X.N it ae σ K
  | _ => False
end
noncomputable def bindA (fn : Fn) (args : List AV) : Option Loc :=
 if args.length ≤ fn.params.length ∧ fn.params.length ≤ args.length + fn.dflts.length then
  some (fn.params.zip (args ++ fn.dflts.drop (args.length + fn.dflts.length - fn.params.length))) else none
noncomputable def callA (X : Ctx) : Nat → Addr → List AV → Sto → XE
 | 0, _, _, _, _ => False
 | n + 1, f, args, σ, K => wO (X.fn f) fun fn => wO (bindA fn args) fun ae => seqA (execS X (callA X n) 40 fn.scope) fn.body ae σ fun fl _ σ => match fl with
  | .next => K .none σ
  | .ret v => K v σ
  | _ => False
end
set_option tactic.hygienic false
section
open PySem.Spec
structure Same (s s' : Shared) : Prop where
 gens : s'.gens = s.gens
 os : s'.os = s.os
theorem Same.rfl' {s : Shared} : Same s s := ⟨rfl, rfl⟩
theorem Same.trans {a b c : Shared} (x : Same a b) (y : Same b c) : Same a c := ⟨y.gens.trans x.gens, y.os.trans x.os⟩
noncomputable def Outs {α : Type} (B : Heap) (F : List (Addr × Obj)) (ρ : Rho) (σ' : Sto) (s : Shared) (P : Rho → α → Prop) (Q : α → Shared → Prop) : Prop :=
 ∀ (ρ' : Rho) (v : α) (s' : Shared), ρ <+: ρ' → HR B F ρ' σ' s'.heap → P ρ' v → Same s s' → Q v s'
section
variable {prog : Program} {w : World} {A : Around} {E : Value → Shared → Prop} {B : Heap} {F : List (Addr × Obj)} {ρ : Rho} {σ σ' : Sto} {s : Shared} {Q : Value → Shared → Prop}
theorem Outs.int (H : HR B F ρ σ s.heap) {i : Int} (h : Outs B F ρ σ s (VR · (.int i)) Q) : Q (.int i s.toks) { s with toks := s.toks + 1 } :=
 h ρ _ _ (List.prefix_refl _) H ⟨_, rfl⟩ ⟨rfl, rfl⟩
theorem Outs.bool (H : HR B F ρ σ s.heap) {b : Bool} (h : Outs B F ρ σ s (VR · (.bool b)) Q) : Q (.bool b) s :=
 h ρ _ _ (List.prefix_refl _) H rfl ⟨rfl, rfl⟩
theorem Outs.newList (H : HR B F ρ σ s.heap) {xs : List AV} {vs : Array Value} (hv : VRs ρ xs vs.toList) (h : Outs B F ρ (σ ++ [⟨true, .list xs⟩]) s (VR · (.ref σ.length)) Q) :
  Q (.ref s.heap.objs.size) { s with heap := s.heap.push { cls := .type "list", data := .seq vs } } := by
 refine h (ρ ++ [s.heap.objs.size]) _ _ (List.prefix_append _ _) (H.alloc (fun _ _ e => Heap.get?_push_of_some _ e) (Nat.le_refl _) ?_) ⟨_, ?_, rfl⟩ ⟨rfl, rfl⟩
 ·exact ⟨vs, 0, Heap.get?_push_size _ rfl, hv.mono (List.prefix_append _ _)⟩
 ·rw [← H.len]; simp
theorem Outs.newTuple (H : HR B F ρ σ s.heap) {xs : List AV} {vs : Array Value} (hv : VRs ρ xs vs.toList) (h : Outs B F ρ (σ ++ [⟨true, .tuple xs⟩]) s (VR · (.ref σ.length)) Q) :
  Q (.ref s.heap.objs.size) { s with heap := s.heap.push { cls := .type "tuple", data := .seq vs } } := by
 refine h (ρ ++ [s.heap.objs.size]) _ _ (List.prefix_append _ _) (H.alloc (fun _ _ e => Heap.get?_push_of_some _ e) (Nat.le_refl _) ?_) ⟨_, ?_, rfl⟩ ⟨rfl, rfl⟩
 ·exact ⟨vs, 0, Heap.get?_push_size _ rfl, hv.mono (List.prefix_append _ _)⟩
 ·rw [← H.len]; simp
theorem listAt (H : HR B F ρ σ s.heap) {k : Nat} {b : Bool} {xs : List AV} {rv : Value} (e : σ[k]? = some ⟨b, .list xs⟩) (hr : VR ρ (.ref k) rv) :
  ∃ a vs n, rv = .ref a ∧ ρ[k]? = some a ∧ s.heap.get? a = some { cls := .type "list", data := .seq vs n } ∧ VRs ρ xs vs.toList := by
 obtain ⟨a, ea, rfl⟩ := hr
 obtain ⟨vs, n, h1, h2⟩ := H.obj k _ a e ea
 exact ⟨a, vs, n, rfl, ea, h1, h2⟩
theorem tupleAt (H : HR B F ρ σ s.heap) {k : Nat} {b : Bool} {xs : List AV} {rv : Value} (e : σ[k]? = some ⟨b, .tuple xs⟩) (hr : VR ρ (.ref k) rv) :
  ∃ a vs n, rv = .ref a ∧ ρ[k]? = some a ∧ s.heap.get? a = some { cls := .type "tuple", data := .seq vs n } ∧ VRs ρ xs vs.toList := by
 obtain ⟨a, ea, rfl⟩ := hr
 obtain ⟨vs, n, h1, h2⟩ := H.obj k _ a e ea
 exact ⟨a, vs, n, rfl, ea, h1, h2⟩
structure Go (B : Heap) (F : List (Addr × Obj)) (ρ : Rho) (s : Shared) (ρ' : Rho) (σ' : Sto) (s' : Shared) : Prop where
 pre : ρ <+: ρ'
 H : HR B F ρ' σ' s'.heap
 same : Same s s'
theorem Go.refl (H : HR B F ρ σ s.heap) : Go B F ρ s ρ σ s := ⟨List.prefix_refl _, H, rfl, rfl⟩
theorem Go.trans {ρ1 ρ2 : Rho} {s1 s2 : Shared} {σ1 σ2 : Sto} (g : Go B F ρ s ρ1 σ1 s1) (k : Go B F ρ1 s1 ρ2 σ2 s2) : Go B F ρ s ρ2 σ2 s2 := ⟨g.pre.trans k.pre, k.H, g.same.trans k.same⟩
noncomputable def PE (B : Heap) (F : List (Addr × Obj)) (ρ : Rho) (s : Shared) (K : KE) (Q : Value → Shared → Prop) : Prop := ∀ ρ' v rv σ' s', Go B F ρ s ρ' σ' s' → VR ρ' v rv → K v σ' → Q rv s'
noncomputable def PB (B : Heap) (F : List (Addr × Obj)) (ρ : Rho) (s : Shared) (K : Bool → Sto → Prop) (Q : Bool → Shared → Prop) : Prop := ∀ ρ' b σ' s', Go B F ρ s ρ' σ' s' → K b σ' → Q b s'
noncomputable def PL (B : Heap) (F : List (Addr × Obj)) (ρ : Rho) (s : Shared) (K : List AV → Sto → Prop) (Q : List Value → Shared → Prop) : Prop := ∀ ρ' vs rs σ' s', Go B F ρ s ρ' σ' s' → VRs ρ' vs rs → K vs σ' → Q rs s'
theorem PE.after {K : KE} {ρ1 : Rho} {s1 : Shared} {σ1 : Sto} (h : PE B F ρ s K Q) (g : Go B F ρ s ρ1 σ1 s1) : PE B F ρ1 s1 K Q := fun _ _ _ _ _ k hv x => h _ _ _ _ _ (g.trans k) hv x
theorem PB.after {K : Bool → Sto → Prop} {Q : Bool → Shared → Prop} {ρ1 : Rho} {s1 : Shared} {σ1 : Sto} (h : PB B F ρ s K Q) (g : Go B F ρ s ρ1 σ1 s1) : PB B F ρ1 s1 K Q := fun _ _ _ _ k x => h _ _ _ _ (g.trans k) x
theorem PL.after {K : List AV → Sto → Prop} {Q : List Value → Shared → Prop} {ρ1 : Rho} {s1 : Shared} {σ1 : Sto} (h : PL B F ρ s K Q) (g : Go B F ρ s ρ1 σ1 s1) : PL B F ρ1 s1 K Q := fun _ _ _ _ _ k hv x => h _ _ _ _ _ (g.trans k) hv x
theorem PE.outs {K : KE} {v : AV} (h : PE B F ρ s K Q) (k : K v σ') : Outs B F ρ σ' s (VR · v) Q := fun _ _ _ p H hv hs => h _ _ _ _ _ ⟨p, H, hs⟩ hv k
theorem PE.ret {K : KE} {v : AV} {rv : Value} (h : PE B F ρ s K Q) (H : HR B F ρ σ s.heap) (hv : VR ρ v rv) (k : K v σ) : Q rv s := h _ _ _ _ _ (.refl H) hv k
theorem PB.ret {K : Bool → Sto → Prop} {Q : Bool → Shared → Prop} {b : Bool} (h : PB B F ρ s K Q) (H : HR B F ρ σ s.heap) (k : K b σ) : Q b s := h _ _ _ _ (.refl H) k
theorem sizeLine_big {n : Nat} (h : n ≤ 100000) : n ≤ sizeLine := by rw [sizeLine_eq]; lia -abstractProof
theorem mulOk_of_small {x y : Int} (hx : small x) : IntMulOk x y := by
 have := intBits_le (a := x) hx
 exact IntMulOk.of_left this
theorem concatL {l b : Addr} {xs ys : Array Value} {n m : Nat} (ho : s.heap.get? l = some { cls := .type "list", data := .seq xs n }) (ho2 : s.heap.get? b = some { cls := .type "list", data := .seq ys m }) (hsz : xs.size + ys.size ≤ sizeLine)
  (h : Q (.ref s.heap.objs.size) { s with heap := s.heap.push { cls := .type "list", data := .seq (xs ++ ys) } }) : wpAny (model prog w) A (binaryOp .Add (.ref l) (.ref b)) Q E s :=
 concat_meets ⟨_, ho, rfl⟩ ⟨_, ho2, rfl⟩ noFill_list_add seq_list_add PySem.F.slot_list_add PySem.F.entry_list_add (PySem.F.args_list_add_2 _ _) (list_addW l b xs ys n m none none #[] #[] hsz) ⟨ho, ho2, h⟩
theorem repL {l : Addr} {items : Array Value} {k : Nat} {x : Int} {u : Tok} (hl : s.heap.get? l = some { cls := .type "list", data := .seq items k })
  (hlo : -(2 ^ 63 : Int) ≤ x) (hhi : x < 2 ^ 63) (hsz : items.size * x.toNat ≤ 2 ^ 24)
  (h : Q (.ref s.heap.objs.size) { s with heap := s.heap.push { cls := .type "list", data := .seq (List.foldl (fun x1 x2 => x1 ++ x2) #[] (List.replicate (if items.isEmpty = true then 0 else x.toNat) items)) } }) :
  wpAny (model prog w) A (binaryOp .Mult (.ref l) (.int x u)) Q E s :=
 wpAny_binaryOp_repeat_ref (T := "list") (U := "int") (by decide) ⟨_, hl, rfl⟩ (fun s' => typeIs_int s' x u) noFill_list_mul PySem.F.fills_int_mul PySem.F.slot_int_rmul repeat_list PySem.F.slot_int_index.lookup
  (call_meets PySem.F.slot_int_rmul (typeIs_int s x u) PySem.F.entry_int_rmul (PySem.F.args_int_rmul_2 _ _) (int___rmul___int_list x u l items k)
   ⟨hl, rfl, ⟨_, hl, rfl⟩, call_meets PySem.F.slot_list_mul ⟨_, hl, rfl⟩ PySem.F.entry_list_mul (PySem.F.args_list_mul_2 _ _)
    (AutoListH.list___mul___list_int_3 l items k x u (by simp [Builtin.List.listFitsIndex]; lia -abstractProof) (by lia -abstractProof) (by simp [Builtin.List.listTooLong, sizeLine]; lia -abstractProof))
    ⟨hl, h⟩⟩)
theorem VRs.rep {xs : List AV} {vs : List Value} (h : VRs ρ xs vs) : ∀ k : Nat, VRs ρ (List.replicate k xs).flatten (List.replicate k vs).flatten
 | 0 => by simp [VRs]
 | k + 1 => by simpa [List.replicate_succ] using h.append (h.rep k)
end
end
set_option tactic.hygienic true
set_option tactic.hygienic false
section
open PySem.Spec
section
variable {prog : Program} {w : World} {A : Around} {E : Value → Shared → Prop} {B : Heap} {F : List (Addr × Obj)} {ρ : Rho} {σ σ' : Sto} {s : Shared} {Q : Value → Shared → Prop}
theorem lshift_bool_int {p : Bool} {n : Int} {u : Tok} (h0 : 0 ≤ n) (h1 : n ≤ 1000) (h : Q (.int (b2iA p * 2 ^ n.toNat) s.toks) { s with toks := s.toks + 1 }) :
  wpAny (model prog w) A (binaryOp .LShift (.bool p) (.int n u)) Q E s := by
 refine wpAny_binaryOp_two (op := .LShift) (T := "bool") (U := "int") (by decide) rfl (fun s' => typeIs_int s' n u) PySem.F.fills_bool_lshift PySem.F.fills_int_lshift PySem.F.sub_int_bool PySem.F.slot_bool_lshift PySem.F.slot_int_rlshift ?_
 refine wpAny_call_entry PySem.F.slot_bool_lshift rfl PySem.F.entry_int_lshift ?_ (PySem.F.args_int_lshift_2 _ _)
 show wpAny _ _ (if n < 0 then _ else _) _ _ s
 rw [if_neg (by lia -abstractProof)]
 have hsz : (Builtin.Int.intBits (b2iA p) : Int) + n ≤ 2 ^ 27 := bits_add_le (by cases p <;> decide) (by lia -abstractProof)
 show wpAny _ _ (if (b2iA p == 0) = true then _ else _) _ _ s
 by_cases hz : b2iA p = 0
 ·rw [if_pos (by simpa using hz)]
  have e : b2iA p * 2 ^ n.toNat = 0 := by rw [hz]; exact Int.zero_mul _
  rw [e] at h
  repeat (first | refine wpAny_pure ?_ | refine wpAny_mkInt ?_ | refine wpAny_rule ?_ | refine wpAny_bind ?_)
  exact ⟨_, rfl, .inl ⟨by simp, h⟩⟩
 rw [if_neg (by simpa using hz)]
 have h3 : ¬ (((Builtin.Int.intBits (b2iA p) : Int) + 29) / 30 + n / 30 + (if n % 30 == 0 then 0 else 1) > Builtin.maxDigits) := by
  unfold Builtin.maxDigits
  split <;> lia -abstractProof
 show wpAny _ _ (if ((Builtin.Int.intBits (b2iA p) : Int) + 29) / 30 + n / 30 + (if n % 30 == 0 then 0 else 1) > Builtin.maxDigits then _ else _) _ _ s
 rw [if_neg h3]
 have hbig : Builtin.Int.intTooBig ((Builtin.Int.intBits (b2iA p) : Int) + n) = false := decide_eq_false (Int.not_lt.mpr hsz)
 show wpAny _ _ (if Builtin.Int.intTooBig ((Builtin.Int.intBits (b2iA p) : Int) + n) = true then _ else _) _ _ s
 rw [if_neg (by rw [hbig]; exact Bool.false_ne_true)]
 repeat (first | refine wpAny_pure ?_ | refine wpAny_mkInt ?_ | refine wpAny_rule ?_ | refine wpAny_bind ?_)
 exact ⟨_, rfl, .inl ⟨by simp, h⟩⟩
theorem arith_ok {op : Operator} {x y : Int} {t u : Tok} {K : KE} (h : wArith op x y fun v => K v σ) (H : HR B F ρ σ s.heap) (hQ : PE B F ρ s K Q) : wpAny (model prog w) A (binaryOp op (.int x t) (.int y u)) Q E s := by
 cases op with
 | Add => exact wpAny_add_int (Outs.int H (hQ.outs h))
 | Sub => exact sub_int' (Outs.int H (hQ.outs h))
 | Mult => exact mul_int (Outs.int H (hQ.outs h.out.2)) (mulOk_of_small h.out.1.1)
 | FloorDiv => exact floordiv_int (Int.ne_of_gt h.out.1.1) (Outs.int H (hQ.outs h.out.2)) (.inl (PyProof.noPylong_small (by have := h.out.1; lia -abstractProof)))
 | Mod => exact mod_int' h.out.1 (Outs.int H (hQ.outs h.out.2))
 | LShift => exact lshift_int_small h.out.1.1 (by have := h.out.1.2.1; lia -abstractProof) h.out.1.2.2 (Outs.int H (hQ.outs h.out.2))
 | RShift => exact rshift_int h.out.1 (Outs.int H (hQ.outs h.out.2))
 | BitAnd => exact and_int (Outs.int H (hQ.outs h))
 | BitOr => exact or_int (Outs.int H (hQ.outs h))
 | _ => exact h.elim
theorem cat_ok {op : Operator} {i j : Nat} {ra rb : Value} {K : KE} (h : wCat op i j σ K) (H : HR B F ρ σ s.heap) (ha : VR ρ (.ref i) ra) (hb : VR ρ (.ref j) rb) (hQ : PE B F ρ s K Q) : wpAny (model prog w) A (binaryOp op ra rb) Q E s := by
 cases op with
 | Add =>
  obtain ⟨_, xs, e1, h⟩ := h.out
  obtain ⟨_, ys, e2, h⟩ := h.out
  obtain ⟨a1, vs, n, rfl, _, g1, r1⟩ := listAt H e1 ha
  obtain ⟨a2, ws, m, rfl, _, g2, r2⟩ := listAt H e2 hb
  have l1 : vs.size = _ := r1.length
  have l2 : ws.size = _ := r2.length
  exact concatL g1 g2 (sizeLine_big (by rw [l1, l2]; exact h.out.1)) (Outs.newList H (by rw [Array.toList_append]; exact r1.append r2) (hQ.outs h.out.2))
 | _ => exact h.elim
theorem rep_ok {op : Operator} {i : Nat} {k : Int} {ra rb : Value} {K : KE} (h : wRep op i k σ K) (H : HR B F ρ σ s.heap) (ha : VR ρ (.ref i) ra) (hb : VR ρ (.int k) rb) (hQ : PE B F ρ s K Q) : wpAny (model prog w) A (binaryOp op ra rb) Q E s := by
 cases op with
 | Mult =>
  obtain ⟨_, xs, e1, h⟩ := h.out
  obtain ⟨⟨z1, z2⟩, h⟩ := h.out
  obtain ⟨a1, vs, n, rfl, _, g1, r1⟩ := listAt H e1 ha
  obtain ⟨u, rfl⟩ := hb
  have l1 : vs.size = _ := r1.length
  refine repL g1 (by lia -abstractProof) (by lia -abstractProof) (by rw [l1]; lia -abstractProof) (Outs.newList H ?_ (hQ.outs h))
  rw [listMul_foldl]
  simp only [List.nil_append]
  by_cases q : vs.isEmpty = true
  ·have hq : vs = #[] := by simpa using q
   subst hq
   have hx : xs = [] := by simpa using l1.symm
   subst hx
   simp [VRs]
  ·rw [if_neg q]; exact r1.rep _
 | _ => exact h.elim
theorem bin_ok {op : Operator} {a b : AV} {ra rb : Value} {K : KE} (h : wBin op a b σ K) (H : HR B F ρ σ s.heap) (ha : VR ρ a ra) (hb : VR ρ b rb) (hQ : PE B F ρ s K Q) : wpAny (model prog w) A (binaryOp op ra rb) Q E s := by
 cases a with
 | int x =>
  obtain ⟨t, rfl⟩ := ha
  cases b with
  | int y => obtain ⟨u, rfl⟩ := hb; exact arith_ok h H hQ
  | bool q => cases hb; cases op with
   | Add => exact add_int_bool (Outs.int H (hQ.outs h))
   | _ => exact h.elim
  | _ => exact h.elim
 | bool p =>
  cases ha
  cases b with
  | int y => obtain ⟨u, rfl⟩ := hb; cases op with
   | Add => exact PySem.IntBool.add_bool_int (Outs.int H (hQ.outs h))
   | LShift => exact lshift_bool_int h.out.1.1 h.out.1.2 (Outs.int H (hQ.outs h.out.2))
   | _ => exact h.elim
  | bool q => cases hb; cases op with
   | Add => exact add_bool (Outs.int H (hQ.outs h))
   | _ => exact h.elim
  | _ => exact h.elim
 | ref i =>
  cases b with
  | ref j => exact cat_ok h H ha hb hQ
  | int n => exact rep_ok h H ha hb hQ
  | _ => exact h.elim
 | _ => exact h.elim
end
end
set_option tactic.hygienic true
set_option tactic.hygienic false
section
open PySem.Spec
section
variable {prog : Program} {w : World} {A : Around} {E : Value → Shared → Prop} {B : Heap} {F : List (Addr × Obj)} {ρ : Rho} {σ σ' : Sto} {s : Shared}
theorem HR.updL (H : HR B F ρ σ s.heap) {k : Nat} {xs ys : List AV} {a : Addr} {vs : Array Value} {n : Nat} (e : σ[k]? = some ⟨true, .list xs⟩) (ea : ρ[k]? = some a)
  (g : s.heap.get? a = some { cls := .type "list", data := .seq vs n }) {f : Array Value → Array Value} (hf : VRs ρ ys (f vs).toList) : HR B F ρ (σ.set k ⟨true, .list ys⟩) (s.heap.update a (Obj.mapSeq f)) := by
 refine H.upd e ea rfl (fun b o hb eb => (Heap.get?_update_other _ _ (Ne.symm hb)).trans eb) ?_
 refine ⟨f vs, if (f vs).size == vs.size then n else n + 1, ?_, hf⟩
 rw [Heap.get?_update_self _ g rfl]; rfl
theorem Outs.updL {α : Type} {v : α} {P : Rho → α → Prop} {Q : α → Shared → Prop} (H : HR B F ρ σ s.heap) {k : Nat} {xs ys : List AV} {a : Addr} {vs : Array Value} {n : Nat} (e : σ[k]? = some ⟨true, .list xs⟩) (ea : ρ[k]? = some a)
  (g : s.heap.get? a = some { cls := .type "list", data := .seq vs n }) {f : Array Value → Array Value} (hf : VRs ρ ys (f vs).toList) (hv : P ρ v) (h : Outs B F ρ (σ.set k ⟨true, .list ys⟩) s P Q) :
  Q v { s with heap := s.heap.update a (Obj.mapSeq f) } := h ρ v _ (List.prefix_refl _) (H.updL e ea g hf) hv ⟨rfl, rfl⟩
theorem setItemL {Q : Unit → Shared → Prop} {l : Addr} {items : Array Value} {n : Nat} {k : Int} {t : Tok} {v : Value} (ho : s.heap.get? l = some { cls := .type "list", data := .seq items n })
  (h0 : 0 ≤ k) (hfit : k < 2 ^ 63) (hn : k < items.size) (hQ : Q () { s with heap := s.heap.update l (Obj.mapSeq (·.setIfInBounds k.toNat v)) }) : wpAny (model prog w) A (setItem (.ref l) (.int k t) v) Q E s := by
 have hl : s.heap.IsList l items := ⟨_, ho, rfl, n, rfl⟩
 unfold setItem
 try with_reducible refine wpAny_holding ?_
 first | refine wpAny_bind (wpAny_pure ?_) | skip
 refine wpAny_bind (wpAny_sequenceKey hl.typeIs (by decide) ?_)
 refine wpAny_bind (wpAny_callSpecial?_slot (name := Str.ofString "__setitem__") hl.typeIs slot_list_setitem
  (wpAny_call_entry slot_list_setitem hl.typeIs entry_list_setitem ?_ (args_list_setitem _ _ _)))
 show wpAny _ _ (Builtin.List.listSubscript? (.int k t) >>= _) _ _ s
 refine wpAny_bind (wpAny_listSubscript_int (fitsIndex_of h0 hfit) ?_)
 clear hfit
 obtain ⟨j, rfl⟩ := Int.eq_ofNat_of_zero_le h0
 have hj : j < items.size := by lia -abstractProof
 have hx' : items[j]? = some items[j] := Array.getElem?_eq_getElem hj
 show wpAny _ _ ((seqItemAt l j >>= fun r => pure (r.map (j, ·))) >>= _) _ _ s
 refine wpAny_bind (wpAny_bind (wpAny_seqItemAt ho rfl (wpAny_pure ?_)))
 rw [hx']
 show wpAny _ _ (setSeqItemAt l j v >>= _) _ _ s
 refine wpAny_bind (wpAny_setSeqItemAt ho rfl ?_)
 first
  | exact wpAny_bind (wpAny_pure (wpAny_pure ⟨.none, rfl, wpAny_pure hQ⟩))
  | exact wpAny_pure ⟨.none, rfl, wpAny_pure hQ⟩
noncomputable def PU (B : Heap) (F : List (Addr × Obj)) (ρ : Rho) (s : Shared) (K : Sto → Prop) (Q : Unit → Shared → Prop) : Prop := ∀ ρ' σ' s', Go B F ρ s ρ' σ' s' → K σ' → Q () s'
theorem PU.outs {K : Sto → Prop} {Q : Unit → Shared → Prop} (h : PU B F ρ s K Q) (k : K σ') : Outs B F ρ σ' s (fun _ _ => True) Q := fun _ _ _ p H _ hs => h _ _ _ ⟨p, H, hs⟩ k
theorem putL_ok {Q : Unit → Shared → Prop} {k : Nat} {j : Int} {v : AV} {xs : List AV} {ra rv : Value} {t : Tok} {K : Sto → Prop} (e : σ[k]? = some ⟨true, .list xs⟩) (g : 0 ≤ j ∧ j < xs.length ∧ xs.length ≤ 100000) (H : HR B F ρ σ s.heap) (ha : VR ρ (.ref k) ra) (hv : VR ρ v rv)
  (h : K (σ.set k ⟨true, .list (xs.set j.toNat v)⟩)) (hQ : PU B F ρ s K Q) : wpAny (model prog w) A (setItem ra (.int j t) rv) Q E s := by
 obtain ⟨a1, vs, n, rfl, ea, g1, r⟩ := listAt H e ha
 have l : vs.size = _ := r.length
 obtain ⟨g2, g3, g4⟩ := g
 exact setItemL g1 g2 (by lia -abstractProof) (by lia -abstractProof) (Outs.updL H e ea g1 (by rw [Array.toList_setIfInBounds]; exact r.set hv) trivial (hQ.outs h))
theorem put_ok {Q : Unit → Shared → Prop} {a i v : AV} {ra ri rv : Value} {K : Sto → Prop} (h : wPut a i v σ K) (H : HR B F ρ σ s.heap) (ha : VR ρ a ra) (hi : VR ρ i ri) (hv : VR ρ v rv) (hQ : PU B F ρ s K Q) : wpAny (model prog w) A (setItem ra ri rv) Q E s := by
 cases a with
 | ref k => cases i with
  | int j =>
   obtain ⟨t, rfl⟩ := hi
   obtain ⟨⟨b, o⟩, e, h⟩ := wAt.out h
   cases o with
   | list xs => obtain ⟨rfl, k⟩ := wB.out h; exact putL_ok e k.out.1 H ha hv k.out.2 hQ
   | _ => exact h.elim
  | _ => exact h.elim
 | _ => exact h.elim
theorem placeA_some {i : Int} {n p : Nat} (e : placeA i n = some p) : p < n ∧ 0 ≤ i ∧ p = i.toNat := by
 unfold placeA at e
 split at e
 ·split at e
  ·cases e; exact ⟨by lia -abstractProof, by assumption, rfl⟩
  ·cases e
 ·cases e
theorem idx_ok {xs : List AV} {j : Int} {vs : Array Value} {K : AV → Prop} (h : wIdx xs j K) (r : VRs ρ xs vs.toList) :
  ∃ v p rv, vs.size = xs.length ∧ xs.length ≤ 100000 ∧ p < xs.length ∧ (0 ≤ j ∧ p = j.toNat) ∧ vs[p]? = some rv ∧ VR ρ v rv ∧ K v := by
 obtain ⟨v, hz, e, k⟩ := h.out
 obtain ⟨p, ep, ex⟩ := Option.bind_eq_some_iff.mp e
 obtain ⟨hp, hc⟩ := placeA_some ep
 obtain ⟨rv, er, hr⟩ := r.get ex
 exact ⟨v, p, rv, r.length, hz, hp, hc, by rw [← Array.getElem?_toList]; exact er, hr, k⟩
noncomputable def Gets (s : Shared) (o : Value) : Prop := ∃ T id, typeLookup (.type T) "__getitem__" = pure (some (.builtin id)) ∧ s.TypeIs o T
theorem item_ok {Q : Value → Shared → Prop} {a i : AV} {ra ri : Value} {K : KE} (h : wItem a i σ fun v => K v σ) (H : HR B F ρ σ s.heap) (ha : VR ρ a ra) (hi : VR ρ i ri) (hQ : PE B F ρ s K Q) : Gets s ra ∧ wpAny (model prog w) A (getItem ra ri) Q E s := by
 cases a with
 | ref k => cases i with
  | int j =>
   obtain ⟨t, rfl⟩ := hi
   obtain ⟨⟨b, o⟩, e, h⟩ := wAt.out h
   cases o with
   | list xs =>
    obtain ⟨a1, vs, n, rfl, ea, g, r⟩ := listAt H e ha
    obtain ⟨v, p, rv, l, hz, hp, hc, er, hr, k⟩ := idx_ok h r
    refine ⟨⟨_, _, list_getitem_lookup, _, g, rfl⟩, ?_⟩
    obtain ⟨h0, rfl⟩ := hc
    exact wpAny_getItem_list ⟨_, g, rfl, n, rfl⟩ h0 (by lia -abstractProof) er (hQ.ret H hr k)
   | _ => exact h.elim
  | _ => exact h.elim
 | _ => exact h.elim
end
end
set_option tactic.hygienic true
section
open PySem.Spec
section
variable {prog : Program} {w : World} {A : Around} {E : Value → Shared → Prop} {B : Heap} {F : List (Addr × Obj)} {ρ : Rho} {σ σ' : Sto} {s : Shared}
theorem truth_ok {Q : Bool → Shared → Prop} {a : AV} {ra : Value} {K : Bool → Sto → Prop} (h : wTruth σ a fun b => K b σ) (H : HR B F ρ σ s.heap) (ha : VR ρ a ra) (hQ : PB B F ρ s K Q) : wpAny (model prog w) A (truthy ra) Q E s := by
 cases a with
 | none => cases ha; exact truthy_none (hQ.ret H h)
 | bool b => cases ha; exact wpAny_truthy_bool (hQ.ret H h)
 | int i => obtain ⟨t, rfl⟩ := ha; exact PyProof.Rows.truthy_int (hQ.ret H h)
 | ref k =>
  obtain ⟨_, xs, e, h⟩ := wLst.out h
  obtain ⟨a1, vs, n, rfl, ea, g, r⟩ := listAt H e ha
  have l : vs.size = _ := r.length
  have he : vs.isEmpty = xs.isEmpty := by
   cases xs with
   | nil => simpa using l
   | cons x xs => simp at l; simp; intro q; simp [q] at l
  have hk : K (!vs.isEmpty) σ := by rw [he]; exact h.out.2
  exact wpAny_truthy_list ⟨_, g, rfl, n, rfl⟩ (by rw [l]; have := h.out.1; lia) (hQ _ _ _ _ ⟨List.prefix_refl _, H, rfl, rfl⟩ hk)
 | _ => exact h.elim
structure AOk (d : Nat) (A : Around) : Prop where
 hd : A.handled = none
 dp : A.depth + d ≤ 900
 un : A.units + 150 * d + 100 ≤ 9000
theorem AOk.units (h : AOk 0 A) : A.units < cLine := by have := h.un; unfold cLine; lia
theorem intsA_rel : ∀ {xs : List AV} {ns : List Int} {vs : List Value}, intsA xs = some ns → VRs ρ xs vs → ns.length = vs.length ∧ ∀ (i : Nat) (n : Int), ns[i]? = some n → ∃ t : Tok, vs[i]? = some (Value.int n t) := by
 intro xs
 induction xs with
 | nil => intro ns vs e h; cases e; rw [VRs.nil_iff] at h; subst h; exact ⟨rfl, fun i n e => by simp at e⟩
 | cons x xs ih =>
  intro ns vs e h
  cases vs with
  | nil => exact h.elim
  | cons v vs =>
   cases x <;> try exact no_so e
   rename_i i
   obtain ⟨ms, em, rfl⟩ := Option.map_eq_some_iff.mp (show (intsA xs).map (i :: ·) = some ns from e)
   obtain ⟨l, g⟩ := ih em h.2
   obtain ⟨t, rfl⟩ := h.1
   refine ⟨congrArg (· + 1) l, fun j n ej => ?_⟩
   cases j with
   | zero => cases ej; exact ⟨t, rfl⟩
   | succ j => exact g j n ej
theorem intsA_are : ∀ {xs : List AV} {ns : List Int} {vs : List Value}, intsA xs = some ns → VRs ρ xs vs → IntsAre vs ns := by
 intro xs
 induction xs with
 | nil => intro ns vs e h; cases e; rw [VRs.nil_iff] at h; subst h; exact .nil
 | cons x xs ih =>
  intro ns vs e h
  cases vs with
  | nil => exact h.elim
  | cons v vs =>
   cases x <;> try exact no_so e
   rename_i i
   obtain ⟨ms, em, rfl⟩ := Option.map_eq_some_iff.mp (show (intsA xs).map (i :: ·) = some ns from e)
   obtain ⟨t, rfl⟩ := h.1
   exact .cons _ t (ih em h.2)
theorem any_contains {l : List Value} {vs : List Int} (hi : IntsAre l vs) (x : Int) : (l.any fun y => match y with | .int n _ => n == x | _ => false) = vs.contains x := by
 induction hi with
 | nil => rfl
 | cons n u _ ih => exact (congrArg (n == x || ·) ih).trans (by rw [List.contains_cons, Bool.beq_comm])
theorem all_range_eq {us vs : List Int} (hl : us.length = vs.length) : ((List.range us.length).all fun j => us.getD j 0 == vs.getD j 0) = (us == vs) := by
 rw [Bool.eq_iff_iff]
 simp only [List.all_eq_true, List.mem_range, beq_iff_eq]
 constructor
 ·intro h
  apply List.ext_getElem hl
  intro i h1 h2
  have := h i h1
  simpa [List.getD, h1, h2] using this
 ·rintro rfl _ _; rfl
theorem ord_ok {Q : Value → Shared → Prop} {op : CmpOp} {x y : Int} {t u : Tok} {K : Bool → Prop} (h : wOrd op x y K) (hQ : ∀ b, K b → Q (.bool b) s) : wpAny (model prog w) A (compareOp op (.int x t) (.int y u)) Q E s := by
 cases op with
 | Eq => exact PyProof.Rows.eq_int (hQ _ h)
 | NotEq => exact PyProof.Rows.ne_int (hQ _ h)
 | Lt => exact PyProof.Rows.lt_int (hQ _ h)
 | LtE => exact le_int (hQ _ h)
 | Gt => exact PyProof.Rows.gt_int (hQ _ h)
 | GtE => exact ge_int (hQ _ h)
 | _ => exact h.elim
theorem getD_of {ns : List Int} {rs : Array Value} (l : ns.length = rs.size) (f : ∀ (i : Nat) (n : Int), ns[i]? = some n → ∃ t : Tok, rs.toList[i]? = some (Value.int n t)) (j : Nat) (h : j < rs.size) : ∃ t : Tok, rs[j] = .int (ns.getD j 0) t := by
 obtain ⟨t, et⟩ := f j _ (List.getElem?_eq_getElem (l := ns) (i := j) (by lia))
 rw [Array.getElem?_toList, Array.getElem?_eq_getElem h] at et
 exact ⟨t, by rw [Option.some.inj et]; simp [List.getD, show j < ns.length by lia]⟩
theorem eqL_ok {Q : Value → Shared → Prop} {i j : Nat} {ra rb : Value} {b1 b2 : Bool} {xs ys : List AV} {us vs : List Int} (e1 : σ[i]? = some ⟨b1, .list xs⟩) (e2 : σ[j]? = some ⟨b2, .list ys⟩) (i1 : intsA xs = some us) (i2 : intsA ys = some vs)
  (hA : AOk 0 A) (H : HR B F ρ σ s.heap) (ha : VR ρ (.ref i) ra) (hb : VR ρ (.ref j) rb) (h : Q (.bool (us == vs)) s) : wpAny (model prog w) A (compareOp .Eq ra rb) Q E s := by
 obtain ⟨a1, rs, n, rfl, _, g1, r1⟩ := listAt H e1 ha
 obtain ⟨a2, ts, m, rfl, _, g2, r2⟩ := listAt H e2 hb
 obtain ⟨l1, f1⟩ := intsA_rel i1 r1
 obtain ⟨l2, f2⟩ := intsA_rel i2 r2
 simp only [Array.length_toList] at l1 l2
 by_cases hz : rs.size = ts.size
 ·refine SeqAt.eq_listAt (e := fun j => us.getD j 0 == vs.getD j 0) ⟨_, g1, rfl, n, rfl⟩ ⟨_, g2, rfl, m, rfl⟩ hz hA.units (fun j j1 j2 => ?_) ?_
  ·obtain ⟨t, x1⟩ := getD_of l1 f1 j j1
   obtain ⟨u, x2⟩ := getD_of l2 f2 j j2
   rw [x1, x2]
   exact SeqAt.EqAt.int_int _ _ _ _
  ·rw [← l1, all_range_eq (by lia)]; exact h
 ·have hne : (us == vs) = false := by
   rw [beq_eq_false_iff_ne]; rintro rfl; lia
  rw [hne] at h
  exact SeqAt.eq_list_lengthsAt ⟨_, g1, rfl, n, rfl⟩ ⟨_, g2, rfl, m, rfl⟩ (by simpa using hz) hA.units h
theorem inL_ok {Q : Value → Shared → Prop} {op : CmpOp} {x : Int} {t : Tok} {j : Nat} {rb : Value} {b : Bool} {ys : List AV} {vs : List Int} {K : Bool → Prop} (e2 : σ[j]? = some ⟨b, .list ys⟩) (i2 : intsA ys = some vs) (h : wIn op (vs.contains x) K)
  (H : HR B F ρ σ s.heap) (hb : VR ρ (.ref j) rb) (hQ : ∀ b, K b → Q (.bool b) s) : wpAny (model prog w) A (compareOp op (.int x t) rb) Q E s := by
 obtain ⟨a2, ts, m, rfl, _, g2, r2⟩ := listAt H e2 hb
 have hi := intsA_are i2 r2
 obtain ⟨l, f⟩ := intsA_rel i2 r2
 simp only [Array.length_toList] at l
 have k2 : ∀ y ∈ ts, SeqAt.EqAt A.in1 s y (.int x t) (match y with | .int n _ => n == x | _ => false) := by
  intro y hy
  obtain ⟨i, hi', ei⟩ := Array.getElem_of_mem hy
  obtain ⟨u, eu⟩ := getD_of l f i hi'
  rw [← ei, eu]
  exact SeqAt.EqAt.int_int _ _ _ _
 have k3 : (ts.any fun y => match y with | .int n _ => n == x | _ => false) = vs.contains x := by rw [← Array.any_toList]; exact any_contains hi x
 cases op with
 | In => exact SeqAt.in_listAt _ ⟨_, g2, rfl, m, rfl⟩ k2 (by rw [k3]; exact hQ _ h)
 | NotIn => exact SeqAt.notIn_listAt _ ⟨_, g2, rfl, m, rfl⟩ k2 (by rw [k3]; exact hQ _ h)
 | _ => exact h.elim
theorem cmp_ok {Q : Value → Shared → Prop} {op : CmpOp} {a b : AV} {ra rb : Value} {K : Bool → Sto → Prop} (h : wCmp op a b σ fun c => K c σ) (hA : AOk 0 A) (H : HR B F ρ σ s.heap) (ha : VR ρ a ra) (hb : VR ρ b rb)
  (hQ : ∀ b ρ' σ' s', Go B F ρ s ρ' σ' s' → K b σ' → Q (.bool b) s') : wpAny (model prog w) A (compareOp op ra rb) Q E s := by
 have q0 : ∀ b, K b σ → Q (.bool b) s := fun b k => hQ b _ _ _ (.refl H) k
 cases a with
 | int x =>
  obtain ⟨t, rfl⟩ := ha
  cases b with
  | int y => obtain ⟨u, rfl⟩ := hb; exact ord_ok (K := fun c => K c σ) h q0
  | ref j =>
   obtain ⟨⟨b, o⟩, e, h⟩ := wAt.out h
   cases o with
   | list ys => obtain ⟨vs, i2, h⟩ := wInts.out h; exact inL_ok (K := fun c => K c σ) e i2 h H hb q0
   | _ => exact h.elim
  | _ => exact h.elim
 | bool p =>
  cases ha
  cases b with
  | bool q => cases hb; cases op with
   | Eq => exact eq_bool (q0 _ h)
   | NotEq => exact ne_bool (q0 _ h)
   | _ => exact h.elim
  | _ => exact h.elim
 | ref i =>
  cases b with
  | ref j =>
   obtain ⟨_, xs, e1, h⟩ := wLst.out h
   obtain ⟨_, ys, e2, h⟩ := wLst.out h
   obtain ⟨us, i1, h⟩ := wInts.out h
   obtain ⟨vs, i2, h⟩ := wInts.out h
   cases op with
   | Eq => exact eqL_ok e1 e2 i1 i2 hA H ha hb (q0 _ h)
   | _ => exact h.elim
  | _ => exact h.elim
 | _ => exact h.elim
end
end
section
open PySem.Spec
section
variable {prog : Program} {w : World} {A : Around} {E : Value → Shared → Prop} {B : Heap} {F : List (Addr × Obj)} {ρ : Rho} {σ σ' : Sto} {s : Shared} {Q : Value → Shared → Prop}
theorem Outs.kept {α : Type} {v : α} {P : Rho → α → Prop} {Q : α → Shared → Prop} (H : HR B F ρ σ s.heap) {h' : Heap} {tk : Nat} (hk : ∀ b o, s.heap.get? b = some o → h'.get? b = some o) (hv : P ρ v) (h : Outs B F ρ σ s P Q) :
  Q v { s with heap := h', toks := tk } := h ρ v _ (List.prefix_refl _) (H.keeps hk) hv ⟨rfl, rfl⟩
theorem iterL {l : Addr} {vs : Array Value} (hl : s.heap.IsList l vs)
  (h : ∀ s₂ : Shared, s₂ = { s with heap := s.heap.push { cls := .type "list_iterator", data := .fields #[.ref l, .int 0 0] } } →
   (s₂.heap.IsListIter s.heap.objs.size l 0 ∧ s₂.heap.IsList l vs) → (∀ b ∈ [s.heap.objs.size, l], b < s₂.heap.objs.size) → l ≠ s.heap.objs.size → Q (.ref s.heap.objs.size) s₂) :
  wpAny (model prog w) A (pyIter (.ref l)) Q E s := by
 have hlt : l < s.heap.objs.size := by obtain ⟨_, e, _⟩ := hl; exact Heap.lt_size e
 refine wpAny_pyIter_list hl (h _ rfl ⟨⟨_, Heap.get?_push_size _ rfl, rfl, rfl⟩, hl.push _⟩ (fun b hb => ?_) (Nat.ne_of_lt hlt))
 show b < (s.heap.push _).objs.size
 rw [Heap.size_push]
 rcases List.mem_cons.mp hb with rfl | hb
 ·exact Nat.lt_succ_self _
 ·rcases List.mem_cons.mp hb with rfl | hb
  ·exact Nat.lt_succ_of_lt hlt
  ·cases hb
theorem list_ok {a : AV} {rv : Value} {K : List AV → Prop} (h : wList σ a K) (H : HR B F ρ σ s.heap) (hr : VR ρ a rv) :
  ∃ xs l vs n, rv = .ref l ∧ s.heap.get? l = some { cls := .type "list", data := .seq vs n } ∧ VRs ρ xs vs.toList ∧ vs.size = xs.length ∧ K xs := by
 cases a with
 | ref k =>
  obtain ⟨_, xs, e, h⟩ := wLst.out h
  obtain ⟨l, vs, n, rfl, _, g, r⟩ := listAt H e hr
  exact ⟨xs, l, vs, n, rfl, g, r, r.length, h⟩
 | _ => exact h.elim
theorem ints_at {xs : List AV} {ns : List Int} {vs : Array Value} (e : intsA xs = some ns) (r : VRs ρ xs vs.toList) : ns.length = vs.size ∧ ∀ (i : Nat) (v : Value), vs[i]? = some v → ∃ t : Tok, v = Value.int (ns.getD i 0) t := by
 obtain ⟨l, f⟩ := intsA_rel e r
 simp only [Array.length_toList] at l
 refine ⟨l, fun i v hv => ?_⟩
 have hi : i < ns.length := by have := (Array.getElem?_eq_some_iff.mp hv).1; lia -abstractProof
 obtain ⟨t, et⟩ := f i ns[i] (by simp)
 rw [Array.getElem?_toList, hv] at et
 exact ⟨t, by rw [Option.some.inj et]; simp [List.getD, hi]⟩
theorem numsA_at {xs : List AV} {ns : List Int} {vs : Array Value} (e : numsA xs = some ns) (r : VRs ρ xs vs.toList) : ns.length = vs.size ∧ ∀ (i : Nat) (v : Value), vs[i]? = some v → NumOf (ns.getD i 0) v := by
 have key : ∀ {xs : List AV} {ns : List Int} {vs : List Value}, numsA xs = some ns → VRs ρ xs vs → ns.length = vs.length ∧ ∀ (i : Nat) (v : Value), vs[i]? = some v → NumOf (ns.getD i 0) v := by
  intro xs
  induction xs with
  | nil => intro ns vs e h; cases e; rw [VRs.nil_iff] at h; subst h; exact ⟨rfl, fun i n e => by simp at e⟩
  | cons x xs ih =>
   intro ns vs e h
   cases vs with
   | nil => exact h.elim
   | cons v vs =>
    cases x <;> try exact no_so e
    ·rename_i b
     obtain ⟨ms, em, rfl⟩ := Option.map_eq_some_iff.mp (show (numsA xs).map (b2iA b :: ·) = some ns from e)
     obtain ⟨l, g⟩ := ih em h.2
     refine ⟨congrArg (· + 1) l, fun j u ej => ?_⟩
     cases j with
     | zero => cases ej; exact .inr ⟨b, h.1, rfl⟩
     | succ j => exact g j u ej
    ·rename_i i
     obtain ⟨ms, em, rfl⟩ := Option.map_eq_some_iff.mp (show (numsA xs).map (i :: ·) = some ns from e)
     obtain ⟨l, g⟩ := ih em h.2
     refine ⟨congrArg (· + 1) l, fun j u ej => ?_⟩
     cases j with
     | zero => cases ej; exact .inl h.1
     | succ j => exact g j u ej
 obtain ⟨l, f⟩ := key e r
 simp only [Array.length_toList] at l
 exact ⟨l, fun i v hv => f i v (by rw [Array.getElem?_toList]; exact hv)⟩
theorem len_ok {a : AV} {ra : Value} {K : KE} (h : wList σ a fun xs => wG (xs.length ≤ 100000) (K (.int xs.length) σ)) (H : HR B F ρ σ s.heap) (ha : VR ρ a ra) (hQ : PE B F ρ s K Q) : wpAny (model prog w) A (call (.builtin "len") [ra]) Q E s := by
 obtain ⟨xs, l, vs, n, rfl, g, r, hl, h⟩ := list_ok h H ha
 exact Calls.call_len_list ⟨_, g, rfl, n, rfl⟩ (by rw [hl]; have := h.out.1; lia -abstractProof) (hQ.outs h.out.2 ρ _ _ (List.prefix_refl _) H ⟨_, by rw [hl]⟩ ⟨rfl, rfl⟩)
theorem sum_ok {a : AV} {ra : Value} {K : KE} (h : wList σ a fun xs => wNums xs fun ns => K (.int (sumA ns)) σ) (hA : AOk 0 A) (H : HR B F ρ σ s.heap) (ha : VR ρ a ra) (hQ : PE B F ρ s K Q) : wpAny (model prog w) A (call (.builtin "sum") [ra]) Q E s := by
 obtain ⟨xs, l, vs, n, rfl, g, r, _, h⟩ := list_ok h H ha
 obtain ⟨ns, e3, h⟩ := wNums.out h
 obtain ⟨hl, hv⟩ := numsA_at e3 r
 refine call_sum_walkAnyB (iterL ⟨_, g, rfl, n, rfl⟩ fun s₂ e st hfp hlI => ?_)
 subst e
 exact ⟨_, _, _, _, _, _, _, fun i => ns.getD i 0, rfl, (Walks.list (A := A.in1) hA.hd _ l hlI vs).toS, st, hfp, hv, fun s' t' hm =>
  hQ.outs h ρ _ _ (List.prefix_refl _) (H.keeps (old_kept fun b o hb eb => hm.heap b o hb eb)) ⟨t', by rw [← hl]; rfl⟩ ⟨hm.gens, hm.os⟩⟩
theorem any_ok {a : AV} {ra : Value} {K : KE} (h : wList σ a fun xs => wInts xs fun ns => K (.bool ((List.range ns.length).any fun i => ns.getD i 0 != 0)) σ) (hA : AOk 0 A) (H : HR B F ρ σ s.heap) (ha : VR ρ a ra) (hQ : PE B F ρ s K Q) : wpAny (model prog w) A (call (.builtin "any") [ra]) Q E s := by
 obtain ⟨xs, l, vs, n, rfl, g, r, _, h⟩ := list_ok h H ha
 obtain ⟨ns, e3, h⟩ := wInts.out h
 obtain ⟨hl, hv⟩ := ints_at e3 r
 refine call_any_walk (iterL ⟨_, g, rfl, n, rfl⟩ fun s₂ e st hfp hlI => ?_)
 subst e
 refine ⟨_, _, _, _, _, _, fun i => ns.getD i 0 != 0, rfl, Walks.list (A := A.in1) hA.hd _ l hlI vs, st, ?_, fun h' tk hk => ?_⟩
 ·intro i v s Q E hP hQ
  obtain ⟨t, rfl⟩ := hv _ _ hP
  exact PyProof.Rows.truthy_int hQ
 ·rw [← hl]; exact Outs.kept H (old_kept hk) rfl (hQ.outs h)
theorem vrs_ints {vs : List Value} {l : List Int} (h : IntsAre vs l) : VRs ρ (l.map .int) vs := by
 induction h with
 | nil => trivial
 | cons i t _ ih => exact ⟨⟨t, rfl⟩, ih⟩
theorem sorted_ok {a : AV} {ra : Value} {K : KE} (h : wList σ a fun xs => wInts xs fun ns => wG (xs.length < 64) (wSorted ns fun ms => K (.ref σ.length) (σ ++ [⟨true, .list (ms.map .int)⟩]))) (H : HR B F ρ σ s.heap) (ha : VR ρ a ra) (hQ : PE B F ρ s K Q) : wpAny (model prog w) A (call (.builtin "sorted") [ra]) Q E s := by
 obtain ⟨xs, l, vs, n, rfl, g, r, hl, h⟩ := list_ok h H ha
 obtain ⟨ns, e3, h⟩ := wInts.out h
 obtain ⟨h6, h⟩ := h.out
 refine sorted_ints (vs := vs.toList) ⟨_, g, rfl, n, rfl⟩ (intsA_are e3 r) (by rw [Array.length_toList, hl]; exact h6) fun out ms a1 a2 a3 => ?_
 obtain ⟨e, he⟩ := sortedAll_at s.heap vs.toList out
 have hk : ∀ b o, s.heap.get? b = some o → (sortedAll s.heap vs.toList out).get? b = some o := fun _ _ => sortedAll_old
 have hv : VR (ρ ++ [s.heap.objs.size + 1]) (.ref σ.length) (.ref (s.heap.objs.size + 1)) := ⟨_, by rw [← H.len]; simp, rfl⟩
 exact hQ _ _ _ _ _ ⟨List.prefix_append _ [s.heap.objs.size + 1], H.alloc (c := ⟨true, .list (ms.map .int)⟩) hk (Nat.le_succ _) ⟨out, e, he, vrs_ints a1⟩, rfl, rfl⟩ hv (h.out ms a2 a3)
theorem isInt2_out {args : List AV} {K : Int → Int → Prop} {K1 : AV → Prop} (h : isInt2 args K K1) : (∃ a, args = [a] ∧ K1 a) ∨ ∃ a b, args = [.int a, .int b] ∧ K a b := by
 cases args with
 | nil => exact h.elim
 | cons a r => cases r with
  | nil => exact .inl ⟨a, rfl, h⟩
  | cons b r => cases r with
   | nil => cases a with
    | int x => cases b with
     | int y => exact .inr ⟨x, y, rfl, h⟩
     | _ => exact h.elim
    | _ => exact h.elim
   | cons => exact h.elim
theorem one_out {args : List AV} {rs : List Value} {K1 : AV → Prop} (h : isInt2 args (fun _ _ => False) K1) (hr : VRs ρ args rs) : ∃ a ra, rs = [ra] ∧ VR ρ a ra ∧ K1 a := by
 rcases isInt2_out h with ⟨a, rfl, h⟩ | ⟨_, _, _, h⟩
 ·obtain ⟨ra, rfl, ha⟩ := hr.one; exact ⟨a, ra, rfl, ha, h⟩
 ·exact h.elim
theorem two_out {a b : AV} {rs : List Value} (hr : VRs ρ [a, b] rs) : ∃ ra rb, rs = [ra, rb] ∧ VR ρ a ra ∧ VR ρ b rb := by
 cases rs with
 | nil => exact hr.elim
 | cons ra rs =>
  obtain ⟨rb, rfl, hb⟩ := VRs.one hr.2
  exact ⟨ra, rb, rfl, hr.1, hb⟩
theorem builtin_ok {id : String} {args : List AV} {rs : List Value} {K : KE} (h : wBuiltin id args σ K) (hA : AOk 0 A) (H : HR B F ρ σ s.heap) (hr : VRs ρ args rs) (hQ : PE B F ρ s K Q) : wpAny (model prog w) A (call (.builtin id) rs) Q E s := by
 unfold wBuiltin at h
 by_cases h1 : id = "len"
 ·subst h1; rw [if_pos rfl] at h; obtain ⟨a, ra, rfl, ha, h⟩ := one_out h hr; exact len_ok h H ha hQ
 rw [if_neg h1] at h
 by_cases h2 : id = "sum"
 ·subst h2; rw [if_pos rfl] at h; obtain ⟨a, ra, rfl, ha, h⟩ := one_out h hr; exact sum_ok h hA H ha hQ
 rw [if_neg h2] at h
 by_cases h3 : id = "any"
 ·subst h3; rw [if_pos rfl] at h; obtain ⟨a, ra, rfl, ha, h⟩ := one_out h hr; exact any_ok h hA H ha hQ
 rw [if_neg h3] at h
 by_cases h4 : id = "min"
 ·subst h4; rw [if_pos rfl] at h
  rcases isInt2_out h with ⟨a, rfl, h⟩ | ⟨a, b, rfl, h⟩
  ·exact h.elim
  ·obtain ⟨_, _, rfl, ⟨t, rfl⟩, ⟨u, rfl⟩⟩ := two_out hr
   refine min_two_ints hA.hd fun h' tk hk => ?_
   split
   ·rename_i hc; exact Outs.kept H hk ⟨u, by rw [if_pos hc]⟩ (hQ.outs h)
   ·rename_i hc; exact Outs.kept H hk ⟨t, by rw [if_neg hc]⟩ (hQ.outs h)
 rw [if_neg h4] at h
 by_cases h5 : id = "max"
 ·subst h5; rw [if_pos rfl] at h
  rcases isInt2_out h with ⟨a, rfl, h⟩ | ⟨a, b, rfl, h⟩
  ·exact h.elim
  ·obtain ⟨_, _, rfl, ⟨t, rfl⟩, ⟨u, rfl⟩⟩ := two_out hr
   refine max_two_ints hA.hd fun h' tk hk => ?_
   split
   ·rename_i hc; exact Outs.kept H hk ⟨u, by rw [if_pos hc]⟩ (hQ.outs h)
   ·rename_i hc; exact Outs.kept H hk ⟨t, by rw [if_neg hc]⟩ (hQ.outs h)
 rw [if_neg h5] at h
 by_cases h6 : id = "sorted"
 ·subst h6; rw [if_pos rfl] at h; obtain ⟨a, ra, rfl, ha, h⟩ := one_out h hr; exact sorted_ok h H ha hQ
 rw [if_neg h6] at h
 exact h.elim
end
end
set_option tactic.hygienic false
section
open PySem.Spec
section
variable {prog : Program} {w : World} {A : Around} {E : Value → Shared → Prop} {B : Heap} {F : List (Addr × Obj)} {ρ : Rho} {σ σ' : Sto} {s : Shared} {Q : Value → Shared → Prop}
theorem Outs.new (H : HR B F ρ σ s.heap) {c : Cl} (h : Outs B F ρ (σ ++ [c]) s (VR · (.ref σ.length)) Q) {h' : Heap} {tk : Nat} (hk : ∀ b o, s.heap.get? b = some o → h'.get? b = some o) (ho : OR (ρ ++ [s.heap.objs.size]) h' s.heap.objs.size c.o) :
  Q (.ref s.heap.objs.size) { s with heap := h', toks := tk } := by
 refine h (ρ ++ [s.heap.objs.size]) _ _ (List.prefix_append _ _) (H.alloc hk (Nat.le_refl _) ho) ⟨_, ?_, rfl⟩ ⟨rfl, rfl⟩
 rw [← H.len]; simp
theorem rangeFrom_rel {st : Int} : ∀ (n : Nat) (lo : Int) (vs : List Value), vs.length = n → (∀ (i : Nat) (v : Value), vs[i]? = some v → ∃ t : Tok, v = .int (lo + i * st) t) → VRs ρ (rangeFrom lo st n) vs
 | 0, lo, vs, l, _ => by (have : vs = [] := by simpa using l); subst this; trivial
 | n + 1, lo, [], l, _ => by simp at l
 | n + 1, lo, v :: vs, l, h => by
  refine ⟨?_, rangeFrom_rel n (lo + st) vs (by simpa using l) fun i u hu => ?_⟩
  ·obtain ⟨t, rfl⟩ := h 0 v rfl
   exact ⟨t, by simp⟩
  ·obtain ⟨t, e⟩ := h (i + 1) u (by simpa using hu)
   refine ⟨t, e.trans ?_⟩
   congr 1
   rw [Int.natCast_add, Int.natCast_one, Int.add_mul]; lia -abstractProof
theorem rangeSize_nonneg (lo hi st : Int) : 0 ≤ Builtin.Range.rangeSize lo hi st := by
 unfold Builtin.Range.rangeSize
 split
 ·split
  ·have : 0 ≤ (hi - lo - 1) / st := Int.ediv_nonneg (by lia -abstractProof) (by lia -abstractProof)
   lia -abstractProof
  ·lia -abstractProof
 ·split
  ·have : 0 ≤ (lo - hi - 1) / (-st) := Int.ediv_nonneg (by lia -abstractProof) (by lia -abstractProof)
   lia -abstractProof
  ·lia -abstractProof
theorem range_ok {args : List AV} {rs : List Value} {K : KE} (h : wRange args fun lo hi st => K (.ref σ.length) (σ ++ [⟨true, .range lo hi st⟩])) (H : HR B F ρ σ s.heap) (hr : VRs ρ args rs) (hQ : PE B F ρ s K Q) : wpAny (model prog w) A (call (.type "range") rs) Q E s := by
 have new : ∀ {c : Cl} {h' : Heap} {tk : Nat}, K (.ref σ.length) (σ ++ [c]) → (∀ b o, s.heap.get? b = some o → h'.get? b = some o) → OR (ρ ++ [s.heap.objs.size]) h' s.heap.objs.size c.o → Q (.ref s.heap.objs.size) { s with heap := h', toks := tk } :=
  fun k hk ho => Outs.new H (hQ.outs k) hk ho
 cases args with
 | nil => exact h.elim
 | cons a r => cases a with
  | int x => cases r with
   | nil =>
    obtain ⟨ra, rfl, ⟨t, rfl⟩⟩ := hr.one
    exact call_range_1 (new h (fun _ _ e => Heap.get?_push_of_some _ e) ⟨_, _, _, Heap.get?_push_size _ rfl⟩)
   | cons b r => cases b with
    | int y => cases r with
     | nil =>
      obtain ⟨_, _, rfl, ⟨t, rfl⟩, ⟨u, rfl⟩⟩ := two_out hr
      exact call_range_2 (new h (fun _ _ e => Heap.get?_push_of_some _ e) ⟨_, _, _, Heap.get?_push_size _ rfl⟩)
     | cons => exact h.elim
    | _ => exact h.elim
  | _ => exact h.elim
theorem listOf_ok {args : List AV} {rs : List Value} {K : KE} (h : wListOf args σ K) (hA : AOk 0 A) (H : HR B F ρ σ s.heap) (hr : VRs ρ args rs) (hQ : PE B F ρ s K Q) : wpAny (model prog w) A (call (.type "list") rs) Q E s := by
 cases args with
 | nil => exact h.elim
 | cons a r => cases r with
  | nil =>
   obtain ⟨ra, rfl, ha⟩ := hr.one
   cases a with
   | ref k =>
    obtain ⟨⟨b, o⟩, e1, h⟩ := wAt.out h
    cases o with
    | list xs =>
     obtain ⟨l, vs, n, rfl, _, g, r⟩ := listAt H e1 ha
     have hl : vs.size = _ := r.length
     exact call_list_seq l (.inl rfl) g rfl rfl (fun h' c' hk hD => Outs.new H (hQ.outs h.out.2) hk ⟨vs, c', hD, r.mono (List.prefix_append _ _)⟩) (sizeLine_big (by rw [hl]; exact h.out.1))
    | range lo hi st =>
     obtain ⟨a1, ea, rfl⟩ := ha
     obtain ⟨t, u, x, g⟩ := H.obj _ _ a1 e1 ea
     refine call_list_range hA.hd g h.out.1.1 (Int.toNat_of_nonneg (rangeSize_nonneg _ _ _)).symm (by have := h.out.1.2; unfold rangeN at this; lia -abstractProof) fun h' tk acc' c' hk hD hi => Outs.new H (hQ.outs h.out.2) hk ⟨acc', c', hD, ?_⟩
     exact rangeFrom_rel _ _ _ hi.1 fun i v hv => hi.2 i v (by rw [Array.getElem?_toList] at hv; exact hv)
    | _ => exact h.elim
   | _ => exact h.elim
  | cons => exact h.elim
theorem type_ok {T : String} {args : List AV} {rs : List Value} {K : KE} (h : wType T args σ K) (hA : AOk 0 A) (H : HR B F ρ σ s.heap) (hr : VRs ρ args rs) (hQ : PE B F ρ s K Q) : wpAny (model prog w) A (call (.type T) rs) Q E s := by
 unfold wType at h
 by_cases h1 : T = "range"
 ·subst h1; rw [if_pos rfl] at h; exact range_ok h H hr hQ
 rw [if_neg h1] at h
 by_cases h2 : T = "list"
 ·subst h2; rw [if_pos rfl] at h; exact listOf_ok h hA H hr hQ
 rw [if_neg h2] at h
 exact h.elim
theorem extDoor {a b : Array Value} (h : a.size + b.size ≤ 100000) : ¬(!a.isEmpty && Builtin.List.listTooLong (a.size + b.size)) = true := extend_door (sizeLine_big h)
theorem append_ok {k : Nat} {u : AV} {ru rk : Value} {K : KE} (h : wAppend k u σ K) (H : HR B F ρ σ s.heap) (hk : VR ρ (.ref k) rk) (hu : VR ρ u ru) (hQ : PE B F ρ s K Q) : wpAny (model prog w) A (call (.builtin "list.append") [rk, ru]) Q E s := by
 obtain ⟨b, xs, e1, h⟩ := wLst.out h
 obtain ⟨rfl, j⟩ := wB.out h
 obtain ⟨l, vs, n, rfl, ea, g, r⟩ := listAt H e1 hk
 have hl : vs.size = _ := r.length
 refine call_meets PySem.F.slot_list_append ⟨_, g, rfl⟩ PySem.F.entry_list_append (PySem.F.args_list_append_2 _ _) (AutoListH.list_append_list_val_0 l vs n ru (sizeLine_big (by rw [hl]; exact j.out.1))) ⟨g, ?_⟩
 exact (show Q .none _ from Outs.updL H e1 ea g (by rw [Array.toList_push]; exact r.append (bs := [u]) ⟨hu, trivial⟩) rfl (hQ.outs j.out.2))
theorem extend_ok {k : Nat} {u : AV} {ru rk : Value} {K : KE} (h : wExtend k u σ K) (H : HR B F ρ σ s.heap) (hk : VR ρ (.ref k) rk) (hu : VR ρ u ru) (hQ : PE B F ρ s K Q) : wpAny (model prog w) A (call (.builtin "list.extend") [rk, ru]) Q E s := by
 cases u with
 | ref j =>
  obtain ⟨b, xs, e1, h⟩ := wLst.out h
  obtain ⟨b2, ys, e2, h⟩ := wLst.out h
  obtain ⟨rfl, j⟩ := wB.out h
  obtain ⟨l, vs, n, rfl, ea, g, r⟩ := listAt H e1 hk
  obtain ⟨l2, ws, m, rfl, _, g2, r2⟩ := listAt H e2 hu
  have hl : vs.size = _ := r.length
  have hl2 : ws.size = _ := r2.length
  have hz : vs.size + ws.size ≤ 100000 := by rw [hl, hl2]; exact j.out.1.2
  refine call_meets PySem.F.slot_list_extend ⟨_, g, rfl⟩ PySem.F.entry_list_extend (PySem.F.args_list_extend_2 _ _) (AutoSeq1.list_extend_list_list_0 l vs n l2 ws m (extDoor hz) (sizeLine_big (by lia -abstractProof)) (by have := sizeLine_big hz; lia -abstractProof)) ⟨g, g2, ?_⟩
  exact (show Q .none _ from Outs.updL H e1 ea g (by rw [Array.toList_append]; exact r.append r2) rfl (hQ.outs j.out.2))
 | _ => exact h.elim
theorem un_ok {op : UnaryOp} {a : AV} {ra : Value} {K : KE} (h : wUn op a σ fun v => K v σ) (H : HR B F ρ σ s.heap) (ha : VR ρ a ra) (hQ : PE B F ρ s K Q) : wpAny (model prog w) A (unaryOp op ra) Q E s := by
 cases op with
 | Not =>
  show wpAny _ _ (holding [ra] (truthy ra >>= fun t => pure (Value.bool (!t)))) Q E s
  exact wpAny_holding (wpAny_bind (truth_ok (K := fun b σ => K (.bool (!b)) σ) h H ha fun ρ' t σ' s' g k => wpAny_pure (hQ ρ' (.bool (!t)) _ σ' s' g rfl k)))
 | USub => cases a with
  | int x => obtain ⟨t, rfl⟩ := ha; exact neg_int (Outs.int H (hQ.outs h))
  | _ => exact h.elim
 | Invert => cases a with
  | int x => obtain ⟨t, rfl⟩ := ha; exact invert_int (Outs.int H (hQ.outs h))
  | _ => exact h.elim
 | _ => exact h.elim
theorem augI_ok {op : Operator} {x y : Int} {t u : Tok} {K : KE} (h : wArith op x y fun v => K v σ) (H : HR B F ρ σ s.heap) (hQ : PE B F ρ s K Q) : wpAny (model prog w) A (inplaceOp op (.int x t) (.int y u)) Q E s := by
 cases op with
 | Add => exact wpAny_iadd_int (Outs.int H (hQ.outs h))
 | Sub => exact isub_int (Outs.int H (hQ.outs h))
 | Mult => exact imul_int (Outs.int H (hQ.outs h.out.2)) (mulOk_of_small h.out.1.1)
 | FloorDiv => exact ifloordiv_int (Int.ne_of_gt h.out.1.1) (Outs.int H (hQ.outs h.out.2)) (.inl (PyProof.noPylong_small (by have := h.out.1; lia -abstractProof)))
 | Mod => exact imod_int h.out.1 (Outs.int H (hQ.outs h.out.2))
 | LShift => exact ilshift_int_small h.out.1.1 (by have := h.out.1.2.1; lia -abstractProof) h.out.1.2.2 (Outs.int H (hQ.outs h.out.2))
 | RShift => exact irshift_int h.out.1 (Outs.int H (hQ.outs h.out.2))
 | BitAnd => exact iand_int (Outs.int H (hQ.outs h))
 | BitOr => exact ior_int (Outs.int H (hQ.outs h))
 | _ => exact h.elim
theorem aug_ok {op : Operator} {a b : AV} {ra rb : Value} {K : KE} (h : wAug op a b σ K) (H : HR B F ρ σ s.heap) (ha : VR ρ a ra) (hb : VR ρ b rb) (hQ : PE B F ρ s K Q) : wpAny (model prog w) A (inplaceOp op ra rb) Q E s := by
 cases a with
 | int x =>
  obtain ⟨t, rfl⟩ := ha
  cases b with
  | int y => obtain ⟨u, rfl⟩ := hb; exact augI_ok h H hQ
  | _ => exact h.elim
 | _ => exact h.elim
end
end
set_option tactic.hygienic true
section
open PySem.Spec
section
variable {prog : Program} {w : World} {A : Around} {E : Value → Shared → Prop} {B : Heap} {F : List (Addr × Obj)} {ρ : Rho} {σ σ' : Sto} {s : Shared} {Q : Value → Shared → Prop} {K : Frag} {C x : Addr}
theorem osa_heap {R : Result → Shared → Prop} {ox : Obj} {dx : Addr} {name : Str} {tk : Tok} {v : Value} {es : List DictEntry} {n : Nat} (D : s.heap.get? dx = some (dictOf es n)) (X : K.In s.heap)
  (I : InstAt s.heap x ox C (some (dictOf es n))) (hd : ox.dict = some dx) (hp : plainOver K C = true) (ht : takerIn K C name = some none) (hh : (clsIn K C).any (·.hasDict) = true)
  (hl : (lookIn name (dictOf es n)).isSome = true) (hz : es.length ≤ 900)
  (h : R (.ok (.ret .none)) { s with heap := s.heap.update dx (Obj.putName name (PyData.keyHash w.params name) (.str name s.toks) v), toks := s.toks + 1 }) :
  codeAny (model prog w) A (.call (.builtin "object.__setattr__") ⟨[.ref x, .str name tk, v], []⟩) R s := by
 refine osa_open X I hp ht fun b => ?_
 obtain ⟨cd, hc, hd'⟩ := any_some hh
 have e : Obj.putName name (PyData.keyHash w.params name) (.str name s.toks) v (dictOf es n) = dictOf (putL name (PyData.keyHash w.params name) (.str name s.toks) v es) (putN name es n) := putName_dict ..
 have D' : (s.heap.update dx (Obj.putName name (PyData.keyHash w.params name) (.str name s.toks) v)).get? dx = some (dictOf (putL name (PyData.keyHash w.params name) (.str name s.toks) v es) (putN name es n)) := by
  rw [Heap.get?_update_self _ D (by rw [e]; rfl), e]
 generalize dictOf es n = od at D I hl e D'
 obtain ⟨hx, hcl, hn, -⟩ := I
 obtain ⟨oc, odi, oda, osl⟩ := ox
 dsimp only at hcl hd
 subst hcl hd
 refine wpAny_bind (wpAny_pure (wpAny_bind (wpAny_bind (wpAny_loadPart hx (wpAny_bind ((looks_clsIn X hc).here ?_))))))
 rw [hd']
 refine wpAny_pure (a := some dx) (wpAny_bind (wpAny_pure (wpAny_bind ?_)))
 unfold nsSet
 refine wpAny_bind (wpAny_bind (wpAny_askSetting (wpAny_pure (wpAny_bind (wpAny_mkText (wpAny_bind (wpAny_loadPart D ?_)))))))
 unfold lookIn at hl
 split at hl
 ·rename_i es₀ n₀ q
  rw [q]
  dsimp only
  have c : (!es₀.any (·.key.isStr name) && es₀.any (·.refKey)) = false := by
   rw [← Array.any_toList, ← Array.any_toList]
   split at hl
   ·rename_i en he
    rw [List.any_eq_true.mpr ⟨en, List.mem_of_find?_eq_some he, List.find?_some he⟩]; rfl
   ·split at hl
    ·cases hl
    ·rename_i z; rw [Bool.not_eq_true] at z; rw [z, Bool.and_false]
  rw [aRefKeyMayBeTheName_at, c]
  refine wpAny_updatePart D ?_
  have hle : ∀ l : List DictEntry, (putL name (PyData.keyHash w.params name) (.str name s.toks) v l).length ≤ l.length + 1 := by
   intro l
   induction l with
   | nil => simp [putL]
   | cons a l ih => unfold putL; split <;> simp <;> lia -abstractProof
  refine wpAny_bind (wpAny_lookBehind D' (pastItsLine_dict (by rw [List.size_toArray, sizeLine_eq]; have := hle es; lia -abstractProof)) ?_)
  exact wpAny_pure h
 ·cases hl
theorem NsR.find {ρ : Rho} (name : Str) : ∀ {es : List (Str × AV)} {rs : List DictEntry}, NsR ρ es rs → (∀ v, es.lookup name = some v → ∃ rv, getL name rs = some (some rv) ∧ VR ρ v rv) ∧ (es.lookup name = none → getL name rs = some none) ∧ rs.length = es.length := by
 intro es
 induction es with
 | nil => intro rs h; cases rs with
  | nil => exact ⟨fun v e => by simp at e, fun _ => rfl, rfl⟩
  | cons => exact h.elim
 | cons e es ih =>
  intro rs h
  cases rs with
  | nil => exact h.elim
  | cons r rs =>
   obtain ⟨⟨t, hk⟩, hv, hr⟩ := h
   obtain ⟨i1, i2, i3⟩ := ih hr
   obtain ⟨x, u⟩ := e
   have hkey : r.key.isStr name = (x == name) := by rw [hk]; rfl
   by_cases hx : x = name
   ·subst hx
    refine ⟨fun v ev => ?_, fun en => by simp at en, by simp [i3]⟩
    simp at ev; subst ev
    refine ⟨r.val, ?_, hv⟩
    unfold getL
    rw [List.find?_cons, hkey]; simp
   ·have hb : (x == name) = false := beq_eq_false_iff_ne.mpr hx
    have hb' : (name == x) = false := beq_eq_false_iff_ne.mpr (Ne.symm hx)
    have hg : getL name (r :: rs) = getL name rs := by
     unfold getL
     rw [List.find?_cons, hkey, hb]
     have : r.refKey = false := by unfold DictEntry.refKey; rw [hk]
     simp [this]
    rw [hg, List.lookup_cons, hb']
    exact ⟨i1, i2, by simp [i3]⟩
theorem NsR.put {ρ : Rho} {name : Str} {hsh : Int} {tk : Tok} {v : AV} {rv : Value} (hv : VR ρ v rv) : ∀ {es : List (Str × AV)} {rs : List DictEntry}, NsR ρ es rs → NsR ρ (putField name v es) (putL name hsh (.str name tk) rv rs) := by
 intro es
 induction es with
 | nil => intro rs h; cases rs with
  | nil => exact ⟨⟨tk, rfl⟩, hv, trivial⟩
  | cons => exact h.elim
 | cons e es ih =>
  intro rs h
  cases rs with
  | nil => exact h.elim
  | cons r rs =>
   obtain ⟨⟨t, hk⟩, hv', hr⟩ := h
   obtain ⟨x, u⟩ := e
   have hkey : r.key.isStr name = (x == name) := by rw [hk]; rfl
   unfold putField putL
   rw [hkey]
   cases hb : x == name
   ·exact ⟨⟨t, hk⟩, hv', ih hr⟩
   ·exact ⟨⟨t, hk⟩, hv, hr⟩
structure ClsOk (K : Frag) (X : Ctx) : Prop where
 get : ∀ C name, X.own C name = true → plainGet K C name = true ∧ hasDictIn K C = true ∧ ∃ attr, findIn K (.ref C) name = some attr ∧ noGet K attr = true
 set : ∀ C name, X.own C name = true → findIn K (.ref C) "__setattr__" = some (some (.builtin "object.__setattr__")) ∧ plainOver K C = true ∧ takerIn K C name = some none ∧ (clsIn K C).any (·.hasDict) = true
theorem instAt {k d : Nat} {b b' : Bool} {es : List (Str × AV)} (H : HR B F ρ σ s.heap) (e1 : σ[k]? = some ⟨b, .inst C d⟩) (e2 : σ[d]? = some ⟨b', .ns es⟩) {rv : Value} (hr : VR ρ (.ref k) rv) :
  ∃ a dx rs n, rv = .ref a ∧ ρ[d]? = some dx ∧ s.heap.get? dx = some (dictOf rs n) ∧ NsR ρ es rs ∧ InstAt s.heap a { cls := .ref C, dict := some dx } C (some (dictOf rs n)) := by
 obtain ⟨a, ea, rfl⟩ := hr
 obtain ⟨dx, edx, g1⟩ := H.obj _ _ a e1 ea
 obtain ⟨rs, n, g2, r⟩ := H.obj _ _ dx e2 edx
 exact ⟨a, dx, rs, n, rfl, edx, g2, r, ⟨g1, rfl, rfl, g2⟩⟩
theorem VR.handed {ρ : Rho} {v : AV} {rv : Value} (h : VR ρ v rv) (hc : noCon v = true) : handedIn rv = true := by
 cases v with
 | none => cases h; rfl
 | bool b => cases h; rfl
 | int i => obtain ⟨t, rfl⟩ := h; rfl
 | str x => obtain ⟨t, rfl⟩ := h; rfl
 | ref k => obtain ⟨a, _, rfl⟩ := h; rfl
 | con c => cases hc
theorem getF_ok {k d : Nat} {b b' : Bool} {es : List (Str × AV)} {name : Str} {v : AV} {rv : Value} {X : Ctx} {ex : Bool} (KO : ClsOk K X) (KB : K.In B) (H : HR B F ρ σ s.heap) (e1 : σ[k]? = some ⟨b, .inst C d⟩) (e2 : σ[d]? = some ⟨b', .ns es⟩)
  (ho : X.own C name = true) (ev : es.lookup name = some v) (hc : noCon v = true) (hr : VR ρ (.ref k) rv) (h : ∀ u, VR ρ v u → Q u { s with toks := s.toks + 1 }) : wpAny (model prog w) A (getAttr rv name ex) Q E s := by
 obtain ⟨a, dx, rs, n, rfl, edx, g, r, I⟩ := instAt H e1 e2 hr
 obtain ⟨p1, p2, attr, p3, p4⟩ := KO.get C name ho
 obtain ⟨u, hu, hv⟩ := (r.find name).1 v ev
 exact get_value (KB.keeps H.base) I (plainGet_of p1).1 (findObj_own p2 p3 p4 hu) (hv.handed hc) (h _ hv)
theorem setF_ok {Q : Unit → Shared → Prop} {k d : Nat} {b : Bool} {es : List (Str × AV)} {name : Str} {v : AV} {rv ru : Value} {X : Ctx} (KO : ClsOk K X) (KB : K.In B) (H : HR B F ρ σ s.heap) (e1 : σ[k]? = some ⟨b, .inst C d⟩) (e2 : σ[d]? = some ⟨true, .ns es⟩)
  (ho : X.own C name = true) (hz : es.length ≤ 100) (hr : VR ρ (.ref k) rv) (hv : VR ρ v ru) (h : Outs B F ρ (σ.set d ⟨true, .ns (putField name v es)⟩) s (fun _ _ => True) Q) : wpAny (model prog w) A (setAttr rv name ru) Q E s := by
 obtain ⟨a, dx, rs, n, rfl, edx, g, r, I⟩ := instAt H e1 e2 hr
 obtain ⟨p1, p2, p3, p4⟩ := KO.set C name ho
 obtain ⟨f1, f2, f3⟩ := r.find name
 have X' := KB.keeps H.base
 refine set_plain X' I p1 (osa_heap (s := { s with toks := s.toks + 1 }) g X' I rfl p2 p3 p4 ?_ (by lia -abstractProof) ?_)
 ·show (getL name rs).isSome = true
  cases hl : es.lookup name with
  | none => rw [f2 hl]; rfl
  | some u => obtain ⟨x, hx, _⟩ := f1 u hl; rw [hx]; rfl
 ·refine h ρ _ _ (List.prefix_refl _) ?_ trivial ⟨rfl, rfl⟩
  refine H.upd e2 edx rfl (fun c o hb eb => (Heap.get?_update_other _ _ (Ne.symm hb)).trans eb) ?_
  refine ⟨putL name (PyData.keyHash w.params name) (.str name (s.toks + 1)) ru rs, putN name rs n, ?_, r.put hv⟩
  show (s.heap.update dx _).get? dx = _
  rw [Heap.get?_update_self _ g (by rw [putName_dict]; rfl), putName_dict]
end
end
section
open PySem.Spec
noncomputable def ScR (sc sc' : Scope) : Prop := ∀ y, kindA sc y = kindA sc' y ∧ (sc.names.lookup y = some .local ↔ sc'.names.lookup y = some .local)
noncomputable def GlobOk (B : Heap) (ρ : Rho) (X : Ctx) : Prop :=
 ∃ mg mb, B.Ns mainGlobals mg ∧ B.Ns builtinsNs mb ∧ ∀ x v, X.glob.lookup x = some v → ∃ rv, VR ρ v rv ∧ (mg x = some rv ∨ (mg x = none ∧ mb x = some rv))
theorem GlobOk.mono {B : Heap} {ρ ρ' : Rho} {X : Ctx} (hp : ρ <+: ρ') : GlobOk B ρ X → GlobOk B ρ' X
 | ⟨mg, mb, a, b, c⟩ => ⟨mg, mb, a, b, fun x v e => let ⟨rv, p, q⟩ := c x v e; ⟨rv, p.mono hp, q⟩⟩
structure FP (B : Heap) (F : List (Addr × Obj)) (ρ : Rho) (X : Ctx) (env : Env) (ae : Loc) : Prop where
 kind : env.scope.kind = .function
 eg : env.globals = mainGlobals
 eb : env.builtins = builtinsNs
 glob : GlobOk B ρ X
 ns : ∃ oL es ep, (env.locals, oL) ∈ F ∧ oL.data = .dict es ep ∧ StrKeys es ∧ ∀ x v, ae.lookup x = some v → env.kindOf x = some .local → ∃ rv, nsFind es x = some rv ∧ VR ρ v rv
 cl : ∀ x v, ae.lookup x = some v → (env.kindOf x = some .cell ∨ env.kindOf x = some .free) → ∃ c oc rv, env.cells.lookup x = some c ∧ (c, oc) ∈ F ∧ oc.data = .cell (some rv) ∧ VR ρ v rv
 cells : ∀ x, env.kindOf x = some .cell → ∃ c, env.cells.lookup x = some c
 cellF : ∀ x c, env.cells.lookup x = some c → ∃ oc v₀, (c, oc) ∈ F ∧ oc.data = .cell v₀
 apart : ∀ x y c, env.cells.lookup x = some c → env.cells.lookup y = some c → x = y
 notL : ∀ x c, env.cells.lookup x = some c → c ≠ env.locals
 nocd : env.kindOf "__classdict__" = none
 code : ∃ q, B.CodeRec env.code q
theorem FP.mono {B : Heap} {F : List (Addr × Obj)} {ρ ρ' : Rho} {X : Ctx} {env : Env} {ae : Loc} (hp : ρ <+: ρ') (P : FP B F ρ X env ae) : FP B F ρ' X env ae :=
 {P with
  glob := P.glob.mono hp
  ns := let ⟨oL, es, ep, a, b, c, d⟩ := P.ns; ⟨oL, es, ep, a, b, c, fun x v e k => let ⟨rv, p, q⟩ := d x v e k; ⟨rv, p, q.mono hp⟩⟩
  cl := fun x v e k => let ⟨c, oc, rv, a, b, d, q⟩ := P.cl x v e k; ⟨c, oc, rv, a, b, d, q.mono hp⟩ }
theorem FP.sub {B : Heap} {F F₀ : List (Addr × Obj)} {ρ : Rho} {X : Ctx} {env : Env} {ae : Loc} (P : FP B F ρ X env ae) (hs : ∀ p ∈ F, (p.1 = env.locals ∨ ∃ x, env.cells.lookup x = some p.1) → p ∈ F₀) : FP B F₀ ρ X env ae :=
 {P with
  ns := let ⟨oL, es, ep, a, b, c, d⟩ := P.ns; ⟨oL, es, ep, hs _ a (.inl rfl), b, c, d⟩
  cl := fun x v e k => let ⟨c, oc, rv, a, b, d, q⟩ := P.cl x v e k; ⟨c, oc, rv, a, hs _ b (.inr ⟨x, a⟩), d, q⟩
  cellF := fun x c e => let ⟨oc, v₀, a, b⟩ := P.cellF x c e; ⟨oc, v₀, hs _ a (.inr ⟨x, e⟩), b⟩ }
section
variable {prog : Program} {w : World} {A : Around} {E : Value → Shared → Prop} {B : Heap} {F : List (Addr × Obj)} {ρ : Rho} {σ σ' : Sto} {s : Shared} {Q : Value → Shared → Prop} {X : Ctx} {env : Env} {ae : Loc}
theorem FP.nsAt (P : FP B F ρ X env ae) (H : HR B F ρ σ s.heap) : ∃ es, s.heap.Ns env.locals (nsFind es) ∧ ∀ x v, ae.lookup x = some v → env.kindOf x = some .local → ∃ rv, nsFind es x = some rv ∧ VR ρ v rv := by
 obtain ⟨oL, es, ep, a, b, c, d⟩ := P.ns
 exact ⟨es, ⟨oL, es, ep, H.fr _ a, b, c, fun _ => rfl⟩, d⟩
theorem load_ok {sc : Scope} {x : Str} {v : AV} (e : nameA X sc x ae = some v) (hsc : ScR sc env.scope) (P : FP B F ρ X env ae) (H : HR B F ρ σ s.heap) (fin : ∀ rv, VR ρ v rv → Q rv s) :
  wpAny (model prog w) A (loadName env x) Q E s ∧ (x == ("__debug__" : Str)) = false := by
 unfold nameA at e
 split at e
 ·cases e
 rename_i hd
 refine ⟨?_, by simpa using hd⟩
 rw [(hsc x).1] at e
 unfold kindA at e
 cases hl : env.scope.names.lookup x with
 | none => rw [hl] at e; cases e
 | some kd =>
  rw [hl] at e
  cases kd with
  | globalImplicit =>
   obtain ⟨mg, mb, g1, g2, g3⟩ := P.glob
   obtain ⟨rv, hv, hc⟩ := g3 x v e
   have g1' : s.heap.Ns env.globals mg := by rw [P.eg]; exact g1.keeps H.base
   have hl' : env.kindOf x = some .globalImplicit := hl
   rw [loadName_read P.kind hl']
   rcases hc with hc | ⟨hc, hb⟩
   ·exact Calls.loadGlobal_global g1' hc (fin rv hv)
   ·exact Calls.loadGlobal_builtin g1' hc (by rw [P.eb]; exact g2.keeps H.base) hb (fin rv hv)
  | «local» =>
   obtain ⟨es, n1, n2⟩ := P.nsAt H
   obtain ⟨rv, e1, hv⟩ := n2 x v e hl
   exact wpAny_loadName_local P.kind hl n1 e1 (fin rv hv)
  | cell =>
   obtain ⟨c, oc, rv, c1, c2, c3, hv⟩ := P.cl x v e (.inl hl)
   exact wpAny_loadName_cell P.kind hl c1 ⟨oc, H.fr _ c2, c3⟩ (fin rv hv)
  | free =>
   obtain ⟨c, oc, rv, c1, c2, c3, hv⟩ := P.cl x v e (.inr hl)
   refine wpAny_loadName_free P.kind hl c1 ⟨oc, H.fr _ c2, c3⟩ (fin rv hv) ?_
   rw [beq_eq_false_iff_ne]; rintro rfl
   have : env.kindOf "__classdict__" = some .free := hl
   rw [P.nocd] at this; cases this
  | _ => cases e
theorem name_ok {sc : Scope} {x : Str} {v : AV} {pos : Pos} (e : nameA X sc x ae = some v) (hsc : ScR sc env.scope) (P : FP B F ρ X env ae) (H : HR B F ρ σ s.heap) (fin : ∀ rv, VR ρ v rv → Q rv s) :
  wpAny (model prog w) A (eval (.Name x pos) env) Q E s := let ⟨h, hd⟩ := load_ok (prog := prog) (w := w) (A := A) (E := E) e hsc P H fin; wpAny_Name h hd
noncomputable def Turned (L : List Addr) (F F' : List (Addr × Obj)) : Prop := F'.map (·.1) = F.map (·.1) ∧ ∀ p ∈ F, p.1 ∉ L → p ∈ F'
theorem Turned.refl {L : List Addr} {F : List (Addr × Obj)} : Turned L F F := ⟨rfl, fun _ h _ => h⟩
theorem Turned.trans {L : List Addr} {F F' F'' : List (Addr × Obj)} (x : Turned L F F') (y : Turned L F' F'') : Turned L F F'' := ⟨y.1.trans x.1, fun p hp hn => y.2 p (x.2 p hp hn) hn⟩
noncomputable def ownAt (env : Env) : List Addr := env.locals :: (env.scope.names.filterMap fun p => if p.2 = .cell then env.cells.lookup p.1 else none)
theorem lookup_put {name x : Str} {v : AV} : ∀ {es : Loc}, (putField name v es).lookup x = if x = name then some v else es.lookup x := by
 intro es
 induction es with
 | nil =>
  unfold putField
  by_cases h : x = name
  ·subst h; simp
  ·simp [List.lookup_cons, beq_eq_false_iff_ne.mpr h, h]
 | cons e es ih =>
  obtain ⟨n, u⟩ := e
  unfold putField
  by_cases hn : n = name
  ·subst hn
   simp only [beq_self_eq_true, if_true]
   by_cases h : x = n
   ·subst h; simp
   ·simp [List.lookup_cons, beq_eq_false_iff_ne.mpr h, h]
  ·rw [beq_eq_false_iff_ne.mpr hn, if_neg Bool.false_ne_true, List.lookup_cons, List.lookup_cons, ih]
   by_cases h : x = n
   ·subst h; simp [hn]
   ·simp [beq_eq_false_iff_ne.mpr h]
theorem asgL_ok {Q : Unit → Shared → Prop} {x : Str} {v : AV} {rv : Value} (hl : env.scope.names.lookup x = some .local) (P : FP B F ρ X env ae) (H : HR B F ρ σ s.heap) (hv : VR ρ v rv)
  (h : ∀ F' s', Turned [env.locals] F F' → FP B F' ρ X env (putField x v ae) → HR B F' ρ σ s'.heap → Same s s' → Q () s') : wpAny (model prog w) A (storeName env x rv) Q E s := by
 obtain ⟨oL, es, ep, a, b, c, d⟩ := P.ns
 have hn : s.heap.Ns env.locals (nsFind es) := ⟨oL, es, ep, H.fr _ a, b, c, fun _ => rfl⟩
 refine wpAny_storeName_local hl hn (fun h' hn' hs => ?_) (by rw [P.kind]; rfl)
 obtain ⟨oL', es', ep', ho', hd', hk', hf'⟩ := hn'
 have H' := H.turn a (fun b o hb eb => (hs.2 b hb).trans eb) ho'
 refine h _ _ ⟨HR.turnF_fst _ _ _, fun p hp hnp => HR.turnF_mem hp fun q => hnp (by simp [q])⟩ ?_ H' ⟨rfl, rfl⟩
 refine { P with ns := ⟨oL', es', ep', HR.turnF_self a, hd', hk', fun y u ey ky => ?_⟩, cl := fun y u ey ky => ?_, cellF := fun y c' ky => ?_ }
 ·rw [lookup_put] at ey
  rw [hf']
  split at ey
  ·rename_i q; subst q; cases ey; exact ⟨rv, by simp, hv⟩
  ·rename_i q; simp only [if_neg q]; exact d y u ey ky
 ·rw [lookup_put] at ey
  have hyx : y ≠ x := by rintro rfl; rw [show env.kindOf y = some .local from hl] at ky; rcases ky with ky | ky <;> cases ky
  rw [if_neg hyx] at ey
  obtain ⟨c', oc, ru, c1, c2, c3, c4⟩ := P.cl y u ey ky
  exact ⟨c', oc, ru, c1, HR.turnF_mem c2 (P.notL y c' c1), c3, c4⟩
 ·obtain ⟨oc, v₀, c2, c3⟩ := P.cellF y c' ky
  exact ⟨oc, v₀, HR.turnF_mem c2 (P.notL y c' ky), c3⟩
theorem asgC_ok {Q : Unit → Shared → Prop} {x : Str} {v : AV} {rv : Value} (hl : env.scope.names.lookup x = some .cell) (P : FP B F ρ X env ae) (H : HR B F ρ σ s.heap) (hv : VR ρ v rv)
  (h : ∀ F' s', Turned (ownAt env) F F' → FP B F' ρ X env (putField x v ae) → HR B F' ρ σ s'.heap → Same s s' → Q () s') : wpAny (model prog w) A (storeName env x rv) Q E s := by
 obtain ⟨c, c1⟩ := P.cells x hl
 obtain ⟨oc, v₀, c2, c3⟩ := P.cellF x c c1
 refine wpAny_storeName_cell P.kind hl c1 ⟨oc, H.fr _ c2, c3⟩ fun h' hc hs => ?_
 obtain ⟨oc', ho', hd'⟩ := hc
 have H' := H.turn c2 (fun b o hb eb => (hs.2 b hb).trans eb) ho'
 refine h _ _ ⟨HR.turnF_fst _ _ _, fun p hp hnp => HR.turnF_mem hp fun q => hnp ?_⟩ ?_ H' ⟨rfl, rfl⟩
 ·rw [q]
  exact List.mem_cons_of_mem _ (List.mem_filterMap.mpr ⟨(x, .cell), mem_of_lookup hl, by rw [if_pos rfl]; exact c1⟩)
 refine { P with ns := ?_, cl := fun y u ey ky => ?_, cellF := fun y d ky => ?_ }
 ·obtain ⟨oL, es, ep, a, b, k, d⟩ := P.ns
  refine ⟨oL, es, ep, HR.turnF_mem a (P.notL x c c1).symm, b, k, fun y u ey ky => ?_⟩
  rw [lookup_put] at ey
  have hyx : y ≠ x := by rintro rfl; rw [show env.kindOf y = some .cell from hl] at ky; cases ky
  rw [if_neg hyx] at ey
  exact d y u ey ky
 ·rw [lookup_put] at ey
  by_cases q : y = x
  ·subst q; rw [if_pos rfl] at ey; cases ey; exact ⟨c, oc', rv, c1, HR.turnF_self c2, hd', hv⟩
  ·rw [if_neg q] at ey
   obtain ⟨c', od, ru, d1, d2, d3, d4⟩ := P.cl y u ey ky
   exact ⟨c', od, ru, d1, HR.turnF_mem d2 (by rintro rfl; exact q (P.apart y x c' d1 c1)), d3, d4⟩
 ·by_cases q : y = x
  ·subst q; rw [c1] at ky; cases ky; exact ⟨oc', _, HR.turnF_self c2, hd'⟩
  ·obtain ⟨od, v₁, d2, d3⟩ := P.cellF y d ky
   exact ⟨od, v₁, HR.turnF_mem d2 (by rintro rfl; exact q (P.apart y x d ky c1)), d3⟩
theorem asg_ok {Q : Unit → Shared → Prop} {x : Str} {v : AV} {rv : Value} {ae' : Loc} (e : asgName env.scope x v ae = some ae') (P : FP B F ρ X env ae) (H : HR B F ρ σ s.heap) (hv : VR ρ v rv)
  (h : ∀ F' s', Turned (ownAt env) F F' → FP B F' ρ X env ae' → HR B F' ρ σ s'.heap → Same s s' → Q () s') : wpAny (model prog w) A (storeName env x rv) Q E s := by
 unfold asgName at e
 cases hl : env.scope.names.lookup x with
 | none => rw [hl] at e; cases e
 | some kd =>
  rw [hl] at e
  cases kd with
  | «local» => cases e; exact asgL_ok hl P H hv fun F' s' T => h F' s' ⟨T.1, fun p hp hn => T.2 p hp fun q => hn (by rw [List.mem_singleton.mp q]; exact List.mem_cons_self ..)⟩
  | cell => cases e; exact asgC_ok hl P H hv h
  | _ => cases e
end
end
set_option tactic.hygienic false
section
open PySem.Spec
structure AK (d n : Nat) (A : Around) : Prop where
 hd : A.handled = none
 dp : A.depth + 2 * d + min n 1 ≤ 900
 un : A.units + 150 * d + 3 * n + 100 ≤ 9000
theorem AK.ok {d n : Nat} {A : Around} (h : AK d n A) : AOk 0 A := ⟨h.hd, by have := h.dp; lia -abstractProof, by have := h.un; lia -abstractProof⟩
theorem AK.le {d n m : Nat} {A : Around} (h : AK d n A) (hm : m ≤ n) : AK d m A := ⟨h.hd, by have := h.dp; lia -abstractProof, by have := h.un; lia -abstractProof⟩
structure XOk (B : Heap) (K : Frag) (X : Ctx) : Prop where
 KB : K.In B
 cls : ClsOk K X
 keepF : ∀ f fn, X.fn f = some fn → keepIn K (.ref f) = true
 keepC : ∀ C ini, X.cls C = some ini → keepIn K (.ref C) = true
 stat : ∀ C name f, X.stat C name = some f → specialIn K (.ref C) "__getattribute__" = some (some (.builtin "type.__getattribute__")) ∧
  ∃ mc p rest, readsIn K C mc = true ∧ findCls K (.ref C) mc name = some (.get (.builtin "staticmethod.__get__") (.ref p) .none (.ref C)) ∧ recIn K p "staticmethod" = some (.ref f :: rest)
 meth : ∀ C name f, X.meth C name = some f → plainGet K C name = true ∧ findIn K (.ref C) name = some (some (.ref f)) ∧ isFn K (.ref f) = true
 cattr : ∀ C name v, X.cattr C name = some v → ∃ mc a, readsIn K C mc = true ∧ findCls K (.ref C) mc name = some (.val a) ∧ handedIn a = true ∧ VR [] v a
 new : ∀ C ini, X.cls C = some ini → makesIn K C = true ∧ findIn K (.ref C) "__init__" = some (some (.ref ini)) ∧ typeIn K (.ref ini) = some (.type "function")
theorem VR.lift {ρ : Rho} {v : AV} {rv : Value} (h : VR [] v rv) : VR ρ v rv := h.mono (List.nil_prefix)
section
variable (prog : Program) (w : World) (B : Heap) (X : Ctx)
structure Rd (B : Heap) (X : Ctx) (d n : Nat) (A : Around) (sc : Scope) (env : Env) (F : List (Addr × Obj)) (ae : Loc) (ρ : Rho) (σ : Sto) (s : Shared) : Prop where
 A : AK d n A
 S : ScR sc env.scope
 P : FP B F ρ X env ae
 H : HR B F ρ σ s.heap
noncomputable def CallOk (d : Nat) (call : Addr → List AV → Sto → XE) : Prop :=
 ∀ {f : Addr} {args : List AV} {σ : Sto} {K : KE}, call f args σ K → (∃ fn, X.fn f = some fn) ∧
  ∀ {A : Around} {F : List (Addr × Obj)} {ρ : Rho} {s : Shared} {R : Result → Shared → Prop} {rs : List Value}, AK d 0 A → HR B F ρ σ s.heap → GlobOk B ρ X → VRs ρ args rs →
   PE B F ρ s K (fun r s' => R (.ok (.ret r)) s') → codeAny (model prog w) A (.call (.ref f) ⟨rs, []⟩) R s
noncomputable def EvalOk (d n : Nat) (f : Scope → Expr → Loc → Sto → XE) : Prop :=
 ∀ {A : Around} {E : Value → Shared → Prop} {F : List (Addr × Obj)} {ρ : Rho} {σ : Sto} {s : Shared} {Q : Value → Shared → Prop} {sc : Scope} {env : Env} {e : Expr} {ae : Loc} {K : KE},
  f sc e ae σ K → Rd B X d n A sc env F ae ρ σ s → PE B F ρ s K Q → wpAny (model prog w) A (eval e env) Q E s
noncomputable def TestOk (d n : Nat) (f : Scope → Expr → Loc → Sto → (Bool → Sto → Prop) → Prop) : Prop :=
 ∀ {A : Around} {E : Value → Shared → Prop} {F : List (Addr × Obj)} {ρ : Rho} {σ : Sto} {s : Shared} {Q : Bool → Shared → Prop} {sc : Scope} {env : Env} {e : Expr} {ae : Loc} {K : Bool → Sto → Prop},
  f sc e ae σ K → Rd B X d n A sc env F ae ρ σ s → PB B F ρ s K Q → wpAny (model prog w) A (isTrue e env (eval e env)) Q E s
end
section
variable {prog : Program} {w : World} {A : Around} {E : Value → Shared → Prop} {B : Heap} {X : Ctx} {F : List (Addr × Obj)} {ρ : Rho} {σ : Sto} {s : Shared} {sc : Scope} {env : Env} {ae : Loc} {d n : Nat}
 {f : Scope → Expr → Loc → Sto → XE}
theorem Rd.le (R : Rd B X d (n + 1) A sc env F ae ρ σ s) : Rd B X d n A sc env F ae ρ σ s := { R with A := R.A.le (Nat.le_succ n) }
theorem Rd.go {ρ1 : Rho} {σ1 : Sto} {s1 : Shared} (R : Rd B X d n A sc env F ae ρ σ s) (g : Go B F ρ s ρ1 σ1 s1) : Rd B X d n A sc env F ae ρ1 σ1 s1 := ⟨R.A, R.S, R.P.mono g.pre, g.H⟩
theorem star_cons {e : Expr} {rest : List Expr} {env : Env} (h : ∀ x p, e ≠ .Starred x p) : starEach (e :: rest) env = (false, eval e env) :: starEach rest env := by
 cases e <;> first | rfl | exact absurd rfl (h _ _)
noncomputable def Plain (es : List Expr) : Prop := ∀ e ∈ es, ∀ x p, e ≠ .Starred x p
theorem plain_of {es : List Expr} (h : es.all notStar = true) : Plain es := fun e he x p q => by subst q; exact Bool.false_ne_true (List.all_eq_true.mp h _ he)
theorem plain_cons {e : Expr} {es : List Expr} (h : Plain (e :: es)) : starEach (e :: es) env = (false, eval e env) :: starEach es env := star_cons (h e (List.mem_cons_self ..))
theorem Plain.tail {e : Expr} {es : List Expr} (h : Plain (e :: es)) : Plain es := fun x hx => h x (List.mem_cons_of_mem _ hx)
theorem plain_any {pos : Pos} : ∀ {es : List Expr}, Plain es → (backTo pos (starEach es env)).any (·.1) = false
 | [], _ => rfl
 | _ :: _, h => by rw [plain_cons h]; exact plain_any h.tail
theorem spliced_ok (hf : EvalOk prog w B X d n f) {pos : Pos} : ∀ {es : List Expr} {ρ : Rho} {σ : Sto} {s : Shared} {Q : List Value → Shared → Prop} {K : List AV → Sto → Prop}, Plain es → evalsA (f sc) es ae σ K → Rd B X d n A sc env F ae ρ σ s →
  (∀ ρ' vs rs σ' s', Go B F ρ s ρ' σ' s' → VRs ρ' vs rs → rs.length = es.length → K vs σ' → Q rs s') → wpAny (model prog w) A (spliced (backTo pos (starEach es env))) Q E s
 | [], _, _, _, _, _, _, h, R, hQ => wpAny_items_nil (hQ _ [] [] _ _ (.refl R.H) trivial rfl h)
 | _ :: _, _, _, _, _, _, hp, h, R, hQ =>
  wpAny_items_cons (hf h R fun _ _ _ _ _ g hv k => spliced_ok hf hp.tail k (R.go g) fun _ _ _ _ _ g2 hvs hl k2 => hQ _ (_ :: _) (_ :: _) _ _ (g.trans g2) ⟨hv.mono g2.pre, hvs⟩ (congrArg (· + 1) hl) k2) (plain_cons hp)
theorem callWith_ok (hf : EvalOk prog w B X d n f) {pos : Pos} {fv : Value} {first : List Value} {es : List Expr} {Q : Value → Shared → Prop} {K : List AV → Sto → Prop} (hp : Plain es)
  (hk : ∀ h : Heap, (∀ b o, B.get? b = some o → h.get? b = some o) → ∃ k, (k = Keeper.frame ∨ k = Keeper.machine ∨ k = Keeper.boundFrame) ∧ Looks (model prog w) h (keeperOf fv) k)
  (e : evalsA (f sc) es ae σ K) (R : Rd B X d n A sc env F ae ρ σ s) (h : PL B F ρ s K fun rs s' => wpAny (model prog w) A (call fv (first ++ rs)) Q E s') :
  wpAny (model prog w) A (callWith pos fv first (backTo pos (starEach es env)) []) Q E s := by
 refine callWith_of (P := fun h => ∀ b o, B.get? b = some o → h.get? b = some o) (by rw [plain_any hp]; rfl) hk ?_
 cases es with
 | nil => exact PySem.evalArgs_none ⟨R.H.base, h _ [] [] _ _ (.refl R.H) trivial e⟩
 | cons a es =>
  have := spliced_ok (A := A) (E := E) (pos := pos) hf hp e R (Q := fun rs s' => (∀ b o, B.get? b = some o → s'.heap.get? b = some o) ∧ wpAny (model prog w) A (call fv (first ++ rs)) Q E s')
   fun _ _ _ _ _ g hv _ k => ⟨g.H.base, h _ _ _ _ _ g hv k⟩
  rw [plain_cons hp] at this ⊢
  exact Calls.evalArgs_plain this
theorem keeps_def {K : Frag} (XO : XOk B K X) {a : Addr} (e : keepIn K (.ref a) = true) (h : Heap) (hb : ∀ b o, B.get? b = some o → h.get? b = some o) :
  ∃ k, (k = Keeper.frame ∨ k = Keeper.machine ∨ k = Keeper.boundFrame) ∧ Looks (model prog w) h (keeperOf (.ref a)) k := keeps_K e h (XO.KB.keeps hb)
theorem keeps_builtin {id : String} (h : Heap) (_ : ∀ b o, B.get? b = some o → h.get? b = some o) :
  ∃ k, (k = Keeper.frame ∨ k = Keeper.machine ∨ k = Keeper.boundFrame) ∧ Looks (model prog w) h (keeperOf (.builtin id)) k := ⟨.machine, .inr (.inl rfl), Looks.now⟩
theorem keeps_type {T : String} (h : Heap) (_ : ∀ b o, B.get? b = some o → h.get? b = some o) :
  ∃ k, (k = Keeper.frame ∨ k = Keeper.machine ∨ k = Keeper.boundFrame) ∧ Looks (model prog w) h (keeperOf (.type T)) k := ⟨.machine, .inr (.inl rfl), Looks.now⟩
end
end
set_option tactic.hygienic true
set_option tactic.hygienic false
section
open PySem.Spec
section
variable {prog : Program} {w : World} {A : Around} {E : Value → Shared → Prop} {B : Heap} {K : Frag} {X : Ctx} {F : List (Addr × Obj)} {ρ : Rho} {σ σ' : Sto} {s : Shared} {sc : Scope} {env : Env} {ae : Loc} {d n : Nat}
 {f : Scope → Expr → Loc → Sto → XE} {call : Addr → List AV → Sto → XE} {Q : Value → Shared → Prop}
theorem make_ok (XO : XOk B K X) (CO : CallOk prog w B X d call) {C ini : Addr} {args : List AV} {rs : List Value} (hC : X.cls C = some ini)
  {K0 : KE} (e : call ini (.ref (σ.length + 1) :: args) (σ ++ [⟨true, .ns []⟩, ⟨true, .inst C σ.length⟩]) fun v σ' => ifNone v (K0 (.ref (σ.length + 1)) σ')) (hA : AK d 1 A) (H : HR B F ρ σ s.heap) (G : GlobOk B ρ X) (hr : VRs ρ args rs)
  (hQ : PE B F ρ s K0 Q) : wpAny (model prog w) A (PySem.call (.ref C) rs) Q E s := by
 obtain ⟨m1, m2, m3⟩ := XO.new C ini hC
 have X' := XO.KB.keeps H.base
 refine wpAny_call ?_
 obtain ⟨hh, gg, dd, tt, oo⟩ := s
 have H1 : HR B F (ρ ++ [hh.objs.size]) (σ ++ [⟨true, .ns []⟩]) (hh.push emptyDict) := H.alloc (fun _ _ e => Heap.get?_push_of_some _ e) (Nat.le_refl _) ⟨[], 0, Heap.get?_push_size _ rfl, trivial⟩
 have hsz : (hh.push emptyDict).objs.size = hh.objs.size + 1 := Heap.size_push ..
 have H2 : HR B F (ρ ++ [hh.objs.size] ++ [hh.objs.size + 1]) (σ ++ [⟨true, .ns []⟩] ++ [⟨true, .inst C σ.length⟩]) ((hh.push emptyDict).push (instObj C hh.objs.size)) := by
  refine H1.alloc (fun _ _ e => Heap.get?_push_of_some _ e) (by rw [hsz]; exact Nat.le_refl _) ⟨hh.objs.size, ?_, ?_⟩
  ·rw [List.append_assoc, ← H.len]; simp
  ·rw [← hsz]; exact Heap.get?_push_size _ rfl
 have hp : ρ <+: ρ ++ [hh.objs.size] ++ [hh.objs.size + 1] := by rw [List.append_assoc]; exact List.prefix_append _ _
 have hx : (ρ ++ [hh.objs.size] ++ [hh.objs.size + 1])[σ.length + 1]? = some (hh.objs.size + 1) := by rw [← H.len]; simp
 have hdep : (A.under (.builtin "type.__call__" ⟨.ref C :: rs, []⟩)).depth = A.depth + 1 := by
  have hw : Code.weight (.builtin "type.__call__" ⟨.ref C :: rs, []⟩) = 1 := by kernel_rfl
  show A.depth + Code.weight _ = A.depth + 1
  rw [hw]
 refine make_core (makes_of X' m1) (looks_findIn X' m2) (fun self => bind_fn X' self m3) (.inl rfl) ?_
 obtain ⟨_, CO'⟩ := CO e
 refine CO' ⟨hA.hd, by rw [hdep]; have := hA.dp; lia, ?_⟩ (s := ⟨_, gg, dd, tt, oo⟩) (by rw [List.append_assoc] at H2; simpa using H2) (G.mono (List.append_assoc .. ▸ hp)) ⟨⟨_, by simpa using hx, rfl⟩, hr.mono (by simpa using hp)⟩ ?_
 ·have := hA.un
  show (A.units + 1) + 150 * d + 3 * 0 + 100 ≤ 9000
  lia
 ·intro ρ' v rv σ' s' g hv k
  cases v with
  | none =>
   refine ⟨hv, ?_⟩
   have hx' : ρ'[σ.length + 1]? = some (hh.objs.size + 1) := get_prefix g.pre (by simpa using hx)
   exact hQ _ (.ref (σ.length + 1)) _ _ _ ⟨(by simpa using hp : ρ <+: ρ ++ [hh.objs.size, hh.objs.size + 1]).trans g.pre, g.H, g.same.gens, g.same.os⟩ ⟨_, hx', rfl⟩ k
  | _ => exact k.elim
theorem apply_ok (XO : XOk B K X) (CO : CallOk prog w B X d call) (hf : EvalOk prog w B X d n f) {pos : Pos} {a : AV} {rv : Value} {es : List Expr} {KK : KE} (hp : Plain es) (hc : calleeOk X a = true)
  (e : evalsA (f sc) es ae σ fun vs σ => wApply X call a vs σ KK) (R : Rd B X d (n + 1) A sc env F ae ρ σ s) (hr : VR ρ a rv) (hQ : PE B F ρ s KK Q) : wpAny (model prog w) A (callWith pos rv [] (backTo pos (starEach es env)) []) Q E s := by
 cases a with
 | con c =>
  obtain rfl : c = _ := Eq.symm hr
  cases c with
  | builtin id => exact callWith_ok hf hp keeps_builtin e R.le fun _ _ _ _ _ g hrs k => builtin_ok k R.A.ok g.H hrs (hQ.after g)
  | type T => exact callWith_ok hf hp keeps_type e R.le fun _ _ _ _ _ g hrs k => type_ok k R.A.ok g.H hrs (hQ.after g)
  | ref c =>
   cases hC : X.cls c with
   | some ini =>
    have e : evalsA (f sc) es ae σ fun vs σ => wCls call (some ini) c vs σ KK := hC ▸ (show evalsA (f sc) es ae σ fun vs σ => wCls call (X.cls c) c vs σ KK from e)
    exact callWith_ok hf hp (keeps_def XO (XO.keepC _ _ hC)) e R.le fun _ _ _ _ _ g hrs k => make_ok XO CO hC (lCall.out k) (R.A.le (Nat.succ_le_succ (Nat.zero_le n))) g.H (R.P.glob.mono g.pre) hrs (hQ.after g)
   | none =>
    have e : evalsA (f sc) es ae σ fun vs σ => wCls call none c vs σ KK := hC ▸ (show evalsA (f sc) es ae σ fun vs σ => wCls call (X.cls c) c vs σ KK from e)
    have hF : (X.fn c).isSome = true := by
     have : ((X.cls c).isSome || (X.fn c).isSome) = true := hc
     rwa [hC, Option.isSome_none, Bool.false_or] at this
    obtain ⟨fn, hF⟩ := Option.isSome_iff_exists.mp hF
    exact callWith_ok hf hp (keeps_def XO (XO.keepF _ _ hF)) e R.le fun _ _ _ _ _ g hrs k => wpAny_call ((CO (lCall.out k)).2 (R.A.le (Nat.zero_le _)) g.H (R.P.glob.mono g.pre) hrs (hQ.after g))
  | _ => cases hc
 | _ => cases hc
theorem method_list {l : Addr} {vs : Array Value} {k : Nat} {name : Str} {id : String} {pl : Sem Bool} {Q : Value × List Value → Shared → Prop} (g : s.heap.get? l = some { cls := .type "list", data := .seq vs k })
  (slot : Slot "list" name id) (hty : typeOf (.builtin id) = pure (.type "method_descriptor")) (h : Q (.builtin id, [.ref l]) s) : wpAny (model prog w) A (getMethod (.ref l) name pl) Q E s :=
 getMethod_builtin ⟨_, g, rfl⟩ PySem.F.plainAttrs_list slot hty (fun a e => by cases e; exact ⟨_, g, rfl⟩) h
theorem methodCall_open {o : Expr} {name : Str} {apos pos : Pos} {ov : Value} {es : List Expr} (hform : methodCallForm (es.length + ([] : List Keyword).length) (backTo pos (starEach es env)) (backToKw pos (keywordEach [] env)) = true) (hline : (apos.endLine == pos.line) = true)
  (h : wpAny (model prog w) A (getMethod ov name (do return (← importBound o env).getD true)) (fun r s' => wpAny (model prog w) A (callWith pos r.1 r.2 (backTo pos (starEach es env)) []) Q E s') E s) :
  wpAny (model prog w) A (methodCall o name apos pos env ov (es.length + ([] : List Keyword).length) (backTo pos (starEach es env)) (backToKw pos (keywordEach [] env))) Q E s := by
 have hpos : methodCallPos true o env apos pos = pure pos := by unfold methodCallPos; simp [hline]
 unfold methodCall
 rw [hform]
 refine wpAny_bind (wpAny_holding ?_)
 unfold calleeOf
 rw [if_pos rfl]
 exact wpAny_mono h (fun r s' h' => wpAny_bind (wpAny_of_eq hpos h')) fun _ _ x => x
noncomputable def lmName (m : LM) : String := match m with
 | .append => "list.append"
 | .extend => "list.extend"
 | .count => "list.count"
 | .index => "list.index"
 | .remove => "list.remove"
theorem lint_ok {v : AV} {k : Nat} {ru rk : Value} {K : Int → Bool → List Int → Prop} (h : wLInt v k σ K) (H : HR B F ρ σ s.heap) (hk : VR ρ (.ref k) rk) (hu : VR ρ v ru) :
  ∃ x t b xs ns l vs n, ru = .int x t ∧ rk = .ref l ∧ ρ[k]? = some l ∧ σ[k]? = some ⟨b, .list xs⟩ ∧ s.heap.get? l = some { cls := .type "list", data := .seq vs n } ∧ vs.size ≤ 100000 ∧ IntsAre vs.toList ns ∧ K x b ns := by
 cases v with
 | int x =>
  obtain ⟨t, rfl⟩ := hu
  obtain ⟨b, xs, e1, h⟩ := wLst.out h
  obtain ⟨hz, h⟩ := h.out
  obtain ⟨ns, e3, h⟩ := wInts.out h
  obtain ⟨l, vs, n, rfl, ea, g, r⟩ := listAt H e1 hk
  have hl : vs.size = _ := r.length
  exact ⟨x, t, b, xs, ns, l, vs, n, rfl, rfl, ea, e1, g, by rw [hl]; exact hz, intsA_are e3 r, h⟩
 | _ => exact h.elim
theorem countP_ints (x : Int) : ∀ {vs : List Value} {ns : List Int}, IntsAre vs ns → vs.countP (isInt x) = ns.count x
 | _, _, .nil => rfl
 | _, _, .cons i t h => by rw [List.countP_cons, List.count_cons, countP_ints x h]; rfl
theorem ints_get {vs : Array Value} {ns : List Int} (h : IntsAre vs.toList ns) {j : Nat} (hj : j < vs.size) : ∃ t, vs[j] = .int (ns.getD j 0) t := by
 have key : ∀ {vs : List Value} {ns : List Int}, IntsAre vs ns → ∀ {j : Nat} (hj : j < vs.length), ∃ t, vs[j] = .int (ns.getD j 0) t := by
  intro vs ns h
  induction h with
  | nil => intro j hj; exact absurd hj (Nat.not_lt_zero _)
  | cons i t _ ih => intro j hj; cases j with
   | zero => exact ⟨t, rfl⟩
   | succ j => exact ih (Nat.lt_of_succ_lt_succ hj)
 exact key h (j := j) (by simpa using hj)
theorem ints_erase {vs : List Value} {ns : List Int} (h : IntsAre vs ns) : ∀ j, IntsAre (vs.eraseIdx j) (ns.eraseIdx j) := by
 induction h with
 | nil => intro j; exact .nil
 | cons i t h ih => intro j; cases j with
  | zero => exact h
  | succ j => exact .cons i t (ih j)
theorem idx_facts {vs : Array Value} {ns : List Int} {x : Int} (h : IntsAre vs.toList ns) (hm : x ∈ ns) :
  ∃ hj : ns.idxOf x < vs.size, isInt x vs[ns.idxOf x] = true ∧ ∀ m (hm : m < vs.size), m < ns.idxOf x → isInt x vs[m] = false := by
 have hl : vs.size = ns.length := by have := IntsAre.length h; simpa using this
 have hj : ns.idxOf x < vs.size := by rw [hl]; exact List.idxOf_lt_length_iff.mpr hm
 refine ⟨hj, ?_, fun m hm' hlt => ?_⟩
 ·obtain ⟨t, e⟩ := ints_get h hj
  rw [e]
  show (ns.getD (ns.idxOf x) 0 == x) = true
  rw [List.getD_eq_getElem?_getD, List.getElem?_eq_getElem (by lia), Option.getD_some, List.getElem_idxOf]
  exact beq_self_eq_true _
 ·obtain ⟨t, e⟩ := ints_get h hm'
  rw [e]
  show (ns.getD m 0 == x) = false
  rw [List.getD_eq_getElem?_getD, List.getElem?_eq_getElem (by lia), Option.getD_some]
  exact Bool.eq_false_iff.mpr fun q => by have := List.not_of_lt_findIdx (p := (· == x)) hlt; simp at this q; exact this q
theorem count_ok {k : Nat} {u : AV} {ru rk : Value} {KK : KE} (h : wLInt u k σ fun x _ ns => KK (.int (ns.count x)) σ) (H : HR B F ρ σ s.heap) (hk : VR ρ (.ref k) rk) (hu : VR ρ u ru) (hQ : PE B F ρ s KK Q) : wpAny (model prog w) A (PySem.call (.builtin "list.count") [rk, ru]) Q E s := by
 obtain ⟨x, t, b, xs, ns, l, vs, n, rfl, rfl, ea, e1, g, hz, hi, h⟩ := lint_ok h H hk hu
 refine call_meets PySem.F.slot_list_count ⟨_, g, rfl⟩ PySem.F.entry_list_count (PySem.F.args_list_count_2 _ _) (MeetsSeq.list_count l vs n (.int x t) (isInt x) (fun y hy => eq_isInt x t hi y (by simpa using hy))) ⟨g, ?_⟩
 exact (show Q (.int (vs.toList.countP (isInt x) : Nat) s.toks) _ from Outs.int H (hQ.outs (by rw [countP_ints x hi]; exact h)))
theorem index_ok {k : Nat} {u : AV} {ru rk : Value} {KK : KE} (h : wLInt u k σ fun x _ ns => wG (x ∈ ns) (KK (.int (ns.idxOf x)) σ)) (H : HR B F ρ σ s.heap) (hk : VR ρ (.ref k) rk) (hu : VR ρ u ru) (hQ : PE B F ρ s KK Q) : wpAny (model prog w) A (PySem.call (.builtin "list.index") [rk, ru]) Q E s := by
 obtain ⟨x, t, b, xs, ns, l, vs, n, rfl, rfl, ea, e1, g, hz, hi, h⟩ := lint_ok h H hk hu
 obtain ⟨hm, h⟩ := h.out
 obtain ⟨hj, i1, i2⟩ := idx_facts hi hm
 refine call_meets PySem.F.slot_list_index ⟨_, g, rfl⟩ PySem.F.entry_list_index (PySem.F.args_list_index_2 _ _) (MeetsSeq.list_index l vs n (.int x t) (isInt x) (fun y hy => eq_isInt x t hi y (by simpa using hy)) (ns.idxOf x) hj (by lia) i1 i2) ⟨g, ?_⟩
 exact (show Q (.int (ns.idxOf x : Nat) s.toks) _ from Outs.int H (hQ.outs h))
theorem remove_ok {k : Nat} {u : AV} {ru rk : Value} {KK : KE} (h : wLInt u k σ fun x b ns => wB b <| wG (x ∈ ns) (KK .none (σ.set k ⟨true, .list ((ns.erase x).map .int)⟩))) (H : HR B F ρ σ s.heap) (hk : VR ρ (.ref k) rk) (hu : VR ρ u ru) (hQ : PE B F ρ s KK Q) : wpAny (model prog w) A (PySem.call (.builtin "list.remove") [rk, ru]) Q E s := by
 obtain ⟨x, t, b, xs, ns, l, vs, n, rfl, rfl, ea, e1, g, hz, hi, h⟩ := lint_ok h H hk hu
 obtain ⟨rfl, h2⟩ := wB.out h
 obtain ⟨hm, h⟩ := h2.out
 obtain ⟨hj, i1, i2⟩ := idx_facts hi hm
 refine call_meets PySem.F.slot_list_remove ⟨_, g, rfl⟩ PySem.F.entry_list_remove (PySem.F.args_list_remove_2 _ _) (MeetsSeq.list_remove l vs n (.int x t) (isInt x) (fun y hy => eq_isInt x t hi y (by simpa using hy)) (ns.idxOf x) hj i1 i2 (sizeLine_big hz)) ⟨g, ?_⟩
 refine (show Q .none _ from Outs.updL H e1 ea g ?_ rfl (hQ.outs h))
 rw [List.erase_eq_eraseIdx_of_idxOf rfl]
 have : IntsAre ((vs.eraseIdxIfInBounds (ns.idxOf x)).toList) (ns.eraseIdx (ns.idxOf x)) := by
  rw [Array.toList_eraseIdxIfInBounds]
  exact ints_erase hi _
 exact vrs_ints this
theorem resolve_ok (XO : XOk B K X) {a : AV} {ov : Value} {name : Str} {pl : Sem Bool} {Kf : Addr → List AV → Prop} {Kl : Nat → LM → Prop} {Q : Value × List Value → Shared → Prop} (h : wResolve X a name σ Kf Kl) (H : HR B F ρ σ s.heap) (hr : VR ρ a ov)
  (hf : ∀ g first rs s', Go B F ρ s ρ σ s' → VRs ρ first rs → Kf g first → Q (.ref g, rs) s') (hl : ∀ k m, VR ρ (.ref k) ov → Kl k m → Q (.builtin (lmName m), [ov]) s) :
  wpAny (model prog w) A (getMethod ov name pl) Q E s := by
 cases a with
 | con c =>
  obtain rfl : c = _ := Eq.symm hr
  cases c with
  | ref C =>
   obtain ⟨fa, e3, h⟩ := wO.out h
   obtain ⟨t1, mc, p, rest, t2, t3, t4⟩ := XO.stat _ _ _ e3
   have X' := XO.KB.keeps H.base
   refine method_cls X' t1 (cls_bind X' t2 t3 (wpAny_call (sm_get (s := { s with toks := s.toks + 1 }) X' t4 (handed_on rfl ?_))))
   exact hf _ [] [] { s with toks := s.toks + 1 } ⟨List.prefix_refl _, H, rfl, rfl⟩ trivial h
  | _ => exact h.elim
 | ref k =>
  obtain ⟨⟨b, o⟩, e1, h⟩ := wAt.out h
  cases o with
  | inst C dd =>
   obtain ⟨⟨b2, o2⟩, e2, h⟩ := wAt.out h
   cases o2 with
   | ns es =>
    obtain ⟨hn, h⟩ := wB.out h
    obtain ⟨fa, e3, h⟩ := wO.out h
    obtain ⟨t1, t2, t3⟩ := XO.meth _ _ _ e3
    obtain ⟨x, dx, rs, n, rfl, edx, g, r, I⟩ := instAt H e1 e2 hr
    have hl : getL name rs = some none := (r.find name).2.1 (Option.isNone_iff_eq_none.mp hn)
    exact method_fn (XO.KB.keeps H.base) I (plainGet_of t1).1 (plainGet_of t1).2 t2 (beq_iff_eq.mp t3) (by show (lookIn name (dictOf rs n)).map _ = _; rw [lookIn_dict, hl]; rfl) (hf _ [.ref k] _ s (.refl H) ⟨hr, trivial⟩ h)
   | _ => exact h.elim
  | list xs =>
   obtain ⟨m, e3, h⟩ := wO.out h
   obtain ⟨l, vs, n, rfl, ea, g, r⟩ := listAt H e1 hr
   have := hl k m hr h
   unfold listMeth at e3
   by_cases h1 : name = ("append" : Str)
   ·subst h1; rw [if_pos (beq_self_eq_true _)] at e3; cases e3
    exact method_list g PySem.F.slot_list_append PySem.F.type_list_append this
   ·rw [if_neg (by simpa using h1)] at e3
    by_cases h2 : name = ("extend" : Str)
    ·subst h2; rw [if_pos (beq_self_eq_true _)] at e3; cases e3
     exact method_list g PySem.F.slot_list_extend PySem.F.type_list_extend this
    ·rw [if_neg (by simpa using h2)] at e3
     by_cases h3 : name = ("count" : Str)
     ·subst h3; rw [if_pos (beq_self_eq_true _)] at e3; cases e3
      exact method_list g PySem.F.slot_list_count PySem.F.type_list_count this
     ·rw [if_neg (by simpa using h3)] at e3
      by_cases h4 : name = ("index" : Str)
      ·subst h4; rw [if_pos (beq_self_eq_true _)] at e3; cases e3
       exact method_list g PySem.F.slot_list_index PySem.F.type_list_index this
      ·rw [if_neg (by simpa using h4)] at e3
       by_cases h5 : name = ("remove" : Str)
       ·subst h5; rw [if_pos (beq_self_eq_true _)] at e3; cases e3
        exact method_list g PySem.F.slot_list_remove PySem.F.type_list_remove this
       ·rw [if_neg (by simpa using h5)] at e3; cases e3
  | _ => exact h.elim
 | _ => exact h.elim
theorem meth_ok {m : LM} {k : Nat} {args : List AV} {rs : List Value} {rk : Value} {KK : KE} (h : wMeth m k args σ KK) (H : HR B F ρ σ s.heap) (hk : VR ρ (.ref k) rk) (hr : VRs ρ args rs) (hQ : PE B F ρ s KK Q) :
  wpAny (model prog w) A (PySem.call (.builtin (lmName m)) ([rk] ++ rs)) Q E s := by
 cases args with
 | nil => exact h.elim
 | cons u r => cases r with
  | nil =>
   obtain ⟨ru, rfl, hu⟩ := hr.one
   cases m with
   | append => exact append_ok h H hk hu hQ
   | extend => exact extend_ok h H hk hu hQ
   | count => exact count_ok h H hk hu hQ
   | index => exact index_ok h H hk hu hQ
   | remove => exact remove_ok h H hk hu hQ
  | cons => exact h.elim
theorem method_ok (XO : XOk B K X) (CO : CallOk prog w B X d call) (hf : EvalOk prog w B X d n f) {pos : Pos} {a : AV} {ov : Value} {es : List Expr} {name : Str} {pl : Sem Bool} {KK : KE} (hp : Plain es)
  (e : wResolve X a name σ (fun g first => wB (X.fn g).isSome <| evalsA (f sc) es ae σ fun vs σ => lCall call g (first ++ vs) σ KK) fun k m => evalsA (f sc) es ae σ fun vs σ => wMeth m k vs σ KK) (R : Rd B X d (n + 1) A sc env F ae ρ σ s) (hr : VR ρ a ov)
  (hQ : PE B F ρ s KK Q) : wpAny (model prog w) A (getMethod ov name pl) (fun r s' => wpAny (model prog w) A (callWith pos r.1 r.2 (backTo pos (starEach es env)) []) Q E s') E s := by
 refine resolve_ok XO e R.H hr (fun g first rs s' g1 hrs k => ?_) (fun k m hk e => ?_)
 ·obtain ⟨hF, k⟩ := wB.out k
  obtain ⟨fn, hF⟩ := Option.isSome_iff_exists.mp hF
  exact callWith_ok hf hp (keeps_def XO (XO.keepF _ _ hF)) k (R.go g1).le fun _ _ _ _ _ g2 hrs2 k2 => wpAny_call ((CO k2.out).2 (R.A.le (Nat.zero_le _)) g2.H (R.P.glob.mono g2.pre) ((hrs.mono g2.pre).append hrs2) (hQ.after (g1.trans g2)))
 ·exact callWith_ok hf hp keeps_builtin e R.le fun _ _ _ _ _ g2 hrs2 k2 => meth_ok k2 g2.H (hk.mono g2.pre) hrs2 (hQ.after g2)
end
end
set_option tactic.hygienic true
section
open PySem.Spec
theorem HR.drop {B : Heap} {F F' : List (Addr × Obj)} {ρ : Rho} {σ : Sto} {h h' : Heap} (H : HR B F' ρ σ h) (D : List Addr) (hD : ∀ a ∈ D, ∃ o, (a, o) ∈ F') (hF : ∀ p ∈ F, p ∈ F' ∧ p.1 ∉ D) (hN : (F.map (·.1)).Nodup)
  (hs : ∀ b o, b ∉ D → h.get? b = some o → h'.get? b = some o) : HR B F ρ σ h' := by
 have notB : ∀ b o, B.get? b = some o → b ∉ D := fun b o e hm => by obtain ⟨x, hx⟩ := hD b hm; have := H.fB _ hx; rw [show ((b, x) : Addr × Obj).1 = b from rfl, e] at this; cases this
 have notR : ∀ a ∈ ρ, a ∉ D := fun a ha hm => by obtain ⟨x, hx⟩ := hD a hm; exact H.sepF a ha _ hx rfl
 refine ⟨fun b o e => hs b o (notB b o e) (H.base b o e), fun p hp => hs _ _ (hF p hp).2 (H.fr p (hF p hp).1), fun p hp => H.fB p (hF p hp).1, hN, H.len, H.nd, fun k c a e e' => ?_, H.sepB, fun a ha p hp => H.sepF a ha p (hF p hp).1⟩
 have ha := notR a (List.mem_of_getElem? e')
 have := H.obj k c a e e'
 obtain ⟨w, o⟩ := c
 have hh : ∀ x, h.get? a = some x → h'.get? a = some x := fun x => hs a x ha
 exact this.mono (List.prefix_refl _) hh
theorem HR.alloc' {B : Heap} {F : List (Addr × Obj)} {ρ : Rho} {σ : Sto} {h : Heap} (H : HR B F ρ σ h) {a : Addr} {c : Cl} (hna : a ∉ ρ) (hBa : B.get? a = none) (hFa : ∀ p ∈ F, p.1 ≠ a) (ho : OR (ρ ++ [a]) h a c.o) : HR B F (ρ ++ [a]) (σ ++ [c]) h := by
 refine ⟨H.base, H.fr, H.fB, H.fN, by simp [H.len], ?_, ?_, ?_, ?_⟩
 ·rw [List.nodup_append]; exact ⟨H.nd, by simp, fun x hx y hy => by simp at hy; subst hy; exact fun e => hna (e ▸ hx)⟩
 ·intro k d b hk1 hk2
  by_cases hlt : k < σ.length
  ·rw [List.getElem?_append_left hlt] at hk1
   rw [List.getElem?_append_left (H.len ▸ hlt)] at hk2
   exact (H.obj k d b hk1 hk2).mono (List.prefix_append _ _) fun _ e => e
  ·have hk3 := (List.getElem?_eq_some_iff.mp hk1).1
   have : k = σ.length := by simp at hk3; lia
   subst this
   simp at hk1
   rw [← H.len] at hk2
   simp at hk2
   subst hk1; subst hk2; exact ho
 ·intro k d b hk1 hk2 hw
  by_cases hlt : k < σ.length
  ·rw [List.getElem?_append_left hlt] at hk1
   rw [List.getElem?_append_left (H.len ▸ hlt)] at hk2
   exact H.sepB k d b hk1 hk2 hw
  ·have hk3 := (List.getElem?_eq_some_iff.mp hk1).1
   have : k = σ.length := by simp at hk3; lia
   subst this
   rw [← H.len] at hk2
   simp at hk2
   subst hk2; exact hBa
 ·intro b hb p hp e
  rcases List.mem_append.mp hb with hb | hb
  ·exact H.sepF b hb p hp e
  ·simp at hb; subst hb; exact hFa p hp e
theorem HR.drop' {B : Heap} {F : List (Addr × Obj)} {ρ : Rho} {σ : Sto} {h h' : Heap} {D : Addr} {o : Obj} (H : HR B ((D, o) :: F) ρ σ h) (hF : ∀ p ∈ F, p.1 ≠ D) (hs : Heap.SameBut D h h') : HR B F ρ σ h' :=
 H.drop [D] (fun a ha => by simp at ha; subst ha; exact ⟨o, List.mem_cons_self ..⟩) (fun p hp => ⟨List.mem_cons_of_mem _ hp, by simp [hF p hp]⟩) (by have := H.fN; rw [List.map_cons, List.nodup_cons] at this; exact this.2) fun b x hb eb => hs.extBut b x (by simpa using hb) eb
section
variable {prog : Program} {w : World} {A : Around} {E : Value → Shared → Prop} {B : Heap} {K : Frag} {X : Ctx} {F : List (Addr × Obj)} {ρ : Rho} {σ σ' : Sto} {s : Shared} {sc : Scope} {env : Env} {ae : Loc} {d n : Nat}
 {f : Scope → Expr → Loc → Sto → XE} {g : Scope → Expr → Loc → Sto → (Bool → Sto → Prop) → Prop} {call : Addr → List AV → Sto → XE} {Q : Value → Shared → Prop} {KK : KE}
theorem const_ok {c : Const} {k : Nat} {pos : Pos} (h : wO (constA c) fun v => KK v σ) (H : HR B F ρ σ s.heap) (hQ : PE B F ρ s KK Q) : wpAny (model prog w) A (eval (.Constant c k pos) env) Q E s := by
 cases c with
 | none => exact PyProof.Rows.Constant_none (hQ.ret (v := .none) H rfl h)
 | bool b => exact PyProof.Rows.Constant_bool (hQ.ret (v := .bool b) H rfl h)
 | int i => exact wpAny_Constant_int (hQ.outs (v := .int i) h ρ _ _ (List.prefix_refl _) H ⟨_, rfl⟩ ⟨rfl, rfl⟩)
 | str x => exact wpAny_Constant_str (hQ.outs (v := .str x) h ρ _ _ (List.prefix_refl _) H ⟨_, rfl⟩ ⟨rfl, rfl⟩)
 | _ => exact h.elim
theorem bool_ok (hf : EvalOk prog w B X d n f) {pos : Pos} {op : BoolOp} : ∀ {es : List Expr} {ρ : Rho} {σ : Sto} {s : Shared}, boolA (f sc) op es ae σ KK → Rd B X d n A sc env F ae ρ σ s → PE B F ρ s KK Q → wpAny (model prog w) A (eval (.BoolOp op es pos) env) Q E s
 | [], _, _, _, h, _, _ => h.elim
 | [_], _, _, _, h, R, hQ => BoolOp_one (hf h R hQ)
 | _ :: e' :: es, _, _, _, h, R, hQ => by
  cases op with
  | And =>
   refine BoolOp_and (hf h R fun _ v _ _ _ g hu k => truth_ok (K := fun t σ => wIf t (boolA (f sc) .And (e' :: es) ae σ KK) (KK v σ)) k g.H hu fun _ c _ _ g2 k => ?_)
   cases c with
   | false => exact hQ _ _ _ _ _ (g.trans g2) (hu.mono g2.pre) (k.out.2 rfl)
   | true => exact bool_ok hf (k.out.1 rfl) (R.go (g.trans g2)) (hQ.after (g.trans g2))
  | Or =>
   refine BoolOp_or (hf h R fun _ v _ _ _ g hu k => truth_ok (K := fun t σ => wIf t (KK v σ) (boolA (f sc) .Or (e' :: es) ae σ KK)) k g.H hu fun _ c _ _ g2 k => ?_)
   cases c with
   | true => exact hQ _ _ _ _ _ (g.trans g2) (hu.mono g2.pre) (k.out.1 rfl)
   | false => exact bool_ok hf (k.out.2 rfl) (R.go (g.trans g2)) (hQ.after (g.trans g2))
theorem all_ok (hg : TestOk prog w B X d n g) {op : BoolOp} {Q : Bool → Shared → Prop} {KK : Bool → Sto → Prop} : ∀ {es : List Expr} {ρ : Rho} {σ : Sto} {s : Shared}, allA (g sc) op es ae σ KK → Rd B X d n A sc env F ae ρ σ s → PB B F ρ s KK Q → wpAny (model prog w) A (allTrue op es env) Q E s
 | [], _, _, _, h, R, hQ => by
  cases op with
  | And => exact wpAny_allTrue_And_nil (hQ.ret R.H h)
  | Or => exact wpAny_allTrue_Or_nil (hQ.ret R.H h)
 | _ :: _, _, _, _, h, R, hQ => by
  cases op with
  | And =>
   refine wpAny_allTrue_And_cons (hg h R fun _ c _ _ g k => ?_)
   cases c with
   | false => exact hQ _ _ _ _ g (k.out.2 rfl)
   | true => exact all_ok hg (k.out.1 rfl) (R.go g) (hQ.after g)
  | Or =>
   refine wpAny_allTrue_Or_cons (hg h R fun _ c _ _ g k => ?_)
   cases c with
   | true => exact hQ _ _ _ _ g (k.out.1 rfl)
   | false => exact all_ok hg (k.out.2 rfl) (R.go g) (hQ.after g)
theorem base_ok {o : Expr} {name : Str} {whole : Sem Value} (h : baseOk o = true) : attributeBase o name env whole = whole := by
 cases o with
 | Call f as ks p => cases f with
  | Name x q => cases as with
   | nil => cases ks with
    | nil => cases h
    | cons => rfl
   | cons => rfl
  | _ => rfl
 | _ => rfl
theorem subs_any {value ix : Expr} {pos : Pos} (hi : ∀ a b c p, ix ≠ .Slice a b c p)
  (h : wpAny (model prog w) A (eval value env) (fun o s₁ => wpAny (model prog w) A (eval ix env) (fun i s₂ => Gets s₂ o ∧ wpAny (model prog w) A (getItem o i) Q E s₂) E s₁) E s) :
  wpAny (model prog w) A (eval (.Subscript value ix pos) env) Q E s := by
 rw [eval_Subscript]
 refine wpAny_bind (wpAny_mono h (fun o s₁ h₁ => wpAny_bind (wpAny_holding (wpAny_mono h₁ (fun i s₂ h₂ => wpAny_bind (wpAny_standAt ?_)) fun _ _ x => x)))
  fun _ _ x => x)
 have fin : wpAny (model prog w) A (operate [o, i] (getItem o i)) (fun r s₃ => wpAny (model prog w) A (letTemporaryGo value o r >>= fun _ => pure r) Q E s₃) E s₂ :=
  wpAny_operating (wpAny_mono h₂.2 (fun r s₃ h₃ => wpAny_bind (wpAny_letTemporaryGo (wpAny_pure h₃))) fun _ _ x => x)
 refine wpAny_bind ?_
 obtain ⟨T, id, hl, hT⟩ := h₂.1
 rw [getitemInPython_of_ne hT.not_modules]
 refine wpAny_bind (wpAny_specialOf hT hl ?_)
 refine wpAny_pure (wpAny_bind ?_)
 have : subscripted ix false o i = operate [o, i] (getItem o i) := by
  cases ix with
  | Slice a b c p => exact absurd rfl (hi a b c p)
  | _ => rfl
 rw [this]
 exact fin
theorem subs_slice {value : Expr} {lower upper : Option Expr} {p pos : Pos}
  (h : wpAny (model prog w) A (eval value env) (fun o s₁ => wpAny (model prog w) A (eval (.Slice lower upper none p) env) (fun i s₂ => Gets s₂ o ∧ wpAny (model prog w) A (getItem o i) Q E s₂) E s₁) E s) :
  wpAny (model prog w) A (eval (.Subscript value (.Slice lower upper none p) pos) env) Q E s := by
 rw [eval_Subscript]
 refine wpAny_bind (wpAny_mono h (fun o s₁ h₁ => wpAny_bind (wpAny_holding (wpAny_mono h₁ (fun i s₂ h₂ => wpAny_bind (wpAny_standAt ?_)) fun _ _ x => x)))
  fun _ _ x => x)
 have fin : wpAny (model prog w) A (operate [i, o] (getItem o i)) (fun r s₃ => wpAny (model prog w) A (letTemporaryGo value o r >>= fun _ => pure r) Q E s₃) E s₂ :=
  wpAny_operating (wpAny_mono h₂.2 (fun r s₃ h₃ => wpAny_bind (wpAny_letTemporaryGo (wpAny_pure h₃))) fun _ _ x => x)
 refine wpAny_bind ?_
 obtain ⟨T, id, hl, hT⟩ := h₂.1
 rw [getitemInPython_of_ne hT.not_modules]
 refine wpAny_bind (wpAny_specialOf hT hl ?_)
 exact wpAny_pure (wpAny_bind fin)
theorem part_of {ρ : Rho} {n : Nat} {v : AV} {dflt r : Nat} {rv : Value} (e : boundA n v dflt = some r) (h : VR ρ v rv) : ∃ o : Option Int, IsPart rv o ∧ r = o.elim dflt (clipAt n) := by
 cases v with
 | none => cases e; cases h; exact ⟨none, .none, rfl⟩
 | int i => cases e; obtain ⟨t, rfl⟩ := h; exact ⟨some _, .int _ t, rfl⟩
 | _ => cases e
theorem slice_ok {a lo hi : AV} {ra rl rh : Value} (h : wSlice a lo hi σ KK) (H : HR B F ρ σ s.heap) (ha : VR ρ a ra) (hl : VR ρ lo rl) (hh : VR ρ hi rh) (hQ : PE B F ρ s KK Q) :
  Gets { s with heap := s.heap.push { cls := .type "slice", data := .fields #[rl, rh, .none] } } ra ∧
   wpAny (model prog w) A (getItem ra (.ref s.heap.objs.size)) Q E { s with heap := s.heap.push { cls := .type "slice", data := .fields #[rl, rh, .none] } } := by
 cases a with
 | ref k =>
  obtain ⟨_, xs, e1, h⟩ := wLst.out h
  obtain ⟨hz, h⟩ := h.out
  obtain ⟨l0, e2, h⟩ := wO.out h
  obtain ⟨h0, e4, h⟩ := wO.out h
  obtain ⟨l, vs, m, rfl, _, g, r⟩ := listAt H e1 ha
  have hlen : vs.size = _ := r.length
  obtain ⟨ol, pl, rfl⟩ := part_of e2 hl
  obtain ⟨oh, ph, rfl⟩ := part_of e4 hh
  have hL : s.heap.IsList l vs := ⟨_, g, rfl, m, rfl⟩
  refine ⟨⟨_, _, list_getitem_lookup, (hL.push _).typeIs⟩, wpAny_getItem_list_slice (hL.push _) (Heap.IsSliceOf.new ..) pl ph .none (by simp) ?_ (sizeLine_big (by lia))⟩
  rw [Heap.size_push]
  have H1 : HR B F ρ σ (s.heap.push { cls := .type "slice", data := .fields #[rl, rh, .none] }) := H.push _
  have := Outs.newList (s := { s with heap := s.heap.push { cls := .type "slice", data := .fields #[rl, rh, .none] } }) (Q := Q) H1 (vs := slicePick vs ol oh none)
   (xs := (xs.drop (ol.elim 0 (clipAt xs.length))).take (oh.elim xs.length (clipAt xs.length) - ol.elim 0 (clipAt xs.length))) ?_ (fun ρ' v s' hp Hn hv hs => hQ.outs h ρ' v s' hp Hn hv ⟨hs.gens, hs.os⟩)
  ·rwa [Heap.size_push] at this
  ·rw [slicePick_plain, hlen]
   simp only []
   exact (r.drop _).take _
 | _ => exact h.elim
theorem get_ok (XO : XOk B K X) {a : AV} {ra : Value} {name : Str} {ex : Bool} (h : wGet X a name σ fun v => KK v σ) (H : HR B F ρ σ s.heap) (hr : VR ρ a ra) (hQ : PE B F ρ s KK Q) : wpAny (model prog w) A (getAttr ra name ex) Q E s := by
 cases a with
 | ref k =>
  obtain ⟨⟨b, o⟩, e1, h⟩ := wAt.out h
  cases o with
  | inst C dd =>
   obtain ⟨⟨b2, o2⟩, e2, h⟩ := wAt.out h
   cases o2 with
   | ns es =>
    obtain ⟨ho, h⟩ := wB.out h
    obtain ⟨v, ev, h⟩ := wO.out h
    obtain ⟨hc, h⟩ := wB.out h
    exact getF_ok XO.cls XO.KB H e1 e2 ho ev hc hr fun u hu => hQ.outs h ρ _ _ (List.prefix_refl _) H hu ⟨rfl, rfl⟩
   | _ => exact h.elim
  | _ => exact h.elim
 | con c =>
  obtain rfl : c = _ := Eq.symm hr
  cases c with
  | ref C =>
   obtain ⟨v, e, h⟩ := wO.out h
   obtain ⟨mc, u, t1, t2, t3, t4⟩ := XO.cattr _ _ _ e
   exact cls_value (XO.KB.keeps H.base) t1 t2 t3 (hQ.outs h ρ _ { s with toks := s.toks + 1 } (List.prefix_refl _) H t4.lift ⟨rfl, rfl⟩)
  | _ => exact h.elim
 | _ => exact h.elim
theorem set_ok (XO : XOk B K X) {Q : Unit → Shared → Prop} {a v : AV} {ra rv : Value} {name : Str} {KK : Sto → Prop} (h : wSet X a name v σ KK) (H : HR B F ρ σ s.heap) (hr : VR ρ a ra) (hv : VR ρ v rv) (hQ : PU B F ρ s KK Q) : wpAny (model prog w) A (setAttr ra name rv) Q E s := by
 cases a with
 | ref k =>
  obtain ⟨⟨b, o⟩, e1, h⟩ := wAt.out h
  cases o with
  | inst C dd =>
   obtain ⟨⟨b2, o2⟩, e2, h⟩ := wAt.out h
   cases o2 with
   | ns es =>
    obtain ⟨hc, k⟩ := wB.out h
    rw [Bool.and_eq_true, Bool.and_eq_true] at hc
    obtain ⟨⟨hb, ho⟩, hz⟩ := hc
    obtain rfl : b2 = true := hb
    exact setF_ok XO.cls XO.KB H e1 e2 ho (Nat.le_of_ble_eq_true hz) hr hv (hQ.outs k)
   | _ => exact h.elim
  | _ => exact h.elim
 | _ => exact h.elim
theorem attr_open {value : Expr} {name : Str} {pos : Pos} (hb : baseOk value = true) (h : wpAny (model prog w) A (eval value env) (fun o s₁ => wpAny (model prog w) A (getAttr o name true) Q E s₁) E s) :
  wpAny (model prog w) A (eval (.Attribute value name pos) env) Q E s := by
 rw [arm_eval_Attribute, base_ok hb]
 exact wpAny_bind (wpAny_mono h (fun o s₁ h₁ => wpAny_bind (wpAny_standAt (wpAny_bind (wpAny_holding (wpAny_mono h₁ (fun r s₂ h₂ => wpAny_bind (wpAny_letTemporaryGo (wpAny_pure h₂))) fun _ _ x => x))))) fun _ _ x => x)
end
end
set_option tactic.hygienic false
section
open PySem.Spec
section
variable (prog : Program) (w : World) (B : Heap) (X : Ctx)
noncomputable def CmpOk (d n : Nat) (f : Scope → Expr → CmpOp → Expr → Loc → Sto → (Bool → Sto → Prop) → Prop) : Prop :=
 ∀ {A : Around} {E : Value → Shared → Prop} {F : List (Addr × Obj)} {ρ : Rho} {σ : Sto} {s : Shared} {Q : Value → Shared → Prop} {sc : Scope} {env : Env} {l r : Expr} {op : CmpOp} {ae : Loc} {K : Bool → Sto → Prop},
  f sc l op r ae σ K → Rd B X d n A sc env F ae ρ σ s → (∀ b ρ' σ' s', Go B F ρ s ρ' σ' s' → K b σ' → Q (.bool b) s') →
   wpAny (model prog w) A (eval l env) (fun u s₁ => wpAny (model prog w) A (markedBehindIn op r (eval r env)) (fun v s₂ => wpAny (model prog w) A (compareOp op u v) Q E s₂) E s₁) E s
noncomputable def PartOk (d n : Nat) (f : Scope → Option Expr → Loc → Sto → XE) : Prop :=
 ∀ {A : Around} {E : Value → Shared → Prop} {F : List (Addr × Obj)} {ρ : Rho} {σ : Sto} {s : Shared} {Q : Value → Shared → Prop} {sc : Scope} {env : Env} {e : Option Expr} {ae : Loc} {K : KE},
  f sc e ae σ K → Rd B X d n A sc env F ae ρ σ s → PE B F ρ s K Q → wpAny (model prog w) A (evalPart e env) Q E s
noncomputable def ListCompOk (d n : Nat) (call : Addr → List AV → Sto → XE) : Prop :=
 ∀ {A : Around} {E : Value → Shared → Prop} {F : List (Addr × Obj)} {ρ : Rho} {σ : Sto} {s : Shared} {Q : Value → Shared → Prop} {sc scope : Scope} {pos : Pos} {env : Env} {elt : Expr} {gs : List Comprehension} {ae : Loc} {K : KE},
  evalE X call (n + 1) sc (.ListComp elt gs scope pos) ae σ K → Rd B X d (n + 1) A sc env F ae ρ σ s → PE B F ρ s K Q → wpAny (model prog w) A (eval (.ListComp elt gs scope pos) env) Q E s
end
section
variable {prog : Program} {w : World} {A : Around} {E : Value → Shared → Prop} {B : Heap} {K : Frag} {X : Ctx} {F : List (Addr × Obj)} {ρ : Rho} {σ σ' : Sto} {s : Shared} {sc : Scope} {env : Env} {ae : Loc} {d n : Nat}
 {call : Addr → List AV → Sto → XE} {Q : Value → Shared → Prop} {KK : KE}
theorem part_step (he : EvalOk prog w B X d n (evalE X call n)) : PartOk prog w B X d (n + 1) (partE X call (n + 1)) := by
 intro A E F ρ σ s Q sc env e ae K h R hQ
 cases e with
 | none => exact wpAny_pure (hQ.ret (v := .none) R.H rfl h)
 | some e => exact he h R.le hQ
theorem listE_ok (he : EvalOk prog w B X d n (evalE X call n)) {es : List Expr} {pos : Pos} (h : wB (Nat.ble es.length 1000 && es.all notStar) (evalsA (evalE X call n sc) es ae σ fun vs σ => KK (.ref σ.length) (σ ++ [⟨true, .list vs⟩]))) (R : Rd B X d n A sc env F ae ρ σ s) (hQ : PE B F ρ s KK Q) :
  wpAny (model prog w) A (eval (.List es pos) env) Q E s := by
 obtain ⟨hc, h⟩ := wB.out h
 obtain ⟨hz, hp⟩ := Bool.and_eq_true_iff.mp hc
 exact wpAny_List (spliced_ok he (plain_of hp) h R fun _ vs rs _ _ g hv hl k => ⟨sizeLine_big (by have := Nat.le_of_ble_eq_true hz; lia -abstractProof), Outs.newList g.H (by simpa using hv) ((hQ.after g).outs k)⟩)
theorem subE_ok (he : EvalOk prog w B X d n (evalE X call n)) {v i : Expr} {pos : Pos} (hi : notSl i = true) (h : evalE X call n sc v ae σ fun a σ => evalE X call n sc i ae σ fun b σ => lItem a b σ fun u => KK u σ) (R : Rd B X d n A sc env F ae ρ σ s) (hQ : PE B F ρ s KK Q) :
  wpAny (model prog w) A (eval (.Subscript v i pos) env) Q E s :=
 subs_any (fun _ _ _ _ q => by subst q; cases hi) (he h R fun _ _ _ _ _ g1 ha h1 => he h1 (R.go g1) fun _ _ _ _ _ g2 hb h2 => item_ok h2.out g2.H (ha.mono g2.pre) hb (hQ.after (g1.trans g2)))
theorem sliceE_ok (he : EvalOk prog w B X d n (evalE X call n)) (hp : PartOk prog w B X d n (partE X call n)) {v : Expr} {lo hi : Option Expr} {p pos : Pos} (h : evalE X call n sc v ae σ fun a σ => partE X call n sc lo ae σ fun l σ => partE X call n sc hi ae σ fun h σ => lSlice a l h σ KK)
  (R : Rd B X d n A sc env F ae ρ σ s) (hQ : PE B F ρ s KK Q) : wpAny (model prog w) A (eval (.Subscript v (.Slice lo hi none p) pos) env) Q E s :=
 subs_slice (he h R fun _ _ _ _ _ g1 ha h1 => wpAny_Slice (hp h1 (R.go g1) fun _ _ _ _ _ g2 hl h2 => hp h2 ((R.go g1).go g2) fun _ _ _ _ _ g3 hh h3 => wpAny_pure (slice_ok h3.out g3.H (ha.mono (g2.pre.trans g3.pre)) (hl.mono g3.pre) hh (hQ.after ((g1.trans g2).trans g3)))))
theorem cmpE_ok (hc : CmpOk prog w B X d n (cmpE X call n)) {l r : Expr} {op : CmpOp} {pos : Pos} (h : cmpE X call n sc l op r ae σ fun b σ => KK (.bool b) σ) (R : Rd B X d n A sc env F ae ρ σ s) (hQ : PE B F ρ s KK Q) : wpAny (model prog w) A (eval (.Compare l [op] [r] pos) env) Q E s := by
 have := hc (E := E) h R fun b ρ' σ' s' g k => hQ ρ' (.bool b) _ σ' s' g rfl k
 rw [eval_Compare1]
 exact wpAny_bind (wpAny_mono this (fun a s₁ h₁ => wpAny_bind (wpAny_holding (wpAny_mono h₁ (fun b s₂ h₂ => wpAny_bind (wpAny_standAt (wpAny_operating h₂))) fun _ _ x => x))) fun _ _ x => x)
theorem methE_ok (XO : XOk B K X) (CO : CallOk prog w B X d call) (he : EvalOk prog w B X d n (evalE X call n)) {o : Expr} {name : Str} {apos pos : Pos} {args : List Expr} (h : wB (baseOk o && apos.endLine == pos.line && Nat.ble args.length 19 && args.all notStar) (evalE X call n sc o ae σ fun a σ =>
      lRes X a name σ (fun g first => wB (X.fn g).isSome <| evalsA (evalE X call n sc) args ae σ fun vs σ => lCall call g (first ++ vs) σ KK) fun k m => evalsA (evalE X call n sc) args ae σ fun vs σ => wMeth m k vs σ KK))
  (R : Rd B X d (n + 1) A sc env F ae ρ σ s) (hQ : PE B F ρ s KK Q) : wpAny (model prog w) A (eval (.Call (.Attribute o name apos) args [] pos) env) Q E s := by
 obtain ⟨hc, h⟩ := wB.out h
 rw [Bool.and_eq_true, Bool.and_eq_true, Bool.and_eq_true] at hc
 obtain ⟨⟨⟨hb, hline⟩, hlen⟩, hp⟩ := hc
 have hp := plain_of hp
 rw [arm_eval_Call, base_ok hb]
 refine wpAny_bind (he h R.le fun _ _ _ _ _ g1 ha h1 => wpAny_bind (wpAny_standAt (methodCall_open ?_ hline (method_ok XO CO he hp h1.out (R.go g1) ha (hQ.after g1)))))
 unfold methodCallForm
 have hq := plain_any (env := env) (pos := pos) hp
 rw [Bool.and_eq_true, Bool.and_eq_true]
 refine ⟨⟨?_, rfl⟩, ?_⟩
 ·rw [List.all_eq_true]
  intro x hx
  rw [List.any_eq_false] at hq
  simpa using hq x hx
 ·rw [show backToKw pos (keywordEach [] env) = [] from rfl]; have := Nat.le_of_ble_eq_true hlen; simp; lia -abstractProof
theorem callE_ok (XO : XOk B K X) (CO : CallOk prog w B X d call) (he : EvalOk prog w B X d n (evalE X call n)) {fn : Expr} {pos : Pos} {args : List Expr} (hev : eval (.Call fn args [] pos) env = (do callWith pos (← eval fn env) [] (backTo pos (starEach args env)) (backToKw pos (keywordEach [] env))))
  (h : wB (args.all notStar) (evalE X call n sc fn ae σ fun a σ => wB (calleeOk X a) <| evalsA (evalE X call n sc) args ae σ fun vs σ => wApply X call a vs σ KK)) (R : Rd B X d (n + 1) A sc env F ae ρ σ s) (hQ : PE B F ρ s KK Q) : wpAny (model prog w) A (eval (.Call fn args [] pos) env) Q E s := by
 obtain ⟨hp, h⟩ := wB.out h
 rw [hev]
 exact wpAny_bind (he h R.le fun _ _ _ _ _ g1 ha h1 => apply_ok XO CO he (plain_of hp) (wB.out h1).1 (wB.out h1).2 (R.go g1) ha (hQ.after g1))
theorem evalE_step (XO : XOk B K X) (CO : CallOk prog w B X d call) (he : EvalOk prog w B X d n (evalE X call n)) (hpt : PartOk prog w B X d n (partE X call n)) (ht : TestOk prog w B X d n (testE X call n)) (hc : CmpOk prog w B X d n (cmpE X call n)) (hl : ListCompOk prog w B X d n call) :
  EvalOk prog w B X d (n + 1) (evalE X call (n + 1)) := by
 intro A E F ρ σ s Q sc env e ae K h R hQ
 cases e with
 | Constant c k pos => exact const_ok h R.H hQ
 | Name x pos => obtain ⟨v, e, k⟩ := wO.out h; exact name_ok e R.S R.P R.H fun rv hv => hQ.ret R.H hv k
 | BoolOp op vs pos => exact bool_ok he h R.le hQ
 | BinOp l op r pos => exact wpAny_BinOp (he h R.le fun _ _ _ _ _ g1 ha h1 => he h1 (R.le.go g1) fun _ _ _ _ _ g2 hb h2 => bin_ok h2 g2.H (ha.mono g2.pre) hb (hQ.after (g1.trans g2)))
 | UnaryOp op x pos => exact UnaryOp_ (he h R.le fun _ _ _ _ _ g1 ha h1 => un_ok h1 g1.H ha (hQ.after g1))
 | IfExp t b o pos =>
  exact IfExp_ (ht h R.le fun _ c _ _ g1 h1 => by
   cases c with
   | true => exact he (h1.out.1 rfl) (R.le.go g1) (hQ.after g1)
   | false => exact he (h1.out.2 rfl) (R.le.go g1) (hQ.after g1))
 | List es pos => exact listE_ok he h R.le hQ
 | ListComp elt gs scope pos => exact hl h R hQ
 | Compare l ops rs pos => cases ops with
  | cons op ops => cases ops with
   | nil => cases rs with
    | cons r rs => cases rs with
     | nil => exact cmpE_ok hc h R.le hQ
     | cons => exact h.elim
    | nil => exact h.elim
   | cons => exact h.elim
  | nil => exact h.elim
 | Attribute o name pos => obtain ⟨hb, h⟩ := wB.out h; exact attr_open hb (he h R.le fun _ _ _ _ _ g1 ha h1 => get_ok XO h1.out g1.H ha (hQ.after g1))
 | Subscript v ix pos => cases ix with
  | Slice lo hi st p => cases st with
   | none => exact sliceE_ok he hpt h R.le hQ
   | some _ => exact h.elim
  | _ => exact subE_ok he rfl h R.le hQ
 | Call fn args ks pos => cases ks with
  | cons k ks => exact h.elim
  | nil => cases fn with
   | Attribute o name apos => exact methE_ok XO CO he h R hQ
   | _ => exact callE_ok XO CO he rfl h R hQ
 | _ => exact h.elim
end
end
set_option tactic.hygienic true
section
open PySem.Spec
section
variable {prog : Program} {w : World} {A : Around} {E : Value → Shared → Prop} {B : Heap} {K : Frag} {X : Ctx} {F : List (Addr × Obj)} {ρ : Rho} {σ σ' : Sto} {s : Shared} {sc : Scope} {env : Env} {ae : Loc} {d n : Nat}
 {call : Addr → List AV → Sto → XE} {Q : Value → Shared → Prop} {KK : KE}
structure Kp (s s' : Shared) : Prop where
 heap : ∀ b o, s.heap.get? b = some o → s'.heap.get? b = some o
 same : Same s s'
theorem constInts_cons {e : Expr} {es : List Expr} {ns : List Int} (h : constIntsA (e :: es) = some ns) : ∃ i k p ms, e = .Constant (.int i) k p ∧ constIntsA es = some ms ∧ ns = i :: ms := by
 cases e <;> try exact no_so h
 rename_i c k pos
 cases c <;> try exact no_so h
 obtain ⟨ms, hm, rfl⟩ := Option.map_eq_some_iff.mp h
 exact ⟨_, _, _, ms, rfl, hm, rfl⟩
theorem consts_all : ∀ {es : List Expr} {ns : List Int} {s : Shared} {Q : List Value → Shared → Prop}, constIntsA es = some ns → (∀ vs tk, IntsAre vs ns → Q vs { s with toks := tk }) → KdsAll (model prog w) A E env es Q s
 | [], _, s, _, h, hQ => by cases h; exact hQ [] s.toks .nil
 | _ :: _, _, _, _, h, hQ => by
  obtain ⟨i, _, _, ms, rfl, hm, rfl⟩ := constInts_cons h
  exact wpAny_Constant_int (consts_all hm fun vs tk hv => hQ _ _ (.cons i _ hv))
theorem set_fill {D : Addr} {s₀ : Shared} : ∀ {vs : List Value} {ns : List Int} {s : Shared} {S : Int → Bool} {m : Nat} {Q : Value → Shared → Prop}, IntsAre vs ns → s.heap.SetOf (intKind prog w) D S m → m + vs.length < scanBound → Kp s₀ s → s₀.heap.get? D = none →
  (∀ s' m', s'.heap.SetOf (intKind prog w) D (fun x => S x || ns.contains x) m' → m' < scanBound → Kp s₀ s' → Q (.ref D) s') → KdsFill (model prog w) A E false D Q vs s := by
 intro vs
 induction vs with
 | nil =>
  intro ns s S m Q hi hS hm hk hD hQ
  cases hi
  refine kds_fill_nil rfl (hQ s m ?_ (by simpa using hm) hk)
  simpa using hS
 | cons v vs ih =>
  intro ns s S m Q hi hS hm hk hD hQ
  cases hi with
  | cons i t hi =>
   rename_i ns
   refine kds_fill_cons ?_
   unfold setAdd
   refine wpAny_holding (wpAny_bind ((intKind prog w).pyHash (intKind_is prog w i t) ?_))
   refine wpAny_setAddHashed_of (knd := intKind prog w) (k := i) (intKind_is prog w i t) rfl hS (by simp at hm; lia -abstractProof) fun h' hsb hS' => ?_
   refine ih hi hS' (by simp at hm; split <;> lia -abstractProof) ⟨fun b o hb => hsb.extBut b o (by rintro rfl; rw [hD] at hb; cases hb) (hk.heap b o hb), ⟨hk.same.gens, hk.same.os⟩⟩ hD fun s' m' h1 h2 h3 => hQ s' m' ?_ h2 h3
   have : (fun x => (S x || decide (x = i)) || ns.contains x) = fun x => S x || (i :: ns).contains x := by
    funext x
    rw [List.contains_cons, Bool.or_assoc]; rfl
   rw [this] at h1; exact h1
theorem set_unled {D : Addr} {S : Int → Bool} {m : Nat} {s₀ : Shared} {Q : Unit → Shared → Prop} (hS : s.heap.SetOf (intKind prog w) D S m) (hm : m < scanBound) (hk : Kp s₀ s) (hD : s₀.heap.get? D = none)
  (h : ∀ s', s'.heap.SetOf (intKind prog w) D S m → Kp s₀ s' → Q () s') : wpAny (model prog w) A (setUnled D) Q E s := by
 obtain ⟨o, es, ep, t, ho, hex, hd, hel, hmem, hb, hf, hn⟩ := hS
 have hf' : ({ t with led := false } : SetTable).fits es.size = true := by cases t; exact hf
 unfold setUnled
 refine wpAny_bind (wpAny_setState_of ho hd hf ?_)
 dsimp only
 refine wpAny_storeSet_of ho hd ?_ (fits_of_scanBound hb)
 obtain ⟨_, hS'⟩ := SetOf_store (knd := intKind prog w) ho hex hd hel hmem hb hf'
 rw [hn] at hS'
 refine h _ hS' ⟨fun b x hb' => ?_, ⟨hk.same.gens, hk.same.os⟩⟩
 exact (Heap.SameBut.update s.heap D _).extBut b x (by rintro rfl; rw [hD] at hb'; cases hb') (hk.heap b x hb')
theorem inMain_ok {Q : Bool → Shared → Prop} (P : FP B F ρ X env ae) (H : HR B F ρ σ s.heap) (h : ∀ b, Q b s) : wpAny (model prog w) A (inMainModule env) Q E s := by
 obtain ⟨q, c, o, vs, t, e, ho, hd, _⟩ := P.code
 unfold inMainModule
 try dsimp only
 rw [e]
 split
 ·exact wpAny_pure (h _)
 ·refine wpAny_bind (wpAny_fieldsOf (H.base _ _ ho) hd ?_)
  generalize vs.getD 18 .none = z
  clear P H ho hd e
  cases z with
  | str x t => exact wpAny_bind (wpAny_askSetting (wpAny_pure (h _)))
  | _ => exact wpAny_pure (h _)
theorem consts_plain : ∀ {es : List Expr} {ns : List Int}, constIntsA es = some ns → es.all kdsPlain = true ∧ es.all (constantsAlone 8) = true ∧ ns.length = es.length
 | [], _, h => by cases h; exact ⟨rfl, rfl, rfl⟩
 | _ :: _, _, h => by
  obtain ⟨_, _, _, ms, rfl, hm, rfl⟩ := constInts_cons h
  obtain ⟨h1, h2, h3⟩ := consts_plain hm
  exact ⟨(Bool.true_and _).trans h1, (Bool.true_and _).trans h2, congrArg (· + 1) h3⟩
theorem inSet_ok {es : List Expr} {p : Pos} {ns : List Int} {x : Int} {t : Tok} (hc : constIntsA es = some ns) (hl : es.length ≤ 2) (P : FP B F ρ X env ae) (H : HR B F ρ σ s.heap) (hQ : ∀ s', Go B F ρ s ρ σ s' → Q (.bool (ns.contains x)) s') :
  wpAny (model prog w) A (markedBehindIn .In (.Set es 0 p) (eval (.Set es 0 p) env)) (fun v s₂ => wpAny (model prog w) A (compareOp .In (.int x t) v) Q E s₂) E s := by
 obtain ⟨c1, c2, c3⟩ := consts_plain hc
 have hm : behindInMarks .In (.Set es 0 p) = true := by
  show ((0 : Nat) == 0 && (CmpOp.In == CmpOp.In || CmpOp.In == CmpOp.NotIn) && es.all (constantsAlone 8)) = true
  rw [c2]; rfl
 unfold markedBehindIn
 rw [hm]
 dsimp only
 rw [arm_eval_Set]
 refine wpAny_bind (wpAny_bind (wpAny_standAt (wpAny_bind (inMain_ok P H fun b => ?_))))
 have hroad : (displayRoad 0 es) = .oneByOne := by unfold displayRoad; rw [if_neg (by decide), if_pos hl]
 rw [hroad, kds_star es c1, List.map_map]
 have hD : s.heap.get? s.heap.objs.size = none := Heap.get?_none_of_le (Nat.le_refl _)
 refine kds_core (ts := (evalEach es env).map fun t => do let v ← t; standAt p; pure v) rfl ?_ ?_ ?_ fun led => ?_
 ·refine List.findIdx?_eq_none_iff.mpr fun x hx => ?_
  obtain ⟨t, _, rfl⟩ := List.mem_map.mp hx
  rfl
 ·rw [List.length_map, kds_len]; lia -abstractProof
 ·rw [List.map_map]; try rfl
 ·refine kds_all p es _ _ (consts_all hc fun vs tk hv => ?_)
  have hlen := hv.length
  refine set_fill (D := s.heap.objs.size) (s₀ := s) (S := fun _ => false) (m := 0) hv ?_ ?_ ⟨fun b o hb => Heap.get?_push_of_some _ hb, ⟨rfl, rfl⟩⟩ hD fun s' m' hS hm' hk => ?_
  ·exact (setObjOf_fresh (knd := intKind prog w) led).setOf (Heap.get?_push_size _ rfl) (by unfold scanBound; lia -abstractProof)
  ·unfold scanBound; lia -abstractProof
  ·dsimp only
   refine wpAny_bind (set_unled hS hm' hk hD fun s'' hS' hk' => wpAny_pure ?_)
   refine wpAny_inSet_of (knd := intKind prog w) (k := x) (intKind_is prog w x t) rfl hS' ?_
   rw [Bool.false_or]
   exact hQ { s'' with toks := s''.toks + 1 } ⟨List.prefix_refl _, H.keeps hk'.heap, hk'.same.gens, hk'.same.os⟩
theorem cmpE_step (he : EvalOk prog w B X d n (evalE X call n)) : CmpOk prog w B X d (n + 1) (cmpE X call (n + 1)) := by
 intro A E F ρ σ s Q sc env l r op ae K h R hQ
 have plain : behindInMarks op r = false → (evalE X call n sc l ae σ fun a σ => evalE X call n sc r ae σ fun b σ => wCmp op a b σ fun c => K c σ) →
   wpAny (model prog w) A (eval l env) (fun u s₁ => wpAny (model prog w) A (markedBehindIn op r (eval r env)) (fun v s₂ => wpAny (model prog w) A (compareOp op u v) Q E s₂) E s₁) E s := fun hm h => by
  rw [markedBehindIn_of_false hm]
  exact he h R.le fun _ _ _ _ _ g1 ha h1 => he h1 (R.le.go g1) fun _ _ _ _ _ g2 hb h2 => cmp_ok h2 R.A.ok g2.H (ha.mono g2.pre) hb fun b _ _ _ g3 k => hQ b _ _ _ ((g1.trans g2).trans g3) k
 cases r with
 | Set es k p =>
  obtain ⟨hc, h2⟩ := wB.out h
  clear h
  rw [Bool.and_eq_true, Bool.and_eq_true] at hc
  obtain ⟨⟨hk, hl⟩, ho⟩ := hc
  obtain rfl := beq_iff_eq.mp hk
  cases op with
  | In =>
   refine he h2 R.le fun _ a ra _ _ g1 ha h1 => ?_
   cases a with
   | int x =>
    obtain ⟨t, rfl⟩ := ha
    obtain ⟨ns, hn, h1⟩ := wO.out h1
    exact inSet_ok hn (Nat.le_of_ble_eq_true hl) (R.P.mono g1.pre) g1.H fun s' g2 => hQ _ _ _ _ (g1.trans g2) h1
   | _ => exact h1.elim
  | _ => cases ho
 | _ => exact plain rfl h
theorem testE_step (he : EvalOk prog w B X d n (evalE X call n)) (ht : TestOk prog w B X d n (testE X call n)) (hc : CmpOk prog w B X d n (cmpE X call n)) : TestOk prog w B X d (n + 1) (testE X call (n + 1)) := by
 intro A E F ρ σ s Q sc env e ae K h R hQ
 have plain : isTrue e env (eval e env) = (do let v ← eval e env; standAt e.pos; holding [v] (truthy v)) → (evalE X call n sc e ae σ fun v σ => wTruth σ v fun b => K b σ) → wpAny (model prog w) A (isTrue e env (eval e env)) Q E s :=
  fun h0 h => isTrue_plain (he h R.le fun _ _ _ _ _ g1 ha h1 => truth_ok h1 g1.H ha (hQ.after g1)) h0
 cases e with
 | UnaryOp op x p => cases op with
  | Not => exact isTrue_not (ht h R.le fun _ b _ _ g k => hQ _ (!b) _ _ g k)
  | _ => exact plain rfl h
 | BoolOp op vs p => exact wpAny_isTrue_BoolOp (all_ok ht h R.le hQ)
 | IfExp => exact h.elim
 | Compare l ops rs p => cases ops with
  | cons op ops => cases ops with
   | nil => cases rs with
    | cons r rs => cases rs with
     | nil =>
      have := hc (E := E) (Q := fun c s₃ => wpAny (model prog w) A (truthy c) Q E s₃) h R.le fun b _ _ _ g k => wpAny_truthy_bool (hQ _ _ _ _ g k)
      rw [isTrue_Compare1]
      exact wpAny_bind (wpAny_mono this (fun a s₁ h₁ => wpAny_bind (wpAny_holding (wpAny_mono h₁ (fun b s₂ h₂ => wpAny_bind (wpAny_standAt (wpAny_bind (wpAny_operating (wpAny_mono h₂ (fun c s₃ h₃ => wpAny_holding h₃) fun _ _ x => x))))) fun _ _ x => x))) fun _ _ x => x)
     | cons => exact h.elim
    | nil => exact h.elim
   | cons => exact h.elim
  | nil => exact h.elim
 | _ => exact plain rfl h
end
end
section
open PySem.Spec
theorem HR.step {B : Heap} {F F' : List (Addr × Obj)} {ρ : Rho} {σ : Sto} {h h' : Heap} (H : HR B F ρ σ h) (D : List Addr) (hD : ∀ a ∈ D, ∃ o, (a, o) ∈ F) (hs : ∀ b o, b ∉ D → h.get? b = some o → h'.get? b = some o)
  (hF' : F'.map (·.1) = F.map (·.1)) (hF : ∀ p ∈ F', h'.get? p.1 = some p.2) : HR B F' ρ σ h' := by
 have notB : ∀ b o, B.get? b = some o → b ∉ D := fun b o e hm => by obtain ⟨x, hx⟩ := hD b hm; have := H.fB _ hx; rw [show ((b, x) : Addr × Obj).1 = b from rfl, e] at this; cases this
 have notR : ∀ a ∈ ρ, a ∉ D := fun a ha hm => by obtain ⟨x, hx⟩ := hD a hm; exact H.sepF a ha _ hx rfl
 have back : ∀ p ∈ F', ∃ q ∈ F, q.1 = p.1 := fun p hp => by
  have : p.1 ∈ F.map (·.1) := hF' ▸ List.mem_map_of_mem hp
  obtain ⟨q, hq, e⟩ := List.mem_map.mp this
  exact ⟨q, hq, e⟩
 refine ⟨fun b o e => hs b o (notB b o e) (H.base b o e), hF, fun p hp => ?_, hF' ▸ H.fN, H.len, H.nd, fun k c a e e' => ?_, H.sepB, fun a ha p hp => ?_⟩
 ·obtain ⟨q, hq, e⟩ := back p hp
  rw [← e]; exact H.fB q hq
 ·have ha := notR a (List.mem_of_getElem? e')
  exact (H.obj k c a e e').mono (List.prefix_refl _) fun x => hs a x ha
 ·obtain ⟨q, hq, e⟩ := back p hp
  rw [← e]; exact H.sepF a ha q hq
noncomputable def ListIt (l : Addr) (i : Nat) (o : Obj) : Prop := o.cls = .type "list_iterator" ∧ o.data = .fields #[.ref l, .int i 0]
noncomputable def ItR (F : List (Addr × Obj)) (ρ : Rho) (I J : Addr) : It → Prop
 | .list k i => J = I ∧ ∃ l o, ρ[k]? = some l ∧ (I, o) ∈ F ∧ ListIt l i o
 | .rng x n st => J = I ∧ (I, { cls := .type "range_iterator", dict := none, data := .fields #[rawInt x, rawInt n, rawInt st], slots := #[] }) ∈ F
 | .enum k i => J ≠ I ∧ ∃ l o old, ρ[k]? = some l ∧ (J, o) ∈ F ∧ ListIt l i o ∧ (I, { cls := .type "enumerate", dict := none, data := .fields #[.none, .bool false, .ref J, rawInt i, .none, old], slots := #[] }) ∈ F
theorem ItR.mono {F : List (Addr × Obj)} {ρ ρ' : Rho} {I J : Addr} (hp : ρ <+: ρ') : ∀ {it : It}, ItR F ρ I J it → ItR F ρ' I J it
 | .list .., ⟨j, l, o, a, b, c⟩ => ⟨j, l, o, get_prefix hp a, b, c⟩
 | .rng .., h => h
 | .enum .., ⟨j, l, o, old, a, b⟩ => ⟨j, l, o, old, get_prefix hp a, b⟩
theorem ItR.at {F : List (Addr × Obj)} {ρ : Rho} {I J : Addr} {it : It} (h : ItR F ρ I J it) : ∀ a ∈ [I, J], ∃ o, (a, o) ∈ F := by
 cases it with
 | list k i => obtain ⟨rfl, l, o, _, b, _⟩ := h; intro a ha; simp at ha; subst ha; exact ⟨_, b⟩
 | rng x n st => obtain ⟨rfl, b⟩ := h; intro a ha; simp at ha; subst ha; exact ⟨_, b⟩
 | enum k i => obtain ⟨_, l, o, old, _, b, _, c⟩ := h; intro a ha; simp at ha; rcases ha with rfl | rfl; exact ⟨_, c⟩; exact ⟨_, b⟩
theorem ItR.of_mem {F F' : List (Addr × Obj)} {ρ : Rho} {I J : Addr} {it : It} (hF : ∀ p ∈ F, p.1 ∈ [I, J] → p ∈ F') (h : ItR F ρ I J it) : ItR F' ρ I J it := by
 cases it with
 | list k i => obtain ⟨rfl, l, o, a, b, c⟩ := h; exact ⟨rfl, l, o, a, hF _ b (by simp), c⟩
 | rng x n st => obtain ⟨rfl, b⟩ := h; exact ⟨rfl, hF _ b (by simp)⟩
 | enum k i => obtain ⟨j, l, o, old, a, b, c, d⟩ := h; exact ⟨j, l, o, old, a, hF _ b (by simp), c, hF _ d (by simp)⟩
section
variable {prog : Program} {w : World} {A : Around} {E : Value → Shared → Prop} {B : Heap} {F : List (Addr × Obj)} {ρ : Rho} {σ σ' : Sto} {s : Shared}
theorem HR.size_le {h h' : Heap} (hk : ∀ b o, h.get? b = some o → h'.get? b = some o) {o : Obj} (e : h'.get? h.objs.size = some o) : h.objs.size < h'.objs.size := Heap.lt_size e
theorem iter_ok {Q : Value → Shared → Prop} {a : AV} {ra : Value} {K : It → Prop} (h : wIter a σ K) (H : HR B F ρ σ s.heap) (hr : VR ρ a ra)
  (hQ : ∀ it o s', K it → (∀ k i, it ≠ .enum k i) → HR B ((s.heap.objs.size, o) :: F) ρ σ s'.heap → ItR ((s.heap.objs.size, o) :: F) ρ s.heap.objs.size s.heap.objs.size it → Same s s' → Q (.ref s.heap.objs.size) s') : wpAny (model prog w) A (pyIter ra) Q E s := by
 cases a with
 | ref k =>
  obtain ⟨⟨b, o⟩, e1, h⟩ := wAt.out h
  cases o with
  | list xs =>
   obtain ⟨l, vs, n, rfl, ea, g, r⟩ := listAt H e1 hr
   refine wpAny_pyIter_list ⟨_, g, rfl, n, rfl⟩ (hQ _ { cls := .type "list_iterator", data := .fields #[.ref l, .int 0 0] } _ h (fun _ _ q => by cases q) ?_ ⟨rfl, l, _, ea, List.mem_cons_self .., rfl, rfl⟩ ⟨rfl, rfl⟩)
   exact H.pushF (fun _ _ e => Heap.get?_push_of_some _ e) (Nat.le_refl _) (Heap.get?_push_size _ rfl)
  | range lo hi st =>
   obtain ⟨a1, ea, rfl⟩ := hr
   obtain ⟨t, u, v, g⟩ := H.obj _ _ a1 e1 ea
   have hn : rawInt (Builtin.Range.rangeSize lo hi st) = rawInt ((rangeN lo hi st : Nat) : Int) := by unfold rangeN; rw [Int.toNat_of_nonneg (rangeSize_nonneg _ _ _)]
   refine wpAny_pyIter_range g h.out.1 (hQ _ { cls := .type "range_iterator", data := .fields #[rawInt lo, rawInt (Builtin.Range.rangeSize lo hi st), rawInt st] } _ h.out.2 (fun _ _ q => by cases q) ?_ ⟨rfl, by rw [hn]; exact List.mem_cons_self ..⟩ ⟨rfl, rfl⟩)
   exact H.pushF (fun _ _ e => Heap.get?_push_of_some _ e) (Nat.le_refl _) (Heap.get?_push_size _ rfl)
  | _ => exact h.elim
 | _ => exact h.elim
theorem go_none {target : Expr} {I : Addr} {v : Value} {o : Obj} {T : String} {Q : Unit → Shared → Prop} (ho : s.heap.get? I = some o) (hc : o.cls = .type T)
  (hT : ["enumerate", "zip", "dict_itemiterator", "dict_reverseitemiterator", "odict_iterator", "itertools.zip_longest", "itertools.pairwise"].contains T = false) (h : Q () s) :
  wpAny (model prog w) A (letOwnedTupleGo target (.ref I) v) Q E s := by
 have main : ∀ a : Addr, wpAny (model prog w) A (do
   let o ← load I
   match o.cls, o.data with
   | .type n, .fields vs =>
    if ["enumerate", "zip", "dict_itemiterator", "dict_reverseitemiterator", "odict_iterator", "itertools.zip_longest", "itertools.pairwise"].contains n && vs[0]? == some (rawInt a) then
     rule "for.unpacks-the-owned-tuple"
     updateField I 0 .none
   | _, _ => pure ()) Q E s := by
  intro a
  refine wpAny_bind (wpAny_load ho ?_)
  rw [hc]
  generalize o.data = x
  clear ho hc
  cases x with
  | fields vs =>
   dsimp only
   rw [hT, Bool.false_and, if_neg Bool.false_ne_true]
   exact wpAny_pure h
  | _ => exact wpAny_pure h
 have main2 : wpAny (model prog w) A (letOwnedTupleGo (.Tuple [] 0 ⟨0, 0, 0, 0⟩) (.ref I) v) Q E s := by
  cases v with
  | ref a => exact main a
  | _ => exact wpAny_pure h
 clear main hc hT ho
 cases target with
 | Tuple => exact main2
 | List => exact main2
 | _ => exact wpAny_pure h
theorem turn_one {I : Addr} {o : Obj} {F : List (Addr × Obj)} {J : Addr} : Turned [I, J] F (HR.turnF I o F) :=
 ⟨HR.turnF_fst _ _ _, fun p hp hn => HR.turnF_mem hp fun q => hn (by simp [q])⟩
variable (prog w) in
noncomputable def NextTo (A : Around) (E : Value → Shared → Prop) (target : Expr) (I : Addr) (N : Shared → Prop) (G : Value → Shared → Prop) (r : Option Value) (s₁ : Shared) : Prop := match r with
 | none => N s₁
 | some v => wpAny (model prog w) A (letOwnedTupleGo target (.ref I) v) (fun _ s₂ => G v s₂) E s₁
noncomputable def OnNext (B : Heap) (F : List (Addr × Obj)) (ρ : Rho) (s : Shared) (I J : Addr) (K : AV → It → Sto → Prop) (G : Value → Shared → Prop) : Prop :=
 ∀ v it' σ' ρ' rv s' F', K v it' σ' → ρ <+: ρ' → Turned [I, J] F F' → HR B F' ρ' σ' s'.heap → ItR F' ρ' I J it' → VR ρ' v rv → Same s s' → G rv s'
theorem next_list {target : Expr} {k i : Nat} {I J : Addr} {N : Shared → Prop} {G : Value → Shared → Prop} {done : Prop} {K : AV → It → Sto → Prop} (h : wNext (.list k i) σ done K) (hA : AOk 0 A) (H : HR B F ρ σ s.heap) (hI : ItR F ρ I J (.list k i))
  (hnone : done → ∀ s', (∀ b o, b ∉ [I, J] → s.heap.get? b = some o → s'.heap.get? b = some o) → Same s s' → N s') (hsome : OnNext B F ρ s I J K G) :
  wpAny (model prog w) A (pyNext (.ref I)) (NextTo prog w A E target I N G) E s := by
 obtain ⟨_, xs, e1, h⟩ := wLst.out h
 obtain ⟨rfl, l, o, a, b, hc, hd⟩ := hI
 obtain ⟨vs, n, g, rr⟩ := H.obj _ _ l e1 a
 have hit : s.heap.IsListIter J l i := ⟨o, H.fr _ b, hc, hd⟩
 have hl : s.heap.IsList l vs := ⟨_, g, rfl, n, rfl⟩
 cases hx : xs[i]? with
 | some x =>
  rw [hx] at h
  obtain ⟨v, hv, hvr⟩ := rr.get hx
  refine wpAny_pyNext_list_item hit hl (by rw [← Array.getElem?_toList]; exact hv) fun h' hit' hs' => ?_
  obtain ⟨o', ho', hc', hd'⟩ := hit'
  refine go_none (T := "list_iterator") ho' hc' (by decide) ?_
  exact hsome _ _ _ ρ v _ _ h (List.prefix_refl _) turn_one (H.turn b (fun b x hb eb => (hs'.2 b hb).trans eb) ho') ⟨rfl, l, o', a, HR.turnF_self b, hc', hd'⟩ hvr ⟨rfl, rfl⟩
 | none =>
  rw [hx] at h
  refine wpAny_pyNext_list_end hA.hd hit hl (by
   rw [← Array.getElem?_toList, List.getElem?_eq_none_iff, rr.length]; exact List.getElem?_eq_none_iff.mp hx) fun h' hs' => ?_
  exact hnone h _ (fun b x hb eb => hs' b x (fun q => hb (by rw [q]; exact List.mem_cons_self ..)) eb) ⟨rfl, rfl⟩
theorem next_rng {target : Expr} {x st : Int} {n : Nat} {I J : Addr} {N : Shared → Prop} {G : Value → Shared → Prop} {done : Prop} {K : AV → It → Sto → Prop} (h : wNext (.rng x n st) σ done K) (hA : AOk 0 A) (H : HR B F ρ σ s.heap) (hI : ItR F ρ I J (.rng x n st))
  (hnone : done → ∀ s', (∀ b o, b ∉ [I, J] → s.heap.get? b = some o → s'.heap.get? b = some o) → Same s s' → N s') (hsome : OnNext B F ρ s I J K G) :
  wpAny (model prog w) A (pyNext (.ref I)) (NextTo prog w A E target I N G) E s := by
 obtain ⟨rfl, b⟩ := hI
 cases n with
 | zero =>
  refine wpAny_pyNext_range_end hA.hd (H.fr _ b) (by simp) fun h' hs' => ?_
  exact hnone h _ (fun b x hb eb => hs' b x (fun q => hb (by rw [q]; exact List.mem_cons_self ..)) eb) ⟨rfl, rfl⟩
 | succ n =>
  refine wpAny_pyNext_range_item (H.fr _ b) (by lia -abstractProof) fun h' hit' hs' => ?_
  have hn : ((n + 1 : Nat) : Int) - 1 = (n : Nat) := by lia -abstractProof
  rw [hn] at hit'
  refine go_none (T := "range_iterator") hit' rfl (by decide) ?_
  exact hsome _ _ _ ρ _ _ _ h (List.prefix_refl _) turn_one (H.turn b (fun b x hb eb => (hs'.2 b hb).trans eb) hit') ⟨rfl, HR.turnF_self b⟩ ⟨_, rfl⟩ ⟨rfl, rfl⟩
theorem next_enum {es : List Expr} {x1 : Nat} {p1 : Pos} {k i : Nat} {I J : Addr} {N : Shared → Prop} {G : Value → Shared → Prop} {done : Prop} {K : AV → It → Sto → Prop} (h : wNext (.enum k i) σ done K) (hA : AOk 0 A) (H : HR B F ρ σ s.heap) (hI : ItR F ρ I J (.enum k i))
  (hnone : done → ∀ s', (∀ b o, b ∉ [I, J] → s.heap.get? b = some o → s'.heap.get? b = some o) → Same s s' → N s') (hsome : OnNext B F ρ s I J K G) :
  wpAny (model prog w) A (pyNext (.ref I)) (NextTo prog w A E (.Tuple es x1 p1) I N G) E s := by
 obtain ⟨_, xs, e1, h⟩ := wLst.out h
 obtain ⟨hJI, l, o, old, a, b, ⟨hc, hd⟩, bI⟩ := hI
 obtain ⟨vs, n, g, rr⟩ := H.obj _ _ l e1 a
 have hit : s.heap.IsListIter J l i := ⟨o, H.fr _ b, hc, hd⟩
 have hl : s.heap.IsList l vs := ⟨_, g, rfl, n, rfl⟩
 have he : IsEnum s.heap I J i old := H.fr _ bI
 cases hx : xs[i]? with
 | some x =>
  rw [hx] at h
  obtain ⟨v, hv, hvr⟩ := rr.get hx
  refine wpAny_pyNext_enum_item he hit hl (by rw [← Array.getElem?_toList]; exact hv) (Ne.symm hJI) fun h' he' hit' ht' hz' hs' => ?_
  refine wpAny_letOwnedTupleGo_enum he' fun h'' he'' hs'' => ?_
  obtain ⟨o', ho', hc', hd'⟩ := hit'
  have hT : s.heap.objs.size ≠ I := Nat.ne_of_gt (Heap.lt_size he)
  have keep2 : ∀ b x, b ≠ I → b ≠ J → s.heap.get? b = some x → h''.get? b = some x := fun b x h1 h2 eb => hs''.extBut b x h1 (hs' b x h1 h2 eb)
  have hne : ∀ p ∈ F, p.1 ≠ s.heap.objs.size := fun p hp => Nat.ne_of_lt (Heap.lt_size (H.fr p hp))
  let oI : Obj := { cls := .type "enumerate", dict := none, data := .fields #[.none, .bool false, .ref J, rawInt ((i : Int) + 1), .none, v], slots := #[] }
  let F' := HR.turnF J o' (HR.turnF I oI F)
  have hF' : F'.map (·.1) = F.map (·.1) := (HR.turnF_fst _ _ _).trans (HR.turnF_fst _ _ _)
  have hT' : Turned [I, J] F F' := ⟨hF', fun p hp hn => HR.turnF_mem (HR.turnF_mem hp fun q => hn (by simp [q])) fun q => hn (by simp [q])⟩
  have mI : (I, oI) ∈ F' := HR.turnF_mem (HR.turnF_self bI) (Ne.symm hJI)
  have mJ : (J, o') ∈ F' := HR.turnF_self (HR.turnF_mem b hJI)
  have H0 : HR B F' ρ σ h'' := by
   refine H.step [I, J] (fun a ha => ?_) (fun b x hb eb => keep2 b x (fun q => hb (by simp [q])) (fun q => hb (by simp [q])) eb) hF' fun p hp => ?_
   ·simp at ha; rcases ha with rfl | rfl; exact ⟨_, bI⟩; exact ⟨_, b⟩
   ·rcases HR.mem_turnF hp with rfl | ⟨hp, h1⟩
    ·exact hs''.extBut _ _ hJI ho'
    ·rcases HR.mem_turnF hp with rfl | ⟨hp, h2⟩
     ·exact he''
     ·exact keep2 _ _ h2 h1 (H.fr p hp)
  have hTup : h''.get? s.heap.objs.size = some { cls := .type "tuple", data := .seq #[.int i s.toks, v] } := hs''.extBut _ _ hT ht'
  have H1 : HR B F' (ρ ++ [s.heap.objs.size]) (σ ++ [⟨true, .tuple [.int i, x]⟩]) h'' := by
   refine H0.alloc' (fun hm => Nat.lt_irrefl _ (H.lt hm)) H.fresh (fun p hp => ?_) ⟨_, 0, hTup, ⟨⟨_, rfl⟩, hvr.mono (List.prefix_append _ _), trivial⟩⟩
   have : p.1 ∈ F.map (·.1) := hF' ▸ List.mem_map_of_mem hp
   obtain ⟨q, hq, e⟩ := List.mem_map.mp this
   rw [← e]; exact hne q hq
  exact hsome _ _ _ (ρ ++ [s.heap.objs.size]) (.ref s.heap.objs.size) { s with heap := h'', toks := s.toks + 1 } F' h (List.prefix_append _ _) hT' H1 ⟨hJI, l, o', v, get_prefix (List.prefix_append _ _) a, mJ, ⟨hc', hd'⟩, mI⟩ ⟨_, by rw [← H.len]; simp, rfl⟩ ⟨rfl, rfl⟩
 | none =>
  rw [hx] at h
  refine wpAny_pyNext_enum_end hA.hd he hit hl (by
   rw [← Array.getElem?_toList, List.getElem?_eq_none_iff, rr.length]; exact List.getElem?_eq_none_iff.mp hx) fun h' hs' => ?_
  exact hnone h _ (fun b x hb eb => hs' b x (fun q => hb (by simp [q])) eb) ⟨rfl, rfl⟩
theorem next_ok {target : Expr} {it : It} {I J : Addr} {N : Shared → Prop} {G : Value → Shared → Prop} {done : Prop} {K : AV → It → Sto → Prop} (h : wNext it σ done K)
  (ht : ∀ k i, it = .enum k i → ∃ es x p, target = .Tuple es x p) (hA : AOk 0 A) (H : HR B F ρ σ s.heap) (hI : ItR F ρ I J it)
  (hnone : done → ∀ s', (∀ b o, b ∉ [I, J] → s.heap.get? b = some o → s'.heap.get? b = some o) → Same s s' → N s') (hsome : OnNext B F ρ s I J K G) :
  wpAny (model prog w) A (pyNext (.ref I)) (NextTo prog w A E target I N G) E s := by
 cases it with
 | list k i => exact next_list h hA H hI hnone hsome
 | rng x n st => exact next_rng h hA H hI hnone hsome
 | enum k i => obtain ⟨es, x, p, rfl⟩ := ht _ _ rfl; exact next_enum h hA H hI hnone hsome
end
end
section
open PySem.Spec
theorem Turned.mono {L L' : List Addr} {F F' : List (Addr × Obj)} (h : ∀ a ∈ L, a ∈ L') (T : Turned L F F') : Turned L' F F' := ⟨T.1, fun p hp hn => T.2 p hp fun q => hn (h _ q)⟩
theorem Turned.drop {D : List Addr} {G F F' : List (Addr × Obj)} (T : Turned D (G ++ F) F') (hn : ((G ++ F).map (·.1)).Nodup) :
  Turned D F (F'.drop G.length) ∧ (∀ p ∈ F'.drop G.length, p ∈ F' ∧ p.1 ∉ G.map (·.1)) ∧ ((F'.drop G.length).map (·.1)).Nodup ∧ ∀ p ∈ F', p.1 ∉ G.map (·.1) → p ∈ F'.drop G.length := by
 have hk : (F'.drop G.length).map (·.1) = F.map (·.1) := by rw [List.map_drop, T.1, List.map_append, List.drop_left' (by simp)]
 have ht : (F'.take G.length).map (·.1) = G.map (·.1) := by rw [List.map_take, T.1, List.map_append, List.take_left' (by simp)]
 rw [List.map_append, List.nodup_append] at hn
 refine ⟨⟨hk, fun p hp hD => ?_⟩, fun p hp => ⟨List.mem_of_mem_drop hp, fun hm => ?_⟩, hk ▸ hn.2.1, fun p hp hG => ?_⟩
 ·have := T.2 p (List.mem_append_right _ hp) hD
  rw [← List.take_append_drop G.length F'] at this
  rcases List.mem_append.mp this with h | h
  ·have h1 : p.1 ∈ G.map (·.1) := ht ▸ List.mem_map_of_mem h
   exact absurd rfl (hn.2.2 _ h1 _ (List.mem_map_of_mem hp))
  ·exact h
 ·have h1 : p.1 ∈ F.map (·.1) := hk ▸ List.mem_map_of_mem hp
  exact absurd rfl (hn.2.2 _ hm _ h1)
 ·rw [← List.take_append_drop G.length F'] at hp
  rcases List.mem_append.mp hp with h | h
  ·exact absurd (ht ▸ List.mem_map_of_mem h) hG
  ·exact h
section
variable {prog : Program} {w : World} {A : Around} {E : Value → Shared → Prop} {B : Heap} {K : Frag} {X : Ctx} {F : List (Addr × Obj)} {ρ : Rho} {σ σ' : Sto} {s : Shared} {sc : Scope} {env : Env} {ae : Loc} {d n : Nat}
 {call : Addr → List AV → Sto → XE}
noncomputable def testsC (ifs : List Expr) (env : Env) : Sem Bool := forIn ifs true fun c r => if r = true then do let ok ← isTrue c env (eval c env); pure (ForInStep.yield ok) else pure (ForInStep.yield r)
theorem compLoop_emit {R : Result → Shared → Prop} {elt target iter : Expr} {ifs : List Expr} {gens : List Comprehension} {scope : Scope} {pos : Pos} {dp : Nat} {it acc : Value} (hg : gens[dp]? = some ⟨target, iter, ifs, 0⟩) (hg1 : gens[dp + 1]? = none)
  (h : wpAny (model prog w) A (pyNext it) (fun r s₁ => match r with
   | none => R (.ok .next) s₁
   | some v => wpAny (model prog w) A (letOwnedTupleGo target it v) (fun _ s₂ => wpAny (model prog w) A (assign target env v) (fun _ s₃ => wpAny (model prog w) A (testsC ifs env) (fun ok s₄ =>
     if ok = true then wpAny (model prog w) A (eval elt env) (fun u s₅ => wpAny (model prog w) A (PySem.call (.builtin "list.append") [acc, u]) (fun _ s₆ => codeAny (model prog w) A (.compLoop (.ListComp elt gens scope pos) dp it acc env) R s₆)
      (notedBy (model prog w) A env fun e s' => R (.error e) s') s₅) (notedBy (model prog w) A env fun e s' => R (.error e) s') s₄
     else codeAny (model prog w) A (.compLoop (.ListComp elt gens scope pos) dp it acc env) R s₄) (notedBy (model prog w) A env fun e s' => R (.error e) s') s₃) (notedBy (model prog w) A env fun e s' => R (.error e) s') s₂) (notedBy (model prog w) A env fun e s' => R (.error e) s') s₁)
   (notedBy (model prog w) A env fun e s' => R (.error e) s') s) :
  codeAny (model prog w) A (.compLoop (.ListComp elt gens scope pos) dp it acc env) R s := by
 refine codeAny_of_tree ?_
 show wpAny _ A ((compTurn (.ListComp elt gens scope pos) dp it acc env).onRaise (fun x => do noteFrame x env; theTreesLotGoes x)) _ _ s
 refine wpAny_noted ?_
 unfold compTurn
 simp only [hg, hg1, bne_self_eq_false, Bool.false_eq_true, if_false]
 refine wpAny_bind (wpAny_standAt (wpAny_bind (wpAny_mono h (fun r s₁ h₁ => ?_) fun _ _ x => x)))
 cases r with
 | none => exact wpAny_pure h₁
 | some v =>
  refine wpAny_bind (wpAny_mono h₁ (fun _ s₂ h₂ => wpAny_bind (wpAny_mono h₂ (fun _ s₃ h₃ => wpAny_bind (wpAny_mono h₃ (fun ok s₄ h₄ => ?_) fun _ _ x => x)) fun _ _ x => x)) fun _ _ x => x)
  cases ok with
  | false => exact wpAny_pure ⟨rfl, h₄⟩
  | true => exact wpAny_bind (wpAny_bind (wpAny_mono h₄ (fun x s₅ h₅ => wpAny_bind (wpAny_mono h₅ (fun _ s₆ h₆ => wpAny_pure (wpAny_pure ⟨rfl, h₆⟩)) fun _ _ h' => h')) fun _ _ h' => h'))
theorem tests_no {Q : Bool → Shared → Prop} (h : Q false s) : ∀ l : List Expr, wpAny (model prog w) A (forIn l false fun c r => if r = true then do let ok ← isTrue c env (eval c env); pure (ForInStep.yield ok) else pure (ForInStep.yield r)) Q E s
 | [] => wpAny_pure h
 | a :: l => by rw [List.forIn_cons, if_neg Bool.false_ne_true]; exact wpAny_bind (wpAny_pure (tests_no h l))
theorem tests_ok {Q : Bool → Shared → Prop} {KK : Bool → Sto → Prop} (ht : TestOk prog w B X d n (testE X call n)) : ∀ {ifs : List Expr} {ρ : Rho} {σ : Sto} {s : Shared}, allA (testE X call n sc) .And ifs ae σ KK → Rd B X d n A sc env F ae ρ σ s → PB B F ρ s KK Q →
  wpAny (model prog w) A (testsC ifs env) Q E s
 | [], _, _, _, h, R, hQ => wpAny_pure (hQ.ret R.H h)
 | c :: ifs, _, _, _, h, R, hQ => by
  unfold testsC
  rw [List.forIn_cons, if_pos rfl]
  refine wpAny_bind (wpAny_bind (ht h R fun _ b _ _ g k => wpAny_pure ?_))
  cases b with
  | true => exact tests_ok ht (k.out.1 rfl) (R.go g) (hQ.after g)
  | false => exact tests_no (hQ _ _ _ _ g (k.out.2 rfl)) ifs
theorem compStart_gen {R : Result → Shared → Prop} {elt target iter : Expr} {ifs : List Expr} {gens : List Comprehension} {scope : Scope} {pos : Pos} {dp : Nat} {it acc : Value} (hg : gens[dp]? = some ⟨target, iter, ifs, 0⟩)
  (h0 : codeAny (model prog w) A (.compLoop (.ListComp elt gens scope pos) dp it acc env) R s)
  (h : wpAny (model prog w) A (pyIter it) (fun it' s' => codeAny (model prog w) A (.compLoop (.ListComp elt gens scope pos) dp it' acc env) R s') (notedBy (model prog w) A env fun x s' => R (.error x) s') s) :
  codeAny (model prog w) A (.compStart (.ListComp elt gens scope pos) dp it acc env) R s := by
 refine codeAny_of_tree ?_
 show wpAny _ _ ((compStart (.ListComp elt gens scope pos) dp it acc env).onRaise (fun x => do noteFrame x env; standAt theWindowsPlace)) _ _ s
 refine wpAny_notedAt ?_
 unfold compStart
 have hcl : clausesOf (.ListComp elt gens scope pos) = gens := rfl
 rw [hcl, hg]
 show wpAny _ _ (ask >>= _) _ _ s
 refine wpAny_bind (wpAny_askSetting (wpAny_ite ?_))
 split
 ·first
   | exact wpAny_bind (wpAny_pure (wpAny_pure (And.intro rfl h0)))
   | exact wpAny_pure (And.intro rfl h0)
 ·first
   | exact wpAny_bind (wpAny_rule (wpAny_bind (wpAny_standAt (wpAny_bind (wpAny_mono h (fun it' s' h' => wpAny_pure (And.intro rfl h')) fun _ _ x => x)))))
   | (refine wpAny_bind (wpAny_rule ?_); show wpAny _ _ (standAt iter.pos >>= _) _ _ s; exact wpAny_bind (wpAny_standAt (wpAny_bind (wpAny_mono h (fun it' s' h' => wpAny_pure (And.intro rfl h')) fun _ _ x => x))))
end
end
section
open PySem.Spec
section
variable (prog : Program) (w : World) (B : Heap) (X : Ctx)
noncomputable def LoopPost (F : List (Addr × Obj)) (ρ : Rho) (s : Shared) (env : Env) (I J : Addr) (KK : Loc → Sto → Prop) (R : Shared → Prop) : Prop :=
 ∀ ρ' F' s' ae' σ', KK ae' σ' → ρ <+: ρ' → Turned [env.locals, I, J] F F' → FP B F' ρ' X env ae' → (∀ F₀ : List (Addr × Obj), (∀ p ∈ F₀, p ∈ F' ∧ p.1 ∉ [I, J]) → (F₀.map (·.1)).Nodup → HR B F₀ ρ' σ' s'.heap) → Same s s' → R s'
noncomputable def TurnPost (F : List (Addr × Obj)) (ρ : Rho) (s : Shared) (env : Env) (KK : Loc → Sto → Prop) (R : Shared → Prop) : Prop :=
 ∀ ρ' F' s' ae' σ', KK ae' σ' → ρ <+: ρ' → Turned [env.locals] F F' → FP B F' ρ' X env ae' → HR B F' ρ' σ' s'.heap → Same s s' → R s'
noncomputable def GensOk (d n : Nat) (call : Addr → List AV → Sto → XE) : Prop :=
 ∀ {A : Around} {R : Result → Shared → Prop} {F : List (Addr × Obj)} {ρ : Rho} {σ : Sto} {s : Shared} {sc : Scope} {env : Env} {elt : Expr} {k : Nat} {gens : List Comprehension} {scope : Scope} {pos : Pos} {dp : Nat} {it : It} {ae : Loc} {I J acc : Addr} {KK : Loc → Sto → Prop},
  gensA X call n sc elt k (gens.drop dp) it ae σ KK → (∀ k i, it ≠ .enum k i) → Rd B X d n A sc env F ae ρ σ s → ItR F ρ I J it → ρ[k]? = some acc → env.locals ∉ [I, J] → (∀ x c, env.cells.lookup x = some c → c ∉ [I, J]) →
  LoopPost B X F ρ s env I J KK (fun s' => R (.ok .next) s') → codeAny (model prog w) A (.compLoop (.ListComp elt gens scope pos) dp (.ref I) (.ref acc) env) R s
end
section
variable {prog : Program} {w : World} {A : Around} {E : Value → Shared → Prop} {B : Heap} {K : Frag} {X : Ctx} {F : List (Addr × Obj)} {ρ : Rho} {σ σ' : Sto} {s : Shared} {sc : Scope} {env : Env} {ae : Loc} {d n : Nat}
 {call : Addr → List AV → Sto → XE}
theorem iterSelf {it : It} {I J : Addr} {Q : Value → Shared → Prop} (H : HR B F ρ σ s.heap) (hI : ItR F ρ I J it) (h : Q (.ref I) s) : wpAny (model prog w) A (pyIter (.ref I)) Q E s := by
 cases it with
 | list k i => obtain ⟨rfl, l, o, a, b, c, e⟩ := hI; exact wpAny_pyIter_listiter ⟨o, H.fr _ b, c, e⟩ h
 | rng x n st => obtain ⟨rfl, b⟩ := hI; exact wpAny_pyIter_rangeiter (H.fr _ b) h
 | enum k i => obtain ⟨_, l, o, old, a, b, c, e⟩ := hI; exact wpAny_pyIter_enum (H.fr _ e) h
theorem FP.moved {F' : List (Addr × Obj)} {I J : Addr} (P : FP B F ρ X env ae) (T : Turned [I, J] F F') (h1 : env.locals ∉ [I, J]) (h2 : ∀ x c, env.cells.lookup x = some c → c ∉ [I, J]) : FP B F' ρ X env ae :=
 P.sub fun p hp hq => T.2 p hp (by rcases hq with hq | ⟨x, hq⟩; rw [hq]; exact h1; exact h2 x _ hq)
theorem LoopPost.after {F₁ : List (Addr × Obj)} {ρ₁ : Rho} {s₁ : Shared} {I J : Addr} {KK : Loc → Sto → Prop} {R : Shared → Prop} (h : LoopPost B X F ρ s env I J KK R) (hp : ρ <+: ρ₁) (T : Turned [env.locals, I, J] F F₁) (hs : Same s s₁) : LoopPost B X F₁ ρ₁ s₁ env I J KK R :=
 fun _ _ _ _ _ k hp' T' P' H' hs' => h _ _ _ _ _ k (hp.trans hp') (T.trans T') P' H' (hs.trans hs')
theorem next_kind {it : It} {done : Prop} {K : AV → It → Sto → Prop} (h : wNext it σ done K) (hne : ∀ k i, it ≠ .enum k i) : wNext it σ done fun v it' σ => (∀ k i, it' ≠ .enum k i) ∧ K v it' σ := by
 have nl : ∀ k i, ∀ k' i', It.list k i ≠ .enum k' i' := fun _ _ _ _ q => by cases q
 cases it with
 | list k i =>
  obtain ⟨b, xs, e, h⟩ := wLst.out h
  show wLst _ _ _
  unfold wLst
  refine ⟨b, xs, e, ?_⟩
  cases hx : xs[i]? with
  | some x => rw [hx] at h; simp only [hx]; exact ⟨nl _ _, h⟩
  | none => rw [hx] at h; simp only [hx]; exact h
 | rng x n st => cases n with
  | zero => exact h
  | succ n => exact ⟨fun _ _ q => (by cases q), h⟩
 | enum k i => exact absurd rfl (hne k i)
theorem gens_loop (ht : TestOk prog w B X d n (testE X call n)) {R : Result → Shared → Prop} {ifs : List Expr} {x : Str} {px : Pos} {I J : Addr} {code : Code} {G : Shared → Prop} {bd : Loc → Sto → (Loc → Sto → Prop) → Prop} {KK : Loc → Sto → Prop} {k : Nat} {acc : Addr}
  (hcode : ∀ s, wpAny (model prog w) A (pyNext (.ref I)) (NextTo prog w A (notedBy (model prog w) A env fun e s' => R (.error e) s') (.Name x px) I (fun s₁ => R (.ok .next) s₁) (fun v s₂ => wpAny (model prog w) A (assign (.Name x px) env v) (fun _ s₃ => wpAny (model prog w) A (testsC ifs env) (fun ok s₄ => if ok = true then G s₄ else codeAny (model prog w) A code R s₄)
   (notedBy (model prog w) A env fun e s' => R (.error e) s') s₃) (notedBy (model prog w) A env fun e s' => R (.error e) s') s₂)) (notedBy (model prog w) A env fun e s' => R (.error e) s') s → codeAny (model prog w) A code R s)
  (hbd : ∀ {F ρ σ s ae K2}, bd ae σ K2 → Rd B X d n A sc env F ae ρ σ s → ρ[k]? = some acc → TurnPost B X F ρ s env K2 (fun s' => codeAny (model prog w) A code R s') → G s)
  (hL : env.locals ∉ [I, J]) (hC : ∀ x c, env.cells.lookup x = some c → c ∉ [I, J]) : ∀ (m : Nat) {F : List (Addr × Obj)} {ρ : Rho} {σ : Sto} {s : Shared} {ae : Loc} {it : It},
  wLoop (turnG sc x (allA (testE X call n sc) .And ifs) bd) m it ae σ KK → (∀ k i, it ≠ .enum k i) → Rd B X d n A sc env F ae ρ σ s → ItR F ρ I J it → ρ[k]? = some acc → LoopPost B X F ρ s env I J KK (fun s' => R (.ok .next) s') → codeAny (model prog w) A code R s
 | 0, _, _, _, _, _, _, h, _, _, _, _, _ => h.elim
 | m + 1, F, ρ, σ, s, ae, it, h, hne, hR, hI, hk, hQ => by
  refine hcode s (next_ok (next_kind h hne) (fun k i q => absurd q (hne k i)) hR.A.ok hR.H hI (fun hd s' hs' hsm => ?_) (fun v it1 σ1 ρ1 rv s1 F1 hh hp1 T1 H1 hI1 hv hs1 => ?_))
  ·exact hQ ρ F s' ae σ hd (List.prefix_refl _) Turned.refl hR.P (fun _ hF hN => hR.H.drop [I, J] hI.at hF hN hs') hsm
  ·obtain ⟨hne1, _, hh, hh2⟩ := hh
   obtain ⟨hlx, hh⟩ := wB.out hh
   have hlx := (hR.S x).2.mp (beq_iff_eq.mp hlx)
   refine wpAny_assign_Name (asgL_ok hlx ((hR.P.moved T1 hL hC).mono hp1) H1 hv fun F2 s2 T2 P2 H2 hs2 => ?_)
   have R2 : Rd B X d n A sc env F2 (putField x v ae) ρ1 σ1 s2 := ⟨hR.A, hR.S, P2, H2⟩
   have T12 : Turned [env.locals, I, J] F F2 := (T1.mono fun a ha => List.mem_cons_of_mem _ ha).trans (T2.mono fun a ha => by rw [List.mem_singleton.mp ha]; exact List.mem_cons_self ..)
   have out : ∀ {F F' : List (Addr × Obj)}, Turned [env.locals] F F' → ∀ p ∈ F, p.1 ∈ [I, J] → p ∈ F' := fun T p hp hpi => T.2 p hp (fun q => hL (List.mem_singleton.mp q ▸ hpi))
   have hI2 : ItR F2 ρ1 I J it1 := hI1.of_mem (out T2)
   have hs12 := hs1.trans hs2
   refine tests_ok ht hh R2 fun ρ3 b σ3 s3 g3 hb => ?_
   have R3 := R2.go g3
   have hI3 := hI2.mono g3.pre
   cases b with
   | false => exact gens_loop ht hcode hbd hL hC m (hh2 _ _ (hb.out.2 rfl)) hne1 R3 hI3 (get_prefix (hp1.trans g3.pre) hk) (hQ.after (hp1.trans g3.pre) T12 (hs12.trans g3.same))
   | true =>
    refine hbd (hb.out.1 rfl) R3 (get_prefix (hp1.trans g3.pre) hk) fun ρ4 F4 s4 ae4 σ4 k4 hp4 T4 P4 H4 hs4 => ?_
    exact gens_loop ht hcode hbd hL hC m (hh2 _ _ k4) hne1 ⟨hR.A, hR.S, P4, H4⟩ ((hI3.mono hp4).of_mem (out T4)) (get_prefix ((hp1.trans g3.pre).trans hp4) hk)
     (hQ.after ((hp1.trans g3.pre).trans hp4) (T12.trans (T4.mono fun a ha => by rw [List.mem_singleton.mp ha]; exact List.mem_cons_self ..)) ((hs12.trans g3.same).trans hs4))
end
end
section
open PySem.Spec
theorem lookup_filter {α β : Type} [BEq α] [LawfulBEq α] (p : α → Bool) (x : α) : ∀ l : List (α × β), (l.filter fun q => p q.1).lookup x = if p x then l.lookup x else none := by
 intro l
 induction l with
 | nil => simp
 | cons a l ih =>
  obtain ⟨n, b⟩ := a
  rw [List.filter_cons]
  by_cases hx : x = n
  ·subst hx
   cases hp : p x
   ·simp [hp, ih]
   ·simp [hp]
  ·cases hp : p n
   ·simp [ih, List.lookup_cons, beq_eq_false_iff_ne.mpr hx]
   ·simp [ih, List.lookup_cons, beq_eq_false_iff_ne.mpr hx]
theorem lookup_map {α β γ : Type} [BEq α] [LawfulBEq α] (g : α → β → γ) (x : α) : ∀ l : List (α × β), (l.map fun q => (q.1, g q.1 q.2)).lookup x = (l.lookup x).map (g x) := by
 intro l
 induction l with
 | nil => rfl
 | cons a l ih =>
  obtain ⟨n, b⟩ := a
  rw [List.map_cons, List.lookup_cons, List.lookup_cons, ih]
  by_cases hx : x = n
  ·subst hx; simp
  ·simp [beq_eq_false_iff_ne.mpr hx]
noncomputable def cellsOf (names : List (Str × NameKind)) (env : Env) : List (Str × Addr) := (names.filter fun p => p.2 == .free).reverse.map fun p => (p.1, (env.cells.lookup p.1).getD 0)
theorem closure_ok {scope : Scope} {env : Env} (h : ∀ p ∈ scope.names, p.2 = .free → ∃ c, env.cells.lookup p.1 = some c) : closureFor scope env = pure (cellsOf scope.names env) := by
 have main : ∀ (l : List (Str × NameKind)) (cs : List (Str × Addr)), (∀ p ∈ l, p.2 = .free → ∃ c, env.cells.lookup p.1 = some c) →
   (forIn l cs (fun p r => if (p.2 == NameKind.free) = true then do let x ← cellOf env p.1; pure (ForInStep.yield ((p.1, x) :: r)) else pure (ForInStep.yield r)) : Sem (List (Str × Addr))) = pure (cellsOf l env ++ cs) := by
  intro l
  induction l with
  | nil => intro cs _; rfl
  | cons p l ih =>
   intro cs h
   rw [List.forIn_cons]
   obtain ⟨x, k⟩ := p
   cases hk : k == NameKind.free
   ·simp only [hk, Bool.false_eq_true, if_false]
    show (forIn l cs _ : Sem (List (Str × Addr))) = _
    rw [ih cs fun q hq => h q (List.mem_cons_of_mem _ hq)]
    unfold cellsOf
    rw [List.filter_cons]; simp [hk]
   ·obtain ⟨c, hc⟩ := h (x, k) (List.mem_cons_self ..) (beq_iff_eq.mp hk)
    simp only [hk, if_true]
    have e : cellOf env x = pure c := by unfold cellOf; rw [hc]
    rw [e]
    show (forIn l ((x, c) :: cs) _ : Sem (List (Str × Addr))) = _
    rw [ih _ fun q hq => h q (List.mem_cons_of_mem _ hq)]
    unfold cellsOf
    rw [List.filter_cons]; simp [hk, hc]
 have := main scope.names [] h
 rw [List.append_nil] at this
 unfold closureFor
 exact congrArg (fun m : Sem (List (Str × Addr)) => m >>= fun s => pure s) this
theorem cellsOf_lookup {names : List (Str × NameKind)} {env : Env} {x : Str} {c : Addr} (h : (cellsOf names env).lookup x = some c) : (x, NameKind.free) ∈ names ∧ c = (env.cells.lookup x).getD 0 := by
 have hm := mem_of_lookup h
 unfold cellsOf at hm
 obtain ⟨p, hp, e⟩ := List.mem_map.mp hm
 cases e
 obtain ⟨h1, h2⟩ := List.mem_filter.mp (List.mem_reverse.mp hp)
 obtain ⟨y, k⟩ := p
 have : k = NameKind.free := by simpa using h2
 subst this
 exact ⟨h1, rfl⟩
theorem cellsOf_some {names : List (Str × NameKind)} {env : Env} {x : Str} (h : (x, NameKind.free) ∈ names) : ∃ c, (cellsOf names env).lookup x = some c := by
 cases e : (cellsOf names env).lookup x with
 | some c => exact ⟨c, rfl⟩
 | none =>
  rw [List.lookup_eq_none_iff] at e
  have := e (x, (env.cells.lookup x).getD 0) (List.mem_map.mpr ⟨(x, .free), List.mem_reverse.mpr (List.mem_filter.mpr ⟨h, rfl⟩), rfl⟩)
  simp at this
section
variable {prog : Program} {w : World} {A : Around} {E : Value → Shared → Prop} {B : Heap} {K : Frag} {X : Ctx} {F : List (Addr × Obj)} {ρ : Rho} {σ σ' : Sto} {s : Shared} {sc : Scope} {env : Env} {ae : Loc} {d n : Nat}
 {call : Addr → List AV → Sto → XE}
theorem noSet_fold {iter : Expr} (h : noSet iter = true) (x : Value) : foldedSetIterable iter env x = pure x := by
 unfold foldedSetIterable
 cases iter <;> first | rfl | exact no_ft h
theorem gens_step (he : EvalOk prog w B X d n (evalE X call n)) (ht : TestOk prog w B X d n (testE X call n)) (hg : GensOk prog w B X d n call) : GensOk prog w B X d (n + 1) call := by
 intro A R F ρ σ s sc env elt k gens scope pos dp it ae I J acc KK h hne hR hI hk hL hC hQ
 cases hd : gens.drop dp with
 | nil => rw [hd] at h; exact h.elim
 | cons g gs =>
  rw [hd] at h
  have hg0 : gens[dp]? = some g := by
   have := congrArg (·[0]?) hd
   simpa using this
  have hgs : gens.drop (dp + 1) = gs := by rw [← List.drop_drop, hd]; rfl
  obtain ⟨target, iter, ifs, as⟩ := g
  obtain ⟨ha, h⟩ := wB.out h
  obtain rfl := beq_iff_eq.mp ha
  cases target with
  | Name x px =>
   cases gs with
   | nil =>
    have hg1 : gens[dp + 1]? = none := by
     have := congrArg (·[0]?) hgs
     simpa using this
    refine gens_loop ht (fun s => compLoop_emit hg0 hg1) (fun {F ρ σ s ae K2} hb R2 hk2 hT => ?_) hL hC X.N h hne hR.le hI hk hQ
    refine he hb R2 fun ρ4 u ru σ4 s4 g4 hu h4 => append_ok h4 g4.H ⟨acc, get_prefix g4.pre hk2, rfl⟩ hu fun ρ5 _ _ σ5 s5 g5 _ h5 => ?_
    have g := g4.trans g5
    exact hT ρ5 _ s5 _ _ h5 g.pre Turned.refl (R2.P.mono g.pre) g.H g.same
   | cons g' gs' => exact h.elim
  | _ => exact h.elim
theorem compOk_of {scope : Scope} (h : compOk sc scope ae = true) : scope.kind = .function ∧ scope.names.lookup ("__classdict__" : Str) = none ∧
  ∀ p ∈ scope.names, p.2 ≠ .cell ∧ scope.names.lookup p.1 = some p.2 ∧ (p.2 = .free → (∃ v, ae.lookup p.1 = some v) ∧ (sc.names.lookup p.1 = some .cell ∨ sc.names.lookup p.1 = some .free)) := by
 unfold compOk at h
 simp only [Bool.and_eq_true, beq_iff_eq, Option.isNone_iff_eq_none, List.all_eq_true] at h
 obtain ⟨⟨h1, h2⟩, h3⟩ := h
 refine ⟨h1, h2, fun p hp => ?_⟩
 obtain ⟨⟨a, b⟩, c⟩ := h3 p hp
 refine ⟨by simpa using a, b, fun hf => ?_⟩
 rw [if_pos hf] at c
 simp only [Bool.and_eq_true, Bool.or_eq_true, beq_iff_eq] at c
 exact ⟨Option.isSome_iff_exists.mp c.1, c.2⟩
theorem relabel_kind {scope : Scope} {C : Addr} {cl : List (Str × Addr)} (x : Str) : (compEnvC scope cl C env).kindOf x = (scope.names.lookup x).map fun k => if (k == .free && env.scope.kind == .function && env.kindOf x == some .cell) then .cell else k := by
 show (relabel scope env).names.lookup x = _
 unfold relabel
 have : (scope.names.map fun (n, k) => if (k == .free && env.scope.kind == .function && env.kindOf n == some .cell) then (n, NameKind.cell) else (n, k)) =
   scope.names.map fun q => (q.1, (fun n k => if (k == NameKind.free && env.scope.kind == .function && env.kindOf n == some .cell) then NameKind.cell else k) q.1 q.2) := by
  apply List.map_congr_left
  intro q _
  obtain ⟨n, k⟩ := q
  simp only
  split <;> rfl
 rw [this]
 exact lookup_map (fun n k => if (k == NameKind.free && env.scope.kind == .function && env.kindOf n == some .cell) then NameKind.cell else k) x scope.names
noncomputable def outer (scope : Scope) (ae : Loc) : Loc := ae.filter fun p => scope.names.lookup p.1 == some .free
theorem outer_lookup {scope : Scope} {x : Str} {v : AV} (h : (outer scope ae).lookup x = some v) : scope.names.lookup x = some .free ∧ ae.lookup x = some v := by
 unfold outer at h
 rw [lookup_filter (fun y => scope.names.lookup y == some NameKind.free)] at h
 split at h
 ·rename_i q; exact ⟨beq_iff_eq.mp q, h⟩
 ·cases h
theorem kind_free (hsc : ScR sc env.scope) {x : Str} (h : sc.names.lookup x = some .cell ∨ sc.names.lookup x = some .free) : env.kindOf x = some .cell ∨ env.kindOf x = some .free := by
 obtain ⟨h1, h2⟩ := hsc x
 have hk : kindA env.scope x = some false := by rw [← h1]; unfold kindA; rcases h with h | h <;> rw [h] <;> rfl
 have hl : ¬ env.scope.names.lookup x = some .local := fun q => by rw [h2.mpr q] at h; rcases h with h | h <;> cases h
 show env.scope.names.lookup x = _ ∨ env.scope.names.lookup x = _
 have hk : kindO (env.scope.names.lookup x) = some false := hk
 clear hsc h h1 h2
 generalize env.scope.names.lookup x = o at hk hl ⊢
 cases o with
 | none => cases hk
 | some k => cases k with
  | cell => exact .inl rfl
  | free => exact .inr rfl
  | «local» => exact absurd rfl hl
  | _ => cases hk
theorem comp_frame {scope : Scope} {C : Addr} {oC : Obj} {es : Array DictEntry} {ep : Nat} (hok : compOk sc scope ae = true) (hsc : ScR sc env.scope) (P : FP B F ρ X env ae) (hm : (C, oC) ∈ F) (hd : oC.data = .dict es ep) (hs : StrKeys es)
  (hC : ∀ x c, env.cells.lookup x = some c → c ≠ C) : FP B F ρ X (compEnvC scope (cellsOf scope.names env) C env) (outer scope ae) := by
 obtain ⟨h1, h2, h3⟩ := compOk_of hok
 have back : ∀ {x c}, (cellsOf scope.names env).lookup x = some c → env.cells.lookup x = some c := by
  intro x c h
  obtain ⟨hx, rfl⟩ := cellsOf_lookup h
  obtain ⟨_, _, h4⟩ := h3 _ hx
  obtain ⟨⟨v, hv⟩, hk⟩ := h4 rfl
  obtain ⟨c, oc, rv, c1, _⟩ := P.cl x v hv (kind_free hsc hk)
  rw [c1]; rfl
 have isFree : ∀ {x}, (compEnvC scope (cellsOf scope.names env) C env).kindOf x = some .cell ∨ (compEnvC scope (cellsOf scope.names env) C env).kindOf x = some .free → (x, NameKind.free) ∈ scope.names := by
  intro x hx
  rw [relabel_kind] at hx
  cases e : scope.names.lookup x with
  | none => rw [e] at hx; rcases hx with hx | hx <;> cases hx
  | some k =>
   rw [e] at hx
   have hmem := mem_of_lookup e
   by_cases hf : k = .free
   ·subst hf; exact hmem
   ·have : (k == NameKind.free) = false := beq_eq_false_iff_ne.mpr hf
    simp only [Option.map_some, this, Bool.false_and, Bool.false_eq_true, if_false] at hx
    rcases hx with hx | hx
    ·cases hx; exact absurd rfl (h3 _ hmem).1
    ·cases hx; exact absurd rfl hf
 refine ⟨h1, P.eg, P.eb, P.glob, ⟨oC, es, ep, hm, hd, hs, fun x v e k => ?_⟩, fun x v e _ => ?_, fun x k => cellsOf_some (isFree (.inl k)), fun x c e => P.cellF x c (back e), fun x y c e e' => P.apart x y c (back e) (back e'), fun x c e => hC x c (back e), ?_, P.code⟩
 ·obtain ⟨q, _⟩ := outer_lookup e
  rw [relabel_kind, q] at k
  simp only [Option.map_some] at k
  split at k <;> cases k
 ·obtain ⟨q, q'⟩ := outer_lookup e
  have hx := mem_of_lookup q
  obtain ⟨_, _, h4⟩ := h3 _ hx
  obtain ⟨_, hk⟩ := h4 rfl
  obtain ⟨c, oc, rv, c1, c2, c3, c4⟩ := P.cl x v q' (kind_free hsc hk)
  obtain ⟨c', e'⟩ := cellsOf_some (env := env) hx
  have : c' = c := by have := back e'; rw [c1] at this; exact (Option.some.inj this).symm
  subst this
  exact ⟨c', oc, rv, e', c2, c3, c4⟩
 ·rw [relabel_kind, h2]; rfl
theorem comp_scr {scope : Scope} {C : Addr} {cl : List (Str × Addr)} (h : ∀ p ∈ scope.names, p.2 ≠ .cell) : ScR scope (compEnvC scope cl C env).scope := by
 intro y
 have hk : (compEnvC scope cl C env).scope.names.lookup y = _ := relabel_kind (env := env) (scope := scope) (C := C) (cl := cl) y
 show kindO _ = kindO _ ∧ (_ = _ ↔ _ = _)
 rw [hk]
 cases e : scope.names.lookup y with
 | none => exact ⟨rfl, Iff.rfl⟩
 | some k =>
  have := h _ (mem_of_lookup e)
  clear hk e h
  show kindO _ = kindO (some _) ∧ (_ = _ ↔ some _ = _)
  generalize (env.scope.kind == .function) = b1, (env.kindOf y == some .cell) = b2
  cases k with
  | free => cases b1 <;> cases b2 <;> decide
  | cell => exact absurd rfl this
  | _ => exact ⟨rfl, Iff.rfl⟩
end
end
section
open PySem.Spec
section
variable {prog : Program} {w : World} {A : Around} {E : Value → Shared → Prop} {B : Heap} {K : Frag} {X : Ctx} {F : List (Addr × Obj)} {ρ : Rho} {σ σ' : Sto} {s : Shared} {sc : Scope} {env : Env} {ae : Loc} {d n : Nat}
 {Q : Value → Shared → Prop} {call : Addr → List AV → Sto → XE}
theorem comp_core (he : EvalOk prog w B X d n (evalE X call n)) (hg : GensOk prog w B X d n call) {t iter elt : Expr} {ifs : List Expr} {gs : List Comprehension} {scope : Scope} {pos p : Pos} {use : Option (Value → Sem Unit)} {KK : KE}
  (hok : compOk sc scope ae = true) (hns : noSet iter = true) (h : evalE X call n sc iter ae σ fun x σ => lIter x σ fun it => lockG <| gensA X call n scope elt σ.length (⟨t, iter, ifs, 0⟩ :: gs) it (outer scope ae) (σ ++ [⟨true, .list []⟩]) fun _ σ' => KK (.ref σ.length) σ') (R : Rd B X d n A sc env F ae ρ σ s)
  (hK : ∀ ρ' C oC s' σ' k D es ep, KK (.ref k) σ' → ρ <+: ρ' → HR B ((C, oC) :: F) ρ' σ' s'.heap → oC.data = .dict es ep → StrKeys es → ρ'[k]? = some D → Same s s' → compPost (model prog w) A E use Q (.ref D) C (.ok .next) s') :
  wpAny (model prog w) A (comprehension (.ListComp elt (⟨t, iter, ifs, 0⟩ :: gs) scope pos) scope env p (newList []) false (eval iter env) use) Q E s := by
 have P := R.P
 have hsc := R.S
 obtain ⟨o1, o2, o3⟩ := compOk_of hok
 have hcells : ∀ y ∈ scope.names, y.2 ≠ .cell := fun y hy => (o3 y hy).1
 have hclos : closureFor scope env = pure (cellsOf scope.names env) := closure_ok fun q hq hf => by
  obtain ⟨_, _, h4⟩ := o3 q hq
  obtain ⟨⟨v, hv⟩, hk⟩ := h4 hf
  obtain ⟨c, oc, rv, c1, _⟩ := P.cl q.1 v hv (kind_free hsc hk)
  exact ⟨c, c1⟩
 refine wpAny_comprehension_free rfl (fun x => noSet_fold hns x) hclos o1 (fun y hy hl => hl ▸ (o3 y hy).2.1) ?_
 refine he h R fun ρ1 x rx σ1 s1 gg hx h1 => iter_ok h1.out gg.H hx fun it o s2 h3 hne H2 hI hs2 => ?_
 have hp1 := gg.pre
 have H1 := gg.H
 have hs1 := gg.same
 generalize hI' : s1.heap.objs.size = I at H2 hI
 refine wpAny_newObj_type ?_
 have H3 := H2.alloc (c := ⟨true, .list []⟩) (h' := s2.heap.push { cls := .type "list", dict := none, data := .seq ([] : List Value).toArray }) (fun _ _ e => Heap.get?_push_of_some _ e) (Nat.le_refl _) ⟨#[], 0, Heap.get?_push_size _ rfl, trivial⟩
 have hD : (ρ1 ++ [s2.heap.objs.size])[σ1.length]? = some s2.heap.objs.size := by rw [← H1.len]; simp
 generalize hDd : s2.heap.objs.size = D at H3 hD
 refine wpAny_newFunctionEnv hcells (by intro y hy; simp at hy) (fun h₁ hns₁ hsb₁ => ?_) o1
 obtain ⟨oC, es, ep, g1, g2, g3, g4⟩ := hns₁
 dsimp only at g1 hsb₁ ⊢
 generalize hHh : s2.heap.push { cls := .type "list", dict := none, data := .seq ([] : List Value).toArray } = Hh at *
 have keep : ∀ b o, Hh.get? b = some o → h₁.get? b = some o := fun b o e => hsb₁.extBut b o (Nat.ne_of_lt (Heap.lt_size e)) (Heap.get?_push_of_some _ e)
 have H4 := H3.pushF keep (Nat.le_refl _) g1
 have hlt : ∀ p ∈ (I, o) :: F, p.1 ≠ Hh.objs.size := fun p hp => Nat.ne_of_lt (Heap.lt_size (H3.fr p hp))
 have hIC : I ≠ Hh.objs.size := hlt _ (List.mem_cons_self ..)
 generalize hCc : Hh.objs.size = C at *
 have P4 : FP B ((C, oC) :: (I, o) :: F) (ρ1 ++ [D]) X env ae := (P.sub fun p hp _ => List.mem_cons_of_mem _ (List.mem_cons_of_mem _ hp)).mono (hp1.trans (List.prefix_append _ _))
 have hC : ∀ x c, env.cells.lookup x = some c → c ≠ C := fun x c e => by obtain ⟨oc, v₀, a, _⟩ := P.cellF x c e; exact hlt _ (List.mem_cons_of_mem _ a)
 have hCI : ∀ x c, env.cells.lookup x = some c → c ≠ I := fun x c e => by obtain ⟨oc, v₀, a, _⟩ := P.cellF x c e; rw [← hI']; exact Nat.ne_of_lt (Heap.lt_size (H1.fr _ a))
 have P5 := comp_frame hok hsc P4 (List.mem_cons_self ..) g2 g3 hC
 have hI5 := (hI.mono (ρ' := ρ1 ++ [D]) (List.prefix_append _ _)).of_mem (F' := (C, oC) :: (I, o) :: F) fun p hp _ => List.mem_cons_of_mem _ hp
 have loop : codeAny (model prog w) A (.compLoop (.ListComp elt (⟨t, iter, ifs, 0⟩ :: gs) scope pos) 0 (.ref I) (.ref D) (compEnvC scope (cellsOf scope.names env) C env)) (compPost (model prog w) A E use Q (.ref D) C) { s2 with heap := h₁, toks := s2.toks + 0 } := by
  refine hg h3.out hne ⟨R.A, comp_scr hcells, P5, H4⟩ hI5 hD (by simp [compEnvC, Ne.symm hIC]) (fun x c e => ?_) ?_
  ·obtain ⟨hx, hc⟩ := cellsOf_lookup e
   obtain ⟨_, _, h4⟩ := o3 _ hx
   obtain ⟨⟨v, hv⟩, hk⟩ := h4 rfl
   obtain ⟨c', oc, rv, c1, _⟩ := P.cl x v hv (kind_free hsc hk)
   rw [c1] at hc
   have : c = c' := hc
   subst this
   simp [hCI x c c1]
  ·intro ρ' F' s' ae' σ' k' hp' T' P' H' hs'
   have hn5 : (([(C, oC), (I, o)] ++ F).map (·.1)).Nodup := H4.fN
   obtain ⟨D1, D2, D3, D4⟩ := Turned.drop (G := [(C, oC), (I, o)]) T' hn5
   obtain ⟨oC', es', ep', m1, m2, m3, m4⟩ := P'.ns
   have m1 : (C, oC') ∈ F' := m1
   have inF : ∀ p ∈ F, p.1 ≠ C ∧ p.1 ≠ I := fun p hp => ⟨hlt p (List.mem_cons_of_mem _ hp), by rw [← hI']; exact Nat.ne_of_lt (Heap.lt_size (H1.fr p hp))⟩
   have HF : HR B ((C, oC') :: F) ρ' σ' s'.heap := by
    refine H' _ (fun p hp => ?_) ?_
    ·rcases List.mem_cons.mp hp with rfl | hp
     ·exact ⟨m1, by simp [Ne.symm hIC]⟩
     ·obtain ⟨n1, n2⟩ := inF p hp
      exact ⟨(D2 p (D1.2 p hp (by simp [n1, n2, compEnvC]))).1, by simp [n2]⟩
    ·rw [List.map_cons, List.nodup_cons]
     refine ⟨fun hm => ?_, R.H.fN⟩
     obtain ⟨p, hp, e⟩ := List.mem_map.mp hm
     exact (inF p hp).1 e
   exact hK ρ' C oC' s' _ _ D es' ep' k' ((hp1.trans (List.prefix_append _ _)).trans hp') HF m2 m3 (get_prefix hp' hD) ((hs1.trans hs2).trans ⟨hs'.gens, hs'.os⟩)
 exact compStart_gen (dp := 0) rfl loop (iterSelf (s := { s2 with heap := h₁, toks := s2.toks + 0 }) H4 hI5 loop)
theorem Outs.nsDrop {C : Addr} {oC : Obj} {h' : Heap} (H : HR B ((C, oC) :: F) ρ σ s.heap) (hs : Heap.SameBut C s.heap h') : HR B F ρ σ h' :=
 H.drop [C] (fun a ha => by simp at ha; subst ha; exact ⟨_, List.mem_cons_self ..⟩) (fun p hp => ⟨List.mem_cons_of_mem _ hp, by
  have := H.fN
  rw [List.map_cons, List.nodup_cons] at this
  simp only [List.mem_cons, List.not_mem_nil, or_false]
  intro e; have hm := List.mem_map_of_mem (f := (·.1)) hp; rw [e] at hm; exact this.1 hm⟩) (by have := H.fN; rw [List.map_cons, List.nodup_cons] at this; exact this.2) fun b o hb eb => hs.extBut b o (by simpa using hb) eb
theorem listComp_ok (he : EvalOk prog w B X d n (evalE X call n)) (hg : GensOk prog w B X d n call) : ListCompOk prog w B X d n call := by
 intro A E F ρ σ s Q sc scope pos env elt gs ae KK h R hQ
 cases gs with
 | nil => exact h.elim
 | cons g gs =>
  obtain ⟨t, iter, ifs, as⟩ := g
  obtain ⟨hc, h⟩ := wB.out h
  rw [Bool.and_eq_true, Bool.and_eq_true] at hc
  obtain ⟨⟨hok, hns⟩, ha⟩ := hc
  obtain rfl := beq_iff_eq.mp ha
  show wpAny (model prog w) A (comprehension (.ListComp elt (⟨t, iter, ifs, 0⟩ :: gs) scope pos) scope env _ (newList []) false (eval iter env) none) Q E s
  refine comp_core he hg hok hns h R.le fun ρ' C oC s' σ' k D es ep hk hp' H' d1 d2 hD hs' => ?_
  exact ⟨nsFind es, ⟨oC, es, ep, H'.fr _ (List.mem_cons_self ..), d1, d2, fun _ => rfl⟩, fun h' hs'' => hQ.outs hk ρ' _ { s' with heap := h' } hp' (Outs.nsDrop H' hs'') ⟨D, hD, rfl⟩ ⟨hs'.gens, hs'.os⟩⟩
end
end
section
open PySem.Spec
section
variable {prog : Program} {w : World} {A : Around} {E : Value → Shared → Prop} {B : Heap} {K : Frag} {X : Ctx} {F : List (Addr × Obj)} {ρ : Rho} {σ σ' : Sto} {s : Shared} {sc : Scope} {env : Env} {ae : Loc} {d n : Nat}
 {call : Addr → List AV → Sto → XE}
theorem expr_ok (XO : XOk B K X) (CO : CallOk prog w B X d call) : ∀ n, EvalOk prog w B X d n (evalE X call n) ∧ PartOk prog w B X d n (partE X call n) ∧ TestOk prog w B X d n (testE X call n) ∧ CmpOk prog w B X d n (cmpE X call n) ∧ GensOk prog w B X d n call
 | 0 => ⟨fun h => h.elim, fun h => h.elim, fun h => h.elim, fun h => h.elim, fun h => h.elim⟩
 | n + 1 =>
  let ⟨h1, h0, h2, h3, h4⟩ := expr_ok XO CO n
  ⟨evalE_step XO CO h1 h0 h2 h3 (listComp_ok h1 h4), part_step h1, testE_step h1 h2 h3, cmpE_step h1, gens_step h1 h2 h4⟩
noncomputable def AsgPost (B : Heap) (X : Ctx) (F : List (Addr × Obj)) (ρ : Rho) (s : Shared) (env : Env) (KK : Loc → Sto → Prop) (Q : Shared → Prop) : Prop :=
 ∀ ρ' F' s' ae' σ', KK ae' σ' → ρ <+: ρ' → Turned (ownAt env) F F' → FP B F' ρ' X env ae' → HR B F' ρ' σ' s'.heap → Same s s' → Q s'
theorem AsgPost.after {F₁ : List (Addr × Obj)} {ρ₁ : Rho} {s₁ : Shared} {KK : Loc → Sto → Prop} {Q : Shared → Prop} (h : AsgPost B X F ρ s env KK Q) (hp : ρ <+: ρ₁) (T : Turned (ownAt env) F F₁) (hs : Same s s₁) : AsgPost B X F₁ ρ₁ s₁ env KK Q :=
 fun _ _ _ _ _ k hp' T' P' H' hs' => h _ _ _ _ _ k (hp.trans hp') (T.trans T') P' H' (hs.trans hs')
theorem unpack_ok {v : AV} {n : Nat} {rv : Value} {KK : List AV → Prop} (h : wUnpack v n σ KK) (H : HR B F ρ σ s.heap) (hr : VR ρ v rv) : ∃ xs t vs, rv = .ref t ∧ s.heap.IsTuple t vs ∧ VRs ρ xs vs.toList ∧ xs.length = n ∧ KK xs := by
 cases v with
 | ref k =>
  obtain ⟨⟨b, o⟩, e1, h⟩ := wAt.out h
  cases o with
  | tuple xs =>
   obtain ⟨a, vs, m, rfl, ea, g, r⟩ := tupleAt H e1 hr
   exact ⟨xs, a, vs, rfl, ⟨_, g, rfl, m, rfl⟩, r, h.out.1, h.out.2⟩
  | _ => exact h.elim
 | _ => exact h.elim
theorem namesA_asg : ∀ {ts : List Expr} {xs : List Str}, namesA ts = some xs → (assignEach ts env).findIdx? (·.1) = none ∧ (assignEach ts env).length = xs.length ∧ ∃ ps : List Pos, ps.length = xs.length ∧ (assignEach ts env).map (·.2) = (xs.zip ps).map fun q => assign (.Name q.1 q.2) env := by
 intro ts
 induction ts with
 | nil => intro xs h; cases h; exact ⟨rfl, rfl, [], rfl, rfl⟩
 | cons t ts ih =>
  intro xs h
  cases t <;> try exact no_so h
  rename_i x p
  obtain ⟨ys, hy, rfl⟩ := Option.map_eq_some_iff.mp h
  obtain ⟨h1, h2, ps, h3, h4⟩ := ih hy
  have e : assignEach (.Name x p :: ts) env = (false, assign (.Name x p) env) :: assignEach ts env := rfl
  rw [e]
  refine ⟨?_, by simp [h2], p :: ps, by simp [h3], by simp [h4]⟩
  rw [List.findIdx?_cons]; simp [h1]
theorem asgNames_ok {Q : Unit → Shared → Prop} : ∀ {xs : List Str} {ps : List Pos} {vs : List AV} {rs : List Value} {ae ae' : Loc} {F : List (Addr × Obj)} {s : Shared}, ps.length = xs.length → asgNames env.scope xs vs ae = some ae' → FP B F ρ X env ae → HR B F ρ σ s.heap → VRs ρ vs rs →
  (∀ F' s', Turned (ownAt env) F F' → FP B F' ρ X env ae' → HR B F' ρ σ s'.heap → Same s s' → Q () s') → wpAny (model prog w) A (assignInOrder ((xs.zip ps).map fun q => assign (.Name q.1 q.2) env) rs) Q E s
 | [], _, [], [], _, _, F, s, _, h, P, H, _, hQ => by cases h; exact wpAny_pure (hQ F s Turned.refl P H Same.rfl')
 | [], _, [], _ :: _, _, _, _, _, _, _, _, _, hr, _ => hr.elim
 | [], _, _ :: _, _, _, _, _, _, _, h, _, _, _, _ => by cases h
 | _ :: _, _, [], _, _, _, _, _, _, h, _, _, _, _ => by cases h
 | _ :: _, _, _ :: _, [], _, _, _, _, _, _, _, _, hr, _ => hr.elim
 | _ :: _, [], _, _, _, _, _, _, hl, _, _, _, _, _ => by simp at hl
 | x :: xs, p :: ps, v :: vs, r :: rs, ae, ae', F, s, hl, h, P, H, hr, hQ => by
  obtain ⟨ae1, h1, h2⟩ := Option.bind_eq_some_iff.mp h
  show wpAny (model prog w) A (holding rs (assign (.Name x p) env r) >>= fun _ => assignInOrder ((xs.zip ps).map fun q => assign (.Name q.1 q.2) env) rs) Q E s
  exact wpAny_bind (wpAny_holding (wpAny_assign_Name (asg_ok h1 P H hr.1 fun F1 s1 T1 P1 H1 hs1 => asgNames_ok (by simpa using hl) h2 P1 H1 hr.2 fun F2 s2 T2 P2 H2 hs2 => hQ F2 s2 (T1.trans T2) P2 H2 (hs1.trans hs2))))
theorem asgA_ok (XO : XOk B K X) (he : EvalOk prog w B X d n (evalE X call n)) {Q : Unit → Shared → Prop} {t : Expr} {v : AV} {rv : Value} {KK : Loc → Sto → Prop} (h : asgA X call n sc t v ae σ KK) (hsc : env.scope = sc) (R : Rd B X d n A sc env F ae ρ σ s)
  (hv : VR ρ v rv) (hQ : AsgPost B X F ρ s env KK (fun s' => Q () s')) : wpAny (model prog w) A (assign t env rv) Q E s := by
 have fin : ∀ {ρ' : Rho} {σ' : Sto} {s' : Shared}, Go B F ρ s ρ' σ' s' → KK ae σ' → Q () s' := fun g k => hQ _ F _ _ _ k g.pre Turned.refl (R.P.mono g.pre) g.H g.same
 cases t with
 | Name x pos =>
  obtain ⟨ae1, h1, k⟩ := wO.out h
  exact wpAny_assign_Name (asg_ok (hsc.symm ▸ h1) R.P R.H hv fun F1 s1 T1 P1 H1 hs1 => hQ ρ F1 s1 _ _ k (List.prefix_refl _) T1 P1 H1 hs1)
 | Attribute o name pos =>
  rw [arm_assign_Attribute]
  exact wpAny_bind (wpAny_holding (he h R fun _ _ _ _ _ g1 ha h1 => wpAny_bind (wpAny_standAt (wpAny_bind (wpAny_holding (set_ok XO h1.out g1.H ha (hv.mono g1.pre) fun _ _ _ g2 k => wpAny_release (fin (g1.trans g2) k)))))))
 | Subscript o ix pos =>
  obtain ⟨_, h⟩ := wB.out h
  rw [arm_assign_Subscript]
  exact wpAny_bind (wpAny_holding (he h R fun _ _ _ _ _ g1 ha h1 => wpAny_bind (wpAny_holding (he h1 (R.go g1) fun _ _ _ _ _ g2 hb h2 =>
   wpAny_bind (wpAny_standAt (wpAny_bind (wpAny_holding (put_ok h2.out g2.H (ha.mono g2.pre) hb (hv.mono (g1.pre.trans g2.pre)) fun _ _ _ g3 k => wpAny_release (fin ((g1.trans g2).trans g3) k)))))))))
 | Tuple ts x pos =>
  obtain ⟨xs, h1, h⟩ := wO.out h
  obtain ⟨vs, tt, rs, rfl, hT, hr, hl, h⟩ := unpack_ok h R.H hv
  obtain ⟨ae1, h5, k⟩ := wO.out h
  obtain ⟨n1, n2, ps, n3, n4⟩ := namesA_asg (env := env) h1
  have hrl : rs.size = _ := hr.length
  refine wpAny_assign_Tuple R.A.hd hT (by lia -abstractProof) n1 fun h' hx => ?_
  rw [n4]
  exact asgNames_ok (s := { s with heap := h' }) n3 (hsc.symm ▸ h5) R.P (R.H.keeps fun b o e => hx b o (Nat.ne_of_lt (Heap.lt_size e)) e) hr fun F' s' T' P' H' hs' => hQ ρ F' s' _ _ k (List.prefix_refl _) T' P' H' ⟨hs'.gens, hs'.os⟩
 | _ => exact h.elim
end
end
section
open PySem.Spec
noncomputable def FlR (ρ : Rho) : Fl → Flow → Prop
 | .next, f => f = .next
 | .brk, f => f = .brk
 | .cont, f => f = .cont
 | .ret v, f => ∃ rv, f = .ret rv ∧ VR ρ v rv
section
variable {prog : Program} {w : World} {A : Around} {E : Value → Shared → Prop} {B : Heap} {K : Frag} {X : Ctx} {F : List (Addr × Obj)} {ρ : Rho} {σ σ' : Sto} {s : Shared} {sc : Scope} {env : Env} {ae : Loc} {d n : Nat}
 {call : Addr → List AV → Sto → XE}
noncomputable def StPost (B : Heap) (X : Ctx) (F : List (Addr × Obj)) (ρ : Rho) (s : Shared) (env : Env) (KK : KS) (Q : Flow → Shared → Prop) : Prop :=
 ∀ ρ' F' s' fl rf ae' σ', KK fl ae' σ' → ρ <+: ρ' → Turned (ownAt env) F F' → FP B F' ρ' X env ae' → HR B F' ρ' σ' s'.heap → FlR ρ' fl rf → Same s s' → Q rf s'
theorem StPost.after {Q : Flow → Shared → Prop} {F₁ : List (Addr × Obj)} {ρ₁ : Rho} {s₁ : Shared} {KK : KS} (h : StPost B X F ρ s env KK Q) (hp : ρ <+: ρ₁) (T : Turned (ownAt env) F F₁) (hs : Same s s₁) : StPost B X F₁ ρ₁ s₁ env KK Q :=
 fun _ _ _ _ _ _ _ k hp' T' P' H' hf hs' => h _ _ _ _ _ _ _ k (hp.trans hp') (T.trans T') P' H' hf (hs.trans hs')
variable (prog w B X) in
noncomputable def StmtOk (d n : Nat) (f : Scope → Stmt → Loc → Sto → XS) : Prop :=
 ∀ {A : Around} {E : Value → Shared → Prop} {F : List (Addr × Obj)} {ρ : Rho} {σ : Sto} {s : Shared} {Q : Flow → Shared → Prop} {sc : Scope} {env : Env} {st : Stmt} {ae : Loc} {KK : KS},
  f sc st ae σ KK → env.scope = sc → Rd B X d n A sc env F ae ρ σ s → StPost B X F ρ s env KK Q → wpAny (model prog w) A (exec st env) Q E s
theorem seq_ok {Q : Flow → Shared → Prop} {f : Scope → Stmt → Loc → Sto → XS} {KK : KS} (hf : StmtOk prog w B X d n f) (hsc : env.scope = sc) : ∀ {b : List Stmt} {ae : Loc} {σ : Sto} {ρ : Rho} {F : List (Addr × Obj)} {s : Shared}, seqA (f sc) b ae σ KK → Rd B X d n A sc env F ae ρ σ s →
  StPost B X F ρ s env KK Q → wpAny (model prog w) A (execs b env) Q E s
 | [], _, _, ρ, F, s, h, R, hQ => wpAny_execs_nil (hQ ρ F s _ _ _ _ h (List.prefix_refl _) Turned.refl R.P R.H rfl Same.rfl')
 | _ :: _, _, _, _, _, _, ⟨_, h, h2⟩, R, hQ => wpAny_execs_cons (hf h hsc R fun ρ1 F1 s1 fl rf ae1 σ1 k hp1 T1 P1 H1 hfl hs1 => by
   have k := h2 _ _ _ k
   cases fl with
   | next => cases hfl; exact seq_ok hf hsc k ⟨R.A, R.S, P1, H1⟩ (hQ.after hp1 T1 hs1)
   | brk => cases hfl; exact hQ ρ1 F1 s1 _ _ _ _ k hp1 T1 P1 H1 rfl hs1
   | cont => cases hfl; exact hQ ρ1 F1 s1 _ _ _ _ k hp1 T1 P1 H1 rfl hs1
   | ret v => obtain ⟨rv, rfl, hv⟩ := hfl; exact hQ ρ1 F1 s1 _ _ _ _ k hp1 T1 P1 H1 ⟨rv, rfl, hv⟩ hs1)
theorem while_turn {R : Result → Shared → Prop} {test : Expr} {body : List Stmt}
  (h : wpAny (model prog w) A (isTrue test env (eval test env)) (fun b s₁ => if b = true then wpAny (model prog w) A (execs body env) (fun f s₂ => match f with
    | .next | .cont => codeAny (model prog w) A (.whileLoop test body [] env) R s₂
    | .brk => R (.ok .next) s₂
    | .ret v => R (.ok (.ret v)) s₂) (notedBy (model prog w) A env fun e s' => R (.error e) s') s₁ else R (.ok .next) s₁) (notedBy (model prog w) A env fun e s' => R (.error e) s') s) :
  codeAny (model prog w) A (.whileLoop test body [] env) R s := by
 refine codeAny_of_tree ?_
 show wpAny _ A ((whileTurn test body [] env).onRaise (fun x => do noteFrame x env; theTreesLotGoes x)) _ _ s
 refine wpAny_noted ?_
 unfold whileTurn
 refine wpAny_bind (wpAny_mono h (fun b s₁ h₁ => ?_) fun _ _ x => x)
 cases b with
 | false => exact wpAny_bind (wpAny_execs_nil (wpAny_pure h₁))
 | true =>
  refine wpAny_bind (wpAny_mono h₁ (fun f s₂ h₂ => ?_) fun _ _ x => x)
  cases f with
  | next => exact wpAny_pure ⟨rfl, h₂⟩
  | cont => exact wpAny_pure ⟨rfl, h₂⟩
  | brk => exact wpAny_pure h₂
  | ret v => exact wpAny_pure h₂
theorem for_turn {R : Result → Shared → Prop} {target : Expr} {it : Value} {body : List Stmt}
  (h : wpAny (model prog w) A (pyNext it) (fun r s₁ => match r with
   | none => R (.ok .next) s₁
   | some v => wpAny (model prog w) A (letOwnedTupleGo target it v) (fun _ s₂ => wpAny (model prog w) A (assign target env v) (fun _ s₃ => wpAny (model prog w) A (execs body env) (fun f s₄ => match f with
    | .next | .cont => codeAny (model prog w) A (.forLoop target it body [] env) R s₄
    | .brk => R (.ok .next) s₄
    | .ret v => R (.ok (.ret v)) s₄) (notedBy (model prog w) A env fun e s' => R (.error e) s') s₃) (notedBy (model prog w) A env fun e s' => R (.error e) s') s₂) (notedBy (model prog w) A env fun e s' => R (.error e) s') s₁)
   (notedBy (model prog w) A env fun e s' => R (.error e) s') s) :
  codeAny (model prog w) A (.forLoop target it body [] env) R s := by
 refine codeAny_of_tree ?_
 show wpAny _ A ((forTurn target it body [] env).onRaise (fun x => do noteFrame x env; theTreesLotGoes x)) _ _ s
 refine wpAny_noted ?_
 simp only [forTurn]
 refine wpAny_bind (wpAny_standAt (wpAny_bind (wpAny_onRaise (wpAny_mono h (fun r s₁ h₁ => ?_) fun _ _ h' => wpAny_standAt h'))))
 cases r with
 | none => exact wpAny_pure ⟨rfl, codeAny_block (wpAny_execs_nil h₁)⟩
 | some v =>
  refine wpAny_bind (wpAny_mono h₁ (fun _ s₂ h₂ => wpAny_bind (wpAny_mono h₂ (fun _ s₃ h₃ => wpAny_bind (wpAny_mono h₃ (fun f s₄ h₄ => ?_) fun _ _ x => x)) fun _ _ x => x)) fun _ _ x => x)
  cases f with
  | next => exact wpAny_pure ⟨rfl, h₄⟩
  | cont => exact wpAny_pure ⟨rfl, h₄⟩
  | brk => exact wpAny_pure h₄
  | ret v => exact wpAny_pure h₄
end
end
section
open PySem.Spec
section
variable {prog : Program} {w : World} {A : Around} {E : Value → Shared → Prop} {B : Heap} {K : Frag} {X : Ctx} {F : List (Addr × Obj)} {ρ : Rho} {σ σ' : Sto} {s : Shared} {sc : Scope} {env : Env} {ae : Loc} {d n : Nat}
 {call : Addr → List AV → Sto → XE}
theorem scr_of (h : env.scope = sc) : ScR sc env.scope := h ▸ fun _ => ⟨rfl, Iff.rfl⟩
theorem while_ok {f : Scope → Stmt → Loc → Sto → XS} {KK : KS} (ht : TestOk prog w B X d n (testE X call n)) (hf : StmtOk prog w B X d n f) (hsc : env.scope = sc) {R : Result → Shared → Prop} {t : Expr} {b : List Stmt} :
  ∀ (m : Nat) {ae : Loc} {σ : Sto} {ρ : Rho} {F : List (Addr × Obj)} {s : Shared}, whileA (testE X call n sc t) (seqA (f sc) b) m ae σ KK → Rd B X d n A sc env F ae ρ σ s →
  StPost B X F ρ s env KK (fun rf s' => R (.ok rf) s') → codeAny (model prog w) A (.whileLoop t b [] env) R s
 | 0, _, _, _, _, _, h, _, _ => h.elim
 | m + 1, _, _, _, F, _, h, hR, hQ => by
  refine while_turn (ht h hR fun ρ1 c σ1 s1 g1 h1 => ?_)
  cases c with
  | false => exact hQ ρ1 F s1 _ _ _ _ (h1.out.2 rfl) g1.pre Turned.refl (hR.P.mono g1.pre) g1.H rfl g1.same
  | true =>
   obtain ⟨_, h3, h4⟩ := h1.out.1 rfl
   refine seq_ok hf hsc h3 (hR.go g1) fun ρ2 F2 s2 fl rf ae2 σ2 k hp2 T2 P2 H2 hfl hs2 => ?_
   have k := h4 _ _ _ k
   have hQ' := hQ.after (g1.pre.trans hp2) T2 (g1.same.trans hs2)
   cases fl with
   | next => cases hfl; exact while_ok ht hf hsc m k ⟨hR.A, hR.S, P2, H2⟩ hQ'
   | cont => cases hfl; exact while_ok ht hf hsc m k ⟨hR.A, hR.S, P2, H2⟩ hQ'
   | brk => cases hfl; exact hQ' ρ2 F2 s2 _ _ _ _ k (List.prefix_refl _) Turned.refl P2 H2 rfl Same.rfl'
   | ret v => obtain ⟨rv, rfl, hv⟩ := hfl; exact hQ' ρ2 F2 s2 _ _ _ _ k (List.prefix_refl _) Turned.refl P2 H2 ⟨rv, rfl, hv⟩ Same.rfl'
noncomputable def ForPost (B : Heap) (X : Ctx) (F : List (Addr × Obj)) (ρ : Rho) (s : Shared) (env : Env) (I J : Addr) (KK : KS) (Q : Flow → Shared → Prop) : Prop :=
 ∀ ρ' F' s' fl rf ae' σ', KK fl ae' σ' → ρ <+: ρ' → Turned (ownAt env ++ [I, J]) F F' → FP B F' ρ' X env ae' → (∀ F₀ : List (Addr × Obj), (∀ p ∈ F₀, p ∈ F' ∧ p.1 ∉ [I, J]) → (F₀.map (·.1)).Nodup → HR B F₀ ρ' σ' s'.heap) → FlR ρ' fl rf → Same s s' → Q rf s'
theorem ForPost.after {Q : Flow → Shared → Prop} {F₁ : List (Addr × Obj)} {ρ₁ : Rho} {s₁ : Shared} {I J : Addr} {KK : KS} (h : ForPost B X F ρ s env I J KK Q) (hp : ρ <+: ρ₁) (T : Turned (ownAt env ++ [I, J]) F F₁) (hs : Same s s₁) : ForPost B X F₁ ρ₁ s₁ env I J KK Q :=
 fun _ _ _ _ _ _ _ k hp' T' P' H' hf hs' => h _ _ _ _ _ _ _ k (hp.trans hp') (T.trans T') P' H' hf (hs.trans hs')
theorem next_tuple {it : It} {done : Prop} {K : AV → It → Sto → Prop} {P : Prop} (h : wNext it σ done K) (ht : ∀ k i, it = .enum k i → P) : wNext it σ done fun v it' σ => (∀ k i, it' = .enum k i → P) ∧ K v it' σ := by
 cases it with
 | enum k i =>
  have p := ht _ _ rfl
  obtain ⟨b, xs, e, h⟩ := wLst.out h
  show wLst _ _ _
  unfold wLst
  refine ⟨b, xs, e, ?_⟩
  cases hx : xs[i]? with
  | some x => rw [hx] at h; simp only [hx]; exact ⟨fun _ _ _ => p, h⟩
  | none => rw [hx] at h; simp only [hx]; exact h
 | list k i =>
  have h := next_kind h fun _ _ q => by cases q
  obtain ⟨b, xs, e, h⟩ := wLst.out h
  show wLst _ _ _
  unfold wLst
  refine ⟨b, xs, e, ?_⟩
  cases hx : xs[i]? with
  | some x => simp only [hx] at h ⊢; exact ⟨fun _ _ q => absurd q (h.1 _ _), h.2⟩
  | none => simp only [hx] at h ⊢; exact h
 | rng x n st => cases n with
  | zero => exact h
  | succ n => exact ⟨fun _ _ q => (by cases q), h⟩
theorem ownAt_sub {I J : Addr} (hL : env.locals ∉ [I, J]) (hC : ∀ x c, env.cells.lookup x = some c → c ∉ [I, J]) : ∀ a ∈ ownAt env, a ∉ [I, J] := by
 intro a ha
 rcases List.mem_cons.mp ha with rfl | ha
 ·exact hL
 ·obtain ⟨p, hp, e⟩ := List.mem_filterMap.mp ha
  split at e
  ·exact hC p.1 a e
  ·cases e
theorem for_ok (XO : XOk B K X) {f : Scope → Stmt → Loc → Sto → XS} {KK : KS} (he : EvalOk prog w B X d n (evalE X call n)) (hf : StmtOk prog w B X d n f) (hsc : env.scope = sc) {R : Result → Shared → Prop} {t : Expr} {b : List Stmt} {I J : Addr}
  (hown : ∀ a ∈ ownAt env, a ∉ [I, J]) (hL : env.locals ∉ [I, J]) (hC : ∀ x c, env.cells.lookup x = some c → c ∉ [I, J]) :
  ∀ (m : Nat) {it : It} {ae : Loc} {σ : Sto} {ρ : Rho} {F : List (Addr × Obj)} {s : Shared}, forA (asgA X call n sc t) (seqA (f sc) b) m it ae σ KK → (∀ k i, it = .enum k i → ∃ es x p, t = .Tuple es x p) → Rd B X d n A sc env F ae ρ σ s → ItR F ρ I J it →
  ForPost B X F ρ s env I J KK (fun rf s' => R (.ok rf) s') → codeAny (model prog w) A (.forLoop t (.ref I) b [] env) R s
 | 0, _, _, _, _, _, _, h, _, _, _, _ => h.elim
 | m + 1, _, _, _, ρ, F, s, h, htt, hR, hI, hQ => by
  refine for_turn (next_ok (next_tuple h htt) htt hR.A.ok hR.H hI (fun hd s' hs' hsm => ?_) (fun v it1 σ1 ρ1 rv s1 F1 hh hp1 T1 H1 hI1 hv hs1 => ?_))
  ·exact hQ ρ F s' _ _ _ _ hd (List.prefix_refl _) Turned.refl hR.P (fun _ hF hN => hR.H.drop [I, J] hI.at hF hN hs') rfl hsm
  ·obtain ⟨htt1, _, h3, h7⟩ := hh
   refine asgA_ok XO he h3 hsc ⟨hR.A, hR.S, (hR.P.moved T1 hL hC).mono hp1, H1⟩ hv fun ρ2 F2 s2 ae2 σ2 h5 hp2 T2 P2 H2 hs2 => ?_
   have hI2 := (hI1.mono hp2).of_mem fun p hp hpi => T2.2 p hp fun hq => hown _ hq hpi
   refine seq_ok hf hsc h5 ⟨hR.A, hR.S, P2, H2⟩ fun ρ3 F3 s3 fl rf ae3 σ3 h6 hp3 T3 P3 H3 hfl hs3 => ?_
   have h6 := h7 _ _ _ h6
   have hI3 := (hI2.mono hp3).of_mem fun p hp hpi => T3.2 p hp fun hq => hown _ hq hpi
   have hQ' := hQ.after ((hp1.trans hp2).trans hp3) ((T1.mono fun a ha => List.mem_append_right _ ha).trans ((T2.trans T3).mono fun a ha => List.mem_append_left _ ha)) ((hs1.trans hs2).trans hs3)
   have whole : ∀ F₀ : List (Addr × Obj), (∀ p ∈ F₀, p ∈ F3 ∧ p.1 ∉ [I, J]) → (F₀.map (·.1)).Nodup → HR B F₀ ρ3 σ3 s3.heap := fun _ hF hN => H3.drop [I, J] hI3.at hF hN fun _ _ _ e => e
   cases fl with
   | next => cases hfl; exact for_ok XO he hf hsc hown hL hC m h6 htt1 ⟨hR.A, hR.S, P3, H3⟩ hI3 hQ'
   | cont => cases hfl; exact for_ok XO he hf hsc hown hL hC m h6 htt1 ⟨hR.A, hR.S, P3, H3⟩ hI3 hQ'
   | brk => cases hfl; exact hQ' ρ3 F3 s3 _ _ _ _ h6 (List.prefix_refl _) Turned.refl P3 whole rfl Same.rfl'
   | ret v => obtain ⟨rv, rfl, hv⟩ := hfl; exact hQ' ρ3 F3 s3 _ _ _ _ h6 (List.prefix_refl _) Turned.refl P3 whole ⟨rv, rfl, hv⟩ Same.rfl'
end
end
section
open PySem.Spec
section
variable {prog : Program} {w : World} {A : Around} {E : Value → Shared → Prop} {B : Heap} {K : Frag} {X : Ctx} {F : List (Addr × Obj)} {ρ : Rho} {σ σ' : Sto} {s : Shared} {sc : Scope} {env : Env} {ae : Loc} {d n : Nat}
 {call : Addr → List AV → Sto → XE} {Q : Flow → Shared → Prop}
theorem swaps_no {e : Expr} {t : Option Expr} {line : Nat} {KK : KE} (h : ∀ a b c d, e ≠ .ListComp a b c d) (hv : evalE X call n sc e ae σ KK) : t ≠ none → swapsWith e t line env = pure false := by
 intro ht
 cases n with
 | zero => exact hv.elim
 | succ n => cases e <;> first | rfl | exact hv.elim | exact absurd rfl (h _ _ _ _)
theorem swapped_one {t e : Expr} (h : (isTup e && tsTup [t]) = false) : swappedStores [t] e env = pure none := by
 cases t <;> first | rfl | (cases e <;> first | rfl | exact no_ft h.symm)
theorem swapped_two {t t' e : Expr} : swappedStores [t, t'] e env = pure none := by
 cases t <;> first | rfl | (cases e <;> rfl)
theorem asg_each {t : Expr} {ts : List Expr} {v : AV} {KK : Loc → Sto → Prop} (h : asgA X call n sc t v ae σ KK) : assignEach (t :: ts) env = (false, assign t env) :: assignEach ts env := by
 cases t <;> first | rfl | exact h.elim
theorem asg_two {t : Expr} {ts : List Expr} : ∃ m ms, (assignEach (t :: ts) env).map (·.2) = m :: ms := by cases t <;> exact ⟨_, _, rfl⟩
theorem all_two {rv : Value} {t t' : Expr} {v : AV} {KK : Loc → Sto → Prop} {Q : Unit → Shared → Prop} (h0 : asgA X call n sc t v ae σ KK) (h : wpAny (model prog w) A (assign t env rv) (fun _ s1 => wpAny (model prog w) A (assignAll rv ((assignEach [t'] env).map (·.2))) Q E s1) E s) :
  wpAny (model prog w) A (assignAll rv ((assignEach [t, t'] env).map (·.2))) Q E s := by
 rw [asg_each h0, List.map_cons]
 obtain ⟨m, ms, e'⟩ := asg_two (env := env) (t := t') (ts := [])
 rw [e'] at h ⊢
 show wpAny _ A (holding [rv] (assign t env rv) >>= fun _ => assignAll rv (m :: ms)) Q E s
 exact wpAny_bind (wpAny_holding h)
theorem all_one {rv : Value} {t : Expr} {v : AV} {KK : Loc → Sto → Prop} {Q : Unit → Shared → Prop} (h0 : asgA X call n sc t v ae σ KK) (h : wpAny (model prog w) A (assign t env rv) Q E s) : wpAny (model prog w) A (assignAll rv ((assignEach [t] env).map (·.2))) Q E s := by
 rw [asg_each h0]; exact h
theorem asgTwo_ok (XO : XOk B K X) (he : EvalOk prog w B X d n (evalE X call n)) {t t' e : Expr} {pos : Pos} {KK : Loc → Sto → Prop} (h : evalE X call n sc e ae σ fun v σ => asgA X call n sc t v ae σ fun ae σ => asgA X call n sc t' v ae σ fun ae σ => KK ae σ) (hsc : env.scope = sc) (R : Rd B X d n A sc env F ae ρ σ s)
  (hQ : AsgPost B X F ρ s env KK (fun s' => Q .next s')) : wpAny (model prog w) A (exec (.Assign [t, t'] e pos) env) Q E s :=
 wpAny_Assign_stores (he h R fun ρ1 v rv σ1 s1 g1 hv h1 => all_two (Q := fun _ => Q .next) h1 (asgA_ok XO he h1 hsc (R.go g1) hv fun ρ2 F2 s2 ae2 σ2 h2 hp2 T2 P2 H2 hs2 =>
  all_one (Q := fun _ => Q .next) h2 (asgA_ok XO he h2 hsc ⟨R.A, R.S, P2, H2⟩ (hv.mono hp2) (hQ.after (g1.pre.trans hp2) T2 (g1.same.trans hs2))))) rfl swapped_two
theorem asgOne_ok (XO : XOk B K X) (he : EvalOk prog w B X d n (evalE X call n)) {t e : Expr} {pos : Pos} {KK : Loc → Sto → Prop} (ht : (isTup e && tsTup [t]) = false) (h : evalE X call n sc e ae σ fun v σ => asgA X call n sc t v ae σ fun ae σ => KK ae σ) (hsc : env.scope = sc) (R : Rd B X d n A sc env F ae ρ σ s)
  (hs : swapsWithSole [t] e pos.line env = pure false) (hQ : AsgPost B X F ρ s env KK (fun s' => Q .next s')) : wpAny (model prog w) A (exec (.Assign [t] e pos) env) Q E s :=
 wpAny_Assign_stores (he h R fun ρ1 v rv σ1 s1 g1 hv h1 => all_one (Q := fun _ => Q .next) h1 (asgA_ok XO he h1 hsc (R.go g1) hv (hQ.after g1.pre Turned.refl g1.same))) hs (swapped_one ht)
theorem asgComp_ok (he : ∀ m, m < n → EvalOk prog w B X d m (evalE X call m) ∧ GensOk prog w B X d m call) {y : Str} {py p pos : Pos} {elt : Expr} {gs : List Comprehension} {scope : Scope} {KK : Loc → Sto → Prop}
  (h : evalE X call n sc (.ListComp elt gs scope p) ae σ fun v σ => asgA X call n sc (.Name y py) v ae σ fun ae σ => KK ae σ) (hsc : env.scope = sc) (R : Rd B X d n A sc env F ae ρ σ s)
  (hs : swapsWith (.ListComp elt gs scope p) (some (.Name y py)) pos.line env = pure true) (hQ : AsgPost B X F ρ s env KK (fun s' => Q .next s')) : wpAny (model prog w) A (exec (.Assign [.Name y py] (.ListComp elt gs scope p) pos) env) Q E s := by
 rw [exec_Assign_Name_used _ _ _ _ hs]
 cases n with
 | zero => exact h.elim
 | succ n =>
 obtain ⟨heN, hgN⟩ := he n (Nat.lt_succ_self _)
 cases gs with
 | nil => exact h.elim
 | cons g gs =>
 obtain ⟨t, iter, ifs, as⟩ := g
 obtain ⟨hc, h⟩ := wB.out h
 rw [Bool.and_eq_true, Bool.and_eq_true] at hc
 obtain ⟨⟨hok, hns⟩, ha⟩ := hc
 obtain rfl := beq_iff_eq.mp ha
 refine wpAny_bind (wpAny_standAt (wpAny_bind ?_))
 show wpAny _ A (comprehension (.ListComp elt (⟨t, iter, ifs, 0⟩ :: gs) scope p) scope env _ (newList []) false (eval iter env) (some (assign (.Name y py) env)) >>= fun _ => pure ()) _ _ s
 refine wpAny_bind ?_
 refine wpAny_mono (comp_core heN hgN (Q := fun _ s' => Q .next s') (KK := fun v σ => asgA X call (n + 1) sc (.Name y py) v ae σ fun ae σ => KK ae σ) hok hns h R.le fun ρ' C oC s' σ' k D es ep hk hp' H' d1 d2 hD hs' => ?_) (fun _ s' hq => wpAny_pure (wpAny_pure hq)) fun _ _ x => x
 obtain ⟨ae4, h11, hk⟩ := wO.out hk
 show wpAny _ A (assign (.Name y py) env (.ref D)) _ _ _
 have P' : FP B ((C, oC) :: F) ρ' X env ae := (R.P.mono hp').sub fun q hq _ => List.mem_cons_of_mem _ hq
 have hnC : ∀ q ∈ F, q.1 ≠ C := fun q hq e => by
  have := H'.fN
  rw [List.map_cons, List.nodup_cons] at this
  have hm := List.mem_map_of_mem (f := (·.1)) hq
  rw [e] at hm; exact this.1 hm
 have hLC : env.locals ≠ C := by obtain ⟨oL, _, _, a, _⟩ := R.P.ns; exact hnC _ a
 have hCC : ∀ x c, env.cells.lookup x = some c → c ≠ C := fun x c e => by obtain ⟨oc, _, a, _⟩ := R.P.cellF x c e; exact hnC _ a
 have hown : ∀ a ∈ ownAt env, a ∉ [C, C] := ownAt_sub (by simp [hLC]) fun x c e => by simp [hCC x c e]
 refine wpAny_assign_Name (asg_ok (hsc.symm ▸ h11) P' H' (show VR ρ' (.ref k) (.ref D) from ⟨D, hD, rfl⟩) fun F1 s1 T1 P1 H1 hs1 => ?_)
 have hCm : (C, oC) ∈ F1 := T1.2 _ (List.mem_cons_self ..) fun q => hown C q (by simp)
 refine ⟨nsFind es, ⟨oC, es, ep, H1.fr _ hCm, d1, d2, fun _ => rfl⟩, fun h' hs'' => ?_⟩
 have hn1 : (([(C, oC)] ++ F).map (·.1)).Nodup := H'.fN
 obtain ⟨D1, D2, D3, D4⟩ := Turned.drop (G := [(C, oC)]) T1 hn1
 refine hQ ρ' (F1.drop 1) { s1 with heap := h' } _ _ hk hp' D1 (P1.sub fun q hq hq' => D4 q hq ?_) ?_ ⟨(hs'.trans hs1).gens, (hs'.trans hs1).os⟩
 ·rcases hq' with hq' | ⟨x, hq'⟩
  ·simp [hq', hLC]
  ·simp [hCC x _ hq']
 ·exact H1.drop [C] (fun a ha => by simp at ha; subst ha; exact ⟨_, hCm⟩) (fun q hq => ⟨(D2 q hq).1, by have := (D2 q hq).2; simpa using this⟩) D3 fun b o hb eb => hs''.extBut b o (by simpa using hb) eb
theorem assign_ok (XO : XOk B K X) (he : EvalOk prog w B X d n (evalE X call n)) (hg : ∀ m, m < n → EvalOk prog w B X d m (evalE X call m) ∧ GensOk prog w B X d m call) {t e : Expr} {pos : Pos} {KK : Loc → Sto → Prop} (ht : (isTup e && tsTup [t]) = false)
  (h : evalE X call n sc e ae σ fun v σ => asgA X call n sc t v ae σ fun ae σ => KK ae σ) (hsc : env.scope = sc) (R : Rd B X d n A sc env F ae ρ σ s) (hQ : AsgPost B X F ρ s env KK (fun s' => Q .next s')) : wpAny (model prog w) A (exec (.Assign [t] e pos) env) Q E s := by
 by_cases hl : ∀ a b c d, e ≠ .ListComp a b c d
 ·exact asgOne_ok XO he ht h hsc R (swaps_no hl h (by intro q; cases q)) hQ
 ·simp only [Classical.not_forall, ne_eq, Classical.not_not] at hl
  obtain ⟨elt, gs, scope, p, rfl⟩ := hl
  cases t with
  | Name y py =>
   have hsw : ∃ b, swapsWithSole [.Name y py] (.ListComp elt gs scope p) pos.line env = pure b := ⟨_, rfl⟩
   obtain ⟨b, hsw⟩ := hsw
   cases b with
   | false => exact asgOne_ok XO he ht h hsc R hsw hQ
   | true => exact asgComp_ok hg h hsc R hsw hQ
  | _ => exact asgOne_ok XO he ht h hsc R rfl hQ
end
end
section
open PySem.Spec
theorem HR.pushF' {B : Heap} {F : List (Addr × Obj)} {ρ : Rho} {σ : Sto} {h : Heap} (H : HR B F ρ σ h) {a : Addr} {o : Obj} (hna : a ∉ ρ) (hBa : B.get? a = none) (hFa : ∀ p ∈ F, p.1 ≠ a) (ho : h.get? a = some o) : HR B ((a, o) :: F) ρ σ h := by
 refine ⟨H.base, ?_, ?_, ?_, H.len, H.nd, H.obj, H.sepB, ?_⟩
 ·intro p hp; rcases List.mem_cons.mp hp with rfl | hp; exact ho; exact H.fr p hp
 ·intro p hp; rcases List.mem_cons.mp hp with rfl | hp; exact hBa; exact H.fB p hp
 ·rw [List.map_cons, List.nodup_cons]
  refine ⟨fun hm => ?_, H.fN⟩
  obtain ⟨p, hp, e⟩ := List.mem_map.mp hm
  exact hFa p hp e
 ·intro b hb p hp; rcases List.mem_cons.mp hp with rfl | hp; exact fun q => hna (show a ∈ ρ from (show a = b from q) ▸ hb); exact H.sepF b hb p hp
section
variable {prog : Program} {w : World} {A : Around} {E : Value → Shared → Prop} {B : Heap} {K : Frag} {X : Ctx} {F : List (Addr × Obj)} {ρ : Rho} {σ σ' : Sto} {s : Shared} {sc : Scope} {env : Env} {ae : Loc} {d n : Nat}
 {call : Addr → List AV → Sto → XE} {Q : Flow → Shared → Prop}
noncomputable def ForIn (B : Heap) (F : List (Addr × Obj)) (ρ : Rho) (s : Shared) (t : Expr) (KK : It → Sto → Prop) (Q : Value → Shared → Prop) : Prop :=
 ∀ ρ' I J G s' it σ', KK it σ' → ρ <+: ρ' → G.map (·.1) = (if J = I then [I] else [I, J]) → (∀ p ∈ F, p.1 ≠ I ∧ p.1 ≠ J) → HR B (G ++ F) ρ' σ' s'.heap → ItR (G ++ F) ρ' I J it → (∀ k i, it = .enum k i → ∃ es x p, t = .Tuple es x p) → Same s s' → Q (.ref I) s'
theorem isTup_out {t : Expr} (h : isTup t = true) : ∃ es x p, t = .Tuple es x p := by
 cases t <;> first | exact ⟨_, _, _, rfl⟩ | exact no_ft h
theorem enumFor_ok (he : EvalOk prog w B X d n (evalE X call n)) {Q : Value → Shared → Prop} {t x : Expr} {f : Str} {p1 p2 : Pos} {KK : It → Sto → Prop} (hn : nameA X sc f ae = some (.con (.type "enumerate"))) (htup : isTup t = true) (hst : notStar x = true)
  (h : evalE X call n sc x ae σ fun a σ => wEnumK a σ KK) (R : Rd B X d n A sc env F ae ρ σ s) (hQ : ForIn B F ρ s t KK Q) : wpAny (model prog w) A (eval (.Call (.Name f p1) [x] [] p2) env) (fun x s₁ => wpAny (model prog w) A (pyIter x) Q E s₁) E s := by
 refine wpAny_Call_NameR (name_ok hn R.S R.P R.H fun rf hf => ?_)
 obtain rfl : (Value.type "enumerate") = rf := Eq.symm hf
 refine callWith_ok (f := evalE X call n) (es := [x]) (K := fun vs σ => match vs with
  | [a] => wEnumK a σ KK
  | _ => False) he (plain_of (by rw [List.all_cons, hst]; rfl)) keeps_type h R fun ρ1 vs rs σ1 s1 g1 hrs h1 => ?_
 cases vs with
 | nil => exact h1.elim
 | cons a vs => cases vs with
  | cons => exact h1.elim
  | nil => cases a with
   | ref k =>
    obtain ⟨b, xs, e1, h1⟩ := wLst.out h1
    obtain ⟨r, rfl, hr⟩ := hrs.one
    obtain ⟨l, vs, m, rfl, el', g, rr⟩ := listAt g1.H e1 hr
    refine call_enumerate_list ⟨_, g, rfl, m, rfl⟩ fun h' e1 e2 e3 e4 => wpAny_pyIter_enum e1 ?_
    obtain ⟨oJ, q1, q2, q3⟩ := e2
    have hlt : ∀ p ∈ F, p.1 < s1.heap.objs.size := fun p hp => Heap.lt_size (g1.H.fr p hp)
    have HJ := g1.H.pushF e4 (Nat.le_refl _) q1
    have HI := HJ.pushF' (a := s1.heap.objs.size + 1) (fun hm => Nat.lt_irrefl _ (Nat.lt_of_succ_lt (g1.H.lt hm))) (by
     cases eb : B.get? (s1.heap.objs.size + 1) with
     | none => rfl
     | some o => exact absurd (Nat.lt_of_succ_lt (Heap.lt_size (g1.H.base _ _ eb))) (Nat.lt_irrefl _)) (fun p hp => by
      rcases List.mem_cons.mp hp with rfl | hp
      ·exact Nat.ne_of_lt (Nat.lt_succ_self _)
      ·exact Nat.ne_of_lt (Nat.lt_succ_of_lt (hlt p hp))) e1
    refine hQ ρ1 _ s1.heap.objs.size [_, _] _ _ _ h1 g1.pre (by rw [if_neg (Nat.ne_of_lt (Nat.lt_succ_self _))]; rfl) (fun p hp => ⟨Nat.ne_of_lt (Nat.lt_succ_of_lt (hlt p hp)), Nat.ne_of_lt (hlt p hp)⟩) HI
     ⟨Nat.ne_of_lt (Nat.lt_succ_self _), l, oJ, .none, el', List.mem_cons_of_mem _ (List.mem_cons_self ..), ⟨q2, q3⟩, List.mem_cons_self ..⟩ (fun k i _ => ?_) ⟨g1.same.gens, g1.same.os⟩
    exact isTup_out htup
   | _ => exact h1.elim
theorem nn {α : Type} {x : α} {P : Prop} (h : none = some x) : P := by cases h
theorem isEnum_out {v : Option AV} : isEnum v = true → v = some (.con (.type "enumerate")) := by
 cases v with
 | none => exact fun h => absurd h Bool.false_ne_true
 | some a => cases a with
  | con c => cases c with
   | type s => exact fun h => congrArg (fun s => some (AV.con (.type s))) (beq_iff_eq.mp h)
   | _ => exact fun h => absurd h Bool.false_ne_true
  | _ => exact fun h => absurd h Bool.false_ne_true
theorem enumIf_out {v : Option AV} {y x : Expr} (h : (if isEnum v = true then some y else none) = some x) : y = x ∧ v = some (.con (.type "enumerate")) := by
 by_cases q : isEnum v = true
 ·exact ⟨Option.some.inj ((if_pos q).symm.trans h), isEnum_out q⟩
 ·exact nn ((if_neg q).symm.trans h)
theorem enumArg_out {e x : Expr} : enumArg X sc e ae = some x → ∃ f p1 p2, e = .Call (.Name f p1) [x] [] p2 ∧ nameA X sc f ae = some (.con (.type "enumerate")) := by
 cases e with
 | Call f as ks p => cases f with
  | Name f q => cases as with
   | nil => exact nn
   | cons y as => cases as with
    | cons => exact nn
    | nil => cases ks with
     | cons => exact nn
     | nil => exact fun h => ⟨f, q, p, by rw [(enumIf_out h).1], (enumIf_out h).2⟩
  | _ => exact nn
 | _ => exact nn
theorem iterE_ok (he : EvalOk prog w B X d n (evalE X call n)) {Q : Value → Shared → Prop} {t e : Expr} {KK : It → Sto → Prop} (h : wIterE X call n sc t e ae σ KK) (R : Rd B X d n A sc env F ae ρ σ s) (hQ : ForIn B F ρ s t KK Q) :
  wpAny (model prog w) A (eval e env) (fun x s₁ => wpAny (model prog w) A (pyIter x) Q E s₁) E s := by
 unfold wIterE at h
 cases hx : enumArg X sc e ae with
 | some x =>
  rw [hx] at h
  obtain ⟨hc, h3⟩ := wB.out h
  obtain ⟨h1, h2⟩ := Bool.and_eq_true_iff.mp hc
  obtain ⟨f, p1, p2, rfl, hn⟩ := enumArg_out hx
  exact enumFor_ok he hn h1 h2 h3 R hQ
 | none =>
  rw [hx] at h
  refine he (wB.out h).2 R fun ρ1 a ra σ1 s1 g1 ha h1 => iter_ok h1.out g1.H ha fun it o s2 h2 hne H2 hI hs2 => ?_
  have hl : ∀ p ∈ F, p.1 ≠ s1.heap.objs.size := fun p hp => Nat.ne_of_lt (Heap.lt_size (g1.H.fr p hp))
  exact hQ ρ1 s1.heap.objs.size s1.heap.objs.size [_] s2 _ _ h2 g1.pre (by rw [if_pos rfl]; rfl) (fun p hp => ⟨hl p hp, hl p hp⟩) H2 hI (fun k i q => absurd q (hne k i)) (g1.same.trans hs2)
theorem iterE_fold {t e : Expr} {KK : It → Sto → Prop} (h : wIterE X call n sc t e ae σ KK) : ∀ x, foldedSetIterable e env x = pure x := by
 unfold wIterE at h
 cases hx : enumArg X sc e ae with
 | some x =>
  obtain ⟨f, p1, p2, rfl, hn⟩ := enumArg_out hx
  exact fun _ => rfl
 | none =>
  rw [hx] at h
  exact noSet_fold (wB.out h).1
end
end
section
open PySem.Spec
section
variable {prog : Program} {w : World} {A : Around} {E : Value → Shared → Prop} {B : Heap} {K : Frag} {X : Ctx} {F : List (Addr × Obj)} {ρ : Rho} {σ σ' : Sto} {s : Shared} {sc : Scope} {env : Env} {ae : Loc} {d n : Nat}
 {call : Addr → List AV → Sto → XE} {Q : Flow → Shared → Prop}
theorem wpAny_If' {test : Expr} {body orelse : List Stmt} {pos : Pos} (h : wpAny (model prog w) A (isTrue test env (eval test env)) (fun b s₁ => if b = true then wpAny (model prog w) A (execs body env) Q E s₁ else wpAny (model prog w) A (execs orelse env) Q E s₁) E s) :
  wpAny (model prog w) A (exec (.If test body orelse pos) env) Q E s := by
 rw [exec_If]
 refine wpAny_bind (wpAny_standAt (wpAny_bind (wpAny_mono h (fun b s₁ h₁ => ?_) fun _ _ x => x)))
 cases b <;> exact h₁
theorem augSub_any {o i value : Expr} {tpos pos : Pos} {op : Operator} (hi : ∀ a b c p, i ≠ .Slice a b c p)
  (h : wpAny (model prog w) A (eval o env) (fun ov s₁ => wpAny (model prog w) A (eval i env) (fun iv s₂ => wpAny (model prog w) A (getItem ov iv) (fun old s₃ =>
     wpAny (model prog w) A (eval value env) (fun v s₄ => wpAny (model prog w) A (inplaceOp op old v) (fun new s₅ =>
      wpAny (model prog w) A (setItem ov iv new) (fun _ => Q .next) E s₅) E s₄) E s₃) E s₂) E s₁) E s) :
  wpAny (model prog w) A (exec (.AugAssign (.Subscript o i tpos) op value pos) env) Q E s := by
 refine wpAny_AugAssign_SubscriptAny h fun ov iv new => ?_
 unfold augStore
 cases i <;> first | rfl | exact absurd rfl (hi _ _ _ _)
theorem aug_attr (XO : XOk B K X) (he : EvalOk prog w B X d n (evalE X call n)) {o e : Expr} {name : Str} {op : Operator} {p pos : Pos} {KK : KS} (h : evalE X call n sc o ae σ fun a σ => lGet X a name σ fun u => evalE X call n sc e ae σ fun b σ => wAug op u b σ fun v σ => lSet X a name v σ fun σ => KK .next ae σ)
  (R : Rd B X d n A sc env F ae ρ σ s) (hQ : StPost B X F ρ s env KK Q) : wpAny (model prog w) A (exec (.AugAssign (.Attribute o name p) op e pos) env) Q E s :=
 wpAny_AugAssign_AttributeAny (he h R fun _ _ _ _ _ g1 ha h1 => get_ok XO (KK := fun u σ => evalE X call n sc e ae σ fun b σ => wAug op u b σ fun v σ => lSet X _ name v σ fun σ => KK .next ae σ) h1.out g1.H ha fun _ _ _ _ _ g2 hu h2 => he h2 ((R.go g1).go g2) fun _ _ _ _ _ g3 hb h3 =>
  aug_ok h3 g3.H (hu.mono g3.pre) hb fun _ _ _ _ _ g4 hv h4 => set_ok XO h4.out g4.H (ha.mono ((g2.pre.trans g3.pre).trans g4.pre)) hv fun _ _ _ g5 k =>
   have g := (((g1.trans g2).trans g3).trans g4).trans g5
   hQ _ F _ _ _ _ _ k g.pre Turned.refl (R.P.mono g.pre) g.H rfl g.same)
theorem aug_sub (he : EvalOk prog w B X d n (evalE X call n)) {o i e : Expr} {op : Operator} {p pos : Pos} {KK : KS} (hi : notSl i = true) (h : evalE X call n sc o ae σ fun a σ => evalE X call n sc i ae σ fun j σ => lItem a j σ fun u => evalE X call n sc e ae σ fun b σ =>
     wAug op u b σ fun v σ => lPut a j v σ fun σ => KK .next ae σ) (R : Rd B X d n A sc env F ae ρ σ s) (hQ : StPost B X F ρ s env KK Q) : wpAny (model prog w) A (exec (.AugAssign (.Subscript o i p) op e pos) env) Q E s :=
 augSub_any (fun _ _ _ _ q => by subst q; cases hi) (he h R fun _ _ _ _ _ g1 ha h1 => he h1 (R.go g1) fun _ _ _ _ _ g2 hj h2 => (item_ok (K := fun u σ => evalE X call n sc e ae σ fun b σ => wAug op u b σ fun v σ => lPut _ _ v σ fun σ => KK .next ae σ) h2.out g2.H (ha.mono g2.pre) hj fun _ _ _ _ _ g3 hu h3 =>
  he h3 (((R.go g1).go g2).go g3) fun _ _ _ _ _ g4 hb h4 => aug_ok h4 g4.H (hu.mono g4.pre) hb fun _ _ _ _ _ g5 hv h5 => put_ok h5.out g5.H (ha.mono (((g2.pre.trans g3.pre).trans g4.pre).trans g5.pre)) (hj.mono ((g3.pre.trans g4.pre).trans g5.pre)) hv fun _ _ _ g6 k =>
   have g := ((((g1.trans g2).trans g3).trans g4).trans g5).trans g6
   hQ _ F _ _ _ _ _ k g.pre Turned.refl (R.P.mono g.pre) g.H rfl g.same).2)
theorem forS_ok (XO : XOk B K X) (he : EvalOk prog w B X d n (evalE X call n)) {f : Scope → Stmt → Loc → Sto → XS} (hs : StmtOk prog w B X d n f) {t e : Expr} {b : List Stmt} {pos : Pos} {KK : KS}
  (h : wIterE X call n sc t e ae σ fun it σ => lockF <| forA (asgA X call n sc t) (seqA (f sc) b) X.N it ae σ KK) (hsc : env.scope = sc) (R : Rd B X d n A sc env F ae ρ σ s) (hQ : StPost B X F ρ s env KK Q) : wpAny (model prog w) A (exec (.For t e b [] pos) env) Q E s := by
 refine wpAny_For (iterE_ok he h R fun ρ1 I J G s1 it σ1 h2 hp1 hG hne H1 hI hti hs1 => ?_) (iterE_fold h)
 have hL : env.locals ∉ [I, J] := by obtain ⟨oL, _, _, a, _⟩ := R.P.ns; have := hne _ a; simp [this.1, this.2]
 have hC : ∀ x c, env.cells.lookup x = some c → c ∉ [I, J] := fun x c q => by obtain ⟨oc, _, a, _⟩ := R.P.cellF x c q; have := hne _ a; simp [this.1, this.2]
 refine for_ok XO he hs hsc (ownAt_sub hL hC) hL hC X.N h2.out hti ⟨R.A, R.S, (R.P.mono hp1).sub fun p hp _ => List.mem_append_right _ hp, H1⟩ hI fun ρ2 F2 s2 fl rf ae2 σ2 k hp2 T2 P2 H2 hfl hs2 => ?_
 obtain ⟨D1, D2, D3, D4⟩ := Turned.drop T2 H1.fN
 have hG1 : ∀ a, a ∈ [I, J] ↔ a ∈ G.map (·.1) := by
  intro a
  rw [hG]
  split
  ·rename_i q; simp [q]
  ·exact Iff.rfl
 refine hQ ρ2 (F2.drop G.length) s2 fl rf _ _ k (hp1.trans hp2) ⟨D1.1, fun p hp hn => D1.2 p hp fun hq => ?_⟩ (P2.sub fun p hp hq => D4 p hp fun hm => ?_) (H2 _ (fun p hp => ⟨(D2 p hp).1, fun hq => (D2 p hp).2 ((hG1 _).mp hq)⟩) D3) hfl (hs1.trans hs2)
 ·rcases List.mem_append.mp hq with hq | hq
  ·exact hn hq
  ·have := hne p hp
   simp [this.1, this.2] at hq
 ·have := (hG1 _).mpr hm
  rcases hq with hq | ⟨x, hq⟩
  ·rw [hq] at this; exact hL this
  ·exact hC x _ hq this
theorem execS_step (XO : XOk B K X) (hx : ∀ m, EvalOk prog w B X d m (evalE X call m) ∧ PartOk prog w B X d m (partE X call m) ∧ TestOk prog w B X d m (testE X call m) ∧ CmpOk prog w B X d m (cmpE X call m) ∧ GensOk prog w B X d m call)
  (hs : StmtOk prog w B X d n (execS X call n)) : StmtOk prog w B X d (n + 1) (execS X call (n + 1)) := by
 intro A E F ρ σ s Q sc env st ae KK h hsc R hQ
 obtain ⟨he, -, ht, -, -⟩ := hx n
 have fin : ∀ {ρ' : Rho} {σ' : Sto} {s' : Shared} {fl : Fl} {rf : Flow}, Go B F ρ s ρ' σ' s' → KK fl ae σ' → FlR ρ' fl rf → Q rf s' := fun g k hf => hQ _ F _ _ _ _ _ k g.pre Turned.refl (R.P.mono g.pre) g.H hf g.same
 have hA : ∀ {KK'}, (∀ ae σ, KK' ae σ → KK .next ae σ) → AsgPost B X F ρ s env KK' (fun s' => Q .next s') := fun hk _ _ _ _ _ k hp T P H hs => hQ _ _ _ _ _ _ _ (hk _ _ k) hp T P H rfl hs
 cases st with
 | Expr e pos => cases e with
  | Call f as ks p =>
   refine wpAny_Expr (he h R.le fun ρ1 v rv σ1 s1 g1 hv h1 => ?_) (by unfold interactive; rw [R.P.kind]; rfl) rfl
   cases v with
   | none => cases hv; exact fin g1 h1 rfl
   | _ => exact h1.elim
  | _ => exact h.elim
 | Break pos => exact wpAny_Break (fin (.refl R.H) h rfl)
 | Return e pos => cases e with
  | none => exact h.elim
  | some e => exact wpAny_Return_some (he h R.le fun ρ1 v rv σ1 s1 g1 hv h1 => fin g1 h1 ⟨rv, rfl, hv⟩)
 | Assign ts e pos =>
  obtain ⟨ht, h⟩ := wB.out h
  cases ts with
  | nil => exact h.elim
  | cons t ts => cases ts with
   | nil => exact assign_ok XO he (fun m _ => ⟨(hx m).1, (hx m).2.2.2.2⟩) ((Bool.not_eq_true' _).mp ht) h hsc R.le (hA fun _ _ k => k)
   | cons t' ts => cases ts with
    | nil => exact asgTwo_ok XO he h hsc R.le (hA fun _ _ k => k)
    | cons => exact h.elim
 | AugAssign t op e pos => cases t with
  | Name x p =>
   obtain ⟨a, h1, h⟩ := wO.out h
   refine wpAny_AugAssign_Name (load_ok h1 R.S R.P R.H fun ra ha => he h R.le fun ρ1 b rb σ1 s1 g1 hb h2 => aug_ok h2 g1.H (ha.mono g1.pre) hb fun ρ2 v rv σ2 s2 g2 hv h3 => ?_).1
   obtain ⟨ae1, h4, k⟩ := wO.out h3
   have g := g1.trans g2
   exact asg_ok (hsc.symm ▸ h4) (R.P.mono g.pre) g2.H hv fun F4 s4 T4 P4 H4 hs4 => hQ ρ2 F4 s4 _ _ _ _ k g.pre T4 P4 H4 rfl (g.same.trans hs4)
  | Attribute o name p => exact aug_attr XO he h R.le hQ
  | Subscript o ix p => exact aug_sub he (wB.out h).1 (wB.out h).2 R.le hQ
  | _ => exact h.elim
 | If t b o pos =>
  refine wpAny_If' (ht h R.le fun ρ1 c σ1 s1 g1 h1 => ?_)
  cases c with
  | true => exact seq_ok hs hsc (h1.out.1 rfl) (R.le.go g1) (hQ.after g1.pre Turned.refl g1.same)
  | false => exact seq_ok hs hsc (h1.out.2 rfl) (R.le.go g1) (hQ.after g1.pre Turned.refl g1.same)
 | While t b o pos => cases o with
  | nil =>
   have h : lockW (whileA (testE X call n sc t) (seqA (execS X call n sc) b) X.N ae σ KK) := h
   exact wpAny_While (while_ok ht hs hsc X.N h.out R.le hQ)
  | cons => exact h.elim
 | For t e b o pos => cases o with
  | nil => exact forS_ok XO he hs h hsc R.le hQ
  | cons => exact h.elim
 | _ => exact h.elim
theorem stmt_ok (XO : XOk B K X) (CO : CallOk prog w B X d call) : ∀ n, StmtOk prog w B X d n (execS X call n)
 | 0 => fun h => h.elim
 | n + 1 => execS_step XO (expr_ok XO CO) (stmt_ok XO CO n)
end
end
section
open PySem.Spec
structure FnOk (B : Heap) (a : Addr) (fn : Fn) : Prop where
 nodup : fn.params.Nodup
 keys : (fn.scope.names.map (·.1)).Nodup
 plain : fn.scope.isCoroutine = false ∧ fn.scope.isGenerator = false ∧ fn.scope.kind = .function ∧ fn.scope.names.lookup ("__classdict__" : Str) = none
 pars : ∀ x ∈ fn.params, fn.scope.names.lookup x = some .local ∨ fn.scope.names.lookup x = some .cell
 nofree : ∀ p ∈ fn.scope.names, p.2 ≠ .free
 obj : ∃ o fd, B.get? a = some o ∧ o.data = .func fd ∧ fd.body = .stmts fn.body ∧ fd.closure = [] ∧ fd.scope = fn.scope ∧ fd.globals = mainGlobals ∧ fd.builtins = builtinsNs ∧ B.CodeRec fd.code fd.qualname ∧
  ∀ (s : Shared) (rs : List Value), (∀ b o, B.get? b = some o → s.heap.get? b = some o) → rs.length ≤ fn.params.length → fn.params.length ≤ rs.length + fn.dflts.length →
   ∃ ds, VRs [] (fn.dflts.drop (rs.length + fn.dflts.length - fn.params.length)) ds ∧ BindsTo s fd ⟨rs, []⟩ (fn.params.zip (rs ++ ds))
theorem cellsFrom_some {x : Str} : ∀ (names : List (Str × NameKind)) (n : Nat) (acc : List (Str × Addr)), ((x, NameKind.cell) ∈ names ∨ ∃ c, acc.lookup x = some c) → ∃ c, (cellsFrom n names acc).lookup x = some c
 | [], n, acc, h => by
  rcases h with h | h
  ·cases h
  ·exact h
 | (name, kind) :: r, n, acc, h => by
  unfold cellsFrom
  split
  ·rename_i hk
   refine cellsFrom_some r _ _ ?_
   rcases h with h | ⟨c, h⟩
   ·rcases List.mem_cons.mp h with e | h
    ·cases e; exact .inr ⟨n, by simp⟩
    ·exact .inl h
   ·by_cases hx : x = name
    ·subst hx; exact .inr ⟨n, by simp⟩
    ·exact .inr ⟨c, by rw [List.lookup_cons, beq_eq_false_iff_ne.mpr hx]; exact h⟩
  ·rename_i hk
   refine cellsFrom_some r _ _ ?_
   rcases h with h | h
   ·rcases List.mem_cons.mp h with e | h
    ·cases e; exact absurd rfl hk
    ·exact .inl h
   ·exact .inr h
theorem cellsFrom_keys : ∀ (names : List (Str × NameKind)) (n : Nat) (acc : List (Str × Addr)), (names.map (·.1)).Nodup → (acc.map (·.1)).Nodup → (∀ x ∈ acc.map (·.1), x ∉ names.map (·.1)) → ((cellsFrom n names acc).map (·.1)).Nodup
 | [], _, _, _, h, _ => h
 | (name, kind) :: r, n, acc, hn, ha, hd => by
  rw [List.map_cons, List.nodup_cons] at hn
  unfold cellsFrom
  split
  ·refine cellsFrom_keys r _ _ hn.2 ?_ ?_
   ·rw [List.map_cons, List.nodup_cons]
    exact ⟨fun hm => hd _ hm (by simp), ha⟩
   ·intro x hx
    rw [List.map_cons] at hx
    rcases List.mem_cons.mp hx with rfl | hx
    ·exact hn.1
    ·exact fun hm => hd x hx (by rw [List.map_cons]; exact List.mem_cons_of_mem _ hm)
  ·exact cellsFrom_keys r _ _ hn.2 ha fun x hx hm => hd x hx (by rw [List.map_cons]; exact List.mem_cons_of_mem _ hm)
theorem lookup_of_nodup : ∀ {l : List (Str × Addr)} {p : Str × Addr}, (l.map (·.1)).Nodup → p ∈ l → l.lookup p.1 = some p.2
 | q :: l, p, hn, hp => by
  rw [List.map_cons, List.nodup_cons] at hn
  rcases List.mem_cons.mp hp with rfl | hp'
  ·obtain ⟨a, b⟩ := p; simp
  ·have hne : p.1 ≠ q.1 := fun e => hn.1 (e ▸ List.mem_map_of_mem hp')
   obtain ⟨a, b⟩ := q
   rw [List.lookup_cons, beq_eq_false_iff_ne.mpr hne]
   exact lookup_of_nodup hn.2 hp'
theorem bindL_none {kindOf : Str → Option NameKind} {x : Str} : ∀ (binds : List (Str × Value)) (m : Str → Option Value), x ∉ binds.map (·.1) → bindL kindOf binds m x = m x
 | [], _, _ => rfl
 | (n, v) :: r, m, h => by
  simp only [List.map_cons, List.mem_cons, not_or] at h
  unfold bindL
  rw [bindL_none r _ h.2]
  split
  ·exact if_neg h.1
  ·rfl
theorem bindC_none {kindOf : Str → Option NameKind} {x : Str} : ∀ (binds : List (Str × Value)) (m : Str → Option Value), x ∉ binds.map (·.1) → bindC kindOf binds m x = m x
 | [], _, _ => rfl
 | (n, v) :: r, m, h => by
  simp only [List.map_cons, List.mem_cons, not_or] at h
  unfold bindC
  rw [bindC_none r _ h.2]
  split
  ·rfl
  ·exact if_neg h.1
theorem bindL_some {kindOf : Str → Option NameKind} {x : Str} {v : Value} (hk : kindOf x = some .local) : ∀ (binds : List (Str × Value)) (m : Str → Option Value), (binds.map (·.1)).Nodup → binds.lookup x = some v → bindL kindOf binds m x = some v
 | [], _, _, h => by cases h
 | (n, u) :: r, m, hn, h => by
  rw [List.map_cons, List.nodup_cons] at hn
  unfold bindL
  by_cases hx : x = n
  ·subst hx
   simp at h; subst h
   rw [bindL_none r _ hn.1, if_pos hk]; exact if_pos rfl
  ·rw [List.lookup_cons, beq_eq_false_iff_ne.mpr hx] at h
   exact bindL_some hk r _ hn.2 h
theorem bindC_some {kindOf : Str → Option NameKind} {x : Str} {v : Value} (hk : kindOf x ≠ some .local) : ∀ (binds : List (Str × Value)) (m : Str → Option Value), (binds.map (·.1)).Nodup → binds.lookup x = some v → bindC kindOf binds m x = some v
 | [], _, _, h => by cases h
 | (n, u) :: r, m, hn, h => by
  rw [List.map_cons, List.nodup_cons] at hn
  unfold bindC
  by_cases hx : x = n
  ·subst hx
   simp at h; subst h
   rw [bindC_none r _ hn.1, if_neg hk]; exact if_pos rfl
  ·rw [List.lookup_cons, beq_eq_false_iff_ne.mpr hx] at h
   exact bindC_some hk r _ hn.2 h
theorem zip_look {ρ : Rho} {x : Str} {v : AV} : ∀ {ps : List Str} {as : List AV} {rs : List Value}, VRs ρ as rs → (ps.zip as).lookup x = some v → ∃ rv, (ps.zip rs).lookup x = some rv ∧ VR ρ v rv := by
 intro ps
 induction ps with
 | nil => intro as rs _ h; cases h
 | cons p ps ih =>
  intro as rs hr h
  cases as with
  | nil => cases h
  | cons a as =>
   cases rs with
   | nil => exact hr.elim
   | cons r rs =>
    rw [List.zip_cons_cons, List.lookup_cons] at h ⊢
    by_cases hx : x = p
    ·subst hx; simp at h ⊢; subst h; exact hr.1
    ·rw [beq_eq_false_iff_ne.mpr hx] at h ⊢
     exact ih hr.2 h
theorem zip_keys : ∀ {ps : List Str} {rs : List Value}, (∀ q ∈ ps.zip rs, q.1 ∈ ps) ∧ (ps.Nodup → ((ps.zip rs).map (·.1)).Nodup) := by
 intro ps
 induction ps with
 | nil => intro rs; exact ⟨fun q h => (by cases h), fun _ => List.nodup_nil⟩
 | cons p ps ih =>
  intro rs
  cases rs with
  | nil => exact ⟨fun q h => (by cases h), fun _ => List.nodup_nil⟩
  | cons r rs =>
   obtain ⟨h1, h2⟩ := ih (rs := rs)
   refine ⟨fun q h => ?_, fun hn => ?_⟩
   ·rcases List.mem_cons.mp h with rfl | h
    ·exact List.mem_cons_self ..
    ·exact List.mem_cons_of_mem _ (h1 q h)
   ·rw [List.nodup_cons] at hn
    rw [List.zip_cons_cons, List.map_cons, List.nodup_cons]
    refine ⟨fun hm => ?_, h2 hn.2⟩
    obtain ⟨q, hq, e⟩ := List.mem_map.mp hm
    exact hn.1 (show p ∈ ps from (show q.1 = p from e) ▸ h1 q hq)
theorem cells_ledger {B : Heap} {ρ : Rho} {σ : Sto} {h : Heap} : ∀ (cs : List (Str × Addr)) {F : List (Addr × Obj)}, HR B F ρ σ h → (cs.Pairwise fun x y => x.2 ≠ y.2) → (∀ p ∈ cs, p.2 ∉ ρ ∧ B.get? p.2 = none ∧ (∀ q ∈ F, q.1 ≠ p.2) ∧ ∃ o, h.get? p.2 = some o) →
  ∃ G : List (Addr × Obj), HR B (G ++ F) ρ σ h ∧ (∀ p ∈ cs, ∃ o, (p.2, o) ∈ G) ∧ ∀ q ∈ G, ∃ p ∈ cs, p.2 = q.1
 | [], F, H, _, _ => ⟨[], H, fun p hp => (by cases hp), fun q hq => (by cases hq)⟩
 | p :: cs, F, H, hp, hc => by
  obtain ⟨h1, h2⟩ := List.pairwise_cons.mp hp
  obtain ⟨G, H', g1, g2⟩ := cells_ledger cs H h2 fun q hq => hc q (List.mem_cons_of_mem _ hq)
  obtain ⟨c1, c2, c3, o, c4⟩ := hc p (List.mem_cons_self ..)
  refine ⟨(p.2, o) :: G, H'.pushF' c1 c2 (fun q hq => ?_) c4, fun q hq => ?_, fun q hq => ?_⟩
  ·rcases List.mem_append.mp hq with hq | hq
   ·obtain ⟨r, hr, e⟩ := g2 q hq
    rw [← e]; exact fun e' => h1 r hr e'.symm
   ·exact c3 q hq
  ·rcases List.mem_cons.mp hq with rfl | hq
   ·exact ⟨o, List.mem_cons_self ..⟩
   ·obtain ⟨o', ho⟩ := g1 q hq; exact ⟨o', List.mem_cons_of_mem _ ho⟩
  ·rcases List.mem_cons.mp hq with rfl | hq
   ·exact ⟨p, List.mem_cons_self .., rfl⟩
   ·obtain ⟨r, hr, e⟩ := g2 q hq; exact ⟨r, List.mem_cons_of_mem _ hr, e⟩
section
variable {prog : Program} {w : World} {A : Around} {E : Value → Shared → Prop} {B : Heap} {K : Frag} {X : Ctx} {F : List (Addr × Obj)} {ρ : Rho} {σ σ' : Sto} {s : Shared} {d : Nat}
theorem callA_ok (XO : XOk B K X) (hlim : B.NoLimit) (hfn : ∀ a fn, X.fn a = some fn → FnOk B a fn) : ∀ d, CallOk prog w B X d (callA X d) := by
 intro d
 induction d with
 | zero => intro f args σ K h; exact h.elim
 | succ d ih =>
  intro f args σ KK h
  obtain ⟨fn, h1, h2⟩ := wO.out h
  obtain ⟨ae, h3, h5⟩ := wO.out h2
  refine ⟨⟨fn, h1⟩, fun {A F ρ s R rs} hA H Gl hr hQ => ?_⟩
  obtain ⟨fnd, fkeys, ⟨p1, p2, p3, p4⟩, fpars, fnf, o, fd, b1, b2, b3, b4, b5, b6, b7, b8, b9⟩ := hfn f fn h1
  unfold bindA at h3
  split at h3
  rotate_left
  ·cases h3
  rename_i hlen
  cases h3
  have hrl := hr.length
  obtain ⟨ds, hds, hbind⟩ := b9 s rs H.base (by lia -abstractProof) (by lia -abstractProof)
  have hr' : VRs ρ (args ++ fn.dflts.drop (args.length + fn.dflts.length - fn.params.length)) (rs ++ ds) := hr.append (by rw [← hrl]; exact hds.mono List.nil_prefix)
  have hlim' := hlim.keeps H.base
  obtain ⟨k1, k2⟩ := zip_keys (ps := fn.params) (rs := rs ++ ds)
  have hkind : ∀ x ∈ fn.params.zip (rs ++ ds), fd.scope.names.lookup x.1 = some .local ∨ (fd.scope.names.lookup x.1 = some .cell ∧ ((cellsFrom (s.heap.objs.size + 1) fd.scope.names []).lookup x.1).isSome = true) := by
   intro x hx
   rw [b5]
   rcases fpars x.1 (k1 x hx) with q | q
   ·exact .inl q
   ·obtain ⟨c, hc⟩ := cellsFrom_some fn.scope.names (s.heap.objs.size + 1) [] (.inl (mem_of_lookup q))
    exact .inr ⟨q, by rw [hc]; rfl⟩
  have hdp := hA.dp
  refine codeAny_call_function (by unfold recursionLimit; lia -abstractProof) (H.base _ _ b1) b2 (b5 ▸ p1) (b5 ▸ p2) b3 (b8.keeps H.base) ?_
  refine hbind _ _ _ _ ?_
  rw [b4]
  refine wpAny_newFunctionEnv_cells (b5 ▸ p3) hkind fun env he s1 x => ⟨hlim'.keeps x.toInCall.keep, codeAny_func ?_⟩
  have e1 : env.scope = fn.scope := by rw [he]; exact b5
  have e2 : env.locals = s.heap.objs.size := by rw [he]; rfl
  have e3 : env.globals = mainGlobals := by rw [he]; exact b6
  have e4 : env.builtins = builtinsNs := by rw [he]; exact b7
  have e5 : env.code = fd.code := by rw [he]; rfl
  have e6 : env.cells = cellsFrom (s.heap.objs.size + 1) fn.scope.names [] := by rw [he, ← b5]; rfl
  clear he
  obtain ⟨oL, es, ep, g1, g2, g3, g4⟩ := x.toInCall.ns
  have hsame : Same s s1 := by obtain ⟨h', tk, e⟩ := x.toInCall.same; rw [e]; exact ⟨rfl, rfl⟩
  have HL : HR B ((env.locals, oL) :: F) ρ σ s1.heap := H.pushF x.toInCall.keep (by rw [e2]; exact Nat.le_refl _) g1
  have big : ∀ n c, (n, c) ∈ env.cells → s.heap.objs.size < c := fun n c hm => e2 ▸ x.above n c hm
  have oldF : ∀ q ∈ F, q.1 < s.heap.objs.size := fun q hq => Heap.lt_size (H.fr q hq)
  /- every listed cell is the one that its name finds -/
  have cellObj : ∀ p ∈ env.cells, ∃ o v₀, s1.heap.get? p.2 = some o ∧ o.data = .cell v₀ := fun p hp => by
   have hl : env.cells.lookup p.1 = some p.2 := lookup_of_nodup (by rw [e6]; exact cellsFrom_keys _ _ _ fkeys List.nodup_nil (by simp)) hp
   obtain ⟨o, q1, q2⟩ := x.cell p.1 p.2 hl
   exact ⟨o, _, q1, q2⟩
  obtain ⟨G, HG, gm, gk⟩ := cells_ledger env.cells HL x.apart fun p hp => by
   have hb := big p.1 p.2 hp
   refine ⟨fun hm => Nat.lt_irrefl _ (Nat.lt_trans hb (H.lt hm)), ?_, fun q hq => ?_, ?_⟩
   ·cases eb : B.get? p.2 with
    | none => rfl
    | some o => exact absurd (Nat.lt_trans hb (Heap.lt_size (H.base _ _ eb))) (Nat.lt_irrefl _)
   ·rcases List.mem_cons.mp hq with rfl | hq
    ·exact Nat.ne_of_lt (e2 ▸ hb)
    ·exact Nat.ne_of_lt (Nat.lt_trans (oldF q hq) hb)
   ·obtain ⟨o, _, h1, _⟩ := cellObj p hp; exact ⟨o, h1⟩
  have inL : (env.locals, oL) ∈ G ++ (env.locals, oL) :: F := List.mem_append_right _ (List.mem_cons_self ..)
  have cellIn : ∀ y c, env.cells.lookup y = some c → ∃ oc, (c, oc) ∈ G ++ (env.locals, oL) :: F ∧ oc.data = .cell (bindC env.kindOf (fn.params.zip (rs ++ ds)) (fun _ => none) y) := by
   intro y c hc
   obtain ⟨oc, hoc⟩ := gm _ (mem_of_lookup hc)
   have hm : (c, oc) ∈ G ++ (env.locals, oL) :: F := List.mem_append_left _ hoc
   obtain ⟨o', h1, h2⟩ := x.cell y c hc
   have := HG.fr _ hm
   rw [show ((c, oc) : Addr × Obj).1 = c from rfl, h1] at this
   cases this
   exact ⟨_, hm, h2⟩
  have P : FP B (G ++ (env.locals, oL) :: F) ρ X env (fn.params.zip (args ++ fn.dflts.drop (args.length + fn.dflts.length - fn.params.length))) := by
   refine ⟨by rw [e1]; exact p3, e3, e4, Gl, ⟨oL, es, ep, inL, g2, g3, fun y v hy hk => ?_⟩, fun y v hy hk => ?_, fun y hk => ?_, fun y c hc => ?_, fun y z c hy hz => ?_, fun y c hc => ?_, ?_, ⟨fd.qualname, e5 ▸ b8⟩⟩
   ·obtain ⟨rv, hrv, hv⟩ := zip_look hr' hy
    exact ⟨rv, (g4 y).trans (bindL_some hk _ _ (k2 fnd) hrv), hv⟩
   ·obtain ⟨rv, hrv, hv⟩ := zip_look hr' hy
    have hcell : env.kindOf y = some .cell := by
     rcases hk with hk | hk
     ·exact hk
     ·have : (y, NameKind.free) ∈ fn.scope.names := mem_of_lookup (e1 ▸ hk)
      exact absurd rfl (fnf _ this)
    obtain ⟨c, hc⟩ := cellsFrom_some fn.scope.names (s.heap.objs.size + 1) [] (.inl (mem_of_lookup (show fn.scope.names.lookup y = some .cell from e1 ▸ hcell)))
    rw [← e6] at hc
    obtain ⟨oc, hm, hd⟩ := cellIn y c hc
    refine ⟨c, oc, rv, hc, hm, ?_, hv⟩
    rw [hd, bindC_some (by rw [hcell]; intro q; cases q) _ _ (k2 fnd) hrv]
   ·obtain ⟨c, hc⟩ := cellsFrom_some fn.scope.names (s.heap.objs.size + 1) [] (.inl (mem_of_lookup (show fn.scope.names.lookup y = some .cell from e1 ▸ hk)))
    exact ⟨c, e6 ▸ hc⟩
   ·obtain ⟨oc, hm, hd⟩ := cellIn y c hc
    exact ⟨oc, _, hm, hd⟩
   ·exact name_of_addr x.apart (mem_of_lookup hy) (mem_of_lookup hz)
   ·exact Nat.ne_of_gt (x.above y c (mem_of_lookup hc))
   ·show env.scope.names.lookup _ = none
    rw [e1]; exact p4
  refine seq_ok (stmt_ok XO ih 40) e1 h5 ⟨⟨hA.hd, ?_, ?_⟩, e1 ▸ fun _ => ⟨rfl, Iff.rfl⟩, P, HG⟩ fun ρ' F' s' fl rf ae' σ1 k hp' T' P' H' hfl hs' => ?_
  ·show A.depth + 1 + 2 * d + min 40 1 ≤ 900
   lia -abstractProof
  ·have := hA.un
   show A.units + 3 + 150 * d + 3 * 40 + 100 ≤ 9000
   lia -abstractProof
  ·have HF : HR B F ρ' σ1 s'.heap := by
    refine H'.drop [] (by simp) (fun p hp => ⟨T'.2 p (List.mem_append_right _ (List.mem_cons_of_mem _ hp)) fun hm => ?_, by simp⟩) H.fN fun b o _ e => e
    have hlt := oldF p hp
    rcases List.mem_cons.mp hm with q | hm
    ·exact Nat.lt_irrefl _ (by rw [q, e2] at hlt; exact hlt)
    ·obtain ⟨q, hq, e⟩ := List.mem_filterMap.mp hm
     split at e
     ·have := big q.1 p.1 (mem_of_lookup e)
      exact Nat.lt_irrefl _ (Nat.lt_trans this hlt)
     ·cases e
   have hss := hsame.trans hs'
   cases fl with
   | next => cases hfl; exact hQ ρ' .none .none σ1 s' ⟨hp', HF, hss⟩ rfl k
   | brk => exact k.elim
   | cont => exact k.elim
   | ret u => obtain ⟨rv, rfl, hv⟩ := hfl; exact hQ ρ' u rv σ1 s' ⟨hp', HF, hss⟩ hv k
end
end
section
open PySem.Spec
theorem zip_lookup_get {names : List Str} (hn : names.Nodup) {vs : List Value} : ∀ {i : Nat} {x : Str}, names[i]? = some x → (names.zip vs).lookup x = vs[i]? := by
 induction names generalizing vs with
 | nil => intro i x h; simp at h
 | cons a names ih =>
  intro i x h
  rw [List.nodup_cons] at hn
  cases vs with
  | nil => simp
  | cons v vs =>
   cases i with
   | zero => simp at h; subst h; simp
   | succ i =>
    have h' : names[i]? = some x := by simpa using h
    have hx : x ≠ a := by rintro rfl; exact hn.1 (List.mem_of_getElem? h')
    rw [List.zip_cons_cons, List.lookup_cons, beq_eq_false_iff_ne.mpr hx]
    simpa using ih hn.2 h'
theorem filterMap_of {g : Str → Option (Str × Value)} : ∀ {names : List Str} {vs : List Value}, vs.length = names.length → (∀ (i : Nat) (x : Str), names[i]? = some x → g x = (vs[i]?).map (x, ·)) → names.filterMap g = names.zip vs := by
 intro names
 induction names with
 | nil => intro vs _ _; rfl
 | cons a names ih =>
  intro vs hl hg
  cases vs with
  | nil => simp at hl
  | cons v vs =>
   have h0 := hg 0 a rfl
   rw [List.filterMap_cons, h0]
   simp only [List.getElem?_cons_zero, Option.map_some, List.zip_cons_cons]
   congr 1
   exact ih (by simpa using hl) fun i x h => by simpa using hg (i + 1) x (by simpa using h)
theorem filterMap_zip {names : List Str} (hn : names.Nodup) {vs : List Value} (hl : vs.length = names.length) : (names.filterMap fun n => ((names.zip vs).lookup n).map (n, ·)) = names.zip vs :=
 filterMap_of hl fun i x h => by rw [zip_lookup_get hn h]
noncomputable def slotStep (s : List (Str × Value)) (x : Str × Value) : List (Str × Value) := if (s.lookup x.1).isNone then s ++ [(x.1, x.2)] else s
theorem forIn_slots : ∀ (l slots : List (Str × Value)), (forIn l slots fun x s => if (s.lookup x.1).isNone = true then pure (ForInStep.yield (s ++ [(x.1, x.2)])) else pure (ForInStep.yield s) : Sem (List (Str × Value))) = pure (l.foldl slotStep slots)
 | [], _ => rfl
 | x :: l, slots => by
  rw [List.forIn_cons, List.foldl_cons]
  have := forIn_slots l (slotStep slots x)
  unfold slotStep at this ⊢
  split
  ·rename_i h; rw [if_pos h] at this; exact this
  ·rename_i h; rw [if_neg h] at this; exact this
theorem lookup_append {x : Str} : ∀ {a b : List (Str × Value)}, (a ++ b).lookup x = (a.lookup x).or (b.lookup x)
 | [], b => by simp
 | (n, v) :: a, b => by
  rw [List.cons_append, List.lookup_cons, List.lookup_cons, lookup_append]
  cases x == n <;> simp
theorem lookup_slots {x : Str} : ∀ {l slots : List (Str × Value)}, (l.foldl slotStep slots).lookup x = (slots.lookup x).or (l.lookup x)
 | [], slots => by simp
 | (n, v) :: l, slots => by
  rw [List.foldl_cons, lookup_slots]
  unfold slotStep
  by_cases hx : x = n
  ·subst hx
   cases hs : slots.lookup x <;> simp [hs, lookup_append]
  ·cases hs : slots.lookup n <;> simp [hs, lookup_append, List.lookup_cons, beq_eq_false_iff_ne.mpr hx]
theorem wp_neg {α : Type} {M : Model} {A : Around} {E : Value → Shared → Prop} {Q : α → Shared → Prop} {s : Shared} {c : Prop} [Decidable c] {a b : Sem α} (h : ¬ c) (k : wpAny M A b Q E s) : wpAny M A (if c then a else b) Q E s := by rw [if_neg h]; exact k
theorem wp_slots {M : Model} {A : Around} {E : Value → Shared → Prop} {Q : List (Str × Value) → Shared → Prop} {s : Shared} {l slots : List (Str × Value)} (h : Q (l.foldl slotStep slots) s) : wpAny M A (forIn l slots fun x s => if (s.lookup x.1).isNone = true then pure (ForInStep.yield (s ++ [(x.1, x.2)])) else pure (ForInStep.yield s) : Sem (List (Str × Value))) Q E s := by
 rw [forIn_slots]; exact wpAny_pure h
theorem bind_miss {names : List Str} {rs : List Value} {m k : Nat} (hnd : names.Nodup) (hk : rs.length = m + k) : (names.take m).filter (fun n => ((names.zip rs).lookup n).isNone) = [] := by
 rw [List.filter_eq_nil_iff]
 intro x hx
 obtain ⟨i, hi, e⟩ := List.getElem_of_mem hx
 have hi' : i < m := Nat.lt_of_lt_of_le hi (List.length_take_le ..)
 have hx' : names[i]? = some x := by
  rw [List.getElem_take] at e
  rw [← e]
  exact List.getElem?_eq_getElem _
 rw [zip_lookup_get hnd hx', List.getElem?_eq_getElem (by lia -abstractProof)]
 exact Bool.false_ne_true
theorem bind_list {names : List Str} {rs ds : List Value} {m k : Nat} (hnd : names.Nodup) (hm : names.length = m + ds.length) (hk : rs.length = m + k) (hkd : k ≤ ds.length) :
  (names.filterMap fun n => ((((names.drop m).zip ds).foldl slotStep (names.zip rs)).lookup n).map (n, ·)) = names.zip (rs ++ ds.drop k) := by
 refine filterMap_of (by rw [List.length_append, List.length_drop]; lia -abstractProof) fun i x hx => ?_
 rw [lookup_slots, zip_lookup_get hnd hx]
 congr 1
 by_cases hr : i < rs.length
 ·rw [List.getElem?_append_left hr, List.getElem?_eq_getElem hr]; rfl
 ·obtain ⟨l, rfl⟩ : ∃ l, i = m + (k + l) := ⟨i - (m + k), by lia -abstractProof⟩
  have hx2 : (names.drop m)[k + l]? = some x := by rw [List.getElem?_drop]; exact hx
  rw [zip_lookup_get (hnd.sublist (List.drop_sublist _ _)) hx2, List.getElem?_append_right (Nat.not_lt.mp hr), List.getElem?_drop, List.getElem?_eq_none (Nat.not_lt.mp hr), Option.none_or, hk, ← Nat.add_assoc, Nat.add_sub_cancel_left]
theorem bindsTo_plain {s : Shared} {fd : FuncData} {names : List Str} {rs ds : List Value} (hp : fd.params.posonlyargs = []) (hk : fd.params.kwonlyargs = []) (hv : fd.params.vararg = none) (hw : fd.params.kwarg = none) (hn : fd.params.args.map (·.arg) = names) (hnd : names.Nodup)
  (hd : ∀ (M : Model) (A : Around) (E : Value → Shared → Prop) (Q : Option (Array Value) → Shared → Prop), (∀ d?, (d?.getD #[]).toList = ds → Q d? s) → wpAny M A (seqItems? fd.defaults) Q E s)
  (h1 : rs.length ≤ names.length) (h2 : names.length ≤ rs.length + ds.length) (h3 : ds.length ≤ names.length) : BindsTo s fd ⟨rs, []⟩ (names.zip (rs ++ ds.drop (rs.length + ds.length - names.length))) := by
 obtain ⟨m, hm⟩ : ∃ m, names.length = m + ds.length := ⟨names.length - ds.length, (Nat.sub_add_cancel h3).symm⟩
 obtain ⟨k, hkm⟩ : ∃ k, rs.length = m + k := ⟨rs.length - m, by lia -abstractProof⟩
 have hmiss := bind_miss hnd hkm
 have hfin := bind_list hnd hm hkm (by lia -abstractProof)
 have e3 : rs.length + ds.length - names.length = k := by lia -abstractProof
 have e4 : names.length - ds.length = m := by lia -abstractProof
 have hz : ds.length - names.length = 0 := by lia -abstractProof
 rw [e3]
 intro M A E Q hQ
 unfold bindArgs
 generalize fd.params = P at *
 cases P
 dsimp only at hp hk hv hw hn
 subst hp hk hv hw
 rename_i ar _ _
 have e1 : ([] : List Arg).map (·.arg) ++ ar.map (·.arg) = names := hn
 refine wpAny_bind (wpAny_pure (wpAny_bind (hd M A E _ fun d? hd? => ?_)))
 have e2 : (d?.getD #[]).toList.drop ((d?.getD #[]).toList.length - (([] : List Arg).map (·.arg) ++ ar.map (·.arg)).length) = ds := by rw [e1, hd?, hz, List.drop_zero]
 refine wp_neg ?_ ?_
 ·rw [e1]; exact fun c => Nat.not_lt.mpr h1 (of_decide_eq_true (Bool.and_eq_true_iff.mp c).1)
 refine wp_neg ?_ ?_
 ·rw [e2, e1, e4]
  show ¬ (!((names.take m).filter fun n => ((names.zip rs).lookup n).isNone).isEmpty) = true
  rw [hmiss]; decide
 refine wpAny_bind (wp_slots ?_)
 refine wpAny_bind (wpAny_pure ?_)
 refine wp_neg (by simp) ?_
 refine wpAny_pure ?_
 rw [e2, e1, e4]
 show Q ((names ++ []).filterMap fun n => ((((names.drop m).zip ds).foldl slotStep (names.zip rs)).lookup n).map (n, ·)) s
 rw [List.append_nil, hfin]
 exact hQ
end
noncomputable abbrev pw : Program := PySem.Challenge.pw_im0120_11
noncomputable abbrev bodyW : List Stmt := pw.main.body
noncomputable abbrev pos0 : Pos := ⟨0, 0, 0, 0⟩
noncomputable abbrev annW : Option Value := some (.ref 6)
noncomputable def dStmt (i j : Nat) : Stmt := match bodyW[i]? with
 | some (.ClassDef _ _ _ b _ _ _ _ _ _ _) => (b[j]?).getD (.Pass pos0)
 | some s => s
 | none => .Pass pos0
noncomputable def dArgs (i j : Nat) : Arguments := match dStmt i j with
 | .FunctionDef _ a _ _ _ _ _ _ _ _ => a
 | _ => ⟨[], [], none, [], [], none, []⟩
noncomputable def dBody (i j : Nat) : List Stmt := match dStmt i j with
 | .FunctionDef _ _ b _ _ _ _ _ _ _ => b
 | _ => []
noncomputable def dScope (i j : Nat) : Scope := match dStmt i j with
 | .FunctionDef _ _ _ _ _ _ sc _ _ _ => sc
 | _ => ⟨.module, [], false, false, []⟩
noncomputable def k2 (P : Params) : Obj :=
{cls := .none, data := Data.dict #[] }
noncomputable def k3 (P : Params) : Obj :=
{cls := Value.type "dict",
 data :=
  Data.dict
   #[⟨PyData.keyHash P (.ofString "__name__"), .str (.ofString "__name__") 165, .str (.ofString "law_im0120_11") 592⟩,
    ⟨PyData.keyHash P (.ofString "__doc__"), .str (.ofString "__doc__") 166, .none⟩,
    ⟨PyData.keyHash P (.ofString "__package__"), .str (.ofString "__package__") 167, .none⟩,
    ⟨PyData.keyHash P (.ofString "__loader__"), .str (.ofString "__loader__") 168, Value.builtin "__main__.__loader__#opaque"⟩,
    ⟨PyData.keyHash P (.ofString "__spec__"), .str (.ofString "__spec__") 169, .none⟩,
    ⟨PyData.keyHash P (.ofString "__annotations__"), .str (.ofString "__annotations__") 170, .ref 6⟩,
    ⟨PyData.keyHash P (.ofString "__builtins__"), .str (.ofString "__builtins__") 171, .ref 4⟩,
    ⟨PyData.keyHash P (.ofString "__file__"), .str (.ofString "__file__") 173, .str (.ofString "/claim/cut.py") 172⟩,
    ⟨PyData.keyHash P (.ofString "__cached__"), .str (.ofString "__cached__") 174, .none⟩,
    ⟨PyData.keyHash P (.ofString "_wall"), .str (.ofString "_wall") 193, .ref 21⟩,
    ⟨PyData.keyHash P (.ofString "Shanten"), .str (.ofString "Shanten") 303, .ref 73⟩,
    ⟨PyData.keyHash P (.ofString "_RegularShanten"), .str (.ofString "_RegularShanten") 488, .ref 213⟩,
    ⟨PyData.keyHash P (.ofString "Agari"), .str (.ofString "Agari") 591, .ref 266⟩,
    ⟨PyData.keyHash P (.ofString "_law_lone"), .str (.ofString "_law_lone") 603, .ref 271⟩,
    ⟨PyData.keyHash P (.ofString "_law_times"), .str (.ofString "_law_times") 609, .ref 278⟩,
    ⟨PyData.keyHash P (.ofString "_law_add"), .str (.ofString "_law_add") 619, .ref 285⟩,
    ⟨PyData.keyHash P (.ofString "_law_hand"), .str (.ofString "_law_hand") 625, .ref 290⟩,
    ⟨PyData.keyHash P (.ofString "_law_splits"), .str (.ofString "_law_splits") 639, .ref 297⟩,
    ⟨PyData.keyHash P (.ofString "_law_counts"), .str (.ofString "_law_counts") 648, .ref 304⟩,
    ⟨PyData.keyHash P (.ofString "_law_moved"), .str (.ofString "_law_moved") 660, .ref 311⟩,
    ⟨PyData.keyHash P (.ofString "law"), .str (.ofString "law") 666, .ref 316⟩]
   21 }
noncomputable def k60 (P : Params) : Obj :=
{cls := Value.type "tuple", data := Data.seq #[Value.bool Bool.false] }
noncomputable def k66 (P : Params) : Obj :=
{cls := Value.type "code",
 data :=
  Data.fields
   #[.str (.ofString "calculate_shanten_for_regular_hand") 275, .str (.ofString "Shanten.calculate_shanten_for_regular_hand") 276, .str (.ofString "/claim/cut.py") 277, Value.int 23 0, Value.int 2 0, Value.int 0 0,
    Value.int 0 0, Value.int 3 0, .ref 61, Value.bool Bool.true, Value.int 181 0, .ref 62, .none, .ref 63, .ref 64, .ref 65, Value.int 281 0, Value.int 23 0,
    .str (.ofString "/claim/cut.py") 282] }
noncomputable def k67 (P : Params) : Obj :=
{cls := Value.type "function",
 data :=
  Data.func
   {name := Str.ofString "calculate_shanten_for_regular_hand", qualname := Str.ofString "Shanten.calculate_shanten_for_regular_hand", params := dArgs 2 7,
    body := PySem.FuncBody.stmts (dBody 2 7), scope := dScope 2 7, globals := 3, closure := [], defaults := .ref 60, kwdefaults := .none,
    pyModule := .str (.ofString "mahjong.shanten") 194, annotations := Option.some 70, code := .ref 66 } }
noncomputable def k69 (P : Params) : Obj :=
{cls := Value.type "staticmethod", dict := Option.some 68, data := Data.fields #[.ref 67, Value.bool Bool.false] }
noncomputable def k72 (P : Params) : Obj :=
{cls := Value.type "dict",
 data :=
  Data.dict
   #[⟨PyData.keyHash P (.ofString "__module__"), .str (.ofString "__module__") 203, .str (.ofString "mahjong.shanten") 194⟩,
    ⟨PyData.keyHash P (.ofString "__firstlineno__"), .str (.ofString "__firstlineno__") 207, Value.int 5 206⟩,
    ⟨PyData.keyHash P (.ofString "TENPAI_STATE"), .str (.ofString "TENPAI_STATE") 209, Value.int 0 208⟩,
    ⟨PyData.keyHash P (.ofString "AGARI_STATE"), .str (.ofString "AGARI_STATE") 213, Value.int (-1) 212⟩,
    ⟨PyData.keyHash P (.ofString "calculate_shanten"), .str (.ofString "calculate_shanten") 236, .ref 38⟩,
    ⟨PyData.keyHash P (.ofString "calculate_shanten_for_chiitoitsu_hand"), .str (.ofString "calculate_shanten_for_chiitoitsu_hand") 255, .ref 48⟩,
    ⟨PyData.keyHash P (.ofString "calculate_shanten_for_kokushi_hand"), .str (.ofString "calculate_shanten_for_kokushi_hand") 274, .ref 58⟩,
    ⟨PyData.keyHash P (.ofString "calculate_shanten_for_regular_hand"), .str (.ofString "calculate_shanten_for_regular_hand") 295, .ref 69⟩,
    ⟨PyData.keyHash P (.ofString "__static_attributes__"), .str (.ofString "__static_attributes__") 296, .ref 71⟩,
    ⟨PyData.keyHash P (.ofString "__dict__"), .str (.ofString "__dict__") 298, .ref 74⟩,
    ⟨PyData.keyHash P (.ofString "__weakref__"), .str (.ofString "__weakref__") 300, .ref 75⟩,
    ⟨PyData.keyHash P (.ofString "__doc__"), .str (.ofString "__doc__") 301, .none⟩]
   4 }
noncomputable def k73 (P : Params) : Obj :=
{cls := Value.type "type", data := Data.cls { name := Str.ofString "Shanten", bases := [Value.type "object"], mro := [.ref 73, Value.type "object"], ns := 72, qualname := Str.ofString "Shanten" },
 slots := #[Option.none, Option.none, Option.some (.str (.ofString "Shanten") 196), Option.some (.str (.ofString "Shanten") 204), Option.some (Value.builtin "object.__new__"), Option.some (Value.bool Bool.true)] }
noncomputable def k74 (P : Params) : Obj :=
{cls := Value.type "getset_descriptor", data := Data.fields #[.str (.ofString "__dict__") 297, .ref 73, Value.builtin "function.__dict__", Value.builtin "function.__dict__#set"] }
noncomputable def k75 (P : Params) : Obj :=
{cls := Value.type "getset_descriptor", data := Data.fields #[.str (.ofString "__weakref__") 299, .ref 73, Value.builtin "ExceptionGroup.__weakref__", .none] }
noncomputable def k90 (P : Params) : Obj :=
{cls := Value.type "code",
 data :=
  Data.fields
   #[.str (.ofString "__init__") 316, .str (.ofString "_RegularShanten.__init__") 317, .str (.ofString "/claim/cut.py") 318, Value.int 29 0, Value.int 2 0, Value.int 0 0, Value.int 0 0, Value.int 3 0,
    .ref 85, Value.bool Bool.true, Value.int 181 0, .ref 86, .none, .ref 87, .ref 88, .ref 89, Value.int 321 0, Value.int 29 0, .str (.ofString "/claim/cut.py") 322] }
noncomputable def k91 (P : Params) : Obj :=
{cls := Value.type "function",
 data :=
  Data.func
   {name := Str.ofString "__init__", qualname := Str.ofString "_RegularShanten.__init__", params := dArgs 3 0, body := PySem.FuncBody.stmts (dBody 3 0),
    scope := dScope 3 0, globals := 3, closure := [], defaults := .none, kwdefaults := .none, pyModule := .str (.ofString "mahjong.shanten") 194,
    code := .ref 90 } }
noncomputable def k97 (P : Params) : Obj :=
{cls := Value.type "code",
 data :=
  Data.fields
   #[.str (.ofString "calculate") 324, .str (.ofString "_RegularShanten.calculate") 325, .str (.ofString "/claim/cut.py") 326, Value.int 39 0, Value.int 3 0, Value.int 0 0, Value.int 0 0, Value.int 3 0,
    .ref 92, Value.bool Bool.true, Value.int 181 0, .ref 93, .none, .ref 94, .ref 95, .ref 96, Value.int 332 0, Value.int 39 0, .str (.ofString "/claim/cut.py") 333] }
noncomputable def k98 (P : Params) : Obj :=
{cls := Value.type "function",
 data :=
  Data.func
   {name := Str.ofString "calculate", qualname := Str.ofString "_RegularShanten.calculate", params := dArgs 3 1, body := PySem.FuncBody.stmts (dBody 3 1),
    scope := dScope 3 1, globals := 3, closure := [], defaults := .none, kwdefaults := .none, pyModule := .str (.ofString "mahjong.shanten") 194,
    code := .ref 97 } }
noncomputable def k104 (P : Params) : Obj :=
{cls := Value.type "code",
 data :=
  Data.fields
   #[.str (.ofString "_scan") 335, .str (.ofString "_RegularShanten._scan") 336, .str (.ofString "/claim/cut.py") 337, Value.int 54 0, Value.int 3 0, Value.int 0 0, Value.int 0 0, Value.int 3 0,
    .ref 99, Value.bool Bool.true, Value.int 181 0, .ref 100, .none, .ref 101, .ref 102, .ref 103, Value.int 342 0, Value.int 54 0, .str (.ofString "/claim/cut.py") 343] }
noncomputable def k105 (P : Params) : Obj :=
{cls := Value.type "function",
 data :=
  Data.func
   {name := Str.ofString "_scan", qualname := Str.ofString "_RegularShanten._scan", params := dArgs 3 2, body := PySem.FuncBody.stmts (dBody 3 2),
    scope := dScope 3 2, globals := 3, closure := [], defaults := .none, kwdefaults := .none, pyModule := .str (.ofString "mahjong.shanten") 194,
    code := .ref 104 } }
noncomputable def k111 (P : Params) : Obj :=
{cls := Value.type "code",
 data :=
  Data.fields
   #[.str (.ofString "_run") 345, .str (.ofString "_RegularShanten._run") 346, .str (.ofString "/claim/cut.py") 347, Value.int 60 0, Value.int 2 0, Value.int 0 0, Value.int 0 0, Value.int 3 0,
    .ref 106, Value.bool Bool.true, Value.int 181 0, .ref 107, .none, .ref 108, .ref 109, .ref 110, Value.int 351 0, Value.int 60 0, .str (.ofString "/claim/cut.py") 352] }
noncomputable def k112 (P : Params) : Obj :=
{cls := Value.type "function",
 data :=
  Data.func
   {name := Str.ofString "_run", qualname := Str.ofString "_RegularShanten._run", params := dArgs 3 3, body := PySem.FuncBody.stmts (dBody 3 3),
    scope := dScope 3 3, globals := 3, closure := [], defaults := .none, kwdefaults := .none, pyModule := .str (.ofString "mahjong.shanten") 194,
    code := .ref 111 } }
noncomputable def k118 (P : Params) : Obj :=
{cls := Value.type "code",
 data :=
  Data.fields
   #[.str (.ofString "_update_result") 354, .str (.ofString "_RegularShanten._update_result") 355, .str (.ofString "/claim/cut.py") 356, Value.int 162 0, Value.int 1 0, Value.int 0 0, Value.int 0 0,
    Value.int 3 0, .ref 113, Value.bool Bool.true, Value.int 181 0, .ref 114, .none, .ref 115, .ref 116, .ref 117, Value.int 360 0, Value.int 162 0,
    .str (.ofString "/claim/cut.py") 361] }
noncomputable def k119 (P : Params) : Obj :=
{cls := Value.type "function",
 data :=
  Data.func
   {name := Str.ofString "_update_result", qualname := Str.ofString "_RegularShanten._update_result", params := dArgs 3 4, body := PySem.FuncBody.stmts (dBody 3 4),
    scope := dScope 3 4, globals := 3, closure := [], defaults := .none, kwdefaults := .none, pyModule := .str (.ofString "mahjong.shanten") 194,
    code := .ref 118 } }
noncomputable def k125 (P : Params) : Obj :=
{cls := Value.type "code",
 data :=
  Data.fields
   #[.str (.ofString "_increase_set") 363, .str (.ofString "_RegularShanten._increase_set") 364, .str (.ofString "/claim/cut.py") 365, Value.int 175 0, Value.int 2 0, Value.int 0 0, Value.int 0 0,
    Value.int 3 0, .ref 120, Value.bool Bool.true, Value.int 181 0, .ref 121, .none, .ref 122, .ref 123, .ref 124, Value.int 368 0, Value.int 175 0,
    .str (.ofString "/claim/cut.py") 369] }
noncomputable def k126 (P : Params) : Obj :=
{cls := Value.type "function",
 data :=
  Data.func
   {name := Str.ofString "_increase_set", qualname := Str.ofString "_RegularShanten._increase_set", params := dArgs 3 5, body := PySem.FuncBody.stmts (dBody 3 5),
    scope := dScope 3 5, globals := 3, closure := [], defaults := .none, kwdefaults := .none, pyModule := .str (.ofString "mahjong.shanten") 194,
    code := .ref 125 } }
noncomputable def k132 (P : Params) : Obj :=
{cls := Value.type "code",
 data :=
  Data.fields
   #[.str (.ofString "_decrease_set") 371, .str (.ofString "_RegularShanten._decrease_set") 372, .str (.ofString "/claim/cut.py") 373, Value.int 179 0, Value.int 2 0, Value.int 0 0, Value.int 0 0,
    Value.int 3 0, .ref 127, Value.bool Bool.true, Value.int 181 0, .ref 128, .none, .ref 129, .ref 130, .ref 131, Value.int 376 0, Value.int 179 0,
    .str (.ofString "/claim/cut.py") 377] }
noncomputable def k133 (P : Params) : Obj :=
{cls := Value.type "function",
 data :=
  Data.func
   {name := Str.ofString "_decrease_set", qualname := Str.ofString "_RegularShanten._decrease_set", params := dArgs 3 6, body := PySem.FuncBody.stmts (dBody 3 6),
    scope := dScope 3 6, globals := 3, closure := [], defaults := .none, kwdefaults := .none, pyModule := .str (.ofString "mahjong.shanten") 194,
    code := .ref 132 } }
noncomputable def k139 (P : Params) : Obj :=
{cls := Value.type "code",
 data :=
  Data.fields
   #[.str (.ofString "_increase_pair") 379, .str (.ofString "_RegularShanten._increase_pair") 380, .str (.ofString "/claim/cut.py") 381, Value.int 183 0, Value.int 2 0, Value.int 0 0, Value.int 0 0,
    Value.int 3 0, .ref 134, Value.bool Bool.true, Value.int 181 0, .ref 135, .none, .ref 136, .ref 137, .ref 138, Value.int 384 0, Value.int 183 0,
    .str (.ofString "/claim/cut.py") 385] }
noncomputable def k140 (P : Params) : Obj :=
{cls := Value.type "function",
 data :=
  Data.func
   {name := Str.ofString "_increase_pair", qualname := Str.ofString "_RegularShanten._increase_pair", params := dArgs 3 7, body := PySem.FuncBody.stmts (dBody 3 7),
    scope := dScope 3 7, globals := 3, closure := [], defaults := .none, kwdefaults := .none, pyModule := .str (.ofString "mahjong.shanten") 194,
    code := .ref 139 } }
noncomputable def k146 (P : Params) : Obj :=
{cls := Value.type "code",
 data :=
  Data.fields
   #[.str (.ofString "_decrease_pair") 387, .str (.ofString "_RegularShanten._decrease_pair") 388, .str (.ofString "/claim/cut.py") 389, Value.int 187 0, Value.int 2 0, Value.int 0 0, Value.int 0 0,
    Value.int 3 0, .ref 141, Value.bool Bool.true, Value.int 181 0, .ref 142, .none, .ref 143, .ref 144, .ref 145, Value.int 392 0, Value.int 187 0,
    .str (.ofString "/claim/cut.py") 393] }
noncomputable def k147 (P : Params) : Obj :=
{cls := Value.type "function",
 data :=
  Data.func
   {name := Str.ofString "_decrease_pair", qualname := Str.ofString "_RegularShanten._decrease_pair", params := dArgs 3 8, body := PySem.FuncBody.stmts (dBody 3 8),
    scope := dScope 3 8, globals := 3, closure := [], defaults := .none, kwdefaults := .none, pyModule := .str (.ofString "mahjong.shanten") 194,
    code := .ref 146 } }
noncomputable def k153 (P : Params) : Obj :=
{cls := Value.type "code",
 data :=
  Data.fields
   #[.str (.ofString "_increase_syuntsu") 395, .str (.ofString "_RegularShanten._increase_syuntsu") 396, .str (.ofString "/claim/cut.py") 397, Value.int 191 0, Value.int 2 0, Value.int 0 0, Value.int 0 0,
    Value.int 3 0, .ref 148, Value.bool Bool.true, Value.int 181 0, .ref 149, .none, .ref 150, .ref 151, .ref 152, Value.int 400 0, Value.int 191 0,
    .str (.ofString "/claim/cut.py") 401] }
noncomputable def k154 (P : Params) : Obj :=
{cls := Value.type "function",
 data :=
  Data.func
   {name := Str.ofString "_increase_syuntsu", qualname := Str.ofString "_RegularShanten._increase_syuntsu", params := dArgs 3 9, body := PySem.FuncBody.stmts (dBody 3 9),
    scope := dScope 3 9, globals := 3, closure := [], defaults := .none, kwdefaults := .none, pyModule := .str (.ofString "mahjong.shanten") 194,
    code := .ref 153 } }
noncomputable def k160 (P : Params) : Obj :=
{cls := Value.type "code",
 data :=
  Data.fields
   #[.str (.ofString "_decrease_syuntsu") 403, .str (.ofString "_RegularShanten._decrease_syuntsu") 404, .str (.ofString "/claim/cut.py") 405, Value.int 197 0, Value.int 2 0, Value.int 0 0, Value.int 0 0,
    Value.int 3 0, .ref 155, Value.bool Bool.true, Value.int 181 0, .ref 156, .none, .ref 157, .ref 158, .ref 159, Value.int 408 0, Value.int 197 0,
    .str (.ofString "/claim/cut.py") 409] }
noncomputable def k161 (P : Params) : Obj :=
{cls := Value.type "function",
 data :=
  Data.func
   {name := Str.ofString "_decrease_syuntsu", qualname := Str.ofString "_RegularShanten._decrease_syuntsu", params := dArgs 3 10, body := PySem.FuncBody.stmts (dBody 3 10),
    scope := dScope 3 10, globals := 3, closure := [], defaults := .none, kwdefaults := .none, pyModule := .str (.ofString "mahjong.shanten") 194,
    code := .ref 160 } }
noncomputable def k167 (P : Params) : Obj :=
{cls := Value.type "code",
 data :=
  Data.fields
   #[.str (.ofString "_increase_tatsu_first") 411, .str (.ofString "_RegularShanten._increase_tatsu_first") 412, .str (.ofString "/claim/cut.py") 413, Value.int 203 0, Value.int 2 0, Value.int 0 0, Value.int 0 0,
    Value.int 3 0, .ref 162, Value.bool Bool.true, Value.int 181 0, .ref 163, .none, .ref 164, .ref 165, .ref 166, Value.int 416 0, Value.int 203 0,
    .str (.ofString "/claim/cut.py") 417] }
noncomputable def k168 (P : Params) : Obj :=
{cls := Value.type "function",
 data :=
  Data.func
   {name := Str.ofString "_increase_tatsu_first", qualname := Str.ofString "_RegularShanten._increase_tatsu_first", params := dArgs 3 11,
    body := PySem.FuncBody.stmts (dBody 3 11), scope := dScope 3 11, globals := 3, closure := [], defaults := .none, kwdefaults := .none,
    pyModule := .str (.ofString "mahjong.shanten") 194, code := .ref 167 } }
noncomputable def k174 (P : Params) : Obj :=
{cls := Value.type "code",
 data :=
  Data.fields
   #[.str (.ofString "_decrease_tatsu_first") 419, .str (.ofString "_RegularShanten._decrease_tatsu_first") 420, .str (.ofString "/claim/cut.py") 421, Value.int 208 0, Value.int 2 0, Value.int 0 0, Value.int 0 0,
    Value.int 3 0, .ref 169, Value.bool Bool.true, Value.int 181 0, .ref 170, .none, .ref 171, .ref 172, .ref 173, Value.int 424 0, Value.int 208 0,
    .str (.ofString "/claim/cut.py") 425] }
noncomputable def k175 (P : Params) : Obj :=
{cls := Value.type "function",
 data :=
  Data.func
   {name := Str.ofString "_decrease_tatsu_first", qualname := Str.ofString "_RegularShanten._decrease_tatsu_first", params := dArgs 3 12,
    body := PySem.FuncBody.stmts (dBody 3 12), scope := dScope 3 12, globals := 3, closure := [], defaults := .none, kwdefaults := .none,
    pyModule := .str (.ofString "mahjong.shanten") 194, code := .ref 174 } }
noncomputable def k181 (P : Params) : Obj :=
{cls := Value.type "code",
 data :=
  Data.fields
   #[.str (.ofString "_increase_tatsu_second") 427, .str (.ofString "_RegularShanten._increase_tatsu_second") 428, .str (.ofString "/claim/cut.py") 429, Value.int 213 0, Value.int 2 0, Value.int 0 0,
    Value.int 0 0, Value.int 3 0, .ref 176, Value.bool Bool.true, Value.int 181 0, .ref 177, .none, .ref 178, .ref 179, .ref 180, Value.int 432 0, Value.int 213 0,
    .str (.ofString "/claim/cut.py") 433] }
noncomputable def k182 (P : Params) : Obj :=
{cls := Value.type "function",
 data :=
  Data.func
   {name := Str.ofString "_increase_tatsu_second", qualname := Str.ofString "_RegularShanten._increase_tatsu_second", params := dArgs 3 13,
    body := PySem.FuncBody.stmts (dBody 3 13), scope := dScope 3 13, globals := 3, closure := [], defaults := .none, kwdefaults := .none,
    pyModule := .str (.ofString "mahjong.shanten") 194, code := .ref 181 } }
noncomputable def k188 (P : Params) : Obj :=
{cls := Value.type "code",
 data :=
  Data.fields
   #[.str (.ofString "_decrease_tatsu_second") 435, .str (.ofString "_RegularShanten._decrease_tatsu_second") 436, .str (.ofString "/claim/cut.py") 437, Value.int 218 0, Value.int 2 0, Value.int 0 0,
    Value.int 0 0, Value.int 3 0, .ref 183, Value.bool Bool.true, Value.int 181 0, .ref 184, .none, .ref 185, .ref 186, .ref 187, Value.int 440 0, Value.int 218 0,
    .str (.ofString "/claim/cut.py") 441] }
noncomputable def k189 (P : Params) : Obj :=
{cls := Value.type "function",
 data :=
  Data.func
   {name := Str.ofString "_decrease_tatsu_second", qualname := Str.ofString "_RegularShanten._decrease_tatsu_second", params := dArgs 3 14,
    body := PySem.FuncBody.stmts (dBody 3 14), scope := dScope 3 14, globals := 3, closure := [], defaults := .none, kwdefaults := .none,
    pyModule := .str (.ofString "mahjong.shanten") 194, code := .ref 188 } }
noncomputable def k195 (P : Params) : Obj :=
{cls := Value.type "code",
 data :=
  Data.fields
   #[.str (.ofString "_increase_isolated_tile") 443, .str (.ofString "_RegularShanten._increase_isolated_tile") 444, .str (.ofString "/claim/cut.py") 445, Value.int 223 0, Value.int 2 0, Value.int 0 0,
    Value.int 0 0, Value.int 3 0, .ref 190, Value.bool Bool.true, Value.int 181 0, .ref 191, .none, .ref 192, .ref 193, .ref 194, Value.int 448 0, Value.int 223 0,
    .str (.ofString "/claim/cut.py") 449] }
noncomputable def k196 (P : Params) : Obj :=
{cls := Value.type "function",
 data :=
  Data.func
   {name := Str.ofString "_increase_isolated_tile", qualname := Str.ofString "_RegularShanten._increase_isolated_tile", params := dArgs 3 15,
    body := PySem.FuncBody.stmts (dBody 3 15), scope := dScope 3 15, globals := 3, closure := [], defaults := .none, kwdefaults := .none,
    pyModule := .str (.ofString "mahjong.shanten") 194, code := .ref 195 } }
noncomputable def k202 (P : Params) : Obj :=
{cls := Value.type "code",
 data :=
  Data.fields
   #[.str (.ofString "_decrease_isolated_tile") 451, .str (.ofString "_RegularShanten._decrease_isolated_tile") 452, .str (.ofString "/claim/cut.py") 453, Value.int 227 0, Value.int 2 0, Value.int 0 0,
    Value.int 0 0, Value.int 3 0, .ref 197, Value.bool Bool.true, Value.int 181 0, .ref 198, .none, .ref 199, .ref 200, .ref 201, Value.int 456 0, Value.int 227 0,
    .str (.ofString "/claim/cut.py") 457] }
noncomputable def k203 (P : Params) : Obj :=
{cls := Value.type "function",
 data :=
  Data.func
   {name := Str.ofString "_decrease_isolated_tile", qualname := Str.ofString "_RegularShanten._decrease_isolated_tile", params := dArgs 3 16,
    body := PySem.FuncBody.stmts (dBody 3 16), scope := dScope 3 16, globals := 3, closure := [], defaults := .none, kwdefaults := .none,
    pyModule := .str (.ofString "mahjong.shanten") 194, code := .ref 202 } }
noncomputable def k209 (P : Params) : Obj :=
{cls := Value.type "code",
 data :=
  Data.fields
   #[.str (.ofString "_remove_honor_and_terminal_man_tiles") 459, .str (.ofString "_RegularShanten._remove_honor_and_terminal_man_tiles") 460, .str (.ofString "/claim/cut.py") 461, Value.int 231 0, Value.int 3 0,
    Value.int 0 0, Value.int 0 0, Value.int 3 0, .ref 204, Value.bool Bool.true, Value.int 181 0, .ref 205, .none, .ref 206, .ref 207, .ref 208, Value.int 470 0, Value.int 231 0,
    .str (.ofString "/claim/cut.py") 471] }
noncomputable def k210 (P : Params) : Obj :=
{cls := Value.type "function",
 data :=
  Data.func
   {name := Str.ofString "_remove_honor_and_terminal_man_tiles", qualname := Str.ofString "_RegularShanten._remove_honor_and_terminal_man_tiles",
    params := dArgs 3 17, body := PySem.FuncBody.stmts (dBody 3 17), scope := dScope 3 17,
    globals := 3, closure := [], defaults := .none, kwdefaults := .none, pyModule := .str (.ofString "mahjong.shanten") 194, code := .ref 209 } }
noncomputable def k212 (P : Params) : Obj :=
{cls := Value.type "dict",
 data :=
  Data.dict
   #[⟨PyData.keyHash P (.ofString "__module__"), .str (.ofString "__module__") 311, .str (.ofString "mahjong.shanten") 194⟩,
    ⟨PyData.keyHash P (.ofString "__firstlineno__"), .str (.ofString "__firstlineno__") 315, Value.int 27 314⟩,
    ⟨PyData.keyHash P (.ofString "__init__"), .str (.ofString "__init__") 323, .ref 91⟩,
    ⟨PyData.keyHash P (.ofString "calculate"), .str (.ofString "calculate") 334, .ref 98⟩,
    ⟨PyData.keyHash P (.ofString "_scan"), .str (.ofString "_scan") 344, .ref 105⟩,
    ⟨PyData.keyHash P (.ofString "_run"), .str (.ofString "_run") 353, .ref 112⟩,
    ⟨PyData.keyHash P (.ofString "_update_result"), .str (.ofString "_update_result") 362, .ref 119⟩,
    ⟨PyData.keyHash P (.ofString "_increase_set"), .str (.ofString "_increase_set") 370, .ref 126⟩,
    ⟨PyData.keyHash P (.ofString "_decrease_set"), .str (.ofString "_decrease_set") 378, .ref 133⟩,
    ⟨PyData.keyHash P (.ofString "_increase_pair"), .str (.ofString "_increase_pair") 386, .ref 140⟩,
    ⟨PyData.keyHash P (.ofString "_decrease_pair"), .str (.ofString "_decrease_pair") 394, .ref 147⟩,
    ⟨PyData.keyHash P (.ofString "_increase_syuntsu"), .str (.ofString "_increase_syuntsu") 402, .ref 154⟩,
    ⟨PyData.keyHash P (.ofString "_decrease_syuntsu"), .str (.ofString "_decrease_syuntsu") 410, .ref 161⟩,
    ⟨PyData.keyHash P (.ofString "_increase_tatsu_first"), .str (.ofString "_increase_tatsu_first") 418, .ref 168⟩,
    ⟨PyData.keyHash P (.ofString "_decrease_tatsu_first"), .str (.ofString "_decrease_tatsu_first") 426, .ref 175⟩,
    ⟨PyData.keyHash P (.ofString "_increase_tatsu_second"), .str (.ofString "_increase_tatsu_second") 434, .ref 182⟩,
    ⟨PyData.keyHash P (.ofString "_decrease_tatsu_second"), .str (.ofString "_decrease_tatsu_second") 442, .ref 189⟩,
    ⟨PyData.keyHash P (.ofString "_increase_isolated_tile"), .str (.ofString "_increase_isolated_tile") 450, .ref 196⟩,
    ⟨PyData.keyHash P (.ofString "_decrease_isolated_tile"), .str (.ofString "_decrease_isolated_tile") 458, .ref 203⟩,
    ⟨PyData.keyHash P (.ofString "_remove_honor_and_terminal_man_tiles"), .str (.ofString "_remove_honor_and_terminal_man_tiles") 472, .ref 210⟩,
    ⟨PyData.keyHash P (.ofString "__static_attributes__"), .str (.ofString "__static_attributes__") 481, .ref 211⟩,
    ⟨PyData.keyHash P (.ofString "__dict__"), .str (.ofString "__dict__") 483, .ref 214⟩,
    ⟨PyData.keyHash P (.ofString "__weakref__"), .str (.ofString "__weakref__") 485, .ref 215⟩,
    ⟨PyData.keyHash P (.ofString "__doc__"), .str (.ofString "__doc__") 486, .none⟩]
   4 }
noncomputable def k213 (P : Params) : Obj :=
{cls := Value.type "type", data := Data.cls { name := Str.ofString "_RegularShanten", bases := [Value.type "object"], mro := [.ref 213, Value.type "object"], ns := 212, qualname := Str.ofString "_RegularShanten" },
 slots := #[Option.none, Option.none, Option.some (.str (.ofString "_RegularShanten") 304), Option.some (.str (.ofString "_RegularShanten") 312), Option.some (Value.builtin "object.__new__"), Option.some (Value.bool Bool.true)] }
noncomputable def k214 (P : Params) : Obj :=
{cls := Value.type "getset_descriptor", data := Data.fields #[.str (.ofString "__dict__") 482, .ref 213, Value.builtin "function.__dict__", Value.builtin "function.__dict__#set"] }
noncomputable def k215 (P : Params) : Obj :=
{cls := Value.type "getset_descriptor", data := Data.fields #[.str (.ofString "__weakref__") 484, .ref 213, Value.builtin "ExceptionGroup.__weakref__", .none] }
noncomputable def k225 (P : Params) : Obj :=
{cls := Value.type "tuple", data := Data.seq #[.none] }
noncomputable def k229 (P : Params) : Obj :=
{cls := Value.type "code",
 data :=
  Data.fields
   #[.str (.ofString "is_agari") 503, .str (.ofString "Agari.is_agari") 504, .str (.ofString "/claim/cut.py") 505, Value.int 258 0, Value.int 2 0, Value.int 0 0, Value.int 0 0, Value.int 3 0,
    .ref 226, Value.bool Bool.true, Value.int 181 0, .ref 227, .none, .none, .none, .ref 228, Value.int 506 0, Value.int 258 0, .str (.ofString "/claim/cut.py") 507] }
noncomputable def k230 (P : Params) : Obj :=
{cls := Value.type "function",
 data :=
  Data.func
   {name := Str.ofString "is_agari", qualname := Str.ofString "Agari.is_agari", params := dArgs 5 0, body := PySem.FuncBody.stmts (dBody 5 0),
    scope := dScope 5 0, globals := 3, closure := [], defaults := .ref 225, kwdefaults := .none, pyModule := .str (.ofString "mahjong.agari") 489,
    annotations := Option.some 233, code := .ref 229 } }
noncomputable def k232 (P : Params) : Obj :=
{cls := Value.type "staticmethod", dict := Option.some 231, data := Data.fields #[.ref 230, Value.bool Bool.false] }
noncomputable def k239 (P : Params) : Obj :=
{cls := Value.type "code",
 data :=
  Data.fields
   #[.str (.ofString "_is_mentsu") 521, .str (.ofString "Agari._is_mentsu") 522, .str (.ofString "/claim/cut.py") 523, Value.int 313 0, Value.int 1 0, Value.int 0 0, Value.int 0 0, Value.int 3 0,
    .ref 234, Value.bool Bool.true, Value.int 181 0, .ref 235, .none, .ref 236, .ref 237, .ref 238, Value.int 529 0, Value.int 313 0, .str (.ofString "/claim/cut.py") 530] }
noncomputable def k240 (P : Params) : Obj :=
{cls := Value.type "function",
 data :=
  Data.func
   {name := Str.ofString "_is_mentsu", qualname := Str.ofString "Agari._is_mentsu", params := dArgs 5 1, body := PySem.FuncBody.stmts (dBody 5 1),
    scope := dScope 5 1, globals := 3, closure := [], defaults := .none, kwdefaults := .none, pyModule := .str (.ofString "mahjong.agari") 489,
    annotations := Option.some 243, code := .ref 239 } }
noncomputable def k242 (P : Params) : Obj :=
{cls := Value.type "staticmethod", dict := Option.some 241, data := Data.fields #[.ref 240, Value.bool Bool.false] }
noncomputable def k249 (P : Params) : Obj :=
{cls := Value.type "code",
 data :=
  Data.fields
   #[.str (.ofString "_is_atama_mentsu") 544, .str (.ofString "Agari._is_atama_mentsu") 545, .str (.ofString "/claim/cut.py") 546, Value.int 343 0, Value.int 2 0, Value.int 0 0, Value.int 0 0, Value.int 3 0,
    .ref 244, Value.bool Bool.true, Value.int 181 0, .ref 245, .none, .ref 246, .ref 247, .ref 248, Value.int 549 0, Value.int 343 0, .str (.ofString "/claim/cut.py") 550] }
noncomputable def k250 (P : Params) : Obj :=
{cls := Value.type "function",
 data :=
  Data.func
   {name := Str.ofString "_is_atama_mentsu", qualname := Str.ofString "Agari._is_atama_mentsu", params := dArgs 5 2, body := PySem.FuncBody.stmts (dBody 5 2),
    scope := dScope 5 2, globals := 3, closure := [], defaults := .none, kwdefaults := .none, pyModule := .str (.ofString "mahjong.agari") 489,
    annotations := Option.some 253, code := .ref 249 } }
noncomputable def k252 (P : Params) : Obj :=
{cls := Value.type "staticmethod", dict := Option.some 251, data := Data.fields #[.ref 250, Value.bool Bool.false] }
noncomputable def k259 (P : Params) : Obj :=
{cls := Value.type "code",
 data :=
  Data.fields
   #[.str (.ofString "_to_meld") 564, .str (.ofString "Agari._to_meld") 565, .str (.ofString "/claim/cut.py") 566, Value.int 368 0, Value.int 2 0, Value.int 0 0, Value.int 0 0, Value.int 3 0,
    .ref 254, Value.bool Bool.true, Value.int 181 0, .ref 255, .none, .ref 256, .ref 257, .ref 258, Value.int 569 0, Value.int 368 0, .str (.ofString "/claim/cut.py") 570] }
noncomputable def k260 (P : Params) : Obj :=
{cls := Value.type "function",
 data :=
  Data.func
   {name := Str.ofString "_to_meld", qualname := Str.ofString "Agari._to_meld", params := dArgs 5 3, body := PySem.FuncBody.stmts (dBody 5 3),
    scope := dScope 5 3, globals := 3, closure := [], defaults := .none, kwdefaults := .none, pyModule := .str (.ofString "mahjong.agari") 489,
    annotations := Option.some 263, code := .ref 259 } }
noncomputable def k262 (P : Params) : Obj :=
{cls := Value.type "staticmethod", dict := Option.some 261, data := Data.fields #[.ref 260, Value.bool Bool.false] }
noncomputable def k265 (P : Params) : Obj :=
{cls := Value.type "dict",
 data :=
  Data.dict
   #[⟨PyData.keyHash P (.ofString "__module__"), .str (.ofString "__module__") 498, .str (.ofString "mahjong.agari") 489⟩,
    ⟨PyData.keyHash P (.ofString "__firstlineno__"), .str (.ofString "__firstlineno__") 502, Value.int 256 501⟩,
    ⟨PyData.keyHash P (.ofString "is_agari"), .str (.ofString "is_agari") 520, .ref 232⟩,
    ⟨PyData.keyHash P (.ofString "_is_mentsu"), .str (.ofString "_is_mentsu") 543, .ref 242⟩,
    ⟨PyData.keyHash P (.ofString "_is_atama_mentsu"), .str (.ofString "_is_atama_mentsu") 563, .ref 252⟩,
    ⟨PyData.keyHash P (.ofString "_to_meld"), .str (.ofString "_to_meld") 583, .ref 262⟩,
    ⟨PyData.keyHash P (.ofString "__static_attributes__"), .str (.ofString "__static_attributes__") 584, .ref 264⟩,
    ⟨PyData.keyHash P (.ofString "__dict__"), .str (.ofString "__dict__") 586, .ref 267⟩,
    ⟨PyData.keyHash P (.ofString "__weakref__"), .str (.ofString "__weakref__") 588, .ref 268⟩,
    ⟨PyData.keyHash P (.ofString "__doc__"), .str (.ofString "__doc__") 589, .none⟩]
   4 }
noncomputable def k266 (P : Params) : Obj :=
{cls := Value.type "type", data := Data.cls { name := Str.ofString "Agari", bases := [Value.type "object"], mro := [.ref 266, Value.type "object"], ns := 265, qualname := Str.ofString "Agari" },
 slots := #[Option.none, Option.none, Option.some (.str (.ofString "Agari") 491), Option.some (.str (.ofString "Agari") 499), Option.some (Value.builtin "object.__new__"), Option.some (Value.bool Bool.true)] }
noncomputable def k267 (P : Params) : Obj :=
{cls := Value.type "getset_descriptor", data := Data.fields #[.str (.ofString "__dict__") 585, .ref 266, Value.builtin "function.__dict__", Value.builtin "function.__dict__#set"] }
noncomputable def k268 (P : Params) : Obj :=
{cls := Value.type "getset_descriptor", data := Data.fields #[.str (.ofString "__weakref__") 587, .ref 266, Value.builtin "ExceptionGroup.__weakref__", .none] }
noncomputable def k271 (P : Params) : Obj :=
{cls := Value.type "list", data := Data.seq #[Value.int 0 594, Value.int 8 595, Value.int 27 596, Value.int 28 597, Value.int 29 598, Value.int 30 599, Value.int 31 600, Value.int 32 601, Value.int 33 602] }
noncomputable def k277 (P : Params) : Obj :=
{cls := Value.type "code",
 data :=
  Data.fields
   #[.str (.ofString "_law_times") 604, .str (.ofString "_law_times") 605, .str (.ofString "/claim/cut.py") 606, Value.int 373 0, Value.int 0 0, Value.int 0 0, Value.int 0 0, Value.int 3 0,
    .ref 272, Value.bool Bool.true, Value.int 181 0, .ref 273, .none, .ref 274, .ref 275, .ref 276, Value.int 607 0, Value.int 373 0, .str (.ofString "/claim/cut.py") 608] }
noncomputable def k278 (P : Params) : Obj :=
{cls := Value.type "function",
 data :=
  Data.func
   {name := Str.ofString "_law_times", qualname := Str.ofString "_law_times", params := dArgs 8 1000, body := PySem.FuncBody.stmts (dBody 8 1000),
    scope := dScope 8 1000, globals := 3, closure := [], defaults := .none, kwdefaults := .none, pyModule := .str (.ofString "law_im0120_11") 592,
    code := .ref 277 } }
noncomputable def k284 (P : Params) : Obj :=
{cls := Value.type "code",
 data :=
  Data.fields
   #[.str (.ofString "_law_add") 610, .str (.ofString "_law_add") 611, .str (.ofString "/claim/cut.py") 612, Value.int 375 0, Value.int 2 0, Value.int 0 0, Value.int 0 0, Value.int 3 0, .ref 279,
    Value.bool Bool.true, Value.int 181 0, .ref 280, .none, .ref 281, .ref 282, .ref 283, Value.int 617 0, Value.int 375 0, .str (.ofString "/claim/cut.py") 618] }
noncomputable def k285 (P : Params) : Obj :=
{cls := Value.type "function",
 data :=
  Data.func
   {name := Str.ofString "_law_add", qualname := Str.ofString "_law_add", params := dArgs 9 1000, body := PySem.FuncBody.stmts (dBody 9 1000),
    scope := dScope 9 1000, globals := 3, closure := [], defaults := .none, kwdefaults := .none, pyModule := .str (.ofString "law_im0120_11") 592,
    code := .ref 284 } }
noncomputable def k289 (P : Params) : Obj :=
{cls := Value.type "code",
 data :=
  Data.fields
   #[.str (.ofString "_law_hand") 620, .str (.ofString "_law_hand") 621, .str (.ofString "/claim/cut.py") 622, Value.int 381 0, Value.int 1 0, Value.int 0 0, Value.int 0 0, Value.int 3 0,
    .ref 286, Value.bool Bool.true, Value.int 181 0, .ref 287, .none, .none, .none, .ref 288, Value.int 623 0, Value.int 381 0, .str (.ofString "/claim/cut.py") 624] }
noncomputable def k290 (P : Params) : Obj :=
{cls := Value.type "function",
 data :=
  Data.func
   {name := Str.ofString "_law_hand", qualname := Str.ofString "_law_hand", params := dArgs 10 1000, body := PySem.FuncBody.stmts (dBody 10 1000),
    scope := dScope 10 1000, globals := 3, closure := [], defaults := .none, kwdefaults := .none, pyModule := .str (.ofString "law_im0120_11") 592,
    code := .ref 289 } }
noncomputable def k296 (P : Params) : Obj :=
{cls := Value.type "code",
 data :=
  Data.fields
   #[.str (.ofString "_law_splits") 626, .str (.ofString "_law_splits") 627, .str (.ofString "/claim/cut.py") 628, Value.int 420 0, Value.int 2 0, Value.int 0 0, Value.int 0 0, Value.int 3 0,
    .ref 291, Value.bool Bool.true, Value.int 181 0, .ref 292, .none, .ref 293, .ref 294, .ref 295, Value.int 637 0, Value.int 420 0, .str (.ofString "/claim/cut.py") 638] }
noncomputable def k297 (P : Params) : Obj :=
{cls := Value.type "function",
 data :=
  Data.func
   {name := Str.ofString "_law_splits", qualname := Str.ofString "_law_splits", params := dArgs 11 1000, body := PySem.FuncBody.stmts (dBody 11 1000),
    scope := dScope 11 1000, globals := 3, closure := [], defaults := .none, kwdefaults := .none, pyModule := .str (.ofString "law_im0120_11") 592,
    code := .ref 296 } }
noncomputable def k303 (P : Params) : Obj :=
{cls := Value.type "code",
 data :=
  Data.fields
   #[.str (.ofString "_law_counts") 640, .str (.ofString "_law_counts") 641, .str (.ofString "/claim/cut.py") 642, Value.int 440 0, Value.int 1 0, Value.int 0 0, Value.int 0 0, Value.int 3 0,
    .ref 298, Value.bool Bool.true, Value.int 181 0, .ref 299, .none, .ref 300, .ref 301, .ref 302, Value.int 646 0, Value.int 440 0, .str (.ofString "/claim/cut.py") 647] }
noncomputable def k304 (P : Params) : Obj :=
{cls := Value.type "function",
 data :=
  Data.func
   {name := Str.ofString "_law_counts", qualname := Str.ofString "_law_counts", params := dArgs 12 1000, body := PySem.FuncBody.stmts (dBody 12 1000),
    scope := dScope 12 1000, globals := 3, closure := [], defaults := .none, kwdefaults := .none, pyModule := .str (.ofString "law_im0120_11") 592,
    code := .ref 303 } }
noncomputable def k310 (P : Params) : Obj :=
{cls := Value.type "code",
 data :=
  Data.fields
   #[.str (.ofString "_law_moved") 649, .str (.ofString "_law_moved") 650, .str (.ofString "/claim/cut.py") 651, Value.int 445 0, Value.int 4 0, Value.int 0 0, Value.int 0 0, Value.int 3 0,
    .ref 305, Value.bool Bool.true, Value.int 181 0, .ref 306, .none, .ref 307, .ref 308, .ref 309, Value.int 658 0, Value.int 445 0, .str (.ofString "/claim/cut.py") 659] }
noncomputable def k311 (P : Params) : Obj :=
{cls := Value.type "function",
 data :=
  Data.func
   {name := Str.ofString "_law_moved", qualname := Str.ofString "_law_moved", params := dArgs 13 1000, body := PySem.FuncBody.stmts (dBody 13 1000),
    scope := dScope 13 1000, globals := 3, closure := [], defaults := .none, kwdefaults := .none, pyModule := .str (.ofString "law_im0120_11") 592,
    code := .ref 310 } }
noncomputable def k315 (P : Params) : Obj :=
{cls := Value.type "code",
 data :=
  Data.fields
   #[.str (.ofString "law") 661, .str (.ofString "law") 662, .str (.ofString "/claim/cut.py") 663, Value.int 457 0, Value.int 1 0, Value.int 0 0, Value.int 0 0, Value.int 3 0, .ref 312,
    Value.bool Bool.true, Value.int 181 0, .ref 313, .none, .none, .none, .ref 314, Value.int 664 0, Value.int 457 0, .str (.ofString "/claim/cut.py") 665] }
noncomputable def k316 (P : Params) : Obj :=
{cls := Value.type "function",
 data :=
  Data.func
   {name := Str.ofString "law", qualname := Str.ofString "law", params := dArgs 14 1000, body := PySem.FuncBody.stmts (dBody 14 1000),
    scope := dScope 14 1000, globals := 3, closure := [], defaults := .none, kwdefaults := .none, pyModule := .str (.ofString "law_im0120_11") 592,
    code := .ref 315 } }
noncomputable def KW (P : Params) : Frag := [(2, k2 P), (3, k3 P), (60, k60 P), (66, k66 P), (67, k67 P), (69, k69 P), (72, k72 P), (73, k73 P), (74, k74 P), (75, k75 P), (90, k90 P), (91, k91 P), (97, k97 P), (98, k98 P), (104, k104 P), (105, k105 P), (111, k111 P), (112, k112 P), (118, k118 P), (119, k119 P), (125, k125 P), (126, k126 P), (132, k132 P), (133, k133 P), (139, k139 P), (140, k140 P), (146, k146 P), (147, k147 P), (153, k153 P), (154, k154 P), (160, k160 P), (161, k161 P), (167, k167 P), (168, k168 P), (174, k174 P), (175, k175 P), (181, k181 P), (182, k182 P), (188, k188 P), (189, k189 P), (195, k195 P), (196, k196 P), (202, k202 P), (203, k203 P), (209, k209 P), (210, k210 P), (212, k212 P), (213, k213 P), (214, k214 P), (215, k215 P), (225, k225 P), (229, k229 P), (230, k230 P), (232, k232 P), (239, k239 P), (240, k240 P), (242, k242 P), (249, k249 P), (250, k250 P), (252, k252 P), (259, k259 P), (260, k260 P), (262, k262 P), (265, k265 P), (266, k266 P), (267, k267 P), (268, k268 P), (271, k271 P), (277, k277 P), (278, k278 P), (284, k284 P), (285, k285 P), (289, k289 P), (290, k290 P), (296, k296 P), (297, k297 P), (303, k303 P), (304, k304 P), (310, k310 P), (311, k311 P), (315, k315 P), (316, k316 P)]
section
open PySem.Spec
noncomputable def fnAt (i j : Nat) (ds : List AV) : Fn := ⟨"", (dArgs i j).args.map (·.arg), ds, dBody i j, dScope i j⟩
noncomputable def fnGood (fn : Fn) : Bool := decide fn.params.Nodup && decide (fn.scope.names.map (·.1)).Nodup && !fn.scope.isCoroutine && !fn.scope.isGenerator && decide (fn.scope.kind = .function) && (fn.scope.names.lookup ("__classdict__" : Str)).isNone &&
 fn.params.all (fun x => decide (fn.scope.names.lookup x = some .local) || decide (fn.scope.names.lookup x = some .cell)) && fn.scope.names.all fun p => !decide (p.2 = .free)
noncomputable def argGood (a : Arguments) (n : Nat) : Bool := a.posonlyargs.isEmpty && a.kwonlyargs.isEmpty && a.vararg.isNone && a.kwarg.isNone && Nat.ble n a.args.length
theorem VRs.drop' {ρ : Rho} : ∀ {n : Nat} {as : List AV} {rs : List Value}, VRs ρ as rs → VRs ρ (as.drop n) (rs.drop n)
 | 0, _, _, h => h
 | n + 1, [], [], _ => trivial
 | n + 1, _ :: _, _ :: _, h => VRs.drop' (n := n) h.2
 | n + 1, [], _ :: _, h => h.elim
 | n + 1, _ :: _, [], h => h.elim
theorem fnOk_of {B : Heap} {a : Addr} {i j : Nat} {ds : List AV} {o : Obj} {fd : FuncData} {rds : List Value} (h : B.get? a = some o) (hd : o.data = .func fd) (h1 : fd.body = .stmts (dBody i j)) (h2 : fd.closure = []) (h3 : fd.scope = dScope i j)
  (h4 : fd.globals = mainGlobals) (h5 : fd.builtins = builtinsNs) (h6 : fd.params = dArgs i j) (h7 : B.CodeRec fd.code fd.qualname) (good : (fnGood (fnAt i j ds) && argGood (dArgs i j) ds.length) = true) (hv : VRs [] ds rds)
  (hs : ∀ (s : Shared), (∀ b o, B.get? b = some o → s.heap.get? b = some o) → ∀ (M : Model) (A : Around) (E : Value → Shared → Prop) (Q : Option (Array Value) → Shared → Prop), (∀ d?, (d?.getD #[]).toList = rds → Q d? s) → wpAny M A (seqItems? fd.defaults) Q E s) :
  FnOk B a (fnAt i j ds) := by
 obtain ⟨g1, g2⟩ := Bool.and_eq_true_iff.mp good
 simp only [fnGood, Bool.and_eq_true, decide_eq_true_eq, Bool.not_eq_true', List.all_eq_true, Bool.or_eq_true, decide_eq_false_iff_not, Option.isNone_iff_eq_none] at g1
 simp only [argGood, Bool.and_eq_true, List.isEmpty_iff, Option.isNone_iff_eq_none] at g2
 obtain ⟨⟨⟨⟨⟨⟨⟨q1, q2⟩, q3⟩, q4⟩, q5⟩, q6⟩, q7⟩, q8⟩ := g1
 obtain ⟨⟨⟨⟨r1, r2⟩, r3⟩, r4⟩, r5⟩ := g2
 refine ⟨q1, q2, ⟨q3, q4, q5, q6⟩, q7, q8, o, fd, h, hd, h1, h2, h3, h4, h5, h7, fun s rs hk l1 l2 => ⟨rds.drop (rs.length + rds.length - (fnAt i j ds).params.length), ?_, ?_⟩⟩
 ·have e : (fnAt i j ds).dflts.length = rds.length := by show ds.length = _; have := hv.length; lia -abstractProof
  rw [e]
  exact hv.drop'
 ·have hl := hv.length
  have hr5 := Nat.le_of_ble_eq_true r5
  refine bindsTo_plain (by rw [h6, r1]) (by rw [h6, r2]) (by rw [h6, r3]) (by rw [h6, r4]) (by rw [h6]; rfl) q1 (hs s hk) l1 ?_ ?_
  ·have : (fnAt i j ds).dflts.length = ds.length := rfl
   lia -abstractProof
  ·have e : (fnAt i j ds).params.length = (dArgs i j).args.length := List.length_map ..
   lia -abstractProof
noncomputable def seqOf : Option Obj → Option (List Value)
 | some ⟨_, _, .seq rds _, _⟩ => some rds.toList
 | _ => none
noncomputable def dflIn (K : Frag) (v : Value) : Option (List Value) := match v with
 | .none => some []
 | .ref t => seqOf (K.lookup t)
 | _ => none
theorem nx {α : Type} {x : α} {P : Prop} (h : none = some x) : P := by cases h
theorem seqOf_out {q : Option Obj} {l : List Value} : seqOf q = some l → ∃ c d r n s, q = some ⟨c, d, .seq r n, s⟩ ∧ r.toList = l := by
 cases q with
 | none => exact nx
 | some o => cases o with
  | mk c d x s => cases x with
   | seq r n => exact fun h => ⟨_, _, _, _, _, rfl, Option.some.inj h⟩
   | _ => exact nx
noncomputable def fnPt (K : Frag) : Option Obj → Option (FuncBody × List (Str × Addr) × Scope × Addr × Addr × Arguments) × Option (List Value) × Bool
 | some ⟨_, _, .func fd, _⟩ => (some (fd.body, fd.closure, fd.scope, fd.globals, fd.builtins, fd.params), dflIn K fd.defaults, codeIn K fd.code fd.qualname)
 | _ => (none, none, false)
theorem fnPt_out {K : Frag} {q : Option Obj} {x y z} : fnPt K q = (some x, y, z) → ∃ c d fd s, q = some ⟨c, d, .func fd, s⟩ ∧ (fd.body, fd.closure, fd.scope, fd.globals, fd.builtins, fd.params) = x ∧ dflIn K fd.defaults = y ∧ codeIn K fd.code fd.qualname = z := by
 cases q with
 | none => exact fun h => nx (Prod.mk.inj h).1
 | some o => cases o with
  | mk c d r s => cases r with
   | func fd => exact fun h => ⟨_, _, _, _, rfl, Option.some.inj (Prod.mk.inj h).1, Prod.mk.inj (Prod.mk.inj h).2⟩
   | _ => exact fun h => nx (Prod.mk.inj h).1
noncomputable def fnPart (K : Frag) (a : Addr) : Option (FuncBody × List (Str × Addr) × Scope × Addr × Addr × Arguments) × Option (List Value) × Bool := fnPt K (K.lookup a)
noncomputable def ofB : Option Bool → AV
 | some b => .bool b
 | none => .none
noncomputable def dfV : Option Bool → Value
 | some b => .bool b
 | none => .none
theorem dfV_ok : ∀ ds : List (Option Bool), VRs [] (ds.map ofB) (ds.map dfV)
 | [] => trivial
 | some _ :: ds => ⟨rfl, dfV_ok ds⟩
 | none :: ds => ⟨rfl, dfV_ok ds⟩
theorem dfl_ok {K : Frag} {B : Heap} (X : K.In B) {v : Value} {rds : List Value} (h : dflIn K v = some rds) (s : Shared) (hk : ∀ b o, B.get? b = some o → s.heap.get? b = some o) (M : Model) (A : Around) (E : Value → Shared → Prop) (Q : Option (Array Value) → Shared → Prop)
  (hQ : ∀ d?, (d?.getD #[]).toList = rds → Q d? s) : wpAny M A (seqItems? v) Q E s := by
 revert h
 cases v with
 | none => exact fun h => wpAny_bind (wpAny_pure (wpAny_pure (hQ none (Option.some.inj h))))
 | ref t => exact fun h => let ⟨_, _, _, _, _, e, g⟩ := seqOf_out h; wpAny_seqItems (hk _ _ (X _ _ e)) rfl (hQ _ g)
 | _ => exact nx
theorem fnOk_row {K : Frag} {B : Heap} (X : K.In B) {a : Addr} {i j : Nat} {ds : List (Option Bool)} (h : fnPart K a = (some (.stmts (dBody i j), [], dScope i j, mainGlobals, builtinsNs, dArgs i j), some (ds.map dfV), true)) (good : (fnGood (fnAt i j (ds.map ofB)) && argGood (dArgs i j) (ds.map ofB).length) = true) :
  FnOk B a (fnAt i j (ds.map ofB)) := by
 obtain ⟨_, _, fd, _, e, h1, h2, h3⟩ := fnPt_out h
 obtain ⟨g1, h1⟩ := Prod.mk.inj h1
 obtain ⟨g2, h1⟩ := Prod.mk.inj h1
 obtain ⟨g3, h1⟩ := Prod.mk.inj h1
 obtain ⟨g4, h1⟩ := Prod.mk.inj h1
 obtain ⟨g5, g6⟩ := Prod.mk.inj h1
 exact fnOk_of (X _ _ e) rfl g1 g2 g3 g4 g5 g6 (codeRec_of X h3) good (dfV_ok ds) (dfl_ok X h2)
end
section
open PySem.Spec
noncomputable def fnsW : List (Addr × Nat × Nat × List (Option Bool)) := [(67, 2, 7, [some false]), (91, 3, 0, []), (98, 3, 1, []), (105, 3, 2, []), (112, 3, 3, []), (119, 3, 4, []), (126, 3, 5, []), (133, 3, 6, []), (140, 3, 7, []), (147, 3, 8, []), (154, 3, 9, []), (161, 3, 10, []), (168, 3, 11, []), (175, 3, 12, []), (182, 3, 13, []), (189, 3, 14, []), (196, 3, 15, []), (203, 3, 16, []), (210, 3, 17, []), (230, 5, 0, [none]), (240, 5, 1, []), (250, 5, 2, []), (260, 5, 3, []), (278, 8, 1000, []), (285, 9, 1000, []), (290, 10, 1000, []), (297, 11, 1000, []), (304, 12, 1000, []), (311, 13, 1000, []), (316, 14, 1000, [])]
noncomputable def globC : List (Str × Value) := [("len", .builtin "len"), ("sum", .builtin "sum"), ("min", .builtin "min"), ("max", .builtin "max"), ("any", .builtin "any"), ("sorted", .builtin "sorted"), ("range", .type "range"), ("list", .type "list"), ("enumerate", .type "enumerate"), ("Shanten", .ref 73), ("_RegularShanten", .ref 213), ("Agari", .ref 266), ("_law_times", .ref 278), ("_law_add", .ref 285), ("_law_hand", .ref 290), ("_law_splits", .ref 297), ("_law_counts", .ref 304), ("_law_moved", .ref 311), ("law", .ref 316)]
noncomputable def statW : List ((Addr × Str) × Addr) := [((73, "calculate_shanten_for_regular_hand"), 67), ((266, "is_agari"), 230), ((266, "_is_mentsu"), 240), ((266, "_is_atama_mentsu"), 250), ((266, "_to_meld"), 260)]
noncomputable def methW : List ((Addr × Str) × Addr) := [((213, "__init__"), 91), ((213, "calculate"), 98), ((213, "_scan"), 105), ((213, "_run"), 112), ((213, "_update_result"), 119), ((213, "_increase_set"), 126), ((213, "_decrease_set"), 133), ((213, "_increase_pair"), 140), ((213, "_decrease_pair"), 147), ((213, "_increase_syuntsu"), 154), ((213, "_decrease_syuntsu"), 161), ((213, "_increase_tatsu_first"), 168), ((213, "_decrease_tatsu_first"), 175), ((213, "_increase_tatsu_second"), 182), ((213, "_decrease_tatsu_second"), 189), ((213, "_increase_isolated_tile"), 196), ((213, "_decrease_isolated_tile"), 203), ((213, "_remove_honor_and_terminal_man_tiles"), 210)]
noncomputable def ownW : List Str := ["_tiles", "_number_melds", "_number_tatsu", "_number_pairs", "_number_jidahai", "_flag_four_copies", "_flag_isolated_tiles", "_min_shanten"]
noncomputable def fnW (a : Addr) : Option Fn := (fnsW.lookup a).map fun e => fnAt e.1 e.2.1 (e.2.2.map ofB)
noncomputable def XW : Ctx where
 glob := ("_law_lone", .ref 0) :: globC.map fun e => (e.1, .con e.2)
 cattr C n := if C = 73 ∧ n = ("AGARI_STATE" : Str) then some (.int (-1)) else none
 stat C n := statW.lookup (C, n)
 meth C n := methW.lookup (C, n)
 fn := fnW
 cls C := if C = 213 then some 91 else none
 own C n := decide (C = 213) && ownW.contains n
 N := 1000
theorem lookup_mem {α β : Type} [BEq α] [LawfulBEq α] {x : α} {y : β} : ∀ {l : List (α × β)}, l.lookup x = some y → (x, y) ∈ l
 | (a, b) :: l, h => by
  rw [List.lookup_cons] at h
  split at h
  ·rename_i e
   cases h
   rw [beq_iff_eq.mp e]; exact List.mem_cons_self ..
  ·exact List.mem_cons_of_mem _ (lookup_mem h)
theorem foAll (P : Params) : fnsW.map (fun e => fnPart (KW P) e.1) = fnsW.map (fun e => (some (.stmts (dBody e.2.1 e.2.2.1), [], dScope e.2.1 e.2.2.1, mainGlobals, builtinsNs, dArgs e.2.1 e.2.2.1), some (e.2.2.2.map dfV), true)) := by kernel_rfl
theorem goodAll : fnsW.all (fun e => fnGood (fnAt e.2.1 e.2.2.1 (e.2.2.2.map ofB)) && argGood (dArgs e.2.1 e.2.2.1) (e.2.2.2.map ofB).length) = true := by kernel_rfl
theorem fnsOk (P : Params) {B : Heap} (X : (KW P).In B) : ∀ a fn, XW.fn a = some fn → FnOk B a fn := by
 intro a fn h
 obtain ⟨⟨i, j, ds⟩, h1, rfl⟩ := Option.map_eq_some_iff.mp (show (fnsW.lookup a).map (fun e => fnAt e.1 e.2.1 (e.2.2.map ofB)) = some fn from h)
 have hm := lookup_mem h1
 have h2 := List.map_inj_left.mp (foAll P) _ hm
 have h3 := List.all_eq_true.mp goodAll _ hm
 generalize KW P = K at X h2
 exact fnOk_row (a := a) (i := i) (j := j) (ds := ds) X h2 h3
theorem keepFW (P : Params) : fnsW.all (fun e => keepIn (KW P) (.ref e.1)) = true := by kernel_rfl
noncomputable def statRow (K : Frag) (e : (Addr × Str) × Addr) := (specialIn K (.ref e.1.1) "__getattribute__", readsIn K e.1.1 (.type "type"), findCls K (.ref e.1.1) (.type "type") e.1.2, (recIn K (e.2 + 2) "staticmethod").bind List.head?)
theorem statAllW (P : Params) : statW.map (statRow (KW P)) = statW.map fun e => (some (some (.builtin "type.__getattribute__")), true, some (.get (.builtin "staticmethod.__get__") (.ref (e.2 + 2)) .none (.ref e.1.1)), some (.ref e.2)) := by kernel_rfl
theorem methAllW (P : Params) : methW.all (fun e => plainGet (KW P) e.1.1 e.1.2 && findIn (KW P) (.ref e.1.1) e.1.2 == some (some (.ref e.2)) && isFn (KW P) (.ref e.2)) = true := by kernel_rfl
noncomputable def valM1 : Option CFound → Bool
 | some (.val (.int i _)) => i == -1
 | _ => false
theorem valM1_out {q : Option CFound} : valM1 q = true → ∃ i t, q = some (.val (.int i t)) ∧ i = -1 := by
 cases q with
 | none => exact fun h => absurd h Bool.false_ne_true
 | some c => cases c with
  | val v => cases v with
   | int i t => exact fun h => ⟨i, t, rfl, beq_iff_eq.mp h⟩
   | _ => exact fun h => absurd h Bool.false_ne_true
  | _ => exact fun h => absurd h Bool.false_ne_true
theorem cattrOkW (P : Params) : (readsIn (KW P) 73 (.type "type") && valM1 (findCls (KW P) (.ref 73) (.type "type") "AGARI_STATE")) = true := by kernel_rfl
theorem newOkW (P : Params) : (makesIn (KW P) 213 && findIn (KW P) (.ref 213) "__init__" == some (some (.ref 91)) && typeIn (KW P) (.ref 91) == some (.type "function") && keepIn (KW P) (.ref 213)) = true := by kernel_rfl
theorem ownGetW (P : Params) : ownW.all (fun n => plainGet (KW P) 213 n && hasDictIn (KW P) 213 && (match findIn (KW P) (.ref 213) n with | some attr => noGet (KW P) attr | none => false)) = true := by kernel_rfl
theorem ownSetW (P : Params) : ownW.all (fun n => findIn (KW P) (.ref 213) "__setattr__" == some (some (.builtin "object.__setattr__")) && plainOver (KW P) 213 && takerIn (KW P) 213 n == some none && (clsIn (KW P) 213).any (·.hasDict)) = true := by kernel_rfl
end
section
open PySem.Spec
theorem stat_of {K : Frag} {C : Addr} {name : Str} {f : Addr} (h : statRow K ((C, name), f) = (some (some (.builtin "type.__getattribute__")), true, some (.get (.builtin "staticmethod.__get__") (.ref (f + 2)) .none (.ref C)), some (.ref f))) : specialIn K (.ref C) "__getattribute__" = some (some (.builtin "type.__getattribute__")) ∧
  ∃ mc p rest, readsIn K C mc = true ∧ findCls K (.ref C) mc name = some (.get (.builtin "staticmethod.__get__") (.ref p) .none (.ref C)) ∧ recIn K p "staticmethod" = some (.ref f :: rest) := by
 obtain ⟨h1, h⟩ := Prod.mk.inj h
 obtain ⟨h2, h⟩ := Prod.mk.inj h
 obtain ⟨h3, h⟩ := Prod.mk.inj h
 obtain ⟨l, e, h⟩ := Option.bind_eq_some_iff.mp h
 obtain ⟨rest, rfl⟩ := List.head?_eq_some_iff.mp h
 exact ⟨h1, _, _, rest, h2, h3, e⟩
theorem xok (P : Params) {B : Heap} (X : (KW P).In B) : XOk B (KW P) XW where
 KB := X
 cls := by
  refine ⟨fun C name h => ?_, fun C name h => ?_⟩
  ·obtain ⟨h1, h2⟩ := Bool.and_eq_true_iff.mp (show (decide (C = 213) && ownW.contains name) = true from h)
   have := of_decide_eq_true h1; subst this
   have := List.all_eq_true.mp (ownGetW P) name (List.contains_iff_mem.mp h2)
   simp only [Bool.and_eq_true] at this
   obtain ⟨⟨a, b⟩, c⟩ := this
   refine ⟨a, b, ?_⟩
   split at c
   ·rename_i attr e; exact ⟨attr, e, c⟩
   ·cases c
  ·obtain ⟨h1, h2⟩ := Bool.and_eq_true_iff.mp (show (decide (C = 213) && ownW.contains name) = true from h)
   have := of_decide_eq_true h1; subst this
   have := List.all_eq_true.mp (ownSetW P) name (List.contains_iff_mem.mp h2)
   simp only [Bool.and_eq_true, beq_iff_eq] at this
   obtain ⟨⟨⟨a, b⟩, c⟩, d⟩ := this
   exact ⟨a, b, c, d⟩
 keepF := by
  intro f fn h
  obtain ⟨e, h1, _⟩ := Option.map_eq_some_iff.mp (show (fnsW.lookup f).map (fun e => fnAt e.1 e.2.1 (e.2.2.map ofB)) = some fn from h)
  exact List.all_eq_true.mp (keepFW P) _ (lookup_mem h1)
 keepC := by
  intro C ini h
  have h : (if C = 213 then some 91 else none) = some ini := h
  split at h
  ·rename_i e; subst e
   have := newOkW P
   simp only [Bool.and_eq_true] at this
   exact this.2
  ·cases h
 stat := fun C name f h => stat_of (List.map_inj_left.mp (statAllW P) _ (lookup_mem (show statW.lookup (C, name) = some f from h)))
 meth := by
  intro C name f h
  have := List.all_eq_true.mp (methAllW P) _ (lookup_mem (show methW.lookup (C, name) = some f from h))
  simp only [Bool.and_eq_true, beq_iff_eq] at this
  exact ⟨this.1.1, this.1.2, this.2⟩
 cattr := by
  intro C name v h
  have h : (if C = 73 ∧ name = ("AGARI_STATE" : Str) then some (AV.int (-1)) else none) = some v := h
  split at h
  ·rename_i e
   obtain ⟨rfl, rfl⟩ := e
   cases h
   have := cattrOkW P
   obtain ⟨a, b⟩ := Bool.and_eq_true_iff.mp this
   obtain ⟨i, t, e, rfl⟩ := valM1_out b
   exact ⟨_, _, a, e, rfl, t, rfl⟩
  ·cases h
 new := by
  intro C ini h
  have h : (if C = 213 then some 91 else none) = some ini := h
  split at h
  ·rename_i e; subst e; cases h
   have := newOkW P
   simp only [Bool.and_eq_true, beq_iff_eq] at this
   exact ⟨this.1.1.1, this.1.1.2, this.1.2⟩
  ·cases h
noncomputable def k3es (P : Params) : Array DictEntry := match k3 P with
 | ⟨_, _, .dict es _, _⟩ => es
 | _ => #[]
theorem globAllW (P : Params) : globC.all (fun e => nsFind (k3es P) e.1 == some e.2 || (nsFind (k3es P) e.1 == none && bootBuiltins e.1 == some e.2)) = true := by kernel_rfl
theorem globT (P : Params) : nsFind (k3es P) "_law_lone" = some (.ref 271) := by kernel_rfl
theorem globOk (P : Params) {B : Heap} (X : (KW P).In B) {mg mb : Str → Option Value} (hg : B.Ns mainGlobals mg) (hb : B.Ns builtinsNs mb) (hboot : ∀ x : Str, x ≠ "__name__" → mb x = bootBuiltins x) : GlobOk B [271] XW := by
 refine ⟨mg, mb, hg, hb, fun x v h => ?_⟩
 obtain ⟨o, es, ep, g1, g2, _, g4⟩ := hg
 have g5 : B.get? 3 = some (k3 P) := X _ _ (by kernel_rfl)
 rw [show mainGlobals = 3 from rfl, g5] at g1
 cases g1
 have ees : es = k3es P := by
  have : (k3 P).data = .dict (k3es P) ep := by rw [g2]; exact congrArg (Data.dict · ep) (by have := g2; unfold k3es; cases hk : k3 P with | mk c d dt sl => rw [hk] at g2; dsimp only at g2; subst g2; rfl)
  rw [g2] at this
  exact (Data.dict.inj this).1
 subst ees
 have h : (("_law_lone", AV.ref 0) :: globC.map fun e => (e.1, AV.con e.2) : List (Str × AV)).lookup x = some v := h
 have hm := lookup_mem h
 rcases List.mem_cons.mp hm with e | hm
 ·cases e
  exact ⟨.ref 271, ⟨271, rfl, rfl⟩, .inl (by rw [← g4]; exact globT P)⟩
 ·obtain ⟨e, he, e2⟩ := List.mem_map.mp hm
  cases e2
  refine ⟨e.2, rfl, ?_⟩
  have := List.all_eq_true.mp (globAllW P) e he
  simp only [Bool.or_eq_true, Bool.and_eq_true, beq_iff_eq] at this
  rcases this with q | ⟨q1, q2⟩
  ·exact .inl (by rw [← g4]; exact q)
  ·refine .inr ⟨by rw [← g4]; exact q1, ?_⟩
   rw [hboot, q2]
   intro e'
   rw [e'] at q2
   have : bootBuiltins ("__name__" : Str) = none ∨ True := .inr trivial
   revert he e'
   have hn : globC.all (fun e => !decide (e.1 = ("__name__" : Str))) = true := by kernel_rfl
   intro he e'
   have := List.all_eq_true.mp hn e he
   simp [e'] at this
end
structure RS where
 tl : List Int
 m : Int
 ta : Int
 pr : Int
 jd : Int
 fc : Int
 fi : Int
 mn : Int
noncomputable def gt (l : List Int) (k : Int) : Int := l.getD k.toNat 0
noncomputable def stl (l : List Int) (k : Int) (v : Int) : List Int := l.set k.toNat v
noncomputable def incSet (k : Int) (R : RS) : RS := { R with tl := stl (R.tl) k (gt (R.tl) k - 3), m := R.m + 1 }
noncomputable def decSet (k : Int) (R : RS) : RS := { R with tl := stl (R.tl) k (gt (R.tl) k + 3), m := R.m - 1 }
noncomputable def incPair (k : Int) (R : RS) : RS := { R with tl := stl (R.tl) k (gt (R.tl) k - 2), pr := R.pr + 1 }
noncomputable def decPair (k : Int) (R : RS) : RS := { R with tl := stl (R.tl) k (gt (R.tl) k + 2), pr := R.pr - 1 }
noncomputable def incSyu (k : Int) (R : RS) : RS := { R with tl := stl (stl (stl (R.tl) k (gt (R.tl) k - 1)) (k + 1) (gt (stl (R.tl) k (gt (R.tl) k - 1)) (k + 1) - 1)) (k + 2) (gt (stl (stl (R.tl) k (gt (R.tl) k - 1)) (k + 1) (gt (stl (R.tl) k (gt (R.tl) k - 1)) (k + 1) - 1)) (k + 2) - 1), m := R.m + 1 }
noncomputable def decSyu (k : Int) (R : RS) : RS := { R with tl := stl (stl (stl (R.tl) k (gt (R.tl) k + 1)) (k + 1) (gt (stl (R.tl) k (gt (R.tl) k + 1)) (k + 1) + 1)) (k + 2) (gt (stl (stl (R.tl) k (gt (R.tl) k + 1)) (k + 1) (gt (stl (R.tl) k (gt (R.tl) k + 1)) (k + 1) + 1)) (k + 2) + 1), m := R.m - 1 }
noncomputable def incT1 (k : Int) (R : RS) : RS := { R with tl := stl (stl (R.tl) k (gt (R.tl) k - 1)) (k + 1) (gt (stl (R.tl) k (gt (R.tl) k - 1)) (k + 1) - 1), ta := R.ta + 1 }
noncomputable def decT1 (k : Int) (R : RS) : RS := { R with tl := stl (stl (R.tl) k (gt (R.tl) k + 1)) (k + 1) (gt (stl (R.tl) k (gt (R.tl) k + 1)) (k + 1) + 1), ta := R.ta - 1 }
noncomputable def incT2 (k : Int) (R : RS) : RS := { R with tl := stl (stl (R.tl) k (gt (R.tl) k - 1)) (k + 2) (gt (stl (R.tl) k (gt (R.tl) k - 1)) (k + 2) - 1), ta := R.ta + 1 }
noncomputable def decT2 (k : Int) (R : RS) : RS := { R with tl := stl (stl (R.tl) k (gt (R.tl) k + 1)) (k + 2) (gt (stl (R.tl) k (gt (R.tl) k + 1)) (k + 2) + 1), ta := R.ta - 1 }
noncomputable def incIso (k : Int) (R : RS) : RS := { R with tl := stl R.tl k (gt R.tl k - 1), fi := Builtin.bitOr R.fi (1 * 2 ^ k.toNat) }
noncomputable def decIso (k : Int) (R : RS) : RS := { R with tl := stl R.tl k (gt R.tl k + 1), fi := Builtin.bitAnd R.fi (Builtin.bitNot (1 * 2 ^ k.toNat)) }
noncomputable def r1V (R : RS) : Int := if R.pr ≠ 0 then 8 - R.m * 2 - R.ta - R.pr else if R.fc ≠ 0 ∧ R.fi ≠ 0 ∧ Builtin.bitOr R.fc R.fi = R.fc then 8 - R.m * 2 - R.ta - R.pr + 1 else 8 - R.m * 2 - R.ta - R.pr
noncomputable def k1V (R : RS) : Int := if R.pr ≠ 0 then R.m + R.ta + (R.pr - 1) else R.m + R.ta
noncomputable def r2V (R : RS) : Int := if k1V R > 4 then r1V R + (k1V R - 4) else r1V R
noncomputable def retV (R : RS) : Int := if r2V R ≠ -1 ∧ r2V R < R.jd then R.jd else r2V R
noncomputable def upd (R : RS) : RS := { R with mn := if retV R < R.mn then retV R else R.mn }
noncomputable def iV (e : Int) : Int := let a := if e > 8 then e - 9 else e; if a > 8 then a - 9 else a
theorem bit_split {n k : Nat} (h : n.testBit k = false) : n = 2 ^ (k + 1) * (n / 2 ^ (k + 1)) + n % 2 ^ k := by
 have h1 := Nat.div_add_mod n (2 ^ (k + 1))
 have h2 : n % 2 ^ (k + 1) = n % 2 ^ k := by
  have q : ¬ n / 2 ^ k % 2 = 1 := by rw [Nat.testBit_eq_decide_div_mod_eq] at h; simpa using h
  rw [Nat.mod_pow_succ, show n / 2 ^ k % 2 = 0 by omega]; rfl
 rw [h2] at h1
 exact h1.symm
theorem or_bit {n k : Nat} (h : n.testBit k = false) : n ||| 2 ^ k = n + 2 ^ k := by
 have hr : n % 2 ^ k < 2 ^ k := Nat.mod_lt _ (Nat.two_pow_pos k)
 have e1 := bit_split h
 generalize n / 2 ^ (k + 1) = q at e1
 generalize n % 2 ^ k = r at e1 hr
 have hr2 : r < 2 ^ (k + 1) := by rw [Nat.pow_succ]; omega
 have hr3 : 2 ^ k * 1 + r < 2 ^ (k + 1) := by rw [Nat.pow_succ]; omega
 subst e1
 have a := Nat.two_pow_add_eq_or_of_lt hr2 q
 have b := Nat.two_pow_add_eq_or_of_lt hr 1
 have c := Nat.two_pow_add_eq_or_of_lt hr3 q
 rw [a, Nat.or_assoc, Nat.or_comm r, ← a, show (2 : Nat) ^ k ||| r = 2 ^ k * 1 + r by rw [b, Nat.mul_one], ← c]
 omega
theorem and_bit {n k : Nat} : (n ||| 2 ^ k) &&& 2 ^ k = 2 ^ k := by
 apply Nat.eq_of_testBit_eq
 intro i
 rw [Nat.testBit_and, Nat.testBit_or]
 cases (2 ^ k).testBit i <;> simp
theorem bitOr_nat (n m : Nat) : Builtin.bitOr (n : Int) (m : Int) = ((n ||| m : Nat) : Int) := by
 unfold Builtin.bitOr Builtin.bitAnd
 have h1 : decide (0 ≤ Builtin.bitNot (n : Int)) = false := by unfold Builtin.bitNot; simp; omega
 have h2 : decide (0 ≤ Builtin.bitNot (m : Int)) = false := by unfold Builtin.bitNot; simp; omega
 have h3 : ∀ x : Int, Builtin.bitNot (Builtin.bitNot x) = x := fun x => by unfold Builtin.bitNot; omega
 rw [h1, h2]
 dsimp only
 rw [h3, h3, h3]
 rfl
theorem bit_back {n k : Nat} (h : n.testBit k = false) : Builtin.bitAnd (Builtin.bitOr (n : Int) ((2 ^ k : Nat) : Int)) (Builtin.bitNot ((2 ^ k : Nat) : Int)) = (n : Int) := by
 have a1 := or_bit h
 have a2 := and_bit (n := n) (k := k)
 generalize (2 : Nat) ^ k = m at a1 a2 ⊢
 rw [bitOr_nat]
 unfold Builtin.bitAnd
 have h1 : decide (0 ≤ ((n ||| m : Nat) : Int)) = true := decide_eq_true (Int.natCast_nonneg _)
 have h2 : decide (0 ≤ Builtin.bitNot (m : Int)) = false := decide_eq_false (by unfold Builtin.bitNot; omega)
 have h3 : ∀ x : Int, Builtin.bitNot (Builtin.bitNot x) = x := fun x => by unfold Builtin.bitNot; omega
 rw [h1, h2]
 dsimp only
 rw [h3, Int.toNat_natCast, Int.toNat_natCast, a2, a1]
 omega
set_option tactic.hygienic false
section
theorem len_stl {l : List Int} {k v : Int} {n : Nat} (h : l.length = n) : (stl l k v).length = n := by unfold stl; rw [List.length_set]; exact h
section
variable {k : Int} {R : RS}
theorem len_incSet (h : R.tl.length = 34) : (incSet k R).tl.length = 34 := by unfold incSet; repeat' (first | exact h | apply len_stl)
theorem len_decSet (h : R.tl.length = 34) : (decSet k R).tl.length = 34 := by unfold decSet; repeat' (first | exact h | apply len_stl)
theorem len_incPair (h : R.tl.length = 34) : (incPair k R).tl.length = 34 := by unfold incPair; repeat' (first | exact h | apply len_stl)
theorem len_decPair (h : R.tl.length = 34) : (decPair k R).tl.length = 34 := by unfold decPair; repeat' (first | exact h | apply len_stl)
theorem len_incSyu (h : R.tl.length = 34) : (incSyu k R).tl.length = 34 := by unfold incSyu; repeat' (first | exact h | apply len_stl)
theorem len_decSyu (h : R.tl.length = 34) : (decSyu k R).tl.length = 34 := by unfold decSyu; repeat' (first | exact h | apply len_stl)
theorem len_incT1 (h : R.tl.length = 34) : (incT1 k R).tl.length = 34 := by unfold incT1; repeat' (first | exact h | apply len_stl)
theorem len_decT1 (h : R.tl.length = 34) : (decT1 k R).tl.length = 34 := by unfold decT1; repeat' (first | exact h | apply len_stl)
theorem len_incT2 (h : R.tl.length = 34) : (incT2 k R).tl.length = 34 := by unfold incT2; repeat' (first | exact h | apply len_stl)
theorem len_decT2 (h : R.tl.length = 34) : (decT2 k R).tl.length = 34 := by unfold decT2; repeat' (first | exact h | apply len_stl)
theorem len_incIso (h : R.tl.length = 34) : (incIso k R).tl.length = 34 := by unfold incIso; repeat' (first | exact h | apply len_stl)
theorem len_decIso (h : R.tl.length = 34) : (decIso k R).tl.length = 34 := by unfold decIso; repeat' (first | exact h | apply len_stl)
end
theorem iV_all : ∀ i : Fin 27, 0 ≤ iV (i.1 : Int) ∧ iV (i.1 : Int) ≤ 8 ∧ (iV (i.1 : Int) < 8 → (i.1 : Int) + 1 < 27) ∧ (iV (i.1 : Int) < 7 → (i.1 : Int) + 2 < 27) ∧ (iV (i.1 : Int) < 6 → (i.1 : Int) + 3 < 27) := by decide
theorem iV_bd {e : Int} (h0 : 0 ≤ e) (h1 : e < 27) : 0 ≤ iV e ∧ iV e ≤ 8 ∧ (iV e < 8 → e + 1 < 27) ∧ (iV e < 7 → e + 2 < 27) ∧ (iV e < 6 → e + 3 < 27) := by
 obtain ⟨n, rfl⟩ := Int.eq_ofNat_of_zero_le h0
 exact iV_all ⟨n, by lia -abstractProof⟩
theorem gt_stl {l : List Int} {k j v : Int} (h0 : 0 ≤ k) (h1 : k < l.length) (hj : 0 ≤ j) : gt (stl l k v) j = if j = k then v else gt l j := by
 unfold gt stl
 rw [List.getD_eq_getElem?_getD, List.getD_eq_getElem?_getD]
 by_cases e : j = k
 ·subst e
  rw [if_pos rfl, List.getElem?_set_self (by lia -abstractProof)]; rfl
 ·rw [if_neg e, List.getElem?_set_ne (by lia -abstractProof)]
theorem list_ext {l l' : List Int} (h : l.length = 34) (h' : l'.length = 34) (hg : ∀ j : Int, 0 ≤ j → j < 34 → gt l j = gt l' j) : l = l' := by
 apply List.ext_getElem (by lia -abstractProof)
 intro i h1 h2
 have := hg i (by lia -abstractProof) (by lia -abstractProof)
 unfold gt at this
 rw [List.getD_eq_getElem?_getD, List.getD_eq_getElem?_getD, Int.toNat_natCast, List.getElem?_eq_getElem h1, List.getElem?_eq_getElem h2] at this
 simpa using this
noncomputable def s27 (l : List Int) : Int := (l.take 27).sum
theorem sum_set : ∀ {l : List Int} {k : Nat} {v : Int}, k < l.length → (l.set k v).sum = l.sum - l.getD k 0 + v
 | [], _, _, h => by simp at h
 | a :: l, 0, v, _ => by simp; lia -abstractProof
 | a :: l, k + 1, v, h => by
  have := sum_set (l := l) (k := k) (v := v) (by simpa using h)
  simp only [List.set_cons_succ, List.sum_cons, List.getD_cons_succ, this]; lia -abstractProof
theorem s27_stl {l : List Int} {k v : Int} (hl : l.length = 34) (h0 : 0 ≤ k) (h1 : k < 27) : s27 (stl l k v) = s27 l - gt l k + v := by
 unfold s27 stl gt
 rw [List.take_set, sum_set (by simp; lia -abstractProof)]
 congr 2
 rw [List.getD_eq_getElem?_getD, List.getD_eq_getElem?_getD, List.getElem?_take_of_lt (by lia -abstractProof)]
theorem sum_nonneg : ∀ {l : List Int}, (∀ x ∈ l, 0 ≤ x) → 0 ≤ l.sum
 | [], _ => by simp
 | a :: l, h => by
  have h1 := h a (List.mem_cons_self ..)
  have h2 := sum_nonneg fun x hx => h x (List.mem_cons_of_mem _ hx)
  simp only [List.sum_cons]; lia -abstractProof
theorem s27_nonneg {l : List Int} (hl : l.length = 34) (h : ∀ j : Int, 0 ≤ j → j < 34 → 0 ≤ gt l j) : 0 ≤ s27 l := by
 refine sum_nonneg fun x hx => ?_
 obtain ⟨i, hi, e⟩ := List.getElem_of_mem (List.mem_of_mem_take hx)
 have := h i (by lia -abstractProof) (by lia -abstractProof)
 unfold gt at this
 rw [List.getD_eq_getElem?_getD, Int.toNat_natCast, List.getElem?_eq_getElem hi] at this
 simpa [e] using this
structure Good (R : RS) : Prop where
 len : R.tl.length = 34
 nn : ∀ j : Int, 0 ≤ j → j < 34 → 0 ≤ gt R.tl j
 m0 : 0 ≤ R.m
 bd : R.m + s27 R.tl ≤ 900
noncomputable def addAt : List (Int × Int) → List Int → List Int
 | [], l => l
 | p :: r, l => addAt r (stl l p.1 (gt l p.1 + p.2))
noncomputable def dsum : List (Int × Int) → Int → Int
 | [], _ => 0
 | p :: r, j => (if j = p.1 then p.2 else 0) + dsum r j
noncomputable def tot : List (Int × Int) → Int
 | [] => 0
 | p :: r => p.2 + tot r
noncomputable def neg : List (Int × Int) → List (Int × Int)
 | [] => []
 | p :: r => (p.1, -p.2) :: neg r
noncomputable def Bd : List (Int × Int) → Prop
 | [] => True
 | p :: r => (0 ≤ p.1 ∧ p.1 < 27) ∧ Bd r
noncomputable def Off (k : Int) : List (Int × Int) → Prop
 | [] => True
 | p :: r => k ≠ p.1 ∧ Off k r
noncomputable def NN (l : List Int) : List (Int × Int) → Prop
 | [] => True
 | p :: r => 0 ≤ gt l p.1 + p.2 ∧ Off p.1 r ∧ NN l r
theorem len_addAt : ∀ {ps : List (Int × Int)} {l : List Int}, l.length = 34 → (addAt ps l).length = 34
 | [], _, h => h
 | p :: r, l, h => by
  show (addAt r (stl l p.1 (gt l p.1 + p.2))).length = 34
  exact len_addAt (len_stl h)
theorem gt_addAt : ∀ {ps : List (Int × Int)} {l : List Int}, l.length = 34 → Bd ps → ∀ {j : Int}, 0 ≤ j → gt (addAt ps l) j = gt l j + dsum ps j
 | [], l, _, _, j, _ => (Int.add_zero _).symm
 | p :: r, l, hl, hb, j, hj => by
  show gt (addAt r _) j = gt l j + ((if j = p.1 then p.2 else 0) + dsum r j)
  rw [gt_addAt (len_stl hl) hb.2 hj, gt_stl hb.1.1 (by have := hb.1.2; lia -abstractProof) hj]
  by_cases h : j = p.1
  ·rw [if_pos h, if_pos h, h]; lia -abstractProof
  ·rw [if_neg h, if_neg h]; lia -abstractProof
theorem s27_addAt : ∀ {ps : List (Int × Int)} {l : List Int}, l.length = 34 → Bd ps → s27 (addAt ps l) = s27 l + tot ps
 | [], l, _, _ => (Int.add_zero _).symm
 | p :: r, l, hl, hb => by
  show s27 (addAt r _) = s27 l + (p.2 + tot r)
  rw [s27_addAt (len_stl hl) hb.2, s27_stl hl hb.1.1 hb.1.2]; lia -abstractProof
theorem dsum_neg : ∀ {ps : List (Int × Int)} {j : Int}, dsum (neg ps) j = - dsum ps j
 | [], _ => rfl
 | p :: r, j => by
  show (if j = p.1 then -p.2 else 0) + dsum (neg r) j = -((if j = p.1 then p.2 else 0) + dsum r j)
  rw [dsum_neg]; split <;> lia -abstractProof
theorem bd_neg : ∀ {ps : List (Int × Int)}, Bd ps → Bd (neg ps)
 | [], _ => trivial
 | _ :: _, h => ⟨h.1, bd_neg h.2⟩
theorem back_tl {ps : List (Int × Int)} {l l2 : List Int} (hl : l.length = 34) (hb : Bd ps) (q : l2 = addAt ps l) : addAt (neg ps) l2 = l := by
 subst q
 refine list_ext (len_addAt (len_addAt hl)) hl fun j a b => ?_
 rw [gt_addAt (len_addAt hl) (bd_neg hb) a, gt_addAt hl hb a, dsum_neg]; lia -abstractProof
theorem off_zero {j : Int} : ∀ {ps : List (Int × Int)}, Off j ps → dsum ps j = 0
 | [], _ => rfl
 | p :: r, h => by
  show (if j = p.1 then p.2 else 0) + dsum r j = 0
  rw [if_neg h.1, off_zero h.2]; rfl
theorem nn_add {l : List Int} {j : Int} (h0 : 0 ≤ gt l j) : ∀ {ps : List (Int × Int)}, NN l ps → 0 ≤ gt l j + dsum ps j
 | [], _ => by show 0 ≤ gt l j + 0; lia -abstractProof
 | p :: r, h => by
  show 0 ≤ gt l j + ((if j = p.1 then p.2 else 0) + dsum r j)
  by_cases e : j = p.1
  ·have h1 := h.1
   rw [if_pos e, e, off_zero h.2.1]; lia -abstractProof
  ·rw [if_neg e]
   have := nn_add h0 h.2.2
   lia -abstractProof
theorem good_add {R R' : RS} (g : Good R) (ps : List (Int × Int)) (hb : Bd ps) (hn : NN R.tl ps) (ht : R'.tl = addAt ps R.tl) (hm : R'.m + tot ps ≤ R.m) (m0 : R.m ≤ R'.m) : Good R' ∧ s27 R'.tl = s27 R.tl + tot ps := by
 have hs : s27 R'.tl = s27 R.tl + tot ps := by rw [ht]; exact s27_addAt g.len hb
 have bd := g.bd
 exact ⟨⟨by rw [ht]; exact len_addAt g.len, fun j a b => by rw [ht, gt_addAt g.len hb a]; exact nn_add (g.nn j a b) hn, Int.le_trans g.m0 m0, by rw [hs]; lia -abstractProof⟩, hs⟩
section
variable {R : RS} {e : Int}
theorem ne_1 : e ≠ e + 1 := by lia -abstractProof
theorem ne_2 : e ≠ e + 2 := by lia -abstractProof
theorem ne_12 : e + 1 ≠ e + 2 := by lia -abstractProof
theorem nn_1 {x c : Int} (h : c ≤ x) : 0 ≤ x + -c := by lia -abstractProof
theorem Good.incSet (g : Good R) (h0 : 0 ≤ e) (h1 : e < 27) (he : 3 ≤ gt R.tl e) : Good (incSet e R) ∧ s27 (Mj.incSet e R).tl = s27 R.tl + -3 :=
 good_add (R' := Mj.incSet e R) g [(e, -3)] ⟨⟨h0, h1⟩, trivial⟩ ⟨nn_1 he, trivial, trivial⟩ rfl (by show R.m + 1 + (-3 + 0) ≤ R.m; lia -abstractProof) (Int.le_add_of_nonneg_right (by decide))
theorem le_m {x c : Int} (h : c ≤ 0) : x + c ≤ x := by lia -abstractProof
theorem le_m2 {x : Int} : x + (-2 + 0) ≤ x := le_m (by decide)
theorem le_m1 {x : Int} : x + (-1 + 0) ≤ x := le_m (by decide)
theorem le_m11 {x : Int} : x + (-1 + (-1 + 0)) ≤ x := le_m (by decide)
theorem Good.incPair (g : Good R) (h0 : 0 ≤ e) (h1 : e < 27) (he : 2 ≤ gt R.tl e) : Good (incPair e R) ∧ s27 (Mj.incPair e R).tl = s27 R.tl + -2 :=
 good_add (R' := Mj.incPair e R) g [(e, -2)] ⟨⟨h0, h1⟩, trivial⟩ ⟨nn_1 he, trivial, trivial⟩ rfl le_m2 (Int.le_refl _)
theorem Good.incIso (g : Good R) (h0 : 0 ≤ e) (h1 : e < 27) (he : 1 ≤ gt R.tl e) : Good (incIso e R) ∧ s27 (Mj.incIso e R).tl = s27 R.tl + -1 :=
 good_add (R' := Mj.incIso e R) g [(e, -1)] ⟨⟨h0, h1⟩, trivial⟩ ⟨nn_1 he, trivial, trivial⟩ rfl le_m1 (Int.le_refl _)
theorem bd1 (h0 : 0 ≤ e) (h1 : e + 1 < 27) : Bd [(e, -1), (e + 1, -1)] := ⟨⟨h0, by show e < 27; lia -abstractProof⟩, ⟨by show 0 ≤ e + 1; lia -abstractProof, h1⟩, trivial⟩
theorem bd2 (h0 : 0 ≤ e) (h1 : e + 2 < 27) : Bd [(e, -1), (e + 2, -1)] := ⟨⟨h0, by show e < 27; lia -abstractProof⟩, ⟨by show 0 ≤ e + 2; lia -abstractProof, h1⟩, trivial⟩
theorem Good.incT1 (g : Good R) (h0 : 0 ≤ e) (h1 : e + 1 < 27) (he : 1 ≤ gt R.tl e) (he1 : 1 ≤ gt R.tl (e + 1)) : Good (incT1 e R) ∧ s27 (Mj.incT1 e R).tl = s27 R.tl + -2 :=
 good_add (R' := Mj.incT1 e R) g [(e, -1), (e + 1, -1)] (bd1 h0 h1) ⟨nn_1 he, ⟨ne_1, trivial⟩, nn_1 he1, trivial, trivial⟩ rfl le_m11 (Int.le_refl _)
theorem Good.incT2 (g : Good R) (h0 : 0 ≤ e) (h1 : e + 2 < 27) (he : 1 ≤ gt R.tl e) (he1 : 1 ≤ gt R.tl (e + 2)) : Good (incT2 e R) ∧ s27 (Mj.incT2 e R).tl = s27 R.tl + -2 :=
 good_add (R' := Mj.incT2 e R) g [(e, -1), (e + 2, -1)] (bd2 h0 h1) ⟨nn_1 he, ⟨ne_2, trivial⟩, nn_1 he1, trivial, trivial⟩ rfl le_m11 (Int.le_refl _)
noncomputable def d3 (e : Int) : List (Int × Int) := [(e, -1), (e + 1, -1), (e + 2, -1)]
theorem bd3 (h0 : 0 ≤ e) (h1 : e + 2 < 27) : Bd (d3 e) := ⟨⟨h0, by show e < 27; lia -abstractProof⟩, ⟨by show 0 ≤ e + 1; lia -abstractProof, by show e + 1 < 27; lia -abstractProof⟩, ⟨by show 0 ≤ e + 2; lia -abstractProof, h1⟩, trivial⟩
theorem dsum_hd {p : Int × Int} {r : List (Int × Int)} (h : Off p.1 r) : dsum (p :: r) p.1 = p.2 := by
 show (if p.1 = p.1 then p.2 else 0) + dsum r p.1 = p.2
 rw [if_pos rfl, off_zero h, Int.add_zero]
theorem dsum_sk {p : Int × Int} {r : List (Int × Int)} {j : Int} (h : j ≠ p.1) : dsum (p :: r) j = dsum r j := by
 show (if j = p.1 then p.2 else 0) + dsum r j = _
 rw [if_neg h, Int.zero_add]
theorem d3_at : dsum (d3 e) e = -1 ∧ dsum (d3 e) (e + 1) = -1 ∧ dsum (d3 e) (e + 2) = -1 :=
 ⟨dsum_hd (p := (e, -1)) ⟨by show e ≠ e + 1; lia -abstractProof, by show e ≠ e + 2; lia -abstractProof, trivial⟩, (dsum_sk (by show e + 1 ≠ e; lia -abstractProof)).trans (dsum_hd (p := (e + 1, -1)) ⟨by show e + 1 ≠ e + 2; lia -abstractProof, trivial⟩), (dsum_sk (by show e + 2 ≠ e; lia -abstractProof)).trans ((dsum_sk (by show e + 2 ≠ e + 1; lia -abstractProof)).trans (dsum_hd (p := (e + 2, -1)) trivial))⟩
theorem Good.incSyu (g : Good R) (h0 : 0 ≤ e) (h1 : e + 2 < 27) (he : 1 ≤ gt R.tl e) (he1 : 1 ≤ gt R.tl (e + 1)) (he2 : 1 ≤ gt R.tl (e + 2)) : Good (incSyu e R) ∧ s27 (Mj.incSyu e R).tl = s27 R.tl + -3 :=
 good_add (R' := Mj.incSyu e R) g (d3 e) (bd3 h0 h1) ⟨nn_1 he, ⟨ne_1, ne_2, trivial⟩, nn_1 he1, ⟨ne_12, trivial⟩, nn_1 he2, trivial, trivial⟩ rfl
  (by show R.m + 1 + (-1 + (-1 + (-1 + 0))) ≤ R.m; lia -abstractProof) (Int.le_add_of_nonneg_right (by decide))
theorem syu_at (L : R.tl.length = 34) (h0 : 0 ≤ e) (h1 : e + 2 < 27) : gt (incSyu e R).tl e = gt R.tl e + -1 ∧ gt (incSyu e R).tl (e + 1) = gt R.tl (e + 1) + -1 ∧ gt (incSyu e R).tl (e + 2) = gt R.tl (e + 2) + -1 := by
 have h := fun {j : Int} (hj : 0 ≤ j) => gt_addAt (ps := d3 e) L (bd3 h0 h1) hj
 obtain ⟨a, b, c⟩ := d3_at (e := e)
 exact ⟨(h h0).trans (by rw [a]), (h (by lia -abstractProof)).trans (by rw [b]), (h (by lia -abstractProof)).trans (by rw [c])⟩
end
section
variable {R : RS} {e : Int}
theorem gtv_incSet (L : R.tl.length = 34) (h0 : 0 ≤ e) (h1 : e < 27) : gt (incSet e R).tl e = gt R.tl e - 3 := by
 unfold incSet; rw [gt_stl h0 (by lia -abstractProof) h0, if_pos rfl]
theorem gtv_incPair (L : R.tl.length = 34) (h0 : 0 ≤ e) (h1 : e < 27) : gt (incPair e R).tl e = gt R.tl e - 2 := by
 unfold incPair; rw [gt_stl h0 (by lia -abstractProof) h0, if_pos rfl]
end
end
set_option tactic.hygienic true
section
noncomputable def wm (R : RS) (x : Int) : RS := { R with mn := x }
noncomputable def FiOk (d : Int) (R : RS) : Prop := ∃ n : Nat, R.fi = (n : Int) ∧ ∀ j : Nat, d ≤ (j : Int) → j < 27 → n.testBit j = false
theorem FiOk.up {d d' : Int} {R : RS} (f : FiOk d R) (h : d ≤ d') : FiOk d' R := by
 obtain ⟨n, e, h'⟩ := f
 exact ⟨n, e, fun j a b => h' j (Int.le_trans h a) b⟩
theorem FiOk.of {d : Int} {R R' : RS} (f : FiOk d R) (h : R'.fi = R.fi) : FiOk d R' := by
 obtain ⟨n, e, h'⟩ := f
 exact ⟨n, h.trans e, h'⟩
theorem pow_cast (e : Int) : (1 : Int) * 2 ^ e.toNat = ((2 ^ e.toNat : Nat) : Int) := by rw [Int.one_mul]; push_cast; rfl
theorem FiOk.iso {e : Int} {R : RS} (f : FiOk e R) (h0 : 0 ≤ e) (h1 : e < 27) : FiOk (e + 1) (incIso e R) ∧ Builtin.bitAnd (incIso e R).fi (Builtin.bitNot (1 * 2 ^ e.toNat)) = R.fi := by
 obtain ⟨n, en, h'⟩ := f
 have e0 : ((e.toNat : Nat) : Int) = e := Int.toNat_of_nonneg h0
 have hb : n.testBit e.toNat = false := h' e.toNat (Int.le_of_eq e0.symm) (by omega)
 have hf : (incIso e R).fi = ((n ||| 2 ^ e.toNat : Nat) : Int) := by
  show Builtin.bitOr R.fi (1 * 2 ^ e.toNat) = _
  rw [en, pow_cast, bitOr_nat]
 refine ⟨⟨_, hf, fun j a b => ?_⟩, ?_⟩
 ·rw [Nat.testBit_or, h' j (Int.le_trans (Int.le_add_of_nonneg_right (by decide)) a) b, Nat.testBit_two_pow, Bool.false_or, decide_eq_false]
  intro q
  rw [← q, e0] at a
  exact Int.lt_irrefl _ (Int.lt_of_lt_of_le (Int.lt_succ e) a)
 ·show Builtin.bitAnd (Builtin.bitOr R.fi (1 * 2 ^ e.toNat)) _ = _
  rw [en, pow_cast, bit_back hb]
theorem RS_ext {R R' : RS} (h1 : R.tl = R'.tl) (h2 : R.m = R'.m) (h3 : R.ta = R'.ta) (h4 : R.pr = R'.pr) (h5 : R.jd = R'.jd) (h6 : R.fc = R'.fc) (h7 : R.fi = R'.fi) (h8 : R.mn = R'.mn) : R = R' := by
 show R = ⟨R'.tl, R'.m, R'.ta, R'.pr, R'.jd, R'.fc, R'.fi, R'.mn⟩
 rw [← h1, ← h2, ← h3, ← h4, ← h5, ← h6, ← h7, ← h8]
section
variable {R : RS} {e x : Int}
theorem bk_Set (L : R.tl.length = 34) (h0 : 0 ≤ e) (h1 : e < 27) : decSet e (wm (incSet e R) x) = wm R x :=
 RS_ext (back_tl (ps := [(e, -3)]) L ⟨⟨h0, h1⟩, trivial⟩ rfl) (Int.add_sub_cancel ..) rfl rfl rfl rfl rfl rfl
theorem bk_Pair (L : R.tl.length = 34) (h0 : 0 ≤ e) (h1 : e < 27) : decPair e (wm (incPair e R) x) = wm R x :=
 RS_ext (back_tl (ps := [(e, -2)]) L ⟨⟨h0, h1⟩, trivial⟩ rfl) rfl rfl (Int.add_sub_cancel ..) rfl rfl rfl rfl
theorem bk_Syu (L : R.tl.length = 34) (h0 : 0 ≤ e) (h1 : e + 2 < 27) : decSyu e (wm (incSyu e R) x) = wm R x :=
 RS_ext (back_tl (ps := d3 e) L (bd3 h0 h1) rfl) (Int.add_sub_cancel ..) rfl rfl rfl rfl rfl rfl
theorem bk_T1 (L : R.tl.length = 34) (h0 : 0 ≤ e) (h1 : e + 1 < 27) : decT1 e (wm (incT1 e R) x) = wm R x :=
 RS_ext (back_tl (ps := [(e, -1), (e + 1, -1)]) L (bd1 h0 h1) rfl) rfl (Int.add_sub_cancel ..) rfl rfl rfl rfl rfl
theorem bk_T2 (L : R.tl.length = 34) (h0 : 0 ≤ e) (h1 : e + 2 < 27) : decT2 e (wm (incT2 e R) x) = wm R x :=
 RS_ext (back_tl (ps := [(e, -1), (e + 2, -1)]) L (bd2 h0 h1) rfl) rfl (Int.add_sub_cancel ..) rfl rfl rfl rfl rfl
theorem bk_Iso (f : FiOk e R) (L : R.tl.length = 34) (h0 : 0 ≤ e) (h1 : e < 27) : decIso e (wm (incIso e R) x) = wm R x :=
 RS_ext (back_tl (ps := [(e, -1)]) L ⟨⟨h0, h1⟩, trivial⟩ rfl) rfl rfl rfl rfl rfl (f.iso h0 h1).2 rfl
end
end
set_option tactic.hygienic false
section
noncomputable def flds (t : Nat) (R : RS) : List (Str × AV) := [("_tiles", .ref t), ("_number_melds", .int R.m), ("_number_tatsu", .int R.ta), ("_number_pairs", .int R.pr), ("_number_jidahai", .int R.jd), ("_flag_four_copies", .int R.fc), ("_flag_isolated_tiles", .int R.fi), ("_min_shanten", .int R.mn)]
structure RO (σ : Sto) (p d t : Nat) : Prop where
 hp : ∃ b, σ[p]? = some ⟨b, .inst 213 d⟩
 hd : d < σ.length
 ht : t < σ.length
 pd : p ≠ d
 pt : p ≠ t
 dt : d ≠ t
noncomputable def put (σ : Sto) (d t : Nat) (R : RS) : Sto := (σ.set d ⟨true, .ns (flds t R)⟩).set t ⟨true, .list (R.tl.map AV.int)⟩
theorem wG_i {p q : Prop} (a : p) (b : q) : wG p q := by unfold wG; exact ⟨a, b⟩
theorem wIf_i {c : Bool} {p q : Prop} (a : c = true → p) (b : c = false → q) : wIf c p q := by unfold wIf; exact ⟨a, b⟩
theorem wAt_i {σ : Sto} {k : Nat} {c : Cl} {K : Cl → Prop} (e : σ[k]? = some c) (h : K c) : wAt k σ K := by unfold wAt; exact ⟨c, e, h⟩
theorem wIdx_i {l : List Int} {j : Int} {K : AV → Prop} (h0 : 0 ≤ j) (h1 : j < l.length) (hl : l.length ≤ 100000) (h : K (.int (gt l j))) : wIdx (l.map AV.int) j K := by
 unfold wIdx
 refine ⟨_, by simpa using hl, ?_, h⟩
 unfold placeA
 rw [if_pos h0, if_pos (by simpa using h1)]
 show (l.map AV.int)[j.toNat]? = _
 rw [List.getElem?_map, List.getElem?_eq_getElem (by lia)]
 unfold gt
 rw [List.getD_eq_getElem?_getD, List.getElem?_eq_getElem (by lia)]; rfl
section
variable {σ : Sto} {p d t : Nat} {R R' : RS}
theorem put_p (h : RO σ p d t) : ∃ b, (put σ d t R)[p]? = some ⟨b, .inst 213 d⟩ := by
 obtain ⟨b, e⟩ := h.hp
 exact ⟨b, by unfold put; rw [List.getElem?_set_ne (Ne.symm h.pt), List.getElem?_set_ne (Ne.symm h.pd)]; exact e⟩
theorem put_d (h : RO σ p d t) : (put σ d t R)[d]? = some ⟨true, .ns (flds t R)⟩ := by
 unfold put; rw [List.getElem?_set_ne (Ne.symm h.dt), List.getElem?_set_self h.hd]
theorem put_t (h : RO σ p d t) : (put σ d t R)[t]? = some ⟨true, .list (R.tl.map AV.int)⟩ := by
 unfold put; rw [List.getElem?_set_self (by simpa using h.ht)]
theorem put_setd (h : RO σ p d t) {es : List (Str × AV)} (e : es = flds t R') (et : R'.tl = R.tl) : (put σ d t R).set d ⟨true, .ns es⟩ = put σ d t R' := by
 subst e
 unfold put
 rw [List.set_comm _ _ (Ne.symm h.dt), List.set_set, et]
theorem put_sett {xs : List AV} (e : xs = R'.tl.map AV.int) (ef : flds t R' = flds t R) : (put σ d t R).set t ⟨true, .list xs⟩ = put σ d t R' := by
 subst e
 unfold put
 rw [List.set_set, ef]
theorem own_w {name : Str} (ho : ownW.contains name = true) : XW.own 213 name = true := by show (decide ((213 : Nat) = 213) && ownW.contains name) = true; rw [ho]; rfl
theorem get_put (h : RO σ p d t) {name : Str} {v : AV} {K : AV → Prop} (e : (ownW.contains name, (flds t R).lookup name, noCon v) = (true, some v, true)) (k : K v) : lGet XW (.ref p) name (put σ d t R) K := lGet.mk <| by
 obtain ⟨b, e1⟩ := put_p h (R := R)
 obtain ⟨e0, e2, e3⟩ : ownW.contains name = true ∧ (flds t R).lookup name = some v ∧ noCon v = true := by simpa using e
 refine wAt_i e1 (wAt_i (put_d h) ?_)
 dsimp only
 rw [own_w e0, e2]
 show wB (noCon v) (K v)
 rw [e3]; exact k
theorem set_put (h : RO σ p d t) {name : Str} {v : AV} {K : Sto → Prop} (e : (ownW.contains name, putField name v (flds t R), R'.tl) = (true, flds t R', R.tl)) (k : K (put σ d t R')) : lSet XW (.ref p) name v (put σ d t R) K := lSet.mk <| by
 obtain ⟨b, e1⟩ := put_p h (R := R)
 obtain ⟨e0, e2, e3⟩ : ownW.contains name = true ∧ putField name v (flds t R) = flds t R' ∧ R'.tl = R.tl := by simpa using e
 refine wAt_i e1 (wAt_i (put_d h) ?_)
 dsimp only
 rw [own_w e0]
 show K _
 rw [put_setd h e2 e3]; exact k
theorem it_put (h : RO σ p d t) {j : Int} {K : AV → Prop} (hl : R.tl.length = 34) (h0 : 0 ≤ j) (h1 : j < 34) (k : K (.int (gt R.tl j))) : lItem (.ref t) (.int j) (put σ d t R) K :=
 lItem.mk <| wAt_i (put_t h) (wIdx_i h0 (by lia) (by lia) k)
theorem pa_put (h : RO σ p d t) {j v : Int} {K : Sto → Prop} (hl : R.tl.length = 34) (h0 : 0 ≤ j) (h1 : j < 34) (k : K (put σ d t { R with tl := stl R.tl j v })) : lPut (.ref t) (.int j) (.int v) (put σ d t R) K := lPut.mk <| by
 refine wAt_i (put_t h) (wG_i ⟨h0, by simpa [hl] using h1, by simp [hl]⟩ ?_)
 rw [put_sett (R := R) (R' := { R with tl := stl R.tl j v }) (by unfold stl; rw [List.map_set]) rfl]
 exact k
end
theorem set_m {σ : Sto} {p d t : Nat} {R : RS} {x : Int} {K : Sto → Prop} (h : RO σ p d t) (k : K (put σ d t { R with m := x })) : lSet XW (.ref p) "_number_melds" (.int x) (put σ d t R) K := set_put h rfl k
theorem set_ta {σ : Sto} {p d t : Nat} {R : RS} {x : Int} {K : Sto → Prop} (h : RO σ p d t) (k : K (put σ d t { R with ta := x })) : lSet XW (.ref p) "_number_tatsu" (.int x) (put σ d t R) K := set_put h rfl k
theorem set_pr {σ : Sto} {p d t : Nat} {R : RS} {x : Int} {K : Sto → Prop} (h : RO σ p d t) (k : K (put σ d t { R with pr := x })) : lSet XW (.ref p) "_number_pairs" (.int x) (put σ d t R) K := set_put h rfl k
theorem set_jd {σ : Sto} {p d t : Nat} {R : RS} {x : Int} {K : Sto → Prop} (h : RO σ p d t) (k : K (put σ d t { R with jd := x })) : lSet XW (.ref p) "_number_jidahai" (.int x) (put σ d t R) K := set_put h rfl k
theorem set_fc {σ : Sto} {p d t : Nat} {R : RS} {x : Int} {K : Sto → Prop} (h : RO σ p d t) (k : K (put σ d t { R with fc := x })) : lSet XW (.ref p) "_flag_four_copies" (.int x) (put σ d t R) K := set_put h rfl k
theorem set_fi {σ : Sto} {p d t : Nat} {R : RS} {x : Int} {K : Sto → Prop} (h : RO σ p d t) (k : K (put σ d t { R with fi := x })) : lSet XW (.ref p) "_flag_isolated_tiles" (.int x) (put σ d t R) K := set_put h rfl k
theorem set_mn {σ : Sto} {p d t : Nat} {R : RS} {x : Int} {K : Sto → Prop} (h : RO σ p d t) (k : K (put σ d t { R with mn := x })) : lSet XW (.ref p) "_min_shanten" (.int x) (put σ d t R) K := set_put h rfl k
theorem wIf_dec {c : Prop} [Decidable c] {p q : Prop} (a : c → p) (b : ¬ c → q) : wIf (decide c) p q := wIf_i (fun e => a (of_decide_eq_true e)) (fun e => b (of_decide_eq_false e))
theorem wIf_bne {x y : Int} {p q : Prop} (a : x ≠ y → p) (b : x = y → q) : wIf (x != y) p q := wIf_i (fun e => a (by simpa using e)) (fun e => b (by simpa using e))
theorem wIf_beq {x y : Int} {p q : Prop} (a : x = y → p) (b : x ≠ y → q) : wIf (x == y) p q := wIf_i (fun e => a (by simpa using e)) (fun e => b (by simpa using e))
theorem wIf_not {c : Bool} {p q : Prop} (h : wIf c q p) : wIf (!c) p q := wIf_i (fun e => (wIf.out h).2 (by simpa using e)) (fun e => (wIf.out h).1 (by simpa using e))
theorem wIf_t {p q : Prop} (h : p) : wIf true p q := wIf_i (fun _ => h) (fun e => by cases e)
theorem wIf_f {p q : Prop} (h : q) : wIf false p q := wIf_i (fun e => by cases e) (fun _ => h)
theorem small_m {x : Int} (h : -1000000 ≤ x ∧ x ≤ 1000000) : small x := by unfold small; lia
theorem wG_sm {x y : Int} {p : Prop} (h : (-1000000 ≤ x ∧ x ≤ 1000000) ∧ -1000000 ≤ y ∧ y ≤ 1000000) (k : p) : wG (small x ∧ small y) p := wG_i ⟨small_m h.1, small_m h.2⟩ k
theorem wG_sh {x y : Int} {p : Prop} (h : 0 ≤ y ∧ y ≤ 1000 ∧ -1000000 ≤ x ∧ x ≤ 1000000) (k : p) : wG (0 ≤ y ∧ y ≤ 1000 ∧ small x) p := wG_i ⟨h.1, h.2.1, small_m h.2.2⟩ k
theorem wLst_i {σ : Sto} {k : Nat} {b : Bool} {xs : List AV} {K : Bool → List AV → Prop} (e : σ[k]? = some ⟨b, .list xs⟩) (h : K b xs) : wLst k σ K := by unfold wLst; exact ⟨b, xs, e, h⟩
theorem intsA_map : ∀ l : List Int, intsA (l.map AV.int) = some l
 | [] => rfl
 | i :: l => congrArg (Option.map (i :: ·)) (intsA_map l)
theorem wInts_i {l : List Int} {K : List Int → Prop} (h : K l) : wInts (l.map AV.int) K := by unfold wInts; exact ⟨l, intsA_map l, h⟩
noncomputable abbrev seqK (f : Stmt → Loc → Sto → XS) (r : List Stmt) (K : KS) : KS := fun fl ae σ => match fl with
  | .next => seqA f r ae σ K
  | .brk => K .brk ae σ
  | .cont => K .cont ae σ
  | .ret v => K (.ret v) ae σ
theorem s_cons {f : Stmt → Loc → Sto → XS} {s : Stmt} {r : List Stmt} {ae : Loc} {σ : Sto} {K : KS} (h : f s ae σ (seqK f r K)) : seqA f (s :: r) ae σ K := ⟨_, h, fun fl _ _ k => by cases fl <;> exact k⟩
theorem s_nil {f : Stmt → Loc → Sto → XS} {ae : Loc} {σ : Sto} {K : KS} (h : K .next ae σ) : seqA f [] ae σ K := h
theorem s_join {f : Stmt → Loc → Sto → XS} {s : Stmt} {r : List Stmt} {ae : Loc} {σ : Sto} {K : KS} (ae' : Loc) (σ' : Sto) (h : f s ae σ fun fl a τ => fl = .next ∧ a = ae' ∧ τ = σ') (k : seqA f r ae' σ' K) : seqA f (s :: r) ae σ K :=
 ⟨_, h, fun fl a τ ⟨e1, e2, e3⟩ => by subst e1 e2 e3; exact k⟩
theorem get_con {C : Addr} {name : Str} {v : AV} {σ : Sto} {K : AV → Prop} (e : XW.cattr C name = some v) (k : K v) : lGet XW (.con (.ref C)) name σ K := lGet.mk <| by
 show wO (XW.cattr C name) K
 rw [e]; exact k
noncomputable abbrev WE (m : XE) (Q : KE) : Prop := m Q
noncomputable abbrev WS (m : XS) (Q : KS) : Prop := m Q
theorem seqA_mono {f : Stmt → Loc → Sto → XS} {K K' : KS} (hk : ∀ fl ae σ, K fl ae σ → K' fl ae σ) : ∀ {b : List Stmt} {ae : Loc} {σ : Sto}, seqA f b ae σ K → seqA f b ae σ K'
 | [], _, _, h => hk _ _ _ h
 | _ :: _, _, _, ⟨K0, h, h2⟩ => ⟨K0, h, fun fl ae σ k => by
  have := h2 fl ae σ k
  cases fl with
  | next => exact seqA_mono hk this
  | _ => exact hk _ _ _ this⟩
theorem callA_mono {X : Ctx} {n : Nat} {f : Addr} {args : List AV} {σ : Sto} {K K' : KE} (h : callA X n f args σ K) (hk : ∀ v σ, K v σ → K' v σ) : callA X n f args σ K' := by
 cases n with
 | zero => exact h.elim
 | succ n =>
  obtain ⟨fn, e1, h⟩ := wO.out h
  obtain ⟨ae, e2, h⟩ := wO.out h
  show wO (X.fn f) _
  rw [e1]
  show wO (bindA fn args) _
  rw [e2]
  exact seqA_mono (fun fl _ _ k => by cases fl with
   | next => exact hk _ _ k
   | ret v => exact hk _ _ k
   | _ => exact k) h
theorem wIf_decI {c : Prop} [Decidable c] {p q : Prop} (h : if c then p else q) : wIf (decide c) p q := wIf_dec (fun x => by rwa [if_pos x] at h) (fun x => by rwa [if_neg x] at h)
theorem wIf_bneI {x y : Int} {p q : Prop} (h : if x ≠ y then p else q) : wIf (x != y) p q := wIf_bne (fun e => by rwa [if_pos e] at h) (fun e => by rwa [if_neg (fun n => n e)] at h)
theorem wIf_beqI {x y : Int} {p q : Prop} (h : if x = y then p else q) : wIf (x == y) p q := wIf_beq (fun e => by rwa [if_pos e] at h) (fun e => by rwa [if_neg e] at h)
theorem if_split {c a b : Prop} [Decidable c] (h1 : c → a) (h2 : ¬ c → b) : if c then a else b := by
 by_cases q : c
 ·rw [if_pos q]; exact h1 q
 ·rw [if_neg q]; exact h2 q
theorem res_put {σ : Sto} {p d t : Nat} {R : RS} {name : Str} {f : Addr} {Kf : Addr → List AV → Prop} {Kl : Nat → LM → Prop} (h : RO σ p d t) (e : (((flds t R).lookup name).isNone, XW.meth 213 name) = (true, some f)) (k : Kf f [.ref p]) : lRes XW (.ref p) name (put σ d t R) Kf Kl := lRes.mk <| by
 obtain ⟨b, e1⟩ := put_p h (R := R)
 obtain ⟨e2, e3⟩ := Prod.mk.inj e
 refine wAt_i e1 (wAt_i (put_d h) ?_)
 dsimp only
 rw [e2, e3]
 exact k
noncomputable abbrev callK (K : KE) : KS := fun fl _ σ => match fl with
  | .next => K .none σ
  | .ret v => K v σ
  | _ => False
theorem call_of {n : Nat} {f : Addr} {args : List AV} {σ : Sto} {K : KE} {fn : Fn} {ae : Loc} (e : (XW.fn f).bind (fun g => (bindA g args).map fun ae => (g, ae)) = some (fn, ae)) (h : seqA (execS XW (callA XW n) 40 fn.scope) fn.body ae σ (callK K)) : callA XW (n + 1) f args σ K := by
 obtain ⟨g, e1, e2⟩ := Option.bind_eq_some_iff.mp e
 obtain ⟨b, e3, e4⟩ := Option.map_eq_some_iff.mp e2
 cases e4
 show wO (XW.fn f) _
 rw [e1]
 show wO (bindA fn args) _
 rw [e3]
 exact h
end
set_option tactic.hygienic true
section
section
variable {k : Int} {R : RS}
end
section
variable {σ : Sto} {p d t n : Nat} {R : RS} {k : Int} {K : KE}
theorem c134 (h : RO σ p d t) (hl : R.tl.length = 34) (h0 : 0 ≤ k) (h1 : k < 34) (hq : K .none (put σ d t (incSet k R))) : lCall (callA XW (n + 1)) 126 [.ref p, .int k] (put σ d t R) K := by
 refine lCall.mk (call_of (fn := fnAt 3 5 []) (ae := [("self", .ref p), ("k", .int k)]) (by rfl) ?_)
 refine s_cons ?_
 refine get_put ‹_› (by rfl) ?_
 refine it_put ‹_› (by first | assumption | repeat' first | assumption | apply len_stl) (by lia -abstractProof) (by lia -abstractProof) ?_
 refine pa_put ‹_› (by first | assumption | repeat' first | assumption | apply len_stl) (by lia -abstractProof) (by lia -abstractProof) ?_
 with_reducible refine s_cons ?_
 refine get_put ‹_› (by rfl) ?_
 refine set_m ‹_› ?_
 with_reducible refine s_nil ?_
 exact hq
theorem c141 (h : RO σ p d t) (hl : R.tl.length = 34) (h0 : 0 ≤ k) (h1 : k < 34) (hq : K .none (put σ d t (decSet k R))) : lCall (callA XW (n + 1)) 133 [.ref p, .int k] (put σ d t R) K := by
 refine lCall.mk (call_of (fn := fnAt 3 6 []) (ae := [("self", .ref p), ("k", .int k)]) (by rfl) ?_)
 refine s_cons ?_
 refine get_put ‹_› (by rfl) ?_
 refine it_put ‹_› (by first | assumption | repeat' first | assumption | apply len_stl) (by lia -abstractProof) (by lia -abstractProof) ?_
 refine pa_put ‹_› (by first | assumption | repeat' first | assumption | apply len_stl) (by lia -abstractProof) (by lia -abstractProof) ?_
 with_reducible refine s_cons ?_
 refine get_put ‹_› (by rfl) ?_
 refine set_m ‹_› ?_
 with_reducible refine s_nil ?_
 exact hq
theorem c148 (h : RO σ p d t) (hl : R.tl.length = 34) (h0 : 0 ≤ k) (h1 : k < 34) (hq : K .none (put σ d t (incPair k R))) : lCall (callA XW (n + 1)) 140 [.ref p, .int k] (put σ d t R) K := by
 refine lCall.mk (call_of (fn := fnAt 3 7 []) (ae := [("self", .ref p), ("k", .int k)]) (by rfl) ?_)
 refine s_cons ?_
 refine get_put ‹_› (by rfl) ?_
 refine it_put ‹_› (by first | assumption | repeat' first | assumption | apply len_stl) (by lia -abstractProof) (by lia -abstractProof) ?_
 refine pa_put ‹_› (by first | assumption | repeat' first | assumption | apply len_stl) (by lia -abstractProof) (by lia -abstractProof) ?_
 with_reducible refine s_cons ?_
 refine get_put ‹_› (by rfl) ?_
 refine set_pr ‹_› ?_
 with_reducible refine s_nil ?_
 exact hq
theorem c155 (h : RO σ p d t) (hl : R.tl.length = 34) (h0 : 0 ≤ k) (h1 : k < 34) (hq : K .none (put σ d t (decPair k R))) : lCall (callA XW (n + 1)) 147 [.ref p, .int k] (put σ d t R) K := by
 refine lCall.mk (call_of (fn := fnAt 3 8 []) (ae := [("self", .ref p), ("k", .int k)]) (by rfl) ?_)
 refine s_cons ?_
 refine get_put ‹_› (by rfl) ?_
 refine it_put ‹_› (by first | assumption | repeat' first | assumption | apply len_stl) (by lia -abstractProof) (by lia -abstractProof) ?_
 refine pa_put ‹_› (by first | assumption | repeat' first | assumption | apply len_stl) (by lia -abstractProof) (by lia -abstractProof) ?_
 with_reducible refine s_cons ?_
 refine get_put ‹_› (by rfl) ?_
 refine set_pr ‹_› ?_
 with_reducible refine s_nil ?_
 exact hq
theorem c162 (h : RO σ p d t) (hl : R.tl.length = 34) (h0 : 0 ≤ k) (h1 : k < 32) (hq : K .none (put σ d t (incSyu k R))) : lCall (callA XW (n + 1)) 154 [.ref p, .int k] (put σ d t R) K := by
 refine lCall.mk (call_of (fn := fnAt 3 9 []) (ae := [("self", .ref p), ("k", .int k)]) (by rfl) ?_)
 refine s_cons ?_
 refine get_put ‹_› (by rfl) ?_
 refine it_put ‹_› (by first | assumption | repeat' first | assumption | apply len_stl) (by lia -abstractProof) (by lia -abstractProof) ?_
 refine pa_put ‹_› (by first | assumption | repeat' first | assumption | apply len_stl) (by lia -abstractProof) (by lia -abstractProof) ?_
 with_reducible refine s_cons ?_
 refine get_put ‹_› (by rfl) ?_
 refine it_put ‹_› (by first | assumption | repeat' first | assumption | apply len_stl) (by lia -abstractProof) (by lia -abstractProof) ?_
 refine pa_put ‹_› (by first | assumption | repeat' first | assumption | apply len_stl) (by lia -abstractProof) (by lia -abstractProof) ?_
 with_reducible refine s_cons ?_
 refine get_put ‹_› (by rfl) ?_
 refine it_put ‹_› (by first | assumption | repeat' first | assumption | apply len_stl) (by lia -abstractProof) (by lia -abstractProof) ?_
 refine pa_put ‹_› (by first | assumption | repeat' first | assumption | apply len_stl) (by lia -abstractProof) (by lia -abstractProof) ?_
 with_reducible refine s_cons ?_
 refine get_put ‹_› (by rfl) ?_
 refine set_m ‹_› ?_
 with_reducible refine s_nil ?_
 exact hq
theorem c169 (h : RO σ p d t) (hl : R.tl.length = 34) (h0 : 0 ≤ k) (h1 : k < 32) (hq : K .none (put σ d t (decSyu k R))) : lCall (callA XW (n + 1)) 161 [.ref p, .int k] (put σ d t R) K := by
 refine lCall.mk (call_of (fn := fnAt 3 10 []) (ae := [("self", .ref p), ("k", .int k)]) (by rfl) ?_)
 refine s_cons ?_
 refine get_put ‹_› (by rfl) ?_
 refine it_put ‹_› (by first | assumption | repeat' first | assumption | apply len_stl) (by lia -abstractProof) (by lia -abstractProof) ?_
 refine pa_put ‹_› (by first | assumption | repeat' first | assumption | apply len_stl) (by lia -abstractProof) (by lia -abstractProof) ?_
 with_reducible refine s_cons ?_
 refine get_put ‹_› (by rfl) ?_
 refine it_put ‹_› (by first | assumption | repeat' first | assumption | apply len_stl) (by lia -abstractProof) (by lia -abstractProof) ?_
 refine pa_put ‹_› (by first | assumption | repeat' first | assumption | apply len_stl) (by lia -abstractProof) (by lia -abstractProof) ?_
 with_reducible refine s_cons ?_
 refine get_put ‹_› (by rfl) ?_
 refine it_put ‹_› (by first | assumption | repeat' first | assumption | apply len_stl) (by lia -abstractProof) (by lia -abstractProof) ?_
 refine pa_put ‹_› (by first | assumption | repeat' first | assumption | apply len_stl) (by lia -abstractProof) (by lia -abstractProof) ?_
 with_reducible refine s_cons ?_
 refine get_put ‹_› (by rfl) ?_
 refine set_m ‹_› ?_
 with_reducible refine s_nil ?_
 exact hq
theorem c176 (h : RO σ p d t) (hl : R.tl.length = 34) (h0 : 0 ≤ k) (h1 : k < 33) (hq : K .none (put σ d t (incT1 k R))) : lCall (callA XW (n + 1)) 168 [.ref p, .int k] (put σ d t R) K := by
 refine lCall.mk (call_of (fn := fnAt 3 11 []) (ae := [("self", .ref p), ("k", .int k)]) (by rfl) ?_)
 refine s_cons ?_
 refine get_put ‹_› (by rfl) ?_
 refine it_put ‹_› (by first | assumption | repeat' first | assumption | apply len_stl) (by lia -abstractProof) (by lia -abstractProof) ?_
 refine pa_put ‹_› (by first | assumption | repeat' first | assumption | apply len_stl) (by lia -abstractProof) (by lia -abstractProof) ?_
 with_reducible refine s_cons ?_
 refine get_put ‹_› (by rfl) ?_
 refine it_put ‹_› (by first | assumption | repeat' first | assumption | apply len_stl) (by lia -abstractProof) (by lia -abstractProof) ?_
 refine pa_put ‹_› (by first | assumption | repeat' first | assumption | apply len_stl) (by lia -abstractProof) (by lia -abstractProof) ?_
 with_reducible refine s_cons ?_
 refine get_put ‹_› (by rfl) ?_
 refine set_ta ‹_› ?_
 with_reducible refine s_nil ?_
 exact hq
theorem c183 (h : RO σ p d t) (hl : R.tl.length = 34) (h0 : 0 ≤ k) (h1 : k < 33) (hq : K .none (put σ d t (decT1 k R))) : lCall (callA XW (n + 1)) 175 [.ref p, .int k] (put σ d t R) K := by
 refine lCall.mk (call_of (fn := fnAt 3 12 []) (ae := [("self", .ref p), ("k", .int k)]) (by rfl) ?_)
 refine s_cons ?_
 refine get_put ‹_› (by rfl) ?_
 refine it_put ‹_› (by first | assumption | repeat' first | assumption | apply len_stl) (by lia -abstractProof) (by lia -abstractProof) ?_
 refine pa_put ‹_› (by first | assumption | repeat' first | assumption | apply len_stl) (by lia -abstractProof) (by lia -abstractProof) ?_
 with_reducible refine s_cons ?_
 refine get_put ‹_› (by rfl) ?_
 refine it_put ‹_› (by first | assumption | repeat' first | assumption | apply len_stl) (by lia -abstractProof) (by lia -abstractProof) ?_
 refine pa_put ‹_› (by first | assumption | repeat' first | assumption | apply len_stl) (by lia -abstractProof) (by lia -abstractProof) ?_
 with_reducible refine s_cons ?_
 refine get_put ‹_› (by rfl) ?_
 refine set_ta ‹_› ?_
 with_reducible refine s_nil ?_
 exact hq
theorem c190 (h : RO σ p d t) (hl : R.tl.length = 34) (h0 : 0 ≤ k) (h1 : k < 32) (hq : K .none (put σ d t (incT2 k R))) : lCall (callA XW (n + 1)) 182 [.ref p, .int k] (put σ d t R) K := by
 refine lCall.mk (call_of (fn := fnAt 3 13 []) (ae := [("self", .ref p), ("k", .int k)]) (by rfl) ?_)
 refine s_cons ?_
 refine get_put ‹_› (by rfl) ?_
 refine it_put ‹_› (by first | assumption | repeat' first | assumption | apply len_stl) (by lia -abstractProof) (by lia -abstractProof) ?_
 refine pa_put ‹_› (by first | assumption | repeat' first | assumption | apply len_stl) (by lia -abstractProof) (by lia -abstractProof) ?_
 with_reducible refine s_cons ?_
 refine get_put ‹_› (by rfl) ?_
 refine it_put ‹_› (by first | assumption | repeat' first | assumption | apply len_stl) (by lia -abstractProof) (by lia -abstractProof) ?_
 refine pa_put ‹_› (by first | assumption | repeat' first | assumption | apply len_stl) (by lia -abstractProof) (by lia -abstractProof) ?_
 with_reducible refine s_cons ?_
 refine get_put ‹_› (by rfl) ?_
 refine set_ta ‹_› ?_
 with_reducible refine s_nil ?_
 exact hq
theorem c197 (h : RO σ p d t) (hl : R.tl.length = 34) (h0 : 0 ≤ k) (h1 : k < 32) (hq : K .none (put σ d t (decT2 k R))) : lCall (callA XW (n + 1)) 189 [.ref p, .int k] (put σ d t R) K := by
 refine lCall.mk (call_of (fn := fnAt 3 14 []) (ae := [("self", .ref p), ("k", .int k)]) (by rfl) ?_)
 refine s_cons ?_
 refine get_put ‹_› (by rfl) ?_
 refine it_put ‹_› (by first | assumption | repeat' first | assumption | apply len_stl) (by lia -abstractProof) (by lia -abstractProof) ?_
 refine pa_put ‹_› (by first | assumption | repeat' first | assumption | apply len_stl) (by lia -abstractProof) (by lia -abstractProof) ?_
 with_reducible refine s_cons ?_
 refine get_put ‹_› (by rfl) ?_
 refine it_put ‹_› (by first | assumption | repeat' first | assumption | apply len_stl) (by lia -abstractProof) (by lia -abstractProof) ?_
 refine pa_put ‹_› (by first | assumption | repeat' first | assumption | apply len_stl) (by lia -abstractProof) (by lia -abstractProof) ?_
 with_reducible refine s_cons ?_
 refine get_put ‹_› (by rfl) ?_
 refine set_ta ‹_› ?_
 with_reducible refine s_nil ?_
 exact hq
theorem c204 (h : RO σ p d t) (hl : R.tl.length = 34) (h0 : 0 ≤ k) (h1 : k < 34) (hq : K .none (put σ d t (incIso k R))) : lCall (callA XW (n + 1)) 196 [.ref p, .int k] (put σ d t R) K := by
 refine lCall.mk (call_of (fn := fnAt 3 15 []) (ae := [("self", .ref p), ("k", .int k)]) (by rfl) ?_)
 refine s_cons ?_
 refine get_put ‹_› (by rfl) ?_
 refine it_put ‹_› (by first | assumption | repeat' first | assumption | apply len_stl) (by lia -abstractProof) (by lia -abstractProof) ?_
 refine pa_put ‹_› (by first | assumption | repeat' first | assumption | apply len_stl) (by lia -abstractProof) (by lia -abstractProof) ?_
 with_reducible refine s_cons ?_
 refine get_put ‹_› (by rfl) ?_
 refine wG_sh (by lia -abstractProof) ?_
 refine set_fi ‹_› ?_
 with_reducible refine s_nil ?_
 exact hq
theorem c211 (h : RO σ p d t) (hl : R.tl.length = 34) (h0 : 0 ≤ k) (h1 : k < 34) (hq : K .none (put σ d t (decIso k R))) : lCall (callA XW (n + 1)) 203 [.ref p, .int k] (put σ d t R) K := by
 refine lCall.mk (call_of (fn := fnAt 3 16 []) (ae := [("self", .ref p), ("k", .int k)]) (by rfl) ?_)
 refine s_cons ?_
 refine get_put ‹_› (by rfl) ?_
 refine it_put ‹_› (by first | assumption | repeat' first | assumption | apply len_stl) (by lia -abstractProof) (by lia -abstractProof) ?_
 refine pa_put ‹_› (by first | assumption | repeat' first | assumption | apply len_stl) (by lia -abstractProof) (by lia -abstractProof) ?_
 with_reducible refine s_cons ?_
 refine get_put ‹_› (by rfl) ?_
 refine wG_sh (by lia -abstractProof) ?_
 refine set_fi ‹_› ?_
 with_reducible refine s_nil ?_
 exact hq
end
end
noncomputable abbrev aeU (p : Nat) (A B : Int) : Loc := [("self", .ref p), ("ret_shanten", .int A), ("n_mentsu_kouho", .int B)]
set_option maxHeartbeats 2000000 in
theorem c127 {σ : Sto} {p d t n : Nat} {R : RS} {K : KE} (h : RO σ p d t) (hm0 : -1000 ≤ R.m) (hm1 : R.m ≤ 1000) (hq : K .none (put σ d t (upd R))) : lCall (callA XW (n + 1)) 119 [.ref p] (put σ d t R) K := by
 refine lCall.mk (call_of (fn := fnAt 3 4 []) (ae := [("self", .ref p)]) (by rfl) ?_)
 refine s_join [("self", .ref p), ("ret_shanten", .int (8 - R.m * 2 - R.ta - R.pr))] (put σ d t R) ?_ ?_
 ·refine get_put ‹_› (by rfl) ?_
  refine wG_sm (by lia -abstractProof) ?_
  refine get_put ‹_› (by rfl) ?_
  refine get_put ‹_› (by rfl) ?_
  exact ⟨rfl, rfl, rfl⟩
 refine s_join (aeU p (8 - R.m * 2 - R.ta - R.pr) (R.m + R.ta)) (put σ d t R) ?_ ?_
 ·refine get_put ‹_› (by rfl) ?_
  refine get_put ‹_› (by rfl) ?_
  exact ⟨rfl, rfl, rfl⟩
 refine s_join (aeU p (r1V R) (k1V R)) (put σ d t R) ?_ ?_
 ·have w : ∀ (A B : Int), A = r1V R → B = k1V R → (Fl.next = Fl.next ∧ aeU p A B = (aeU p (r1V R) (k1V R)) ∧ put σ d t R = put σ d t R) := fun A B e1 e2 => ⟨rfl, by rw [e1, e2], rfl⟩
  refine get_put h (by rfl) ?_
  refine wIf_bneI ?_
  refine if_split (fun q => ?_) (fun q => ?_)
  ·with_reducible refine s_cons ?_
   refine get_put h (by rfl) ?_
   exact w _ _ (if_pos q).symm (if_pos q).symm
  ·have e2 : R.m + R.ta = k1V R := (if_neg q).symm
   have e1 : ∀ c, (c ↔ R.fc ≠ 0 ∧ R.fi ≠ 0 ∧ Builtin.bitOr R.fc R.fi = R.fc) → [Decidable c] → (if c then 8 - R.m * 2 - R.ta - R.pr + 1 else 8 - R.m * 2 - R.ta - R.pr) = r1V R := fun c hc _ => by
    unfold r1V
    rw [if_neg (c := R.pr ≠ 0) q]
    simp only [hc]
   have no : ¬ (R.fc ≠ 0 ∧ R.fi ≠ 0 ∧ Builtin.bitOr R.fc R.fi = R.fc) → 8 - R.m * 2 - R.ta - R.pr = r1V R := fun n => (if_neg n).symm.trans (e1 _ .rfl)
   with_reducible refine s_cons ?_
   refine get_put h (by rfl) ?_
   refine wIf_bneI ?_
   refine if_split (fun q1 => ?_) (fun q1 => ?_)
   ·refine get_put h (by rfl) ?_
    refine wIf_bneI ?_
    refine if_split (fun q2 => ?_) (fun q2 => ?_)
    ·refine get_put h (by rfl) ?_
     refine get_put h (by rfl) ?_
     refine get_put h (by rfl) ?_
     refine wIf_beqI ?_
     refine if_split (fun q3 => ?_) (fun q3 => ?_)
     ·refine wIf_t ?_
      with_reducible refine s_cons ?_
      exact w _ _ ((if_pos ⟨q1, q2, q3⟩).symm.trans (e1 _ .rfl)) e2
     ·refine wIf_f ?_
      exact w _ _ (no fun c => q3 c.2.2) e2
    ·refine wIf_f ?_
     exact w _ _ (no fun c => q2 c.2.1) e2
   ·refine wIf_f ?_
    exact w _ _ (no fun c => q1 c.1) e2
 refine s_join (aeU p (r2V R) (k1V R)) (put σ d t R) ?_ ?_
 ·have w : ∀ (A : Int), A = r2V R → (Fl.next = Fl.next ∧ aeU p A (k1V R) = (aeU p (r2V R) (k1V R)) ∧ put σ d t R = put σ d t R) := fun A e1 => ⟨rfl, by rw [e1], rfl⟩
  refine wIf_decI ?_
  refine if_split (fun q => ?_) (fun q => ?_)
  ·with_reducible refine s_cons ?_
   exact w _ (if_pos q).symm
  ·     exact w _ (if_neg q).symm
 refine s_join (aeU p (retV R) (k1V R)) (put σ d t R) ?_ ?_
 ·have w : ∀ (A : Int), A = retV R → (Fl.next = Fl.next ∧ aeU p A (k1V R) = (aeU p (retV R) (k1V R)) ∧ put σ d t R = put σ d t R) := fun A e1 => ⟨rfl, by rw [e1], rfl⟩
  refine get_con (by rfl) ?_
  refine wIf_bneI ?_
  refine if_split (fun q => ?_) (fun q => ?_)
  ·refine get_put h (by rfl) ?_
   refine wIf_decI ?_
   refine if_split (fun q2 => ?_) (fun q2 => ?_)
   ·refine wIf_t ?_
    with_reducible refine s_cons ?_
    refine get_put h (by rfl) ?_
    exact w _ (if_pos ⟨q, q2⟩).symm
   ·refine wIf_f ?_
    exact w _ (if_neg fun c => q2 c.2).symm
  ·refine wIf_f ?_
   exact w _ (if_neg fun c => q c.1).symm
 with_reducible refine s_cons ?_
 refine get_put ‹_› (by rfl) ?_
 refine set_mn ‹_› ?_
 with_reducible refine s_nil ?_
 exact hq
section
section
variable (i e d : Int) (R : RS)
noncomputable def twoO : List (Int × RS) := if i < 7 ∧ gt R.tl (e + 2) ≠ 0 then (if gt R.tl (e + 1) ≠ 0 then [(d, incSyu e R)] else []) ++ [(e + 1, incT2 e R)] else []
noncomputable def oneO : List (Int × RS) := if i < 8 ∧ gt R.tl (e + 1) ≠ 0 then [(e + 1, incT1 e R)] else []
noncomputable def t2O : List (Int × RS) := if i < 7 ∧ gt R.tl (e + 2) ≠ 0 then [(e + 1, incT2 e R)] else []
noncomputable def o4 : List (Int × RS) := twoO i e (e + 1) (incSet e R) ++ oneO i e (incSet e R) ++ [(e + 1, incIso e (incSet e R))] ++ twoO i e e (incPair e R) ++ oneO i e (incPair e R)
noncomputable def o3 : List (Int × RS) := [(e + 1, incSet e R)] ++
 (if i < 7 ∧ gt (incPair e R).tl (e + 1) ≠ 0 ∧ gt (incPair e R).tl (e + 2) ≠ 0 then [(e + 1, incSyu e (incPair e R))] else t2O i e (incPair e R) ++ oneO i e (incPair e R)) ++
 (if i < 7 ∧ gt R.tl (e + 2) ≥ 2 ∧ gt R.tl (e + 1) ≥ 2 then [(e, incSyu e (incSyu e R))] else [])
noncomputable def o2 : List (Int × RS) := [(e + 1, incPair e R)] ++ (if i < 7 ∧ gt R.tl (e + 2) ≠ 0 ∧ gt R.tl (e + 1) ≠ 0 then [(e, incSyu e R)] else [])
noncomputable def o1 : List (Int × RS) := if i < 6 ∧ gt R.tl (e + 1) = 1 ∧ gt R.tl (e + 2) ≠ 0 ∧ gt R.tl (e + 3) ≠ 4 then [(e + 2, incSyu e R)]
 else [(e + 1, incIso e R)] ++ twoO i e (e + 1) R ++ oneO i e R
end
noncomputable def opts (e : Int) (R : RS) : List (Int × RS) := if gt R.tl e = 4 then o4 (iV e) e R else if gt R.tl e = 3 then o3 (iV e) e R else if gt R.tl e = 2 then o2 (iV e) e R else if gt R.tl e = 1 then o1 (iV e) e R else []
structure O where
 m : Int
 t : Int
 p : Int
 a : Bool
 g : Bool
noncomputable abbrev T := Int × Bool
noncomputable def oM (x : O) : O := { x with m := x.m + 1 }
noncomputable def oT (x : O) : O := { x with t := x.t + 1 }
noncomputable def oP (x : O) : O := { x with p := x.p + 1 }
noncomputable def oI (f : Bool) (x : O) : O := { x with a := true, g := x.g || !f }
noncomputable def dc (b : T) : T := (b.1 - 1, b.2)
section
variable (hd : List T) (x : O)
noncomputable def sTwo : List T → List (O × List T)
 | b :: c :: r => if c.1 ≠ 0 then (if b.1 ≠ 0 then [(oM x, hd ++ dc b :: dc c :: r)] else []) ++ [(oT x, b :: dc c :: r)] else []
 | _ => []
noncomputable def sOne : List T → List (O × List T)
 | b :: r => if b.1 ≠ 0 then [(oT x, dc b :: r)] else []
 | _ => []
noncomputable def sT2 : List T → List (O × List T)
 | b :: c :: r => if c.1 ≠ 0 then [(oT x, b :: dc c :: r)] else []
 | _ => []
noncomputable def sMid : List T → List (O × List T)
 | b :: c :: r => if b.1 ≠ 0 ∧ c.1 ≠ 0 then [(oM x, dc b :: dc c :: r)] else sT2 x (b :: c :: r) ++ sOne x (b :: c :: r)
 | r => sOne x r
noncomputable def sDbl (f : Bool) : List T → List (O × List T)
 | b :: c :: r => if c.1 ≥ 2 ∧ b.1 ≥ 2 then [(oM (oM x), (1, f) :: dc (dc b) :: dc (dc c) :: r)] else []
 | _ => []
noncomputable def sSyu (f : Bool) : List T → List (O × List T)
 | b :: c :: r => if c.1 ≠ 0 ∧ b.1 ≠ 0 then [(oM x, (1, f) :: dc b :: dc c :: r)] else []
 | _ => []
noncomputable def sEls (f : Bool) (r : List T) : List (O × List T) := [(oI f x, r)] ++ sTwo [] x r ++ sOne x r
noncomputable def sOn1 (f : Bool) : List T → List (O × List T)
 | b :: c :: d :: r => if b.1 = 1 ∧ c.1 ≠ 0 ∧ d.1 ≠ 4 then [(oM x, dc c :: d :: r)] else sEls x f (b :: c :: d :: r)
 | r => sEls x f r
noncomputable def sopts : List T → List (O × List T)
 | [] => []
 | t :: r => if t.1 = 4 then sTwo [] (oM x) r ++ sOne (oM x) r ++ [(oI t.2 (oM x), r)] ++ sTwo [(1, t.2)] (oP x) r ++ sOne (oP x) r
  else if t.1 = 3 then [(oM x, r)] ++ sMid (oP x) r ++ sDbl x t.2 r
  else if t.1 = 2 then [(oP x, r)] ++ sSyu x t.2 r
  else if t.1 = 1 then sOn1 x t.2 r
  else if t.1 = 0 then [(x, r)] else []
end
end
set_option tactic.hygienic false
section
noncomputable def bitO (R : RS) (j : Int) : Bool := R.fc.toNat.testBit j.toNat
noncomputable def suf : Nat → Int → RS → List T
 | 0, _, _ => []
 | n + 1, d, R => (gt R.tl d, bitO R d) :: suf n (d + 1) R
noncomputable def sumO (R : RS) : O := ⟨R.m, R.ta, R.pr, R.fi != 0, Builtin.bitOr R.fc R.fi != R.fc⟩
noncomputable def FN (R : RS) : Prop := ∃ n m : Nat, R.fi = (n : Int) ∧ R.fc = (m : Int)
theorem suf_congr {R R' : RS} (hf : R'.fc = R.fc) : ∀ (n : Nat) (d : Int), (∀ j : Int, d ≤ j → j < d + n → gt R'.tl j = gt R.tl j) → suf n d R' = suf n d R
 | 0, _, _ => rfl
 | n + 1, d, h => by
  unfold suf
  rw [h d (by lia) (by lia), suf_congr hf n (d + 1) fun j a b => h j (by lia) (by push_cast; lia)]
  unfold bitO
  rw [hf]
theorem suf_add {R R' : RS} {ps : List (Int × Int)} (L : R.tl.length = 34) (hb : Bd ps) (ht : R'.tl = addAt ps R.tl) (hf : R'.fc = R.fc) {n : Nat} {d : Int} (h0 : 0 ≤ d) (hz : ∀ j : Int, d ≤ j → dsum ps j = 0) : suf n d R' = suf n d R :=
 suf_congr hf n d fun j a b => by rw [ht, gt_addAt L hb (by lia), hz j a, Int.add_zero]
section
variable {R : RS} {e : Int} {n : Nat}
theorem sm_Set : sumO (incSet e R) = oM (sumO R) := rfl
theorem sm_Pair : sumO (incPair e R) = oP (sumO R) := rfl
theorem sm_Syu : sumO (incSyu e R) = oM (sumO R) := rfl
theorem sm_T1 : sumO (incT1 e R) = oT (sumO R) := rfl
theorem sm_T2 : sumO (incT2 e R) = oT (sumO R) := rfl
theorem or_sub {n m : Nat} : n ||| m = n ↔ ∀ j, m.testBit j = true → n.testBit j = true := by
 constructor
 ·intro h j hj
  have := congrArg (·.testBit j) h
  simp only [Nat.testBit_or, hj, Bool.or_true] at this
  exact this.symm
 ·intro h
  apply Nat.eq_of_testBit_eq
  intro j
  rw [Nat.testBit_or]
  cases hm : m.testBit j with
  | false => simp
  | true => rw [h j hm]; rfl
theorem sm_Iso (h0 : 0 ≤ e) (f : FN R) : sumO (incIso e R) = oI (bitO R e) (sumO R) ∧ FN (incIso e R) := by
 obtain ⟨n, m, hn, hm⟩ := f
 have hf : (incIso e R).fi = ((n ||| 2 ^ e.toNat : Nat) : Int) := by
  show Builtin.bitOr R.fi (1 * 2 ^ e.toNat) = _
  rw [hn, pow_cast, bitOr_nat]
 refine ⟨?_, ⟨_, m, hf, hm⟩⟩
 have ha : ((incIso e R).fi != 0) = true := by
  rw [hf, bne_iff_ne]
  intro q
  have q : n ||| 2 ^ e.toNat = 0 := by exact_mod_cast q
  have := congrArg (·.testBit e.toNat) q
  simp [Nat.testBit_or, Nat.testBit_two_pow] at this
 have hg : (Builtin.bitOr R.fc (incIso e R).fi != R.fc) = ((Builtin.bitOr R.fc R.fi != R.fc) || !bitO R e) := by
  unfold bitO
  rw [hf, hn, hm, bitOr_nat, bitOr_nat, Int.toNat_natCast]
  rw [Bool.eq_iff_iff, Bool.or_eq_true, bne_iff_ne, bne_iff_ne, Bool.not_eq_true', ne_eq, ne_eq, Int.ofNat_inj, Int.ofNat_inj, or_sub, or_sub]
  constructor
  ·intro h
   by_cases q : m.testBit e.toNat = true
   ·left
    intro h'
    apply h
    intro j hj
    rw [Nat.testBit_or, Bool.or_eq_true] at hj
    rcases hj with hj | hj
    ·exact h' j hj
    ·rw [Nat.testBit_two_pow, decide_eq_true_eq] at hj
     subst hj; exact q
   ·right; exact Bool.eq_false_iff.mpr q
  ·intro h h'
   rcases h with h | h
   ·apply h
    intro j hj
    exact h' j (by rw [Nat.testBit_or, hj]; rfl)
   ·have := h' e.toNat (by rw [Nat.testBit_or, Nat.testBit_two_pow]; simp)
    rw [h] at this; cases this
 show (⟨R.m, R.ta, R.pr, _, Builtin.bitOr R.fc (incIso e R).fi != R.fc⟩ : O) = _
 rw [ha, hg]
 rfl
variable (L : R.tl.length = 34) (h0 : 0 ≤ e)
include L h0
theorem sf_Set (h1 : e < 27) : suf n (e + 1) (incSet e R) = suf n (e + 1) R :=
 suf_add (R' := incSet e R) (d := e + 1) (ps := [(e, -3)]) L ⟨⟨h0, h1⟩, trivial⟩ rfl rfl (by lia) fun j a => off_zero ⟨by show j ≠ e; lia, trivial⟩
theorem sf_Pair (h1 : e < 27) : suf n (e + 1) (incPair e R) = suf n (e + 1) R :=
 suf_add (R' := incPair e R) (d := e + 1) (ps := [(e, -2)]) L ⟨⟨h0, h1⟩, trivial⟩ rfl rfl (by lia) fun j a => off_zero ⟨by show j ≠ e; lia, trivial⟩
theorem sf_Iso (h1 : e < 27) : suf n (e + 1) (incIso e R) = suf n (e + 1) R :=
 suf_add (R' := incIso e R) (d := e + 1) (ps := [(e, -1)]) L ⟨⟨h0, h1⟩, trivial⟩ rfl rfl (by lia) fun j a => off_zero ⟨by show j ≠ e; lia, trivial⟩
theorem sf_T1 (h1 : e + 1 < 27) : suf (n + 1) (e + 1) (incT1 e R) = dc (gt R.tl (e + 1), bitO R (e + 1)) :: suf n (e + 2) R := by
 have hb : Bd [(e, -1), (e + 1, -1)] := ⟨⟨h0, by show e < 27; lia⟩, ⟨by show 0 ≤ e + 1; lia, h1⟩, trivial⟩
 have h := fun {j : Int} (hj : 0 ≤ j) => gt_addAt (ps := [(e, -1), (e + 1, -1)]) L hb hj
 show (gt (incT1 e R).tl (e + 1), bitO R (e + 1)) :: suf n (e + 1 + 1) (incT1 e R) = _
 rw [show e + 1 + 1 = e + 2 by lia, suf_add (R' := incT1 e R) (ps := [(e, -1), (e + 1, -1)]) L hb rfl rfl (by lia) fun j a => off_zero ⟨by show j ≠ e; lia, by show j ≠ e + 1; lia, trivial⟩]
 rw [show gt (incT1 e R).tl (e + 1) = gt R.tl (e + 1) + -1 from (h (by lia)).trans (congrArg _ ((dsum_sk (p := (e, -1)) (by show e + 1 ≠ e; lia)).trans (dsum_hd (p := (e + 1, -1)) (r := []) trivial)))]
 rfl
theorem sf_T2 (h1 : e + 2 < 27) : suf (n + 2) (e + 1) (incT2 e R) = (gt R.tl (e + 1), bitO R (e + 1)) :: dc (gt R.tl (e + 2), bitO R (e + 2)) :: suf n (e + 3) R := by
 have hb : Bd [(e, -1), (e + 2, -1)] := ⟨⟨h0, by show e < 27; lia⟩, ⟨by show 0 ≤ e + 2; lia, h1⟩, trivial⟩
 have h := fun {j : Int} (hj : 0 ≤ j) => gt_addAt (ps := [(e, -1), (e + 2, -1)]) L hb hj
 show (gt (incT2 e R).tl (e + 1), bitO R (e + 1)) :: (gt (incT2 e R).tl (e + 1 + 1), bitO R (e + 1 + 1)) :: suf n (e + 1 + 1 + 1) (incT2 e R) = _
 rw [show e + 1 + 1 = e + 2 by lia, show e + 2 + 1 = e + 3 by lia, suf_add (R' := incT2 e R) (ps := [(e, -1), (e + 2, -1)]) L hb rfl rfl (by lia) fun j a => off_zero ⟨by show j ≠ e; lia, by show j ≠ e + 2; lia, trivial⟩]
 rw [show gt (incT2 e R).tl (e + 1) = gt R.tl (e + 1) from (h (by lia)).trans (by rw [off_zero (ps := [(e, -1), (e + 2, -1)]) ⟨by show e + 1 ≠ e; lia, by show e + 1 ≠ e + 2; lia, trivial⟩, Int.add_zero]),
  show gt (incT2 e R).tl (e + 2) = gt R.tl (e + 2) + -1 from (h (by lia)).trans (congrArg _ ((dsum_sk (p := (e, -1)) (by show e + 2 ≠ e; lia)).trans (dsum_hd (p := (e + 2, -1)) (r := []) trivial)))]
 rfl
theorem sf_Syu (h1 : e + 2 < 27) : suf (n + 3) e (incSyu e R) = dc (gt R.tl e, bitO R e) :: dc (gt R.tl (e + 1), bitO R (e + 1)) :: dc (gt R.tl (e + 2), bitO R (e + 2)) :: suf n (e + 3) R := by
 obtain ⟨a, b, c⟩ := syu_at L h0 h1
 show (gt (incSyu e R).tl e, bitO R e) :: (gt (incSyu e R).tl (e + 1), bitO R (e + 1)) :: (gt (incSyu e R).tl (e + 1 + 1), bitO R (e + 1 + 1)) :: suf n (e + 1 + 1 + 1) (incSyu e R) = _
 rw [show e + 1 + 1 = e + 2 by lia, show e + 2 + 1 = e + 3 by lia, a, b, c, suf_add (R' := incSyu e R) (ps := d3 e) L (bd3 h0 h1) rfl rfl (by lia) fun j a => off_zero ⟨by show j ≠ e; lia, by show j ≠ e + 1; lia, by show j ≠ e + 2; lia, trivial⟩]
 rfl
end
end
set_option tactic.hygienic true
set_option tactic.hygienic false
section
noncomputable def ab (n : Nat) (e : Int) (p : Int × RS) : O × List T := (sumO p.2, suf (n + 1 + e - p.1).toNat p.1 p.2)
theorem ab_1 {n : Nat} {e : Int} {R : RS} : ab n e (e + 1, R) = (sumO R, suf n (e + 1) R) := by
 unfold ab; dsimp only; rw [show ((n : Int) + 1 + e - (e + 1)).toNat = n by lia]
theorem ab_0 {n : Nat} {e : Int} {R : RS} : ab n e (e, R) = (sumO R, suf (n + 1) e R) := by
 unfold ab; dsimp only; rw [show ((n : Int) + 1 + e - e).toNat = n + 1 by lia]
theorem ab_2 {n : Nat} {e : Int} {R : RS} : ab (n + 1) e (e + 2, R) = (sumO R, suf n (e + 2) R) := by
 unfold ab; dsimp only; rw [show (((n + 1 : Nat) : Int) + 1 + e - (e + 2)).toNat = n by lia]
theorem suf_1 {n : Nat} {e : Int} {R : RS} : suf (n + 1) (e + 1) R = (gt R.tl (e + 1), bitO R (e + 1)) :: suf n (e + 2) R := by
 show _ :: suf n (e + 1 + 1) R = _
 rw [show e + 1 + 1 = e + 2 by lia]
theorem suf_2 {n : Nat} {e : Int} {R : RS} : suf (n + 2) (e + 1) R = (gt R.tl (e + 1), bitO R (e + 1)) :: (gt R.tl (e + 2), bitO R (e + 2)) :: suf n (e + 3) R := by
 rw [suf_1]
 show _ :: _ :: suf n (e + 2 + 1) R = _
 rw [show e + 2 + 1 = e + 3 by lia]
theorem suf_3 {n : Nat} {e : Int} {R : RS} : suf (n + 3) (e + 1) R = (gt R.tl (e + 1), bitO R (e + 1)) :: (gt R.tl (e + 2), bitO R (e + 2)) :: (gt R.tl (e + 3), bitO R (e + 3)) :: suf n (e + 4) R := by
 rw [suf_2]
 show _ :: _ :: _ :: suf n (e + 3 + 1) R = _
 rw [show e + 3 + 1 = e + 4 by lia]
theorem suf_0 {n : Nat} {e : Int} {R : RS} : suf (n + 1) e R = (gt R.tl e, bitO R e) :: suf n (e + 1) R := rfl
theorem mp_ite {α β : Type} {c : Prop} [Decidable c] {a b : List α} {f : α → β} : (if c then a else b).map f = if c then a.map f else b.map f := by split <;> rfl
theorem tl_Syu {R : RS} {e : Int} {n : Nat} (L : R.tl.length = 34) (h0 : 0 ≤ e) (h2 : e + 2 < 27) : suf (n + 2) (e + 1) (incSyu e R) = dc (gt R.tl (e + 1), bitO R (e + 1)) :: dc (gt R.tl (e + 2), bitO R (e + 2)) :: suf n (e + 3) R := by
 have := sf_Syu (n := n) L h0 h2
 rw [suf_0] at this
 exact (List.cons.inj this).2
section
variable {R : RS} {i e : Int} {n : Nat} (L : R.tl.length = 34) (h0 : 0 ≤ e) (h1 : e + n < 27) (hi : i = 8 - n)
include L h0 h1 hi
theorem two_1 : (twoO i e (e + 1) R).map (ab n e) = sTwo [] (sumO R) (suf n (e + 1) R) := by
 unfold twoO
 match n with
 | 0 => rw [if_neg (fun c => by lia)]; rfl
 | 1 => rw [if_neg (fun c => by lia)]; rfl
 | n + 2 =>
  rw [mp_ite, List.map_append, mp_ite, List.map_cons, List.map_cons, ab_1, ab_1, sm_Syu, sm_T2, tl_Syu L h0 (by lia), sf_T2 L h0 (by lia), suf_2]
  simp only [List.map_nil, List.nil_append, show i < 7 by lia, true_and]
  rfl
theorem two_0 : (twoO i e e R).map (ab n e) = sTwo [(gt R.tl e - 1, bitO R e)] (sumO R) (suf n (e + 1) R) := by
 unfold twoO
 match n with
 | 0 => rw [if_neg (fun c => by lia)]; rfl
 | 1 => rw [if_neg (fun c => by lia)]; rfl
 | n + 2 =>
  rw [mp_ite, List.map_append, mp_ite, List.map_cons, List.map_cons, ab_0, ab_1, sm_Syu, sm_T2, sf_Syu L h0 (by lia), sf_T2 L h0 (by lia), suf_2]
  simp only [List.map_nil, List.cons_append, List.nil_append, show i < 7 by lia, true_and]
  rfl
theorem one_1 : (oneO i e R).map (ab n e) = sOne (sumO R) (suf n (e + 1) R) := by
 unfold oneO
 match n with
 | 0 => rw [if_neg (fun c => by lia)]; rfl
 | n + 1 =>
  rw [mp_ite, List.map_cons, ab_1, sm_T1, sf_T1 L h0 (by lia), suf_1]
  simp only [List.map_nil, show i < 8 by lia, true_and]
  rfl
theorem t2_1 : (t2O i e R).map (ab n e) = sT2 (sumO R) (suf n (e + 1) R) := by
 unfold t2O
 match n with
 | 0 => rw [if_neg (fun c => by lia)]; rfl
 | 1 => rw [if_neg (fun c => by lia)]; rfl
 | n + 2 =>
  rw [mp_ite, List.map_cons, ab_1, sm_T2, sf_T2 L h0 (by lia), suf_2]
  simp only [List.map_nil, show i < 7 by lia, true_and]
  rfl
theorem mid_1 : (if i < 7 ∧ gt R.tl (e + 1) ≠ 0 ∧ gt R.tl (e + 2) ≠ 0 then [(e + 1, incSyu e R)] else t2O i e R ++ oneO i e R).map (ab n e) = sMid (sumO R) (suf n (e + 1) R) := by
 rw [mp_ite, List.map_append, t2_1 L h0 h1 hi, one_1 L h0 h1 hi]
 match n with
 | 0 => rw [if_neg (fun c => by lia)]; rfl
 | 1 => rw [if_neg (fun c => by lia)]; rfl
 | n + 2 =>
  rw [List.map_cons, ab_1, sm_Syu, tl_Syu L h0 (by lia), suf_2]
  simp only [List.map_nil, show i < 7 by lia, true_and]
  rfl
theorem dbl_1 (hc : gt R.tl e = 3) : (if i < 7 ∧ gt R.tl (e + 2) ≥ 2 ∧ gt R.tl (e + 1) ≥ 2 then [(e, incSyu e (incSyu e R))] else []).map (ab n e) = sDbl (sumO R) (bitO R e) (suf n (e + 1) R) := by
 rw [mp_ite]
 match n with
 | 0 => rw [if_neg (fun c => by lia)]; rfl
 | 1 => rw [if_neg (fun c => by lia)]; rfl
 | n + 2 =>
  have L2 := len_incSyu (k := e) L
  obtain ⟨a, b, c⟩ := syu_at L h0 (show e + 2 < 27 by lia)
  rw [List.map_cons, ab_0, sm_Syu, sm_Syu, sf_Syu L2 h0 (by lia), suf_2, a, b, c, hc]
  have e3 : suf n (e + 3) (incSyu e R) = suf n (e + 3) R := suf_add (R' := incSyu e R) (ps := d3 e) L (bd3 h0 (by lia)) rfl rfl (by lia) fun j a => off_zero ⟨by show j ≠ e; lia, by show j ≠ e + 1; lia, by show j ≠ e + 2; lia, trivial⟩
  rw [e3]
  simp only [List.map_nil, show i < 7 by lia, true_and]
  rfl
theorem syu_1 (hc : gt R.tl e = 2) : (if i < 7 ∧ gt R.tl (e + 2) ≠ 0 ∧ gt R.tl (e + 1) ≠ 0 then [(e, incSyu e R)] else []).map (ab n e) = sSyu (sumO R) (bitO R e) (suf n (e + 1) R) := by
 rw [mp_ite]
 match n with
 | 0 => rw [if_neg (fun c => by lia)]; rfl
 | 1 => rw [if_neg (fun c => by lia)]; rfl
 | n + 2 =>
  rw [List.map_cons, ab_0, sm_Syu, sf_Syu L h0 (by lia), suf_2, hc]
  simp only [List.map_nil, show i < 7 by lia, true_and]
  rfl
theorem els_1 (F : FN R) : ([(e + 1, incIso e R)] ++ twoO i e (e + 1) R ++ oneO i e R).map (ab n e) = sEls (sumO R) (bitO R e) (suf n (e + 1) R) := by
 rw [List.map_append, List.map_append, two_1 L h0 h1 hi, one_1 L h0 h1 hi, List.map_cons, ab_1, (sm_Iso h0 F).1, sf_Iso L h0 (by lia)]
 rfl
theorem one1_1 (F : FN R) : (o1 i e R).map (ab n e) = sOn1 (sumO R) (bitO R e) (suf n (e + 1) R) := by
 unfold o1
 rw [mp_ite, els_1 L h0 h1 hi F]
 match n with
 | 0 => rw [if_neg (fun c => by lia)]; rfl
 | 1 => rw [if_neg (fun c => by lia)]; rfl
 | 2 => rw [if_neg (fun c => by lia)]; rfl
 | n + 3 =>
  have e2 : suf (n + 2) (e + 2) (incSyu e R) = dc (gt R.tl (e + 2), bitO R (e + 2)) :: (gt R.tl (e + 3), bitO R (e + 3)) :: suf n (e + 4) R := by
   have := tl_Syu (n := n + 1) L h0 (by lia)
   rw [suf_1] at this
   rw [(List.cons.inj this).2]
   show _ :: _ :: suf n (e + 3 + 1) R = _
   rw [show e + 3 + 1 = e + 4 by lia]
  rw [List.map_cons, ab_2, sm_Syu, e2, suf_3]
  simp only [List.map_nil, show i < 6 by lia, true_and]
  rfl
end
theorem opts_s {R : RS} {e : Int} {n : Nat} (L : R.tl.length = 34) (F : FN R) (h0 : 0 ≤ e) (h1 : e + n < 27) (hi : iV e = 8 - n) (hz : gt R.tl e ≠ 0) : (opts e R).map (ab n e) = sopts (sumO R) (suf (n + 1) e R) := by
 rw [suf_0]
 unfold opts sopts
 have hp : gt (incPair e R).tl e = gt R.tl e - 2 := gtv_incPair L h0 (by lia)
 rw [mp_ite, mp_ite, mp_ite, mp_ite]
 dsimp only
 by_cases c4 : gt R.tl e = 4
 ·rw [if_pos c4, if_pos c4]
  have La := len_incSet (k := e) L
  have Lb := len_incPair (k := e) L
  have F2 : FN (incSet e R) := F
  unfold o4
  simp only [List.map_append]
  rw [two_1 La h0 h1 hi, one_1 La h0 h1 hi, two_0 Lb h0 h1 hi, one_1 Lb h0 h1 hi, List.map_cons, ab_1, (sm_Iso h0 F2).1, sf_Iso La h0 (by lia), sf_Set L h0 (by lia), sf_Pair L h0 (by lia), sm_Set, sm_Pair, hp, c4]
  rfl
 rw [if_neg c4, if_neg c4]
 by_cases c3 : gt R.tl e = 3
 ·rw [if_pos c3, if_pos c3]
  have Lb := len_incPair (k := e) L
  unfold o3
  rw [List.map_append, List.map_append, mid_1 Lb h0 h1 hi, dbl_1 L h0 h1 hi c3, List.map_cons, ab_1, sf_Set L h0 (by lia), sf_Pair L h0 (by lia), sm_Set, sm_Pair]
  rfl
 rw [if_neg c3, if_neg c3]
 by_cases c2 : gt R.tl e = 2
 ·rw [if_pos c2, if_pos c2]
  unfold o2
  rw [List.map_append, syu_1 L h0 h1 hi c2, List.map_cons, ab_1, sf_Pair L h0 (by lia), sm_Pair]
  rfl
 rw [if_neg c2, if_neg c2]
 by_cases c1 : gt R.tl e = 1
 ·rw [if_pos c1, if_pos c1]
  exact one1_1 L h0 h1 hi F
 rw [if_neg c1, if_neg c1, if_neg hz]
 rfl
end
set_option tactic.hygienic true
section
inductive SOut : List T → O → O → Prop
 | nil {a : O} : SOut [] a a
 | step {a a' b : O} {s s' : List T} (h : (a', s') ∈ sopts a s) (k : SOut s' a' b) : SOut s a b
noncomputable def HOut : List (List T) → O → O → Prop
 | [], a, b => a = b
 | s :: ss, a, b => ∃ c, SOut s a c ∧ HOut ss c b
structure Lk (E : Int) (R R' : RS) (k : Int) : Prop where
 good : Good R'
 fn : FN R'
 s : s27 R'.tl = s27 R.tl - k
 jd : R'.jd = R.jd
 fc : R'.fc = R.fc
 ag : ∀ j : Int, E ≤ j → gt R'.tl j = gt R.tl j
theorem Lk.refl {E : Int} {R : RS} (g : Good R) (f : FN R) : Lk E R R 0 := ⟨g, f, by lia, rfl, rfl, fun _ _ => rfl⟩
theorem Lk.trans {E E' : Int} {R R' R'' : RS} {k k' : Int} (x : Lk E R R' k) (y : Lk E' R' R'' k') (h : E ≤ E') : Lk E' R R'' (k + k') :=
 ⟨y.good, y.fn, by rw [y.s, x.s]; lia, y.jd.trans x.jd, y.fc.trans x.fc, fun j hj => (y.ag j hj).trans (x.ag j (by lia))⟩
theorem lk_add {E k : Int} {R R' : RS} {ps : List (Int × Int)} (L : R.tl.length = 34) (hb : Bd ps) (g : Good R' ∧ s27 R'.tl = s27 R.tl + -k) (f : FN R') (ht : R'.tl = addAt ps R.tl) (hj : R'.jd = R.jd) (hf : R'.fc = R.fc) (hE : 0 ≤ E) (hz : ∀ j : Int, E ≤ j → Off j ps) : Lk E R R' k :=
 ⟨g.1, f, by rw [g.2]; lia, hj, hf, fun j h => by rw [ht, gt_addAt L hb (by lia), off_zero (hz j h), Int.add_zero]⟩
section
variable {R : RS} {e i d E : Int} (g : Good R) (f : FN R) (h0 : 0 ≤ e)
include g f h0
theorem lk_Set (h1 : e < 27) (hE : e < E) (c : 3 ≤ gt R.tl e) : Lk E R (incSet e R) 3 :=
 lk_add (ps := [(e, -3)]) g.len ⟨⟨h0, h1⟩, trivial⟩ (g.incSet h0 h1 c) f rfl rfl rfl (by lia) fun j h => ⟨by show j ≠ e; lia, trivial⟩
theorem lk_Pair (h1 : e < 27) (hE : e < E) (c : 2 ≤ gt R.tl e) : Lk E R (incPair e R) 2 :=
 lk_add (ps := [(e, -2)]) g.len ⟨⟨h0, h1⟩, trivial⟩ (g.incPair h0 h1 c) f rfl rfl rfl (by lia) fun j h => ⟨by show j ≠ e; lia, trivial⟩
theorem lk_Iso (h1 : e < 27) (hE : e < E) (c : 1 ≤ gt R.tl e) : Lk E R (incIso e R) 1 :=
 lk_add (ps := [(e, -1)]) g.len ⟨⟨h0, h1⟩, trivial⟩ (g.incIso h0 h1 c) (sm_Iso h0 f).2 rfl rfl rfl (by lia) fun j h => ⟨by show j ≠ e; lia, trivial⟩
theorem lk_T1 (h1 : e + 1 < 27) (hE : e + 1 < E) (c : 1 ≤ gt R.tl e) (c1 : 1 ≤ gt R.tl (e + 1)) : Lk E R (incT1 e R) 2 :=
 lk_add (ps := [(e, -1), (e + 1, -1)]) g.len ⟨⟨h0, by show e < 27; lia⟩, ⟨by show 0 ≤ e + 1; lia, h1⟩, trivial⟩ (g.incT1 h0 h1 c c1) f rfl rfl rfl (by lia) fun j h => ⟨by show j ≠ e; lia, by show j ≠ e + 1; lia, trivial⟩
theorem lk_T2 (h1 : e + 2 < 27) (hE : e + 2 < E) (c : 1 ≤ gt R.tl e) (c1 : 1 ≤ gt R.tl (e + 2)) : Lk E R (incT2 e R) 2 :=
 lk_add (ps := [(e, -1), (e + 2, -1)]) g.len ⟨⟨h0, by show e < 27; lia⟩, ⟨by show 0 ≤ e + 2; lia, h1⟩, trivial⟩ (g.incT2 h0 h1 c c1) f rfl rfl rfl (by lia) fun j h => ⟨by show j ≠ e; lia, by show j ≠ e + 2; lia, trivial⟩
theorem lk_Syu (h1 : e + 2 < 27) (hE : e + 2 < E) (c : 1 ≤ gt R.tl e) (c1 : 1 ≤ gt R.tl (e + 1)) (c2 : 1 ≤ gt R.tl (e + 2)) : Lk E R (incSyu e R) 3 :=
 lk_add (ps := d3 e) g.len (bd3 h0 h1) (g.incSyu h0 h1 c c1 c2) f rfl rfl rfl (by lia) fun j h => ⟨by show j ≠ e; lia, by show j ≠ e + 1; lia, by show j ≠ e + 2; lia, trivial⟩
end
structure Way (E e : Int) (R : RS) (p : Int × RS) : Prop where
 lk : ∃ k, Lk E R p.2 k ∧ e ≤ p.1 ∧ p.1 ≤ E ∧ e + 1 ≤ p.1 + k
 fi : FiOk e R → FiOk p.1 p.2
theorem Way.of {E e k : Int} {R R' : RS} {p : Int × RS} (x : Lk E R R' k) (hk : 0 ≤ k) (hf : R'.fi = R.fi) (w : Way E e R' p) : Way E e R p := by
 obtain ⟨k', y, a, b, c⟩ := w.lk
 exact ⟨⟨k + k', x.trans y (Int.le_refl _), a, b, by lia⟩, fun f => w.fi (f.of hf)⟩
theorem way {E e k d : Int} {R R' : RS} (x : Lk E R R' k) (h1 : e ≤ d) (h2 : d ≤ E) (h3 : e + 1 ≤ d + k) (hf : R'.fi = R.fi) : Way E e R (d, R') := ⟨⟨k, x, h1, h2, h3⟩, fun f => (f.up h1).of hf⟩
theorem mem_ite {α : Type} {c : Prop} [Decidable c] {p : α} {A B : List α} (h : p ∈ if c then A else B) : (c ∧ p ∈ A) ∨ (¬ c ∧ p ∈ B) := by
 by_cases q : c
 ·rw [if_pos q] at h; exact .inl ⟨q, h⟩
 ·rw [if_neg q] at h; exact .inr ⟨q, h⟩
theorem Way.at {E e : Int} {R : RS} {p q : Int × RS} (h : p ∈ [q]) (w : Way E e R q) : Way E e R p := List.mem_singleton.mp h ▸ w
theorem way1 {E e k : Int} {R R' : RS} (x : Lk E R R' k) (h : e < E) (hk : 0 ≤ k) (hf : R'.fi = R.fi) : Way E e R (e + 1, R') := way x (Int.le_add_of_nonneg_right (by decide)) (Int.add_one_le_of_lt h) (Int.le_add_of_nonneg_right hk) hf
theorem way0 {E e k : Int} {R R' : RS} (x : Lk E R R' k) (h : e < E) (hk : 1 ≤ k) (hf : R'.fi = R.fi) : Way E e R (e, R') := way x (Int.le_refl _) (Int.le_of_lt h) (Int.add_le_add_left hk e) hf
section
variable {R : RS} {e i d E : Int} {n : Nat} (g : Good R) (f : FN R) (h0 : 0 ≤ e) (h1 : e + n < 27) (hi : i = 8 - n) (hE : E = e + n + 1)
include g f h0 h1 hi hE
theorem w_two (c : 1 ≤ gt R.tl e) (hd : d = e ∨ d = e + 1) : ∀ p ∈ twoO i e d R, Way E e R p := by
 intro p hp
 unfold twoO at hp
 split at hp
 ·rename_i q
  have h2 : e + 2 < E := by lia
  have h3 : e + 2 < 27 := by lia
  have n2 : 1 ≤ gt R.tl (e + 2) := by have := g.nn (e + 2) (by lia) (by lia); lia
  rcases List.mem_append.mp hp with hp | hp
  ·split at hp
   ·have n1 : 1 ≤ gt R.tl (e + 1) := by have := g.nn (e + 1) (by lia) (by lia); lia
    refine .at hp ?_
    exact way (lk_Syu g f h0 h3 h2 c n1 n2) (by lia) (by lia) (by lia) rfl
   ·cases hp
  ·refine .at hp ?_
   exact way (lk_T2 g f h0 h3 h2 c n2) (by lia) (by lia) (by lia) rfl
 ·cases hp
theorem w_one (c : 1 ≤ gt R.tl e) : ∀ p ∈ oneO i e R, Way E e R p := by
 intro p hp
 unfold oneO at hp
 split at hp
 ·rename_i q
  have n1 : 1 ≤ gt R.tl (e + 1) := by have := g.nn (e + 1) (by lia) (by lia); lia
  refine .at hp ?_
  exact way (lk_T1 g f h0 (by lia) (by lia) c n1) (by lia) (by lia) (by lia) rfl
 ·cases hp
theorem w_t2 (c : 1 ≤ gt R.tl e) : ∀ p ∈ t2O i e R, Way E e R p := by
 intro p hp
 unfold t2O at hp
 split at hp
 ·rename_i q
  have n2 : 1 ≤ gt R.tl (e + 2) := by have := g.nn (e + 2) (by lia) (by lia); lia
  refine .at hp ?_
  exact way (lk_T2 g f h0 (by lia) (by lia) c n2) (by lia) (by lia) (by lia) rfl
 ·cases hp
theorem w_iso (c : 1 ≤ gt R.tl e) : Way E e R (e + 1, incIso e R) :=
 ⟨⟨1, lk_Iso g f h0 (by lia) (by lia) c, by dsimp only; lia, by dsimp only; lia, Int.le_add_of_nonneg_right (by decide)⟩, fun fi => (fi.iso h0 (by lia)).1⟩
theorem w_opts (hv : iV e = i) : ∀ p ∈ opts e R, Way E e R p := by
 intro p hp
 have b27 : e < 27 := by lia
 have bE : e < E := by lia
 have s2 : i < 7 → e + 2 < 27 ∧ e + 2 < E := fun q => ⟨by lia, by lia⟩
 have ps : 2 ≤ gt R.tl e → Lk E R (incPair e R) 2 := lk_Pair g f h0 b27 bE
 have ss : 3 ≤ gt R.tl e → Lk E R (incSet e R) 3 := lk_Set g f h0 b27 bE
 have pos : ∀ {S : RS} {j : Int}, Good S → e ≤ j → j < 27 → gt S.tl j ≠ 0 → 1 ≤ gt S.tl j := fun G a b c => by have := G.nn _ (Int.le_trans h0 a) (Int.lt_trans b (by decide)); lia
 subst hv
 rcases mem_ite hp with ⟨c, hp⟩ | ⟨-, hp⟩
 ·have s := ss (by rw [c]; decide)
  have t := ps (by rw [c]; decide)
  have c1 : 1 ≤ gt (incSet e R).tl e := by rw [gtv_incSet g.len h0 b27, c]; decide
  have c2 : 1 ≤ gt (incPair e R).tl e := by rw [gtv_incPair g.len h0 b27, c]; decide
  rcases List.mem_append.mp hp with hp | hp
  ·rcases List.mem_append.mp hp with hp | hp
   ·rcases List.mem_append.mp hp with hp | hp
    ·rcases List.mem_append.mp hp with hp | hp
     ·exact .of s (by decide) rfl (w_two s.good s.fn h0 h1 hi hE c1 (.inr rfl) p hp)
     ·exact .of s (by decide) rfl (w_one s.good s.fn h0 h1 hi hE c1 p hp)
    ·refine .at hp ?_
     exact .of s (by decide) rfl (w_iso s.good s.fn h0 h1 hi hE c1)
   ·exact .of t (by decide) rfl (w_two t.good t.fn h0 h1 hi hE c2 (.inl rfl) p hp)
  ·exact .of t (by decide) rfl (w_one t.good t.fn h0 h1 hi hE c2 p hp)
 rcases mem_ite hp with ⟨c, hp⟩ | ⟨-, hp⟩
 ·have t := ps (by rw [c]; decide)
  have c2 : 1 ≤ gt (incPair e R).tl e := by rw [gtv_incPair g.len h0 b27, c]; decide
  rcases List.mem_append.mp hp with hp | hp
  ·rcases List.mem_append.mp hp with hp | hp
   ·refine .at hp ?_
    exact way1 (ss (by rw [c]; decide)) bE (by decide) rfl
   ·rcases mem_ite hp with ⟨q, hp⟩ | ⟨-, hp⟩
    ·refine .at hp ?_
     obtain ⟨u, v⟩ := s2 q.1
     exact .of t (by decide) rfl (way1 (lk_Syu t.good t.fn h0 u v c2 (pos t.good (by lia) (by lia) q.2.1) (pos t.good (by lia) u q.2.2)) bE (by decide) rfl)
    ·rcases List.mem_append.mp hp with hp | hp
     ·exact .of t (by decide) rfl (w_t2 t.good t.fn h0 h1 hi hE c2 p hp)
     ·exact .of t (by decide) rfl (w_one t.good t.fn h0 h1 hi hE c2 p hp)
  ·rcases mem_ite hp with ⟨q, hp⟩ | ⟨-, hp⟩
   ·refine .at hp ?_
    obtain ⟨u, v⟩ := s2 q.1
    obtain ⟨a0, a1, a2⟩ := syu_at g.len h0 u
    have k1 : ∀ {x y : Int}, y = x - 1 → 2 ≤ x → 1 ≤ y := fun e h => by lia
    have le2 : ∀ {x : Int}, 2 ≤ x → 1 ≤ x := fun h => Int.le_trans (by decide) h
    have w := lk_Syu g f h0 u v (by rw [c]; decide) (le2 q.2.2) (le2 q.2.1)
    exact .of w (by decide) rfl (way0 (lk_Syu w.good w.fn h0 u v (k1 a0 (by rw [c]; decide)) (k1 a1 q.2.2) (k1 a2 q.2.1)) bE (by decide) rfl)
   ·cases hp
 rcases mem_ite hp with ⟨c, hp⟩ | ⟨-, hp⟩
 ·rcases List.mem_append.mp hp with hp | hp
  ·refine .at hp ?_
   exact way1 (ps (by rw [c]; decide)) bE (by decide) rfl
  ·rcases mem_ite hp with ⟨q, hp⟩ | ⟨-, hp⟩
   ·refine .at hp ?_
    obtain ⟨u, v⟩ := s2 q.1
    exact way0 (lk_Syu g f h0 u v (by rw [c]; decide) (pos g (by lia) (by lia) q.2.2) (pos g (by lia) u q.2.1)) bE (by decide) rfl
   ·cases hp
 rcases mem_ite hp with ⟨c, hp⟩ | ⟨-, hp⟩
 ·have c1 : 1 ≤ gt R.tl e := by rw [c]; decide
  rcases mem_ite hp with ⟨q, hp⟩ | ⟨-, hp⟩
  ·refine .at hp ?_
   obtain ⟨u, v⟩ := s2 (by lia)
   exact way (lk_Syu g f h0 u v c1 (by rw [q.2.1]; decide) (pos g (by lia) u q.2.2.1)) (by lia) (by lia) (by lia) rfl
  ·rcases List.mem_append.mp hp with hp | hp
   ·rcases List.mem_append.mp hp with hp | hp
    ·refine .at hp ?_
     exact w_iso g f h0 h1 hi hE c1
    ·exact w_two g f h0 h1 hi hE c1 (.inr rfl) p hp
   ·exact w_one g f h0 h1 hi hE c1 p hp
 ·cases hp
end
end
section
noncomputable def SE (E : Int) : Prop := E = 9 ∨ E = 18 ∨ E = 27
theorem iv_all : ∀ n : Fin 9, iV (9 - 1 - (n.1 : Int)) = 8 - n.1 ∧ iV (18 - 1 - (n.1 : Int)) = 8 - n.1 ∧ iV (27 - 1 - (n.1 : Int)) = 8 - n.1 := by decide
theorem SE.iv {E d : Int} {n : Nat} (h : SE E) (e : d + n + 1 = E) (hn : n < 9) : iV d = 8 - n := by
 obtain rfl : d = E - 1 - n := by lia -abstractProof
 have := iv_all ⟨n, hn⟩
 rcases h with rfl | rfl | rfl
 ·exact this.1
 ·exact this.2.1
 ·exact this.2.2
theorem sopts_0 {R : RS} {d : Int} {n : Nat} (hz : gt R.tl d = 0) : sopts (sumO R) (suf (n + 1) d R) = [(sumO R, suf n (d + 1) R)] := by
 rw [suf_0]
 unfold sopts
 dsimp only
 rw [hz, if_neg (by decide), if_neg (by decide), if_neg (by decide), if_neg (by decide), if_pos rfl]
noncomputable def tailS : Nat → RS → List (List T)
 | 0, _ => []
 | m + 1, R => suf 9 (18 - 9 * (m : Int)) R :: tailS m R
theorem tailS_lk {R R' : RS} {E k : Int} (x : Lk E R R' k) : ∀ m : Nat, E ≤ 27 - 9 * (m : Int) → m ≤ 3 → tailS m R' = tailS m R
 | 0, _, _ => rfl
 | m + 1, h, h3 => by
  unfold tailS
  rw [tailS_lk x m (by push_cast at h; lia -abstractProof) (by lia -abstractProof), suf_congr x.fc 9 _ fun j a _ => x.ag j (by push_cast at h; lia -abstractProof)]
noncomputable def bV (o : O) : Int := if o.p ≠ 0 then 8 - o.m * 2 - o.t - o.p else if o.a = true ∧ o.g = false then 8 - o.m * 2 - o.t - o.p + 1 else 8 - o.m * 2 - o.t - o.p
noncomputable def kV (o : O) : Int := if o.p ≠ 0 then o.m + o.t + (o.p - 1) else o.m + o.t
noncomputable def rV (o : O) : Int := if kV o > 4 then bV o + (kV o - 4) else bV o
noncomputable def retO (jd : Int) (o : O) : Int := if rV o ≠ -1 ∧ rV o < jd then jd else rV o
theorem retV_O {R : RS} (f : FN R) : retV R = retO R.jd (sumO R) := by
 have h : r1V R = bV (sumO R) := by
  obtain ⟨n, m, hn, hm⟩ := f
  unfold r1V bV
  show _ = if R.pr ≠ 0 then _ else if (R.fi != 0) = true ∧ (Builtin.bitOr R.fc R.fi != R.fc) = false then _ else _
  congr 1
  have : (R.fc ≠ 0 ∧ R.fi ≠ 0 ∧ Builtin.bitOr R.fc R.fi = R.fc) ↔ ((R.fi != 0) = true ∧ (Builtin.bitOr R.fc R.fi != R.fc) = false) := by
   rw [bne_iff_ne, bne_eq_false_iff_eq]
   refine ⟨fun h => h.2, fun h => ⟨fun z => ?_, h⟩⟩
   rw [hn, hm, bitOr_nat] at h
   rw [hm] at z
   have z : m = 0 := by exact_mod_cast z
   subst z
   obtain ⟨h1, h2⟩ := h
   rw [Nat.zero_or] at h2
   exact h1 (by rw [h2]; rfl)
  simp only [this]
  rfl
 unfold retV r2V retO rV
 rw [h]
 rfl
noncomputable def HO (n m : Nat) (d : Int) (R : RS) (b : O) : Prop := HOut (suf n d R :: tailS m R) (sumO R) b
structure Mn (P : O → Prop) (jd x r : Int) : Prop where
 le : r ≤ x
 all : r ≤ -1 ∨ ∀ b, P b → r ≤ retO jd b
 at' : r = x ∨ ∃ b, P b ∧ r = retO jd b
section
variable {P Q : O → Prop} {jd x r s : Int}
theorem Mn.congr (h : ∀ b, P b ↔ Q b) (a : Mn P jd x r) : Mn Q jd x r :=
 ⟨a.le, a.all.imp id fun f b hb => f b ((h b).mpr hb), a.at'.imp id fun ⟨b, hb, e⟩ => ⟨b, (h b).mp hb, e⟩⟩
theorem Mn.or (a : Mn P jd x r) (c : Mn Q jd r s) : Mn (fun b => P b ∨ Q b) jd x s := by
 refine ⟨Int.le_trans c.le a.le, ?_, ?_⟩
 ·rcases c.all with h | h
  ·exact .inl h
  ·rcases a.all with h' | h'
   ·exact .inl (Int.le_trans c.le h')
   ·exact .inr fun b hb => hb.elim (fun hb => Int.le_trans c.le (h' b hb)) (h b)
 ·rcases c.at' with rfl | ⟨b, hb, e⟩
  ·exact a.at'.imp id fun ⟨b, hb, e⟩ => ⟨b, .inl hb, e⟩
  ·exact .inr ⟨b, .inr hb, e⟩
theorem Mn.none (h : ∀ b, ¬ P b) : Mn P jd x x := ⟨Int.le_refl _, .inr fun b hb => absurd hb (h b), .inl rfl⟩
theorem Mn.low (h : x = -1) : Mn P jd x x := ⟨Int.le_refl _, .inl (Int.le_of_eq h), .inl rfl⟩
theorem Mn.one {o : O} (h : ∀ b, P b ↔ b = o) : Mn P jd x (if retO jd o < x then retO jd o else x) := by
 split
 ·rename_i q
  exact ⟨Int.le_of_lt q, .inr fun b hb => by rw [(h b).mp hb]; exact Int.le_refl _, .inr ⟨o, (h o).mpr rfl, rfl⟩⟩
 ·rename_i q
  exact ⟨Int.le_refl _, .inr fun b hb => by rw [(h b).mp hb]; exact Int.not_lt.mp q, .inl rfl⟩
end
noncomputable def PO (n m : Nat) (e : Int) (R : RS) (p : Int × RS) (b : O) : Prop := HOut ((ab n e p).2 :: tailS m R) (ab n e p).1 b
noncomputable def ML (n m : Nat) (e : Int) (R : RS) (l : List (Int × RS)) (x r : Int) : Prop := Mn (fun b => ∃ p ∈ l, PO n m e R p b) R.jd x r
section
variable {n m : Nat} {e : Int} {R : RS} {l l' : List (Int × RS)} {x r s : Int}
theorem ML.nil : ML n m e R [] x x := Mn.none fun b ⟨p, h, _⟩ => by cases h
theorem ML.app (a : ML n m e R l x r) (c : ML n m e R l' r s) : ML n m e R (l ++ l') x s :=
 (Mn.or a c).congr fun b => ⟨fun h => h.elim (fun ⟨p, h, q⟩ => ⟨p, List.mem_append_left _ h, q⟩) fun ⟨p, h, q⟩ => ⟨p, List.mem_append_right _ h, q⟩,
  fun ⟨p, h, q⟩ => (List.mem_append.mp h).imp (fun h => ⟨p, h, q⟩) fun h => ⟨p, h, q⟩⟩
theorem ML.one {p : Int × RS} (a : Mn (PO n m e R p) R.jd x r) : ML n m e R [p] x r :=
 Mn.congr (fun b => ⟨fun h => ⟨p, List.mem_singleton.mpr rfl, h⟩, fun ⟨q, h, k⟩ => by cases List.mem_singleton.mp h; exact k⟩) a
theorem hout_step {s : List T} {ss : List (List T)} {a b : O} (hs : s ≠ []) : HOut (s :: ss) a b ↔ ∃ q ∈ sopts a s, HOut (q.2 :: ss) q.1 b := by
 constructor
 ·rintro ⟨c, h1, h2⟩
  cases h1 with
  | nil => exact absurd rfl hs
  | step h k => exact ⟨_, h, c, k, h2⟩
 ·rintro ⟨q, h, c, k, h2⟩
  exact ⟨c, .step h k, h2⟩
theorem hout_nil {ss : List (List T)} {a b : O} : HOut ([] :: ss) a b ↔ HOut ss a b := by
 constructor
 ·rintro ⟨c, h1, h2⟩
  cases h1 with
  | nil => exact h2
  | step h _ => cases h
 ·exact fun h => ⟨a, .nil, h⟩
theorem ho_zero (hz : gt R.tl e = 0) (b : O) : HO (n + 1) m e R b ↔ HO n m (e + 1) R b := by
 refine (hout_step (by rw [suf_0]; exact List.cons_ne_nil _ _)).trans ?_
 rw [sopts_0 hz]
 exact ⟨fun ⟨q, h, k⟩ => by cases List.mem_singleton.mp h; exact k, fun h => ⟨_, List.mem_singleton.mpr rfl, h⟩⟩
theorem ho_end (b : O) : HO 0 0 e R b ↔ b = sumO R := hout_nil.trans eq_comm
theorem ho_next (b : O) : HO 0 (m + 1) (18 - 9 * (m : Int)) R b ↔ HO 9 m (18 - 9 * (m : Int)) R b := hout_nil
theorem se_of (he : e + n + 1 + 9 * (m : Int) = 27) (h0 : 0 ≤ e) (hn : n ≤ 8) : SE (e + n + 1) := by unfold SE; lia -abstractProof
theorem ML.opts (g : Good R) (f : FN R) (he : e + n + 1 + 9 * (m : Int) = 27) (h0 : 0 ≤ e) (hn : n ≤ 8) (hz : gt R.tl e ≠ 0) (h : ML n m e R (opts e R) x r) : Mn (HO (n + 1) m e R) R.jd x r := by
 refine Mn.congr (fun b => ?_) h
 refine .trans ?_ (hout_step (by rw [suf_0]; exact List.cons_ne_nil _ _)).symm
 rw [← opts_s g.len f h0 (by lia -abstractProof) ((se_of he h0 hn).iv rfl (by lia -abstractProof)) hz]
 exact ⟨fun ⟨p, h, k⟩ => ⟨_, List.mem_map.mpr ⟨p, h, rfl⟩, k⟩, fun ⟨q, h, k⟩ => by obtain ⟨p, hp, rfl⟩ := List.mem_map.mp h; exact ⟨p, hp, k⟩⟩
end
end
set_option tactic.hygienic false
section
noncomputable abbrev aeE (p : Nat) (e i : Int) : Loc := [("self", .ref p), ("depth", .int e), ("i", .int i)]
noncomputable def partsS : Stmt → Expr × List Stmt × List Stmt
 | .For t _ b o _ => (t, b, o)
 | .While t b o _ => (t, b, o)
 | .If t b o _ => (t, b, o)
 | _ => (.Name "" pos0, [], [])
noncomputable def forBody (s : Stmt) : List Stmt := (partsS s).2.1
noncomputable def forTgt (s : Stmt) : Expr := (partsS s).1
noncomputable def elseS (s : Stmt) : List Stmt := (partsS s).2.2
noncomputable def stR (j : Nat) : Stmt := (dBody 3 3).getD j (.Pass pos0)
theorem wB_i {b : Bool} {p : Prop} (h : b = true) (k : p) : wB b p := by subst h; exact k
noncomputable abbrev sCall (nm : Str) (a : Expr) (q1 q2 q3 q4 : Pos) : Stmt := .Expr (.Call (.Attribute (.Name "self" q1) nm q2) [a] [] q3) q4
structure MV (σ : Sto) (p d t k : Nat) (e : Int) (R R' : RS) (nI nD : Str) : Prop where
 fI : ∃ f, (∀ S : RS, (((flds t S).lookup nI).isNone, XW.meth 213 nI) = (true, some f)) ∧ (XW.fn f).isSome = true ∧ ∀ (x : Int) (K : KE), K .none (put σ d t (wm R' x)) → lCall (callA XW (k + 2)) f [.ref p, .int e] (put σ d t (wm R x)) K
 fD : ∃ f, (∀ S : RS, (((flds t S).lookup nD).isNone, XW.meth 213 nD) = (true, some f)) ∧ (XW.fn f).isSome = true ∧ ∀ (x : Int) (K : KE), K .none (put σ d t (wm R x)) → lCall (callA XW (k + 2)) f [.ref p, .int e] (put σ d t (wm R' x)) K
section
variable {σ : Sto} {p d t k : Nat} {e i : Int} {R R' : RS}
theorem call_m {N : Nat} {nm : Str} {f : Addr} {S : RS} {G : RS → Prop} {a : Expr} {v : Int} {q1 q2 q3 q4 : Pos} {rest : List Stmt} {K : KS} (ho : RO σ p d t) (hm : (((flds t S).lookup nm).isNone, XW.meth 213 nm) = (true, some f)) (hs : (XW.fn f).isSome = true) (hq : (q2.endLine == q3.line && notStar a) = true)
  (ea : ∀ KK : KE, KK (.int v) (put σ d t S) → evalE XW (callA XW (k + 2)) (N + 2) (dScope 3 3) a (aeE p e i) (put σ d t S) KK)
  (hc : ∀ KK : KE, (∀ S', G S' → KK .none (put σ d t S')) → lCall (callA XW (k + 2)) f [.ref p, .int v] (put σ d t S) KK)
  (hk : ∀ S', G S' → seqA (execS XW (callA XW (k + 2)) (N + 4) (dScope 3 3)) rest (aeE p e i) (put σ d t S') K) :
  seqA (execS XW (callA XW (k + 2)) (N + 4) (dScope 3 3)) (sCall nm a q1 q2 q3 q4 :: rest) (aeE p e i) (put σ d t S) K := by
 obtain ⟨h1, h2⟩ := Bool.and_eq_true_iff.mp hq
 refine s_cons ?_
 refine wB_i (by show (true && (q2.endLine == q3.line) && true && (notStar a && true)) = true; rw [h1, h2]; rfl) ?_
 refine res_put ho hm ?_
 refine wB_i hs ?_
 refine ea _ ?_
 refine hc _ fun S' g => ?_
 exact hk S' g
section
variable {N : Nat} {nI nD : Str} {Rc : RS} {Q : Int → Prop} {a : Expr} {dd x : Int} {r1 r2 r3 r4 r5 s1 s2 s3 s4 u1 u2 u3 u4 u5 : Pos} {rest : List Stmt} {K : KS} (ho : RO σ p d t)
include ho
theorem inM (mv : MV σ p d t k e Rc R' nI nD) (hq : (r2.endLine == r3.line) = true) (hk : seqA (execS XW (callA XW (k + 2)) (N + 4) (dScope 3 3)) rest (aeE p e i) (put σ d t (wm R' x)) K) :
  seqA (execS XW (callA XW (k + 2)) (N + 4) (dScope 3 3)) (sCall nI (.Name "depth" r5) r1 r2 r3 r4 :: rest) (aeE p e i) (put σ d t (wm Rc x)) K := by
 obtain ⟨f, a1, a2, a3⟩ := mv.fI
 refine call_m (v := e) (G := fun S' => S' = wm R' x) ho (a1 _) a2 (by rw [hq]; rfl) (fun _ h => h) (fun KK h => a3 x KK (h _ rfl)) ?_
 rintro _ rfl
 exact hk
theorem outM (mv : MV σ p d t k e Rc R' nI nD) (hq : (r2.endLine == r3.line) = true) (hk : seqA (execS XW (callA XW (k + 2)) (N + 4) (dScope 3 3)) rest (aeE p e i) (put σ d t (wm Rc x)) K) :
  seqA (execS XW (callA XW (k + 2)) (N + 4) (dScope 3 3)) (sCall nD (.Name "depth" r5) r1 r2 r3 r4 :: rest) (aeE p e i) (put σ d t (wm R' x)) K := by
 obtain ⟨f, a1, a2, a3⟩ := mv.fD
 refine call_m (v := e) (G := fun S' => S' = wm Rc x) ho (a1 _) a2 (by rw [hq]; rfl) (fun _ h => h) (fun KK h => a3 x KK (h _ rfl)) ?_
 rintro _ rfl
 exact hk
theorem runM (run : ∀ KK : KE, (∀ r, Q r → KK .none (put σ d t (wm R' r))) → lCall (callA XW (k + 2)) 112 [.ref p, .int dd] (put σ d t (wm R' x)) KK) (hq : (s2.endLine == s3.line && notStar a) = true)
  (ea : ∀ KK : KE, KK (.int dd) (put σ d t (wm R' x)) → evalE XW (callA XW (k + 2)) (N + 2) (dScope 3 3) a (aeE p e i) (put σ d t (wm R' x)) KK)
  (hk : ∀ r, Q r → seqA (execS XW (callA XW (k + 2)) (N + 4) (dScope 3 3)) rest (aeE p e i) (put σ d t (wm R' r)) K) :
  seqA (execS XW (callA XW (k + 2)) (N + 4) (dScope 3 3)) (sCall "_run" a s1 s2 s3 s4 :: rest) (aeE p e i) (put σ d t (wm R' x)) K := by
 refine call_m (v := dd) (f := 112) (G := fun S' => ∃ r, S' = wm R' r ∧ Q r) ho rfl rfl hq ea (fun KK h => run KK fun r q => h _ ⟨r, rfl, q⟩) ?_
 rintro _ ⟨r, rfl, q⟩
 exact hk r q
theorem via (mv : MV σ p d t k e Rc R' nI nD)
  (run : ∀ KK : KE, (∀ r, Q r → KK .none (put σ d t (wm R' r))) → lCall (callA XW (k + 2)) 112 [.ref p, .int dd] (put σ d t (wm R' x)) KK)
  (hq : (r2.endLine == r3.line && (s2.endLine == s3.line && notStar a) && u2.endLine == u3.line) = true)
  (ea : ∀ KK : KE, KK (.int dd) (put σ d t (wm R' x)) → evalE XW (callA XW (k + 2)) (N + 2) (dScope 3 3) a (aeE p e i) (put σ d t (wm R' x)) KK)
  (hk : ∀ r, Q r → seqA (execS XW (callA XW (k + 2)) (N + 4) (dScope 3 3)) rest (aeE p e i) (put σ d t (wm Rc r)) K) :
  seqA (execS XW (callA XW (k + 2)) (N + 4) (dScope 3 3)) (sCall nI (.Name "depth" r5) r1 r2 r3 r4 :: sCall "_run" a s1 s2 s3 s4 :: sCall nD (.Name "depth" u5) u1 u2 u3 u4 :: rest) (aeE p e i) (put σ d t (wm Rc x)) K := by
 obtain ⟨h1, h3⟩ := Bool.and_eq_true_iff.mp hq
 obtain ⟨h1, h2⟩ := Bool.and_eq_true_iff.mp h1
 exact inM ho mv h1 (runM ho run h2 ea fun r q => outM ho mv h3 (hk r q))
end
variable (ho : RO σ p d t) (L : R.tl.length = 34) (h0 : 0 ≤ e)
include ho L h0
theorem mv_Set (h1 : e < 27) : MV σ p d t k e R (incSet e R) "_increase_set" "_decrease_set" :=
 ⟨⟨_, fun _ => rfl, rfl, fun x K h => c134 ho L h0 (by lia) h⟩, ⟨_, fun _ => rfl, rfl, fun x K h => c141 ho (len_incSet L) h0 (by lia) (by rw [bk_Set L h0 h1]; exact h)⟩⟩
theorem mv_Pair (h1 : e < 27) : MV σ p d t k e R (incPair e R) "_increase_pair" "_decrease_pair" :=
 ⟨⟨_, fun _ => rfl, rfl, fun x K h => c148 ho L h0 (by lia) h⟩, ⟨_, fun _ => rfl, rfl, fun x K h => c155 ho (len_incPair L) h0 (by lia) (by rw [bk_Pair L h0 h1]; exact h)⟩⟩
theorem mv_Syu (h1 : e + 2 < 27) : MV σ p d t k e R (incSyu e R) "_increase_syuntsu" "_decrease_syuntsu" :=
 ⟨⟨_, fun _ => rfl, rfl, fun x K h => c162 ho L h0 (by lia) h⟩, ⟨_, fun _ => rfl, rfl, fun x K h => c169 ho (len_incSyu L) h0 (by lia) (by rw [bk_Syu L h0 h1]; exact h)⟩⟩
theorem mv_T1 (h1 : e + 1 < 27) : MV σ p d t k e R (incT1 e R) "_increase_tatsu_first" "_decrease_tatsu_first" :=
 ⟨⟨_, fun _ => rfl, rfl, fun x K h => c176 ho L h0 (by lia) h⟩, ⟨_, fun _ => rfl, rfl, fun x K h => c183 ho (len_incT1 L) h0 (by lia) (by rw [bk_T1 L h0 h1]; exact h)⟩⟩
theorem mv_T2 (h1 : e + 2 < 27) : MV σ p d t k e R (incT2 e R) "_increase_tatsu_second" "_decrease_tatsu_second" :=
 ⟨⟨_, fun _ => rfl, rfl, fun x K h => c190 ho L h0 (by lia) h⟩, ⟨_, fun _ => rfl, rfl, fun x K h => c197 ho (len_incT2 L) h0 (by lia) (by rw [bk_T2 L h0 h1]; exact h)⟩⟩
theorem mv_Iso (fi : FiOk e R) (h1 : e < 27) : MV σ p d t k e R (incIso e R) "_increase_isolated_tile" "_decrease_isolated_tile" :=
 ⟨⟨_, fun _ => rfl, rfl, fun x K h => c204 ho L h0 (by lia) h⟩, ⟨_, fun _ => rfl, rfl, fun x K h => c211 ho (len_incIso L) h0 (by lia) (by rw [bk_Iso fi L h0 h1]; exact h)⟩⟩
end
end
set_option tactic.hygienic true
set_option tactic.hygienic false
section
noncomputable abbrev eTile (c : Int) (u : Nat) (q1 q2 q3 q4 q5 q6 : Pos) : Expr := .Subscript (.Attribute (.Name "self" q1) "_tiles" q2) (.BinOp (.Name "depth" q3) .Add (.Constant (.int c) u q4) q5) q6
noncomputable abbrev eLt (c : Int) (u : Nat) (q1 q2 q3 : Pos) : Expr := .Compare (.Name "i" q1) [.Lt] [.Constant (.int c) u q2] q3
noncomputable def BK (σ : Sto) (p d t n m : Nat) (e : Int) (R Rc : RS) (l : List (Int × RS)) (x : Int) : KS := fun fl a τ => fl = .next ∧ a = aeE p e (iV e) ∧ ∃ r, τ = put σ d t (wm Rc r) ∧ ML n m e R l x r
noncomputable def Runs (σ : Sto) (p d t k n m : Nat) (e : Int) (R : RS) (l : List (Int × RS)) : Prop := ∀ q ∈ l, ∀ (x : Int) (KK : KE), (∀ r, Mn (PO n m e R q) R.jd x r → KK .none (put σ d t (wm q.2 r))) → lCall (callA XW (k + 2)) 112 [.ref p, .int q.1] (put σ d t (wm q.2 x)) KK
section
variable {σ : Sto} {p d t k n m N : Nat} {e : Int} {R Rc : RS} {x : Int}
theorem s_mn {F : Stmt → Loc → Sto → XS} {s : Stmt} {rest : List Stmt} {K : KS} {l : List (Int × RS)} (h : F s (aeE p e (iV e)) (put σ d t (wm Rc x)) (BK σ p d t n m e R Rc l x)) (k : ∀ r, ML n m e R l x r → seqA F rest (aeE p e (iV e)) (put σ d t (wm Rc r)) K) : seqA F (s :: rest) (aeE p e (iV e)) (put σ d t (wm Rc x)) K :=
 ⟨_, h, fun fl a τ ⟨e1, e2, r, e3, hr⟩ => by subst e1 e2 e3; exact k r hr⟩
theorem bk_i {Rc' : RS} {l : List (Int × RS)} {r : Int} (h : ML n m e R l x r) : BK σ p d t n m e R Rc' l x .next (aeE p e (iV e)) (put σ d t (wm Rc' r)) := ⟨rfl, rfl, r, rfl, h⟩
theorem BK.cast {l l' : List (Int × RS)} {fl : Fl} {a : Loc} {τ : Sto} (h : l = l') (b : BK σ p d t n m e R Rc l x fl a τ) : BK σ p d t n m e R Rc l' x fl a τ := h ▸ b
theorem tile_ok {c : Int} {u : Nat} {q1 q2 q3 q4 q5 q6 : Pos} {KK : Bool → Sto → Prop} (ho : RO σ p d t) (L : Rc.tl.length = 34) (h0 : 0 ≤ e + c) (h1 : e + c < 34) (h : KK (gt Rc.tl (e + c) != 0) (put σ d t (wm Rc x))) :
  testE XW (callA XW (k + 2)) (N + 4) (dScope 3 3) (eTile c u q1 q2 q3 q4 q5 q6) (aeE p e (iV e)) (put σ d t (wm Rc x)) KK := by
 refine get_put ho (by rfl) ?_
 refine it_put ho L h0 h1 ?_
 exact h
variable (ho : RO σ p d t) (L : Rc.tl.length = 34) (h0 : 0 ≤ e)
include ho L h0
theorem two_ok {dd : Int} {a : Expr} {u1 u2 u3 u4 : Nat} {i1 i2 i3 i4 w1 w2 w3 w4 w5 w6 v1 v2 v3 v4 v5 v6 z1 z2 r1 r2 r3 r4 r5 s1 s2 s3 s4 x1 x2 x3 x4 x5 r1' r2' r3' r4' r5' s1' s2' s3' s4' s5' s6' s7' x1' x2' x3' x4' x5' : Pos}
  (hi : iV e < 7 → e + 2 < 27) (hr : Runs σ p d t k n m e R (twoO (iV e) e dd Rc))
  (hq1 : (r2.endLine == r3.line && (s2.endLine == s3.line && notStar a) && x2.endLine == x3.line) = true) (hq2 : (r2'.endLine == r3'.line && (s2'.endLine == s3'.line && true) && x2'.endLine == x3'.line) = true)
  (ea : ∀ (S : Sto) (KK : KE), KK (.int dd) S → evalE XW (callA XW (k + 2)) (N + 2) (dScope 3 3) a (aeE p e (iV e)) S KK) :
  execS XW (callA XW (k + 2)) (N + 6) (dScope 3 3) (.If (.BoolOp .And [eLt 7 u1 i1 i2 i3, eTile 2 u2 w1 w2 w3 w4 w5 w6] i4)
   [.If (eTile 1 u3 v1 v2 v3 v4 v5 v6) [sCall "_increase_syuntsu" (.Name "depth" r5) r1 r2 r3 r4, sCall "_run" a s1 s2 s3 s4, sCall "_decrease_syuntsu" (.Name "depth" x5) x1 x2 x3 x4] [] z1,
    sCall "_increase_tatsu_second" (.Name "depth" r5') r1' r2' r3' r4', sCall "_run" (.BinOp (.Name "depth" s5') .Add (.Constant (.int 1) u4 s6') s7') s1' s2' s3' s4', sCall "_decrease_tatsu_second" (.Name "depth" x5') x1' x2' x3' x4'] [] z2)
   (aeE p e (iV e)) (put σ d t (wm Rc x)) (BK σ p d t n m e R Rc (twoO (iV e) e dd Rc) x) := by
 refine wIf_decI ?_
 refine if_split (fun c1 => ?_) (fun c1 => ?_)
 ·have h2 := hi c1
  refine tile_ok (N := N) (q1 := w1) (q2 := w2) (q3 := w3) (q4 := w4) (q5 := w5) (q6 := w6) ho L (by lia) (by lia) ?_
  refine wIf_bneI ?_
  refine if_split (fun c2 => ?_) (fun c2 => ?_)
  ·have hl : twoO (iV e) e dd Rc = (if gt Rc.tl (e + 1) ≠ 0 then [(dd, incSyu e Rc)] else []) ++ [(e + 1, incT2 e Rc)] := if_pos ⟨c1, c2⟩
   rw [hl] at hr ⊢
   refine wIf_t ?_
   refine s_mn (n := n) (m := m) (R := R) (l := if gt Rc.tl (e + 1) ≠ 0 then [(dd, incSyu e Rc)] else []) ?_ fun r a1 => ?_
   ·refine tile_ok (N := N) (q1 := v1) (q2 := v2) (q3 := v3) (q4 := v4) (q5 := v5) (q6 := v6) ho L (by lia) (by lia) ?_
    refine wIf_bneI ?_
    refine if_split (fun c3 => ?_) (fun c3 => ?_)
    ·rw [if_pos c3] at hr ⊢
     refine via (N := N) ho (mv_Syu ho L h0 h2) (hr (dd, incSyu e Rc) (List.mem_cons_self ..) x) hq1 (fun KK h => ?_) fun r a => s_nil (bk_i (.one a))
     exact ea _ _ h
    ·rw [if_neg c3]
     exact s_nil (bk_i .nil)
   ·exact via (N := N + 1) ho (mv_T2 ho L h0 h2) (hr (e + 1, incT2 e Rc) (List.mem_append_right _ (List.mem_singleton.mpr rfl)) r) hq2 (fun _ h => h) fun r' a => s_nil (bk_i (a1.app (.one a)))
  ·rw [show twoO (iV e) e dd Rc = [] from if_neg fun c => c2 c.2]
   exact wIf_f (s_nil (bk_i .nil))
 ·rw [show twoO (iV e) e dd Rc = [] from if_neg fun c => c1 c.1]
  exact wIf_f (s_nil (bk_i .nil))
theorem if_ok {c1 c2 : Int} {R' : RS} {nI nD : Str} {u1 u2 u4 : Nat} {i1 i2 i3 i4 w1 w2 w3 w4 w5 w6 z2 r1' r2' r3' r4' r5' s1' s2' s3' s4' s5' s6' s7' x1' x2' x3' x4' x5' : Pos}
  (g1 : 0 ≤ e + c2) (g2 : e + c2 < 34) (mv : iV e < c1 → MV σ p d t k e Rc R' nI nD) (hr : Runs σ p d t k n m e R (if iV e < c1 ∧ gt Rc.tl (e + c2) ≠ 0 then [(e + 1, R')] else []))
  (hq2 : (r2'.endLine == r3'.line && (s2'.endLine == s3'.line && true) && x2'.endLine == x3'.line) = true) :
  execS XW (callA XW (k + 2)) (N + 6) (dScope 3 3) (.If (.BoolOp .And [eLt c1 u1 i1 i2 i3, eTile c2 u2 w1 w2 w3 w4 w5 w6] i4)
   [sCall nI (.Name "depth" r5') r1' r2' r3' r4', sCall "_run" (.BinOp (.Name "depth" s5') .Add (.Constant (.int 1) u4 s6') s7') s1' s2' s3' s4', sCall nD (.Name "depth" x5') x1' x2' x3' x4'] [] z2)
   (aeE p e (iV e)) (put σ d t (wm Rc x)) (BK σ p d t n m e R Rc (if iV e < c1 ∧ gt Rc.tl (e + c2) ≠ 0 then [(e + 1, R')] else []) x) := by
 refine wIf_decI ?_
 refine if_split (fun q1 => ?_) (fun q1 => ?_)
 ·refine tile_ok (N := N) (q1 := w1) (q2 := w2) (q3 := w3) (q4 := w4) (q5 := w5) (q6 := w6) ho L g1 g2 ?_
  refine wIf_bneI ?_
  refine if_split (fun q2 => ?_) (fun q2 => ?_)
  ·rw [if_pos ⟨q1, q2⟩] at hr ⊢
   refine wIf_t ?_
   exact via (N := N + 1) ho (mv q1) (hr (e + 1, R') (List.mem_singleton.mpr rfl) x) hq2 (fun _ h => h) fun r' a => s_nil (bk_i (.one a))
  ·rw [if_neg fun c => q2 c.2]
   exact wIf_f (s_nil (bk_i .nil))
 ·rw [if_neg fun c => q1 c.1]
  exact wIf_f (s_nil (bk_i .nil))
end
section
variable {σ : Sto} {p d t k n m : Nat} {e : Int} {R : RS} {x : Int}
variable (ho : RO σ p d t) (g : Good R) (fi : FiOk e R) (h0 : 0 ≤ e) (h1 : e < 27) (hi6 : iV e < 6 → e + 3 < 27) (hi7 : iV e < 7 → e + 2 < 27) (hi8 : iV e < 8 → e + 1 < 27)
theorem Runs.sub {l l' : List (Int × RS)} (h : ∀ q ∈ l', q ∈ l) (hr : Runs σ p d t k n m e R l) : Runs σ p d t k n m e R l' := fun q hq => hr q (h q hq)
theorem Runs.l {l l' : List (Int × RS)} (hr : Runs σ p d t k n m e R (l ++ l')) : Runs σ p d t k n m e R l := hr.sub fun _ h => List.mem_append_left _ h
theorem Runs.r {l l' : List (Int × RS)} (hr : Runs σ p d t k n m e R (l ++ l')) : Runs σ p d t k n m e R l' := hr.sub fun _ h => List.mem_append_right _ h
include ho g fi h0 h1
include hi7 in
omit fi in
theorem blk2_ok (hr : gt R.tl e = 2 → Runs σ p d t k n m e R (o2 (iV e) e R)) :
  execS XW (callA XW (k + 2)) 40 (dScope 3 3) (stR 8) (aeE p e (iV e)) (put σ d t (wm R x)) (BK σ p d t n m e R R (if gt R.tl e = 2 then o2 (iV e) e R else []) x) := by
 refine get_put ho (by rfl) ?_
 refine it_put ho g.len h0 (by lia) ?_
 refine wIf_beqI ?_
 refine if_split (fun hv => ?_) (fun hv => ?_)
 ·have hv : gt R.tl e = 2 := hv
  rw [if_pos hv]
  have hr := hr hv
  refine via (N := 35) ho (mv_Pair ho g.len h0 h1) (hr.l (e + 1, incPair e R) (List.mem_singleton.mpr rfl) x) rfl (fun _ h => h) fun r1 a1 => ?_
  have hr := hr.r
  refine s_cons ?_
  refine wIf_decI ?_
  refine if_split (fun c1 => ?_) (fun c1 => ?_)
  ·have h2 := hi7 c1
   refine get_put ho (by rfl) ?_
   refine it_put ho g.len (by lia) (by lia) ?_
   refine wIf_bneI ?_
   refine if_split (fun c2 => ?_) (fun c2 => ?_)
   ·refine get_put ho (by rfl) ?_
    refine it_put ho g.len (by lia) (by lia) ?_
    refine wIf_bneI ?_
    refine if_split (fun c3 => ?_) (fun c3 => ?_)
    ·have hl : (if iV e < 7 ∧ gt R.tl (e + 2) ≠ 0 ∧ gt R.tl (e + 1) ≠ 0 then [(e, incSyu e R)] else []) = [(e, incSyu e R)] := if_pos ⟨c1, c2, c3⟩
     refine wIf_t ?_
     rw [hl] at hr
     unfold o2
     rw [hl]
     exact via (N := 34) ho (mv_Syu ho g.len h0 h2) (hr (e, incSyu e R) (List.mem_singleton.mpr rfl) r1) rfl (fun _ h => h) fun r2 a2 => s_nil (s_nil (bk_i (.app (.one a1) (.one a2))))
    ·unfold o2
     rw [if_neg fun c => c3 c.2.2, List.append_nil]
     exact wIf_f (s_nil (s_nil (bk_i (.one a1))))
   ·unfold o2
    rw [if_neg fun c => c2 c.2.1, List.append_nil]
    exact wIf_f (s_nil (s_nil (bk_i (.one a1))))
  ·unfold o2
   rw [if_neg fun c => c1 c.1, List.append_nil]
   exact wIf_f (s_nil (s_nil (bk_i (.one a1))))
 ·have hv : ¬ gt R.tl e = 2 := hv
  rw [if_neg hv]
  exact s_nil (bk_i .nil)
end
end
set_option tactic.hygienic true
set_option tactic.hygienic false
section
theorem wAt_new {σ : Sto} {c : Cl} {K : Cl → Prop} (h : K c) : wAt σ.length (σ ++ [c]) K := wAt_i (by simp) h
theorem wLst_new {σ : Sto} {b : Bool} {xs : List AV} {K : Bool → List AV → Prop} (h : K b xs) : wLst σ.length (σ ++ [⟨b, .list xs⟩]) K := wLst_i (by simp) h
theorem old_app {σ τ : Sto} {k : Nat} {c : Cl} (e : σ[k]? = some c) : (σ ++ τ)[k]? = some c := by rw [List.getElem?_append_left (List.getElem?_eq_some_iff.mp e).1]; exact e
theorem set_app {σ τ : Sto} {L : Nat} {c : Cl} (h : σ.length ≤ L) : (σ ++ τ).set L c = σ ++ τ.set (L - σ.length) c := List.set_append_right _ _ h
theorem it_list {σ : Sto} {k : Nat} {b : Bool} {l : List Int} {j : Int} {K : AV → Prop} (e : σ[k]? = some ⟨b, .list (l.map AV.int)⟩) (hl : l.length = 34) (h0 : 0 ≤ j) (h1 : j < 34) (h : K (.int (gt l j))) : lItem (.ref k) (.int j) σ K :=
 lItem.mk <| wAt_i e (wIdx_i h0 (by lia -abstractProof) (by lia -abstractProof) h)
theorem it_any {σ : Sto} {k : Nat} {b : Bool} {l : List Int} {j : Int} {K : AV → Prop} (e : σ[k]? = some ⟨b, .list (l.map AV.int)⟩) (hl : l.length ≤ 100000) (h0 : 0 ≤ j) (h1 : j < l.length) (h : K (.int (gt l j))) : lItem (.ref k) (.int j) σ K :=
 lItem.mk <| wAt_i e (wIdx_i h0 h1 hl h)
theorem pa_list {σ : Sto} {j : Nat} {l : List Int} {k v : Int} {K : Sto → Prop} (e : σ[j]? = some ⟨true, .list (l.map AV.int)⟩) (h0 : 0 ≤ k) (h1 : k < l.length) (hl : l.length ≤ 100000) (h : K (σ.set j ⟨true, .list ((stl l k v).map AV.int)⟩)) :
  lPut (.ref j) (.int k) (.int v) σ K := lPut.mk <| by
 refine wAt_i e (wG_i ⟨h0, by simpa using h1, by simpa using hl⟩ ?_)
 unfold stl at h
 rw [List.map_set] at h
 exact h
theorem app_list {σ : Sto} {L : Nat} {xs : List AV} {v : AV} {K : KE} (e : σ[L]? = some ⟨true, .list xs⟩) (hl : xs.length ≤ 100000) (h : K .none (σ.set L ⟨true, .list (xs ++ [v])⟩)) : wAppend L v σ K := wLst_i e (wG_i hl h)
theorem res_list {σ : Sto} {L : Nat} {b : Bool} {xs : List AV} {Kf : Addr → List AV → Prop} {Kl : Nat → LM → Prop} (e : σ[L]? = some ⟨b, .list xs⟩) (h : Kl L .append) : lRes XW (.ref L) "append" σ Kf Kl := lRes.mk <| wAt_i e h
theorem res_con {C : Addr} {name : Str} {f : Addr} {σ : Sto} {Kf : Addr → List AV → Prop} {Kl : Nat → LM → Prop} (e : XW.stat C name = some f) (k : Kf f []) : lRes XW (.con (.ref C)) name σ Kf Kl := lRes.mk <| by
 show wO (XW.stat C name) _
 rw [e]; exact k
theorem numsA_int : ∀ (l : List Int), numsA (l.map AV.int) = some l
 | [] => rfl
 | a :: l => by show (numsA (l.map AV.int)).map (a :: ·) = _; rw [numsA_int l]; rfl
theorem numsA_bool : ∀ (l : List Bool), numsA (l.map AV.bool) = some (l.map b2iA)
 | [] => rfl
 | a :: l => by show (numsA (l.map AV.bool)).map (b2iA a :: ·) = _; rw [numsA_bool l]; rfl
theorem take_succ_sum {l : List Int} {j : Nat} (h : j < l.length) : (l.take (j + 1)).sum = (l.take j).sum + l.getD j 0 := by
 rw [List.take_succ, List.sum_append, List.getD_eq_getElem?_getD, List.getElem?_eq_getElem h]
 simp
theorem preSum_take {l : List Int} : ∀ {n : Nat}, n ≤ l.length → preSum (fun i => l.getD i 0) n = (l.take n).sum
 | 0, _ => by simp [preSum]
 | n + 1, h => by
  rw [take_succ_sum h, ← preSum_take (Nat.le_of_succ_le h)]; rfl
theorem sumA_eq (l : List Int) : sumA l = l.sum := by
 unfold sumA
 rw [preSum_take (Nat.le_refl _), List.take_length]
theorem wNums_i {l : List Int} {K : List Int → Prop} (h : K l) : wNums (l.map AV.int) K := by unfold wNums; exact ⟨l, numsA_int l, h⟩
theorem wNumsB_i {l : List Bool} {K : List Int → Prop} (h : K (l.map b2iA)) : wNums (l.map AV.bool) K := by unfold wNums; exact ⟨_, numsA_bool l, h⟩
theorem a_name {X : Ctx} {call : Addr → List AV → Sto → XE} {n : Nat} {sc : Scope} {x : Str} {p : _} {v : AV} {ae ae' : Loc} {σ : Sto} {K : Loc → Sto → Prop} (e : asgName sc x v ae = some ae') (h : K ae' σ) : asgA X call n sc (.Name x p) v ae σ K := by
 show wO (asgName sc x v ae) _
 rw [e]; exact h
noncomputable def ItIs (σ : Sto) : It → List AV → Prop
 | .list k i, vs => ∃ b xs, σ[k]? = some ⟨b, .list xs⟩ ∧ vs = xs.drop i
 | .rng x n st, vs => vs = rangeFrom x st n
 | .enum .., _ => False
noncomputable def itStep : It → It
 | .list k i => .list k (i + 1)
 | .rng x n st => .rng (x + st) (n - 1) st
 | it => it
theorem it_cons {σ : Sto} {it : It} {v : AV} {vs : List AV} (h : ItIs σ it (v :: vs)) : (∀ (D : Prop) (K : AV → It → Sto → Prop), K v (itStep it) σ → wNext it σ D K) ∧ ItIs σ (itStep it) vs := by
 cases it with
 | list k i =>
  obtain ⟨b, xs, e, hd⟩ := h
  have hx : xs[i]? = some v := by rw [← List.head?_drop, ← hd]; rfl
  refine ⟨fun D K q => ?_, b, xs, e, by rw [← List.tail_drop, ← hd]; rfl⟩
  refine wLst_i e ?_
  rw [hx]; exact q
 | rng x n st =>
  cases n with
  | zero => cases h
  | succ n =>
   have h : v :: vs = .int x :: rangeFrom (x + st) st n := h
   cases h
   exact ⟨fun _ _ q => q, rfl⟩
 | enum k i => exact h.elim
theorem it_nil {σ : Sto} {it : It} (h : ItIs σ it []) (D : Prop) (K : AV → It → Sto → Prop) (q : D) : wNext it σ D K := by
 cases it with
 | list k i =>
  obtain ⟨b, xs, e, hd⟩ := h
  have hx : xs[i]? = none := by rw [← List.head?_drop, ← hd]; rfl
  refine wLst_i e ?_
  rw [hx]; exact q
 | rng x n st =>
  cases n with
  | zero => exact q
  | succ n => cases h
 | enum k i => exact h.elim
theorem it_keep {σ τ : Sto} {it : It} {vs : List AV} (h : ItIs σ it vs) (hk : ∀ (k : Nat) (c : Cl), σ[k]? = some c → (match c.o with | .list _ => True | _ => False) → τ[k]? = some c) : ItIs τ it vs := by
 cases it with
 | list k i => obtain ⟨b, xs, e, hd⟩ := h; exact ⟨b, xs, hk _ _ e trivial, hd⟩
 | rng x n st => exact h
 | enum k i => exact h.elim
theorem it_app {σ τ : Sto} {it : It} {vs : List AV} (h : ItIs σ it vs) : ItIs (σ ++ τ) it vs :=
 it_keep h fun k c e _ => old_app e
section
variable {asg : AV → Loc → Sto → (Loc → Sto → Prop) → Prop} {body : Loc → Sto → XS} {K : KS}
theorem f_turn {N : Nat} {it it' : It} {v : AV} {ae : Loc} {σ σ1 : Sto} (e : ∀ (D : Prop) (K : AV → It → Sto → Prop), K v it' σ1 → wNext it σ D K) (I : Loc → Sto → Prop)
  (h : asg v ae σ1 fun ae σ => body ae σ fun fl ae σ => fl = .next ∧ I ae σ) (k : ∀ ae σ, I ae σ → forA asg body N it' ae σ K) : forA asg body (N + 1) it ae σ K :=
 e _ _ ⟨_, h, fun fl ae σ ⟨e, i⟩ => by subst e; exact k _ _ i⟩
theorem f_end {N : Nat} {it : It} {ae : Loc} {σ : Sto} (e : ∀ (D : Prop) (K : AV → It → Sto → Prop), D → wNext it σ D K) (h : K .next ae σ) : forA asg body (N + 1) it ae σ K := e _ _ h
theorem nx_enum {σ : Sto} {k i : Nat} {b : Bool} {xs : List AV} {x : AV} (e : σ[k]? = some ⟨b, .list xs⟩) (hx : xs[i]? = some x) (D : Prop) (K : AV → It → Sto → Prop) (q : K (.ref σ.length) (.enum k (i + 1)) (σ ++ [⟨true, .tuple [.int i, x]⟩])) : wNext (.enum k i) σ D K := by
 refine wLst_i e ?_
 rw [hx]; exact q
theorem nx_enum_end {σ : Sto} {k i : Nat} {b : Bool} {xs : List AV} (e : σ[k]? = some ⟨b, .list xs⟩) (hx : xs[i]? = none) (D : Prop) (K : AV → It → Sto → Prop) (q : D) : wNext (.enum k i) σ D K := by
 refine wLst_i e ?_
 rw [hx]; exact q
theorem for_rule {σ0 : Sto} (Inv : List AV → Loc → Sto → Prop) (hit : ∀ vs ae σ it, Inv vs ae σ → ItIs σ0 it vs → ItIs σ it vs)
  (step : ∀ v vs ae σ, Inv (v :: vs) ae σ → asg v ae σ fun ae σ => body ae σ fun fl ae σ => fl = .next ∧ Inv vs ae σ) (fin : ∀ ae σ, Inv [] ae σ → K .next ae σ) :
  ∀ (vs : List AV) (N : Nat) (it : It) (ae : Loc) (σ : Sto), vs.length < N → ItIs σ0 it vs → Inv vs ae σ → forA asg body N it ae σ K := by
 intro vs
 induction vs with
 | nil =>
  intro N it ae σ hN hi I
  obtain ⟨N, rfl⟩ : ∃ M, N = M + 1 := ⟨N - 1, by lia -abstractProof⟩
  exact f_end (fun D K => it_nil (hit _ _ _ _ I hi) D K) (fin _ _ I)
 | cons v vs ih =>
  intro N it ae σ hN hi I
  obtain ⟨N, rfl⟩ : ∃ M, N = M + 1 := ⟨N - 1, by simp at hN; lia -abstractProof⟩
  exact f_turn (it_cons (hit _ _ _ _ I hi)).1 (fun ae σ => Inv vs ae σ) (step v vs ae σ I) fun ae σ I2 => ih N _ ae σ (by simp at hN; lia -abstractProof) (it_cons hi).2 I2
end
theorem ex2 {α β : Type} {Q : α → β → Prop} {P : Prop} (h : ∃ x y, Q x y) (k : ∀ x y, Q x y → P) : P := let ⟨x, y, q⟩ := h; k x y q
theorem ex3 {α β γ : Type} {Q : α → β → γ → Prop} {P : Prop} (h : ∃ x y z, Q x y z) (k : ∀ x y z, Q x y z → P) : P := let ⟨x, y, z, q⟩ := h; k x y z q
theorem ex4 {α β γ δ : Type} {Q : α → β → γ → δ → Prop} {P : Prop} (h : ∃ x y z w, Q x y z w) (k : ∀ x y z w, Q x y z w → P) : P := let ⟨x, y, z, w, q⟩ := h; k x y z w q
theorem and4 {a b c d P : Prop} (h : a ∧ b ∧ c ∧ d) (k : a → b → c → d → P) : P := k h.1 h.2.1 h.2.2.1 h.2.2.2
theorem and5 {a b c d e P : Prop} (h : a ∧ b ∧ c ∧ d ∧ e) (k : a → b → c → d → e → P) : P := and4 h.2 (k h.1)
theorem and6 {a b c d e f P : Prop} (h : a ∧ b ∧ c ∧ d ∧ e ∧ f) (k : a → b → c → d → e → f → P) : P := and5 h.2 (k h.1)
theorem and7 {a b c d e f g P : Prop} (h : a ∧ b ∧ c ∧ d ∧ e ∧ f ∧ g) (k : a → b → c → d → e → f → g → P) : P := and6 h.2 (k h.1)
theorem and8 {a b c d e f g i P : Prop} (h : a ∧ b ∧ c ∧ d ∧ e ∧ f ∧ g ∧ i) (k : a → b → c → d → e → f → g → i → P) : P := and7 h.2 (k h.1)
section
variable {asg : AV → Loc → Sto → (Loc → Sto → Prop) → Prop} {body : Loc → Sto → XS} {K : KS}
theorem for_ints {σ0 : Sto} (Inv : List Int → Loc → Sto → Prop) (hit : ∀ vs ae σ it, Inv vs ae σ → ItIs σ0 it (vs.map AV.int) → ItIs σ it (vs.map AV.int))
  (step : ∀ v vs ae σ, Inv (v :: vs) ae σ → asg (.int v) ae σ fun ae σ => body ae σ fun fl ae σ => fl = .next ∧ Inv vs ae σ) (fin : ∀ ae σ, Inv [] ae σ → K .next ae σ) :
  ∀ (vs : List Int) (N : Nat) (it : It) (ae : Loc) (σ : Sto), vs.length < N → ItIs σ0 it (vs.map AV.int) → Inv vs ae σ → forA asg body N it ae σ K := by
 intro vs
 induction vs with
 | nil =>
  intro N it ae σ hN hi I
  obtain ⟨N, rfl⟩ : ∃ M, N = M + 1 := ⟨N - 1, by lia -abstractProof⟩
  exact f_end (fun D K => it_nil (hit _ _ _ _ I hi) D K) (fin _ _ I)
 | cons v vs ih =>
  intro N it ae σ hN hi I
  obtain ⟨N, rfl⟩ : ∃ M, N = M + 1 := ⟨N - 1, by simp at hN; lia -abstractProof⟩
  exact f_turn (it_cons (hit _ _ _ _ I hi)).1 (fun ae σ => Inv vs ae σ) (step v vs ae σ I) fun ae σ I2 => ih N _ ae σ (by simp at hN; lia -abstractProof) (it_cons hi).2 I2
theorem for_rngI (Inv : List Int → Loc → Sto → Prop)
  (step : ∀ v vs ae σ, Inv (v :: vs) ae σ → asg (.int v) ae σ fun ae σ => body ae σ fun fl ae σ => fl = .next ∧ Inv vs ae σ) (fin : ∀ ae σ, Inv [] ae σ → K .next ae σ) (vs : List Int) {c N : Nat} {x st : Int} {ae : Loc} {σ : Sto} (hN : vs.length < N) (e : vs.map AV.int = rangeFrom x st c) (I : Inv vs ae σ) :
  forA asg body N (.rng x c st) ae σ K :=
 for_ints (σ0 := []) (fun vs ae σ => Inv vs ae σ) (fun vs ae σ it _ h => it_keep h fun k c e _ => by cases e) step fin vs N _ ae σ hN e I
end
end
set_option tactic.hygienic true
section
section
variable {σ : Sto} {p d t k n m : Nat} {e : Int} {R : RS} {x : Int}
variable (ho : RO σ p d t) (g : Good R) (fi : FiOk e R) (h0 : 0 ≤ e) (h1 : e < 27)
include ho g fi h0 h1
theorem blk4_ok (hi7 : iV e < 7 → e + 2 < 27) (hi8 : iV e < 8 → e + 1 < 27) (hr : gt R.tl e = 4 → Runs σ p d t k n m e R (o4 (iV e) e R)) :
  execS XW (callA XW (k + 2)) 40 (dScope 3 3) (stR 6) (aeE p e (iV e)) (put σ d t (wm R x)) (BK σ p d t n m e R R (if gt R.tl e = 4 then o4 (iV e) e R else []) x) := by
 have L1 : (incSet e R).tl.length = 34 := len_incSet g.len
 have L2 : (incPair e R).tl.length = 34 := len_incPair g.len
 refine get_put ho (by rfl) ?_
 refine it_put ho g.len h0 (by lia) ?_
 refine wIf_beqI ?_
 refine if_split (fun hv => ?_) (fun hv => ?_)
 ·have hv : gt R.tl e = 4 := hv
  rw [if_pos hv]
  have hr := hr hv
  unfold o4 at hr ⊢
  refine inM (N := 35) ho (mv_Set ho g.len h0 h1) rfl ?_
  refine s_mn (two_ok (N := 33) ho L1 h0 hi7 hr.l.l.l.l rfl rfl (fun _ _ h => h)) fun r1 a1 => ?_
  refine s_mn (if_ok (N := 33) ho L1 h0 (by lia) (by lia) (fun c => mv_T1 ho L1 h0 (hi8 c)) hr.l.l.l.r rfl) fun r2 a2 => ?_
  refine via (N := 35) ho (mv_Iso ho L1 h0 (fi.of rfl) h1) (hr.l.l.r (e + 1, incIso e (incSet e R)) (List.mem_singleton.mpr rfl) r2) rfl (fun _ h => h) fun r3 a3 => ?_
  refine outM (N := 35) ho (mv_Set ho g.len h0 h1) rfl ?_
  refine inM (N := 35) ho (mv_Pair ho g.len h0 h1) rfl ?_
  refine s_mn (two_ok (N := 33) ho L2 h0 hi7 hr.l.r rfl rfl (fun _ _ h => h)) fun r4 a4 => ?_
  refine s_mn (if_ok (N := 33) ho L2 h0 (by lia) (by lia) (fun c => mv_T1 ho L2 h0 (hi8 c)) hr.r rfl) fun r5 a5 => ?_
  exact outM (N := 35) ho (mv_Pair ho g.len h0 h1) rfl (s_nil (bk_i ((((a1.app a2).app (.one a3)).app a4).app a5)))
 ·have hv : ¬ gt R.tl e = 4 := hv
  rw [if_neg hv]
  exact s_nil (bk_i .nil)
omit fi in
theorem blk3_ok (hi7 : iV e < 7 → e + 2 < 27) (hi8 : iV e < 8 → e + 1 < 27) (hr : gt R.tl e = 3 → Runs σ p d t k n m e R (o3 (iV e) e R)) :
  execS XW (callA XW (k + 2)) 40 (dScope 3 3) (stR 7) (aeE p e (iV e)) (put σ d t (wm R x)) (BK σ p d t n m e R R (if gt R.tl e = 3 then o3 (iV e) e R else []) x) := by
 have L2 : (incPair e R).tl.length = 34 := len_incPair g.len
 refine get_put ho (by rfl) ?_
 refine it_put ho g.len h0 (by lia) ?_
 refine wIf_beqI ?_
 refine if_split (fun hv => ?_) (fun hv => ?_)
 ·have hv : gt R.tl e = 3 := hv
  rw [if_pos hv]
  have hr := hr hv
  unfold o3 at hr ⊢
  refine via (N := 35) ho (mv_Set ho g.len h0 h1) (hr.l.l (e + 1, incSet e R) (List.mem_singleton.mpr rfl) x) rfl (fun _ h => h) fun r1 a1 => ?_
  refine inM (N := 35) ho (mv_Pair ho g.len h0 h1) rfl ?_
  have hm := hr.l.r
  refine s_mn (n := n) (m := m) (R := R) (l := if iV e < 7 ∧ gt (incPair e R).tl (e + 1) ≠ 0 ∧ gt (incPair e R).tl (e + 2) ≠ 0 then [(e + 1, incSyu e (incPair e R))] else t2O (iV e) e (incPair e R) ++ oneO (iV e) e (incPair e R)) ?_ fun r2 a2 => ?_
  ·have els : ¬ (iV e < 7 ∧ gt (incPair e R).tl (e + 1) ≠ 0 ∧ gt (incPair e R).tl (e + 2) ≠ 0) → seqA (execS XW (callA XW (k + 2)) 38 (dScope 3 3)) (elseS ((forBody (stR 7)).getD 4 (.Pass pos0))) (aeE p e (iV e)) (put σ d t (wm (incPair e R) r1)) (BK σ p d t n m e R (incPair e R) (if iV e < 7 ∧ gt (incPair e R).tl (e + 1) ≠ 0 ∧ gt (incPair e R).tl (e + 2) ≠ 0 then [(e + 1, incSyu e (incPair e R))] else t2O (iV e) e (incPair e R) ++ oneO (iV e) e (incPair e R)) r1) := fun c => by
    rw [if_neg c] at hm ⊢
    refine s_mn (if_ok (N := 32) ho L2 h0 (by lia) (by lia) (fun c => mv_T2 ho L2 h0 (hi7 c)) hm.l rfl) fun r2 a2 => ?_
    exact s_mn (if_ok (N := 32) ho L2 h0 (by lia) (by lia) (fun c => mv_T1 ho L2 h0 (hi8 c)) hm.r rfl) fun r3 a3 => s_nil (bk_i (a2.app a3))
   refine wIf_decI ?_
   refine if_split (fun c1 => ?_) (fun c1 => ?_)
   ·have h2 := hi7 c1
    refine get_put ho (by rfl) ?_
    refine it_put ho L2 (by lia) (by lia) ?_
    refine wIf_bneI ?_
    refine if_split (fun c2 => ?_) (fun c2 => ?_)
    ·refine get_put ho (by rfl) ?_
     refine it_put ho L2 (by lia) (by lia) ?_
     refine wIf_bneI ?_
     refine if_split (fun c3 => ?_) (fun c3 => ?_)
     ·rw [if_pos ⟨c1, c2, c3⟩] at hm ⊢
      exact wIf_t (via (N := 34) ho (mv_Syu ho L2 h0 h2) (hm (e + 1, incSyu e (incPair e R)) (List.mem_singleton.mpr rfl) r1) rfl (fun _ h => h) fun r2 a2 => s_nil (bk_i (.one a2)))
     ·exact wIf_f (els fun c => c3 c.2.2)
    ·exact wIf_f (els fun c => c2 c.2.1)
   ·exact wIf_f (els fun c => c1 c.1)
  ·refine outM (N := 35) ho (mv_Pair ho g.len h0 h1) rfl ?_
   have hm := hr.r
   have a12 := (ML.one a1).app a2
   refine s_mn (n := n) (m := m) (R := R) (l := if iV e < 7 ∧ gt R.tl (e + 2) ≥ 2 ∧ gt R.tl (e + 1) ≥ 2 then [(e, incSyu e (incSyu e R))] else []) ?_ fun r3 a3 => s_nil (bk_i (a12.app a3))
   refine wIf_decI ?_
   refine if_split (fun c1 => ?_) (fun c1 => ?_)
   ·have h2 := hi7 c1
    refine get_put ho (by rfl) ?_
    refine it_put ho g.len (by lia) (by lia) ?_
    refine wIf_decI ?_
    refine if_split (fun c2 => ?_) (fun c2 => ?_)
    ·refine get_put ho (by rfl) ?_
     refine it_put ho g.len (by lia) (by lia) ?_
     refine wIf_decI ?_
     refine if_split (fun c3 => ?_) (fun c3 => ?_)
     ·rw [if_pos (c := iV e < 7 ∧ gt R.tl (e + 2) ≥ 2 ∧ gt R.tl (e + 1) ≥ 2) ⟨c1, c2, c3⟩] at hm ⊢
      have L3 := len_incSyu (k := e) g.len
      refine wIf_t ?_
      refine inM (N := 34) ho (mv_Syu ho g.len h0 h2) rfl ?_
      refine inM (N := 34) ho (mv_Syu ho L3 h0 h2) rfl ?_
      refine runM (N := 34) ho (hm (e, incSyu e (incSyu e R)) (List.mem_singleton.mpr rfl) r2) rfl (fun _ h => h) fun r3 a3 => ?_
      refine outM (N := 34) ho (mv_Syu ho L3 h0 h2) rfl ?_
      exact outM (N := 34) ho (mv_Syu ho g.len h0 h2) rfl (s_nil (bk_i (.one a3)))
     ·rw [if_neg (c := iV e < 7 ∧ gt R.tl (e + 2) ≥ 2 ∧ gt R.tl (e + 1) ≥ 2) fun c => c3 c.2.2]
      exact wIf_f (s_nil (bk_i .nil))
    ·rw [if_neg (c := iV e < 7 ∧ gt R.tl (e + 2) ≥ 2 ∧ gt R.tl (e + 1) ≥ 2) fun c => c2 c.2.1]
     exact wIf_f (s_nil (bk_i .nil))
   ·rw [if_neg (c := iV e < 7 ∧ gt R.tl (e + 2) ≥ 2 ∧ gt R.tl (e + 1) ≥ 2) fun c => c1 c.1]
    exact wIf_f (s_nil (bk_i .nil))
 ·have hv : ¬ gt R.tl e = 3 := hv
  rw [if_neg hv]
  exact s_nil (bk_i .nil)
theorem blk1_ok (hi6 : iV e < 6 → e + 3 < 27) (hi7 : iV e < 7 → e + 2 < 27) (hi8 : iV e < 8 → e + 1 < 27) (hr : gt R.tl e = 1 → Runs σ p d t k n m e R (o1 (iV e) e R)) :
  execS XW (callA XW (k + 2)) 40 (dScope 3 3) (stR 9) (aeE p e (iV e)) (put σ d t (wm R x)) (BK σ p d t n m e R R (if gt R.tl e = 1 then o1 (iV e) e R else []) x) := by
 refine get_put ho (by rfl) ?_
 refine it_put ho g.len h0 (by lia) ?_
 refine wIf_beqI ?_
 refine if_split (fun hv => ?_) (fun hv => ?_)
 ·have hv : gt R.tl e = 1 := hv
  rw [if_pos hv]
  have hr := hr hv
  unfold o1 at hr ⊢
  have els : ¬ (iV e < 6 ∧ gt R.tl (e + 1) = 1 ∧ gt R.tl (e + 2) ≠ 0 ∧ gt R.tl (e + 3) ≠ 4) → seqA (execS XW (callA XW (k + 2)) 38 (dScope 3 3)) (elseS ((forBody (stR 9)).getD 0 (.Pass pos0))) (aeE p e (iV e)) (put σ d t (wm R x)) (BK σ p d t n m e R R (if iV e < 6 ∧ gt R.tl (e + 1) = 1 ∧ gt R.tl (e + 2) ≠ 0 ∧ gt R.tl (e + 3) ≠ 4 then [(e + 2, incSyu e R)] else [(e + 1, incIso e R)] ++ twoO (iV e) e (e + 1) R ++ oneO (iV e) e R) x) := fun c => by
   rw [if_neg c] at hr ⊢
   refine via (N := 34) ho (mv_Iso ho g.len h0 fi h1) (hr.l.l (e + 1, incIso e R) (List.mem_singleton.mpr rfl) x) rfl (fun _ h => h) fun r1 a1 => ?_
   refine s_mn (two_ok (N := 32) ho g.len h0 hi7 hr.l.r rfl rfl (fun _ _ h => h)) fun r2 a2 => ?_
   exact s_mn (if_ok (N := 32) ho g.len h0 (by lia) (by lia) (fun c => mv_T1 ho g.len h0 (hi8 c)) hr.r rfl) fun r3 a3 => s_nil (bk_i (((ML.one a1).app a2).app a3))
  refine s_mn (n := n) (m := m) (R := R) (l := if iV e < 6 ∧ gt R.tl (e + 1) = 1 ∧ gt R.tl (e + 2) ≠ 0 ∧ gt R.tl (e + 3) ≠ 4 then [(e + 2, incSyu e R)] else [(e + 1, incIso e R)] ++ twoO (iV e) e (e + 1) R ++ oneO (iV e) e R) ?_ fun r a => s_nil (bk_i a)
  refine wIf_decI ?_
  refine if_split (fun c1 => ?_) (fun c1 => ?_)
  ·have h3 := hi6 c1
   refine get_put ho (by rfl) ?_
   refine it_put ho g.len (by lia) (by lia) ?_
   refine wIf_beqI ?_
   refine if_split (fun c2 => ?_) (fun c2 => ?_)
   ·refine get_put ho (by rfl) ?_
    refine it_put ho g.len (by lia) (by lia) ?_
    refine wIf_bneI ?_
    refine if_split (fun c3 => ?_) (fun c3 => ?_)
    ·refine get_put ho (by rfl) ?_
     refine it_put ho g.len (by lia) (by lia) ?_
     refine wIf_bneI ?_
     refine if_split (fun c4 => ?_) (fun c4 => ?_)
     ·rw [if_pos ⟨c1, c2, c3, c4⟩] at hr ⊢
      exact wIf_t (via (N := 34) ho (mv_Syu ho g.len h0 (by lia)) (hr (e + 2, incSyu e R) (List.mem_singleton.mpr rfl) x) rfl (fun _ h => h) fun r2 a2 => s_nil (bk_i (.one a2)))
     ·exact wIf_f (els fun c => c4 c.2.2.2)
    ·exact wIf_f (els fun c => c3 c.2.2.1)
   ·exact wIf_f (els fun c => c2 c.2.1)
  ·exact wIf_f (els fun c => c1 c.1)
 ·have hv : ¬ gt R.tl e = 1 := hv
  rw [if_neg hv]
  exact s_nil (bk_i .nil)
end
end
set_option tactic.hygienic false
section
noncomputable abbrev aeD (p : Nat) (dd : Int) : Loc := [("self", .ref p), ("depth", .int dd)]
noncomputable def RunOk (σ : Sto) (p d t k : Nat) : Prop := ∀ (n m : Nat) (dd : Int) (R : RS) (x : Int) (KK : KE), n ≤ 9 → dd + n + 9 * (m : Int) = 27 → 0 ≤ dd → Good R → FN R → FiOk dd R → (27 - dd) + s27 R.tl ≤ (k : Int) - 1 → (∀ r, Mn (HO n m dd R) R.jd x r → KK .none (put σ d t (wm R r))) → callA XW (k + 2) 112 [.ref p, .int dd] (put σ d t (wm R x)) KK
section
variable {σ : Sto} {p d t k : Nat} {R : RS} {x : Int}
theorem while_of {test : Loc → Sto → (Bool → Sto → Prop) → Prop} {body : Loc → Sto → XS} {n : Nat} {ae : Loc} {σ : Sto} {K : KS} (h : test ae σ fun c σ => wIf c (∃ K0, body ae σ K0 ∧ ∀ fl ae σ, K0 fl ae σ → match fl with
   | .next => whileA test body n ae σ K
   | .cont => whileA test body n ae σ K
   | .brk => K .next ae σ
   | .ret v => K (.ret v) ae σ) (K .next ae σ)) : whileA test body (n + 1) ae σ K := h
theorem runs_of {n m : Nat} {e : Int} (ih : RunOk σ p d t k) (g : Good R) (f : FN R) (fi : FiOk e R) (he : e + n + 1 + 9 * (m : Int) = 27) (h0 : 0 ≤ e) (hn : n ≤ 8) (hfu : (27 - e) + s27 R.tl ≤ (k : Int)) : Runs σ p d t k n m e R (opts e R) := fun q hq x KK h => lCall.mk <| by
 obtain ⟨⟨s, w, w1, w2, w3⟩, wf⟩ := w_opts (E := e + n + 1) g f h0 (by lia -abstractProof) rfl rfl ((se_of he h0 hn).iv rfl (by lia -abstractProof)) q hq
 have ws := w.s
 refine ih (n + 1 + e - q.1).toNat m q.1 q.2 x KK (by lia -abstractProof) (by lia -abstractProof) (by lia -abstractProof) w.good w.fn (wf fi) (by lia -abstractProof) fun r hr => h r ?_
 rw [w.jd] at hr
 unfold HO at hr
 rw [tailS_lk w m (by lia -abstractProof) (by lia -abstractProof)] at hr
 exact hr
noncomputable def At (P : O → Prop) (R : RS) (dd : Int) : Prop := (27 ≤ dd ∧ ∀ b, P b ↔ b = sumO R) ∨ ∃ n m : Nat, dd + n + 1 + 9 * (m : Int) = 27 ∧ n ≤ 8 ∧ ∀ b, P b ↔ HO (n + 1) m dd R b
theorem at_of {P : O → Prop} {dd : Int} : ∀ {n m : Nat}, n ≤ 9 → dd + n + 9 * (m : Int) = 27 → (∀ b, P b ↔ HO n m dd R b) → At P R dd
 | n + 1, m, h9, h, hp => .inr ⟨n, m, by lia -abstractProof, by lia -abstractProof, hp⟩
 | 0, 0, _, h, hp => .inl ⟨by lia -abstractProof, fun b => (hp b).trans (ho_end b)⟩
 | 0, m + 1, _, h, hp => .inr ⟨8, m, by lia -abstractProof, by decide, fun b => by
  obtain rfl : dd = 18 - 9 * (m : Int) := by lia -abstractProof
  exact (hp b).trans (ho_next b)⟩
theorem loop_nz {P : O → Prop} {call : Addr → List AV → Sto → XE} {K : KS} {tst : Expr} {b : List Stmt}
  (ht : ∀ dd : Int, 0 ≤ dd → dd ≤ 27 → ∀ K' : Bool → Sto → Prop, K' (!(gt R.tl dd != 0)) (put σ d t (wm R x)) → testE XW call 39 (dScope 3 3) tst (aeD p dd) (put σ d t (wm R x)) K')
  (hb : ∀ dd : Int, seqA (execS XW call 39 (dScope 3 3)) b (aeD p dd) (put σ d t (wm R x)) fun fl ae τ => fl = (if dd + 1 ≥ 27 then Fl.brk else Fl.next) ∧ ae = aeD p (dd + 1) ∧ τ = put σ d t (wm R x)) :
  ∀ (N : Nat) (dd : Int), 0 ≤ dd → dd ≤ 27 → 28 - dd < N → At P R dd → (∀ e, dd ≤ e → At P R e → (e < 27 → gt R.tl e ≠ 0) → K .next (aeD p e) (put σ d t (wm R x))) →
   whileA (testE XW call 39 (dScope 3 3) tst) (seqA (execS XW call 39 (dScope 3 3)) b) N (aeD p dd) (put σ d t (wm R x)) K := by
 intro N
 induction N with
 | zero => intro dd h0 h1 h2; lia -abstractProof
 | succ N ih =>
  intro dd h0 h1 h2 hA hq
  refine while_of (ht dd h0 h1 _ ?_)
  refine wIf_i (fun c => ?_) (fun c => ?_)
  ·have hz : gt R.tl dd = 0 := by simpa using c
   have hA1 : At P R (dd + 1) := by
    rcases hA with ⟨a, hp⟩ | ⟨n, m, a1, a2, hp⟩
    ·exact .inl ⟨by lia -abstractProof, hp⟩
    ·exact at_of (n := n) (m := m) (by lia -abstractProof) (by lia -abstractProof) fun b => (hp b).trans (ho_zero hz b)
   clear hA ht c
   refine ⟨_, hb dd, fun fl ae τ ⟨e1, e2, e3⟩ => ?_⟩
   subst e2 e3
   by_cases h27 : dd + 1 ≥ 27
   ·rw [if_pos h27] at e1
    subst e1
    exact hq _ (by lia -abstractProof) hA1 fun h => by lia -abstractProof
   ·rw [if_neg h27] at e1
    subst e1
    exact ih (dd + 1) (by lia -abstractProof) (by lia -abstractProof) (by lia -abstractProof) hA1 fun e he => hq e (by lia -abstractProof)
  ·exact hq dd (Int.le_refl _) hA fun _ => by simpa using c
theorem opts_app {α : Type} {a b d f : List α} (c : Int) : (if c = 4 then a else if c = 3 then b else if c = 2 then d else if c = 1 then f else []) = (if c = 4 then a else []) ++ ((if c = 3 then b else []) ++ ((if c = 2 then d else []) ++ if c = 1 then f else [])) := by
 by_cases c4 : c = 4
 ·subst c4; exact (List.append_nil a).symm
 rw [if_neg c4, if_neg c4]
 by_cases c3 : c = 3
 ·subst c3; exact (List.append_nil b).symm
 rw [if_neg c3, if_neg c3]
 by_cases c2 : c = 2
 ·subst c2; exact (List.append_nil d).symm
 rw [if_neg c2, if_neg c2]
 rfl
end
set_option maxHeartbeats 8000000 in
theorem run_ok {σ : Sto} {p d t : Nat} (ho : RO σ p d t) : ∀ k, RunOk σ p d t k := by
 intro k
 induction k with
 | zero =>
  intro n m dd R x KK _ _ h0 g _ _ hfu
  have := s27_nonneg g.len g.nn
  lia -abstractProof
 | succ k ih =>
  intro n0 m0 dd R x KK hn hd h0 g f fi hfu hq
  have hA : At (HO n0 m0 dd R) R dd := at_of hn hd fun _ => .rfl
  generalize HO n0 m0 dd R = P at hA hq
  have h1 : dd ≤ 27 := by lia -abstractProof
  clear hn hd
  refine call_of (fn := fnAt 3 3 []) (ae := aeD p dd) (by rfl) ?_
  refine s_cons ?_
  refine get_put ho (by rfl) ?_
  refine get_con (by rfl) ?_
  refine wIf_beqI ?_
  refine if_split (fun hm => ?_) (fun hm => ?_)
  ·with_reducible refine s_cons ?_
   exact hq _ (Mn.low hm)
  clear hm
  with_reducible refine s_nil ?_
  with_reducible refine s_cons ?_
  refine lockW.mk ?_
  refine loop_nz (P := P) (fun dd h0 h1 K' hk => ?_) (fun dd => ?_) 1000 dd h0 h1 (by lia -abstractProof) hA ?_
  ·refine get_put ho (by rfl) ?_
   refine it_put ho g.len h0 (by lia -abstractProof) ?_
   exact hk
  ·with_reducible refine s_cons ?_
   refine s_cons ?_
   refine wIf_decI ?_
   refine if_split (fun q => ?_) (fun q => ?_)
   ·rw [if_pos q]
    with_reducible refine s_cons ?_
    exact ⟨rfl, rfl, rfl⟩
   ·rw [if_neg q]
    with_reducible refine s_nil ?_
    with_reducible refine s_nil ?_
    exact ⟨rfl, rfl, rfl⟩
  intro e hde hA hz
  have fi := fi.up hde
  have h0 : 0 ≤ e := Int.le_trans h0 hde
  have hfu : (27 - e) + s27 R.tl ≤ (k : Int) := by lia -abstractProof
  clear hde h1
  with_reducible refine s_cons ?_
  refine wIf_decI ?_
  refine if_split (fun h27 => ?_) (fun h27 => ?_)
  ·have hp : ∀ b, P b ↔ b = sumO R := hA.elim (fun h => h.2) fun ⟨n, m, a, _⟩ => by lia -abstractProof
   have g1 := g.m0
   have g2 := g.bd
   have g3 := s27_nonneg g.len g.nn
   with_reducible refine s_cons ?_
   refine res_put ho (by rfl) ?_
   refine c127 ho (show -1000 ≤ R.m by lia -abstractProof) (show R.m ≤ 1000 by lia -abstractProof) ?_
   have := hq _ (Mn.one hp)
   rw [← retV_O f] at this
   exact this
  have he : e < 27 := by lia -abstractProof
  have hz := hz he
  obtain ⟨n, m, en, hn, hp⟩ : ∃ n m : Nat, e + n + 1 + 9 * (m : Int) = 27 ∧ n ≤ 8 ∧ ∀ b, P b ↔ HO (n + 1) m e R b := hA.resolve_left fun h => h27 h.1
  have hq : ∀ r, ML n m e R (opts e R) x r → KK .none (put σ d t (wm R r)) := fun r a => hq r ((a.opts g f en h0 hn hz).congr fun b => (hp b).symm)
  have runs := runs_of ih g f fi en h0 hn hfu
  clear hA hp hz h27 ih hfu en hn
  with_reducible refine s_nil ?_
  refine s_join (aeE p e e) (put σ d t (wm R x)) ⟨rfl, rfl, rfl⟩ ?_
  refine s_join (aeE p e (if e > 8 then e - 9 else e)) (put σ d t (wm R x)) ?_ ?_
  ·refine wIf_decI ?_
   refine if_split (fun q => ?_) (fun q => ?_)
   ·rw [if_pos q]
    with_reducible refine s_cons ?_
    exact ⟨rfl, rfl, rfl⟩
   ·rw [if_neg q]
    with_reducible refine s_nil ?_
    exact ⟨rfl, rfl, rfl⟩
  refine s_join (aeE p e (iV e)) (put σ d t (wm R x)) ?_ ?_
  ·refine wIf_decI ?_
   unfold iV
   dsimp only
   refine if_split (fun q => ?_) (fun q => ?_)
   ·rw [if_pos q]
    with_reducible refine s_cons ?_
    exact ⟨rfl, rfl, rfl⟩
   ·rw [if_neg q]
    with_reducible refine s_nil ?_
    exact ⟨rfl, rfl, rfl⟩
  obtain ⟨-, -, i8, i7, i6⟩ := iV_bd h0 he
  unfold opts at runs hq
  rw [opts_app] at runs hq
  refine s_mn (blk4_ok (n := n) (m := m) ho g fi h0 he i7 i8 fun c => ?_) fun r1 a1 => ?_
  ·have := runs.l; rwa [if_pos c] at this
  refine s_mn (blk3_ok (n := n) (m := m) ho g h0 he i7 i8 fun c => ?_) fun r2 a2 => ?_
  ·have := runs.r.l; rwa [if_pos c] at this
  refine s_mn (blk2_ok (n := n) (m := m) ho g h0 he i7 fun c => ?_) fun r3 a3 => ?_
  ·have := runs.r.r.l; rwa [if_pos c] at this
  refine s_mn (blk1_ok (n := n) (m := m) ho g fi h0 he i6 i7 i8 fun c => ?_) fun r4 a4 => ?_
  ·have := runs.r.r.r; rwa [if_pos c] at this
  with_reducible refine s_cons ?_
  exact hq r4 (a1.app (a2.app (a3.app a4)))
theorem c120 {σ : Sto} {p d t k n m : Nat} {dd : Int} {R : RS} {K : KE} (ih : RunOk σ p d t k) (hn : n ≤ 9) (hd : dd + n + 9 * (m : Int) = 27) (h0 : 0 ≤ dd) (g : Good R) (f : FN R) (fi : FiOk dd R) (fu : (27 - dd) + s27 R.tl ≤ (k : Int) - 1) (hq : ∀ r, Mn (HO n m dd R) R.jd R.mn r → K .none (put σ d t (wm R r))) :
  lCall (callA XW (k + 2)) 112 [.ref p, .int dd] (put σ d t R) K := lCall.mk (ih n m dd R R.mn K hn hd h0 g f fi fu hq)
end
set_option tactic.hygienic true
section
theorem put_app {σ τ : Sto} {p d t : Nat} {R : RS} (h : RO σ p d t) : put σ d t R ++ τ = put (σ ++ τ) d t R := by
 unfold put
 rw [← List.set_append_left _ _ (by simpa using h.ht), ← List.set_append_left _ _ h.hd]
theorem RO.app {σ : Sto} {p d t : Nat} (h : RO σ p d t) (τ : Sto) : RO (σ ++ τ) p d t := by
 obtain ⟨b, e⟩ := h.hp
 exact ⟨⟨b, old_app e⟩, by have := h.hd; simp; lia, by have := h.ht; simp; lia, h.pd, h.pt, h.dt⟩
theorem put_len {σ : Sto} {d t : Nat} {R : RS} : (put σ d t R).length = σ.length := by unfold put; simp
theorem put_old {σ : Sto} {d t k : Nat} {R : RS} (hd : k ≠ d) (ht : k ≠ t) : (put σ d t R)[k]? = σ[k]? := by
 unfold put
 rw [List.getElem?_set_ne (Ne.symm ht), List.getElem?_set_ne (Ne.symm hd)]
theorem ite_len {c : Prop} [Decidable c] {A B : RS} (h : A.tl.length = 34) (h' : B.tl.length = 34) : (if c then A else B).tl.length = 34 := by split <;> assumption
noncomputable def h4 (i : Int) (R : RS) : RS := if gt R.tl i = 4 then { R with m := R.m + 1, jd := R.jd + 1 } else R
noncomputable def h4f (i j : Int) (R : RS) (f : Int) : Int := if gt R.tl i = 4 then Builtin.bitOr f (1 * 2 ^ j.toNat) else f
noncomputable def h3 (i : Int) (R : RS) : RS := if gt R.tl i = 3 then { R with m := R.m + 1 } else R
noncomputable def h2 (i : Int) (R : RS) : RS := if gt R.tl i = 2 then { R with pr := R.pr + 1 } else R
noncomputable def h1f (i j : Int) (R : RS) (f : Int) : Int := if gt R.tl i = 1 then Builtin.bitOr f (1 * 2 ^ j.toNat) else f
noncomputable def hoR (i : Int) (R : RS) : RS := h2 i (h3 i (h4 i R))
noncomputable def hoI (i j : Int) (R : RS) (s : Int) : Int := h1f i j (hoR i R) (h4f i j R s)
noncomputable abbrev aeH (p : Nat) (nc : Int) (z : Bool) (f s : Int) (ix : Nat) (x : Loc) : Loc := ("self", .ref p) :: ("nc", .int nc) :: ("is_three_player", .bool z) :: ("four_copies", .int f) :: ("isolated", .int s) :: ("indices", .ref ix) :: x
noncomputable def stH (j : Nat) : Stmt := (dBody 3 17).getD j (.Pass pos0)
noncomputable abbrev aeHx (p : Nat) (nc : Int) (z : Bool) (f s : Int) (ix : Nat) (j i : Int) : Loc := aeH p nc z f s ix [("flag_pos", .int j), ("i", .int i)]
section
variable {σ : Sto} {p d t n ix : Nat} {R : RS} {nc f s i j : Int} {z : Bool} {call : Addr → List AV → Sto → XE}
set_option maxHeartbeats 8000000 in
theorem body_H (h : RO σ p d t) (hl : R.tl.length = 34) (h0 : 0 ≤ j) (h1 : j < 9) (i0 : 0 ≤ i) (i1 : i < 34) : seqA (execS XW call 39 (dScope 3 17)) (forBody (stH 4)) (aeHx p nc z f s ix j i) (put σ d t R)
  fun fl a τ => fl = .next ∧ a = aeHx p nc z (h4f i j R f) (hoI i j R s) ix j i ∧ τ = put σ d t (hoR i R) := by
 have l4 : (h4 i R).tl.length = 34 := ite_len hl hl
 have l3 : (h3 i (h4 i R)).tl.length = 34 := ite_len l4 l4
 have l2 : (hoR i R).tl.length = 34 := ite_len l3 l3
 refine s_join (aeHx p nc z (h4f i j R f) (h4f i j R s) ix j i) (put σ d t (h4 i R)) ?_ ?_
 ·unfold h4f h4
  refine get_put ‹_› (by rfl) ?_
  refine it_put ‹_› (by first | assumption | repeat' first | assumption | apply len_stl) (by first | decide | lia) (by first | decide | lia) ?_
  refine wIf_beqI ?_
  refine if_split (fun q => ?_) (fun q => ?_)
  ·rw [if_pos q, if_pos q, if_pos q]
   with_reducible refine s_cons ?_
   refine get_put ‹_› (by rfl) ?_
   refine set_m ‹_› ?_
   with_reducible refine s_cons ?_
   refine get_put ‹_› (by rfl) ?_
   refine set_jd ‹_› ?_
   with_reducible refine s_cons ?_
   refine wG_sh (by first | decide | lia) ?_
   refine s_cons ?_
   refine wG_sh (by first | decide | lia) ?_
   exact ⟨rfl, rfl, rfl⟩
  ·rw [if_neg q, if_neg q, if_neg q]
   with_reducible refine s_nil ?_
   exact ⟨rfl, rfl, rfl⟩
 refine s_join (aeHx p nc z (h4f i j R f) (h4f i j R s) ix j i) (put σ d t (h3 i (h4 i R))) ?_ ?_
 ·generalize h4 i R = R at *
  unfold h3
  refine get_put ‹_› (by rfl) ?_
  refine it_put ‹_› (by first | assumption | repeat' first | assumption | apply len_stl) (by first | decide | lia) (by first | decide | lia) ?_
  refine wIf_beqI ?_
  refine if_split (fun q => ?_) (fun q => ?_)
  ·rw [if_pos q]
   with_reducible refine s_cons ?_
   refine get_put ‹_› (by rfl) ?_
   refine set_m ‹_› ?_
   with_reducible refine s_nil ?_
   exact ⟨rfl, rfl, rfl⟩
  ·rw [if_neg q]
   with_reducible refine s_nil ?_
   exact ⟨rfl, rfl, rfl⟩
 refine s_join (aeHx p nc z (h4f i j R f) (h4f i j R s) ix j i) (put σ d t (hoR i R)) ?_ ?_
 ·unfold hoR
  generalize h3 i (h4 i R) = R at *
  unfold h2
  refine get_put ‹_› (by rfl) ?_
  refine it_put ‹_› (by first | assumption | repeat' first | assumption | apply len_stl) (by first | decide | lia) (by first | decide | lia) ?_
  refine wIf_beqI ?_
  refine if_split (fun q => ?_) (fun q => ?_)
  ·rw [if_pos q]
   with_reducible refine s_cons ?_
   refine get_put ‹_› (by rfl) ?_
   refine set_pr ‹_› ?_
   with_reducible refine s_nil ?_
   exact ⟨rfl, rfl, rfl⟩
  ·rw [if_neg q]
   with_reducible refine s_nil ?_
   exact ⟨rfl, rfl, rfl⟩
 refine s_join (aeHx p nc z (h4f i j R f) (hoI i j R s) ix j i) (put σ d t (hoR i R)) ?_ ?_
 ·unfold hoI
  generalize hoR i R = R' at *
  unfold h1f
  refine get_put ‹_› (by rfl) ?_
  refine it_put ‹_› (by first | assumption | repeat' first | assumption | apply len_stl) (by first | decide | lia) (by first | decide | lia) ?_
  refine wIf_beqI ?_
  refine if_split (fun q => ?_) (fun q => ?_)
  ·rw [if_pos q]
   with_reducible refine s_cons ?_
   refine wG_sh (by first | decide | lia) ?_
   exact ⟨rfl, rfl, rfl⟩
  ·rw [if_neg q]
   with_reducible refine s_nil ?_
   exact ⟨rfl, rfl, rfl⟩
 exact s_nil ⟨rfl, rfl, rfl⟩
end
noncomputable def foldH : List Int → Nat → RS → Int → Int → RS × Int × Int
 | [], _, R, f, s => (R, f, s)
 | i :: l, j, R, f, s => foldH l (j + 1) (hoR i R) (h4f i j R f) (hoI i j R s)
theorem hoR_len {i : Int} {R : RS} (h : R.tl.length = 34) : (hoR i R).tl.length = 34 := by
 have h4' : (h4 i R).tl.length = 34 := ite_len h h
 have h3' : (h3 i (h4 i R)).tl.length = 34 := ite_len h4' h4'
 exact ite_len h3' h3'
theorem foldH_len : ∀ (l : List Int) (j : Nat) (R : RS) (f s : Int), R.tl.length = 34 → (foldH l j R f s).1.tl.length = 34
 | [], _, _, _, _, hl => hl
 | _ :: l, _, _, _, _, hl => foldH_len l _ _ _ _ (hoR_len hl)
theorem unpack_i {σ : Sto} {k : Nat} {b : Bool} {xs : List AV} {n : Nat} {K : List AV → Prop} (e : σ[k]? = some ⟨b, .tuple xs⟩) (hn : xs.length = n) (h : K xs) : wUnpack (.ref k) n σ K := wAt_i e (wG_i hn h)
theorem a_tup {X : Ctx} {call : Addr → List AV → Sto → XE} {n : Nat} {sc : Scope} {ts : List Expr} {c : _} {p : _} {ae ae' : Loc} {σ : Sto} {xs : List Str} {vs : List AV} {b : Bool} {k : Nat} {K : Loc → Sto → Prop} (e1 : namesA ts = some xs) (e : σ[k]? = some ⟨b, .tuple vs⟩) (hn : vs.length = xs.length)
  (e2 : asgNames sc xs vs ae = some ae') (h : K ae' σ) : asgA X call n sc (.Tuple ts c p) (.ref k) ae σ K := by
 show wO (namesA ts) _
 rw [e1]
 show wUnpack (.ref k) xs.length σ (fun vs => wO (asgNames sc xs vs ae) fun ae => K ae σ)
 refine unpack_i e hn ?_
 rw [e2]
 exact h
section
variable {p d t n ix : Nat} {nc : Int} {z : Bool} {call : Addr → List AV → Sto → XE} {K : KS}
theorem loop_H : ∀ (l : List Int) (j N : Nat) (σ : Sto) (R : RS) (f s : Int) (x : Loc) (b : Bool) (xs : List AV), (∀ i ∈ l, 0 ≤ i ∧ i < 34) → xs.drop j = l.map AV.int → j + l.length ≤ 9 → l.length < N → RO σ p d t → R.tl.length = 34 → σ[ix]? = some ⟨b, .list xs⟩ → ix ≠ d → ix ≠ t → (x = [] ∨ ∃ a c, x = ([("flag_pos", a), ("i", c)] : Loc)) →
  (∀ τ x', K .next (aeH p nc z (foldH l j R f s).2.1 (foldH l j R f s).2.2 ix x') (put (σ ++ τ) d t (foldH l j R f s).1)) →
  forA (asgA XW call 39 (dScope 3 17) (forTgt (stH 4))) (seqA (execS XW call 39 (dScope 3 17)) (forBody (stH 4))) N (.enum ix j) (aeH p nc z f s ix x) (put σ d t R) K := by
 intro l
 induction l with
 | nil =>
  intro j N σ R f s x b xs hm hx0 hj hN h hl hi hd ht hx hq
  obtain ⟨N, rfl⟩ : ∃ M, N = M + 1 := ⟨N - 1, by simp at hN; lia⟩
  refine f_end (nx_enum_end (b := b) (xs := xs) (by rw [put_old hd ht]; exact hi) (by rw [← List.head?_drop, hx0]; rfl)) ?_
  have := hq [] x
  rw [List.append_nil] at this
  exact this
 | cons i l ih =>
  intro j N σ R f s x b xs hm hx0 hj hN h hl hi hd ht hx hq
  simp only [List.length_cons] at hj hN
  obtain ⟨N, rfl⟩ : ∃ M, N = M + 1 := ⟨N - 1, by lia⟩
  have h' := h.app [⟨true, .tuple [.int j, .int i]⟩]
  have e1 : xs[j]? = some (.int i) := by rw [← List.head?_drop, hx0]; rfl
  obtain ⟨i0, i1⟩ := hm i (List.mem_cons_self ..)
  refine f_turn (nx_enum (b := b) (xs := xs) (by rw [put_old hd ht]; exact hi) e1) (fun a τ => a = aeHx p nc z (h4f i j R f) (hoI i j R s) ix j i ∧ τ = put (σ ++ [⟨true, .tuple [.int j, .int i]⟩]) d t (hoR i R)) ?_ ?_
  ·refine a_tup (xs := ["flag_pos", "i"]) (ae' := aeHx p nc z f s ix j i) (b := true) (vs := [.int j, .int i]) (by rfl) (by simp) rfl (by rcases hx with rfl | ⟨a, c, rfl⟩ <;> rfl) ?_
   rw [put_app h]
   exact body_H h' hl (by lia) (by lia) i0 i1
  ·rintro _ _ ⟨rfl, rfl⟩
   refine ih (j + 1) N _ (hoR i R) _ _ _ b xs (fun x hx => hm x (List.mem_cons_of_mem _ hx)) (by rw [← List.tail_drop, hx0]; rfl) (by lia) (by lia) h' (hoR_len hl) (old_app hi) hd ht (.inr ⟨_, _, rfl⟩) fun τ x' => ?_
   have := hq ([⟨true, .tuple [.int j, .int i]⟩] ++ τ) x'
   rw [← List.append_assoc] at this
   exact this
end
noncomputable def ixs (z : Bool) : List Int := [27, 28, 29, 30, 31, 32, 33] ++ if z then [0, 8] else []
noncomputable def remR (z : Bool) (nc : Int) (R : RS) : RS :=
 let x := foldH (ixs z) 0 R 0 0
 let R1 := if x.1.jd ≠ 0 ∧ nc.fmod 3 = 2 then { x.1 with jd := x.1.jd - 1 } else x.1
 let R2 := if x.2.2 ≠ 0 then { R1 with fi := Builtin.bitOr R1.fi (1 * 2 ^ (27 : Int).toNat) } else R1
 if x.2.2 ≠ 0 ∧ Builtin.bitOr x.2.1 x.2.2 = x.2.1 then { R2 with fc := Builtin.bitOr R2.fc (1 * 2 ^ (27 : Int).toNat) } else R2
end
theorem res_lm {σ : Sto} {L : Nat} {b : Bool} {xs : List AV} {name : Str} {m : LM} {Kf : Addr → List AV → Prop} {Kl : Nat → LM → Prop} (e : σ[L]? = some ⟨b, .list xs⟩) (em : listMeth name = some m) (h : Kl L m) : lRes XW (.ref L) name σ Kf Kl := lRes.mk <| by
 refine wAt_i e ?_
 show wO (listMeth name) _
 rw [em]; exact h
theorem lint_i {σ : Sto} {k : Nat} {b : Bool} {x : Int} {ns : List Int} {K : Int → Bool → List Int → Prop} (e : σ[k]? = some ⟨b, .list (ns.map AV.int)⟩) (hl : ns.length ≤ 100000) (h : K x b ns) : wLInt (.int x) k σ K :=
 wLst_i e (wG_i (by simpa using hl) (wInts_i h))
theorem wSorted_i {ns : List Int} {K : List Int → Prop} (h : ∀ ms : List Int, ms.Perm ns → ms.Pairwise (· ≤ ·) → K ms) : wSorted ns K := by unfold wSorted; exact h
theorem sl_i {σ : Sto} {k : Nat} {b : Bool} {xs : List AV} {lo hi : AV} {K : KE} (e : σ[k]? = some ⟨b, .list xs⟩) (l h : Nat) (hl : xs.length ≤ 100000) (e1 : boundA xs.length lo 0 = some l) (e2 : boundA xs.length hi xs.length = some h)
  (q : K (.ref σ.length) (σ ++ [⟨true, .list ((xs.drop l).take (h - l))⟩])) : lSlice (.ref k) lo hi σ K := lSlice.mk <| wLst_i e (wG_i hl <| by rw [e1]; show wO (boundA xs.length hi xs.length) _; rw [e2]; exact q)
theorem put_set {σ : Sto} {d t k : Nat} {R : RS} {c : Cl} (hd : k ≠ d) (ht : k ≠ t) : (put σ d t R).set k c = put (σ.set k c) d t R := by
 unfold put
 rw [List.set_comm _ _ (Ne.symm ht), List.set_comm _ _ (Ne.symm hd)]
theorem RO.set {σ : Sto} {p d t k : Nat} {c : Cl} (h : RO σ p d t) (hp : k ≠ p) : RO (σ.set k c) p d t := by
 obtain ⟨b, e⟩ := h.hp
 exact ⟨⟨b, by rw [List.getElem?_set_ne hp]; exact e⟩, by simpa using h.hd, by simpa using h.ht, h.pd, h.pt, h.dt⟩
theorem s_mid {f : Stmt → Loc → Sto → XS} {s : Stmt} {r : List Stmt} {ae : Loc} {σ : Sto} {K : KS} (I : Loc → Sto → Prop) (h : f s ae σ fun fl a τ => fl = .next ∧ I a τ) (k : ∀ a τ, I a τ → seqA f r a τ K) : seqA f (s :: r) ae σ K :=
 ⟨_, h, fun fl a τ ⟨e, i⟩ => by subst e; exact k a τ i⟩
theorem wIf_b {c : Bool} {p q : Prop} (h : if c = true then p else q) : wIf c p q := wIf_i (fun x => by rwa [if_pos x] at h) (fun x => by rwa [if_neg (by rw [x]; decide)] at h)
theorem mid_get {σ γ : Sto} {c : Cl} : (σ ++ (c :: γ))[σ.length]? = some c := by rw [List.getElem?_append_right (Nat.le_refl _), Nat.sub_self]; rfl
theorem mid_set {σ γ : Sto} {c c' : Cl} : (σ ++ (c :: γ)).set σ.length c' = σ ++ (c' :: γ) := by rw [List.set_append_right _ _ (Nat.le_refl _), Nat.sub_self]; rfl
theorem comp_rule {X : Ctx} {call : Addr → List AV → Sto → XE} {n : Nat} {scope : Scope} {elt iter : Expr} {ifs : List Expr} {x : Str} {p : Pos} {σ : Sto} {it : It} {vs : List AV} {ae0 : Loc} {aeX : AV → Loc} {t : AV → Bool} {g : AV → AV} {K : Loc → Sto → Prop}
  (hi : ItIs σ it vs) (hN : vs.length < X.N) (hx : scope.names.lookup x = some .local) (hp0 : ∀ v, putField x v ae0 = aeX v) (hp1 : ∀ u v, putField x v (aeX u) = aeX v) (hl : vs.length ≤ 1000)
  (ht : ∀ v ∈ vs, ∀ acc γ K, K (t v) (σ ++ (⟨true, .list acc⟩ :: γ)) → allA (testE X call n scope) .And ifs (aeX v) (σ ++ (⟨true, .list acc⟩ :: γ)) K)
  (he : ∀ v ∈ vs, t v = true → ∀ acc γ K, (∀ γ', K (g v) (σ ++ (⟨true, .list acc⟩ :: γ'))) → evalE X call n scope elt (aeX v) (σ ++ (⟨true, .list acc⟩ :: γ)) K)
  (hq : ∀ ae γ, K ae (σ ++ (⟨true, .list ((vs.filter t).map g)⟩ :: γ))) :
  lockG (gensA X call (n + 1) scope elt σ.length [⟨.Name x p, iter, ifs, 0⟩] it ae0 (σ ++ [⟨true, .list []⟩]) K) := by
 refine lockG.mk ?_
 have main : ∀ (vs' : List AV) (N : Nat) (it : It) (ae : Loc) (acc : List AV) (γ : Sto), (∀ v ∈ vs', v ∈ vs) → vs'.length < N → acc.length + vs'.length ≤ 1000 → ItIs σ it vs' → (ae = ae0 ∨ ∃ u, ae = aeX u) →
   (∀ ae γ, K ae (σ ++ (⟨true, .list (acc ++ (vs'.filter t).map g)⟩ :: γ))) →
   wLoop (turnG scope x (allA (testE X call n scope) .And ifs) fun ae σ' K => evalE X call n scope elt ae σ' fun u σ' => wAppend σ.length u σ' fun _ σ' => K ae σ') N it ae (σ ++ (⟨true, .list acc⟩ :: γ)) K := by
  intro vs'
  induction vs' with
  | nil =>
   intro N it ae acc γ hm hN ha hi hae hq
   obtain ⟨N, rfl⟩ : ∃ M, N = M + 1 := ⟨N - 1, by lia -abstractProof⟩
   refine it_nil (it_app hi) _ _ ?_
   have := hq ae γ
   simpa using this
  | cons v vs' ih =>
   intro N it ae acc γ hm hN ha hi hae hq
   obtain ⟨N, rfl⟩ : ∃ M, N = M + 1 := ⟨N - 1, by simp at hN; lia -abstractProof⟩
   have hpv : putField x v ae = aeX v := by rcases hae with rfl | ⟨u, rfl⟩ <;> first | exact hp0 v | exact hp1 u v
   have hv := hm v (List.mem_cons_self ..)
   refine (it_cons (it_app hi)).1 _ _ ?_
   refine ⟨fun a τ => a = aeX v ∧ ∃ γ', τ = σ ++ (⟨true, .list (acc ++ if t v = true then [g v] else [])⟩ :: γ'), ?_, ?_⟩
   ·unfold turnG
    rw [hx, hpv]
    show allA _ _ _ _ _ _
    refine ht v hv acc γ _ ?_
    refine wIf_i (fun c => ?_) (fun c => ?_)
    ·refine he v hv c acc γ _ fun γ' => ?_
     refine app_list mid_get (by simp at ha; lia -abstractProof) ?_
     rw [mid_set, if_pos c]
     exact ⟨rfl, γ', rfl⟩
    ·rw [c]
     exact ⟨rfl, γ, by simp⟩
   ·rintro a τ ⟨rfl, γ', rfl⟩
    refine ih N (itStep it) (aeX v) _ γ' (fun w hw => hm w (List.mem_cons_of_mem _ hw)) (by simp at hN; lia -abstractProof) (by simp at ha ⊢; split <;> simp <;> lia -abstractProof) (it_cons hi).2 (.inr ⟨v, rfl⟩) fun ae γ => ?_
    have := hq ae γ
    rw [List.append_assoc]
    rw [List.filter_cons] at this
    split
    ·rename_i c; rw [if_pos c] at this; exact this
    ·rename_i c; rw [if_neg c] at this; exact this
 exact main vs X.N it ae0 [] [] (fun _ h => h) hN (by simp; exact hl) hi (.inl rfl) hq
theorem wLst_mid {σ γ : Sto} {b : Bool} {xs : List AV} {K : Bool → List AV → Prop} (h : K b xs) : wLst σ.length (σ ++ (⟨b, .list xs⟩ :: γ)) K := wLst_i mid_get h
theorem range34 : rangeFrom 0 1 34 = (List.range 34).map fun i : Nat => AV.int (i : Int) := by rfl
theorem s_midr {f : Stmt → Loc → Sto → XS} {s : Stmt} {r : List Stmt} {ae : Loc} {σ : Sto} {K : KS} (I : Loc → Sto → Prop) (h : f s ae σ fun fl a τ => match fl with
  | .next => I a τ
  | .ret v => K (.ret v) a τ
  | _ => False) (k : ∀ a τ, I a τ → seqA f r a τ K) : seqA f (s :: r) ae σ K :=
 ⟨_, h, fun fl a τ i => by
  cases fl with
  | next => exact k a τ i
  | ret v => exact i
  | _ => exact i.elim⟩
section
set_option maxHeartbeats 0
noncomputable def qW : Program := { pw with main := { pw.main with body := bodyW.drop 14 } }
noncomputable def looseN : List Str := ["_wall", "Shanten", "_RegularShanten", "Agari", "_law_lone", "_law_times", "_law_add", "_law_hand", "_law_splits", "_law_counts", "_law_moved"]
noncomputable abbrev XtW : Shared → Bool := fun _ => true
noncomputable def asW (w : World) : List Nat := (KW w.params).map (·.1)
noncomputable def lookW (w : World) (s : Shared) :=
 (staticsOk (importedModules pw.main.body) (boot_heap w.params) s.heap && namesBound pw s.heap && gensDone s && laidKept (boot_heap w.params) s.heap,
  openSeen qW looseN (importedModules pw.main.body) XtW true s, (asW w).map s.heap.get?)
noncomputable def goodW (w : World) := (true, openGood qW looseN, (KW w.params).map (fun p => some p.2))
theorem runAll (w : World) (os : OsState) : (topRun treeTable pw w 11 annW 4000 ⟨boot_heap w.params, ⟨[]⟩, boot_drawn, boot_toks, os⟩ (topStub pw)).map (lookW w) = some (goodW w) := by kernel_rfl
end
noncomputable def asL : List Nat := [2, 3, 60, 66, 67, 69, 72, 73, 74, 75, 90, 91, 97, 98, 104, 105, 111, 112, 118, 119, 125, 126, 132, 133, 139, 140, 146, 147, 153, 154, 160, 161, 167, 168, 174, 175, 181, 182, 188, 189, 195, 196, 202, 203, 209, 210, 212, 213, 214, 215, 225, 229, 230, 232, 239, 240, 242, 249, 250, 252, 259, 260, 262, 265, 266, 267, 268, 271, 277, 278, 284, 285, 289, 290, 296, 297, 303, 304, 310, 311, 315, 316]
theorem asW_eq (w : World) : asW w = asL := by kernel_rfl
noncomputable def YfW (s : Shared) : List (Option Obj) := asL.map s.heap.get?
noncomputable def YW (w : World) : List (Option Obj) := (KW w.params).map (fun p => some p.2)
theorem topEnds (w : World) : (openEnds treeTable pw w 4000).map (fun s => (openSeen qW looseN (importedModules pw.main.body) XtW true s, YfW s)) = some (openGood qW looseN, YW w) := by
 have hf : ∀ s, fenceModules? pw s = some s := fun s => by kernel_rfl
 obtain ⟨⟨h, gs, d, k, os⟩, e, e'⟩ := Option.map_eq_some_iff.mp (boot_open (p := pw) (N := 4000) (by kernel_rfl) (by kernel_rfl) hf w)
 obtain ⟨rfl, rfl, rfl, rfl⟩ : h = boot_heap w.params ∧ gs = ⟨[]⟩ ∧ d = boot_drawn ∧ k = boot_toks := by simpa using e'
 obtain ⟨r, hr, hl⟩ := Option.map_eq_some_iff.mp (runAll w os)
 obtain ⟨l1, l2, l3⟩ : _ ∧ _ ∧ _ := by simpa only [lookW, goodW, Prod.mk.injEq] using hl
 have t : topFrom treeTable pw w 4000 ⟨boot_heap w.params, ⟨[]⟩, boot_drawn, boot_toks, os⟩ = some r := by
  unfold topFrom
  have z : ((boot_heap w.params).isNs mainGlobals && (#[] : Array GenState).size == 0, (boot_heap w.params).objs.size, (boot_heap w.params).nsMap mainGlobals "__annotations__") = (true, 11, annW) := by kernel_rfl
  obtain ⟨z1, z2, z3⟩ : _ ∧ _ ∧ _ := by simpa only [Prod.mk.injEq] using z
  dsimp only
  rw [show ((boot_heap w.params).isNs mainGlobals && (⟨[]⟩ : Array GenState).size == 0) = true from z1, z2, z3]
  dsimp only
  rw [hr]
  simp only [Option.bind_some]
  rw [l1]
 unfold openEnds
 rw [e]
 show (topFrom treeTable pw w 4000 _).map _ = _
 rw [t]
 rw [asW_eq] at l3
 exact congrArg some (Prod.ext l2 l3)
theorem leftW : LeftO pw qW looseN XtW YfW YW 4000 := topEnds
noncomputable def YPW (w : World) (h : Heap) : Prop := (KW w.params).In h
theorem ypW (w : World) (s : Shared) (e : YfW s = YW w) : YPW w s.heap := Frag.in_of (as := asL) (asW_eq w).symm e
theorem ypW_keeps (w : World) (h h' : Heap) (y : YPW w h) (k : ∀ b o, h.get? b = some o → h'.get? b = some o) : YPW w h' := y.keeps k
section
open PySem.Spec
noncomputable def recLaw : DefRec := ⟨"law", dArgs 14 1000, dBody 14 1000, dScope 14 1000, ⟨457, 0, 480, 61⟩⟩
noncomputable def loneI : List Int := [0, 8, 27, 28, 29, 30, 31, 32, 33]
theorem vrs_inj {ρ : Rho} : ∀ {vs : List Value} {a b : List Int}, VRs ρ (a.map .int) vs → VRs ρ (b.map .int) vs → a = b
 | [], [], [], _, _ => rfl
 | v :: vs, x :: a, y :: b, h, g => by
  obtain ⟨t, rfl⟩ := h.1
  obtain ⟨u, e⟩ := g.1
  cases e
  rw [vrs_inj h.2 g.2]
 | [], _ :: _, _, h, _ => h.elim
 | [], [], _ :: _, _, g => g.elim
 | _ :: _, [], _, h, _ => h.elim
 | _ :: _, _ :: _, [], _, g => g.elim
theorem loneAt (P : Params) {B : Heap} (X : (KW P).In B) (ρ : Rho) : ∃ vs n, B.get? 271 = some { cls := .type "list", data := .seq vs n } ∧ VRs ρ (loneI.map .int) vs.toList :=
 ⟨_, _, X 271 (k271 P) (by kernel_rfl), ⟨⟨_, rfl⟩, ⟨_, rfl⟩, ⟨_, rfl⟩, ⟨_, rfl⟩, ⟨_, rfl⟩, ⟨_, rfl⟩, ⟨_, rfl⟩, ⟨_, rfl⟩, ⟨_, rfl⟩, trivial⟩⟩
theorem hr_base {B : Heap} {ρ : Rho} {σ : Sto} (hl : ρ.length = σ.length) (nd : ρ.Nodup) (h : ∀ (k : Nat) (c : Cl) (a : Addr), σ[k]? = some c → ρ[k]? = some a → c.wr = false ∧ OR ρ B a c.o) : HR B [] ρ σ B :=
 ⟨fun _ _ e => e, fun p hp => (by cases hp), fun p hp => (by cases hp), List.nodup_nil, hl, nd, fun k c a e e' => (h k c a e e').2, fun k c a e e' hw => (by rw [(h k c a e e').1] at hw; cases hw), fun _ _ p hp => (by cases hp)⟩
theorem storeAt (P : Params) {B : Heap} (X : (KW P).In B) {l : Addr} {vs : List Value} {sc : List Int} (hlist : B.get? l = some { cls := .type "list", data := .seq vs.toArray }) (hI : IntsAre vs sc) :
  ∃ (ρ : Rho) (σ : Sto) (k : Nat), HR B [] ρ σ B ∧ [271] <+: ρ ∧ ρ[k]? = some l ∧ σ[0]? = some ⟨false, .list (loneI.map .int)⟩ ∧ σ[k]? = some ⟨false, .list (sc.map .int)⟩ := by
 obtain ⟨us, n, g, r⟩ := loneAt P X [271]
 by_cases e : l = 271
 ·subst e
  rw [g] at hlist
  cases hlist
  have : loneI = sc := vrs_inj r (by simpa using vrs_ints (ρ := [271]) hI)
  subst this
  refine ⟨[271], [⟨false, .list (loneI.map .int)⟩], 0, hr_base rfl (by simp) fun k c a e1 e2 => ?_, ⟨[], rfl⟩, rfl, rfl, rfl⟩
  match k with
  | 0 => cases e1; cases e2; exact ⟨rfl, _, _, g, r⟩
  | k + 1 => cases e1
 ·obtain ⟨us, n, g, r⟩ := loneAt P X [271, l]
  refine ⟨[271, l], [⟨false, .list (loneI.map .int)⟩, ⟨false, .list (sc.map .int)⟩], 1, hr_base rfl (by simpa using fun q : (271 : Nat) = l => e q.symm) fun k c a e1 e2 => ?_, ⟨[l], rfl⟩, rfl, rfl, rfl⟩
  match k with
  | 0 => cases e1; cases e2; exact ⟨rfl, _, _, g, r⟩
  | 1 => cases e1; cases e2; exact ⟨rfl, vs.toArray, 0, hlist, by simpa using vrs_ints hI⟩
  | k + 2 => cases e1
theorem walkW (hp : ∀ (σ : Sto) (k : Nat) (sc : List Int), σ[0]? = some ⟨false, .list (loneI.map .int)⟩ → σ[k]? = some ⟨false, .list (sc.map .int)⟩ → sc.length ≤ 63 → callA XW 59 316 [.ref k] σ fun v _ => v = .bool true) :
  WalkO qW looseN (fun _ _ => True) YPW PySem.Challenge.rw_im0120_11.row.toRowW recLaw [] fun f vs => PySem.call f vs := by
 intro w s₀ s₁ mg mb G Y fa o pm cd doc dV kV ho hd hcd hD hmg hg args vals as hpre hlay hrd hwl hlo
 w_on
 wrow_args hpre hlay hrd hwl hlo
 rename_i sc hs hl0 hL1 hr1 hl2 as1 as2 l vs as3 hL ra w1 r0 hI hr hc1 hc2
 have X : (KW w.params).In s₁.heap := Y
 have hfa : fa = 316 := by
  obtain ⟨o', es', ep', g1, g2, _, g4⟩ := G.T.g
  have g5 : s₁.heap.get? 3 = some (k3 w.params) := X _ _ (by kernel_rfl)
  rw [show mainGlobals = 3 from rfl, g5] at g1
  cases g1
  have := g4 "law"
  rw [show mg "law" = some (.ref fa) from hmg] at this
  have e2 : es' = k3es w.params := by
   have q : (k3 w.params).data = .dict (k3es w.params) ep' := by rw [g2]; exact congrArg (Data.dict · ep') (by have := g2; unfold k3es; cases hk : k3 w.params with | mk c d dt sl => rw [hk] at g2; dsimp only at g2; subst g2; rfl)
   rw [g2] at q
   exact (Data.dict.inj q).1
  rw [e2, show nsFind (k3es w.params) "law" = some (.ref 316) from by kernel_rfl] at this
  cases this; rfl
 subst hfa
 have w2 : Well w.params s₁.heap (.ref l) (.list (ofPys (sc.map .int))) := w1
 have hlist : s₁.heap.get? l = some { cls := .type "list", data := .seq vs.toArray } := by
  cases w2 with
  | list g1 g2 =>
   obtain ⟨o', q1, q2, n, q3⟩ := hL
   rw [g1] at q1
   cases q1
   cases q3
   exact g1
 obtain ⟨ρ, σ, k, H, hpre, hk, h0, h1⟩ := storeAt w.params X hlist hI
 have hc := hp σ k sc h0 h1 (by lia -abstractProof)
 obtain ⟨_, ok⟩ := callA_ok (prog := PySem.Challenge.rw_im0120_11.row.prog) (w := w) (B := s₁.heap) (xok w.params X) G.T.nolimit (fnsOk w.params X) 59 hc
 refine enter_call ?_
 have gl : GlobOk s₁.heap ρ XW := (globOk w.params X G.T.g G.T.b G.T.builtins).mono hpre
 refine ok (F := []) (ρ := ρ) ⟨rfl, by decide, by decide⟩ H gl ⟨⟨l, hk, rfl⟩, trivial⟩ fun ρ' v rv σ' s' k1 hv k => ?_
 subst k
 have hv : rv = .bool true := hv
 subst hv
 refine GoodW.toG ⟨.inl ⟨_, .bool true, [], rfl, fun _ => rfl, .bool true, ?_, fun _ => ⟨List.nodup_nil, fun a ha => (by cases ha)⟩⟩, k1.H.base, k1.same.os, by rw [k1.same.gens]; exact hg⟩
 wrow_post
end
section
theorem fl_list {asg : AV → Loc → Sto → (Loc → Sto → Prop) → Prop} {body : Loc → Sto → XS} {K : KS} {k : Nat} {xs : List AV} (Inv : List AV → Loc → Sto → Prop) (hk : ∀ vs ae σ, Inv vs ae σ → ∃ b, σ[k]? = some ⟨b, .list xs⟩)
  (step : ∀ v vs ae σ, Inv (v :: vs) ae σ → asg v ae σ fun ae σ => body ae σ fun fl ae σ => match fl with
   | .next => Inv vs ae σ
   | .ret r => K (.ret r) ae σ
   | _ => False) (fin : ∀ ae σ, Inv [] ae σ → K .next ae σ) : ∀ (m i N : Nat) (ae : Loc) (σ : Sto), xs.length = i + m → m < N → Inv (xs.drop i) ae σ → forA asg body N (.list k i) ae σ K := by
 intro m
 induction m with
 | zero =>
  intro i N ae σ hl hN I
  obtain ⟨N, rfl⟩ : ∃ M, N = M + 1 := ⟨N - 1, by lia⟩
  obtain ⟨b, e⟩ := hk _ _ _ I
  have hd : xs.drop i = [] := List.drop_of_length_le (by lia)
  rw [hd] at I
  refine f_end (fun D K q => ?_) (fin ae σ I)
  refine wLst_i e ?_
  rw [List.getElem?_eq_none (by lia)]
  exact q
 | succ m ih =>
  intro i N ae σ hl hN I
  obtain ⟨N, rfl⟩ : ∃ M, N = M + 1 := ⟨N - 1, by lia⟩
  obtain ⟨b, e⟩ := hk _ _ _ I
  have hi : i < xs.length := by lia
  rw [List.drop_eq_getElem_cons hi] at I
  have h1 : ∀ (D : Prop) (K : AV → It → Sto → Prop), K xs[i] (.list k (i + 1)) σ → wNext (.list k i) σ D K := fun D K q => by
   refine wLst_i e ?_
   rw [List.getElem?_eq_getElem hi]
   exact q
  refine h1 _ _ ⟨_, step _ _ _ _ I, fun fl ae σ k => ?_⟩
  cases fl with
  | next => exact ih (i + 1) N ae σ (by lia) (by lia) k
  | ret r => exact k
  | _ => exact k.elim
theorem fl_cell {α : Type} {asg : AV → Loc → Sto → (Loc → Sto → Prop) → Prop} {body : Loc → Sto → XS} {K : KS} {σ0 : Sto} {k N : Nat} {b : Bool} {xs : List Int} {ae0 : Loc} {aeV : α → AV → Loc} (enc : α → Cl) (P : α → Nat → Prop) (g : α → Int → α) (s0 : α) (h0 : P s0 0) (hN : xs.length < N)
  (hx : ∀ s, (σ0 ++ [enc s] : Sto)[k]? = some ⟨b, .list (xs.map AV.int)⟩)
  (step : ∀ s y i ae, P s i → i < xs.length → y ∈ xs → ((s = s0 ∧ ae = ae0) ∨ ∃ v, ae = aeV s v) → ∀ KK : KS, (P (g s y) (i + 1) → KK .next (aeV (g s y) (.int y)) (σ0 ++ [enc (g s y)])) → asg (.int y) ae (σ0 ++ [enc s]) fun ae σ => body ae σ KK)
  (fin : ∀ ae, ((xs = [] ∧ ae = ae0) ∨ ∃ v, ae = aeV (xs.foldl g s0) v) → K .next ae (σ0 ++ [enc (xs.foldl g s0)])) : forA asg body N (.list k 0) ae0 (σ0 ++ [enc s0]) K := by
 refine fl_list (xs := xs.map AV.int) (fun vs ae τ => ∃ done l : List Int, xs = done ++ l ∧ vs = l.map AV.int ∧ P (done.foldl g s0) done.length ∧ ((done = [] ∧ ae = ae0) ∨ ∃ v, ae = aeV (done.foldl g s0) v) ∧ τ = σ0 ++ [enc (done.foldl g s0)]) ?_ ?_ ?_ xs.length 0 N _ _ (by rw [List.length_map, Nat.zero_add]) hN ⟨[], xs, rfl, rfl, h0, .inl ⟨rfl, rfl⟩, rfl⟩
 ·rintro vs ae τ ⟨done, l, _, _, _, _, rfl⟩
  exact ⟨b, hx _⟩
 ·rintro v vs ae τ ⟨done, l, hd, hl, hP, hae, rfl⟩
  cases l with
  | nil => cases hl
  | cons y l =>
   obtain ⟨rfl, rfl⟩ := List.cons.inj hl
   have e : g (done.foldl g s0) y = (done ++ [y]).foldl g s0 := by rw [List.foldl_append]; rfl
   refine step _ y done.length ae hP (by rw [hd, List.length_append, List.length_cons]; lia) (by rw [hd]; exact List.mem_append_right _ (List.mem_cons_self ..)) (hae.imp (fun h => ⟨by rw [h.1]; rfl, h.2⟩) id) _ fun hP' => ?_
   exact ⟨done ++ [y], l, by rw [hd, List.append_assoc]; rfl, rfl, by rw [← e, List.length_append]; exact hP', .inr ⟨_, by rw [← e]⟩, by rw [e]⟩
 ·rintro ae τ ⟨done, l, hd, hl, hP, hae, rfl⟩
  cases l with
  | nil => rw [List.append_nil] at hd; subst hd; exact fin ae hae
  | cons y l => cases hl
theorem foldl_app {f : Int → Int} : ∀ (l s : List Int), l.foldl (fun s y => s ++ [f y]) s = s ++ l.map f
 | [], s => (List.append_nil s).symm
 | y :: l, s => by rw [List.foldl_cons, foldl_app l, List.append_assoc]; rfl
theorem set_last {σ : Sto} {c d : Cl} : (σ ++ [c] : Sto).set σ.length d = σ ++ [d] := by
 rw [List.set_append_right _ _ (Nat.le_refl _), Nat.sub_self]; rfl
theorem last_get {σ : Sto} {c : Cl} : (σ ++ [c] : Sto)[σ.length]? = some c := List.getElem?_concat_length
section
variable {σ : Sto} {n : Nat} {K : KE}
theorem c278 (hq : K (.ref σ.length) (σ ++ [⟨true, .list (([1, 2, 4, 5, 7, 8] : List Int).map AV.int)⟩])) : lCall (callA XW (n + 1)) 278 [] σ K := by
 refine lCall.mk (call_of (fn := fnAt 8 1000 []) (ae := []) (by rfl) ?_)
 refine s_cons ?_
 exact hq
noncomputable def addV (L G : List Int) : List Int := if (G.any fun x => decide ((L ++ G).count x > 4)) = true then L else L ++ G
noncomputable abbrev aeAd (a g r : Nat) (x : Loc) : Loc := ("tiles", .ref a) :: ("group", .ref g) :: ("after", .ref r) :: x
theorem c285 {a g : Nat} {b1 b2 : Bool} {L G : List Int} (e1 : σ[a]? = some ⟨b1, .list (L.map AV.int)⟩) (e2 : σ[g]? = some ⟨b2, .list (G.map AV.int)⟩) (h1 : L.length ≤ 100) (h2 : G.length ≤ 100) (hq : ∀ r τ b, (σ ++ τ)[r]? = some ⟨b, .list ((addV L G).map AV.int)⟩ → K (.ref r) (σ ++ τ)) :
  lCall (callA XW (n + 1)) 285 [.ref a, .ref g] σ K := by
 refine lCall.mk (call_of (fn := fnAt 9 1000 []) (ae := [("tiles", .ref a), ("group", .ref g)]) (by rfl) ?_)
 have e1' : (σ ++ [⟨true, .list ((L ++ G).map AV.int)⟩] : Sto)[a]? = some ⟨b1, .list (L.map AV.int)⟩ := old_app e1
 have e2' : (σ ++ [⟨true, .list ((L ++ G).map AV.int)⟩] : Sto)[g]? = some ⟨b2, .list (G.map AV.int)⟩ := old_app e2
 have e3' : (σ ++ [⟨true, .list ((L ++ G).map AV.int)⟩] : Sto)[σ.length]? = some ⟨true, .list ((L ++ G).map AV.int)⟩ := by simp
 refine s_join (aeAd a g σ.length []) (σ ++ [⟨true, .list ((L ++ G).map AV.int)⟩]) ?_ ?_
 ·refine wLst_i e1 (wLst_i e2 (wG_i (by simp; lia) ?_))
  rw [← List.map_append]
  exact ⟨rfl, rfl, rfl⟩
 refine s_cons ?_
 refine lIter.mk (wAt_i e2' ?_)
 refine lockF.mk ?_
 refine fl_list (xs := G.map AV.int) (fun vs ae τ => τ = σ ++ [⟨true, .list ((L ++ G).map AV.int)⟩] ∧ (∃ x, ae = aeAd a g σ.length x ∧ (x = [] ∨ ∃ y, x = ([("kind", y)] : Loc))) ∧ ∃ l : List Int, vs = l.map AV.int ∧ (∀ x ∈ l, x ∈ G) ∧ ∀ x ∈ G, (L ++ G).count x > 4 → x ∈ l)
  (fun vs ae τ I => ⟨b2, by rw [I.1]; exact e2'⟩) ?_ ?_ G.length 0 1000 _ _ (by simp) (by lia) ⟨rfl, ⟨[], rfl, .inl rfl⟩, G, rfl, fun x hx => hx, fun x hx _ => hx⟩
 ·rintro v vs ae τ ⟨rfl, ⟨x, rfl, hx⟩, l, hl, hG, hc⟩
  match l, hl with
  | y :: l, hl =>
   obtain ⟨rfl, rfl⟩ := List.cons.inj hl
   refine a_name (ae' := aeAd a g σ.length [("kind", .int y)]) (by rcases hx with rfl | ⟨z, rfl⟩ <;> rfl) ?_
   refine s_cons ?_
   refine res_lm e3' rfl ?_
   refine wLst_i e3' ?_
   refine wG_i (by simp; lia) ?_
   refine wInts_i ?_
   refine wIf_decI ?_
   refine if_split (fun q => ?_) (fun q => ?_)
   ·refine s_cons ?_
    have hv : addV L G = L := if_pos (List.any_eq_true.mpr ⟨y, hG y (List.mem_cons_self ..), decide_eq_true (by lia)⟩)
    exact hq a _ b1 (by rw [hv]; exact e1')
   ·refine s_nil ?_
    exact ⟨rfl, ⟨_, rfl, .inr ⟨_, rfl⟩⟩, l, rfl, fun x hx => hG x (List.mem_cons_of_mem _ hx), fun x hx hc2 => by
     rcases List.mem_cons.mp (hc x hx hc2) with rfl | h
     ·lia
     ·exact h⟩
 ·rintro ae τ ⟨rfl, ⟨x, rfl, hx⟩, l, hl, hG, hc⟩
  have hl0 : l = [] := by simpa using hl.symm
  subst hl0
  have hv : addV L G = L ++ G := by
   unfold addV
   rw [if_neg]
   intro c
   obtain ⟨x, hx, hc2⟩ := List.any_eq_true.mp c
   exact absurd (hc x hx (of_decide_eq_true hc2)) (by simp)
  refine s_cons ?_
  have := hq σ.length _ true (by rw [hv]; exact e3')
  rcases hx with rfl | ⟨z, rfl⟩ <;> exact this
noncomputable def z34 : List Int := List.replicate 34 0
noncomputable def cntL (l : List Int) : List Int := l.foldl (fun c k => stl c k (gt c k + 1)) z34
theorem cntL_app {l : List Int} {x : Int} : cntL (l ++ [x]) = stl (cntL l) x (gt (cntL l) x + 1) := by unfold cntL; rw [List.foldl_append]; rfl
theorem cnt_go : ∀ (l c : List Int), c.length = 34 → (∀ x ∈ l, 0 ≤ x ∧ x < 34) → (l.foldl (fun c k => stl c k (gt c k + 1)) c).length = 34 ∧ ∀ j : Int, 0 ≤ j → gt (l.foldl (fun c k => stl c k (gt c k + 1)) c) j = gt c j + (l.count j : Nat)
 | [], c, hc, _ => ⟨hc, fun j _ => by simp⟩
 | x :: l, c, hc, h => by
  obtain ⟨h0, h1⟩ := h x (List.mem_cons_self ..)
  obtain ⟨a, b⟩ := cnt_go l (stl c x (gt c x + 1)) (len_stl hc) fun y hy => h y (List.mem_cons_of_mem _ hy)
  refine ⟨a, fun j hj => ?_⟩
  rw [List.foldl_cons, b j hj, gt_stl h0 (by lia) hj, List.count_cons]
  by_cases q : j = x
  ·subst q; simp; lia
  ·rw [if_neg q, if_neg (by simpa using fun e : x = j => q e.symm)]; simp
theorem cntL_len {l : List Int} (h : ∀ x ∈ l, 0 ≤ x ∧ x < 34) : (cntL l).length = 34 := (cnt_go l z34 rfl h).1
theorem z34_gt (j : Int) : gt z34 j = 0 := by
 unfold gt z34
 rw [List.getD_eq_getElem?_getD, List.getElem?_replicate]
 split <;> rfl
theorem cntL_gt {l : List Int} (h : ∀ x ∈ l, 0 ≤ x ∧ x < 34) {j : Int} (hj : 0 ≤ j) : gt (cntL l) j = (l.count j : Nat) := by
 have := (cnt_go l z34 rfl h).2 j hj
 rw [z34_gt, Int.zero_add] at this
 exact this
noncomputable abbrev aeCo (a c : Nat) (x : Loc) : Loc := ("tiles", .ref a) :: ("counts", .ref c) :: x
theorem c304 {a : Nat} {b : Bool} {L : List Int} (e : σ[a]? = some ⟨b, .list (L.map AV.int)⟩) (hL : ∀ x ∈ L, 0 ≤ x ∧ x < 34) (h1 : L.length ≤ 100) (hq : ∀ r τ, (σ ++ τ)[r]? = some ⟨true, .list ((cntL L).map AV.int)⟩ → K (.ref r) (σ ++ τ)) :
  lCall (callA XW (n + 1)) 304 [.ref a] σ K := by
 refine lCall.mk (call_of (fn := fnAt 12 1000 []) (ae := [("tiles", .ref a)]) (by rfl) ?_)
 refine s_join (aeCo a (σ.length + 1) []) (σ ++ [⟨true, .list [.int 0]⟩] ++ [⟨true, .list (z34.map AV.int)⟩]) ?_ ?_
 ·refine wLst_new (wG_i (by decide) ?_)
  refine ⟨rfl, ?_, rfl⟩
  show aeCo a (σ ++ [⟨true, .list [.int 0]⟩] : Sto).length [] = _
  rw [List.length_append]; rfl
 have ea : ∀ c : Cl, (σ ++ [⟨true, .list [.int 0]⟩] ++ [c] : Sto)[a]? = some ⟨b, .list (L.map AV.int)⟩ := fun c => old_app (old_app e)
 refine s_cons ?_
 refine lIter.mk (wAt_i (ea _) ?_)
 refine lockF.mk ?_
 have hl : (σ ++ [⟨true, .list [.int 0]⟩] : Sto).length = σ.length + 1 := by rw [List.length_append]; rfl
 refine fl_cell (xs := L) (ae0 := aeCo a (σ.length + 1) []) (aeV := fun _ v => aeCo a (σ.length + 1) [("kind", v)]) (fun c : List Int => (⟨true, .list (c.map AV.int)⟩ : Cl)) (fun c _ => c.length = 34) (fun c k => stl c k (gt c k + 1)) z34 rfl (Nat.lt_of_le_of_lt h1 (by decide)) (fun c => ea _) ?_ ?_
 ·intro c y i ae hc hi hy hae KK hk
  obtain ⟨y0, y1⟩ := hL y hy
  have ec : (σ ++ [⟨true, .list [.int 0]⟩] ++ [⟨true, .list (c.map AV.int)⟩] : Sto)[σ.length + 1]? = some ⟨true, .list (c.map AV.int)⟩ := hl ▸ last_get
  refine a_name (ae' := aeCo a (σ.length + 1) [("kind", .int y)]) (by rcases hae with ⟨_, rfl⟩ | ⟨z, rfl⟩ <;> rfl) ?_
  refine s_cons ?_
  refine it_list ec hc y0 y1 ?_
  refine pa_list ec y0 (by rw [hc]; exact y1) (by rw [hc]; decide) ?_
  refine s_nil ?_
  have := hk (len_stl hc)
  rwa [← set_last (c := ⟨true, .list (c.map AV.int)⟩), hl] at this
 ·intro ae hae
  refine s_cons ?_
  have := hq (σ.length + 1) ([⟨true, .list [.int 0]⟩] ++ [⟨true, .list ((cntL L).map AV.int)⟩]) (by rw [← List.append_assoc]; exact hl ▸ last_get)
  rw [← List.append_assoc] at this
  rcases hae with ⟨_, rfl⟩ | ⟨z, rfl⟩ <;> exact this
noncomputable def mvV (times shift : Int) (ex : Bool) (k : Int) : Int := if k ∈ loneI then gt loneI (((loneI.idxOf k : Nat) * times + shift).fmod 9) else if ex = false then k else if k < 18 then k + 9 else k - 9
noncomputable abbrev aeMo (a : Nat) (tm sh : Int) (ex : Bool) (f : Nat) (x : Loc) : Loc := ("tiles", .ref a) :: ("times", .int tm) :: ("shift", .int sh) :: ("exchanged", .bool ex) :: ("found", .ref f) :: x
theorem fm9 (x : Int) : 0 ≤ x.fmod 9 ∧ x.fmod 9 < 9 := by rw [Int.fmod_eq_emod_of_nonneg _ (by decide)]; exact ⟨Int.emod_nonneg _ (by decide), Int.emod_lt_of_pos _ (by decide)⟩
theorem c311 {a : Nat} {b ex : Bool} {L : List Int} {tm sh : Int} (h0 : σ[0]? = some ⟨false, .list (loneI.map AV.int)⟩) (e : σ[a]? = some ⟨b, .list (L.map AV.int)⟩) (h1 : L.length ≤ 100) (ht : 0 ≤ tm ∧ tm ≤ 8) (hq : ∀ r τ, (σ ++ τ)[r]? = some ⟨true, .list ((L.map (mvV tm sh ex)).map AV.int)⟩ → K (.ref r) (σ ++ τ)) :
  lCall (callA XW (n + 1)) 311 [.ref a, .int tm, .int sh, .bool ex] σ K := by
 refine lCall.mk (call_of (fn := fnAt 13 1000 []) (ae := [("tiles", .ref a), ("times", .int tm), ("shift", .int sh), ("exchanged", .bool ex)]) (by rfl) ?_)
 refine s_join (aeMo a tm sh ex σ.length []) (σ ++ [⟨true, .list []⟩]) ?_ ?_
 ·exact ⟨rfl, rfl, rfl⟩
 have ea : ∀ c : Cl, (σ ++ [c] : Sto)[a]? = some ⟨b, .list (L.map AV.int)⟩ := fun c => old_app e
 have e0 : ∀ c : Cl, (σ ++ [c] : Sto)[0]? = some ⟨false, .list (loneI.map AV.int)⟩ := fun c => old_app h0
 refine s_cons ?_
 refine lIter.mk (wAt_i (ea _) ?_)
 refine lockF.mk ?_
 refine fl_cell (xs := L) (ae0 := aeMo a tm sh ex σ.length []) (aeV := fun _ v => aeMo a tm sh ex σ.length [("kind", v)]) (fun s : List Int => (⟨true, .list (s.map AV.int)⟩ : Cl)) (fun s i => s.length = i) (fun s y => s ++ [mvV tm sh ex y]) [] rfl (Nat.lt_of_le_of_lt h1 (by decide)) (fun s => ea _) ?_ ?_
 ·intro s y i ae hs hi hy hae KK hk
  have ec : (σ ++ [⟨true, .list (s.map AV.int)⟩] : Sto)[σ.length]? = some ⟨true, .list (s.map AV.int)⟩ := last_get
  have sl : (s.map AV.int).length ≤ 100000 := by rw [List.length_map]; lia
  have hk := hk (by rw [List.length_append, hs]; rfl)
  rw [← set_last (c := ⟨true, .list (s.map AV.int)⟩), List.map_append] at hk
  clear hs hi hq h1
  generalize hw : mvV tm sh ex y = w at hk
  refine a_name (ae' := aeMo a tm sh ex σ.length [("kind", .int y)]) (by rcases hae with ⟨_, rfl⟩ | ⟨z, rfl⟩ <;> rfl) ?_
  refine s_cons ?_
  refine wAt_i (e0 _) ?_
  refine wInts_i ?_
  refine wIf_b ?_
  refine if_split (fun q => ?_) (fun q => ?_)
  ·have hm : y ∈ loneI := List.contains_iff_mem.mp q
   rw [show mvV tm sh ex y = _ from if_pos hm] at hw
   have hf := fm9 ((loneI.idxOf y : Nat) * tm + sh)
   have hi : loneI.idxOf y < 9 := List.idxOf_lt_length_iff.mpr hm
   refine s_cons ?_
   refine res_lm (name := "append") ec rfl ?_
   refine res_lm (name := "index") (e0 _) rfl ?_
   refine wLst_i (e0 _) ?_
   refine wG_i (by decide) ?_
   refine wInts_i ?_
   refine wG_i hm ?_
   refine wG_i ⟨by unfold small; lia, by unfold small; lia⟩ ?_
   refine wG_i (by decide) ?_
   refine it_any (e0 _) (by decide) hf.1 hf.2 ?_
   rw [hw]
   refine wLst_i ec ?_
   exact wG_i sl hk
  ·have hm : ¬ y ∈ loneI := fun c => q (List.contains_iff_mem.mpr c)
   rw [show mvV tm sh ex y = _ from if_neg hm] at hw
   refine s_cons ?_
   cases ex with
   | false =>
    rw [if_pos rfl] at hw
    subst hw
    refine wIf_t ?_
    refine s_cons ?_
    refine res_lm (name := "append") ec rfl ?_
    refine wLst_i ec ?_
    exact wG_i sl hk
   | true =>
    rw [if_neg (by decide)] at hw
    refine wIf_f ?_
    refine s_cons ?_
    refine wIf_decI ?_
    refine if_split (fun q => ?_) (fun q => ?_)
    ·rw [if_pos q] at hw
     subst hw
     refine s_cons ?_
     refine res_lm (name := "append") ec rfl ?_
     refine wLst_i ec ?_
     exact wG_i sl hk
    ·rw [if_neg q] at hw
     subst hw
     refine s_cons ?_
     refine res_lm (name := "append") ec rfl ?_
     refine wLst_i ec ?_
     exact wG_i sl hk
 ·intro ae hae
  refine s_cons ?_
  rw [foldl_app, List.nil_append]
  have := hq σ.length [⟨true, .list ((L.map (mvV tm sh ex)).map AV.int)⟩] last_get
  rcases hae with ⟨_, rfl⟩ | ⟨z, rfl⟩ <;> exact this
end
end
section
noncomputable def endsI : List Int := [0, 8, 9, 17, 18, 26, 27, 28, 29, 30, 31, 32, 33]
noncomputable def Kd (x : Int) : Prop := x ∈ loneI ∨ (9 ≤ x ∧ x < 27)
structure HK (L : List Int) (B : Nat) : Prop where
 kd : ∀ x ∈ L, Kd x
 c4 : ∀ x, L.count x ≤ 4
 cov : ∃ S : List Int, S.length ≤ B ∧ ∀ x ∈ L, x ∈ endsI → x ∈ S
structure GOk (G : List Int) : Prop where
 kd : ∀ x ∈ G, Kd x
 one : ∃ e : Int, ∀ x ∈ G, x ∈ endsI → x = e
theorem pigeon : ∀ {ks S : List Int}, ks.Nodup → (∀ x ∈ ks, x ∈ S) → ks.length ≤ S.length
 | [], _, _, _ => Nat.zero_le _
 | k :: ks, S, hn, h => by
  obtain ⟨h1, h2⟩ := List.nodup_cons.mp hn
  have hk := h k (List.mem_cons_self ..)
  have := pigeon (S := S.erase k) h2 fun x hx => (List.mem_erase_of_ne (fun e => h1 (by rw [← e]; exact hx))).mpr (h x (List.mem_cons_of_mem _ hx))
  rw [List.length_erase_of_mem hk] at this
  have := List.length_pos_of_mem hk
  rw [List.length_cons]; lia -abstractProof
theorem lone_ends : ∀ x ∈ loneI, x ∈ endsI := by decide
theorem kd_range {x : Int} (h : Kd x) : 0 ≤ x ∧ x < 34 := by
 rcases h with h | h
 ·have : ∀ x ∈ loneI, 0 ≤ x ∧ x < 34 := by decide
  exact this x h
 ·lia -abstractProof
namespace HK
variable {L G : List Int} {B : Nat}
theorem nil : HK [] 0 := ⟨fun x h => (by cases h), fun x => (by simp), [], Nat.le_refl _, fun x h => (by cases h)⟩
theorem mono {B' : Nat} (h : HK L B) (hb : B ≤ B') : HK L B' := ⟨h.kd, h.c4, let ⟨S, a, b⟩ := h.cov; ⟨S, Nat.le_trans a hb, b⟩⟩
theorem put (h : HK L B) (g : GOk G) (hc : ∀ x ∈ G, (L ++ G).count x ≤ 4) : HK (L ++ G) (B + 1) := by
 obtain ⟨S, s1, s2⟩ := h.cov
 obtain ⟨e, he⟩ := g.one
 refine ⟨fun x hx => (List.mem_append.mp hx).elim (h.kd x) (g.kd x), fun x => ?_, e :: S, by rw [List.length_cons]; lia -abstractProof, fun x hx hxe => ?_⟩
 ·by_cases hx : x ∈ G
  ·exact hc x hx
  ·rw [List.count_append, List.count_eq_zero.mpr hx]; exact h.c4 x
 ·rcases List.mem_append.mp hx with hx | hx
  ·exact List.mem_cons_of_mem _ (s2 x hx hxe)
  ·rw [he x hx hxe]; exact List.mem_cons_self ..
theorem add (h : HK L B) (g : GOk G) : HK (addV L G) (B + 1) ∧ ((addV L G).length ≠ L.length → addV L G = L ++ G) := by
 unfold addV
 split
 ·exact ⟨h.mono (Nat.le_succ _), fun c => absurd rfl c⟩
 ·rename_i q
  refine ⟨h.put g fun x hx => ?_, fun _ => rfl⟩
  have := fun c => q (List.any_eq_true.mpr c)
  by_cases c : (L ++ G).count x > 4
  ·exact absurd ⟨x, hx, decide_eq_true c⟩ this
  ·lia -abstractProof
theorem fresh (h : HK L B) (ks : List Int) (hn : ks.Nodup) (he : ∀ x ∈ ks, x ∈ endsI) (hb : B < ks.length) : ∃ x ∈ ks, x ∉ L := by
 obtain ⟨S, s1, s2⟩ := h.cov
 by_cases c : ∃ x ∈ ks, x ∉ L
 ·exact c
 ·have := pigeon hn fun x hx => s2 x (by
   by_cases q : x ∈ L
   ·exact q
   ·exact absurd ⟨x, hx, q⟩ c) (he x hx)
  lia -abstractProof
theorem sub (h : HK L B) {L' : List Int} (hs : L'.Sublist L) : HK L' B :=
 ⟨fun x hx => h.kd x (hs.subset hx), fun x => Nat.le_trans (hs.count_le x) (h.c4 x), let ⟨S, a, b⟩ := h.cov; ⟨S, a, fun x hx => b x (hs.subset hx)⟩⟩
theorem perm (h : HK L B) {L' : List Int} (hp : L'.Perm L) : HK L' B :=
 ⟨fun x hx => h.kd x (hp.mem_iff.mp hx), fun x => by rw [hp.count_eq]; exact h.c4 x, let ⟨S, a, b⟩ := h.cov; ⟨S, a, fun x hx => b x (hp.mem_iff.mp hx)⟩⟩
end HK
theorem gok_same {v : Int} {n : Nat} (h : Kd v) : GOk (List.replicate n v) := ⟨fun x hx => by rw [List.eq_of_mem_replicate hx]; exact h, v, fun x hx _ => List.eq_of_mem_replicate hx⟩
theorem gok_all : ∀ i : Fin 25, 9 ≤ i.1 ∧ i.1 ≠ 16 ∧ i.1 ≠ 17 → (∀ x ∈ [(i.1 : Int), (i.1 : Int) + 1, (i.1 : Int) + 2], (9 ≤ x ∧ x < 27) ∧ (x ∈ endsI → x = if i.1 = 9 ∨ i.1 = 18 then (i.1 : Int) else (i.1 : Int) + 2)) := by decide
theorem gok_run {low : Int} (h : (9 ≤ low ∧ low ≤ 15) ∨ (18 ≤ low ∧ low ≤ 24)) : GOk [low, low + 1, low + 2] := by
 obtain ⟨n, rfl, h0, h1⟩ : ∃ n : Nat, low = n ∧ n < 25 ∧ (9 ≤ n ∧ n ≠ 16 ∧ n ≠ 17) := ⟨low.toNat, by lia -abstractProof, by lia -abstractProof, by lia -abstractProof⟩
 have := gok_all ⟨n, h0⟩ h1
 exact ⟨fun x hx => .inr (this x hx).1, _, fun x hx => (this x hx).2⟩
end
section
theorem nm_i {sc : Scope} {x : Str} {ae : Loc} {a : AV} {K : AV → Prop} (h : nameA XW sc x ae = some a) (k : K a) : wO (nameA XW sc x ae) K := by rw [h]; exact k
theorem lkp {name x : Str} {v : AV} : ∀ {es : Loc}, (putField name v es).lookup x = if x = name then some v else es.lookup x := by
 intro es
 induction es with
 | nil =>
  unfold putField
  by_cases h : x = name
  ·subst h; simp
  ·simp [List.lookup_cons, beq_eq_false_iff_ne.mpr h, h]
 | cons e es ih =>
  obtain ⟨n, u⟩ := e
  unfold putField
  by_cases hn : n = name
  ·subst hn
   simp only [beq_self_eq_true, if_true]
   by_cases h : x = n
   ·subst h; simp
   ·simp [List.lookup_cons, beq_eq_false_iff_ne.mpr h, h]
  ·rw [beq_eq_false_iff_ne.mpr hn, if_neg Bool.false_ne_true, List.lookup_cons, List.lookup_cons, ih]
   by_cases h : x = n
   ·subst h; simp [hn]
   ·simp [beq_eq_false_iff_ne.mpr h]
theorem lk_self {n : Str} {v : AV} {x : Loc} : (putField n v x).lookup n = some v := by rw [lkp, if_pos rfl]
theorem lk_other {n m : Str} {v : AV} {x : Loc} (h : m ≠ n) : (putField n v x).lookup m = x.lookup m := by rw [lkp, if_neg h]
theorem put_put {n : Str} {u v : AV} : ∀ {x : Loc}, putField n v (putField n u x) = putField n v x
 | [] => by unfold putField putField; simp
 | (m, w) :: x => by
  by_cases h : m == n
  ·simp [putField, h]
  ·simp [putField, h, put_put (x := x)]
theorem fl_rng {asg : AV → Loc → Sto → (Loc → Sto → Prop) → Prop} {body : Loc → Sto → XS} {K : KS} {m : Nat} (Inv : Nat → Loc → Sto → Prop)
  (step : ∀ t ae σ, t < m → Inv t ae σ → asg (.int t) ae σ fun ae σ => body ae σ fun fl ae σ => fl = .next ∧ Inv (t + 1) ae σ) (fin : ∀ ae σ, Inv m ae σ → K .next ae σ) :
  ∀ (d i N : Nat) (ae : Loc) (σ : Sto), i + d = m → d < N → Inv i ae σ → forA asg body N (.rng (i : Int) d 1) ae σ K := by
 intro d
 induction d with
 | zero =>
  intro i N ae σ h hN I
  obtain ⟨N, rfl⟩ : ∃ M, N = M + 1 := ⟨N - 1, by lia⟩
  have : i = m := by lia
  subst this
  exact f_end (fun _ _ q => q) (fin _ _ I)
 | succ d ih =>
  intro i N ae σ h hN I
  obtain ⟨N, rfl⟩ : ∃ M, N = M + 1 := ⟨N - 1, by lia⟩
  refine f_turn (v := .int i) (it' := .rng ((i : Int) + 1) d 1) (fun _ _ q => q) (Inv (i + 1)) (step i ae σ (by lia) I) fun ae σ I2 => ?_
  have := ih (i + 1) N ae σ (by lia) (by lia) I2
  push_cast at this
  exact this
theorem or2 {c1 c2 : Bool} {P Q : Prop} (hP : P) (hQ : Q) : wIf c1 (wIf true P Q) (wIf c2 (wIf true P Q) (wIf false P Q)) := wIf_i (fun _ => wIf_t hP) (fun _ => wIf_i (fun _ => wIf_t hP) (fun _ => wIf_f hQ))
noncomputable def cfT (x : Loc) : Loc := x.filter fun p => List.lookup p.1 ([(".0", .local), ("kind", .local), ("tiles", .free)] : List (Str × NameKind)) == some .free
noncomputable def nin (L : List Int) : AV → Bool
 | .int z => decide (z ∉ L)
 | _ => false
theorem free_eq {L : List Int} : List.map id (List.filter (nin L) (List.map AV.int loneI)) = (loneI.filter fun z => decide (z ∉ L)).map AV.int := by
 rw [List.map_id, List.filter_map]; rfl
noncomputable abbrev aeHd (N a : Nat) (su st : Int) (tu nb sp : AV) (x : Loc) : Loc := ("numbers", .ref N) :: ("tiles", .ref a) :: ("suited", .int su) :: ("sets", .int st) :: ("turn", tu) :: ("number", nb) :: ("spot", sp) :: x
noncomputable def stB (j : Nat) : Stmt := (dBody 10 1000).getD j (.Pass pos0)
theorem rep3 (v : Int) : (List.replicate (3 : Int).toNat [AV.int v]).flatten = (List.replicate 3 v).map AV.int := rfl
theorem fm {x k : Int} (h : 0 < k) : 0 ≤ x.fmod k ∧ x.fmod k < k := by rw [Int.fmod_eq_emod_of_nonneg _ (by lia)]; exact ⟨Int.emod_nonneg _ (by lia), Int.emod_lt_of_pos _ h⟩
theorem lone_kd {j : Int} (h0 : 0 ≤ j) (h1 : j < 9) : Kd (gt loneI j) ∧ gt loneI j ∈ loneI := by
 have : ∀ i : Fin 9, gt loneI (i.1 : Int) ∈ loneI := by decide
 have := this ⟨j.toNat, by lia⟩
 rw [show ((j.toNat : Nat) : Int) = j by lia] at this
 exact ⟨.inl this, this⟩
theorem low_all : ∀ (a : Fin 14) (b : Fin 7), (((a.1 : Int)).fdiv 7).natAbs < 2 ^ 64 ∧ ((9 ≤ 9 + ((a.1 : Int)).fdiv 7 * 9 + (b.1 : Int) ∧ 9 + ((a.1 : Int)).fdiv 7 * 9 + (b.1 : Int) ≤ 15) ∨ (18 ≤ 9 + ((a.1 : Int)).fdiv 7 * 9 + (b.1 : Int) ∧ 9 + ((a.1 : Int)).fdiv 7 * 9 + (b.1 : Int) ≤ 24)) := by decide
theorem low_ok {a b : Int} (a0 : 0 ≤ a) (a1 : a < 14) (b0 : 0 ≤ b) (b1 : b < 7) : small (a.fdiv 7) ∧ ((9 ≤ 9 + a.fdiv 7 * 9 + b ∧ 9 + a.fdiv 7 * 9 + b ≤ 15) ∨ (18 ≤ 9 + a.fdiv 7 * 9 + b ∧ 9 + a.fdiv 7 * 9 + b ≤ 24)) := by
 obtain ⟨x, rfl⟩ := Int.eq_ofNat_of_zero_le a0
 obtain ⟨y, rfl⟩ := Int.eq_ofNat_of_zero_le b0
 exact low_all ⟨x, Int.ofNat_lt.mp a1⟩ ⟨y, Int.ofNat_lt.mp b1⟩
section
variable {σ : Sto} {n N a : Nat} {su st nb sp : Int} {tu : AV} {x : Loc} {call : Addr → List AV → Sto → XE}
set_option maxHeartbeats 2000000 in
theorem hd_group (h0 : σ[0]? = some ⟨false, .list (loneI.map AV.int)⟩) : execS XW call 39 (dScope 10 1000) ((forBody (stB 3)).getD 2 (.Pass pos0)) (aeHd N a su st tu (.int nb) (.int sp) x) σ fun fl ae τ => fl = .next ∧
  ∃ su' g G x', ae = aeHd N a su' st tu (.int nb) (.int sp) x' ∧ x'.lookup ("group" : Str) = some (AV.ref g) ∧ (∃ τ1, τ = σ ++ τ1) ∧ τ[g]? = some ⟨true, .list (G.map AV.int)⟩ ∧ GOk G ∧ G.length = 3 := by
 refine wG_i (by decide) ?_
 refine or2 ?_ ?_
 ·refine s_cons ?_
  refine wG_i (by decide) ?_
  obtain ⟨f0, f1⟩ := fm (x := sp) (k := 9) (by decide)
  refine it_any h0 (by decide) f0 f1 ?_
  have hk := (lone_kd f0 f1).1
  generalize gt loneI (sp.fmod 9) = z at hk ⊢
  refine wLst_new ?_
  refine wG_i ⟨by show 1 * 3 ≤ 100000; decide, by decide⟩ ?_
  exact ⟨rfl, su, _, List.replicate 3 z, putField "group" _ x, rfl, lk_self, ⟨_, List.append_assoc ..⟩, mid_get, gok_same hk, rfl⟩
 ·refine s_cons ?_
  refine wG_i (by decide) ?_
  refine wIf_i (fun _ => ?_) (fun _ => ?_)
  ·refine s_cons ?_
   refine wG_i (by decide) ?_
   obtain ⟨f0, f1⟩ := fm (x := sp) (k := 18) (by decide)
   have hk : Kd (9 + sp.fmod 18) := .inr ⟨by lia, by lia⟩
   refine wLst_new ?_
   refine wG_i ⟨by show 1 * 3 ≤ 100000; decide, by decide⟩ ?_
   refine s_cons ?_
   exact ⟨rfl, su + 1, _, List.replicate 3 (9 + sp.fmod 18), putField "group" _ x, rfl, lk_self, ⟨_, List.append_assoc ..⟩, mid_get, gok_same hk, rfl⟩
  ·refine s_cons ?_
   obtain ⟨f0, f1⟩ := fm (x := sp) (k := 14) (by decide)
   obtain ⟨f2, f3⟩ := fm (x := sp) (k := 7) (by decide)
   obtain ⟨s1, hl⟩ := low_ok f0 f1 f2 f3
   refine wG_i (by decide) ?_
   refine wG_i (by decide) ?_
   refine wG_i ⟨s1, by unfold small; decide⟩ ?_
   refine wG_i (by decide) ?_
   refine s_cons ?_
   generalize 9 + (sp.fmod 14).fdiv 7 * 9 + sp.fmod 7 = low at hl ⊢
   have hn : nameA XW (dScope 10 1000) "low" (aeHd N a su st tu (.int nb) (.int sp) (putField "low" (.int low) x)) = some (.int low) := (lk_self : (putField "low" (AV.int low) x).lookup ("low" : Str) = some (AV.int low))
   refine nm_i hn ?_
   refine nm_i hn ?_
   refine nm_i hn ?_
   refine s_cons ?_
   exact ⟨rfl, su + 1, σ.length, [low, low + 1, low + 2], putField "group" _ (putField "low" _ x), rfl, lk_self, ⟨_, rfl⟩, last_get, gok_run hl, rfl⟩
set_option maxHeartbeats 2000000 in
theorem hd_b4 {a r : Nat} {L M : List Int} {b c : Bool} {t : Nat} (h0 : σ[0]? = some ⟨false, .list (loneI.map AV.int)⟩) (ea : σ[a]? = some ⟨b, .list (L.map AV.int)⟩) (er : σ[r]? = some ⟨c, .list (M.map AV.int)⟩)
  (hx : x.lookup ("after" : Str) = some (AV.ref r)) (hL : HK L t) (ht : t < 4) (hl : L.length = 3 * t) (hM : M.length ≤ 100) (hM2 : M.length ≠ L.length → HK M (t + 1) ∧ M.length = 3 * (t + 1)) :
  execS XW call 39 (dScope 10 1000) ((forBody (stB 3)).getD 4 (.Pass pos0)) (aeHd N a su st tu (.int nb) (.int sp) x) σ fun fl ae τ => fl = .next ∧
  ∃ r L' b' x', ae = aeHd N a su st tu (.int nb) (.int sp) x' ∧ x'.lookup ("after" : Str) = some (AV.ref r) ∧ (∃ τ1, τ = σ ++ τ1) ∧ τ[r]? = some ⟨b', .list (L'.map AV.int)⟩ ∧ HK L' (t + 1) ∧ L'.length = 3 * (t + 1) := by
 refine nm_i hx ?_
 refine wLst_i er ?_
 refine wG_i (by simp; lia) ?_
 refine wLst_i ea ?_
 refine wG_i (by simp; lia) ?_
 refine wIf_beqI ?_
 simp only [List.length_map]
 refine if_split (fun q => ?_) (fun q => ?_)
 ·refine s_cons ?_
  refine lIter.mk (wAt_i h0 ?_)
  refine comp_rule (n := 35) (ae0 := ("tiles", .ref a) :: cfT x) (aeX := fun v => ("tiles", .ref a) :: putField "kind" v (cfT x)) (vs := loneI.map AV.int) (t := nin L) (g := id) (show ItIs σ (.list 0 0) (loneI.map AV.int) from ⟨_, _, h0, rfl⟩) (by decide) (by rfl) (fun v => rfl) (fun u v => ?_) (by decide) ?_ ?_ ?_
  ·exact congrArg (List.cons (("tiles", AV.ref a) : Str × AV)) (put_put (n := "kind") (u := u) (v := v) (x := cfT x))
  ·intro v hv acc γ K hK
   obtain ⟨y, hy, rfl⟩ := List.mem_map.mp hv
   have ea' : (σ ++ (⟨true, .list acc⟩ :: γ) : Sto)[a]? = some ⟨b, .list (L.map AV.int)⟩ := old_app ea
   refine nm_i (lk_self : (putField "kind" (AV.int y) (cfT x)).lookup ("kind" : Str) = some (AV.int y)) ?_
   refine wAt_i ea' ?_
   refine wInts_i ?_
   refine wIf_b ?_
   have hn : nin L (AV.int y) = !(L.contains y) := by unfold nin; simp
   rw [hn] at hK
   refine if_split (fun q => ?_) (fun q => ?_)
   ·rw [q] at hK; exact hK
   ·rw [Bool.eq_false_iff.mpr q] at hK; exact hK
  ·intro v hv _ acc γ K hK
   refine nm_i (lk_self : (putField "kind" v (cfT x)).lookup ("kind" : Str) = some v) ?_
   exact hK γ
  ·intro _ γ
   rw [free_eq]
   obtain ⟨w, hw1, hw2⟩ := hL.fresh loneI (by decide) lone_ends (show t < 9 by lia)
   match hF : loneI.filter (fun z => decide (z ∉ L)) with
   | [] => exact absurd (List.mem_filter.mpr ⟨hw1, decide_eq_true hw2⟩) (by rw [hF]; simp)
   | z :: zs =>
    have hz : z ∈ loneI.filter (fun z => decide (z ∉ L)) := by rw [hF]; exact List.mem_cons_self ..
    obtain ⟨z1, z2⟩ := List.mem_filter.mp hz
    have z2 := of_decide_eq_true z2
    refine s_cons ?_
    have ea2 : (σ ++ (⟨true, .list ((z :: zs).map AV.int)⟩ :: γ) : Sto)[a]? = some ⟨b, .list (L.map AV.int)⟩ := old_app ea
    have ef : (σ ++ (⟨true, .list ((z :: zs).map AV.int)⟩ :: γ) : Sto)[σ.length]? = some ⟨true, .list ((z :: zs).map AV.int)⟩ := mid_get
    refine nm_i (lk_self : (putField "free" (AV.ref σ.length) x).lookup ("free" : Str) = some (AV.ref σ.length)) ?_
    have hlz : (z :: zs).length ≤ 9 := by rw [← hF]; exact List.length_filter_le ..
    refine it_any ef (by lia) (by decide) (by simp) ?_
    refine wLst_new ?_
    refine wG_i (by simp) ?_
    refine wLst_i (old_app (old_app ea2)) ?_
    refine wLst_new ?_
    refine wG_i (by simp; lia) ?_
    rw [show gt (z :: zs) 0 = z from rfl, rep3, ← List.map_append]
    refine ⟨rfl, _, L ++ List.replicate 3 z, true, putField "after" _ (putField "free" (AV.ref σ.length) x), rfl, lk_self, ⟨_, by simp only [List.append_assoc]; rfl⟩, mid_get, hL.put (gok_same (.inl z1)) (fun w hw => ?_), by simp; lia⟩
    rw [List.eq_of_mem_replicate hw, List.count_append, List.count_eq_zero.mpr z2]
    simp
 ·refine s_nil ?_
  exact ⟨rfl, r, M, c, x, rfl, hx, ⟨[], by simp⟩, er, hM2 (by lia)⟩
end
end
section
noncomputable abbrev aeHs (N a : Nat) (su st : Int) : Loc := [("numbers", .ref N), ("tiles", .ref a), ("suited", .int su), ("sets", .int st)]
noncomputable def HInv (σ : Sto) (N : Nat) (st : Int) (t : Nat) (ae : Loc) (τ : Sto) : Prop :=
 ∃ (τ1 : Sto) (a : Nat) (su : Int) (L : List Int) (b : Bool), τ = σ ++ τ1 ∧ τ[a]? = some ⟨b, .list (L.map AV.int)⟩ ∧ HK L t ∧ L.length = 3 * t ∧ ((t = 0 ∧ ae = aeHs N a su st) ∨ ∃ (tu nb sp : Int) (x : Loc), ae = aeHd N a su st (.int tu) (.int nb) (.int sp) x)
theorem rng4 {m : Nat} (h0 : 1 ≤ m) (h1 : m ≤ 4) : Builtin.Range.small 0 m 1 = true ∧ rangeN 0 m 1 = m := by
 have : ∀ i : Fin 4, Builtin.Range.small 0 ((i.1 + 1 : Nat) : Int) 1 = true ∧ rangeN 0 ((i.1 + 1 : Nat) : Int) 1 = i.1 + 1 := by decide
 have := this ⟨m - 1, by lia⟩
 rwa [show m - 1 + 1 = m by lia] at this
section
variable {σ : Sto} {n N a : Nat} {su st nb sp : Int} {x : Loc}
noncomputable def cfK (x : Loc) : Loc := x.filter fun p => List.lookup p.1 ([(".0", .local), ("kind", .local)] : List (Str × NameKind)) == some .free
noncomputable def nmI : List Int := (List.range 18).map fun i : Nat => 9 + (i : Int)
noncomputable def KL : List Int := loneI ++ nmI
theorem rng_nm : rangeFrom 9 1 18 = nmI.map AV.int := by rfl
set_option maxHeartbeats 2000000 in
theorem hd_kinds {tu : AV} {call : Addr → List AV → Sto → XE} (h0 : σ[0]? = some ⟨false, .list (loneI.map AV.int)⟩) :
  execS XW call 40 (dScope 10 1000) (stB 4) (aeHd N a su st tu (.int nb) (.int sp) x) σ fun fl ae τ => fl = .next ∧
  ∃ k τ1, ae = aeHd N a su st tu (.int nb) (.int sp) (putField "kinds" (.ref k) x) ∧ τ = σ ++ τ1 ∧ τ[k]? = some ⟨true, .list (KL.map AV.int)⟩ := by
 refine lIter.mk (wAt_new ?_)
 refine wG_i (by decide) ?_
 refine comp_rule (n := 36) (ae0 := cfK x) (aeX := fun v => putField "kind" v (cfK x)) (vs := nmI.map AV.int) (t := fun _ => true) (g := id) (show ItIs (σ ++ [⟨true, .range 9 27 1⟩]) (.rng 9 18 1) (nmI.map AV.int) from rng_nm) (by decide) (by rfl) (fun v => rfl) (fun u v => ?_) (by decide) ?_ ?_ ?_
 ·exact put_put (n := "kind") (u := u) (v := v) (x := cfK x)
 ·intro v hv acc γ K hK
  exact hK
 ·intro v hv _ acc γ K hK
  refine nm_i (lk_self : (putField "kind" v (cfK x)).lookup ("kind" : Str) = some v) ?_
  exact hK γ
 ·intro _ γ
  rw [List.map_id, List.filter_eq_self.mpr (fun _ _ => rfl)]
  refine wLst_i (old_app (old_app h0)) ?_
  refine wLst_mid ?_
  refine wG_i (by decide) ?_
  refine ⟨rfl, _, [⟨true, .range 9 27 1⟩] ++ (⟨true, .list (nmI.map AV.int)⟩ :: γ) ++ [⟨true, .list (KL.map AV.int)⟩], rfl, ?_, ?_⟩
  ·simp only [List.append_assoc]; rfl
  ·exact mid_get
theorem wh_dn {test : Loc → Sto → (Bool → Sto → Prop) → Prop} {body : Loc → Sto → XS} {K : KS} (Inv : Nat → Loc → Sto → Prop)
  (step : ∀ d M ae σ, Inv d ae σ → (∀ d' ae σ, d' + 1 = d → Inv d' ae σ → whileA test body M ae σ K) → test ae σ fun c σ => wIf c (∃ K0, body ae σ K0 ∧ ∀ fl ae σ, K0 fl ae σ → match fl with
   | .next => whileA test body M ae σ K
   | .cont => whileA test body M ae σ K
   | .brk => K .next ae σ
   | .ret v => K (.ret v) ae σ) (K .next ae σ)) : ∀ (d N : Nat) (ae : Loc) (σ : Sto), d < N → Inv d ae σ → whileA test body N ae σ K := by
 intro d
 induction d with
 | zero =>
  intro N ae σ hN I
  obtain ⟨M, rfl⟩ : ∃ M, N = M + 1 := ⟨N - 1, by lia⟩
  exact while_of (step 0 M ae σ I fun d' _ _ h _ => absurd h (by lia))
 | succ d ih =>
  intro N ae σ hN I
  obtain ⟨M, rfl⟩ : ∃ M, N = M + 1 := ⟨N - 1, by lia⟩
  exact while_of (step (d + 1) M ae σ I fun d' ae σ h I' => by
   obtain rfl : d' = d := by lia
   exact ih M ae σ (by lia) I')
theorem kl_len : KL.length = 27 := by decide
theorem kl_kd : ∀ x ∈ KL, Kd x := by
 have : ∀ x ∈ KL, x ∈ loneI ∨ (9 ≤ x ∧ x < 27) := by decide
 exact this
theorem kl_gt {j : Int} (h0 : 0 ≤ j) (h1 : j < 27) : gt KL j ∈ KL := by
 have : ∀ i : Fin 27, gt KL (i.1 : Int) ∈ KL := by decide
 have := this ⟨j.toNat, by lia⟩
 rwa [show ((j.toNat : Nat) : Int) = j by lia] at this
theorem kl_free {L : List Int} (h : L.length < 27) : ∃ p : Int, 0 ≤ p ∧ p < 27 ∧ L.count (gt KL p) = 0 := by
 by_cases c : ∃ x ∈ KL, x ∉ L
 ·obtain ⟨x, h1, h2⟩ := c
  have hi : KL.idxOf x < KL.length := List.idxOf_lt_length_iff.mpr h1
  refine ⟨(KL.idxOf x : Nat), by lia, by rw [kl_len] at hi; lia, ?_⟩
  have : gt KL (KL.idxOf x : Nat) = x := by
   unfold gt
   rw [Int.toNat_natCast, List.getD_eq_getElem?_getD, List.getElem?_eq_getElem hi, Option.getD_some, List.getElem_idxOf]
  rw [this]
  exact List.count_eq_zero.mpr h2
 ·have := pigeon (ks := KL) (S := L) (by decide) fun x hx => by
   by_cases q : x ∈ L
   ·exact q
   ·exact absurd ⟨x, hx, q⟩ c
  rw [kl_len] at this; lia
noncomputable def Rnd (sp p : Int) (d : Nat) : Prop := sp + d = p ∨ sp + d = p + 27
theorem rd_ex {sp p : Int} (s0 : 0 ≤ sp) (s1 : sp < 27) (p0 : 0 ≤ p) (p1 : p < 27) : ∃ d : Nat, d < 27 ∧ Rnd sp p d := by
 by_cases q : sp ≤ p
 ·exact ⟨(p - sp).toNat, by lia, .inl (by lia)⟩
 ·exact ⟨(p + 27 - sp).toNat, by lia, .inr (by lia)⟩
theorem rd_0 {sp p : Int} (s1 : sp < 27) (p0 : 0 ≤ p) (h : Rnd sp p 0) : sp = p := h.elim (fun h => by lia) fun h => by lia
theorem rd_step {sp p : Int} {d : Nat} (s0 : 0 ≤ sp) (s1 : sp < 27) (p1 : p < 27) (h : Rnd sp p (d + 1)) : Rnd ((sp + 1).fmod 27) p d := by
 have h : sp + ((d : Int) + 1) = p ∨ sp + ((d : Int) + 1) = p + 27 := h
 by_cases q : sp = 26
 ·subst q
  rw [show ((26 : Int) + 1).fmod 27 = 0 from rfl]
  exact .inl (h.elim (fun h => by lia) fun h => by lia)
 ·rw [Int.fmod_eq_emod_of_nonneg _ (by decide), Int.emod_eq_of_lt (by lia) (by lia)]
  exact h.imp (fun h => by lia) fun h => by lia
set_option maxHeartbeats 2000000 in
theorem hd_while {tu : AV} {call : Addr → List AV → Sto → XE} {k : Nat} {b c : Bool} {L : List Int} (ea : σ[a]? = some ⟨b, .list (L.map AV.int)⟩) (ek : σ[k]? = some ⟨c, .list (KL.map AV.int)⟩) (hx : x.lookup ("kinds" : Str) = some (AV.ref k)) (s0 : 0 ≤ sp) (s1 : sp < 27) (hl : L.length < 27) :
  execS XW call 40 (dScope 10 1000) (stB 6) (aeHd N a su st tu (.int nb) (.int sp) x) σ fun fl ae τ => fl = .next ∧
  ∃ sp', ae = aeHd N a su st tu (.int nb) (.int sp') x ∧ σ = τ ∧ 0 ≤ sp' ∧ sp' < 27 ∧ L.count (gt KL sp') ≤ 2 := by
 obtain ⟨p, p0, p1, hp⟩ := kl_free hl
 obtain ⟨d0, hd0, hs0⟩ := rd_ex s0 s1 p0 p1
 have hl2 : (L.map AV.int).length ≤ 100000 := by rw [List.length_map]; lia
 clear hl
 refine lockW.mk ?_
 refine wh_dn (fun d ae τ => σ = τ ∧ ∃ sp, ae = aeHd N a su st tu (.int nb) (.int sp) x ∧ 0 ≤ sp ∧ sp < 27 ∧ Rnd sp p d) ?_ d0 1000 _ _ (Nat.lt_of_lt_of_le hd0 (by decide)) ⟨rfl, sp, rfl, s0, s1, hs0⟩
 clear hs0 hd0 s0 s1
 rintro d M ae τ ⟨rfl, sp, rfl, s0, s1, hs⟩ ih
 refine res_lm (name := "count") ea rfl ?_
 refine nm_i hx ?_
 refine it_any ek (by decide) s0 s1 ?_
 refine wLst_i ea ?_
 refine wG_i hl2 ?_
 refine wInts_i ?_
 refine wIf_decI ?_
 refine if_split (fun q => ?_) (fun q => ?_)
 ·cases d with
  | zero =>
   rw [rd_0 s1 p0 hs, hp] at q
   exact absurd q (by decide)
  | succ d =>
   refine ⟨fun fl ae τ => fl = .next ∧ σ = τ ∧ ae = aeHd N a su st tu (.int nb) (.int ((sp + 1).fmod 27)) x, ?_, ?_⟩
   ·refine s_cons ?_
    refine wG_i (by decide) ?_
    exact ⟨rfl, rfl, rfl⟩
   ·rintro fl ae τ ⟨rfl, rfl, rfl⟩
    obtain ⟨f0, f1⟩ := fm (x := sp + 1) (k := 27) (by decide)
    exact ih d _ _ rfl ⟨rfl, _, rfl, f0, f1, rd_step s0 s1 p1 hs⟩
 ·exact ⟨rfl, sp, rfl, rfl, s0, s1, Int.ofNat_le.mp (Int.not_lt.mp q)⟩
noncomputable def Chg (σ : Sto) (N : Nat) (st su : Int) (tu : AV) (sp : AV) (B l : Nat) (ae : Loc) (τ : Sto) : Prop :=
 ∃ (a : Nat) (x : Loc) (nb : AV) (τ1 : Sto) (T : List Int) (b : Bool), ae = aeHd N a su st tu nb sp x ∧ τ = σ ++ τ1 ∧ τ[a]? = some ⟨b, .list (T.map AV.int)⟩ ∧ HK T B ∧ T.length = l
theorem any_of {L : List Int} {j : Int} (h0 : 0 ≤ j) (h1 : j < L.length) : gt L j ∈ L := by
 unfold gt
 rw [List.getD_eq_getElem?_getD, List.getElem?_eq_getElem (by lia), Option.getD_some]
 exact List.getElem_mem _
set_option maxHeartbeats 2000000 in
theorem hd_change {tu sp : AV} {b : Bool} {T : List Int} {B : Nat} {σ0 τ0 : Sto} (hσ : σ = σ0 ++ τ0) (h0 : σ0[0]? = some ⟨false, .list (loneI.map AV.int)⟩) (ea : σ[a]? = some ⟨b, .list (T.map AV.int)⟩) (hT : HK T B) (l0 : 0 < T.length) (l1 : T.length ≤ 14)
  {KK : KS} (hk : ∀ ae τ, Chg σ0 N st su tu sp (B + 1) T.length ae τ → KK .next ae τ) : seqA (execS XW (callA XW (n + 1)) 39 (dScope 10 1000)) (forBody (stB 8)) (aeHd N a su st tu (.int nb) sp x) σ KK := by
 subst hσ
 refine s_cons ?_
 refine wG_i (by decide) ?_
 refine wIf_decI ?_
 refine if_split (fun q => ?_) (fun q => ?_)
 ·refine s_cons ?_
  refine wG_i (by decide) ?_
  refine wLst_i ea ?_
  refine wG_i (by rw [List.length_map]; lia) ?_
  refine wG_i (by rw [List.length_map]; lia) ?_
  obtain ⟨f0, f1⟩ := fm (x := nb.fdiv 3) (k := (T.length : Int)) (by lia)
  simp only [List.length_map]
  refine it_any ea (by lia) f0 f1 ?_
  have hm := any_of f0 f1
  generalize hv : gt T ((nb.fdiv 3).fmod T.length) = v at hm ⊢
  have hl : (putField "left" (AV.ref (σ0 ++ τ0 : Sto).length) (putField "thrown" (AV.int v) x)).lookup ("left" : Str) = some (AV.ref (σ0 ++ τ0 : Sto).length) := lk_self
  have ht : (putField "left" (AV.ref (σ0 ++ τ0 : Sto).length) (putField "thrown" (AV.int v) x)).lookup ("thrown" : Str) = some (AV.int v) := by rw [lk_other (by decide)]; exact lk_self
  have el : (σ0 ++ τ0 ++ [⟨true, .list (T.map AV.int)⟩] : Sto)[(σ0 ++ τ0 : Sto).length]? = some ⟨true, .list (T.map AV.int)⟩ := mid_get
  have el2 : (σ0 ++ τ0 ++ [⟨true, .list ((T.erase v).map AV.int)⟩] : Sto)[(σ0 ++ τ0 : Sto).length]? = some ⟨true, .list ((T.erase v).map AV.int)⟩ := mid_get
  refine s_join (aeHd N a su st tu (.int nb) sp (putField "left" (AV.ref (σ0 ++ τ0 : Sto).length) (putField "thrown" (AV.int v) x))) (σ0 ++ τ0 ++ [⟨true, .list (T.map AV.int)⟩]) ?_ ?_
  ·refine sl_i ea 0 T.length (by rw [List.length_map]; lia) rfl (congrArg some (List.length_map ..)) ?_
   rw [List.drop_zero, Nat.sub_zero, List.take_of_length_le (Nat.le_of_eq (List.length_map ..))]
   exact ⟨rfl, rfl, rfl⟩
  have hlen : (T.erase v).length = T.length - 1 := List.length_erase_of_mem hm
  have hTe : HK (T.erase v) B := hT.sub List.erase_sublist
  generalize putField "left" (AV.ref (σ0 ++ τ0 : Sto).length) (putField "thrown" (AV.int v) x) = y at hl ht ⊢
  refine s_join (aeHd N a su st tu (.int nb) sp y) (σ0 ++ τ0 ++ [⟨true, .list ((T.erase v).map AV.int)⟩]) ?_ ?_
  ·refine nm_i hl ?_
   refine res_lm (name := "remove") el rfl ?_
   refine nm_i ht ?_
   refine wLst_i el ?_
   refine wG_i (by rw [List.length_map]; lia) ?_
   refine wInts_i ?_
   refine wG_i hm ?_
   exact ⟨rfl, rfl, mid_set⟩
  clear el ht
  refine s_cons ?_
  refine nm_i hl ?_
  refine wG_i (by decide) ?_
  refine wG_i (by decide) ?_
  obtain ⟨f2, f3⟩ := fm (x := nb.fdiv 42) (k := 9) (by decide)
  refine it_any (old_app (old_app h0)) (by decide) f2 f3 ?_
  obtain ⟨kd, -⟩ := lone_kd f2 f3
  generalize gt loneI ((nb.fdiv 42).fmod 9) = w at kd ⊢
  have eg : (σ0 ++ τ0 ++ [⟨true, .list ((T.erase v).map AV.int)⟩] ++ [⟨true, .list ([w].map AV.int)⟩] : Sto)[(σ0 ++ τ0 ++ [⟨true, .list ((T.erase v).map AV.int)⟩] : Sto).length]? = some ⟨true, .list ([w].map AV.int)⟩ := mid_get
  refine c285 (old_app el2) eg (by lia) (by simp) fun r τ2 b2 er => ?_
  obtain ⟨hA, hB⟩ := hTe.add (gok_same (n := 1) kd)
  have ea3 : (σ0 ++ τ0 ++ [⟨true, .list ((T.erase v).map AV.int)⟩] ++ [⟨true, .list ([w].map AV.int)⟩] ++ τ2 : Sto)[a]? = some ⟨b, .list (T.map AV.int)⟩ := old_app (old_app (old_app ea))
  have hal : (addV (T.erase v) [w]).length ≤ 100 := by
   unfold addV; split
   ·lia
   ·rw [List.length_append, List.length_singleton]; lia
  refine s_cons ?_
  refine nm_i (lk_self : (putField "after" (AV.ref r) y).lookup ("after" : Str) = some (AV.ref r)) ?_
  refine wLst_i er ?_
  refine wG_i (by rw [List.length_map]; lia) ?_
  refine wLst_i ea3 ?_
  refine wG_i (by rw [List.length_map]; lia) ?_
  refine wIf_beqI ?_
  simp only [List.length_map]
  refine if_split (fun q => ?_) (fun q => ?_)
  ·refine s_cons ?_
   refine nm_i (lk_self : (putField "after" (AV.ref r) y).lookup ("after" : Str) = some (AV.ref r)) ?_
   exact hk _ _ ⟨r, _, .int nb, _, _, b2, rfl, by simp only [List.append_assoc]; rfl, er, hA, by lia⟩
  ·exact hk _ _ ⟨a, _, .int nb, _, T, b, rfl, by simp only [List.append_assoc]; rfl, ea3, hT.mono (Nat.le_succ _), rfl⟩
 ·exact hk _ _ ⟨a, x, .int nb, τ0, T, b, rfl, rfl, ea, hT.mono (Nat.le_succ _), rfl⟩
theorem i11 {NL : List Int} (hN : NL.length = 11) {j : Int} (hj : j < 11) : j < NL.length := by rw [hN]; exact hj
theorem l11 {NL : List Int} (hN : NL.length = 11) : NL.length ≤ 100000 := by rw [hN]; decide
theorem m11 {NL : List Int} (hN : NL.length = 11) : (NL.map AV.int).length = 11 := by rw [List.length_map]; exact hN
set_option maxHeartbeats 2000000 in
theorem hd_for {tu nb sp : AV} {b c : Bool} {T NL : List Int} {B : Nat} (h0 : σ[0]? = some ⟨false, .list (loneI.map AV.int)⟩) (eN : σ[N]? = some ⟨c, .list (NL.map AV.int)⟩) (hN : NL.length = 11) (ea : σ[a]? = some ⟨b, .list (T.map AV.int)⟩) (hT : HK T B) (l0 : 0 < T.length) (l1 : T.length ≤ 14) :
  execS XW (callA XW (n + 1)) 40 (dScope 10 1000) (stB 8) (aeHd N a su st tu nb sp x) σ fun fl ae τ => fl = .next ∧ Chg σ N st su tu sp (B + 2) T.length ae τ := by
 have hm := m11 hN
 refine sl_i eN 6 8 (by rw [hm]; decide) (by rw [hm]; rfl) (by rw [hm]; rfl) ?_
 have hl2 : (((NL.map AV.int).drop 6).take (8 - 6)).length = 2 := by rw [List.length_take, List.length_drop, hm]; rfl
 have hz : ∀ v ∈ ((NL.map AV.int).drop 6).take (8 - 6), ∃ z, v = AV.int z := fun v hv => by
  obtain ⟨z, _, rfl⟩ := List.mem_map.mp (List.mem_of_mem_drop (List.mem_of_mem_take hv))
  exact ⟨z, rfl⟩
 clear eN hN hm
 generalize ((NL.map AV.int).drop 6).take (8 - 6) = l2 at hl2 hz ⊢
 have es : (σ ++ [⟨true, .list l2⟩] : Sto)[σ.length]? = some ⟨true, .list l2⟩ := mid_get
 refine lIter.mk (wAt_i es ?_)
 refine lockF.mk ?_
 refine fl_list (xs := l2) (fun vs ae τ => ∃ i, vs.length + i = 2 ∧ (∀ v ∈ vs, ∃ z, v = AV.int z) ∧ Chg (σ ++ [⟨true, .list l2⟩]) N st su tu sp (B + i) T.length ae τ) ?_ ?_ ?_ l2.length 0 1000 _ _ (Nat.zero_add _).symm (by rw [hl2]; decide) ⟨0, hl2, hz, a, x, nb, [], T, b, rfl, (List.append_nil _).symm, old_app ea, hT, rfl⟩
 ·rintro vs ae τ ⟨i, _, _, a, x, nb, τ1, T', b', _, rfl, _⟩
  exact ⟨true, old_app es⟩
 ·rintro v vs ae τ ⟨i, hi, hz, a, x, nb, τ1, T', b', rfl, hτ, ea', hT', hlT⟩
  obtain ⟨z, rfl⟩ := hz v (List.mem_cons_self ..)
  refine a_name (ae' := aeHd N a su st tu (.int z) sp x) (by rfl) ?_
  rw [← hlT] at l0 l1 ⊢
  refine hd_change hτ (old_app h0) ea' hT' l0 l1 fun ae τ hC => ?_
  exact ⟨i + 1, (Nat.add_right_comm ..).symm.trans hi, fun v hv => hz v (List.mem_cons_of_mem _ hv), hC⟩
 ·rintro ae τ ⟨i, hi, _, a, x, nb, τ1, T', b', rfl, rfl, ea', hT', hlT⟩
  obtain rfl : i = 2 := (Nat.zero_add i).symm.trans hi
  exact ⟨rfl, a, x, nb, [⟨true, .list l2⟩] ++ τ1, T', b', rfl, List.append_assoc .., ea', hT', hlT⟩
set_option maxHeartbeats 2000000 in
theorem hd_throw {tu nb sp : AV} {b c : Bool} {T NL : List Int} {B : Nat} {call : Addr → List AV → Sto → XE} (eN : σ[N]? = some ⟨c, .list (NL.map AV.int)⟩) (hN : NL.length = 11) (ea : σ[a]? = some ⟨b, .list (T.map AV.int)⟩) (hT : HK T B) (l0 : 0 < T.length) (l1 : T.length ≤ 14) :
  execS XW call 40 (dScope 10 1000) (stB 9) (aeHd N a su st tu nb sp x) σ fun fl ae τ => fl = .next ∧ ∃ l, (l = T.length ∨ l + 1 = T.length) ∧ Chg σ N st su tu sp B l ae τ := by
 refine it_any eN (l11 hN) (by decide) (i11 hN (by decide)) ?_
 refine wG_i (by decide) ?_
 refine wIf_beqI ?_
 refine if_split (fun q => ?_) (fun q => ?_)
 ·have hl : (putField "left" (AV.ref σ.length) x).lookup ("left" : Str) = some (AV.ref σ.length) := lk_self
  have el : (σ ++ [⟨true, .list (T.map AV.int)⟩] : Sto)[σ.length]? = some ⟨true, .list (T.map AV.int)⟩ := mid_get
  refine s_join (aeHd N a su st tu nb sp (putField "left" (AV.ref σ.length) x)) (σ ++ [⟨true, .list (T.map AV.int)⟩]) ?_ ?_
  ·refine sl_i ea 0 T.length (by rw [List.length_map]; lia) rfl (congrArg some (List.length_map ..)) ?_
   rw [List.drop_zero, Nat.sub_zero, List.take_of_length_le (Nat.le_of_eq (List.length_map ..))]
   exact ⟨rfl, rfl, rfl⟩
  generalize putField "left" (AV.ref σ.length) x = y at hl ⊢
  have ea2 : (σ ++ [⟨true, .list (T.map AV.int)⟩] : Sto)[a]? = some ⟨b, .list (T.map AV.int)⟩ := old_app ea
  obtain ⟨f0, f1⟩ := fm (x := (gt NL 8).fdiv 3) (k := (T.length : Int)) (by lia)
  have hm := any_of f0 f1
  refine s_join (aeHd N a su st tu nb sp y) (σ ++ [⟨true, .list ((T.erase (gt T (((gt NL 8).fdiv 3).fmod T.length))).map AV.int)⟩]) ?_ ?_
  ·refine nm_i hl ?_
   refine res_lm (name := "remove") el rfl ?_
   refine it_any (old_app eN) (l11 hN) (by decide) (i11 hN (by decide)) ?_
   refine wG_i (by decide) ?_
   refine wLst_i ea2 ?_
   refine wG_i (by rw [List.length_map]; lia) ?_
   refine wG_i (by rw [List.length_map]; lia) ?_
   simp only [List.length_map]
   refine it_any ea2 (by lia) f0 f1 ?_
   refine wLst_i el ?_
   refine wG_i (by rw [List.length_map]; lia) ?_
   refine wInts_i ?_
   refine wG_i hm ?_
   exact ⟨trivial, trivial, mid_set⟩
  have hlen := List.length_erase_of_mem hm
  refine s_cons ?_
  refine nm_i hl ?_
  exact ⟨rfl, _, .inr (by lia), σ.length, y, nb, _, _, true, rfl, rfl, mid_get, hT.sub List.erase_sublist, rfl⟩
 ·refine s_nil ?_
  exact ⟨rfl, _, .inl rfl, a, x, nb, [], T, b, rfl, by simp, ea, hT, rfl⟩
set_option maxHeartbeats 2000000 in
theorem hd_rest {σ0 τ0 : Sto} {L : List Int} {b : Bool} {t : Nat} {tu : Int} (hσ : σ = σ0 ++ τ0) (h0 : σ0[0]? = some ⟨false, .list (loneI.map AV.int)⟩) (ea : σ[a]? = some ⟨b, .list (L.map AV.int)⟩) (hL : HK L t) (ht : t < 4) (hl : L.length = 3 * t) :
  seqA (execS XW (callA XW (n + 1)) 39 (dScope 10 1000)) ((forBody (stB 3)).drop 2) (aeHd N a su st (.int tu) (.int nb) (.int sp) x) σ fun fl ae τ => fl = .next ∧ HInv σ0 N st (t + 1) ae τ := by
 subst hσ
 refine s_mid _ (hd_group (old_app h0)) ?_
 rintro _ _ ⟨su', g, G, x', rfl, hg, ⟨τ1, rfl⟩, eg, hG, hG3⟩
 have ea1 : (σ0 ++ τ0 ++ τ1)[a]? = some ⟨b, .list (L.map AV.int)⟩ := old_app ea
 refine s_cons ?_
 refine nm_i hg ?_
 refine c285 ea1 eg (by lia) (by lia) fun r τ2 b2 er => ?_
 obtain ⟨hA, hB⟩ := hL.add hG
 refine s_mid _ (hd_b4 (old_app (old_app (old_app h0))) (old_app ea1) er (lk_self : (putField "after" (AV.ref r) x').lookup ("after" : Str) = some (AV.ref r)) hL ht hl ?_ fun hne => ⟨hA, ?_⟩) ?_
 ·unfold addV; split
  ·lia
  ·rw [List.length_append]; lia
 ·rw [hB hne, List.length_append]; lia
 rintro _ _ ⟨r2, L2, b3, x2, rfl, hx2, ⟨τ3, rfl⟩, er2, hL2, hl2⟩
 refine s_cons ?_
 refine nm_i hx2 ?_
 exact ⟨rfl, τ0 ++ τ1 ++ τ2 ++ τ3, r2, su', L2, b3, by simp only [List.append_assoc], er2, hL2, hl2, .inr ⟨_, _, _, _, rfl⟩⟩
set_option maxHeartbeats 2000000 in
theorem hand_b {S : Sto} {b b1 : Bool} {NL L : List Int} {m : Nat} {tu : Int} {KK : KS} (h1 : S[0]? = some ⟨false, .list (loneI.map AV.int)⟩) (eN : S[N]? = some ⟨b, .list (NL.map AV.int)⟩) (hN : NL.length = 11) (ea : S[a]? = some ⟨b1, .list (L.map AV.int)⟩) (hL : HK L m) (hl : L.length = 3 * m) (hs1 : m ≤ 4)
  (hk : ∀ (a2 : Nat) (y : Loc) (sp2 : Int) (τ : Sto) (T : List Int), (S ++ τ)[a2]? = some ⟨true, .list (T.map AV.int)⟩ → HK T (m + 1) → T.length = 3 * m + 2 → seqA (execS XW (callA XW (n + 1)) 40 (dScope 10 1000)) ((dBody 10 1000).drop 8) (aeHd N a2 su m (.int tu) (.int nb) (.int sp2) y) (S ++ τ) KK) :
  seqA (execS XW (callA XW (n + 1)) 40 (dScope 10 1000)) ((dBody 10 1000).drop 4) (aeHd N a su m (.int tu) (.int nb) (.int sp) x) S KK := by
 refine s_mid _ (hd_kinds h1) ?_
 rintro _ S1 ⟨k, τ2, rfl, hS, ek⟩
 obtain ⟨f0, f1⟩ := fm (x := gt NL 5) (k := 27) (by decide)
 have eN1 : S1[N]? = some ⟨b, .list (NL.map AV.int)⟩ := hS ▸ old_app eN
 have ea1 : S1[a]? = some ⟨b1, .list (L.map AV.int)⟩ := hS ▸ old_app ea
 clear h1 eN ea
 have hx : (putField "kinds" (AV.ref k) x).lookup ("kinds" : Str) = some (AV.ref k) := lk_self
 generalize putField "kinds" (AV.ref k) x = y at hx ⊢
 have hl3 : L.length < 27 := by lia
 refine s_join (aeHd N a su m (.int tu) (.int nb) (.int ((gt NL 5).fmod 27)) y) S1 ?_ ?_
 ·refine it_any eN1 (l11 hN) (by decide) (i11 hN (by decide)) ?_
  refine wG_i (by decide) ?_
  exact ⟨rfl, rfl, rfl⟩
 refine s_mid _ (hd_while ea1 ek hx f0 f1 hl3) ?_
 clear f0 f1 eN1
 rintro _ _ ⟨sp2, rfl, rfl, s0, s1, hc⟩
 have hkd := kl_kd _ (kl_gt s0 s1)
 have w : ∀ (z : Int) (c : Cl) (ℓ : Nat), Kd z → L.count z ≤ 2 → ℓ = (S1 ++ [c] ++ [⟨true, .list ((List.replicate 2 z).map AV.int)⟩] : Sto).length → seqA (execS XW (callA XW (n + 1)) 40 (dScope 10 1000)) ((dBody 10 1000).drop 8) (aeHd N ℓ su m (.int tu) (.int nb) (.int sp2) y) (S1 ++ [c] ++ [⟨true, .list ((List.replicate 2 z).map AV.int)⟩] ++ [⟨true, .list (L.map AV.int ++ (List.replicate 2 z).map AV.int)⟩]) KK := by
  rintro z c _ hkd hc rfl
  rw [← List.map_append]
  have hL2 : HK (L ++ List.replicate 2 z) (m + 1) := hL.put (gok_same hkd) fun w hw => by
   rw [List.eq_of_mem_replicate hw, List.count_append, List.count_replicate_self]; exact Nat.add_le_add_right hc 2
  have hl2 : (L ++ List.replicate 2 z).length = 3 * m + 2 := by rw [List.length_append, List.length_replicate, hl]
  have := hk (S1 ++ [c] ++ [⟨true, .list ((List.replicate 2 z).map AV.int)⟩] : Sto).length y sp2 (τ2 ++ [c] ++ [⟨true, .list ((List.replicate 2 z).map AV.int)⟩] ++ [⟨true, .list ((L ++ List.replicate 2 z).map AV.int)⟩]) (L ++ List.replicate 2 z)
  rw [← List.append_assoc, ← List.append_assoc, ← List.append_assoc, ← hS] at this
  exact this mid_get hL2 hl2
 refine s_cons ?_
 refine nm_i hx ?_
 refine it_any ek (by decide) s0 s1 ?_
 refine wLst_new ?_
 refine wG_i ⟨by show 1 * 2 ≤ 100000; decide, by decide⟩ ?_
 refine wLst_i (old_app (old_app ea1)) ?_
 refine wLst_new ?_
 refine wG_i (by rw [List.length_map]; show L.length + 2 ≤ 100000; lia) ?_
 exact w _ _ _ hkd hc rfl
set_option maxHeartbeats 2000000 in
theorem hand_c {S : Sto} {b b1 : Bool} {NL T : List Int} {m : Nat} {tu nb sp : AV} {K : KE} (h0 : S[0]? = some ⟨false, .list (loneI.map AV.int)⟩) (eN : S[N]? = some ⟨b, .list (NL.map AV.int)⟩) (hN : NL.length = 11) (ea : S[a]? = some ⟨b1, .list (T.map AV.int)⟩) (hT : HK T (m + 1)) (hl : T.length = 3 * m + 2) (hs1 : m ≤ 4)
  (hq : ∀ (r : Nat) (τ : Sto) (T : List Int), (T.length = 3 * m + 2 ∨ T.length = 3 * m + 1) → HK T (m + 3) → T.Pairwise (· ≤ ·) → (S ++ τ)[r]? = some ⟨true, .list (T.map AV.int)⟩ → K (.ref r) (S ++ τ)) :
  seqA (execS XW (callA XW (n + 1)) 40 (dScope 10 1000)) ((dBody 10 1000).drop 8) (aeHd N a su m tu nb sp x) S (callK K) := by
 have l0 : 0 < T.length := by lia
 have l1 : T.length ≤ 14 := by lia
 refine s_mid _ (hd_for h0 eN hN ea hT l0 l1) ?_
 rintro _ S1 ⟨a3, x3, nb3, τ4, T3, b3, rfl, hS1, ea3, hT3, hl3⟩
 have eN1 : S1[N]? = some ⟨b, .list (NL.map AV.int)⟩ := hS1 ▸ old_app eN
 rw [← hl3] at l0 l1 hl
 clear h0 eN ea hT hl3
 refine s_mid _ (hd_throw eN1 hN ea3 hT3 l0 l1) ?_
 rintro _ S2 ⟨l4, hl4, a4, x4, nb4, τ5, T4, b4, rfl, hS2, ea4, hT4, hlT4⟩
 clear eN1 ea3 hT3
 have l4' : T4.length ≤ 14 := by lia
 have l5 : T4.length = 3 * m + 2 ∨ T4.length = 3 * m + 1 := hl4.imp (fun h => by lia) fun h => by lia
 refine s_cons ?_
 refine wLst_i ea4 ?_
 refine wInts_i ?_
 refine wG_i (by rw [List.length_map]; lia) ?_
 refine wSorted_i fun T5 hp hs => ?_
 have := hq S2.length (τ4 ++ τ5 ++ [⟨true, .list (T5.map AV.int)⟩]) T5 (by rw [hp.length_eq]; exact l5) (hT4.perm hp) hs
 rw [← List.append_assoc, ← List.append_assoc, ← hS1, ← hS2] at this
 exact this mid_get
set_option maxHeartbeats 2000000 in
theorem c290 {b : Bool} {NL : List Int} {K : KE} (h0 : σ[0]? = some ⟨false, .list (loneI.map AV.int)⟩) (eN : σ[N]? = some ⟨b, .list (NL.map AV.int)⟩) (hN : NL.length = 11) (hq : ∀ (r : Nat) (τ : Sto) (T : List Int) (m : Nat), 1 ≤ m → m ≤ 4 → (T.length = 3 * m + 2 ∨ T.length = 3 * m + 1) → HK T (m + 3) → T.Pairwise (· ≤ ·) → (σ ++ τ)[r]? = some ⟨true, .list (T.map AV.int)⟩ → K (.ref r) (σ ++ τ)) : lCall (callA XW (n + 1 + 1)) 290 [.ref N] σ K := by
 refine lCall.mk (call_of (fn := fnAt 10 1000 []) (ae := [("numbers", .ref N)]) (by rfl) ?_)
 obtain ⟨f0, f1⟩ := fm (x := gt NL 0) (k := 4) (by decide)
 refine s_cons ?_
 refine s_cons ?_
 have eN1 : (σ ++ [⟨true, .list []⟩] : Sto)[N]? = some ⟨b, .list (NL.map AV.int)⟩ := old_app eN
 obtain ⟨m, hm⟩ : ∃ m : Nat, 1 + (gt NL 0).fmod 4 = m := ⟨(1 + (gt NL 0).fmod 4).toNat, (Int.toNat_of_nonneg (by lia)).symm⟩
 refine s_join (aeHs N σ.length 0 m) (σ ++ [⟨true, .list []⟩]) ?_ ?_
 ·refine it_any eN1 (l11 hN) (by decide) (i11 hN (by decide)) ?_
  refine wG_i (by decide) ?_
  exact ⟨rfl, by rw [← hm]; rfl, rfl⟩
 have hs0 : 1 ≤ m := by lia
 have hs1 : m ≤ 4 := by lia
 clear hm f0 f1
 refine s_mid (HInv σ N m m) ?_ ?_
 ·refine lIter.mk (wAt_new ?_)
  obtain ⟨r1, r2⟩ := rng4 hs0 hs1
  refine wG_i r1 ?_
  rw [r2]
  refine lockF.mk ?_
  refine fl_rng (m := m) (HInv σ N m) ?_ (fun ae τ I => ⟨rfl, I⟩) m 0 1000 _ _ (by lia) (by lia) ⟨_, σ.length, 0, [], true, List.append_assoc .., old_app last_get, HK.nil, rfl, .inl ⟨rfl, rfl⟩⟩
  rintro t ae τ ht ⟨τ1, a, su, L, b1, rfl, ea, hL, hl, hae⟩
  have eN2 : (σ ++ τ1)[N]? = some ⟨b, .list (NL.map AV.int)⟩ := old_app eN
  have ht4 : t < 4 := Nat.lt_of_lt_of_le ht hs1
  have j0 : (0 : Int) ≤ 1 + (t : Int) := by lia
  have j1 : 1 + (t : Int) < 11 := by lia
  clear hq eN1 hs0 hs1 ht
  rcases hae with ⟨_, rfl⟩ | ⟨tu, nb, sp, x, rfl⟩
  ·refine a_name (ae' := ("numbers", .ref N) :: ("tiles", .ref a) :: ("suited", .int su) :: ("sets", .int m) :: [("turn", .int t)]) (by rfl) ?_
   refine s_cons ?_
   refine it_any eN2 (l11 hN) j0 (i11 hN j1) ?_
   refine s_cons ?_
   refine wG_i (by decide) ?_
   exact hd_rest (x := []) rfl h0 ea hL ht4 hl
  ·refine a_name (ae' := aeHd N a su m (.int t) (.int nb) (.int sp) x) (by rfl) ?_
   refine s_cons ?_
   refine it_any eN2 (l11 hN) j0 (i11 hN j1) ?_
   refine s_cons ?_
   refine wG_i (by decide) ?_
   exact hd_rest (x := x) rfl h0 ea hL ht4 hl
 rintro ae S ⟨τ1, a, su, L, b1, hS, ea, hL, hl, ⟨hm, _⟩ | ⟨tu, nb, sp, x, rfl⟩⟩
 ·exact absurd hm (Nat.ne_of_gt hs0)
 have h1 : S[0]? = some ⟨false, .list (loneI.map AV.int)⟩ := hS ▸ old_app h0
 have eN2 : S[N]? = some ⟨b, .list (NL.map AV.int)⟩ := hS ▸ old_app eN
 refine hand_b h1 eN2 hN ea hL hl hs1 fun a2 y sp2 τ T ea2 hT hlT => ?_
 refine hand_c (old_app h1) (old_app eN2) hN ea2 hT hlT hs1 fun r τ' T' h3 h4 h5 h6 => ?_
 have := hq r (τ1 ++ τ ++ τ') T' m hs0 hs1 h3 h4 h5
 rw [← List.append_assoc, ← List.append_assoc, ← hS] at this
 exact this h6
end
end
set_option tactic.hygienic false
noncomputable def NumIs (ss : List (List T)) (a : O) (jd v : Int) : Prop := (∀ b, HOut ss a b → v ≤ retO jd b) ∧ v ≤ 8 ∧ (v = 8 ∨ ∃ b, HOut ss a b ∧ v = retO jd b)
theorem NumIs.uniq {ss : List (List T)} {a : O} {jd v v' : Int} (h : NumIs ss a jd v) (h' : NumIs ss a jd v') : v = v' := by
 obtain ⟨h1, h2, h3⟩ := h
 obtain ⟨g1, g2, g3⟩ := h'
 refine Int.le_antisymm ?_ ?_
 ·rcases g3 with rfl | ⟨b, hb, rfl⟩
  ·exact h2
  ·exact h1 b hb
 ·rcases h3 with rfl | ⟨b, hb, rfl⟩
  ·exact g2
  ·exact g1 b hb
theorem retO_low {jd : Int} {o : O} (h : 0 ≤ jd) : -1 ≤ retO jd o ∧ (retO jd o = -1 ↔ rV o = -1) := by
 unfold retO
 split <;> lia -abstractProof
theorem num_ex {ss : List (List T)} {a : O} {jd : Int} (hj : 0 ≤ jd) : ∃ r, NumIs ss a jd r := by
 have : ∀ (k : Nat) (v : Int), v ≤ 8 → v < k → (v = 8 ∨ ∃ b, HOut ss a b ∧ v = retO jd b) → ∃ r, NumIs ss a jd r := by
  intro k
  induction k with
  | zero => exact fun v h8 hk hv => ⟨v, fun b hb => Int.le_trans (Int.le_sub_one_of_lt hk) (retO_low hj).1, h8, hv⟩
  | succ k ih =>
   intro v h8 hk hv
   by_cases q : ∀ b, HOut ss a b → v ≤ retO jd b
   ·exact ⟨v, q, h8, hv⟩
   ·obtain ⟨b, q⟩ := Classical.not_forall.mp q
    obtain ⟨hb, q⟩ := Classical.not_imp.mp q
    exact ih (retO jd b) (by lia -abstractProof) (by lia -abstractProof) (.inr ⟨b, hb, rfl⟩)
 exact this 9 8 (by decide) (by decide) (.inl rfl)
set_option tactic.hygienic true
section
noncomputable def oz : O := ⟨0, 0, 0, false, false⟩
noncomputable def oplus (x c : O) : O := ⟨x.m + c.m, x.t + c.t, x.p + c.p, x.a || c.a, x.g || c.g⟩
theorem O_ext {x y : O} (h1 : x.m = y.m) (h2 : x.t = y.t) (h3 : x.p = y.p) (h4 : x.a = y.a) (h5 : x.g = y.g) : x = y := by
 cases x; cases y; cases h1; cases h2; cases h3; cases h4; cases h5; rfl
theorem oplus_oz {c : O} : oplus oz c = c := O_ext (Int.zero_add _) (Int.zero_add _) (Int.zero_add _) rfl rfl
theorem oplus_assoc {x y z : O} : oplus (oplus x y) z = oplus x (oplus y z) := O_ext (Int.add_assoc ..) (Int.add_assoc ..) (Int.add_assoc ..) (Bool.or_assoc ..) (Bool.or_assoc ..)
theorem oplus_comm {x y : O} : oplus x y = oplus y x := O_ext (Int.add_comm ..) (Int.add_comm ..) (Int.add_comm ..) (Bool.or_comm ..) (Bool.or_comm ..)
section
variable {x c : O} {f : Bool} {hd : List T}
theorem oM_p : oM (oplus x c) = oplus (oM x) c := O_ext (Int.add_right_comm ..) rfl rfl rfl rfl
theorem oT_p : oT (oplus x c) = oplus (oT x) c := O_ext rfl (Int.add_right_comm ..) rfl rfl rfl
theorem oP_p : oP (oplus x c) = oplus (oP x) c := O_ext rfl rfl (Int.add_right_comm ..) rfl rfl
theorem oI_p : oI f (oplus x c) = oplus (oI f x) c := O_ext rfl rfl rfl rfl (Bool.or_right_comm ..)
noncomputable abbrev mv (c : O) (q : O × List T) : O × List T := (oplus q.1 c, q.2)
theorem sTwo_p : ∀ r, sTwo hd (oplus x c) r = (sTwo hd x r).map (mv c)
 | [] => rfl
 | [_] => rfl
 | b :: d :: r => by unfold sTwo; rw [mp_ite, List.map_append, mp_ite, oM_p, oT_p]; rfl
theorem sOne_p : ∀ r, sOne (oplus x c) r = (sOne x r).map (mv c)
 | [] => rfl
 | b :: r => by unfold sOne; rw [mp_ite, oT_p]; rfl
theorem sT2_p : ∀ r, sT2 (oplus x c) r = (sT2 x r).map (mv c)
 | [] => rfl
 | [_] => rfl
 | b :: d :: r => by unfold sT2; rw [mp_ite, oT_p]; rfl
theorem sMid_p : ∀ r, sMid (oplus x c) r = (sMid x r).map (mv c)
 | [] => rfl
 | [t] => show sOne (oplus x c) [t] = (sOne x [t]).map (mv c) from sOne_p _
 | b :: d :: r => by
  show (if b.1 ≠ 0 ∧ d.1 ≠ 0 then [(oM (oplus x c), dc b :: dc d :: r)] else sT2 (oplus x c) (b :: d :: r) ++ sOne (oplus x c) (b :: d :: r)) = (if b.1 ≠ 0 ∧ d.1 ≠ 0 then [(oM x, dc b :: dc d :: r)] else sT2 x (b :: d :: r) ++ sOne x (b :: d :: r)).map (mv c)
  rw [mp_ite, List.map_append, oM_p, sT2_p, sOne_p]; rfl
theorem sDbl_p : ∀ r, sDbl (oplus x c) f r = (sDbl x f r).map (mv c)
 | [] => rfl
 | [_] => rfl
 | b :: d :: r => by unfold sDbl; rw [mp_ite, oM_p, oM_p]; rfl
theorem sSyu_p : ∀ r, sSyu (oplus x c) f r = (sSyu x f r).map (mv c)
 | [] => rfl
 | [_] => rfl
 | b :: d :: r => by unfold sSyu; rw [mp_ite, oM_p]; rfl
theorem sEls_p (r : List T) : sEls (oplus x c) f r = (sEls x f r).map (mv c) := by
 unfold sEls; rw [List.map_append, List.map_append, oI_p, sTwo_p, sOne_p]; rfl
theorem sOn1_p : ∀ r, sOn1 (oplus x c) f r = (sOn1 x f r).map (mv c)
 | [] => sEls_p _
 | [_] => sEls_p _
 | [_, _] => sEls_p _
 | b :: d :: e :: r => by
  show (if b.1 = 1 ∧ d.1 ≠ 0 ∧ e.1 ≠ 4 then [(oM (oplus x c), dc d :: e :: r)] else sEls (oplus x c) f (b :: d :: e :: r)) = (if b.1 = 1 ∧ d.1 ≠ 0 ∧ e.1 ≠ 4 then [(oM x, dc d :: e :: r)] else sEls x f (b :: d :: e :: r)).map (mv c)
  rw [mp_ite, oM_p, sEls_p]; rfl
theorem sopts_p : ∀ s, sopts (oplus x c) s = (sopts x s).map (mv c)
 | [] => rfl
 | t :: r => by
  unfold sopts
  rw [mp_ite, mp_ite, mp_ite, mp_ite, mp_ite]
  simp only [List.map_append, oM_p, oP_p, oI_p, sTwo_p, sOne_p, sMid_p, sDbl_p, sSyu_p, sOn1_p]
  rfl
end
theorem SOut.plus {s : List T} {a b : O} (c : O) (h : SOut s a b) : SOut s (oplus a c) (oplus b c) := by
 induction h with
 | nil => exact .nil
 | step h _ ih => exact .step (by rw [sopts_p]; exact List.mem_map.mpr ⟨_, h, rfl⟩) ih
theorem SOut.base {s : List T} {a b : O} (h : SOut s a b) : ∃ o, SOut s oz o ∧ b = oplus o a := by
 induction h with
 | nil => exact ⟨oz, .nil, oplus_oz.symm⟩
 | @step a a' b s s' h _ ih =>
  obtain ⟨o, h1, rfl⟩ := ih
  rw [show a = oplus oz a from oplus_oz.symm, sopts_p] at h
  obtain ⟨⟨x, s2⟩, hx, e⟩ := List.mem_map.mp h
  obtain ⟨e1, e2⟩ := Prod.mk.inj (show (oplus x a, s2) = (a', s') from e)
  subst e1 e2
  refine ⟨oplus o x, .step hx ?_, oplus_assoc.symm⟩
  have := h1.plus x
  rw [oplus_oz] at this
  exact this
theorem hout_swap {s t : List T} {ss : List (List T)} {a b : O} (h : HOut (s :: t :: ss) a b) : HOut (t :: s :: ss) a b := by
 obtain ⟨c, h1, d, h2, h3⟩ := h
 obtain ⟨o1, g1, rfl⟩ := h1.base
 obtain ⟨o2, g2, rfl⟩ := h2.base
 have k2 := g2.plus a
 rw [oplus_oz] at k2
 have k1 := g1.plus (oplus o2 a)
 rw [oplus_oz] at k1
 refine ⟨_, k2, _, k1, ?_⟩
 rw [← oplus_assoc, oplus_comm (x := o1), oplus_assoc]
 exact h3
theorem num_swap {s t : List T} {ss : List (List T)} {a : O} {jd v : Int} (h : NumIs (s :: t :: ss) a jd v) : NumIs (t :: s :: ss) a jd v :=
 ⟨fun b hb => h.1 b (hout_swap hb), h.2.1, h.2.2.imp id fun ⟨b, hb, e⟩ => ⟨b, hout_swap hb, e⟩⟩
end
section
inductive FS : List T → Int → Prop
 | nil : FS [] 0
 | zero {f : Bool} {r : List T} {y : Int} (h : FS r y) : FS ((0, f) :: r) y
 | set {c y : Int} {f : Bool} {r : List T} (h : 3 ≤ c) (k : FS ((c - 3, f) :: r) y) : FS ((c, f) :: r) y
 | pair {c y : Int} {f : Bool} {r : List T} (h : 2 ≤ c) (k : FS ((c - 2, f) :: r) y) : FS ((c, f) :: r) (y + 1)
 | run {a b c : T} {r : List T} {y : Int} (h1 : 1 ≤ a.1) (h2 : 1 ≤ b.1) (h3 : 1 ≤ c.1) (k : FS (dc a :: dc b :: dc c :: r) y) : FS (a :: b :: c :: r) y
noncomputable def totS : List T → Int
 | [] => 0
 | t :: r => t.1 + totS r
noncomputable def wt (x : O) : Int := 3 * x.m + 2 * x.t + 2 * x.p
noncomputable def NNs (s : List T) : Prop := ∀ t ∈ s, 0 ≤ t.1
theorem NNs.cons {t : T} {r : List T} : NNs (t :: r) ↔ 0 ≤ t.1 ∧ NNs r := by unfold NNs; simp
theorem NNs.tot {s : List T} (h : NNs s) : 0 ≤ totS s := by
 induction s with
 | nil => exact Int.le_refl _
 | cons t r ih => obtain ⟨a, b⟩ := NNs.cons.mp h; have := ih b; show 0 ≤ t.1 + totS r; lia -abstractProof
structure Op (s : List T) (a : O) (q : O × List T) : Prop where
 nn : NNs q.2
 w : wt q.1 + totS q.2 ≤ wt a + totS s
 t0 : a.t ≤ q.1.t
 p0 : a.p ≤ q.1.p
 m0 : a.m ≤ q.1.m
 fs : wt q.1 + totS q.2 = wt a + totS s → q.1.t = a.t → ∀ y, FS q.2 y → FS s (y + (q.1.p - a.p))
theorem mem_two {hd : List T} {x : O} {r : List T} {q : O × List T} (h : q ∈ sTwo hd x r) : ∃ b c r', r = b :: c :: r' ∧ c.1 ≠ 0 ∧ ((b.1 ≠ 0 ∧ q = (oM x, hd ++ dc b :: dc c :: r')) ∨ q = (oT x, b :: dc c :: r')) := by
 match r, h with
 | b :: c :: r', h =>
  have h : q ∈ (if c.1 ≠ 0 then (if b.1 ≠ 0 then [(oM x, hd ++ dc b :: dc c :: r')] else []) ++ [(oT x, b :: dc c :: r')] else []) := h
  split at h
  ·rename_i hc
   refine ⟨b, c, r', rfl, hc, ?_⟩
   rcases List.mem_append.mp h with h | h
   ·split at h
    ·rename_i hb; exact .inl ⟨hb, List.mem_singleton.mp h⟩
    ·cases h
   ·exact .inr (List.mem_singleton.mp h)
  ·cases h
theorem mem_one {x : O} {r : List T} {q : O × List T} (h : q ∈ sOne x r) : ∃ b r', r = b :: r' ∧ b.1 ≠ 0 ∧ q = (oT x, dc b :: r') := by
 match r, h with
 | b :: r', h =>
  have h : q ∈ (if b.1 ≠ 0 then [(oT x, dc b :: r')] else []) := h
  split at h
  ·rename_i hb; exact ⟨b, r', rfl, hb, List.mem_singleton.mp h⟩
  ·cases h
theorem mem_t2 {x : O} {r : List T} {q : O × List T} (h : q ∈ sT2 x r) : ∃ b c r', r = b :: c :: r' ∧ c.1 ≠ 0 ∧ q = (oT x, b :: dc c :: r') := by
 match r, h with
 | b :: c :: r', h =>
  have h : q ∈ (if c.1 ≠ 0 then [(oT x, b :: dc c :: r')] else []) := h
  split at h
  ·rename_i hc; exact ⟨b, c, r', rfl, hc, List.mem_singleton.mp h⟩
  ·cases h
section
variable {a : O} {c : Int} {f : Bool} {r : List T} {q : O × List T}
theorem Op.tatsu {x : O} {s : List T} (nn : NNs q.2) (w : wt q.1 + totS q.2 ≤ wt a + totS s) (ht : q.1.t = a.t + 1) (p0 : a.p ≤ q.1.p) (m0 : a.m ≤ q.1.m) : Op s a q := ⟨nn, w, by lia -abstractProof, p0, m0, fun _ h => by lia -abstractProof⟩
theorem op_two {hd : List T} {x : O} (nr : NNs r) (nh : NNs hd) (ht : x.t = a.t) (hp : a.p ≤ x.p) (hm : a.m ≤ x.m) (hw : wt x + totS hd + 1 ≤ wt a + c) (h1 : 1 ≤ c) (hw2 : wt x + 1 ≤ wt a + c)
  (hf : ∀ b d r' y, r = b :: d :: r' → 1 ≤ b.1 → 1 ≤ d.1 → wt x + totS hd + 1 = wt a + c → FS (hd ++ dc b :: dc d :: r') y → FS ((c, f) :: b :: d :: r') (y + (x.p - a.p))) (h : q ∈ sTwo hd x r) : Op ((c, f) :: r) a q := by
 obtain ⟨b, d, r', rfl, hd0, h⟩ := mem_two h
 obtain ⟨nb, nr⟩ := NNs.cons.mp nr
 obtain ⟨nd, nr⟩ := NNs.cons.mp nr
 have happ : ∀ l l' : List T, totS (l ++ l') = totS l + totS l' := by
  intro l l'
  induction l with
  | nil => exact (Int.zero_add _).symm
  | cons t l ih => show t.1 + totS (l ++ l') = t.1 + totS l + totS l'; rw [ih]; lia -abstractProof
 rcases h with ⟨hb0, rfl⟩ | rfl
 ·have tt : totS (hd ++ dc b :: dc d :: r') = totS hd + ((b.1 - 1) + ((d.1 - 1) + totS r')) := happ _ _
  refine ⟨?_, ?_, by show a.t ≤ x.t; lia -abstractProof, hp, by show a.m ≤ x.m + 1; lia -abstractProof, fun e _ y hy => ?_⟩
  ·intro t ht
   rcases List.mem_append.mp ht with ht | ht
   ·exact nh t ht
   ·rcases List.mem_cons.mp ht with rfl | ht
    ·show 0 ≤ b.1 - 1; lia -abstractProof
    ·rcases List.mem_cons.mp ht with rfl | ht
     ·show 0 ≤ d.1 - 1; lia -abstractProof
     ·exact nr t ht
  ·show wt (oM x) + totS (hd ++ dc b :: dc d :: r') ≤ wt a + (c + (b.1 + (d.1 + totS r')))
   rw [tt]; unfold wt oM at *; dsimp only at *; lia -abstractProof
  ·have e : wt (oM x) + totS (hd ++ dc b :: dc d :: r') = wt a + (c + (b.1 + (d.1 + totS r'))) := e
   rw [tt] at e
   exact hf b d r' y rfl (by lia -abstractProof) (by lia -abstractProof) (by unfold wt oM at *; dsimp only at *; lia -abstractProof) hy
 ·refine .tatsu (x := x) ?_ ?_ (by show x.t + 1 = _; lia -abstractProof) hp hm
  ·exact NNs.cons.mpr ⟨nb, NNs.cons.mpr ⟨by show 0 ≤ d.1 - 1; lia -abstractProof, nr⟩⟩
  ·show wt (oT x) + (b.1 + ((d.1 - 1) + totS r')) ≤ wt a + (c + (b.1 + (d.1 + totS r')))
   unfold wt oT at *; dsimp only at *; lia -abstractProof
theorem op_one {x : O} (nr : NNs r) (ht : x.t = a.t) (hp : a.p ≤ x.p) (hm : a.m ≤ x.m) (hw : wt x + 1 ≤ wt a + c) (h : q ∈ sOne x r) : Op ((c, f) :: r) a q := by
 obtain ⟨b, r', rfl, hb0, rfl⟩ := mem_one h
 obtain ⟨nb, nr⟩ := NNs.cons.mp nr
 refine .tatsu (x := x) (NNs.cons.mpr ⟨by show 0 ≤ b.1 - 1; lia -abstractProof, nr⟩) ?_ (by show x.t + 1 = _; lia -abstractProof) hp hm
 show wt (oT x) + ((b.1 - 1) + totS r') ≤ wt a + (c + (b.1 + totS r'))
 unfold wt oT at *; dsimp only at *; lia -abstractProof
theorem op_t2 {x : O} (nr : NNs r) (ht : x.t = a.t) (hp : a.p ≤ x.p) (hm : a.m ≤ x.m) (hw : wt x + 1 ≤ wt a + c) (h : q ∈ sT2 x r) : Op ((c, f) :: r) a q := by
 obtain ⟨b, d, r', rfl, hb0, rfl⟩ := mem_t2 h
 obtain ⟨nb, nr⟩ := NNs.cons.mp nr
 obtain ⟨nd, nr⟩ := NNs.cons.mp nr
 refine .tatsu (x := x) (NNs.cons.mpr ⟨nb, NNs.cons.mpr ⟨by show 0 ≤ d.1 - 1; lia -abstractProof, nr⟩⟩) ?_ (by show x.t + 1 = _; lia -abstractProof) hp hm
 show wt (oT x) + (b.1 + ((d.1 - 1) + totS r')) ≤ wt a + (c + (b.1 + (d.1 + totS r')))
 unfold wt oT at *; dsimp only at *; lia -abstractProof
theorem op_iso {x : O} {g : Bool} (nr : NNs r) (ht : x.t = a.t) (hp : a.p ≤ x.p) (hm : a.m ≤ x.m) (hw : wt x + 1 ≤ wt a + c) : Op ((c, f) :: r) a (oI g x, r) := by
 have hx : wt (oI g x) = wt x := rfl
 refine ⟨nr, ?_, by show a.t ≤ x.t; lia -abstractProof, hp, hm, fun e => ?_⟩
 ·show wt (oI g x) + totS r ≤ wt a + (c + totS r)
  rw [hx]; lia -abstractProof
 ·have e : wt (oI g x) + totS r = wt a + (c + totS r) := e
  rw [hx] at e; lia -abstractProof
end
theorem FS.cast {s : List T} {y y' : Int} (e : y = y') (h : FS s y) : FS s y' := e ▸ h
theorem wt_M (x : O) : wt (oM x) = wt x + 3 := by unfold wt oM; dsimp only; lia -abstractProof
theorem wt_P (x : O) : wt (oP x) = wt x + 2 := by unfold wt oP; dsimp only; lia -abstractProof
theorem wt_MM (x : O) : wt (oM (oM x)) = wt x + 6 := by rw [wt_M, wt_M, Int.add_assoc]; rfl
theorem wt_MP (x : O) : wt (oM (oP x)) = wt x + 5 := by rw [wt_M, wt_P, Int.add_assoc]; rfl
theorem p0 (x : Int) : x = x + 0 := (Int.add_zero x).symm
theorem ar_1 (b d t : Int) {c z : Int} (h : z = c + 2) : b - 1 + (d - 1 + t) + z = c + (b + (d + t)) := by subst h; lia -abstractProof
theorem op_mk {s : List T} {a : O} {q : O × List T} (dp z : Int) (e1 : q.1.t = a.t) (e2 : q.1.p = a.p + dp) (hp : 0 ≤ dp) (e3 : a.m ≤ q.1.m) (ew : wt q.1 = wt a + z) (hs : totS q.2 + z ≤ totS s) (nn : NNs q.2) (fs : ∀ y, FS q.2 y → FS s (y + dp)) : Op s a q := by
 refine ⟨nn, by rw [ew]; lia -abstractProof, Int.le_of_eq e1.symm, by rw [e2]; exact Int.le_add_of_nonneg_right hp, e3, fun _ _ y hy => ?_⟩
 rw [e2, Int.add_comm a.p, Int.add_sub_cancel]
 exact fs y hy
theorem fs_0 {s : List T} {y : Int} (h : FS s y) : FS s (y + 0) := .cast (p0 y) h
theorem nn_dd {b d : T} {r : List T} (n : NNs (b :: d :: r)) (hb : b.1 ≠ 0) (hd : d.1 ≠ 0) : NNs (dc b :: dc d :: r) ∧ 1 ≤ b.1 ∧ 1 ≤ d.1 := by
 obtain ⟨nb, n⟩ := NNs.cons.mp n
 obtain ⟨nd, n⟩ := NNs.cons.mp n
 have hb : 1 ≤ b.1 := by lia -abstractProof
 have hd : 1 ≤ d.1 := by lia -abstractProof
 exact ⟨NNs.cons.mpr ⟨Int.sub_nonneg_of_le hb, NNs.cons.mpr ⟨Int.sub_nonneg_of_le hd, n⟩⟩, hb, hd⟩
theorem le_M (a : O) : a.m ≤ (oM a).m := Int.le_add_of_nonneg_right (by decide)
theorem le_P (a : O) : a.p ≤ (oP a).p := Int.le_add_of_nonneg_right (by decide)
theorem w_M4 (a : O) : wt (oM a) + 1 ≤ wt a + 4 := by rw [wt_M, Int.add_assoc]; exact Int.le_refl _
theorem w_P3 (a : O) : wt (oP a) + 1 ≤ wt a + 3 := by rw [wt_P, Int.add_assoc]; exact Int.le_refl _
theorem s_cases {a : O} {c : Int} {f : Bool} {r : List T} {q : O × List T} (hq : q ∈ sopts a ((c, f) :: r)) :
  (c = 4 ∧ (q ∈ sTwo [] (oM a) r ∨ q ∈ sOne (oM a) r ∨ q = (oI f (oM a), r) ∨ q ∈ sTwo [(1, f)] (oP a) r ∨ q ∈ sOne (oP a) r)) ∨ (c = 3 ∧ (q = (oM a, r) ∨ q ∈ sMid (oP a) r ∨ q ∈ sDbl a f r)) ∨ (c = 2 ∧ (q = (oP a, r) ∨ q ∈ sSyu a f r)) ∨ (c = 1 ∧ q ∈ sOn1 a f r) ∨ (c = 0 ∧ q = (a, r)) := by
 by_cases h4 : c = 4
 ·subst h4
  have hq : q ∈ sTwo [] (oM a) r ++ sOne (oM a) r ++ [(oI f (oM a), r)] ++ sTwo [(1, f)] (oP a) r ++ sOne (oP a) r := hq
  refine .inl ⟨rfl, ?_⟩
  rcases List.mem_append.mp hq with h | h
  ·rcases List.mem_append.mp h with h | h
   ·rcases List.mem_append.mp h with h | h
    ·exact (List.mem_append.mp h).imp id .inl
    ·exact .inr (.inr (.inl (List.mem_singleton.mp h)))
   ·exact .inr (.inr (.inr (.inl h)))
  ·exact .inr (.inr (.inr (.inr h)))
 by_cases h3 : c = 3
 ·subst h3
  have hq : q ∈ [(oM a, r)] ++ sMid (oP a) r ++ sDbl a f r := hq
  refine .inr (.inl ⟨rfl, ?_⟩)
  rcases List.mem_append.mp hq with h | h
  ·exact (List.mem_append.mp h).imp List.mem_singleton.mp .inl
  ·exact .inr (.inr h)
 by_cases h2 : c = 2
 ·subst h2
  have hq : q ∈ [(oP a, r)] ++ sSyu a f r := hq
  exact .inr (.inr (.inl ⟨rfl, (List.mem_append.mp hq).imp List.mem_singleton.mp id⟩))
 by_cases h1 : c = 1
 ·subst h1
  exact .inr (.inr (.inr (.inl ⟨rfl, hq⟩)))
 by_cases h0 : c = 0
 ·subst h0
  exact .inr (.inr (.inr (.inr ⟨rfl, List.mem_singleton.mp hq⟩)))
 ·have hq : q ∈ (if (c, f).1 = 4 then _ else if (c, f).1 = 3 then _ else if (c, f).1 = 2 then _ else if (c, f).1 = 1 then _ else if (c, f).1 = 0 then _ else []) := hq
  rw [if_neg (c := (c, f).1 = 4) h4, if_neg (c := (c, f).1 = 3) h3, if_neg (c := (c, f).1 = 2) h2, if_neg (c := (c, f).1 = 1) h1, if_neg (c := (c, f).1 = 0) h0] at hq
  cases hq
theorem op_of {a : O} {s : List T} (ns : NNs s) : ∀ q ∈ sopts a s, Op s a q := by
 intro q hq
 cases s with
 | nil => cases hq
 | cons t r =>
 obtain ⟨c, f⟩ := t
 obtain ⟨nc, nr⟩ := NNs.cons.mp ns
 have nn1 : ∀ {r : List T}, NNs r → NNs (((1, f) : T) :: r) := fun h => NNs.cons.mpr ⟨(by decide : (0 : Int) ≤ 1), h⟩
 have n0 : NNs ([] : List T) := fun t ht => by cases ht
 clear ns
 replace hq := s_cases hq
 rcases hq with ⟨rfl, hq⟩ | ⟨rfl, hq⟩ | ⟨rfl, hq⟩ | ⟨rfl, hq⟩ | ⟨rfl, hq⟩
 ·clear nc
  rcases hq with h | h | rfl | h | h
  ·exact op_two (x := oM a) nr n0 rfl (Int.le_refl _) (le_M a) (by rw [show totS [] = 0 from rfl, Int.add_zero]; exact w_M4 a) (by decide) (w_M4 a) (fun b d r' y _ hb hd _ hy => .cast (by rw [show (oM a).p = a.p from rfl, Int.sub_self]; exact p0 y) (.set (by decide) (.run (Int.le_refl 1) hb hd (.zero hy)))) h
  ·exact op_one (x := oM a) nr rfl (Int.le_refl _) (le_M a) (w_M4 a) h
  ·exact op_iso (x := oM a) nr rfl (Int.le_refl _) (le_M a) (w_M4 a)
  ·exact op_two (x := oP a) nr (nn1 n0) rfl (le_P a) (Int.le_refl _) (by rw [wt_P, Int.add_assoc, Int.add_assoc]; exact Int.le_refl _) (by decide) (by rw [wt_P, Int.add_assoc]; exact Int.add_le_add_left (by decide) _) (fun b d r' y _ hb hd _ hy => .cast (by rw [show (oP a).p = a.p + 1 from rfl, Int.add_comm a.p, Int.add_sub_cancel]) (.pair (by decide) (.run (show (1 : Int) ≤ 4 - 2 by decide) hb hd hy))) h
  ·exact op_one (x := oP a) nr rfl (le_P a) (Int.le_refl _) (Int.le_trans (w_P3 a) (Int.add_le_add_left (by decide) _)) h
 ·clear nc
  rcases hq with rfl | h | h
  ·exact op_mk 0 3 rfl (p0 _) (by decide) (le_M a) (wt_M a) (Int.le_of_eq (Int.add_comm _ _)) nr fun y hy => fs_0 (.set (by decide) (.zero hy))
  ·cases r with
   | nil => cases h
   | cons b r =>
   cases r with
   | nil => exact op_one (x := oP a) nr rfl (le_P a) (Int.le_refl _) (w_P3 a) h
   | cons d r' =>
    have h : q ∈ (if b.1 ≠ 0 ∧ d.1 ≠ 0 then [(oM (oP a), dc b :: dc d :: r')] else sT2 (oP a) (b :: d :: r') ++ sOne (oP a) (b :: d :: r')) := h
    split at h
    ·rename_i hz
     obtain ⟨nn, hb, hd⟩ := nn_dd nr hz.1 hz.2
     cases List.mem_singleton.mp h
     exact op_mk 1 5 rfl rfl (by decide) (le_M (oP a)) (wt_MP a) (Int.le_of_eq (ar_1 _ _ _ rfl)) nn fun y hy => .pair (by decide) (.run (Int.le_refl 1) hb hd (.zero hy))
    ·rcases List.mem_append.mp h with h | h
     ·exact op_t2 (x := oP a) nr rfl (le_P a) (Int.le_refl _) (w_P3 a) h
     ·exact op_one (x := oP a) nr rfl (le_P a) (Int.le_refl _) (w_P3 a) h
  ·cases r with
   | nil => cases h
   | cons b r =>
   cases r with
   | nil => cases h
   | cons d r' =>
    have h : q ∈ (if d.1 ≥ 2 ∧ b.1 ≥ 2 then [(oM (oM a), ((1, f) : T) :: dc (dc b) :: dc (dc d) :: r')] else []) := h
    split at h
    ·rename_i hz
     have hb2 : 2 ≤ b.1 := hz.2
     have hd2 : 2 ≤ d.1 := hz.1
     cases List.mem_singleton.mp h
     obtain ⟨nb, nr'⟩ := NNs.cons.mp nr
     obtain ⟨nd, nr'⟩ := NNs.cons.mp nr'
     have nn : NNs (dc (dc b) :: dc (dc d) :: r') := NNs.cons.mpr ⟨by show 0 ≤ b.1 - 1 - 1; lia -abstractProof, NNs.cons.mpr ⟨by show 0 ≤ d.1 - 1 - 1; lia -abstractProof, nr'⟩⟩
     refine op_mk 0 6 rfl (p0 _) (by decide) (Int.le_trans (le_M a) (le_M (oM a))) (wt_MM a) ?_ (nn1 nn) fun y hy => fs_0 (.run (show (1 : Int) ≤ 3 by decide) (by lia -abstractProof) (by lia -abstractProof) (.run (show (1 : Int) ≤ 3 - 1 by decide) (by show 1 ≤ b.1 - 1; lia -abstractProof) (by show 1 ≤ d.1 - 1; lia -abstractProof) hy))
     show 1 + (b.1 - 1 - 1 + (d.1 - 1 - 1 + totS r')) + 6 ≤ 3 + (b.1 + (d.1 + totS r'))
     lia -abstractProof
    ·cases h
 ·clear nc
  rcases hq with rfl | h
  ·exact op_mk 1 2 rfl rfl (by decide) (Int.le_refl _) (wt_P a) (Int.le_of_eq (Int.add_comm _ _)) nr fun y hy => .pair (by decide) (.zero hy)
  ·cases r with
   | nil => cases h
   | cons b r =>
   cases r with
   | nil => cases h
   | cons d r' =>
    have h : q ∈ (if d.1 ≠ 0 ∧ b.1 ≠ 0 then [(oM a, ((1, f) : T) :: dc b :: dc d :: r')] else []) := h
    split at h
    ·rename_i hz
     obtain ⟨nn, hb, hd⟩ := nn_dd nr hz.2 hz.1
     cases List.mem_singleton.mp h
     refine op_mk 0 3 rfl (p0 _) (by decide) (le_M a) (wt_M a) ?_ (nn1 nn) fun y hy => fs_0 (.run (show (1 : Int) ≤ 2 by decide) hb hd hy)
     show 1 + (b.1 - 1 + (d.1 - 1 + totS r')) + 3 ≤ 2 + (b.1 + (d.1 + totS r'))
     lia -abstractProof
    ·cases h
 ·clear nc
  have els : q ∈ sEls a f r → Op ((1, f) :: r) a q := by
   intro h
   unfold sEls at h
   simp only [List.mem_append, List.mem_singleton] at h
   rcases h with (rfl | h) | h
   ·exact op_iso nr rfl (Int.le_refl _) (Int.le_refl _) (Int.le_refl _)
   ·exact op_two (x := a) nr n0 rfl (Int.le_refl _) (Int.le_refl _) (by rw [show totS [] = 0 from rfl, Int.add_zero]; exact Int.le_refl _) (by decide) (Int.le_refl _) (fun b d r' y _ hb hd _ hy => .cast (by rw [Int.sub_self]; exact p0 y) (.run (Int.le_refl 1) hb hd (.zero hy))) h
   ·exact op_one nr rfl (Int.le_refl _) (Int.le_refl _) (Int.le_refl _) h
  cases r with
  | nil => exact els hq
  | cons b r =>
  cases r with
  | nil => exact els hq
  | cons d r =>
  cases r with
  | nil => exact els hq
  | cons e r' =>
   have h : q ∈ (if b.1 = 1 ∧ d.1 ≠ 0 ∧ e.1 ≠ 4 then [(oM a, dc d :: e :: r')] else sEls a f (b :: d :: e :: r')) := hq
   split at h
   ·rename_i hz
    obtain ⟨nn, hb, hd⟩ := nn_dd nr (by rw [hz.1]; decide) hz.2.1
    cases List.mem_singleton.mp h
    obtain ⟨b1, b2⟩ := b
    obtain rfl : b1 = 1 := hz.1
    refine op_mk 0 3 rfl (p0 _) (by decide) (le_M a) (wt_M a) ?_ (NNs.cons.mp nn).2 fun y hy => fs_0 (.run (Int.le_refl 1) (Int.le_refl 1) hd (.zero (.zero hy)))
    show d.1 - 1 + totS (e :: r') + 3 ≤ 1 + (1 + (d.1 + totS (e :: r')))
    lia -abstractProof
   ·exact els h
 ·subst hq
  exact op_mk 0 0 rfl (p0 _) (by decide) (Int.le_refl _) (p0 _) (Int.le_of_eq (Int.add_comm _ _)) nr fun y hy => fs_0 (.zero hy)
theorem sout_fs {s : List T} {a b : O} (h : SOut s a b) : NNs s → wt b ≤ wt a + totS s ∧ a.t ≤ b.t ∧ a.p ≤ b.p ∧ a.m ≤ b.m ∧ (wt b = wt a + totS s → b.t = a.t → FS s (b.p - a.p)) := by
 induction h with
 | @nil a => exact fun _ => ⟨by show wt a ≤ wt a + 0; lia -abstractProof, Int.le_refl _, Int.le_refl _, Int.le_refl _, fun _ _ => .cast (by lia -abstractProof) .nil⟩
 | @step a a' b s s' h _ ih =>
  intro ns
  obtain ⟨o1, o2, o3, o4, o5, o6⟩ := op_of ns _ h
  obtain ⟨i1, i2, i3, i4, i5⟩ := ih o1
  dsimp only at *
  refine ⟨by lia -abstractProof, by lia -abstractProof, by lia -abstractProof, by lia -abstractProof, fun e et => ?_⟩
  exact .cast (by lia -abstractProof) (o6 (by lia -abstractProof) (by lia -abstractProof) _ (i5 (by lia -abstractProof) (by lia -abstractProof)))
end
section
noncomputable def lw (j : Int) (b : T) : T := (b.1 - j, b.2)
theorem fs_nn {s : List T} {y : Int} (h : FS s y) : NNs s ∧ 0 ≤ y := by
 induction h with
 | nil => exact ⟨fun t ht => (by cases ht), Int.le_refl _⟩
 | zero _ ih => exact ⟨NNs.cons.mpr ⟨Int.le_refl _, ih.1⟩, ih.2⟩
 | set h _ ih => obtain ⟨a, b⟩ := NNs.cons.mp ih.1; exact ⟨NNs.cons.mpr ⟨by dsimp only; lia -abstractProof, b⟩, ih.2⟩
 | pair h _ ih => obtain ⟨a, b⟩ := NNs.cons.mp ih.1; exact ⟨NNs.cons.mpr ⟨by dsimp only; lia -abstractProof, b⟩, by lia -abstractProof⟩
 | run h1 h2 h3 _ ih =>
  obtain ⟨_, a⟩ := NNs.cons.mp ih.1
  obtain ⟨_, a⟩ := NNs.cons.mp a
  obtain ⟨_, a⟩ := NNs.cons.mp a
  exact ⟨NNs.cons.mpr ⟨by lia -abstractProof, NNs.cons.mpr ⟨by lia -abstractProof, NNs.cons.mpr ⟨by lia -abstractProof, a⟩⟩⟩, ih.2⟩
theorem T_eq {x x' : Int} {f : Bool} (e : x = x') : ((x, f) : T) = (x', f) := by rw [e]
theorem fs_up1 {c : Int} {f : Bool} {r : List T} {y : Int} (h : FS ((c, f) :: r) y) : FS ((c + 3, f) :: r) y := by
 have := (NNs.cons.mp (fs_nn h).1).1
 refine .set (by dsimp only at this; lia -abstractProof) ?_
 rw [T_eq (show c + 3 - 3 = c by lia -abstractProof)]
 exact h
theorem fs_up2 {s : List T} {y : Int} (h : FS s y) : ∀ (b e : T) (r : List T), s = b :: e :: r → FS (b :: (e.1 + 3, e.2) :: r) y := by
 induction h with
 | nil => intro b e r q; cases q
 | zero k _ => intro b e r q; cases q; exact .zero (fs_up1 k)
 | set h _ ih => intro b e r q; cases q; exact .set h (ih _ _ _ rfl)
 | pair h _ ih => intro b e r q; cases q; exact .pair h (ih _ _ _ rfl)
 | @run a b' c r' y h1 h2 h3 _ ih =>
  intro b e r q
  cases q
  have := ih _ _ _ rfl
  refine .run h1 (by dsimp only; lia -abstractProof) h3 ?_
  rw [show dc (b'.1 + 3, b'.2) = ((dc b').1 + 3, (dc b').2) from T_eq (show b'.1 + 3 - 1 = b'.1 - 1 + 3 by lia -abstractProof)]
  exact this
theorem fs_up {b e : T} {r : List T} {y j : Int} : ∀ q : Nat, FS (lw (j + 3 * q) b :: lw (j + 3 * q) e :: r) y → FS (lw j b :: lw j e :: r) y
 | 0, h => by
  rw [show j + 3 * ((0 : Nat) : Int) = j by simp] at h; exact h
 | q + 1, h => by
  refine fs_up q ?_
  have h2 := fs_up2 h _ _ _ rfl
  have h1 := fs_up1 (c := b.1 - (j + 3 * ((q + 1 : Nat) : Int))) (f := b.2) h2
  have e1 : ((b.1 - (j + 3 * ((q + 1 : Nat) : Int)) + 3, b.2) : T) = lw (j + 3 * q) b := T_eq (by push_cast; lia -abstractProof)
  have e2 : (((lw (j + 3 * ((q + 1 : Nat) : Int)) e).1 + 3, (lw (j + 3 * ((q + 1 : Nat) : Int)) e).2) : T) = lw (j + 3 * q) e := T_eq (by show e.1 - (j + 3 * ((q + 1 : Nat) : Int)) + 3 = _; push_cast; lia -abstractProof)
  rw [e1, e2] at h1
  exact h1
noncomputable def Hd (c : Int) (r : List T) (y j x k : Int) : Prop := c = j + 3 * x + 2 * k ∧ 0 ≤ x ∧ 0 ≤ k ∧ ((j = 0 ∧ FS r (y - k)) ∨ (1 ≤ j ∧ ∃ b e r', r = b :: e :: r' ∧ FS (lw j b :: lw j e :: r') (y - k)))
theorem fs_head {s : List T} {y : Int} (h : FS s y) : ∀ (c : Int) (f : Bool) (r : List T), s = (c, f) :: r → ∃ j x k, Hd c r y j x k := by
 induction h with
 | nil => intro c f r q; cases q
 | zero h _ => intro c f r q; cases q; exact ⟨0, 0, 0, by decide, by decide, by decide, .inl ⟨rfl, .cast (by lia -abstractProof) h⟩⟩
 | set h _ ih =>
  intro c f r q; cases q
  obtain ⟨j, x, k, e, hx, hk, z⟩ := ih _ _ _ rfl
  exact ⟨j, x + 1, k, by lia -abstractProof, by lia -abstractProof, hk, z⟩
 | pair h _ ih =>
  intro c f r q; cases q
  obtain ⟨j, x, k, e, hx, hk, z⟩ := ih _ _ _ rfl
  exact ⟨j, x, k + 1, by lia -abstractProof, hx, by lia -abstractProof, z.imp (fun z => ⟨z.1, .cast (by lia -abstractProof) z.2⟩) fun ⟨z1, b, d, r', z2, z3⟩ => ⟨z1, b, d, r', z2, .cast (by lia -abstractProof) z3⟩⟩
 | @run a b d r y h1 h2 h3 _ ih =>
  intro c f r q; cases q
  obtain ⟨j, x, k, e, hx, hk, z⟩ := ih _ _ _ rfl
  dsimp only at e
  rcases z with ⟨z1, z2⟩ | ⟨z1, b2, d2, r2, z2, z3⟩
  ·exact ⟨1, x, k, by lia -abstractProof, hx, hk, .inr ⟨Int.le_refl _, b, d, _, rfl, z2⟩⟩
  ·cases z2
   refine ⟨j + 1, x, k, by lia -abstractProof, hx, hk, .inr ⟨by lia -abstractProof, b, d, _, rfl, ?_⟩⟩
   have e1 : ∀ t : T, lw j (dc t) = lw (j + 1) t := fun t => T_eq (by show t.1 - 1 - j = t.1 - (j + 1); lia -abstractProof)
   rw [e1, e1] at z3
   exact z3
theorem fs_canon {c : Int} {f : Bool} {r : List T} {y : Int} (h : FS ((c, f) :: r) y) : ∃ j x k, Hd c r y j x k ∧ 0 ≤ j ∧ j ≤ 2 := by
 obtain ⟨j, x, k, e, hx, hk, z⟩ := fs_head h _ _ _ rfl
 rcases z with ⟨z1, z2⟩ | ⟨z1, b, d, r', rfl, z3⟩
 ·exact ⟨j, x, k, ⟨e, hx, hk, .inl ⟨z1, z2⟩⟩, by lia -abstractProof, by lia -abstractProof⟩
 ·have z4 := fs_up (j := j % 3) (j / 3).toNat (by rw [show j % 3 + 3 * (((j / 3).toNat : Nat) : Int) = j by lia -abstractProof]; exact z3)
  by_cases q : j % 3 = 0
  ·refine ⟨0, x + j / 3, k, ⟨by lia -abstractProof, by lia -abstractProof, hk, .inl ⟨rfl, ?_⟩⟩, by decide, by decide⟩
   rw [q] at z4
   have e0 : ∀ t : T, lw 0 t = t := fun t => by cases t; exact T_eq (Int.sub_zero _)
   rw [e0, e0] at z4
   exact z4
  ·exact ⟨j % 3, x + j / 3, k, ⟨by lia -abstractProof, by lia -abstractProof, hk, .inr ⟨by lia -abstractProof, b, d, r', rfl, z4⟩⟩, by lia -abstractProof, by lia -abstractProof⟩
section
variable {c : Int} {f : Bool} {r : List T} {a : O}
theorem tot_cons {t : T} {r : List T} : totS (t :: r) = t.1 + totS r := rfl
theorem sopts_c : sopts a ((c, f) :: r) = if c = 4 then sTwo [] (oM a) r ++ sOne (oM a) r ++ [(oI f (oM a), r)] ++ sTwo [(1, f)] (oP a) r ++ sOne (oP a) r else if c = 3 then [(oM a, r)] ++ sMid (oP a) r ++ sDbl a f r else if c = 2 then [(oP a, r)] ++ sSyu a f r else if c = 1 then sOn1 a f r else if c = 0 then [(a, r)] else [] := rfl
theorem mem_two_syu {hd : List T} {x : O} {b d : T} (hb : b.1 ≠ 0) (hd0 : d.1 ≠ 0) : (oM x, hd ++ dc b :: dc d :: r) ∈ sTwo hd x (b :: d :: r) := by
 show _ ∈ (if d.1 ≠ 0 then (if b.1 ≠ 0 then [(oM x, hd ++ dc b :: dc d :: r)] else []) ++ [(oT x, b :: dc d :: r)] else [])
 rw [if_pos hd0, if_pos hb]
 exact List.mem_append_left _ (List.mem_singleton.mpr rfl)
end
noncomputable def szS : List T → Int
 | [] => 0
 | t :: r => t.1 + 1 + szS r
noncomputable def B4 : List T → Prop
 | [] => True
 | t :: r => t.1 ≤ 4 ∧ B4 r
theorem b4_of : ∀ {s : List T}, (∀ t ∈ s, t.1 ≤ 4) → B4 s
 | [], _ => trivial
 | _ :: _, h => ⟨h _ (List.mem_cons_self ..), b4_of fun t ht => h t (List.mem_cons_of_mem _ ht)⟩
noncomputable def Out (s : List T) (y : Int) (a : O) : Prop := ∃ b, SOut s a b ∧ b.t = a.t ∧ b.p = a.p + y ∧ wt b = wt a + totS s
section
variable {a : O} {f : Bool} {b d : T} {r : List T} {q : O × List T}
theorem m1_two (hb : b.1 ≠ 0) (hd : d.1 ≠ 0) : (oM a, dc b :: dc d :: r) ∈ sEls a f (b :: d :: r) := List.mem_append_left _ (List.mem_append_right _ (mem_two_syu hb hd))
theorem m4_two (h : q ∈ sTwo [] (oM a) r) : q ∈ sopts a ((4, f) :: r) := by
 show q ∈ sTwo [] (oM a) r ++ sOne (oM a) r ++ [(oI f (oM a), r)] ++ sTwo [(1, f)] (oP a) r ++ sOne (oP a) r
 exact List.mem_append_left _ (List.mem_append_left _ (List.mem_append_left _ (List.mem_append_left _ h)))
theorem m4_ptwo (h : q ∈ sTwo [(1, f)] (oP a) r) : q ∈ sopts a ((4, f) :: r) := by
 show q ∈ sTwo [] (oM a) r ++ sOne (oM a) r ++ [(oI f (oM a), r)] ++ sTwo [(1, f)] (oP a) r ++ sOne (oP a) r
 exact List.mem_append_left _ (List.mem_append_right _ h)
theorem m3_set : (oM a, r) ∈ sopts a ((3, f) :: r) := by
 show _ ∈ [(oM a, r)] ++ sMid (oP a) r ++ sDbl a f r
 exact List.mem_append_left _ (List.mem_append_left _ (List.mem_singleton.mpr rfl))
theorem m3_mid (hb : b.1 ≠ 0) (hd : d.1 ≠ 0) : (oM (oP a), dc b :: dc d :: r) ∈ sopts a ((3, f) :: b :: d :: r) := by
 show _ ∈ [(oM a, b :: d :: r)] ++ (if b.1 ≠ 0 ∧ d.1 ≠ 0 then [(oM (oP a), dc b :: dc d :: r)] else sT2 (oP a) (b :: d :: r) ++ sOne (oP a) (b :: d :: r)) ++ sDbl a f (b :: d :: r)
 rw [if_pos ⟨hb, hd⟩]
 exact List.mem_append_left _ (List.mem_append_right _ (List.mem_singleton.mpr rfl))
theorem m2_pair : (oP a, r) ∈ sopts a ((2, f) :: r) := by
 show _ ∈ [(oP a, r)] ++ sSyu a f r
 exact List.mem_append_left _ (List.mem_singleton.mpr rfl)
theorem m2_run (hb : b.1 ≠ 0) (hd : d.1 ≠ 0) : (oM a, ((1, f) : T) :: dc b :: dc d :: r) ∈ sopts a ((2, f) :: b :: d :: r) := by
 show _ ∈ [(oP a, b :: d :: r)] ++ (if d.1 ≠ 0 ∧ b.1 ≠ 0 then [(oM a, ((1, f) : T) :: dc b :: dc d :: r)] else [])
 rw [if_pos ⟨hd, hb⟩]
 exact List.mem_append_right _ (List.mem_singleton.mpr rfl)
theorem m1_skip {g : T} (h : b.1 = 1 ∧ d.1 ≠ 0 ∧ g.1 ≠ 4) : (oM a, dc d :: g :: r) ∈ sopts a ((1, f) :: b :: d :: g :: r) := by
 show _ ∈ (if b.1 = 1 ∧ d.1 ≠ 0 ∧ g.1 ≠ 4 then [(oM a, dc d :: g :: r)] else sEls a f (b :: d :: g :: r))
 rw [if_pos h]
 exact List.mem_singleton.mpr rfl
theorem m1_els {g : T} (h : ¬ (b.1 = 1 ∧ d.1 ≠ 0 ∧ g.1 ≠ 4)) (hq : q ∈ sEls a f (b :: d :: g :: r)) : q ∈ sopts a ((1, f) :: b :: d :: g :: r) := by
 show _ ∈ (if b.1 = 1 ∧ d.1 ≠ 0 ∧ g.1 ≠ 4 then [(oM a, dc d :: g :: r)] else sEls a f (b :: d :: g :: r))
 rw [if_neg h]
 exact hq
theorem fs_z1 {y : Int} (h : b.1 = 1) (z : FS (dc b :: r) y) : FS r y := by
 obtain ⟨b1, b2⟩ := b
 cases h
 obtain ⟨j', x', k', e', hx', hk', z'⟩ := fs_head z 0 b2 _ rfl
 rcases z' with ⟨w1, w2⟩ | ⟨w1, _⟩
 ·exact .cast (by lia -abstractProof) w2
 ·lia -abstractProof
end
theorem out_k {s s' : List T} {a a' : O} {y : Int} (z k : Int) (h : Out s' (y - k) a') (hm : (a', s') ∈ sopts a s) (ht : a'.t = a.t) (hp : a'.p = a.p + k) (hw : wt a' = wt a + z) (e : totS s' + z = totS s) : Out s y a := by
 obtain ⟨b, h1, h2, h3, h4⟩ := h
 refine ⟨b, .step hm h1, h2.trans ht, ?_, ?_⟩
 ·rw [h3, hp]; lia -abstractProof
 ·rw [h4, hw, ← e]; lia -abstractProof
theorem hd_01 {x : Int} (h0 : 0 ≤ x) (h1 : x ≤ 1) : x = 0 ∨ x = 1 := by lia -abstractProof
theorem hd_0 {c j x k : Int} (e : c = j + 3 * x + 2 * k) (z : j = 0) (c4 : c ≤ 4) (hx : 0 ≤ x) (hk : 0 ≤ k) (k1 : k ≤ 1) : (c = 0 ∧ k = 0) ∨ (c = 3 ∧ k = 0) ∨ (c = 2 ∧ k = 1) := by
 subst z e
 rcases hd_01 hk k1 with rfl | rfl <;> rcases hd_01 hx (by lia -abstractProof) with rfl | rfl
 ·exact .inl ⟨rfl, rfl⟩
 ·exact .inr (.inl ⟨rfl, rfl⟩)
 ·exact .inr (.inr ⟨rfl, rfl⟩)
 ·exact absurd c4 (by decide)
theorem hd_1 {c x k : Int} (e : c = 1 + 3 * x + 2 * k) (c4 : c ≤ 4) (hx : 0 ≤ x) (hk : 0 ≤ k) (k1 : k ≤ 1) : (c = 1 ∧ k = 0) ∨ (c = 4 ∧ k = 0) ∨ (c = 3 ∧ k = 1) := by
 subst e
 rcases hd_01 hk k1 with rfl | rfl <;> rcases hd_01 hx (by lia -abstractProof) with rfl | rfl
 ·exact .inl ⟨rfl, rfl⟩
 ·exact .inr (.inl ⟨rfl, rfl⟩)
 ·exact .inr (.inr ⟨rfl, rfl⟩)
 ·exact absurd c4 (by decide)
theorem hd_2 {c x k : Int} (e : c = 2 + 3 * x + 2 * k) (c4 : c ≤ 4) (hx : 0 ≤ x) (hk : 0 ≤ k) (k1 : k ≤ 1) : (c = 2 ∧ k = 0) ∨ (c = 4 ∧ k = 1) := by
 subst e
 obtain rfl : x = 0 := by lia -abstractProof
 rcases hd_01 hk k1 with rfl | rfl
 ·exact .inl ⟨rfl, rfl⟩
 ·exact .inr ⟨rfl, rfl⟩
theorem fs_out : ∀ (n : Nat) (s : List T) (y : Int), szS s ≤ (n : Int) → FS s y → y ≤ 1 → B4 s → ∀ a : O, Out s y a := by
 intro n
 induction n with
 | zero =>
  intro s y hn h _ _ a
  cases s with
  | nil => cases h; exact ⟨a, .nil, rfl, p0 _, p0 _⟩
  | cons t r =>
   obtain ⟨h0, hr⟩ := NNs.cons.mp (fs_nn h).1
   have : ∀ r : List T, NNs r → 0 ≤ szS r := fun r => by
    induction r with
    | nil => exact fun _ => Int.le_refl _
    | cons u r ih => intro h; obtain ⟨p, q⟩ := NNs.cons.mp h; have := ih q; show 0 ≤ u.1 + 1 + szS r; lia -abstractProof
   have := this r hr
   have hn : t.1 + 1 + szS r ≤ 0 := hn
   lia -abstractProof
 | succ n ih =>
  intro s y hn h hy h4 a
  cases s with
  | nil => cases h; exact ⟨a, .nil, rfl, p0 _, p0 _⟩
  | cons t r =>
   obtain ⟨c, f⟩ := t
   obtain ⟨c4, r4⟩ := h4
   obtain ⟨j, x, k, ⟨e, hx, hk, z⟩, j0, j2⟩ := fs_canon h
   have c4 : c ≤ 4 := c4
   have hn : c + 1 + szS r ≤ ((n + 1 : Nat) : Int) := hn
   clear h
   have yk : y - k ≤ 1 := by lia -abstractProof
   rcases z with ⟨z1, z2⟩ | ⟨z1, b, d, r', rfl, z2⟩
   ·have hyk := (fs_nn z2).2
    have hl : szS r ≤ n := by lia -abstractProof
    have go := ih r _ hl z2 yk r4
    have hc := hd_0 e z1 c4 hx hk (by lia -abstractProof)
    clear hn hl e z2 ih z1
    rcases hc with ⟨rfl, rfl⟩ | ⟨rfl, rfl⟩ | ⟨rfl, rfl⟩
    ·exact out_k 0 0 (go a) (List.mem_singleton.mpr rfl) rfl (p0 _) (p0 _) (Int.add_comm _ _)
    ·exact out_k 3 0 (go (oM a)) m3_set rfl (p0 _) (wt_M a) (Int.add_comm _ _)
    ·exact out_k 2 1 (go (oP a)) m2_pair rfl rfl (wt_P a) (Int.add_comm _ _)
   ·obtain ⟨zn, hyk⟩ := fs_nn z2
    obtain ⟨nb, zn⟩ := NNs.cons.mp zn
    have nd : 0 ≤ d.1 - j := (NNs.cons.mp zn).1
    have nb : 0 ≤ b.1 - j := nb
    obtain ⟨b4, d4, r4'⟩ := r4
    have hn : c + 1 + (b.1 + 1 + (d.1 + 1 + szS r')) ≤ ((n + 1 : Nat) : Int) := hn
    have hb : b.1 ≠ 0 := by lia -abstractProof
    have hd : d.1 ≠ 0 := by lia -abstractProof
    have s4 : B4 (dc b :: dc d :: r') := ⟨(by show b.1 - 1 ≤ 4; lia -abstractProof), (by show d.1 - 1 ≤ 4; lia -abstractProof), r4'⟩
    have hsz : b.1 - 1 + 1 + (d.1 - 1 + 1 + szS r') + c ≤ n := by lia -abstractProof
    by_cases hj : j = 1
    ·subst hj
     have z3 : FS (dc b :: dc d :: r') (y - k) := z2
     have hc := hd_1 e c4 hx hk (by lia -abstractProof)
     have hl : szS (dc b :: dc d :: r') ≤ n := by show b.1 - 1 + 1 + (d.1 - 1 + 1 + szS r') ≤ n; lia -abstractProof
     have go := ih _ _ hl z3 yk s4
     clear hn e z2 z1 x hx hl nb nd
     rcases hc with ⟨rfl, rfl⟩ | ⟨rfl, rfl⟩ | ⟨rfl, rfl⟩
     ·have fin : (oM a, dc b :: dc d :: r') ∈ sopts a ((1, f) :: b :: d :: r') → _ := fun hm => out_k 3 0 (go (oM a)) hm rfl (p0 _) (wt_M a) (ar_1 _ _ _ rfl)
      cases r' with
      | nil => exact fin (m1_two hb hd)
      | cons g r' =>
       by_cases q : b.1 = 1 ∧ d.1 ≠ 0 ∧ g.1 ≠ 4
       ·have hl : szS (dc d :: g :: r') ≤ n := by
         show d.1 - 1 + 1 + szS (g :: r') ≤ n; lia -abstractProof
        refine out_k 3 0 (ih _ _ hl (fs_z1 q.1 z3) yk s4.2 (oM a)) (m1_skip q) rfl (p0 _) (wt_M a) ?_
        show d.1 - 1 + totS (g :: r') + 3 = 1 + (b.1 + (d.1 + totS (g :: r')))
        rw [q.1]; lia -abstractProof
       ·exact fin (m1_els q (m1_two hb hd))
     ·exact out_k 6 0 (go _) (m4_two (mem_two_syu hb hd)) rfl (p0 _) (wt_MM a) (ar_1 _ _ _ rfl)
     ·exact out_k 5 1 (go _) (m3_mid hb hd) rfl rfl (wt_MP a) (ar_1 _ _ _ rfl)
    ·obtain rfl : j = 2 := by lia -abstractProof
     have z3 : FS (((1, f) : T) :: dc b :: dc d :: r') (y - k) := by
      refine .run (Int.le_refl 1) (by show 1 ≤ b.1 - 1; lia -abstractProof) (by show 1 ≤ d.1 - 1; lia -abstractProof) (.zero ?_)
      have e1 : ∀ t : T, dc (dc t) = lw 2 t := fun t => T_eq (by show t.1 - 1 - 1 = t.1 - 2; lia -abstractProof)
      rw [e1, e1]
      exact z2
     have hc := hd_2 e c4 hx hk (by lia -abstractProof)
     have hl : szS (((1, f) : T) :: dc b :: dc d :: r') ≤ n := by show 1 + 1 + (b.1 - 1 + 1 + (d.1 - 1 + 1 + szS r')) ≤ n; lia -abstractProof
     have go := ih _ _ hl z3 yk ⟨(by decide : (1 : Int) ≤ 4), s4⟩
     clear hn e z2 z1 x hx hl nb nd
     rcases hc with ⟨rfl, rfl⟩ | ⟨rfl, rfl⟩
     ·refine out_k 3 0 (go _) (m2_run hb hd) rfl (p0 _) (wt_M a) ?_
      show 1 + (b.1 - 1 + (d.1 - 1 + totS r')) + 3 = 2 + (b.1 + (d.1 + totS r')); lia -abstractProof
     ·refine out_k 5 1 (go _) (m4_ptwo (mem_two_syu (hd := [(1, f)]) hb hd)) rfl rfl (wt_MP a) ?_
      show 1 + (b.1 - 1 + (d.1 - 1 + totS r')) + 5 = 4 + (b.1 + (d.1 + totS r')); lia -abstractProof
theorem fs_sout {s : List T} {y : Int} (h : FS s y) (hy : y ≤ 1) (h4 : ∀ t ∈ s, t.1 ≤ 4) (a : O) : Out s y a := fs_out (szS s).toNat s y (Int.self_le_toNat _) h hy (b4_of h4) a
end
section
noncomputable def pk : List Int → Int
 | [] => 0
 | v :: l => v + 8 * pk l
noncomputable def S7 (l : List Int) : Prop := ∀ v ∈ l, 0 ≤ v ∧ v ≤ 7
theorem S7.cons {v : Int} {l : List Int} : S7 (v :: l) ↔ (0 ≤ v ∧ v ≤ 7) ∧ S7 l := by unfold S7; simp
theorem pk_nn : ∀ {l : List Int}, S7 l → 0 ≤ pk l
 | [], _ => Int.le_refl _
 | v :: l, h => by obtain ⟨a, b⟩ := S7.cons.mp h; have := pk_nn b; show 0 ≤ v + 8 * pk l; lia
theorem and_nat (n m : Nat) : Builtin.bitAnd (n : Int) (m : Int) = ((n &&& m : Nat) : Int) := by
 unfold Builtin.bitAnd
 have h1 : decide (0 ≤ (n : Int)) = true := decide_eq_true (Int.natCast_nonneg _)
 have h2 : decide (0 ≤ (m : Int)) = true := decide_eq_true (Int.natCast_nonneg _)
 rw [h1, h2]
 rfl
theorem pk_and7 {v : Int} {l : List Int} (h : S7 (v :: l)) : Builtin.bitAnd (pk (v :: l)) 7 = v := by
 obtain ⟨⟨a, b⟩, hl⟩ := S7.cons.mp h
 have hp := pk_nn hl
 obtain ⟨x, hx⟩ := Int.eq_ofNat_of_zero_le a
 obtain ⟨p, hq⟩ := Int.eq_ofNat_of_zero_le hp
 have e : pk (v :: l) = ((x + 8 * p : Nat) : Int) := by show v + 8 * pk l = _; rw [hx, hq]; push_cast; lia
 rw [e, show (7 : Int) = ((2 ^ 3 - 1 : Nat) : Int) from rfl, and_nat, Nat.and_two_pow_sub_one_eq_mod, hx]
 have : (x + 8 * p) % 2 ^ 3 = x := by lia
 rw [this]
theorem pk_shr3 {v : Int} {l : List Int} (h : S7 (v :: l)) : (pk (v :: l)).fdiv (2 ^ (3 : Int).toNat) = pk l := by
 obtain ⟨⟨a, b⟩, hl⟩ := S7.cons.mp h
 show (v + 8 * pk l).fdiv 8 = _
 rw [Int.fdiv_eq_ediv_of_nonneg _ (by decide)]
 lia
noncomputable def jf (a : Int) : Int := if ([1, 4] : List Int).contains a = true then 1 else if a = 2 then 2 else 0
noncomputable def gl : List Int → Int → Int → Bool
 | [], _, _ => false
 | [v], _, c => ([0, 3] : List Int).contains (v - c)
 | v :: w :: r, a, c => if v - (c + jf a) < 0 then false else gl (w :: r) (v - (c + jf a)) (jf a)
noncomputable def gm : List Int → Bool
 | v :: w :: r => if w - jf v < 0 then false else gl r (w - jf v) (jf v)
 | _ => false
noncomputable def stM (j : Nat) : Stmt := (dBody 5 1).getD j (.Pass pos0)
noncomputable abbrev aeM (m a b c : Int) (x : Loc) : Loc := ("m", .int m) :: ("a", .int a) :: ("b", .int b) :: ("c", .int c) :: x
theorem f_body {asg : AV → Loc → Sto → (Loc → Sto → Prop) → Prop} {body : Loc → Sto → XS} {K : KS} {N : Nat} {it it' : It} {v : AV} {ae : Loc} {σ σ1 : Sto} (e : ∀ (D : Prop) (K : AV → It → Sto → Prop), K v it' σ1 → wNext it σ D K)
  (h : asg v ae σ1 fun ae σ => body ae σ fun fl ae σ => match fl with
   | .next => forA asg body N it' ae σ K
   | .cont => forA asg body N it' ae σ K
   | .brk => K .next ae σ
   | .ret v => K (.ret v) ae σ) : forA asg body (N + 1) it ae σ K := e _ _ ⟨_, h, fun fl _ _ k => by cases fl <;> exact k⟩
section
variable {σ : Sto} {n : Nat} {call : Addr → List AV → Sto → XE} {K : KS}
set_option maxHeartbeats 2000000 in
theorem loop_M : ∀ (k : Nat) (N : Nat) (j v a b c : Int) (l : List Int) (x : Loc), l.length = k + 1 → k < N → S7 (v :: l) → (x = [] ∨ ∃ y, x = ([("_", y)] : Loc)) →
  (∀ r, gl l a c = false → r = AV.bool false → ∀ ae, K (.ret r) ae σ) → (∀ v1 v2 a' b' c' x', S7 [v1, v2] → gl l a c = ([0, 3] : List Int).contains (v2 - c') → K .next (aeM (pk [v1, v2]) a' b' c' x') σ) →
  forA (asgA XW call 39 (dScope 5 1) (forTgt (stM 7))) (seqA (execS XW call 39 (dScope 5 1)) (forBody (stM 7))) N (.rng j k 1) (aeM (pk (v :: l)) a b c x) σ K
 | 0, N, j, v, a, b, c, [w], x, hl, hN, hs, hx, hr, hq => by
  obtain ⟨N, rfl⟩ : ∃ M, N = M + 1 := ⟨N - 1, by lia⟩
  exact f_end (fun _ _ q => q) (hq v w a b c x hs rfl)
 | k + 1, N, j, v, a, b, c, w :: u :: r, x, hl, hN, hs, hx, hr, hq => by
  obtain ⟨N, rfl⟩ : ∃ M, N = M + 1 := ⟨N - 1, by lia⟩
  have hs2 := (S7.cons.mp hs).2
  refine f_body (v := .int j) (it' := .rng (j + 1) k 1) (fun _ _ q => q) ?_
  refine a_name (ae' := aeM (pk (v :: w :: u :: r)) a b c [("_", .int j)]) (by rcases hx with rfl | ⟨a, rfl⟩ <;> rfl) ?_
  refine s_cons ?_
  refine s_cons ?_
  refine s_join (aeM (pk (v :: w :: u :: r)) a (c + jf a) (jf a) [("_", .int j)]) σ ?_ ?_
  ·unfold jf
   refine wIf_b ?_
   refine if_split (fun q => ?_) (fun q => ?_)
   ·rw [if_pos q]
    with_reducible refine s_cons ?_
    refine s_cons ?_
    exact ⟨rfl, rfl, rfl⟩
   ·rw [if_neg q]
    with_reducible refine s_cons ?_
    refine wIf_beqI ?_
    refine if_split (fun q2 => ?_) (fun q2 => ?_)
    ·rw [if_pos q2]
     with_reducible refine s_cons ?_
     refine s_cons ?_
     exact ⟨rfl, rfl, rfl⟩
    ·rw [if_neg q2]
     with_reducible refine s_nil ?_
     with_reducible refine s_nil ?_
     exact ⟨rfl, by rw [Int.add_zero]; rfl, rfl⟩
  refine s_join (aeM (pk (w :: u :: r)) a (c + jf a) (jf a) [("_", .int j)]) σ ?_ ?_
  ·refine wG_i (by first | assumption | decide) ?_
   rw [pk_shr3 hs]
   exact ⟨rfl, rfl, rfl⟩
  refine s_join (aeM (pk (w :: u :: r)) (w - (c + jf a)) (c + jf a) (jf a) [("_", .int j)]) σ ?_ ?_
  ·refine ⟨rfl, ?_, rfl⟩
   show aeM (pk (w :: u :: r)) (Builtin.bitAnd (pk (w :: u :: r)) 7 - (c + jf a)) (c + jf a) (jf a) [("_", .int j)] = _
   rw [pk_and7 hs2]
  refine s_cons ?_
  refine wIf_decI ?_
  refine if_split (fun q => ?_) (fun q => ?_)
  ·with_reducible refine s_cons ?_
   exact hr _ (by show (if w - (c + jf a) < 0 then false else _) = false; rw [if_pos q]) rfl _
  ·with_reducible refine s_nil ?_
   with_reducible refine s_nil ?_
   have e : gl (w :: u :: r) a c = gl (u :: r) (w - (c + jf a)) (jf a) := by show (if w - (c + jf a) < 0 then false else _) = _; rw [if_neg q]
   rw [e] at hr hq
   exact loop_M k N (j + 1) w _ _ _ (u :: r) _ (by simpa using hl) (by lia) hs2 (.inr ⟨_, rfl⟩) hr hq
end
set_option maxHeartbeats 2000000 in
theorem c240 {σ : Sto} {n : Nat} {v0 v1 : Int} {l : List Int} {m : Int} {K : KE} (hm : m = pk (v0 :: v1 :: l)) (hl : l.length = 7) (hs : S7 (v0 :: v1 :: l)) (hq : ∀ τ, K (.bool (gm (v0 :: v1 :: l))) (σ ++ τ)) : lCall (callA XW (n + 1)) 240 [.int m] σ K := by
 subst hm
 have hs2 := (S7.cons.mp hs).2
 have hs3 := (S7.cons.mp hs2).2
 refine lCall.mk (call_of (fn := fnAt 5 1 []) (ae := [("m", .int (pk (v0 :: v1 :: l)))]) (by rfl) ?_)
 refine s_join [("m", .int (pk (v0 :: v1 :: l))), ("a", .int v0)] σ ?_ ?_
 ·refine ⟨rfl, ?_, rfl⟩
  show ([("m", .int (pk (v0 :: v1 :: l))), ("a", .int (Builtin.bitAnd (pk (v0 :: v1 :: l)) 7))] : Loc) = _
  rw [pk_and7 hs]
 refine s_cons ?_
 refine s_cons ?_
 refine s_join (aeM (pk (v0 :: v1 :: l)) v0 (jf v0) (jf v0) []) σ ?_ ?_
 ·unfold jf
  refine wIf_b ?_
  refine if_split (fun q => ?_) (fun q => ?_)
  ·rw [if_pos q]
   with_reducible refine s_cons ?_
   exact ⟨rfl, rfl, rfl⟩
  ·rw [if_neg q]
   with_reducible refine s_cons ?_
   refine wIf_beqI ?_
   refine if_split (fun q2 => ?_) (fun q2 => ?_)
   ·rw [if_pos q2]
    with_reducible refine s_cons ?_
    exact ⟨rfl, rfl, rfl⟩
   ·rw [if_neg q2]
    with_reducible refine s_nil ?_
    with_reducible refine s_nil ?_
    exact ⟨rfl, rfl, rfl⟩
 refine s_join (aeM (pk (v1 :: l)) v0 (jf v0) (jf v0) []) σ ?_ ?_
 ·refine wG_i (by first | assumption | decide) ?_
  rw [pk_shr3 hs]
  exact ⟨rfl, rfl, rfl⟩
 refine s_join (aeM (pk (v1 :: l)) (v1 - jf v0) (jf v0) (jf v0) []) σ ?_ ?_
 ·refine ⟨rfl, ?_, rfl⟩
  show aeM (pk (v1 :: l)) (Builtin.bitAnd (pk (v1 :: l)) 7 - jf v0) (jf v0) (jf v0) [] = _
  rw [pk_and7 hs2]
 refine s_cons ?_
 refine wIf_decI ?_
 refine if_split (fun q => ?_) (fun q => ?_)
 ·with_reducible refine s_cons ?_
  have := hq []
  rw [List.append_nil] at this
  rw [show gm (v0 :: v1 :: l) = false by show (if v1 - jf v0 < 0 then false else _) = false; rw [if_pos q]] at this
  exact this
 have e : gm (v0 :: v1 :: l) = gl l (v1 - jf v0) (jf v0) := by show (if v1 - jf v0 < 0 then false else _) = _; rw [if_neg q]
 rw [e] at hq
 with_reducible refine s_nil ?_
 with_reducible refine s_cons ?_
 refine lIter.mk ?_
 refine wAt_new ?_
 refine wG_i (by first | assumption | decide) ?_
 refine lockF.mk ?_
 rw [show rangeN 0 6 1 = 6 by decide]
 refine loop_M 6 1000 0 v1 _ _ _ l [] (by rw [hl]) (by decide) hs2 (.inl rfl) (fun r hg hr ae => ?_) (fun u1 u2 a' b' c' x' hu hg => ?_)
 ·subst hr
  rw [hg] at hq
  exact hq _
 ·refine s_join (aeM (pk [u2]) a' b' c' x') (σ ++ [⟨true, .range 0 6 1⟩]) ?_ ?_
  ·refine wG_i (by first | assumption | decide) ?_
   rw [pk_shr3 hu]
   exact ⟨rfl, rfl, rfl⟩
  refine s_join (aeM (pk [u2]) (u2 - c') b' c' x') (σ ++ [⟨true, .range 0 6 1⟩]) ?_ ?_
  ·refine ⟨rfl, ?_, rfl⟩
   show aeM (pk [u2]) (Builtin.bitAnd (pk [u2]) 7 - c') b' c' x' = _
   rw [pk_and7 (S7.cons.mp hu).2]
  rw [hg] at hq
  with_reducible refine s_cons ?_
  exact hq _
end
section
theorem and_sh {x p q : Nat} (hx : x < 8) : (x + 8 * p) &&& (8 * q) = 8 * (p &&& q) := by
 apply Nat.eq_of_testBit_eq
 intro j
 rw [Nat.testBit_and, show x + 8 * p = 2 ^ 3 * p + x by lia, show 8 * q = 2 ^ 3 * q from rfl, show 8 * (p &&& q) = 2 ^ 3 * (p &&& q) from rfl, Nat.testBit_two_pow_mul_add p (show x < 2 ^ 3 from hx), Nat.testBit_two_pow_mul, Nat.testBit_two_pow_mul, Nat.testBit_and]
 by_cases h : j < 3
 ·rw [if_pos h, decide_eq_false (by lia)]; simp
 ·rw [if_neg h, decide_eq_true (by lia)]; simp
theorem pk_nat : ∀ {l : List Int}, S7 l → ∃ n : Nat, pk l = (n : Int) := fun h => Int.eq_ofNat_of_zero_le (pk_nn h)
theorem pk_at : ∀ (i : Nat) (l : List Int), i < l.length → S7 l → Builtin.bitAnd (pk l) ((7 * 8 ^ i : Nat) : Int) = l.getD i 0 * ((8 ^ i : Nat) : Int)
 | 0, v :: l, _, h => by
  have := pk_and7 h
  show Builtin.bitAnd (pk (v :: l)) 7 = v * 1
  rw [this, Int.mul_one]
 | i + 1, v :: l, hi, h => by
  obtain ⟨⟨a, b⟩, hl⟩ := S7.cons.mp h
  obtain ⟨x, hx⟩ := Int.eq_ofNat_of_zero_le a
  obtain ⟨p, hp⟩ := pk_nat hl
  have ih := pk_at i l (by simpa using hi) hl
  rw [hp, and_nat] at ih
  have e : pk (v :: l) = ((x + 8 * p : Nat) : Int) := by show v + 8 * pk l = _; rw [hx, hp]; push_cast; lia
  rw [e, show 7 * 8 ^ (i + 1) = 8 * (7 * 8 ^ i) by rw [Nat.pow_succ]; lia, and_nat, and_sh (by lia), List.getD_cons_succ]
  push_cast
  push_cast at ih
  rw [ih, Int.pow_succ]
  lia
theorem pk_set : ∀ (i : Nat) (l : List Int) (w : Int), i < l.length → pk (l.set i w) = pk l + (w - l.getD i 0) * ((8 ^ i : Nat) : Int)
 | 0, v :: l, w, _ => by show w + 8 * pk l = v + 8 * pk l + (w - v) * 1; lia
 | i + 1, v :: l, w, h => by
  rw [List.set_cons_succ, List.getD_cons_succ]
  show v + 8 * pk (l.set i w) = v + 8 * pk l + _
  rw [pk_set i l w (by simpa using h), Nat.pow_succ]
  push_cast
  rw [show (w - l.getD i 0) * (8 ^ i * 8) = 8 * ((w - l.getD i 0) * 8 ^ i) by rw [← Int.mul_assoc, Int.mul_comm]]
  lia
theorem S7.set {l : List Int} {i : Nat} {w : Int} (h : S7 l) (h0 : 0 ≤ w) (h1 : w ≤ 7) : S7 (l.set i w) := fun v hv => by
 rcases List.mem_or_eq_of_mem_set hv with hv | rfl
 ·exact h v hv
 ·exact ⟨h0, h1⟩
noncomputable def at2 (v : List Int) (i : Nat) : Prop := v.getD i 0 ≥ 2 ∧ gm (v.set i (v.getD i 0 - 2)) = true
noncomputable abbrev aeA (nn : Int) (v : List Int) : Loc := [("nn", .int nn), ("m", .int (pk v))]
theorem c240' {σ : Sto} {n : Nat} {l : List Int} {m : Int} {K : KE} (hm : m = pk l) (hl : l.length = 9) (hs : S7 l) (hq : ∀ τ, K (.bool (gm l)) (σ ++ τ)) : lCall (callA XW (n + 1)) 240 [.int m] σ K := by
 match l, hl with
 | v0 :: v1 :: r, hl => exact c240 hm (by simpa using hl) hs hq
theorem sh_pow (i : Nat) : ((2 : Int) ^ ((3 * i : Nat) : Int).toNat) = ((8 ^ i : Nat) : Int) := by
 rw [Int.toNat_natCast, Nat.pow_mul' 2 3 i |> fun h => (show ((2 : Int) ^ (3 * i)) = (((2 : Nat) ^ (3 * i) : Nat) : Int) by push_cast; rfl)]
 rw [show (2 : Nat) ^ (3 * i) = 8 ^ i by rw [Nat.pow_mul]]
section
variable {σ : Sto} {n : Nat} {nn : Int} {v : List Int} {i : Nat} {PT PF : Sto → Prop} {Kl : Nat → LM → Prop}
theorem tstB (hv : v.length = 9) (hs : S7 v) (hi : i < 9) (q : v.getD i 0 ≥ 2) (h1 : at2 v i → ∀ τ, PT (σ ++ τ)) (h2 : ¬ at2 v i → ∀ τ, PF (σ ++ τ)) {m : Int} (hm : m = pk v - 2 * ((8 ^ i : Nat) : Int)) :
  lCall (callA XW (n + 1)) 240 [.int m] σ fun r σ' => wTruth σ' r fun b => wIf b (PT σ') (PF σ') := by
 have hg : v.getD i 0 ∈ v := by rw [List.getD_eq_getElem?_getD, List.getElem?_eq_getElem (by lia)]; exact List.getElem_mem _
 obtain ⟨g0, g7⟩ := hs _ hg
 refine c240' (l := v.set i (v.getD i 0 - 2)) (by rw [hm, pk_set i v _ (by lia)]; lia) (by simpa using hv) (hs.set (by lia) (by lia)) fun τ => ?_
 show wIf (gm _) _ _
 refine wIf_i (fun e => h1 ⟨q, e⟩ τ) (fun e => h2 (fun c => by rw [c.2] at e; cases e) τ)
theorem tst (hv : v.length = 9) (hs : S7 v) (hi : i < 9) {s : Int} (es : s = ((3 * i : Nat) : Int)) (h1 : at2 v i → ∀ τ, PT (σ ++ τ)) (h2 : ¬ at2 v i → ∀ τ, PF (σ ++ τ)) :
  wG (0 ≤ s ∧ s ≤ 1000 ∧ small 7) (wG (0 ≤ s ∧ s ≤ 1000 ∧ small 2) (wIf (decide (Builtin.bitAnd (pk v) (7 * 2 ^ s.toNat) ≥ 2 * 2 ^ s.toNat))
   (lRes XW (.con (.ref 266)) "_is_mentsu" σ (fun g first => wB (XW.fn g).isSome (wG (0 ≤ s ∧ s ≤ 1000 ∧ small 2) (lCall (callA XW (n + 1)) g (first ++ [.int (pk v - 2 * 2 ^ s.toNat)]) σ fun r σ' => wTruth σ' r fun b => wIf b (PT σ') (PF σ')))) Kl) (PF σ))) := by
 subst es
 have hP : (0 : Int) < ((8 ^ i : Nat) : Int) := by have := Nat.pow_pos (n := i) (show 0 < 8 by decide); lia
 have e1 : Builtin.bitAnd (pk v) (7 * 2 ^ ((3 * i : Nat) : Int).toNat) = v.getD i 0 * ((8 ^ i : Nat) : Int) := by
  rw [sh_pow, ← pk_at i v (by lia) hs]; push_cast; rfl
 refine wG_sh (by lia) (wG_sh (by lia) ?_)
 rw [e1, sh_pow]
 have hc : v.getD i 0 * ((8 ^ i : Nat) : Int) ≥ 2 * ((8 ^ i : Nat) : Int) ↔ v.getD i 0 ≥ 2 := ⟨fun h => Int.le_of_mul_le_mul_right h hP, fun h => Int.mul_le_mul_of_nonneg_right h (Int.le_of_lt hP)⟩
 refine wIf_decI ?_
 refine if_split (fun q => ?_) (fun q => ?_)
 ·refine res_con (f := 240) (by rfl) ?_
  show wG _ _
  exact wG_sh (by lia) (tstB hv hs hi (hc.mp q) h1 h2 rfl)
 ·have := h2 (fun c => q (hc.mpr c.1)) []
  rwa [List.append_nil] at this
theorem tst0 (hv : v.length = 9) (hs : S7 v) (h1 : at2 v 0 → ∀ τ, PT (σ ++ τ)) (h2 : ¬ at2 v 0 → ∀ τ, PF (σ ++ τ)) :
  wIf (decide (Builtin.bitAnd (pk v) 7 ≥ 2)) (lRes XW (.con (.ref 266)) "_is_mentsu" σ (fun g first => wB (XW.fn g).isSome (lCall (callA XW (n + 1)) g (first ++ [.int (pk v - 2)]) σ fun r σ' => wTruth σ' r fun b => wIf b (PT σ') (PF σ'))) Kl) (PF σ) := by
 have e1 := pk_at 0 v (by lia) hs
 have e1 : Builtin.bitAnd (pk v) 7 = v.getD 0 0 := e1.trans (Int.mul_one _)
 rw [e1]
 refine wIf_decI ?_
 refine if_split (fun q => ?_) (fun q => ?_)
 ·refine res_con (f := 240) (by rfl) ?_
  exact tstB hv hs (by decide) q h1 h2 (by simp)
 ·have := h2 (fun c => q c.1) []
  rwa [List.append_nil] at this
end
noncomputable def ats (nn : Int) : List Nat := if nn = 0 then [2, 5, 8] else if nn = 1 then [1, 4, 7] else [0, 3, 6]
set_option maxHeartbeats 4000000 in
theorem c250 {σ : Sto} {n : Nat} {nn m : Int} {v : List Int} {K : KE} (hm : m = pk v) (hn : nn = 0 ∨ nn = 1 ∨ nn = 2) (hv : v.length = 9) (hs : S7 v) (hq : ∀ b, (b = true ↔ ∃ i ∈ ats nn, at2 v i) → ∀ τ, K (.bool b) (σ ++ τ)) : lCall (callA XW (n + 1 + 1)) 250 [.int nn, .int m] σ K := by
 subst hm
 refine lCall.mk (call_of (fn := fnAt 5 2 []) (ae := aeA nn v) (by rfl) ?_)
 refine s_cons ?_
 rcases hn with rfl | rfl | rfl
 ·have yes : ∀ i ∈ ats 0, at2 v i → ∀ τ, K (.bool true) (σ ++ τ) := fun i hi hc τ => hq true ⟨fun _ => ⟨i, hi, hc⟩, fun _ => rfl⟩ τ
  refine wIf_t ?_
  refine s_cons ?_
  refine tst (i := 2) hv hs (by decide) (by rfl) (fun q τ2 => ?_) (fun q2 τ2 => ?_)
  ·refine wIf_t ?_
   have := yes 2 (by decide) q (τ2)
   try simp only [← List.append_assoc] at this
   refine s_cons ?_
   exact this
  refine wIf_f ?_
  with_reducible refine s_nil ?_
  refine s_cons ?_
  refine tst (i := 5) hv hs (by decide) (by rfl) (fun q τ5 => ?_) (fun q5 τ5 => ?_)
  ·refine wIf_t ?_
   have := yes 5 (by decide) q (τ2 ++ (τ5))
   try simp only [← List.append_assoc] at this
   refine s_cons ?_
   exact this
  refine wIf_f ?_
  with_reducible refine s_nil ?_
  refine s_cons ?_
  refine tst (i := 8) hv hs (by decide) (by rfl) (fun q τ8 => ?_) (fun q8 τ8 => ?_)
  ·refine wIf_t ?_
   have := yes 8 (by decide) q (τ2 ++ (τ5 ++ (τ8)))
   try simp only [← List.append_assoc] at this
   refine s_cons ?_
   exact this
  refine wIf_f ?_
  with_reducible refine s_nil ?_
  with_reducible refine s_nil ?_
  refine s_cons ?_
  have := hq false ⟨fun c => (by cases c), fun ⟨i, hi, hc⟩ => (by
   have : i = 2 ∨ i = 5 ∨ i = 8 := by simpa [ats] using hi
   rcases this with rfl | rfl | rfl
   ·exact absurd hc q2
   ·exact absurd hc q5
   ·exact absurd hc q8)⟩ (τ2 ++ (τ5 ++ (τ8)))
  simp only [← List.append_assoc] at this
  exact this
 ·have yes : ∀ i ∈ ats 1, at2 v i → ∀ τ, K (.bool true) (σ ++ τ) := fun i hi hc τ => hq true ⟨fun _ => ⟨i, hi, hc⟩, fun _ => rfl⟩ τ
  refine wIf_f ?_
  refine s_cons ?_
  refine wIf_t ?_
  refine s_cons ?_
  refine tst (i := 1) hv hs (by decide) (by rfl) (fun q τ1 => ?_) (fun q1 τ1 => ?_)
  ·refine wIf_t ?_
   have := yes 1 (by decide) q (τ1)
   try simp only [← List.append_assoc] at this
   refine s_cons ?_
   exact this
  refine wIf_f ?_
  with_reducible refine s_nil ?_
  refine s_cons ?_
  refine tst (i := 4) hv hs (by decide) (by rfl) (fun q τ4 => ?_) (fun q4 τ4 => ?_)
  ·refine wIf_t ?_
   have := yes 4 (by decide) q (τ1 ++ (τ4))
   try simp only [← List.append_assoc] at this
   refine s_cons ?_
   exact this
  refine wIf_f ?_
  with_reducible refine s_nil ?_
  refine s_cons ?_
  refine tst (i := 7) hv hs (by decide) (by rfl) (fun q τ7 => ?_) (fun q7 τ7 => ?_)
  ·refine wIf_t ?_
   have := yes 7 (by decide) q (τ1 ++ (τ4 ++ (τ7)))
   try simp only [← List.append_assoc] at this
   refine s_cons ?_
   exact this
  refine wIf_f ?_
  with_reducible refine s_nil ?_
  with_reducible refine s_nil ?_
  with_reducible refine s_nil ?_
  refine s_cons ?_
  have := hq false ⟨fun c => (by cases c), fun ⟨i, hi, hc⟩ => (by
   have : i = 1 ∨ i = 4 ∨ i = 7 := by simpa [ats] using hi
   rcases this with rfl | rfl | rfl
   ·exact absurd hc q1
   ·exact absurd hc q4
   ·exact absurd hc q7)⟩ (τ1 ++ (τ4 ++ (τ7)))
  simp only [← List.append_assoc] at this
  exact this
 ·have yes : ∀ i ∈ ats 2, at2 v i → ∀ τ, K (.bool true) (σ ++ τ) := fun i hi hc τ => hq true ⟨fun _ => ⟨i, hi, hc⟩, fun _ => rfl⟩ τ
  refine wIf_f ?_
  refine s_cons ?_
  refine wIf_f ?_
  refine s_cons ?_
  refine wIf_t ?_
  refine s_cons ?_
  refine tst0 hv hs (fun q τ0 => ?_) (fun q0 τ0 => ?_)
  ·refine wIf_t ?_
   have := yes 0 (by decide) q (τ0)
   try simp only [← List.append_assoc] at this
   refine s_cons ?_
   exact this
  refine wIf_f ?_
  with_reducible refine s_nil ?_
  refine s_cons ?_
  refine tst (i := 3) hv hs (by decide) (by rfl) (fun q τ3 => ?_) (fun q3 τ3 => ?_)
  ·refine wIf_t ?_
   have := yes 3 (by decide) q (τ0 ++ (τ3))
   try simp only [← List.append_assoc] at this
   refine s_cons ?_
   exact this
  refine wIf_f ?_
  with_reducible refine s_nil ?_
  refine s_cons ?_
  refine tst (i := 6) hv hs (by decide) (by rfl) (fun q τ6 => ?_) (fun q6 τ6 => ?_)
  ·refine wIf_t ?_
   have := yes 6 (by decide) q (τ0 ++ (τ3 ++ (τ6)))
   try simp only [← List.append_assoc] at this
   refine s_cons ?_
   exact this
  refine wIf_f ?_
  with_reducible refine s_nil ?_
  with_reducible refine s_nil ?_
  with_reducible refine s_nil ?_
  with_reducible refine s_nil ?_
  refine s_cons ?_
  have := hq false ⟨fun c => (by cases c), fun ⟨i, hi, hc⟩ => (by
   have : i = 0 ∨ i = 3 ∨ i = 6 := by simpa [ats] using hi
   rcases this with rfl | rfl | rfl
   ·exact absurd hc q0
   ·exact absurd hc q3
   ·exact absurd hc q6)⟩ (τ0 ++ (τ3 ++ (τ6)))
  simp only [← List.append_assoc] at this
  exact this
end
noncomputable def H4 (h : List Int) : Prop := ∀ j : Int, 0 ≤ gt h j ∧ gt h j ≤ 4
theorem or_step {p : Nat} {x s : Int} {t : Nat} (hx : 0 ≤ x) (ht : s = (t : Int)) (hp : p < 2 ^ t) : Builtin.bitOr (p : Int) (x * 2 ^ s.toNat) = ((2 ^ t * x.toNat + p : Nat) : Int) := by
 subst ht
 obtain ⟨y, rfl⟩ := Int.eq_ofNat_of_zero_le hx
 have e : ((y : Int) * 2 ^ ((t : Nat) : Int).toNat) = ((2 ^ t * y : Nat) : Int) := by rw [Int.toNat_natCast]; push_cast; rw [Int.mul_comm]
 rw [e, bitOr_nat, Int.toNat_natCast, Nat.or_comm, ← Nat.two_pow_add_eq_or_of_lt hp]
noncomputable def seg9 (h : List Int) (d : Int) : List Int := [gt h d, gt h (d + 1), gt h (d + 2), gt h (d + 3), gt h (d + 4), gt h (d + 5), gt h (d + 6), gt h (d + 7), gt h (d + 8)]
theorem seg_s7 {h : List Int} (H : H4 h) (d : Int) : S7 (seg9 h d) := by
 intro v hv
 have hv : v ∈ [d, d + 1, d + 2, d + 3, d + 4, d + 5, d + 6, d + 7, d + 8].map (gt h) := hv
 obtain ⟨j, _, rfl⟩ := List.mem_map.mp hv
 exact ⟨(H j).1, Int.le_trans (H j).2 (by decide)⟩
theorem pk_ap : ∀ {l : List Int}, S7 l → ∃ N : Nat, pk l = (N : Int) ∧ N < 2 ^ (3 * l.length) ∧ ∀ x : Int, 0 ≤ x → pk (l ++ [x]) = ((2 ^ (3 * l.length) * x.toNat + N : Nat) : Int)
 | [], _ => ⟨0, rfl, by decide, fun x hx => by obtain ⟨y, rfl⟩ := Int.eq_ofNat_of_zero_le hx; show (y : Int) + 8 * 0 = ((1 * y + 0 : Nat) : Int); lia⟩
 | v :: l, h => by
  obtain ⟨N, e, lt, f⟩ := pk_ap (l := l) fun x hx => h x (List.mem_cons_of_mem _ hx)
  obtain ⟨v0, v7⟩ := h v (List.mem_cons_self ..)
  obtain ⟨y, rfl⟩ := Int.eq_ofNat_of_zero_le v0
  have p : 2 ^ (3 * (((y : Nat) : Int) :: l).length) = 8 * 2 ^ (3 * l.length) := by rw [List.length_cons, Nat.mul_add, Nat.pow_add, Nat.mul_comm]
  rw [p]
  refine ⟨y + 8 * N, by show (y : Int) + 8 * pk l = _; rw [e]; rfl, by lia, fun x hx => ?_⟩
  show (y : Int) + 8 * pk (l ++ [x]) = _
  rw [f x hx, Nat.mul_assoc]
  push_cast
  lia
theorem pk_or {l : List Int} {x s : Int} (h : S7 (l ++ [x])) (hs : s = ((3 * l.length : Nat) : Int)) : Builtin.bitOr (pk l) (x * 2 ^ s.toNat) = pk (l ++ [x]) := by
 obtain ⟨N, e, lt, f⟩ := pk_ap (l := l) fun v hv => h v (List.mem_append_left _ hv)
 have hx := (h x (List.mem_append_right _ (List.mem_singleton.mpr rfl))).1
 rw [e, or_step hx hs lt, f x hx]
theorem S7.l {l r : List Int} (h : S7 (l ++ r)) : S7 l := fun v hv => h v (List.mem_append_left _ hv)
theorem or_go {l : List Int} {x s y : Int} (e : y = pk l) (h : S7 (l ++ [x])) (hs : s = ((3 * l.length : Nat) : Int)) : Builtin.bitOr y (x * 2 ^ s.toNat) = pk (l ++ [x]) := e ▸ pk_or h hs
theorem pack9 {a0 a1 a2 a3 a4 a5 a6 a7 a8 : Int} (hs : S7 [a0, a1, a2, a3, a4, a5, a6, a7, a8]) :
  Builtin.bitOr (Builtin.bitOr (Builtin.bitOr (Builtin.bitOr (Builtin.bitOr (Builtin.bitOr (Builtin.bitOr (Builtin.bitOr a0 (a1 * 2 ^ (3 : Int).toNat)) (a2 * 2 ^ (6 : Int).toNat)) (a3 * 2 ^ (9 : Int).toNat)) (a4 * 2 ^ (12 : Int).toNat)) (a5 * 2 ^ (15 : Int).toNat)) (a6 * 2 ^ (18 : Int).toNat)) (a7 * 2 ^ (21 : Int).toNat)) (a8 * 2 ^ (24 : Int).toNat) = pk [a0, a1, a2, a3, a4, a5, a6, a7, a8] :=
 or_go (l := [a0, a1, a2, a3, a4, a5, a6, a7]) (or_go (l := [a0, a1, a2, a3, a4, a5, a6]) (or_go (l := [a0, a1, a2, a3, a4, a5]) (or_go (l := [a0, a1, a2, a3, a4]) (or_go (l := [a0, a1, a2, a3]) (or_go (l := [a0, a1, a2]) (or_go (l := [a0, a1]) (or_go (l := [a0]) (Int.add_zero a0).symm
  (S7.l (r := [a2, a3, a4, a5, a6, a7, a8]) hs) rfl) (S7.l (r := [a3, a4, a5, a6, a7, a8]) hs) rfl) (S7.l (r := [a4, a5, a6, a7, a8]) hs) rfl) (S7.l (r := [a5, a6, a7, a8]) hs) rfl) (S7.l (r := [a6, a7, a8]) hs) rfl) (S7.l (r := [a7, a8]) hs) rfl) (S7.l (r := [a8]) hs) rfl) hs rfl
theorem sh4 {h : List Int} (H : H4 h) {j y : Int} (hy : 0 ≤ y ∧ y ≤ 1000) : 0 ≤ y ∧ y ≤ 1000 ∧ -1000000 ≤ gt h j ∧ gt h j ≤ 1000000 :=
 ⟨hy.1, hy.2, Int.le_trans (by decide) (H j).1, Int.le_trans (H j).2 (by decide)⟩
theorem d8 {d c : Int} (h1 : d + 8 < 34) (hc : c ≤ 8) : d + c < 34 := Int.lt_of_le_of_lt (Int.add_le_add_left hc d) h1
set_option maxHeartbeats 2000000 in
theorem c260 {σ : Sto} {n k : Nat} {b : Bool} {h : List Int} {d : Int} {K : KE} (e : σ[k]? = some ⟨b, .list (h.map AV.int)⟩) (hl : h.length = 34) (H : H4 h) (h0 : 0 ≤ d) (h1 : d + 8 < 34) (hq : K (.int (pk (seg9 h d))) σ) : lCall (callA XW (n + 1)) 260 [.ref k, .int d] σ K := by
 refine lCall.mk (call_of (fn := fnAt 5 3 []) (ae := [("tiles", .ref k), ("d", .int d)]) (by rfl) ?_)
 refine s_cons ?_
 refine it_list e hl h0 (Int.lt_of_le_of_lt (Int.le_add_of_nonneg_right (by decide)) h1) ?_
 refine it_list e hl (Int.add_nonneg h0 (by decide)) (d8 h1 (by decide)) ?_
 refine wG_sh (sh4 H (by decide)) ?_
 refine it_list e hl (Int.add_nonneg h0 (by decide)) (d8 h1 (by decide)) ?_
 refine wG_sh (sh4 H (by decide)) ?_
 refine it_list e hl (Int.add_nonneg h0 (by decide)) (d8 h1 (by decide)) ?_
 refine wG_sh (sh4 H (by decide)) ?_
 refine it_list e hl (Int.add_nonneg h0 (by decide)) (d8 h1 (by decide)) ?_
 refine wG_sh (sh4 H (by decide)) ?_
 refine it_list e hl (Int.add_nonneg h0 (by decide)) (d8 h1 (by decide)) ?_
 refine wG_sh (sh4 H (by decide)) ?_
 refine it_list e hl (Int.add_nonneg h0 (by decide)) (d8 h1 (by decide)) ?_
 refine wG_sh (sh4 H (by decide)) ?_
 refine it_list e hl (Int.add_nonneg h0 (by decide)) (d8 h1 (by decide)) ?_
 refine wG_sh (sh4 H (by decide)) ?_
 refine it_list e hl (Int.add_nonneg h0 (by decide)) (d8 h1 (by decide)) ?_
 refine wG_sh (sh4 H (by decide)) ?_
 have := pack9 (seg_s7 H d)
 unfold seg9 at hq
 rw [← this] at hq
 exact hq
set_option tactic.hygienic false
noncomputable def tf (l : List Int) : List T := l.map fun c => (c, false)
theorem jf_is {c : Int} (h0 : 0 ≤ c) (h4 : c ≤ 4) : 0 ≤ jf c ∧ jf c ≤ 2 ∧ ∃ x, 0 ≤ x ∧ c = jf c + 3 * x := by
 have : c = 0 ∨ c = 1 ∨ c = 2 ∨ c = 3 ∨ c = 4 := by lia -abstractProof
 rcases this with rfl | rfl | rfl | rfl | rfl
 ·exact ⟨by decide, by decide, 0, by decide, by decide⟩
 ·exact ⟨by decide, by decide, 0, by decide, by decide⟩
 ·exact ⟨by decide, by decide, 0, by decide, by decide⟩
 ·exact ⟨by decide, by decide, 1, by decide, by decide⟩
 ·exact ⟨by decide, by decide, 1, by decide, by decide⟩
theorem fs_sets {f : Bool} {r : List T} {y : Int} : ∀ (x : Nat) (c : Int), 0 ≤ c → FS ((c, f) :: r) y → FS ((c + 3 * (x : Int), f) :: r) y
 | 0, c, _, h => by rw [T_eq (show c + 3 * ((0 : Nat) : Int) = c by simp)]; exact h
 | x + 1, c, h0, h => by
  have := fs_sets x c h0 h
  rw [T_eq (show c + 3 * ((x + 1 : Nat) : Int) = c + 3 * (x : Int) + 3 by push_cast; lia -abstractProof)]
  exact fs_up1 this
theorem fs_runs {f : Bool} {b d : T} {r : List T} {y : Int} : ∀ (j : Nat), FS (lw j b :: lw j d :: r) y → FS (((j : Int), f) :: b :: d :: r) y
 | 0, h => by
  have e0 : ∀ t : T, lw ((0 : Nat) : Int) t = t := fun t => by cases t; exact T_eq (Int.sub_zero _)
  rw [e0, e0] at h
  exact .zero h
 | j + 1, h => by
  have hn := (fs_nn h).1
  obtain ⟨nb, hn⟩ := NNs.cons.mp hn
  obtain ⟨nd, -⟩ := NNs.cons.mp hn
  have nb : 0 ≤ b.1 - ((j + 1 : Nat) : Int) := nb
  have nd : 0 ≤ d.1 - ((j + 1 : Nat) : Int) := nd
  push_cast at nb nd
  have e1 : ∀ t : T, lw ((j + 1 : Nat) : Int) t = lw (j : Int) (dc t) := fun t => T_eq (by push_cast; show t.1 - ((j : Int) + 1) = t.1 - 1 - j; lia -abstractProof)
  rw [e1, e1] at h
  have ih := fs_runs (f := f) j h
  refine .run (by dsimp only; push_cast; lia -abstractProof) (by lia -abstractProof) (by lia -abstractProof) ?_
  rw [show dc ((((j + 1 : Nat) : Int), f) : T) = ((j : Int), f) from T_eq (by push_cast; lia -abstractProof)]
  exact ih
theorem fs0_cons {c : Int} {f : Bool} {b d : T} {r : List T} (h0 : 0 ≤ c) (h4 : c ≤ 4) : FS ((c, f) :: b :: d :: r) 0 ↔ FS (lw (jf c) b :: lw (jf c) d :: r) 0 := by
 obtain ⟨j0, j2, x, hx, ec⟩ := jf_is h0 h4
 constructor
 ·intro h
  obtain ⟨j, x', k, ⟨e, hx', hk, z⟩, z0, z2⟩ := fs_canon h
  rcases z with ⟨z1, z3⟩ | ⟨z1, b', d', r', q, z3⟩
  ·have := (fs_nn z3).2
   have k0 : k = 0 := by lia -abstractProof
   have : jf c = 0 := by lia -abstractProof
   rw [this]
   have e0 : ∀ t : T, lw 0 t = t := fun t => by cases t; exact T_eq (Int.sub_zero _)
   rw [e0, e0]
   exact .cast (by lia -abstractProof) z3
  ·cases q
   have := (fs_nn z3).2
   have k0 : k = 0 := by lia -abstractProof
   have : jf c = j := by lia -abstractProof
   rw [this]
   exact .cast (by lia -abstractProof) z3
 ·intro h
  have h1 := fs_runs (f := f) (jf c).toNat (by rw [show (((jf c).toNat : Nat) : Int) = jf c by lia -abstractProof]; exact h)
  have h2 := fs_sets x.toNat _ (Int.natCast_nonneg _) h1
  rw [T_eq (show (((jf c).toNat : Nat) : Int) + 3 * (x.toNat : Int) = c by lia -abstractProof)] at h2
  exact h2
theorem fs0_nil {c : Int} {f : Bool} : FS [(c, f)] 0 ↔ c = 0 ∨ (3 ≤ c ∧ FS [(c - 3, f)] 0) := by
 constructor
 ·intro h
  obtain ⟨j, x, k, e, hx, hk, z⟩ := fs_head h _ _ _ rfl
  rcases z with ⟨z1, z2⟩ | ⟨_, _, _, _, q, _⟩
  ·have := (fs_nn z2).2
   by_cases q : x = 0
   ·left; lia -abstractProof
   ·right
    refine ⟨by lia -abstractProof, ?_⟩
    have := fs_sets (f := f) (r := []) (y := 0) (x - 1).toNat 0 (Int.le_refl _) (.zero .nil)
    rw [T_eq (show 0 + 3 * (((x - 1).toNat : Nat) : Int) = c - 3 by lia -abstractProof)] at this
    exact this
  ·cases q
 ·rintro (rfl | ⟨h, k⟩)
  ·exact .zero .nil
  ·exact .set h k
theorem fs0_one {c : Int} {f : Bool} (h4 : c ≤ 4) : FS [(c, f)] 0 ↔ c = 0 ∨ c = 3 := by
 rw [fs0_nil]
 constructor
 ·rintro (h | ⟨h, k⟩)
  ·exact .inl h
  ·rcases fs0_nil.mp k with h | h
   ·right; lia -abstractProof
   ·lia -abstractProof
 ·rintro (h | rfl)
  ·exact .inl h
  ·exact .inr ⟨by decide, .zero .nil⟩
theorem fs0_two {a b : Int} {f g : Bool} (h4 : a ≤ 4) (h4' : b ≤ 4) : FS [(a, f), (b, g)] 0 ↔ (a = 0 ∨ a = 3) ∧ (b = 0 ∨ b = 3) := by
 constructor
 ·intro h
  obtain ⟨j, x, k, e, hx, hk, z⟩ := fs_head h _ _ _ rfl
  rcases z with ⟨z1, z2⟩ | ⟨_, _, _, _, q, _⟩
  ·have := (fs_nn z2).2
   exact ⟨by lia -abstractProof, (fs0_one h4').mp (.cast (by lia -abstractProof) z2)⟩
  ·cases q
 ·rintro ⟨h1, h2⟩
  have := (fs0_one (f := g) h4').mpr h2
  rcases h1 with rfl | rfl
  ·exact .zero this
  ·exact .set (by decide) (.zero this)
noncomputable def wS : List T → Int
 | [] => 0
 | t :: r => 2 * (r.length : Int) * t.1 + wS r
theorem has03 {x : Int} : ([0, 3] : List Int).contains x = true ↔ x = 0 ∨ x = 3 := by simp
theorem gl_fs : ∀ (l : List T) (a c : Int) (f : Bool), l ≠ [] → 0 ≤ a → a ≤ 4 → 0 ≤ c → c ≤ 2 → (∀ t ∈ l, t.1 ≤ 4) → (match l with | v :: _ => 0 ≤ v.1 - c | [] => True) →
  ((gl (l.map (·.1)) a c = true ∧ 3 ∣ wS ((a, f) :: match l with | v :: r => lw c v :: r | [] => [])) ↔ FS ((a, f) :: match l with | v :: r => lw c v :: r | [] => []) 0)
 | [v], a, c, f, _, h0, h4, c0, c2, hl, hv => by
  have v4 := hl v (List.mem_cons_self ..)
  have hv : 0 ≤ v.1 - c := hv
  show (([0, 3] : List Int).contains (v.1 - c) = true ∧ 3 ∣ wS [(a, f), lw c v]) ↔ FS [(a, f), lw c v] 0
  rw [has03, fs0_two h4 (by show v.1 - c ≤ 4; lia -abstractProof)]
  have : wS [(a, f), lw c v] = 2 * a + 0 := by show 2 * ((1 : Nat) : Int) * a + (2 * ((0 : Nat) : Int) * _ + 0) = _; simp
  rw [this]
  constructor
  ·rintro ⟨h1, h2⟩; exact ⟨by lia -abstractProof, h1⟩
  ·rintro ⟨h1, h2⟩; exact ⟨h2, by lia -abstractProof⟩
 | v :: w :: r, a, c, f, _, h0, h4, c0, c2, hl, hv => by
  obtain ⟨j0, j2, x, hx, ec⟩ := jf_is h0 h4
  have v4 := hl v (List.mem_cons_self ..)
  have w4 := hl w (List.mem_cons_of_mem _ (List.mem_cons_self ..))
  have hv : 0 ≤ v.1 - c := hv
  show ((if v.1 - (c + jf a) < 0 then false else gl ((w :: r).map (·.1)) (v.1 - (c + jf a)) (jf a)) = true ∧ 3 ∣ wS ((a, f) :: lw c v :: w :: r)) ↔ FS ((a, f) :: lw c v :: w :: r) 0
  rw [fs0_cons h0 h4]
  have el : lw (jf a) (lw c v) = (v.1 - (c + jf a), v.2) := T_eq (by show v.1 - c - jf a = _; lia -abstractProof)
  rw [el]
  by_cases q : v.1 - (c + jf a) < 0
  ·rw [if_pos q]
   constructor
   ·rintro ⟨h, _⟩; cases h
   ·intro h
    have := (NNs.cons.mp (fs_nn h).1).1
    dsimp only at this
    lia -abstractProof
  ·rw [if_neg q]
   by_cases q2 : 0 ≤ w.1 - jf a
   ·have ih := gl_fs (w :: r) (v.1 - (c + jf a)) (jf a) v.2 (by simp) (by lia -abstractProof) (by lia -abstractProof) j0 j2 (fun t ht => hl t (List.mem_cons_of_mem _ ht)) q2
    rw [← ih]
    have ew : wS ((a, f) :: lw c v :: w :: r) = wS ((v.1 - (c + jf a), v.2) :: lw (jf a) w :: r) + 3 * (2 * ((r.length : Int) + 2) * x + 2 * ((r.length : Int) + 1) * jf a) := by
     show 2 * ((r.length + 1 + 1 : Nat) : Int) * a + (2 * ((r.length + 1 : Nat) : Int) * (v.1 - c) + (2 * (r.length : Int) * w.1 + wS r)) = 2 * ((r.length + 1 : Nat) : Int) * (v.1 - (c + jf a)) + (2 * (r.length : Int) * (w.1 - jf a) + wS r) + _
     push_cast
     generalize (r.length : Int) = L
     generalize jf a = j at *
     generalize wS r = S
     subst ec
     grind
    rw [ew]
    constructor
    ·rintro ⟨h1, h2⟩; exact ⟨h1, by lia -abstractProof⟩
    ·rintro ⟨h1, h2⟩; exact ⟨h1, by lia -abstractProof⟩
   ·have no1 : ¬ FS ((v.1 - (c + jf a), v.2) :: lw (jf a) w :: r) 0 := fun h => by
     have := (NNs.cons.mp (NNs.cons.mp (fs_nn h).1).2).1
     exact q2 this
    have no2 : gl ((w :: r).map (·.1)) (v.1 - (c + jf a)) (jf a) = false := by
     match r with
     | [] =>
      show ([0, 3] : List Int).contains (w.1 - jf a) = false
      rw [Bool.eq_false_iff, ne_eq, has03]; lia -abstractProof
     | u :: r =>
      obtain ⟨k0, _⟩ := jf_is (c := v.1 - (c + jf a)) (by lia -abstractProof) (by lia -abstractProof)
      show (if w.1 - (jf a + jf (v.1 - (c + jf a))) < 0 then false else _) = false
      rw [if_pos (by lia -abstractProof)]
    rw [no2]
    exact ⟨fun h => (by cases h.1), fun h => absurd h no1⟩
set_option tactic.hygienic true
set_option tactic.hygienic false
theorem gm_fs {s : List T} (hl : s.length = 9) (h : ∀ t ∈ s, 0 ≤ t.1 ∧ t.1 ≤ 4) : (gm (s.map (·.1)) = true ∧ 3 ∣ wS s) ↔ FS s 0 := by
 match s, hl, h with
 | t0 :: t1 :: t2 :: r, hl, h =>
  obtain ⟨a0, a1⟩ := h t0 (List.mem_cons_self ..)
  obtain ⟨b0, b1⟩ := h t1 (List.mem_cons_of_mem _ (List.mem_cons_self ..))
  obtain ⟨c0, c1⟩ := h t2 (List.mem_cons_of_mem _ (List.mem_cons_of_mem _ (List.mem_cons_self ..)))
  obtain ⟨j0, j2, x, hx, ec⟩ := jf_is a0 a1
  have hc := fs0_cons (f := t0.2) (b := t1) (d := t2) (r := r) a0 a1
  rw [show ((t0.1, t0.2) : T) = t0 from rfl] at hc
  rw [hc]
  show ((if t1.1 - jf t0.1 < 0 then false else gl ((t2 :: r).map (·.1)) (t1.1 - jf t0.1) (jf t0.1)) = true ∧ _) ↔ _
  by_cases q : t1.1 - jf t0.1 < 0
  ·rw [if_pos q]
   refine ⟨fun h => (by cases h.1), fun h => ?_⟩
   have := (NNs.cons.mp (fs_nn h).1).1
   have : 0 ≤ t1.1 - jf t0.1 := this
   lia
  ·rw [if_neg q]
   have l4 : ∀ t ∈ t2 :: r, t.1 ≤ 4 := fun t ht => (h t (List.mem_cons_of_mem _ (List.mem_cons_of_mem _ ht))).2
   by_cases q2 : 0 ≤ t2.1 - jf t0.1
   ·have ih := gl_fs (t2 :: r) (t1.1 - jf t0.1) (jf t0.1) t1.2 (by simp) (by lia) (by lia) j0 j2 l4 q2
    rw [show ((t1.1 - jf t0.1, t1.2) : T) = lw (jf t0.1) t1 from rfl] at ih
    show _ ↔ FS (lw (jf t0.1) t1 :: lw (jf t0.1) t2 :: r) 0
    rw [← ih]
    have ew : wS (t0 :: t1 :: t2 :: r) = wS (lw (jf t0.1) t1 :: lw (jf t0.1) t2 :: r) + 3 * (2 * ((r.length : Int) + 2) * x + 2 * ((r.length : Int) + 1) * jf t0.1) := by
     show 2 * ((r.length + 1 + 1 : Nat) : Int) * t0.1 + (2 * ((r.length + 1 : Nat) : Int) * t1.1 + (2 * (r.length : Int) * t2.1 + wS r)) = 2 * ((r.length + 1 : Nat) : Int) * (t1.1 - jf t0.1) + (2 * (r.length : Int) * (t2.1 - jf t0.1) + wS r) + _
     push_cast
     generalize (r.length : Int) = L
     generalize jf t0.1 = j at *
     generalize wS r = S
     grind
    rw [ew]
    constructor
    ·rintro ⟨h1, h2⟩; exact ⟨h1, by lia⟩
    ·rintro ⟨h1, h2⟩; exact ⟨h1, by lia⟩
   ·have no2 : gl ((t2 :: r).map (·.1)) (t1.1 - jf t0.1) (jf t0.1) = false := by
     match r with
     | [] =>
      show ([0, 3] : List Int).contains (t2.1 - jf t0.1) = false
      rw [Bool.eq_false_iff, ne_eq, has03]; lia
     | u :: r =>
      obtain ⟨k0, _⟩ := jf_is (c := t1.1 - jf t0.1) (by lia) (by lia)
      show (if t2.1 - (jf t0.1 + jf (t1.1 - jf t0.1)) < 0 then false else _) = false
      rw [if_pos (by lia)]
    rw [no2]
    refine ⟨fun h => (by cases h.1), fun h => ?_⟩
    have := (NNs.cons.mp (NNs.cons.mp (fs_nn h).1).2).1
    exact absurd this q2
noncomputable def sub2 : Nat → List T → List T
 | _, [] => []
 | 0, t :: r => lw 2 t :: r
 | i + 1, t :: r => t :: sub2 i r
theorem dc_lw {t : T} {j : Int} : dc (lw j t) = lw j (dc t) := T_eq (by show t.1 - j - 1 = t.1 - 1 - j; lia)
theorem fs_pair {s : List T} {y : Int} (h : FS s y) : y = 1 → ∃ i, i < s.length ∧ 2 ≤ (s.getD i (0, false)).1 ∧ FS (sub2 i s) 0 := by
 induction h with
 | nil => intro q; cases q
 | zero h ih =>
  intro q
  obtain ⟨i, h1, h2, h3⟩ := ih q
  exact ⟨i + 1, by simpa using h1, by simpa using h2, .zero h3⟩
 | @set c y f r h k ih =>
  intro q
  obtain ⟨i, h1, h2, h3⟩ := ih q
  match i, h2, h3 with
  | 0, h2, h3 =>
   have h2 : 2 ≤ c - 3 := h2
   refine ⟨0, Nat.succ_pos _, by show 2 ≤ c; lia, ?_⟩
   refine .set (by lia) ?_
   rw [T_eq (show c - 2 - 3 = c - 3 - 2 by lia)]
   exact h3
  | i + 1, h2, h3 => exact ⟨i + 1, h1, h2, .set h h3⟩
 | @pair c y f r h k ih =>
  intro q
  have : y = 0 := by lia
  subst this
  exact ⟨0, Nat.succ_pos _, h, k⟩
 | @run a b c r y h1 h2 h3 k ih =>
  intro q
  obtain ⟨i, g1, g2, g3⟩ := ih q
  match i, g1, g2, g3 with
  | 0, g1, g2, g3 =>
   have g2 : 2 ≤ a.1 - 1 := g2
   exact ⟨0, g1, by show 2 ≤ a.1; lia, .run (by show 1 ≤ a.1 - 2; lia) h2 h3 (by rw [dc_lw]; exact g3)⟩
  | 1, g1, g2, g3 =>
   have g2 : 2 ≤ b.1 - 1 := g2
   exact ⟨1, g1, by show 2 ≤ b.1; lia, .run h1 (by show 1 ≤ b.1 - 2; lia) h3 (by rw [dc_lw]; exact g3)⟩
  | 2, g1, g2, g3 =>
   have g2 : 2 ≤ c.1 - 1 := g2
   exact ⟨2, g1, by show 2 ≤ c.1; lia, .run h1 h2 (by show 1 ≤ c.1 - 2; lia) (by rw [dc_lw]; exact g3)⟩
  | i + 3, g1, g2, g3 => exact ⟨i + 3, g1, g2, .run h1 h2 h3 g3⟩
theorem fs_put {s' : List T} {y : Int} (h : FS s' y) : ∀ (s : List T) (i : Nat), s' = sub2 i s → i < s.length → 2 ≤ (s.getD i (0, false)).1 → FS s (y + 1) := by
 have base : ∀ {s' : List T} {y : Int}, FS s' y → ∀ (t : T) (r : List T), s' = sub2 0 (t :: r) → 2 ≤ t.1 → FS (t :: r) (y + 1) := fun h t r q h2 => by subst q; exact .pair (c := t.1) h2 h
 induction h with
 | nil =>
  intro s i q hi h2
  match s, i, q, hi with
  | _ :: _, 0, q, _ => cases q
  | _ :: _, _ + 1, q, _ => cases q
 | zero h ih =>
  intro s i q hi h2
  match s, i, q, hi, h2 with
  | t :: r, 0, q, _, h2 => exact base (.zero h) t r q h2
  | t :: r, i + 1, q, hi, h2 => cases q; exact .zero (ih r i rfl (by simpa using hi) (by simpa using h2))
 | @set c y f r0 h k ih =>
  intro s i q hi h2
  match s, i, q, hi, h2 with
  | t :: r, 0, q, _, h2 => exact base (.set h k) t r q h2
  | t :: r, i + 1, q, hi, h2 => cases q; exact .set h (ih ((c - 3, f) :: r) (i + 1) rfl hi h2)
 | @pair c y f r0 h k ih =>
  intro s i q hi h2
  match s, i, q, hi, h2 with
  | t :: r, 0, q, _, h2 => exact base (.pair h k) t r q h2
  | t :: r, i + 1, q, hi, h2 => cases q; exact .pair h (ih ((c - 2, f) :: r) (i + 1) rfl hi h2)
 | @run a b c r0 y h1 h2' h3 k ih =>
  intro s i q hi h2
  match s, i, q, hi, h2 with
  | t :: r, 0, q, _, h2 => exact base (.run h1 h2' h3 k) t r q h2
  | t :: b' :: r, 1, q, hi, h2 =>
   cases q
   have g : 1 ≤ b'.1 - 2 := h2'
   exact .run h1 (by lia) h3 (ih (dc a :: dc b' :: dc c :: r0) 1 (by show _ = dc a :: lw 2 (dc b') :: _; rw [dc_lw]) (by simp) (by show 2 ≤ b'.1 - 1; lia))
  | t :: b' :: c' :: r, 2, q, hi, h2 =>
   cases q
   have g : 1 ≤ c'.1 - 2 := h3
   exact .run h1 h2' (by lia) (ih (dc a :: dc b :: dc c' :: r0) 2 (by show _ = dc a :: dc b :: lw 2 (dc c') :: _; rw [dc_lw]) (by simp) (by show 2 ≤ c'.1 - 1; lia))
  | t :: b' :: c' :: r, i + 3, q, hi, h2 =>
   cases q
   exact .run h1 h2' h3 (ih (dc a :: dc b :: dc c :: r) (i + 3) rfl hi h2)
  | [t], _ + 1, q, hi, _ => exact absurd hi (by simp)
  | [t, b'], _ + 2, q, hi, _ => exact absurd hi (by simp)
theorem sub2_map : ∀ (i : Nat) (s : List T), (sub2 i s).map (·.1) = (s.map (·.1)).set i ((s.map (·.1)).getD i 0 - 2)
 | _, [] => by simp [sub2]
 | 0, t :: r => rfl
 | i + 1, t :: r => by
  show t.1 :: (sub2 i r).map (·.1) = _
  rw [sub2_map i r]; simp
theorem sub2_len : ∀ (i : Nat) (s : List T), (sub2 i s).length = s.length
 | _, [] => by simp [sub2]
 | 0, t :: r => rfl
 | i + 1, t :: r => by show (sub2 i r).length + 1 = _; rw [sub2_len i r]; rfl
theorem wS_sub2 : ∀ (i : Nat) (s : List T), i < s.length → wS (sub2 i s) = wS s - 4 * ((s.length : Int) - 1 - i)
 | 0, t :: r, _ => by show 2 * (r.length : Int) * (t.1 - 2) + wS r = 2 * (r.length : Int) * t.1 + wS r - 4 * (((r.length + 1 : Nat) : Int) - 1 - ((0 : Nat) : Int)); push_cast; grind
 | i + 1, t :: r, h => by
  show 2 * ((sub2 i r).length : Int) * t.1 + wS (sub2 i r) = 2 * (r.length : Int) * t.1 + wS r - 4 * (((r.length + 1 : Nat) : Int) - 1 - ((i + 1 : Nat) : Int))
  rw [sub2_len, wS_sub2 i r (by simpa using h)]
  push_cast; lia
theorem sub2_mem : ∀ (i : Nat) (s : List T), i < s.length → 2 ≤ (s.getD i (0, false)).1 → (∀ t ∈ s, 0 ≤ t.1 ∧ t.1 ≤ 4) → ∀ t ∈ sub2 i s, 0 ≤ t.1 ∧ t.1 ≤ 4
 | 0, t :: r, _, h2, h => fun u hu => by
  have h2 : 2 ≤ t.1 := h2
  have := h t (List.mem_cons_self ..)
  rcases List.mem_cons.mp hu with rfl | hu
  ·show 0 ≤ t.1 - 2 ∧ t.1 - 2 ≤ 4; lia
  ·exact h u (List.mem_cons_of_mem _ hu)
 | i + 1, t :: r, hi, h2, h => fun u hu => by
  rcases List.mem_cons.mp hu with rfl | hu
  ·exact h _ (List.mem_cons_self ..)
  ·exact sub2_mem i r (by simpa using hi) (by simpa using h2) (fun x hx => h x (List.mem_cons_of_mem _ hx)) u hu
theorem ats_all : ∀ (n : Fin 3) (i : Fin 9), i.1 ∈ ats (n.1 : Int) ↔ (((n.1 : Int)) - 4 * (8 - (i.1 : Int))) % 3 = 0 := by decide
theorem ats_iff {nn : Int} {i : Nat} (hn : nn = 0 ∨ nn = 1 ∨ nn = 2) (hi : i < 9) : i ∈ ats nn ↔ 3 ∣ nn - 4 * (8 - (i : Int)) := by
 rw [Int.dvd_iff_emod_eq_zero]
 rcases hn with rfl | rfl | rfl
 ·exact ats_all 0 ⟨i, hi⟩
 ·exact ats_all 1 ⟨i, hi⟩
 ·exact ats_all 2 ⟨i, hi⟩
theorem atm_fs {s : List T} {nn : Int} (hl : s.length = 9) (h : ∀ t ∈ s, 0 ≤ t.1 ∧ t.1 ≤ 4) (hn : nn = 0 ∨ nn = 1 ∨ nn = 2) (hw : 3 ∣ wS s - nn) : (∃ i ∈ ats nn, at2 (s.map (·.1)) i) ↔ FS s 1 := by
 have hg : ∀ i : Nat, (s.map (·.1)).getD i 0 = (s.getD i (0, false)).1 := fun i => by
  rw [List.getD_eq_getElem?_getD, List.getD_eq_getElem?_getD, List.getElem?_map]
  cases s[i]? <;> rfl
 have bd : ∀ i : Nat, i ∈ ats nn → i < 9 := fun i hi => by
  unfold ats at hi
  split at hi
  ·simp at hi; lia
  ·split at hi <;> simp at hi <;> lia
 constructor
 ·rintro ⟨i, hi, h2, h3⟩
  have i9 := bd i hi
  have h2 : 2 ≤ (s.getD i (0, false)).1 := by rw [← hg]; exact h2
  rw [← sub2_map] at h3
  have hd := (ats_iff hn i9).mp hi
  have hw2 := wS_sub2 i s (by lia)
  have := (gm_fs (s := sub2 i s) (by rw [sub2_len]; exact hl) (sub2_mem i s (by lia) h2 h)).mp ⟨h3, by lia⟩
  exact fs_put this s i rfl (by lia) h2
 ·intro hf
  obtain ⟨i, i9, h2, h3⟩ := fs_pair hf rfl
  obtain ⟨g1, g2⟩ := (gm_fs (s := sub2 i s) (by rw [sub2_len]; exact hl) (sub2_mem i s i9 h2 h)).mpr h3
  have hw2 := wS_sub2 i s i9
  refine ⟨i, (ats_iff hn (by lia)).mpr (by lia), by rw [hg]; exact h2, ?_⟩
  rw [← sub2_map]
  exact g1
set_option tactic.hygienic true
section
section
variable {σ : Sto} {p d t n : Nat} {R : RS} {nc : Int} {z : Bool} {K : KE}
set_option maxHeartbeats 8000000 in
theorem c218 (h : RO σ p d t) (hl : R.tl.length = 34) (hq : ∀ τ, K .none (put (σ ++ τ) d t (remR z nc R))) : lCall (callA XW (n + 1)) 210 [.ref p, .int nc, .bool z] (put σ d t R) K := by
 refine lCall.mk (call_of (fn := fnAt 3 17 []) (ae := [("self", .ref p), ("nc", .int nc), ("is_three_player", .bool z)]) (by rfl) ?_)
 have h1 := h.app [⟨true, .range 27 34 1⟩]
 have h2 := h1.app [⟨true, .list (([27, 28, 29, 30, 31, 32, 33] : List Int).map AV.int)⟩]
 have hpd := h.hd
 have hpt := h.ht
 refine s_cons ?_
 refine s_cons ?_
 refine s_join (aeH p nc z 0 0 (σ.length + 1) []) (put (σ ++ [⟨true, .range 27 34 1⟩] ++ [⟨true, .list (([27, 28, 29, 30, 31, 32, 33] : List Int).map AV.int)⟩]) d t R) ?_ ?_
 ·refine wAt_new ?_
  refine wG_i (by first | assumption | decide) ?_
  refine ⟨rfl, ?_, ?_⟩
  ·rw [List.length_append, put_len]; rfl
  ·rw [put_app h, put_app h1]; rfl
 refine s_mid (fun a τ => a = aeH p nc z 0 0 (σ.length + 1) [] ∧ ∃ τ1, τ = put (σ ++ τ1) d t R ∧ RO (σ ++ τ1) p d t ∧ (σ ++ τ1)[σ.length + 1]? = some ⟨true, .list ((ixs z).map AV.int)⟩) ?_ ?_
 ·have hi : (σ ++ [⟨true, .range 27 34 1⟩] ++ [⟨true, .list (([27, 28, 29, 30, 31, 32, 33] : List Int).map AV.int)⟩] : Sto)[σ.length + 1]? = some ⟨true, .list (([27, 28, 29, 30, 31, 32, 33] : List Int).map AV.int)⟩ := by simp
  have hp : p < σ.length := by obtain ⟨b, e⟩ := h.hp; exact (List.getElem?_eq_some_iff.mp e).1
  cases z with
  | false =>
   refine wIf_f ?_
   with_reducible refine s_nil ?_
   exact ⟨rfl, rfl, [⟨true, .range 27 34 1⟩, ⟨true, .list ((ixs false).map AV.int)⟩], by simp [ixs], by simpa [ixs] using h2, by simp⟩
  | true =>
   generalize hσ : (σ ++ [⟨true, .range 27 34 1⟩] ++ [⟨true, .list (([27, 28, 29, 30, 31, 32, 33] : List Int).map AV.int)⟩] : Sto) = σ1 at h2 hi ⊢
   refine wIf_t ?_
   with_reducible refine s_cons ?_
   refine res_lm (b := true) (by rw [put_old (by lia) (by lia)]; exact hi) rfl ?_
   refine wLst_i (b := true) (xs := ([27, 28, 29, 30, 31, 32, 33] : List Int).map AV.int) (old_app (by rw [put_old (by lia) (by lia)]; exact hi)) ?_
   refine wLst_new ?_
   refine wG_i ⟨by rw [put_len]; have := (List.getElem?_eq_some_iff.mp hi).1; lia, by decide⟩ ?_
   rw [put_app h2, put_set (by lia) (by lia)]
   have h3 := (h2.app [⟨true, .list (([0, 8] : List Int).map AV.int)⟩]).set (k := σ.length + 1) (c := ⟨true, .list ((ixs true).map AV.int)⟩) (by lia)
   have e : ((σ1 ++ [⟨true, .list (([0, 8] : List Int).map AV.int)⟩] : Sto).set (σ.length + 1) ⟨true, .list ((ixs true).map AV.int)⟩ : Sto) = σ ++ ([⟨true, .range 27 34 1⟩, ⟨true, .list ((ixs true).map AV.int)⟩, ⟨true, .list (([0, 8] : List Int).map AV.int)⟩] : Sto) := by
    subst hσ
    simp [List.set_append]
   rw [e] at h3
   refine ⟨rfl, rfl, _, ?_, h3, by simp⟩
   rw [← e]; rfl
 rintro _ _ ⟨rfl, τ1, rfl, h2, hi⟩
 refine s_cons ?_
 refine wLst_i (b := true) (xs := (ixs z).map AV.int) (by rw [put_old (by lia) (by lia)]; exact hi) ?_
 refine lockF.mk ?_
 refine loop_H (ixs z) 0 1000 _ R 0 0 [] true ((ixs z).map AV.int) (by cases z <;> decide) rfl (by cases z <;> decide) (by cases z <;> decide) h2 hl hi (by lia) (by lia) (.inl rfl) fun τ x' => ?_
 have h3 := h2.app τ
 have l3 := foldH_len (ixs z) 0 R 0 0 hl
 have hq : ∀ τ', K .none (put (σ ++ τ1 ++ τ ++ τ') d t (remR z nc R)) := fun τ' => by
  have := hq (τ1 ++ (τ ++ τ'))
  simpa only [List.append_assoc] using this
 have hq := hq []
 rw [List.append_nil] at hq
 unfold remR at hq
 dsimp only at hq
 generalize foldH (ixs z) 0 R 0 0 = x at *
 obtain ⟨R', f, s⟩ := x
 dsimp only at *
 generalize hσ : (σ ++ τ1 ++ τ : Sto) = σ' at *
 generalize hq1 : (if R'.jd ≠ 0 ∧ nc.fmod 3 = 2 then ({ R' with jd := R'.jd - 1 } : RS) else R') = Q1 at *
 refine s_join (aeH p nc z f s (σ.length + 1) x') (put σ' d t Q1) ?_ ?_
 ·subst hq1
  refine get_put ‹_› (by rfl) ?_
  refine wIf_bneI ?_
  refine if_split (fun q => ?_) (fun q => ?_)
  ·refine wG_i (by first | assumption | decide) ?_
   refine wIf_beqI ?_
   refine if_split (fun q2 => ?_) (fun q2 => ?_)
   ·rw [if_pos ⟨q, q2⟩]
    refine wIf_t ?_
    with_reducible refine s_cons ?_
    refine get_put ‹_› (by rfl) ?_
    refine set_jd ‹_› ?_
    with_reducible refine s_nil ?_
    exact ⟨rfl, rfl, rfl⟩
   ·rw [if_neg (fun c => q2 c.2)]
    refine wIf_f ?_
    with_reducible refine s_nil ?_
    exact ⟨rfl, rfl, rfl⟩
  ·rw [if_neg (fun c => q c.1)]
   refine wIf_f ?_
   with_reducible refine s_nil ?_
   exact ⟨rfl, rfl, rfl⟩
 have lq : Q1.tl.length = 34 := by subst hq1; split <;> exact l3
 with_reducible refine s_cons ?_
 refine wIf_bneI ?_
 refine if_split (fun q => ?_) (fun q => ?_)
 ·rw [if_pos q] at hq
  with_reducible refine s_cons ?_
  refine get_put ‹_› (by rfl) ?_
  refine wG_sh (by first | decide | lia) ?_
  refine set_fi ‹_› ?_
  with_reducible refine s_cons ?_
  refine wIf_beqI ?_
  refine if_split (fun q2 => ?_) (fun q2 => ?_)
  ·rw [if_pos ⟨q, q2⟩] at hq
   with_reducible refine s_cons ?_
   refine get_put ‹_› (by rfl) ?_
   refine wG_sh (by first | decide | lia) ?_
   refine set_fc ‹_› ?_
   with_reducible refine s_nil ?_
   with_reducible refine s_nil ?_
   with_reducible refine s_nil ?_
   exact hq
  ·rw [if_neg (fun c => q2 c.2)] at hq
   with_reducible refine s_nil ?_
   with_reducible refine s_nil ?_
   with_reducible refine s_nil ?_
   exact hq
 ·rw [if_neg q, if_neg (fun c => q c.1)] at hq
  with_reducible refine s_nil ?_
  with_reducible refine s_nil ?_
  exact hq
end
end
section
noncomputable def stC (j : Nat) : Stmt := (dBody 3 2).getD j (.Pass pos0)
noncomputable abbrev aeC (p : Nat) (im : Int) (z : Bool) (x : Loc) : Loc := ("self", .ref p) :: ("init_mentsu", .int im) :: ("is_three_player", .bool z) :: x
noncomputable def scan1 (x : Int) (R : RS) : RS := { R with fc := Builtin.bitOr R.fc (b2iA (gt R.tl x == 4) * 2 ^ x.toNat) }
noncomputable def scanF : Nat → Int → RS → RS
 | 0, _, R => R
 | m + 1, x, R => scanF m (x + 1) (scan1 x R)
noncomputable def scanR (im : Int) (R : RS) : RS := { scanF 27 0 R with m := (scanF 27 0 R).m + im }
section
variable {p d t n ix : Nat} {im : Int} {z : Bool} {call : Addr → List AV → Sto → XE} {K : KS}
theorem loop_C : ∀ (m N : Nat) (j : Int) (σ : Sto) (R : RS) (x : Loc), 0 ≤ j → j + m = 27 → m < N → RO σ p d t → R.tl.length = 34 → (x = [] ∨ ∃ a, x = ([("i", a)] : Loc)) →
  (∀ x', K .next (aeC p im z x') (put σ d t (scanF m j R))) →
  forA (asgA XW call 39 (dScope 3 2) (forTgt (stC 0))) (seqA (execS XW call 39 (dScope 3 2)) (forBody (stC 0))) N (.rng j m 1) (aeC p im z x) (put σ d t R) K := by
 intro m
 induction m with
 | zero =>
  intro N j σ R x h0 hj hN h hl hx hq
  obtain ⟨N, rfl⟩ : ∃ M, N = M + 1 := ⟨N - 1, by lia⟩
  exact f_end (fun _ _ q => q) (hq x)
 | succ m ih =>
  intro N j σ R x h0 hj hN h hl hx hq
  obtain ⟨N, rfl⟩ : ∃ M, N = M + 1 := ⟨N - 1, by lia⟩
  refine f_turn (v := .int j) (it' := .rng (j + 1) m 1) (fun _ _ q => q) (fun a τ => a = aeC p im z [("i", .int j)] ∧ τ = put σ d t (scan1 j R)) ?_ ?_
  ·refine a_name (ae' := aeC p im z [("i", .int j)]) (by rcases hx with rfl | ⟨a, rfl⟩ <;> rfl) ?_
   refine s_cons ?_
   refine get_put ‹_› (by rfl) ?_
   refine get_put ‹_› (by rfl) ?_
   refine it_put ‹_› (by first | assumption | repeat' first | assumption | apply len_stl) (by first | decide | lia) (by first | decide | lia) ?_
   refine wG_i (by lia) ?_
   refine set_fc ‹_› ?_
   with_reducible refine s_nil ?_
   exact ⟨rfl, rfl, rfl⟩
  ·rintro _ _ ⟨rfl, rfl⟩
   exact ih N (j + 1) σ (scan1 j R) _ (by lia) (by lia) (by lia) h hl (.inr ⟨_, rfl⟩) hq
end
theorem scanF_keep : ∀ (m : Nat) (j : Int) (R : RS), (scanF m j R).tl = R.tl ∧ (scanF m j R).m = R.m ∧ (scanF m j R).ta = R.ta ∧ (scanF m j R).pr = R.pr ∧ (scanF m j R).jd = R.jd ∧ (scanF m j R).mn = R.mn
 | 0, _, _ => ⟨rfl, rfl, rfl, rfl, rfl, rfl⟩
 | m + 1, j, R => scanF_keep m (j + 1) (scan1 j R)
theorem scanR_len {R : RS} {im : Int} (hl : R.tl.length = 34) : (scanR im R).tl.length = 34 := by
 have := (scanF_keep 27 0 R).1
 unfold scanR
 generalize scanF 27 0 R = S at this ⊢
 show S.tl.length = 34
 rw [this]; exact hl
noncomputable def mz (z : Bool) : Nat := if z = true then 2 else 3
noncomputable def d0 (z : Bool) : Int := if z = true then 9 else 0
structure Rh (z : Bool) (k : Nat) (S : RS) : Prop where
 good : Good S
 fn : FN S
 fi : FiOk (d0 z) S
 fu : (27 - d0 z) + s27 S.tl ≤ (k : Int) - 1
set_option maxHeartbeats 1000000 in
theorem c113 {σ : Sto} {p d t k : Nat} {R : RS} {im : Int} {z : Bool} {K : KE} (h : RO σ p d t) (hl : R.tl.length = 34) (hr : Rh z k (scanR im R)) (hq : ∀ τ r, Mn (HO 0 (mz z) (d0 z) (scanR im R)) (scanR im R).jd (scanR im R).mn r → K .none (put (σ ++ τ) d t (wm (scanR im R) r))) :
  lCall (callA XW (k + 2 + 1)) 105 [.ref p, .int im, .bool z] (put σ d t R) K := by
 refine lCall.mk (call_of (fn := fnAt 3 2 []) (ae := aeC p im z []) (by rfl) ?_)
 have h1 := h.app [⟨true, .range 0 27 1⟩]
 refine s_cons ?_
 refine lIter.mk ?_
 refine wAt_new ?_
 refine wG_i (by first | assumption | decide) ?_
 rw [put_app h]
 rw [show rangeN 0 27 1 = 27 by decide]
 refine lockF.mk ?_
 refine loop_C 27 1000 0 _ R [] (by lia) (by lia) (by lia) h1 hl (.inl rfl) fun x' => ?_
 refine s_join (aeC p im z x') (put (σ ++ [⟨true, .range 0 27 1⟩]) d t (scanR im R)) ?_ ?_
 ·refine get_put ‹_› (by rfl) ?_
  refine set_m ‹_› ?_
  exact ⟨rfl, rfl, rfl⟩
 have ih := run_ok h1 k
 generalize scanR im R = S at hr hq ⊢
 clear hl
 obtain ⟨g, f, fi, fu⟩ := hr
 refine s_cons ?_
 cases z with
 | true =>
  refine res_put ‹_› (by rfl) ?_
  refine wIf_t ?_
  refine c120 (n := 0) (m := 2) ih (by decide) (by decide) (by decide) g f fi fu fun r a => ?_
  exact hq _ r a
 | false =>
  refine res_put ‹_› (by rfl) ?_
  refine wIf_f ?_
  refine c120 (n := 0) (m := 3) ih (by decide) (by decide) (by decide) g f fi fu fun r a => ?_
  exact hq _ r a
noncomputable def R0 (h : List Int) : RS := ⟨h, 0, 0, 0, 0, 0, 0, 8⟩
noncomputable def R1 (z : Bool) (cnt : Int) (h : List Int) : RS := scanR ((14 - cnt).fdiv 3) (remR z cnt (R0 h))
theorem len_rem {z : Bool} {nc : Int} {R : RS} (hl : R.tl.length = 34) : (remR z nc R).tl.length = 34 := by
 have := foldH_len (ixs z) 0 R 0 0 hl
 unfold remR
 generalize foldH (ixs z) 0 R 0 0 = x at this ⊢
 obtain ⟨R', f, s⟩ := x
 dsimp only at this ⊢
 repeat' split
 all_goals exact this
set_option maxHeartbeats 1000000 in
theorem c106 {σ : Sto} {p d t k : Nat} {h : List Int} {cnt : Int} {K : KE} (ho : RO σ p d t) (hl : h.length = 34) (hc : cnt ≤ 14) (hm : cnt.fmod 3 ≠ 0) (hz : z = true → (h.drop 1).take 7 = [0, 0, 0, 0, 0, 0, 0]) (hr : Rh z k (R1 z cnt h)) (hq : ∀ τ r, Mn (HO 0 (mz z) (d0 z) (R1 z cnt h)) (R1 z cnt h).jd (R1 z cnt h).mn r → K (.int r) (put (σ ++ τ) d t (wm (R1 z cnt h) r))) :
  lCall (callA XW (k + 3 + 1)) 98 [.ref p, .int cnt, .bool z] (put σ d t (R0 h)) K := by
 refine lCall.mk (call_of (fn := fnAt 3 1 []) (ae := [("self", .ref p), ("count_of_tiles", .int cnt), ("is_three_player", .bool z)]) (by rfl) ?_)
 refine s_mid (fun a τ => a = ([("self", .ref p), ("count_of_tiles", .int cnt), ("is_three_player", .bool z)] : Loc) ∧ ∃ τ1, τ = put (σ ++ τ1) d t (R0 h)) ?_ ?_
 ·cases z with
  | false =>
   refine wIf_f ?_
   refine wIf_f ?_
   with_reducible refine s_nil ?_
   exact ⟨rfl, rfl, [], by simp⟩
  | true =>
   refine wIf_t ?_
   refine get_put ‹_› (by rfl) ?_
   refine sl_i (put_t ho) 1 8 (by show ((R0 h).tl.map AV.int).length ≤ 100000; simp [R0, hl]) (by show some (clipAt ((R0 h).tl.map AV.int).length 1) = some 1; simp [R0, hl]; decide) (by show some (clipAt ((R0 h).tl.map AV.int).length 8) = some 8; simp [R0, hl]; decide) ?_
   have e : (((R0 h).tl.map AV.int).drop 1).take (8 - 1) = ([0, 0, 0, 0, 0, 0, 0] : List Int).map AV.int := by
    have := hz rfl
    show ((h.map AV.int).drop 1).take 7 = _
    rw [← List.map_drop, ← List.map_take, this]
   rw [e]
   refine wLst_new (wInts_i ?_)
   refine wIf_f ?_
   refine wIf_f ?_
   with_reducible refine s_nil ?_
   exact ⟨rfl, rfl, [⟨true, .list (([0, 0, 0, 0, 0, 0, 0] : List Int).map AV.int)⟩], by rw [put_app ho]⟩
 rintro _ _ ⟨rfl, τ1, rfl⟩
 replace ho := ho.app τ1
 replace hq : ∀ τ r, Mn (HO 0 (mz z) (d0 z) (R1 z cnt h)) (R1 z cnt h).jd (R1 z cnt h).mn r → K (.int r) (put (σ ++ τ1 ++ τ) d t (wm (R1 z cnt h) r)) := fun τ r a => by have := hq (τ1 ++ τ) r a; rwa [← List.append_assoc] at this
 generalize hσ : (σ ++ τ1 : Sto) = σ' at *
 clear hσ
 with_reducible refine s_cons ?_
 refine wIf_decI ?_
 refine if_split (fun q => absurd q (by lia)) (fun q => ?_)
 with_reducible refine s_nil ?_
 with_reducible refine s_cons ?_
 refine wG_i (by first | assumption | decide) ?_
 refine wIf_beqI ?_
 refine if_split (fun q => absurd q hm) (fun q => ?_)
 with_reducible refine s_nil ?_
 with_reducible refine s_cons ?_
 refine res_put ‹_› (by rfl) ?_
 refine c218 ho hl fun τ => ?_
 have ho1 := ho.app τ
 have lr : (remR z cnt (R0 h)).tl.length = 34 := len_rem hl
 unfold R1 at hr hq
 generalize remR z cnt (R0 h) = Rm at hr lr hq ⊢
 refine s_cons ?_
 refine wG_i (by first | assumption | decide) ?_
 refine s_cons ?_
 refine res_put ‹_› (by rfl) ?_
 refine c113 ho1 lr hr fun τ' r a => ?_
 have ho2 := ho1.app τ'
 have hq := hq (τ ++ τ') r a
 rw [← List.append_assoc] at hq
 generalize scanR ((14 - cnt).fdiv 3) Rm = S at hq ⊢
 refine s_cons ?_
 refine get_put ‹_› (by rfl) ?_
 exact hq
end
noncomputable def newS (σ : Sto) (es : List (Str × AV)) (h : List Int) : Sto := σ ++ [⟨true, .ns es⟩, ⟨true, .inst 213 σ.length⟩, ⟨true, .list (h.map AV.int)⟩]
theorem newS_d {σ : Sto} {es : List (Str × AV)} {h : List Int} : (newS σ es h)[σ.length]? = some ⟨true, .ns es⟩ := by unfold newS; simp
theorem newS_p {σ : Sto} {es : List (Str × AV)} {h : List Int} : (newS σ es h)[σ.length + 1]? = some ⟨true, .inst 213 σ.length⟩ := by unfold newS; simp
theorem set_new {σ : Sto} {es : List (Str × AV)} {h : List Int} {name : Str} {v : AV} {K : Sto → Prop} (ho : (ownW.contains name && Nat.ble es.length 100) = true) (k : K (newS σ (putField name v es) h)) : lSet XW (.ref (σ.length + 1)) name v (newS σ es h) K := lSet.mk <| by
 refine wAt_i newS_p (wAt_i newS_d ?_)
 obtain ⟨h1, h2⟩ := Bool.and_eq_true_iff.mp ho
 show wB (true && XW.own 213 name && Nat.ble es.length 100) _
 rw [own_w h1, h2]
 show K _
 rw [show (newS σ es h).set σ.length ⟨true, .ns (putField name v es)⟩ = newS σ (putField name v es) h by
  unfold newS
  rw [List.set_append_right _ _ (Nat.le_refl _)]
  simp]
 exact k
theorem newS_put {σ : Sto} {h : List Int} : newS σ (flds (σ.length + 2) (R0 h)) h = put (newS σ [] h) σ.length (σ.length + 2) (R0 h) := by
 unfold put newS R0
 rw [List.set_append_right _ _ (Nat.le_refl _), List.set_append_right _ _ (by lia)]
 simp
theorem newS_RO {σ : Sto} {h : List Int} : RO (newS σ [] h) (σ.length + 1) σ.length (σ.length + 2) :=
 ⟨⟨true, newS_p⟩, by unfold newS; simp, by unfold newS; simp, by lia, by lia, by lia⟩
noncomputable def RegIs (z : Bool) (k : Nat) (cnt : Int) (h : List Int) (r : Int) : Prop := Rh z k (R1 z cnt h) ∧ ∀ r', Mn (HO 0 (mz z) (d0 z) (R1 z cnt h)) (R1 z cnt h).jd (R1 z cnt h).mn r' → r' = r
set_option maxHeartbeats 1000000 in
theorem new_obj {σ : Sto} {k n : Nat} {b : Bool} {h : List Int} {K : Sto → Prop} (e : σ[k]? = some ⟨b, .list (h.map AV.int)⟩) (hl : h.length = 34) (hq : K (put (newS σ [] h) σ.length (σ.length + 2) (R0 h))) :
  lCall (callA XW (n + 1)) 91 [.ref (σ.length + 1), .ref k] (σ ++ [⟨true, .ns []⟩, ⟨true, .inst 213 σ.length⟩]) fun v σ' => ifNone v (K σ') := by
 have hk : (σ ++ [⟨true, .ns []⟩, ⟨true, .inst 213 σ.length⟩] : Sto)[k]? = some ⟨b, .list (h.map AV.int)⟩ := old_app e
 refine lCall.mk (call_of (fn := fnAt 3 0 []) (ae := [("self", .ref (σ.length + 1)), ("tiles_34", .ref k)]) (by rfl) ?_)
 refine s_cons ?_
 refine wAt_i hk ?_
 refine wG_i (by simp [hl]) ?_
 rw [← newS_put] at hq
 rw [show (σ ++ [⟨true, .ns []⟩, ⟨true, .inst 213 σ.length⟩] ++ [⟨true, .list (h.map AV.int)⟩] : Sto) = newS σ [] h by unfold newS; simp, show (σ ++ [⟨true, .ns []⟩, ⟨true, .inst 213 σ.length⟩] : Sto).length = σ.length + 2 by simp]
 repeat (first | refine set_new (by rfl) ?_ | with_reducible refine s_cons ?_ | refine s_cons ?_)
 exact hq
theorem put_newS_app {σ τ : Sto} {h : List Int} {R : RS} : ∃ τ', put (newS σ [] h ++ τ) σ.length (σ.length + 2) R = σ ++ τ' := by
 unfold put newS
 rw [List.append_assoc, List.set_append_right _ _ (Nat.le_refl _), List.set_append_right _ _ (by lia)]
 exact ⟨_, rfl⟩
theorem calc_on {σ : Sto} {k : Nat} {z : Bool} {h : List Int} {cnt r : Int} {K : KE} (hl : h.length = 34) (hc : cnt ≤ 14) (hm : cnt.fmod 3 ≠ 0) (hz : z = true → (h.drop 1).take 7 = [0, 0, 0, 0, 0, 0, 0]) (hr : RegIs z k cnt h r) (hq : ∀ τ, K (.int r) (σ ++ τ)) :
  lCall (callA XW (k + 3 + 1)) 98 [.ref (σ.length + 1), .int cnt, .bool z] (put (newS σ [] h) σ.length (σ.length + 2) (R0 h)) K := by
 obtain ⟨e1, e2⟩ := hr
 refine c106 newS_RO hl hc hm hz e1 fun τ r' a => ?_
 obtain ⟨τ', e4⟩ := put_newS_app (σ := σ) (τ := τ) (h := h) (R := wm (R1 z cnt h) r')
 obtain rfl := e2 r' a
 rw [e4]
 exact hq τ'
theorem res_calc {σ : Sto} {h : List Int} {Kf : Addr → List AV → Prop} {Kl : Nat → LM → Prop} (k : Kf 98 [.ref (σ.length + 1)]) : lRes XW (.ref (σ.length + 1)) "calculate" (put (newS σ [] h) σ.length (σ.length + 2) (R0 h)) Kf Kl := res_put newS_RO rfl k
set_option maxHeartbeats 1000000 in
theorem c75 {σ : Sto} {j k : Nat} {b z : Bool} {h : List Int} {cnt r : Int} {args : List AV} {K : KE} (ha : bindA (fnAt 2 7 [.bool false]) args = some ([("tiles_34", .ref j), ("is_three_player", .bool z)] : Loc)) (e : σ[j]? = some ⟨b, .list (h.map AV.int)⟩) (hl : h.length = 34) (hs : h.sum = cnt) (hc : cnt ≤ 14) (hm : cnt.fmod 3 ≠ 0) (hz : z = true → (h.drop 1).take 7 = [0, 0, 0, 0, 0, 0, 0]) (hr : RegIs z k cnt h r) (hq : ∀ τ, K (.int r) (σ ++ τ)) :
  lCall (callA XW (k + 4 + 1)) 67 args σ K := by
 refine lCall.mk (call_of (fn := fnAt 2 7 [.bool false]) (ae := [("tiles_34", .ref j), ("is_three_player", .bool z)]) (by show ((bindA (fnAt 2 7 [.bool false]) args).map _) = _; rw [ha]; rfl) ?_)
 refine s_cons ?_
 refine wLst_i ‹_› ?_
 refine wNums_i ?_
 refine s_cons ?_
 rw [sumA_eq, hs]
 refine new_obj e hl ?_
 refine res_calc ?_
 exact calc_on hl hc hm hz hr hq
set_option tactic.hygienic false
noncomputable def n34 (l : List Int) : Int := (l.countP (fun c => c == 3 || c == 4) : Nat)
noncomputable def n4 (l : List Int) : Int := (l.countP (fun c => c == 4) : Nat)
noncomputable def n2 (l : List Int) : Int := (l.countP (fun c => c == 2) : Nat)
noncomputable def a41 (l : List Int) : Bool := l.any fun c => c == 4 || c == 1
noncomputable def a1 (l : List Int) : Bool := l.any fun c => c == 1
theorem or_pow {n j : Nat} : Builtin.bitOr (n : Int) (1 * 2 ^ ((j : Int)).toNat) = ((n ||| 2 ^ j : Nat) : Int) := by
 rw [pow_cast, bitOr_nat, Int.toNat_natCast]
theorem cnt_cons (p : Int → Bool) (c : Int) (l : List Int) : (((c :: l).countP p : Nat) : Int) = (l.countP p : Nat) + if p c = true then 1 else 0 := by
 rw [List.countP_cons]; split <;> simp
structure FH (l : List Int) (j : Nat) (R : RS) (f s : Nat) (x : RS × Int × Int) : Prop where
 tl : x.1.tl = R.tl
 m : x.1.m = R.m + n34 l
 ta : x.1.ta = R.ta
 pr : x.1.pr = R.pr + n2 l
 jd : x.1.jd = R.jd + n4 l
 fc : x.1.fc = R.fc
 fi : x.1.fi = R.fi
 mn : x.1.mn = R.mn
 fs : ∃ f' s' : Nat, x.2.1 = (f' : Int) ∧ x.2.2 = (s' : Int) ∧ (s' ≠ 0 ↔ s ≠ 0 ∨ a41 l = true) ∧ (f' ||| s' = f' ↔ f ||| s = f ∧ a1 l = false)
theorem bit_hi {n j : Nat} (h : n < 2 ^ j) : n.testBit j = false := Nat.testBit_lt_two_pow h
theorem or_lt {n j : Nat} (h : n < 2 ^ j) : n ||| 2 ^ j < 2 ^ (j + 1) := by
 rw [or_bit (bit_hi h), Nat.pow_succ]; lia -abstractProof
theorem hoR_eq {i : Int} {R : RS} {c : Int} (hc : gt R.tl i = c) : hoR i R = { R with m := R.m + (if (c == 3 || c == 4) = true then 1 else 0), jd := R.jd + (if (c == 4) = true then 1 else 0), pr := R.pr + (if (c == 2) = true then 1 else 0) } := by
 unfold hoR h4
 by_cases c4 : c = 4
 ·subst c4
  rw [if_pos hc, show h3 i { R with m := R.m + 1, jd := R.jd + 1 } = { R with m := R.m + 1, jd := R.jd + 1 } from if_neg (by show ¬ gt R.tl i = 3; rw [hc]; decide), show h2 i { R with m := R.m + 1, jd := R.jd + 1 } = { R with m := R.m + 1, jd := R.jd + 1 } from if_neg (by show ¬ gt R.tl i = 2; rw [hc]; decide)]
  show ({ R with m := R.m + 1, jd := R.jd + 1 } : RS) = { R with m := R.m + 1, jd := R.jd + 1, pr := R.pr + 0 }
  rw [Int.add_zero]
 rw [if_neg (by rw [hc]; exact c4)]
 by_cases c3 : c = 3
 ·subst c3
  rw [show h3 i R = { R with m := R.m + 1 } from if_pos hc, show h2 i { R with m := R.m + 1 } = { R with m := R.m + 1 } from if_neg (by show ¬ gt R.tl i = 2; rw [hc]; decide)]
  show ({ R with m := R.m + 1 } : RS) = { R with m := R.m + 1, jd := R.jd + 0, pr := R.pr + 0 }
  rw [Int.add_zero, Int.add_zero]
 rw [show h3 i R = R from if_neg (by rw [hc]; exact c3)]
 unfold h2
 by_cases c2 : c = 2
 ·subst c2; rw [if_pos hc]
  show ({ R with pr := R.pr + 1 } : RS) = { R with m := R.m + 0, jd := R.jd + 0, pr := R.pr + 1 }
  rw [Int.add_zero, Int.add_zero]
 ·rw [if_neg (by rw [hc]; exact c2)]
  rw [beq_eq_false_iff_ne.mpr c2, beq_eq_false_iff_ne.mpr c3, beq_eq_false_iff_ne.mpr c4]
  show R = { R with m := R.m + 0, jd := R.jd + 0, pr := R.pr + 0 }
  rw [Int.add_zero, Int.add_zero, Int.add_zero]
theorem up_cnt {p : Int → Bool} {c : Int} {l : List Int} {a b x : Int} (h : x = b + (l.countP p : Nat)) (hb : b = a + if p c = true then 1 else 0) : x = a + ((c :: l).countP p : Nat) := by
 rw [cnt_cons, h, hb]; exact (Int.add_assoc ..).trans (congrArg (a + ·) (Int.add_comm _ _))
theorem foldH_spec : ∀ (l : List Int) (j : Nat) (R : RS) (f s : Nat), f < 2 ^ j → s < 2 ^ j → FH (l.map (gt R.tl)) j R f s (foldH l j R (f : Int) (s : Int))
 | [], j, R, f, s, _, _ => ⟨rfl, (Int.add_zero _).symm, rfl, (Int.add_zero _).symm, (Int.add_zero _).symm, rfl, rfl, rfl, f, s, rfl, rfl, ⟨.inl, fun h => h.elim id fun h => nomatch h⟩, ⟨fun h => ⟨h, rfl⟩, And.left⟩⟩
 | i :: l, j, R, f, s, hf, hs => by
  generalize hc : gt R.tl i = c
  have e := hoR_eq hc
  have et : (hoR i R).tl = R.tl := by rw [e]
  have go : ∀ f1 s1 : Nat, h4f i j R (f : Int) = (f1 : Int) → hoI i j R (s : Int) = (s1 : Int) → f1 < 2 ^ (j + 1) → s1 < 2 ^ (j + 1) → (s1 ≠ 0 ↔ s ≠ 0 ∨ (c == 4 || c == 1) = true) → (f1 ||| s1 = f1 ↔ f ||| s = f ∧ (c == 1) = false) →
    FH ((i :: l).map (gt R.tl)) j R f s (foldH (i :: l) j R (f : Int) (s : Int)) := by
   intro f1 s1 e1 e2 b1 b2 z1 z2
   have ih := foldH_spec l (j + 1) (hoR i R) f1 s1 b1 b2
   rw [et] at ih
   obtain ⟨i1, i2, i3, i4, i5, i6, i7, i8, f', s', i9, i10, i11, i12⟩ := ih
   have ef : foldH (i :: l) j R (f : Int) (s : Int) = foldH l (j + 1) (hoR i R) (f1 : Int) (s1 : Int) := by
    show foldH l (j + 1) (hoR i R) (h4f i j R f) (hoI i j R s) = _
    rw [e1, e2]
   rw [ef, List.map_cons, hc]
   exact ⟨i1.trans et, up_cnt i2 (congrArg RS.m e), i3.trans (congrArg RS.ta e :), up_cnt i4 (congrArg RS.pr e), up_cnt i5 (congrArg RS.jd e), i6.trans (congrArg RS.fc e :), i7.trans (congrArg RS.fi e :), i8.trans (congrArg RS.mn e :), f', s', i9, i10,
    i11.trans ((or_congr_left z1).trans (or_assoc.trans (or_congr_right Bool.or_eq_true_iff.symm))), i12.trans ((and_congr_left fun _ => z2).trans (and_assoc.trans (and_congr_right fun _ => Bool.or_eq_false_iff.symm)))⟩
  have h1 : ∀ s0 : Int, h1f i j (hoR i R) s0 = if c = 1 then Builtin.bitOr s0 (1 * 2 ^ (j : Int).toNat) else s0 := fun s0 => by unfold h1f; rw [et, hc]
  have h4' : ∀ s0 : Int, h4f i j R s0 = if c = 4 then Builtin.bitOr s0 (1 * 2 ^ (j : Int).toNat) else s0 := fun s0 => by unfold h4f; rw [hc]
  have up2 : ∀ n : Nat, n < 2 ^ j → n < 2 ^ (j + 1) := fun n h => by rw [Nat.pow_succ]; lia -abstractProof
  have ne : ∀ n : Nat, n ||| 2 ^ j ≠ 0 := fun n q => by have := congrArg (·.testBit j) q; simp [Nat.testBit_or, Nat.testBit_two_pow] at this
  by_cases c4 : c = 4
  ·subst c4
   refine go (f ||| 2 ^ j) (s ||| 2 ^ j) (by rw [h4', if_pos rfl, or_pow]) (by unfold hoI; rw [h1, h4', if_neg (by decide), if_pos rfl, or_pow]) (or_lt hf) (or_lt hs) ⟨fun _ => .inr rfl, fun _ => ne s⟩ ?_
   rw [or_sub, or_sub]
   constructor
   ·intro h
    refine ⟨fun k hk => ?_, by decide⟩
    have := h k (by rw [Nat.testBit_or, hk]; rfl)
    rw [Nat.testBit_or, Bool.or_eq_true, Nat.testBit_two_pow, decide_eq_true_eq] at this
    rcases this with this | rfl
    ·exact this
    ·rw [bit_hi hs] at hk; cases hk
   ·rintro ⟨h, -⟩ k hk
    rw [Nat.testBit_or, Bool.or_eq_true] at hk ⊢
    exact hk.imp (h k) id
  ·by_cases c1 : c = 1
   ·subst c1
    refine go f (s ||| 2 ^ j) (by rw [h4', if_neg (by decide)]) (by unfold hoI; rw [h1, h4', if_pos rfl, if_neg (by decide), or_pow]) (up2 f hf) (or_lt hs) ⟨fun _ => .inr rfl, fun _ => ne s⟩ ?_
    rw [or_sub]
    constructor
    ·intro h
     have := h j (by rw [Nat.testBit_or, Nat.testBit_two_pow]; simp)
     rw [bit_hi hf] at this; cases this
    ·rintro ⟨-, h⟩; exact absurd h (by decide)
   ·have x1 : (c == 1) = false := beq_eq_false_iff_ne.mpr c1
    have x4 : (c == 4) = false := beq_eq_false_iff_ne.mpr c4
    exact go f s (by rw [h4', if_neg c4]) (by unfold hoI; rw [h1, h4', if_neg c1, if_neg c4]) (up2 f hf) (up2 s hs) (by rw [x1, x4]; exact ⟨.inl, fun h => h.elim id fun h => nomatch h⟩) (by rw [x1]; exact ⟨fun h => ⟨h, rfl⟩, And.left⟩)
set_option tactic.hygienic true
set_option tactic.hygienic false
noncomputable def cs (z : Bool) (h : List Int) : List Int := (ixs z).map (gt h)
noncomputable def jdO (z : Bool) (cnt : Int) (h : List Int) : Int := if n4 (cs z h) ≠ 0 ∧ cnt.fmod 3 = 2 then n4 (cs z h) - 1 else n4 (cs z h)
noncomputable def base (z : Bool) (cnt : Int) (h : List Int) : O := ⟨n34 (cs z h) + (14 - cnt).fdiv 3, 0, n2 (cs z h), a41 (cs z h), a1 (cs z h)⟩
noncomputable def sH : Nat → Int → List Int → List T
 | 0, _, _ => []
 | n + 1, d, h => (gt h d, gt h d == 4) :: sH n (d + 1) h
noncomputable def suitsH : Nat → List Int → List (List T)
 | 0, _ => []
 | m + 1, h => sH 9 (18 - 9 * (m : Int)) h :: suitsH m h
structure RM (z : Bool) (cnt : Int) (h : List Int) (R : RS) : Prop where
 tl : R.tl = h
 m : R.m = n34 (cs z h)
 ta : R.ta = 0
 pr : R.pr = n2 (cs z h)
 jd : R.jd = jdO z cnt h
 fi : R.fi = ((if a41 (cs z h) = true then 2 ^ 27 else 0 : Nat) : Int)
 fc : R.fc = ((if a41 (cs z h) = true ∧ a1 (cs z h) = false then 2 ^ 27 else 0 : Nat) : Int)
 mn : R.mn = 8
theorem remR_is (z : Bool) (cnt : Int) (h : List Int) : RM z cnt h (remR z cnt (R0 h)) := by
 have F : FH (cs z h) 0 (R0 h) 0 0 (foldH (ixs z) 0 (R0 h) 0 0) := foldH_spec (ixs z) 0 (R0 h) 0 0 (by decide) (by decide)
 unfold remR
 generalize foldH (ixs z) 0 (R0 h) 0 0 = x at F ⊢
 obtain ⟨R, f0, s0⟩ := x
 obtain ⟨h1, h2, h3, h4, h5, h6, h7, h8, f, s, e1, e2, e3, e4⟩ := F
 have h2 := h2.trans (Int.zero_add _)
 have h4 := h4.trans (Int.zero_add _)
 have h5 := h5.trans (Int.zero_add _)
 dsimp only at *
 subst e1 e2
 have k1 : ((s : Int) ≠ 0) ↔ a41 (cs z h) = true := Int.natCast_ne_zero.trans (e3.trans (or_iff_right fun c => c rfl))
 have k2 : (Builtin.bitOr (f : Int) (s : Int) = f) ↔ a1 (cs z h) = false := by rw [bitOr_nat, Int.ofNat_inj]; exact e4.trans (and_iff_right rfl)
 have q : ∀ R1 : RS, R1 = (if R.jd ≠ 0 ∧ cnt.fmod 3 = 2 then { R with jd := R.jd - 1 } else R) → R1.tl = h ∧ R1.m = n34 (cs z h) ∧ R1.ta = 0 ∧ R1.pr = n2 (cs z h) ∧ R1.jd = jdO z cnt h ∧ R1.fi = 0 ∧ R1.fc = 0 ∧ R1.mn = 8 := by
  rintro R1 rfl
  unfold jdO
  rw [h5]
  split
  ·exact ⟨h1, h2, h3, h4, rfl, h7, h6, h8⟩
  ·exact ⟨h1, h2, h3, h4, h5, h7, h6, h8⟩
 generalize hq : (if R.jd ≠ 0 ∧ cnt.fmod 3 = 2 then ({ R with jd := R.jd - 1 } : RS) else R) = R1 at *
 obtain ⟨q1, q2, q3, q4, q5, q6, q7, q8⟩ := q R1 rfl
 have z27 : Builtin.bitOr (0 : Int) (1 * 2 ^ (27 : Int).toNat) = ((2 ^ 27 : Nat) : Int) := by
  have := or_pow (n := 0) (j := 27)
  rw [Nat.zero_or] at this
  exact this
 by_cases c1 : (s : Int) ≠ 0
 ·have d1 := k1.mp c1
  rw [if_pos c1]
  by_cases c2 : Builtin.bitOr (f : Int) (s : Int) = f
  ·have d2 := k2.mp c2
   rw [if_pos ⟨c1, c2⟩]
   exact ⟨q1, q2, q3, q4, q5, by show Builtin.bitOr R1.fi _ = _; rw [q6, z27, if_pos d1], by show Builtin.bitOr R1.fc _ = _; rw [q7, z27, if_pos ⟨d1, d2⟩], q8⟩
  ·rw [if_neg (fun c => c2 c.2)]
   exact ⟨q1, q2, q3, q4, q5, by show Builtin.bitOr R1.fi _ = _; rw [q6, z27, if_pos d1], by show R1.fc = _; rw [q7, if_neg (fun c => c2 (k2.mpr c.2))]; rfl, q8⟩
 ·rw [if_neg c1, if_neg (fun c => c1 c.1)]
  exact ⟨q1, q2, q3, q4, q5, by rw [q6, if_neg (fun c => c1 (k1.mpr c))]; rfl, by rw [q7, if_neg (fun c => c1 (k1.mpr c.1))]; rfl, q8⟩
theorem scanF_is : ∀ (m : Nat) (x : Nat) (R : RS) (N : Nat), R.fc = (N : Int) → ∃ N' : Nat, (scanF m x R).fc = (N' : Int) ∧ (scanF m x R).fi = R.fi ∧ ∀ j : Nat, N'.testBit j = (N.testBit j || (decide (x ≤ j) && decide (j < x + m) && gt R.tl j == 4))
 | 0, x, R, N, e => ⟨N, e, rfl, fun j => by
  have : (decide (x ≤ j) && decide (j < x + 0)) = false := by simp
  rw [this]; simp⟩
 | m + 1, x, R, N, e => by
  have hs : (scan1 x R).fc = ((if gt R.tl x = 4 then N ||| 2 ^ x else N : Nat) : Int) := by
   show Builtin.bitOr R.fc (b2iA (gt R.tl x == 4) * 2 ^ ((x : Int)).toNat) = _
   rw [e]
   by_cases c : gt R.tl x = 4
   ·rw [if_pos c, beq_iff_eq.mpr c]; exact or_pow
   ·rw [if_neg c, beq_eq_false_iff_ne.mpr c]
    show Builtin.bitOr (N : Int) (0 * 2 ^ ((x : Int)).toNat) = _
    rw [Int.zero_mul]
    have := bitOr_nat N 0
    rw [Nat.or_zero] at this
    exact this
  obtain ⟨N', a, b, c⟩ := scanF_is m (x + 1) (scan1 x R) _ hs
  refine ⟨N', a, b, fun j => ?_⟩
  rw [c j]
  show (_ || (decide (x + 1 ≤ j) && decide (j < x + 1 + m) && gt R.tl j == 4)) = _
  by_cases hj : j = x
  ·subst hj
   have x1 : decide (j + 1 ≤ j) = false := by simp
   have x2 : decide (j < j + (m + 1)) = true := by simp
   have x3 : decide (j ≤ j) = true := by simp
   rw [x1, x2, x3]
   by_cases c : gt R.tl j = 4
   ·rw [if_pos c, beq_iff_eq.mpr c, Nat.testBit_or, Nat.testBit_two_pow]; simp
   ·rw [if_neg c, beq_eq_false_iff_ne.mpr c]; simp
  ·have y1 : decide (x + 1 ≤ j) = decide (x ≤ j) := by rw [decide_eq_decide]; lia -abstractProof
   have y2 : decide (j < x + 1 + m) = decide (j < x + (m + 1)) := by rw [decide_eq_decide]; lia -abstractProof
   rw [y1, y2]
   congr 1
   split
   ·rw [Nat.testBit_or, Nat.testBit_two_pow, decide_eq_false (fun q => hj q.symm), Bool.or_false]
   ·rfl
set_option tactic.hygienic true
set_option tactic.hygienic false
theorem gt_nn {h : List Int} (hn : ∀ c ∈ h, 0 ≤ c) (j : Int) : 0 ≤ gt h j := by
 unfold gt
 rw [List.getD_eq_getElem?_getD]
 cases e : h[j.toNat]? with
 | none => exact Int.le_refl _
 | some c => exact hn c (List.mem_of_getElem? e)
theorem list7 : ∀ {l : List Int}, l.length = 7 → l = [l.getD 0 0, l.getD 1 0, l.getD 2 0, l.getD 3 0, l.getD 4 0, l.getD 5 0, l.getD 6 0]
 | [_, _, _, _, _, _, _], _ => rfl
structure RI (z : Bool) (cnt : Int) (h : List Int) (R : RS) (N : Nat) : Prop where
 tl : R.tl = h
 m : R.m = n34 (cs z h) + (14 - cnt).fdiv 3
 ta : R.ta = 0
 pr : R.pr = n2 (cs z h)
 jd : R.jd = jdO z cnt h
 fi : R.fi = ((if a41 (cs z h) = true then 2 ^ 27 else 0 : Nat) : Int)
 fc : R.fc = (N : Int)
 mn : R.mn = 8
 bits : ∀ j : Nat, N.testBit j = ((if a41 (cs z h) = true ∧ a1 (cs z h) = false then 2 ^ 27 else 0 : Nat).testBit j || (decide (0 ≤ j) && decide (j < 0 + 27) && gt h j == 4))
theorem r1_is (z : Bool) (cnt : Int) (h : List Int) : ∃ N, RI z cnt h (R1 z cnt h) N := by
 unfold R1 scanR
 have b := remR_is z cnt h
 generalize remR z cnt (R0 h) = Rm at b ⊢
 obtain ⟨b1, b2, b3, b4, b5, b6, b7, b8⟩ := b
 obtain ⟨N, s1, s2, s3⟩ := scanF_is 27 0 Rm _ b7
 rw [show ((0 : Nat) : Int) = 0 from rfl] at s1 s2
 obtain ⟨t1, t2, t3, t4, t5, t6⟩ := scanF_keep 27 0 Rm
 generalize scanF 27 0 Rm = S at *
 rw [b1] at s3
 exact ⟨N, t1.trans b1, by show S.m + _ = _; rw [t2, b2], t3.trans b3, t4.trans b4, t5.trans b5, s2.trans b6, s1, t6.trans b8, s3⟩
theorem sum_is {z : Bool} {cnt : Int} {h : List Int} {R : RS} {N : Nat} (r : RI z cnt h R N) : sumO R = base z cnt h := by
 obtain ⟨r1, r2, r3, r4, r5, r6, r7, r8, s3⟩ := r
 show (⟨R.m, R.ta, R.pr, R.fi != 0, Builtin.bitOr R.fc R.fi != R.fc⟩ : O) = ⟨_, _, _, _, _⟩
 rw [r2, r3, r4]
 have a14 : a1 (cs z h) = true → a41 (cs z h) = true := by
  intro q
  obtain ⟨c, hc, q⟩ := List.any_eq_true.mp q
  exact List.any_eq_true.mpr ⟨c, hc, by rw [q, Bool.or_true]⟩
 have x27 := s3 27
 have y : decide (27 < 0 + 27) = false := by decide
 rw [y, Bool.and_false, Bool.false_and, Bool.or_false] at x27
 rw [r6, r7]
 generalize a41 (cs z h) = p at *
 generalize a1 (cs z h) = q at *
 clear r2 r3 r4 r5 r6 r7 r8 s3
 have ht : ((2 ^ 27 : Nat)).testBit 27 = true := by rw [Nat.testBit_two_pow]; rfl
 have hP : 0 < (2 ^ 27 : Nat) := Nat.two_pow_pos 27
 have hB : ∀ j, ((2 ^ 27 : Nat)).testBit j = true → 27 = j := fun j hj => by rw [Nat.testBit_two_pow] at hj; exact of_decide_eq_true hj
 generalize (2 ^ 27 : Nat) = P at *
 have e1 : ((((if p = true then P else 0 : Nat)) : Int) != 0) = p := by
  cases p
  ·rfl
  ·rw [if_pos rfl, bne_iff_ne]; lia -abstractProof
 have e2 : (Builtin.bitOr (N : Int) (((if p = true then P else 0 : Nat)) : Int) != (N : Int)) = q := by
  rw [bitOr_nat, Bool.eq_iff_iff, bne_iff_ne, ne_eq, Int.ofNat_inj, or_sub]
  cases p
  ·cases q
   ·simp
   ·exact absurd (a14 rfl) (by decide)
  ·rw [if_pos rfl]
   cases q
   ·rw [if_pos ⟨rfl, rfl⟩, ht] at x27
    refine ⟨fun c => absurd (fun j hj => ?_) c, fun c => by cases c⟩
    rw [← hB j hj]; exact x27
   ·rw [if_neg (fun c => by cases c.2), Nat.zero_testBit] at x27
    refine ⟨fun _ => rfl, fun _ c => ?_⟩
    have := c 27 ht
    rw [x27] at this; cases this
 rw [e1, e2]
theorem suits_is {z : Bool} {cnt : Int} {h : List Int} {R : RS} {N : Nat} (r : RI z cnt h R N) {R2 : RS} (hf : R2.fc = R.fc) (d0 : Int) (h0 : 0 ≤ d0) (ht : ∀ j : Int, d0 ≤ j → gt R2.tl j = gt h j) : ∀ m : Nat, m ≤ 3 → d0 ≤ 27 - 9 * (m : Int) → tailS m R2 = suitsH m h := by
 have hbits : ∀ j : Int, 0 ≤ j → j < 27 → bitO R2 j = (gt h j == 4) := by
  intro j j0 j1
  show R2.fc.toNat.testBit j.toNat = _
  rw [hf, r.fc, Int.toNat_natCast, r.bits]
  have x1 : (if a41 (cs z h) = true ∧ a1 (cs z h) = false then 2 ^ 27 else 0 : Nat).testBit j.toNat = false := by
   split
   ·rw [Nat.testBit_two_pow, decide_eq_false]; lia -abstractProof
   ·exact Nat.zero_testBit _
  have x2 : decide (0 ≤ j.toNat) = true := by simp
  have x3 : decide (j.toNat < 0 + 27) = true := by simp; lia -abstractProof
  rw [x1, x2, x3, show ((j.toNat : Nat) : Int) = j by lia -abstractProof]
  simp
 have key : ∀ (n : Nat) (d : Int), d0 ≤ d → d + n ≤ 27 → suf n d R2 = sH n d h := by
  intro n
  induction n with
  | zero => intro d _ _; rfl
  | succ n ihn =>
   intro d hd hd2
   unfold suf sH
   rw [ihn (d + 1) (by lia -abstractProof) (by lia -abstractProof), hbits d (by lia -abstractProof) (by lia -abstractProof), ht d hd]
 intro m
 induction m with
 | zero => intro _ _; rfl
 | succ m ih =>
  intro hm hd
  unfold tailS suitsH
  rw [ih (by lia -abstractProof) (by lia -abstractProof), key 9 _ (by push_cast at hd; lia -abstractProof) (by lia -abstractProof)]
theorem n4_nn {l : List Int} : 0 ≤ n4 l := by unfold n4; exact Int.natCast_nonneg _
theorem jdO_nn {z : Bool} {n : Int} {h : List Int} : 0 ≤ jdO z n h := by
 have := n4_nn (l := cs z h)
 unfold jdO; split <;> lia -abstractProof
theorem fn_is {z : Bool} {cnt : Int} {h : List Int} {R : RS} {N : Nat} (r : RI z cnt h R N) : FN R ∧ ∀ d, FiOk d R := by
 refine ⟨⟨_, N, r.fi, r.fc⟩, fun d => ⟨_, r.fi, fun j _ hj => ?_⟩⟩
 split
 ·rw [Nat.testBit_two_pow, decide_eq_false]; lia -abstractProof
 ·exact Nat.zero_testBit j
theorem ho_is {z : Bool} {cnt : Int} {h : List Int} {R : RS} {N : Nat} (r : RI z cnt h R N) (b : O) : HO 0 (mz z) (d0 z) R b ↔ HOut (suitsH (mz z) h) (base z cnt h) b := by
 refine hout_nil.trans ?_
 rw [sum_is r, suits_is (R2 := R) r rfl 0 (by decide) (fun j _ => by rw [r.tl]) (mz z) (by cases z <;> decide) (by cases z <;> decide)]
theorem rh_is {z : Bool} {cnt : Int} {h : List Int} {R : RS} {N k : Nat} (r : RI z cnt h R N) (hl : h.length = 34) (hn : ∀ c ∈ h, 0 ≤ c) (hs : h.sum = cnt) (hc : cnt ≤ 14) (hk : 42 ≤ k) : Rh z k R := by
 obtain ⟨f, fi⟩ := fn_is r
 have a := sum_nonneg (l := h.take 27) fun x hx => hn x (List.mem_of_mem_take hx)
 have b := sum_nonneg (l := h.drop 27) fun x hx => hn x (List.mem_of_mem_drop hx)
 have e : (h.take 27).sum + (h.drop 27).sum = cnt := by rw [← List.sum_append, List.take_append_drop]; exact hs
 have hs27 : s27 R.tl = (h.take 27).sum := by rw [r.tl]; rfl
 have c1 : (cs z h).countP (fun c => c == 3 || c == 4) ≤ 9 := Nat.le_trans List.countP_le_length (by unfold cs; rw [List.length_map]; cases z <;> decide)
 have m : R.m = ((cs z h).countP (fun c => c == 3 || c == 4) : Nat) + (14 - cnt).fdiv 3 := r.m
 rw [Int.fdiv_eq_ediv_of_nonneg _ (by decide)] at m
 have d : 0 ≤ d0 z := by cases z <;> decide
 exact ⟨⟨by rw [r.tl]; exact hl, fun j _ _ => by rw [r.tl]; exact gt_nn hn j, by rw [m]; lia -abstractProof, by rw [m, hs27]; lia -abstractProof⟩, f, fi _, by rw [hs27]; lia -abstractProof⟩
theorem reg_num (z : Bool) {h : List Int} {cnt : Int} {k : Nat} (hl : h.length = 34) (hn : ∀ c ∈ h, 0 ≤ c) (hs : h.sum = cnt) (hc : cnt ≤ 14) (hk : 42 ≤ k) : ∃ r, RegIs z k cnt h r ∧ NumIs (suitsH (mz z) h) (base z cnt h) (jdO z cnt h) r := by
 obtain ⟨N, r⟩ := r1_is z cnt h
 obtain ⟨v, hv⟩ := num_ex (ss := suitsH (mz z) h) (a := base z cnt h) (jdO_nn (z := z) (n := cnt) (h := h))
 refine ⟨v, ⟨rh_is r hl hn hs hc hk, fun r' a => ?_⟩, hv⟩
 rw [r.jd, r.mn] at a
 have a := a.congr (ho_is r)
 refine NumIs.uniq ⟨?_, a.le, a.at'⟩ hv
 exact a.all.elim (fun q b _ => Int.le_trans q (retO_low jdO_nn).1) id
set_option tactic.hygienic true
set_option tactic.hygienic false
noncomputable def FSs : List (List T) → Int → Prop
 | [], y => y = 0
 | s :: ss, y => ∃ y1 y2, FS s y1 ∧ FSs ss y2 ∧ y = y1 + y2
noncomputable def totSS : List (List T) → Int
 | [] => 0
 | s :: ss => totS s + totSS ss
noncomputable def Sm (ss : List (List T)) : Prop := ∀ s ∈ ss, ∀ t ∈ s, 0 ≤ t.1 ∧ t.1 ≤ 4
theorem Sm.cons {s : List T} {ss : List (List T)} (h : Sm (s :: ss)) : NNs s ∧ (∀ t ∈ s, t.1 ≤ 4) ∧ Sm ss :=
 ⟨fun t ht => (h s (List.mem_cons_self ..) t ht).1, fun t ht => (h s (List.mem_cons_self ..) t ht).2, fun x hx => h x (List.mem_cons_of_mem _ hx)⟩
theorem fss_nn : ∀ {ss : List (List T)} {y : Int}, FSs ss y → 0 ≤ y
 | [], _, h => by rw [show _ = (0 : Int) from h]; exact Int.le_refl _
 | _ :: _, _, ⟨y1, y2, h1, h2, e⟩ => by have := (fs_nn h1).2; have := fss_nn h2; lia -abstractProof
theorem hout_fs : ∀ {ss : List (List T)} {a b : O}, Sm ss → HOut ss a b → wt b ≤ wt a + totSS ss ∧ a.t ≤ b.t ∧ a.p ≤ b.p ∧ a.m ≤ b.m ∧ (wt b = wt a + totSS ss → b.t = a.t → FSs ss (b.p - a.p))
 | [], a, b, _, h => by
  cases (show a = b from h)
  exact ⟨by show wt a ≤ wt a + 0; lia -abstractProof, Int.le_refl _, Int.le_refl _, Int.le_refl _, fun _ _ => Int.sub_self _⟩
 | s :: ss, a, b, sm, ⟨c, h1, h2⟩ => by
  obtain ⟨n1, n2, n3⟩ := sm.cons
  obtain ⟨i1, i2, i3, i4, i5⟩ := sout_fs h1 n1
  obtain ⟨j1, j2, j3, j4, j5⟩ := hout_fs n3 h2
  refine ⟨by show wt b ≤ wt a + (totS s + totSS ss); lia -abstractProof, by lia -abstractProof, by lia -abstractProof, by lia -abstractProof, fun e et => ?_⟩
  have e : wt b = wt a + (totS s + totSS ss) := e
  exact ⟨_, _, i5 (by lia -abstractProof) (by lia -abstractProof), j5 (by lia -abstractProof) (by lia -abstractProof), by lia -abstractProof⟩
theorem fs_hout : ∀ {ss : List (List T)} {y : Int}, Sm ss → FSs ss y → y ≤ 1 → ∀ a : O, ∃ b, HOut ss a b ∧ b.t = a.t ∧ b.p = a.p + y ∧ wt b = wt a + totSS ss
 | [], y, _, h, _, a => ⟨a, rfl, rfl, by rw [show y = 0 from h]; lia -abstractProof, by show wt a = wt a + 0; lia -abstractProof⟩
 | s :: ss, y, sm, ⟨y1, y2, h1, h2, e⟩, hy, a => by
  obtain ⟨n1, n2, n3⟩ := sm.cons
  have k1 := (fs_nn h1).2
  have k2 := fss_nn h2
  obtain ⟨c, i1, i2, i3, i4⟩ := fs_sout h1 (by lia -abstractProof) n2 a
  obtain ⟨b, j1, j2, j3, j4⟩ := fs_hout n3 h2 (by lia -abstractProof) c
  exact ⟨b, ⟨c, i1, j1⟩, by lia -abstractProof, by lia -abstractProof, by show wt b = wt a + (totS s + totSS ss); lia -abstractProof⟩
theorem rV_m1 {o : O} (ht : 0 ≤ o.t) (hp : 0 ≤ o.p) (hm : 0 ≤ o.m) (hw : wt o ≤ 14) : rV o = -1 ↔ o.m = 4 ∧ o.t = 0 ∧ o.p = 1 := by
 unfold rV bV kV wt at *
 by_cases q : o.p ≠ 0
 ·rw [if_pos q, if_pos q]
  split <;> constructor <;> intro h <;> lia -abstractProof
 ·rw [if_neg q, if_neg q]
  refine ⟨fun h => ?_, fun h => by lia -abstractProof⟩
  split at h <;> split at h <;> lia -abstractProof
theorem num_m1 {ss : List (List T)} {a : O} {jd r : Int} (sm : Sm ss) (at0 : a.t = 0) (am : 0 ≤ a.m) (ap : 0 ≤ a.p) (hw : wt a + totSS ss ≤ 14) (hj : 0 ≤ jd) (h : NumIs ss a jd r) : -1 ≤ r ∧ (r = -1 ↔ wt a + totSS ss = 14 ∧ FSs ss (1 - a.p)) := by
 obtain ⟨h1, h2, h3⟩ := h
 have low : -1 ≤ r := by
  rcases h3 with rfl | ⟨b, _, rfl⟩
  ·decide
  ·exact (retO_low hj).1
 refine ⟨low, fun e => ?_, fun ⟨e, hf⟩ => ?_⟩
 ·subst e
  rcases h3 with h3 | ⟨b, hb, e⟩
  ·cases h3
  ·obtain ⟨i1, i2, i3, i4, i5⟩ := hout_fs sm hb
   have e2 := (rV_m1 (by lia -abstractProof) (by lia -abstractProof) (by lia -abstractProof) (by lia -abstractProof)).mp ((retO_low hj).2.mp e.symm)
   obtain ⟨m4, t0, p1⟩ := e2
   have hb14 : wt b = 14 := by unfold wt; rw [m4, t0, p1]; decide
   have hf := i5 (by lia -abstractProof) (by lia -abstractProof)
   rw [p1] at hf
   exact ⟨by lia -abstractProof, hf⟩
 ·have hy := fss_nn hf
  obtain ⟨b, hb, b1, b2, b3⟩ := fs_hout sm hf (by lia -abstractProof) a
  have m4 : b.m = 4 := by
   have : wt b = 14 := by lia -abstractProof
   unfold wt at this
   lia -abstractProof
  have e2 := (rV_m1 (o := b) (by lia -abstractProof) (by lia -abstractProof) (by lia -abstractProof) (by lia -abstractProof)).mpr ⟨m4, by lia -abstractProof, by lia -abstractProof⟩
  have := h1 b hb
  rw [(retO_low hj).2.mpr e2] at this
  lia -abstractProof
set_option tactic.hygienic true
set_option tactic.hygienic false
noncomputable def honL : List Int := [27, 28, 29, 30, 31, 32, 33]
noncomputable def jV (h : List Int) : Int := (Builtin.bitOr (Builtin.bitOr (Builtin.bitOr (Builtin.bitOr (Builtin.bitOr (Builtin.bitOr (1 * 2 ^ (gt h 27).toNat) (1 * 2 ^ (gt h 28).toNat)) (1 * 2 ^ (gt h 29).toNat)) (1 * 2 ^ (gt h 30).toNat)) (1 * 2 ^ (gt h 31).toNat)) (1 * 2 ^ (gt h 32).toNat)) (1 * 2 ^ (gt h 33).toNat))
theorem jV_is {h : List Int} (H : H4 h) : ∃ N : Nat, jV h = (N : Int) ∧ N < 32 ∧ ∀ k, N.testBit k = true ↔ ∃ j ∈ honL, gt h j = (k : Int) := by
 have e : ∀ j, (1 * 2 ^ (gt h j).toNat : Int) = ((2 ^ (gt h j).toNat : Nat) : Int) := fun j => by rw [Int.one_mul]; push_cast; rfl
 have lt : ∀ j, 2 ^ (gt h j).toNat < 2 ^ 5 := fun j => Nat.pow_lt_pow_right (by decide) (by have := H j; lia -abstractProof)
 unfold jV
 simp only [e, bitOr_nat]
 refine ⟨_, rfl, ?_, fun k => ?_⟩
 ·exact Nat.or_lt_two_pow (Nat.or_lt_two_pow (Nat.or_lt_two_pow (Nat.or_lt_two_pow (Nat.or_lt_two_pow (Nat.or_lt_two_pow (lt _) (lt _)) (lt _)) (lt _)) (lt _)) (lt _)) (lt _)
 ·have q : ∀ j, (decide ((gt h j).toNat = k) = true) ↔ gt h j = (k : Int) := fun j => by rw [decide_eq_true_eq]; have := H j; lia -abstractProof
  simp only [Nat.testBit_or, Nat.testBit_two_pow, Bool.or_eq_true, q, honL, List.mem_cons, List.not_mem_nil, or_false, exists_eq_or_imp, exists_eq_left, or_assoc]
theorem and_c {N m : Nat} : Builtin.bitAnd (N : Int) (m : Int) ≠ 0 ↔ ¬ N &&& m = 0 := by
 rw [and_nat, ne_eq, show (0 : Int) = ((0 : Nat) : Int) from rfl, Int.ofNat_inj]
theorem bits32 : ∀ n : Fin 32, (16 ≤ n.1 ↔ n.1.testBit 4 = true) ∧ (¬ n.1 &&& 10 = 0 ↔ (n.1.testBit 1 = true ∨ n.1.testBit 3 = true)) ∧ (¬ n.1 &&& 2 = 0 ↔ n.1.testBit 1 = true) ∧ (¬ n.1 &&& 4 = 0 ↔ n.1.testBit 2 = true) := by decide
structure JV (h : List Int) : Prop where
 j16 : jV h ≥ 16 ↔ ∃ j ∈ honL, gt h j = 4
 j10 : Builtin.bitAnd (jV h) 10 ≠ 0 ↔ ∃ j ∈ honL, gt h j = 1 ∨ gt h j = 3
 j2 : Builtin.bitAnd (jV h) 2 ≠ 0 ↔ ∃ j ∈ honL, gt h j = 1
 j4 : Builtin.bitAnd (jV h) 4 ≠ 0 ↔ ∃ j ∈ honL, gt h j = 2
theorem jv_is {h : List Int} (H : H4 h) : JV h := by
 obtain ⟨N, e, lt, hb⟩ := jV_is H
 obtain ⟨b1, b2, b3, b4⟩ := bits32 ⟨N, lt⟩
 refine ⟨?_, ?_, ?_, ?_⟩
 ·rw [e]
  exact (show (N : Int) ≥ 16 ↔ 16 ≤ N by lia -abstractProof).trans (b1.trans (hb 4))
 ·rw [e]
  refine (and_c (m := 10)).trans (b2.trans ?_)
  rw [hb 1, hb 3]
  constructor
  ·rintro (⟨j, h1, h2⟩ | ⟨j, h1, h2⟩)
   ·exact ⟨j, h1, .inl h2⟩
   ·exact ⟨j, h1, .inr h2⟩
  ·rintro ⟨j, h1, h2 | h2⟩
   ·exact .inl ⟨j, h1, h2⟩
   ·exact .inr ⟨j, h1, h2⟩
 ·rw [e]; exact (and_c (m := 2)).trans (b3.trans (hb 1))
 ·rw [e]; exact (and_c (m := 4)).trans (b4.trans (hb 2))
noncomputable def prV (h : List Int) : Int := gt h 0 * gt h 8 * gt h 9 * gt h 17 * gt h 18 * gt h 26 * gt h 27 * gt h 28 * gt h 29 * gt h 30 * gt h 31 * gt h 32 * gt h 33
noncomputable def twoV (h : List Int) : Int := ((List.range 34).map fun i : Nat => b2iA (gt h (i : Int) == 2)).sum
noncomputable def Reg (h : List Int) : Prop := (∀ j ∈ honL, gt h j = 0 ∨ gt h j = 2 ∨ gt h j = 3) ∧ FSs (suitsH 3 h) (1 - n2 (cs false h))
noncomputable def Win (h : List Int) : Prop := Reg h ∨ twoV h = 7
theorem fs_mod {s : List T} {y : Int} (h : FS s y) : 3 ∣ totS s - 2 * y := by
 induction h with
 | nil => exact ⟨0, rfl⟩
 | zero _ ih => show 3 ∣ 0 + totS _ - _; lia -abstractProof
 | set _ _ ih => have ih : 3 ∣ (_ - 3 + totS _ - _) := ih; show 3 ∣ (_ + totS _ - _); lia -abstractProof
 | pair _ _ ih => have ih : 3 ∣ (_ - 2 + totS _ - _) := ih; show 3 ∣ (_ + totS _ - _); lia -abstractProof
 | @run a b c r y _ _ _ _ ih =>
  have ih : 3 ∣ (a.1 - 1 + (b.1 - 1 + (c.1 - 1 + totS r)) - 2 * y) := ih
  show 3 ∣ (a.1 + (b.1 + (c.1 + totS r)) - 2 * y)
  lia -abstractProof
set_option tactic.hygienic true
set_option tactic.hygienic false
section
theorem suits3 (h : List Int) : suitsH 3 h = [sH 9 0 h, sH 9 9 h, sH 9 18 h] := rfl
theorem sH_cons (n : Nat) (d : Int) (h : List Int) : sH (n + 1) d h = (gt h d, gt h d == 4) :: sH n (d + 1) h := rfl
theorem seg_sH {h : List Int} {d : Int} : (sH 9 d h).map (·.1) = seg9 h d := by
 unfold seg9
 simp only [sH_cons, sH, List.map_cons, List.map_nil, Int.add_assoc]
 rfl
theorem sH_len {h : List Int} : ∀ {n : Nat} {d : Int}, (sH n d h).length = n
 | 0, _ => rfl
 | n + 1, d => by rw [sH_cons, List.length_cons, sH_len]
theorem sH_mem {h : List Int} (H : H4 h) : ∀ {n : Nat} {d : Int}, ∀ t ∈ sH n d h, 0 ≤ t.1 ∧ t.1 ≤ 4
 | 0, _ => fun t ht => by cases ht
 | n + 1, d => fun t ht => by
  rcases List.mem_cons.mp ht with rfl | ht
  ·exact H d
  ·exact sH_mem H t ht
noncomputable def n0V (h : List Int) (d : Int) : Int := gt h d + gt h (d + 3) + gt h (d + 6)
noncomputable def n1V (h : List Int) (d : Int) : Int := gt h (d + 1) + gt h (d + 4) + gt h (d + 7)
noncomputable def n2V (h : List Int) (d : Int) : Int := gt h (d + 2) + gt h (d + 5) + gt h (d + 8)
noncomputable def nV (h : List Int) (d : Int) : Int := (n0V h d + n1V h d + n2V h d).fmod 3
noncomputable def nnV (h : List Int) (d : Int) : Int := (n0V h d * 1 + n1V h d * 2).fmod 3
theorem sH9 (h : List Int) (d : Int) : sH 9 d h = (seg9 h d).map fun c => (c, c == 4) := by
 unfold seg9
 simp only [sH_cons, sH, List.map_cons, List.map_nil, Int.add_assoc]
 rfl
theorem fmod3 (x : Int) : x.fmod 3 = x % 3 := Int.fmod_eq_emod_of_nonneg _ (by decide)
theorem tot_9 (h : List Int) (d : Int) : totS (sH 9 d h) = n0V h d + n1V h d + n2V h d := by
 rw [sH9]
 unfold seg9 n0V n1V n2V
 simp only [List.map_cons, List.map_nil, totS]
 lia -abstractProof
theorem w_9 (h : List Int) (d : Int) : 3 ∣ wS (sH 9 d h) - nnV h d := by
 unfold nnV
 rw [sH9, fmod3]
 unfold seg9 n0V n1V
 simp only [List.map_cons, List.map_nil, wS, List.length_cons, List.length_nil]
 lia -abstractProof
theorem nn_3 (h : List Int) (d : Int) : nnV h d = 0 ∨ nnV h d = 1 ∨ nnV h d = 2 := by unfold nnV; rw [fmod3]; lia -abstractProof
section
variable {h : List Int} (H : H4 h)
include H
theorem gm_9 {d : Int} (hn : nnV h d = 0) : gm (seg9 h d) = true ↔ FS (sH 9 d h) 0 := by
 have hw := w_9 h d
 rw [hn] at hw
 rw [← gm_fs sH_len (sH_mem H), seg_sH]
 exact ⟨fun g => ⟨g, by lia -abstractProof⟩, fun g => g.1⟩
theorem fs_nn0 {d : Int} (hf : FS (sH 9 d h) 0) : nnV h d = 0 := by
 have hw := w_9 h d
 have := ((gm_fs sH_len (sH_mem H)).mpr hf).2
 have := nn_3 h d
 lia -abstractProof
theorem atm_9 {d : Int} : (∃ i ∈ ats (nnV h d), at2 (seg9 h d) i) ↔ FS (sH 9 d h) 1 := by
 rw [← atm_fs sH_len (sH_mem H) (nn_3 h d) (w_9 h d), seg_sH]
omit H in
theorem fss3 {y : Int} : FSs (suitsH 3 h) y ↔ ∃ y1 y2 y3, FS (sH 9 0 h) y1 ∧ FS (sH 9 9 h) y2 ∧ FS (sH 9 18 h) y3 ∧ y = y1 + y2 + y3 := by
 rw [suits3]
 constructor
 ·rintro ⟨y1, _, f1, ⟨y2, _, f2, ⟨y3, _, f3, e3, rfl⟩, rfl⟩, rfl⟩
  have e3 : _ = (0 : Int) := e3
  exact ⟨y1, y2, y3, f1, f2, f3, by lia -abstractProof⟩
 ·rintro ⟨y1, y2, y3, f1, f2, f3, e⟩
  exact ⟨y1, _, f1, ⟨y2, _, f2, ⟨y3, 0, f3, rfl, rfl⟩, rfl⟩, by lia -abstractProof⟩
noncomputable def yV (h : List Int) (d : Int) : Int := if nV h d = 2 then 1 else 0
omit H in
theorem fs_y {d y : Int} (hf : FS (sH 9 d h) y) (hy : y ≤ 1) : nV h d ≠ 1 ∧ y = yV h d := by
 have h1 := fs_mod hf
 have h2 := (fs_nn hf).2
 rw [tot_9] at h1
 unfold yV nV
 rw [fmod3]
 split <;> lia -abstractProof
omit H in
theorem np_nn : 0 ≤ n2 (cs false h) := by unfold n2; exact Int.natCast_nonneg _
omit H in
theorem reg_shows (hr : Reg h) : nV h 0 ≠ 1 ∧ nV h 9 ≠ 1 ∧ nV h 18 ≠ 1 ∧ yV h 0 + yV h 9 + yV h 18 + n2 (cs false h) = 1 := by
 obtain ⟨y1, y2, y3, f1, f2, f3, e⟩ := fss3.mp hr.2
 have := (fs_nn f1).2
 have := (fs_nn f2).2
 have := (fs_nn f3).2
 have := np_nn (h := h)
 obtain ⟨a1, b1⟩ := fs_y f1 (by lia -abstractProof)
 obtain ⟨a2, b2⟩ := fs_y f2 (by lia -abstractProof)
 obtain ⟨a3, b3⟩ := fs_y f3 (by lia -abstractProof)
 exact ⟨a1, a2, a3, by lia -abstractProof⟩
omit H in
theorem reg_iff (hh : ∀ j ∈ honL, gt h j = 0 ∨ gt h j = 2 ∨ gt h j = 3) (hy : yV h 0 + yV h 9 + yV h 18 + n2 (cs false h) = 1) : Reg h ↔ FS (sH 9 0 h) (yV h 0) ∧ FS (sH 9 9 h) (yV h 9) ∧ FS (sH 9 18 h) (yV h 18) := by
 constructor
 ·intro hr
  obtain ⟨y1, y2, y3, f1, f2, f3, e⟩ := fss3.mp hr.2
  have := (fs_nn f1).2
  have := (fs_nn f2).2
  have := (fs_nn f3).2
  have := np_nn (h := h)
  exact ⟨.cast (fs_y f1 (by lia -abstractProof)).2 f1, .cast (fs_y f2 (by lia -abstractProof)).2 f2, .cast (fs_y f3 (by lia -abstractProof)).2 f3⟩
 ·rintro ⟨f1, f2, f3⟩
  exact ⟨hh, fss3.mpr ⟨_, _, _, f1, f2, f3, by lia -abstractProof⟩⟩
end
end
set_option tactic.hygienic true
section
noncomputable def Ev (n : Nat) (sc : Scope) (ae : Loc) (σ : Sto) (e : Expr) (x : Int) : Prop := ∀ (call : Addr → List AV → Sto → XE) (K : KE), K (.int x) σ → evalE XW call n sc e ae σ K
section
variable {n : Nat} {sc : Scope} {ae : Loc} {σ : Sto} {l r : Expr} {x y : Int} {p : Pos}
theorem v_int {i : Int} {c : Nat} : Ev (n + 1) sc ae σ (.Constant (.int i) c p) i := fun _ _ k => k
theorem v_add (a : Ev n sc ae σ l x) (b : Ev n sc ae σ r y) : Ev (n + 1) sc ae σ (.BinOp l .Add r p) (x + y) := fun c _ k => a c _ (b c _ k)
theorem v_or (a : Ev n sc ae σ l x) (b : Ev n sc ae σ r y) : Ev (n + 1) sc ae σ (.BinOp l .BitOr r p) (Builtin.bitOr x y) := fun c _ k => a c _ (b c _ k)
theorem v_mul (a : Ev n sc ae σ l x) (b : Ev n sc ae σ r y) (h : small x ∧ small y) : Ev (n + 1) sc ae σ (.BinOp l .Mult r p) (x * y) := fun c _ k => a c _ (b c _ (wG_i h k))
theorem v_shl (a : Ev n sc ae σ l x) (b : Ev n sc ae σ r y) (h : 0 ≤ y ∧ y ≤ 1000 ∧ small x) : Ev (n + 1) sc ae σ (.BinOp l .LShift r p) (x * 2 ^ y.toNat) := fun c _ k => a c _ (b c _ (wG_i h k))
theorem v_get {sc : Scope} {ae : Loc} {σ : Sto} {nm : Str} {k : Nat} {b : Bool} {h : List Int} (e : σ[k]? = some ⟨b, .list (h.map AV.int)⟩) (hl : h.length = 34) (en : nameA XW sc nm ae = some (.ref k)) (j : Int) (hj : (decide (0 ≤ j) && decide (j < 34)) = true) {n c : Nat} {p q t : Pos} : Ev (n + 3) sc ae σ (.Subscript (.Name nm q) (.Constant (.int j) c t) p) (gt h j) := fun cl K k => by
 obtain ⟨h0, h1⟩ := Bool.and_eq_true_iff.mp hj
 show wO (nameA XW sc nm ae) _
 rw [en]
 exact it_list e hl (of_decide_eq_true h0) (of_decide_eq_true h1) k
theorem s_asg {call : Addr → List AV → Sto → XE} {nm : Str} {q t : Pos} {ae' : Loc} {rest : List Stmt} {K : KS} (a : Ev n sc ae σ r x) (e : asgName sc nm (.int x) ae = some ae') (k : seqA (execS XW call (n + 1) sc) rest ae' σ K) : seqA (execS XW call (n + 1) sc) (.Assign [.Name nm q] r t :: rest) ae σ K := by
 refine s_join ae' σ ?_ k
 show wB (!(isTup r && false)) _
 rw [Bool.and_false]
 refine a _ _ ?_
 show wO (asgName sc nm _ ae) _
 rw [e]
 exact ⟨rfl, rfl, rfl⟩
theorem v_all {call : Addr → List AV → Sto → XE} {op : CmpOp} {c : Nat} {q : Pos} {rest : List Expr} {K : Bool → Sto → Prop} (a : Ev (n + 1) sc ae σ l x) (k : wCmp op (.int x) (.int y) σ fun t => wIf t (allA (testE XW call (n + 3) sc) .And rest ae σ K) (K false σ)) :
  allA (testE XW call (n + 3) sc) .And (.Compare l [op] [.Constant (.int y) c p] q :: rest) ae σ K := by
 show evalE XW call (n + 1) sc l ae σ fun a σ => evalE XW call (n + 1) sc (.Constant (.int y) c p) ae σ fun b σ => wCmp op a b σ fun t => wIf t (allA (testE XW call (n + 3) sc) .And rest ae σ K) (K false σ)
 exact a _ _ k
theorem v_name {nm : Str} (e : nameA XW sc nm ae = some (.int x)) : Ev (n + 1) sc ae σ (.Name nm p) x := fun _ _ k => by
 show wO (nameA XW sc nm ae) _
 rw [e]; exact k
noncomputable def EvB (n : Nat) (sc : Scope) (ae : Loc) (σ : Sto) (e : Expr) (x : Bool) : Prop := ∀ (call : Addr → List AV → Sto → XE) (K : KE), K (.bool x) σ → evalE XW call n sc e ae σ K
theorem v_eq {c : Nat} {q : Pos} (a : Ev (n + 1) sc ae σ l x) : EvB (n + 3) sc ae σ (.Compare l [.Eq] [.Constant (.int y) c p] q) (x == y) := fun cl K k => by
 show evalE XW cl (n + 1) sc l ae σ fun a σ => evalE XW cl (n + 1) sc (.Constant (.int y) c p) ae σ fun b σ => wCmp .Eq a b σ fun t => K (.bool t) σ
 exact a _ _ k
theorem v_bb {u v : Bool} (a : EvB n sc ae σ l u) (b : EvB n sc ae σ r v) : Ev (n + 1) sc ae σ (.BinOp l .Add r p) (b2iA u + b2iA v) := fun c _ k => a c _ (b c _ k)
theorem v_ib {v : Bool} (a : Ev n sc ae σ l x) (b : EvB n sc ae σ r v) : Ev (n + 1) sc ae σ (.BinOp l .Add r p) (x + b2iA v) := fun c _ k => a c _ (b c _ k)
theorem v_if {call : Addr → List AV → Sto → XE} {op : CmpOp} {c : Nat} {q t : Pos} {b o : List Stmt} {K : KS} (a : Ev (n + 1) sc ae σ l x) (k : wCmp op (.int x) (.int y) σ fun t => wIf t (seqA (execS XW call (n + 3) sc) b ae σ K) (seqA (execS XW call (n + 3) sc) o ae σ K)) :
  execS XW call (n + 4) sc (.If (.Compare l [op] [.Constant (.int y) c p] q) b o t) ae σ K := by
 show evalE XW call (n + 1) sc l ae σ fun a σ => evalE XW call (n + 1) sc (.Constant (.int y) c p) ae σ fun b' σ => wCmp op a b' σ fun t => wIf t (seqA (execS XW call (n + 3) sc) b ae σ K) (seqA (execS XW call (n + 3) sc) o ae σ K)
 exact a _ _ k
end
end
section
noncomputable def endsL : List Nat := [0, 8, 9, 17, 18, 26, 27, 28, 29, 30, 31, 32, 33]
noncomputable def prodL (h : List Int) : Nat → Int
 | 0 => gt h 0
 | n + 1 => prodL h n * gt h (endsL.getD (n + 1) 0 : Nat)
theorem prodL_bd {h : List Int} (H : H4 h) : ∀ n, 0 ≤ prodL h n ∧ prodL h n ≤ 4 ^ (n + 1)
 | 0 => H 0
 | n + 1 => by
  obtain ⟨a, b⟩ := prodL_bd H n
  obtain ⟨c, d⟩ := H (endsL.getD (n + 1) 0 : Nat)
  refine ⟨Int.mul_nonneg a c, ?_⟩
  rw [Int.pow_succ]
  exact Int.mul_le_mul b d c (Int.le_trans a b)
theorem parts_use {h : List Int} (H : H4 h) (n : Nat) (hn : n < 13) (j : Int) : small (prodL h n) ∧ small (gt h j) := by
 obtain ⟨a, b⟩ := prodL_bd H n
 have : (4 : Int) ^ (n + 1) ≤ 4 ^ 13 := by have := Nat.pow_le_pow_right (show 4 > 0 by decide) (show n + 1 ≤ 13 by lia -abstractProof); exact_mod_cast this
 have e : (4 : Int) ^ 13 = 67108864 := by decide
 have := H j
 unfold small
 lia -abstractProof
theorem wG_sh1 {y : Int} {p : Prop} (h : 0 ≤ y ∧ y ≤ 1000) (k : p) : wG (0 ≤ y ∧ y ≤ 1000 ∧ small 1) p := wG_i ⟨h.1, h.2, by unfold small; decide⟩ k
noncomputable abbrev aeG (k : Nat) (h : List Int) : Loc := [("tiles_34", .ref k), ("open_sets_34", .none), ("tiles", .ref k), ("j", .int (jV h))]
noncomputable def eq2 (h : List Int) : AV → AV
 | .int i => .bool (gt h i == 2)
 | _ => .none
theorem hon_4 {h : List Int} (H : H4 h) (j : Int) : 0 ≤ gt h j ∧ gt h j ≤ 1000 := by have := H j; lia -abstractProof
theorem small_k {x : Int} (h0 : -1000 ≤ x) (h1 : x ≤ 1000) : small x := by unfold small; lia -abstractProof
theorem sm_n {h : List Int} (H : H4 h) (a b c d : Int) (hd : -1000 ≤ d ∧ d ≤ 1000) : small (gt h a + gt h b + gt h c) ∧ small d := by
 have := H a; have := H b; have := H c; exact ⟨small_k (by lia -abstractProof) (by lia -abstractProof), small_k hd.1 hd.2⟩
theorem x_is (h : List Int) : b2iA (nV h 0 == 2) + b2iA (nV h 9 == 2) + b2iA (nV h 18 == 2) + b2iA (gt h 27 == 2) + b2iA (gt h 28 == 2) + b2iA (gt h 29 == 2) + b2iA (gt h 30 == 2) + b2iA (gt h 31 == 2) + b2iA (gt h 32 == 2) + b2iA (gt h 33 == 2) = yV h 0 + yV h 9 + yV h 18 + n2 (cs false h) := by
 have e : ∀ d, b2iA (nV h d == 2) = yV h d := fun d => by
  unfold b2iA yV
  by_cases q : nV h d = 2
  ·rw [if_pos q, beq_iff_eq.mpr q]; rfl
  ·rw [if_neg q, beq_eq_false_iff_ne.mpr q]; rfl
 have c : n2 (cs false h) = b2iA (gt h 27 == 2) + (b2iA (gt h 28 == 2) + (b2iA (gt h 29 == 2) + (b2iA (gt h 30 == 2) + (b2iA (gt h 31 == 2) + (b2iA (gt h 32 == 2) + (b2iA (gt h 33 == 2) + 0)))))) := by
  show n2 [gt h 27, gt h 28, gt h 29, gt h 30, gt h 31, gt h 32, gt h 33] = _
  unfold n2
  simp only [cnt_cons, b2iA]
  have : ((([] : List Int).countP (fun c => c == 2) : Nat) : Int) = 0 := rfl
  rw [this]
  lia -abstractProof
 rw [e, e, e, c]
 lia -abstractProof
theorem hon_s {sc : Scope} {ae : Loc} {σ : Sto} {nm : Str} {k : Nat} {b : Bool} {h : List Int} (e : σ[k]? = some ⟨b, .list (h.map AV.int)⟩) (hl : h.length = 34) (H : H4 h) (en : nameA XW sc nm ae = some (.ref k)) (j : Int) (hj : (decide (0 ≤ j) && decide (j < 34)) = true) {n c d : Nat} {p q t s r : Pos} :
  Ev (n + 4) sc ae σ (.BinOp (.Constant (.int 1) d s) .LShift (.Subscript (.Name nm q) (.Constant (.int j) c t) p) r) (1 * 2 ^ (gt h j).toNat) := v_shl v_int (v_get e hl en j hj) ⟨(hon_4 H j).1, (hon_4 H j).2, by unfold small; decide⟩
section
variable {σ : Sto} {k n : Nat} {b : Bool} {h : List Int} {K : KE}
noncomputable abbrev KR (K : KE) : KS := fun fl _ σ => match fl with | .next => K .none σ | .ret v => K v σ | _ => False
set_option maxHeartbeats 4000000 in
theorem agari_1 (e : σ[k]? = some ⟨b, .list (h.map AV.int)⟩) (hl : h.length = 34) (H : H4 h) (hp : prV h ≠ 2) (hsev : twoV h = 7 → ∀ j ∈ honL, gt h j = 0 ∨ gt h j = 2) (hq : ∀ r τ, (r = true ↔ Win h) → K (.bool r) (σ ++ τ))
  (hk : (∀ j ∈ honL, gt h j = 0 ∨ gt h j = 2 ∨ gt h j = 3) → twoV h ≠ 7 → ∀ τ, seqA (execS XW (callA XW n) 40 (dScope 5 0)) ((dBody 5 0).drop 6) (aeG k h) (σ ++ τ) (KR K)) : lCall (callA XW (n + 1)) 230 [.ref k] σ K := by
 have J := jv_is H
 have hreg : Reg h → ∀ j ∈ honL, gt h j = 0 ∨ gt h j = 2 ∨ gt h j = 3 := fun r => r.1
 refine lCall.mk (call_of (fn := fnAt 5 0 [.none]) (ae := [("tiles_34", .ref k), ("open_sets_34", .none)]) (by rfl) ?_)
 refine s_join [("tiles_34", .ref k), ("open_sets_34", .none), ("tiles", .ref k)] σ ?_ ?_
 ·refine wIf_f ?_
  with_reducible refine s_cons ?_
  exact ⟨rfl, rfl, rfl⟩
 have S := hon_s (sc := dScope 5 0) (ae := [("tiles_34", .ref k), ("open_sets_34", .none), ("tiles", .ref k)]) (nm := "tiles") e hl H rfl
 refine s_asg (v_or (v_or (v_or (v_or (v_or (v_or (S 27 rfl) (S 28 rfl)) (S 29 rfl)) (S 30 rfl)) (S 31 rfl)) (S 32 rfl)) (S 33 rfl)) (ae' := aeG k h) (by rfl) ?_
 clear S
 refine s_midr (fun a τ => a = aeG k h ∧ σ = τ ∧ ¬ jV h ≥ 16) ?_ ?_
 ·refine wIf_decI ?_
  refine if_split (fun q => ?_) (fun q => ?_)
  ·obtain ⟨j, hj, hj4⟩ := J.j16.mp q
   have := hq false [] ⟨fun c => (by cases c), fun w => (by
    rcases w with w | w
    ·have := hreg w j hj; lia -abstractProof
    ·have := hsev w j hj; lia -abstractProof)⟩
   rw [List.append_nil] at this
   with_reducible refine s_cons ?_
   exact this
  ·exact ⟨rfl, rfl, q⟩
 rintro _ _ ⟨rfl, rfl, h16⟩
 refine s_join (aeG k h) σ ?_ ?_
 ·refine wIf_beqI ?_
  refine if_split (fun q => ?_) (fun q => ?_)
  ·have S := v_get (sc := dScope 5 0) (ae := aeG k h) (nm := "tiles") e hl rfl
   have U := parts_use H
   refine v_all (v_mul (v_mul (v_mul (v_mul (v_mul (v_mul (v_mul (v_mul (v_mul (v_mul (v_mul (v_mul (S 0 rfl) (S 8 rfl) (U 0 (by decide) 8)) (S 9 rfl) (U 1 (by decide) 9)) (S 17 rfl) (U 2 (by decide) 17)) (S 18 rfl) (U 3 (by decide) 18)) (S 26 rfl) (U 4 (by decide) 26)) (S 27 rfl) (U 5 (by decide) 27)) (S 28 rfl) (U 6 (by decide) 28)) (S 29 rfl) (U 7 (by decide) 29)) (S 30 rfl) (U 8 (by decide) 30)) (S 31 rfl) (U 9 (by decide) 31)) (S 32 rfl) (U 10 (by decide) 32)) (S 33 rfl) (U 11 (by decide) 33)) ?_
   clear S U
   refine wIf_beqI ?_
   refine if_split (fun q => absurd q hp) (fun q => ?_)
   refine wIf_f ?_
   with_reducible refine s_nil ?_
   exact ⟨rfl, rfl, rfl⟩
  ·refine wIf_f ?_
   with_reducible refine s_nil ?_
   exact ⟨rfl, rfl, rfl⟩
 refine s_midr (fun a τ => a = aeG k h ∧ (∃ τ1, τ = σ ++ τ1) ∧ twoV h ≠ 7) ?_ ?_
 ·refine wIf_not ?_
  refine wIf_bneI ?_
  refine if_split (fun q => ?_) (fun q => ?_)
  ·have q3 := J.j10.mp q
   refine wIf_f ?_
   with_reducible refine s_nil ?_
   refine ⟨rfl, ⟨[], (List.append_nil _).symm⟩, fun c => ?_⟩
   obtain ⟨j, hj, hj3⟩ := q3
   have := hsev c j hj
   lia -abstractProof
  ·refine lIter.mk ?_
   refine wAt_new ?_
   refine wG_i (by first | assumption | decide) ?_
   refine comp_rule (n := 33) (ae0 := [("tiles", .ref k)]) (aeX := fun v => [("tiles", .ref k), ("i", v)]) (t := fun _ => true) (g := eq2 h) (vs := (List.range 34).map fun i : Nat => AV.int (i : Int)) (show ItIs (σ ++ [⟨true, .range 0 34 1⟩]) (.rng 0 34 1) _ from range34.symm) (by simp; decide) (by rfl) (fun v => rfl) (fun u v => rfl) (by simp) ?_ ?_ ?_
   ·intro v hv acc γ K hK
    exact hK
   ·intro v hv _ acc γ K hK
    obtain ⟨i, hi, rfl⟩ := List.mem_map.mp hv
    have hi := List.mem_range.mp hi
    have e' : (σ ++ [⟨true, .range 0 34 1⟩] ++ (⟨true, .list acc⟩ :: γ) : Sto)[k]? = some ⟨b, .list (h.map AV.int)⟩ := old_app (old_app e)
    refine it_list ‹_› ‹_› (by first | decide | lia -abstractProof) (by first | decide | lia -abstractProof) ?_
    exact hK γ
   ·intro ae γ
    have hf : (((List.range 34).map fun i : Nat => AV.int (i : Int)).filter fun _ => true).map (eq2 h) = ((List.range 34).map fun i : Nat => gt h (i : Int) == 2).map AV.bool := by
     rw [List.filter_eq_self.mpr (fun _ _ => rfl)]
     simp only [List.map_map]
     rfl
    rw [hf]
    refine wLst_mid ?_
    refine wNumsB_i ?_
    rw [sumA_eq, List.map_map, show ((List.range 34).map (b2iA ∘ fun i : Nat => gt h (i : Int) == 2)).sum = twoV h from rfl]
    refine wIf_beqI ?_
    refine if_split (fun q7 => ?_) (fun q7 => ?_)
    ·refine wIf_t ?_
     have hq := hq true ([⟨true, .range 0 34 1⟩] ++ (⟨true, .list (((List.range 34).map fun i : Nat => gt h (i : Int) == 2).map AV.bool)⟩ :: γ)) ⟨fun _ => .inr q7, fun _ => rfl⟩
     rw [← List.append_assoc] at hq
     refine s_cons ?_
     exact hq
    ·refine wIf_f ?_
     exact ⟨rfl, ⟨_, List.append_assoc ..⟩, q7⟩
 rintro _ _ ⟨rfl, ⟨τ1, rfl⟩, h7⟩
 refine s_midr (fun a τ => a = aeG k h ∧ σ ++ τ1 = τ ∧ ∀ j ∈ honL, gt h j ≠ 1) ?_ ?_
 ·refine wIf_bneI ?_
  refine if_split (fun q => ?_) (fun q => ?_)
  ·obtain ⟨j, hj, hj1⟩ := J.j2.mp q
   refine s_cons ?_
   exact hq false τ1 ⟨fun c => (by cases c), fun w => (by
    rcases w with w | w
    ·have := hreg w j hj; lia -abstractProof
    ·exact absurd w h7)⟩
  ·exact ⟨rfl, rfl, fun j hj h1 => q (J.j2.mpr ⟨j, hj, h1⟩)⟩
 rintro _ _ ⟨rfl, rfl, h1⟩
 exact hk (fun j hj => by
  have := H j
  have := h1 j hj
  have : gt h j ≠ 4 := fun c => h16 (J.j16.mpr ⟨j, hj, c⟩)
  lia -abstractProof) h7 τ1
end
end
section
theorem bor0 {x y : Int} (hx : 0 ≤ x) (hy : 0 ≤ y) : 0 ≤ Builtin.bitOr x y ∧ (Builtin.bitOr x y = 0 ↔ x = 0 ∧ y = 0) := by
 obtain ⟨n, rfl⟩ := Int.eq_ofNat_of_zero_le hx
 obtain ⟨m, rfl⟩ := Int.eq_ofNat_of_zero_le hy
 rw [bitOr_nat]
 refine ⟨Int.natCast_nonneg _, ?_⟩
 rw [show (0 : Int) = ((0 : Nat) : Int) from rfl, Int.ofNat_inj, Int.ofNat_inj, Int.ofNat_inj]
 exact Nat.or_eq_zero_iff
theorem np_of {h : List Int} : (∃ j ∈ honL, gt h j = 2) ↔ n2 (cs false h) ≠ 0 := by
 have e : n2 (cs false h) = ((cs false h).countP (fun c => c == 2) : Nat) := rfl
 rw [e, ne_eq, show (0 : Int) = ((0 : Nat) : Int) from rfl, Int.ofNat_inj, List.countP_eq_zero]
 have e2 : cs false h = honL.map (gt h) := rfl
 rw [e2]
 simp
theorem nV_nn (h : List Int) (d : Int) : 0 ≤ nV h d := by unfold nV; rw [fmod3]; lia -abstractProof
theorem yV_of {h : List Int} {d : Int} (h1 : nV h d ≠ 1) : (nV h d = 2 ∧ yV h d = 1) ∨ (nV h d = 0 ∧ yV h d = 0) := by
 have : nV h d = 0 ∨ nV h d = 1 ∨ nV h d = 2 := by unfold nV; rw [fmod3]; lia -abstractProof
 unfold yV
 rcases this with q | q | q
 ·right; rw [if_neg (by lia -abstractProof)]; exact ⟨q, rfl⟩
 ·exact absurd q h1
 ·left; rw [if_pos q]; exact ⟨q, rfl⟩
section
variable {σ : Sto} {k n : Nat} {b : Bool} {h : List Int} {K : KE}
noncomputable def nsL (h : List Int) : Loc := [("n00", .int (n0V h 0)), ("n01", .int (n1V h 0)), ("n02", .int (n2V h 0)), ("n10", .int (n0V h 9)), ("n11", .int (n1V h 9)), ("n12", .int (n2V h 9)), ("n20", .int (n0V h 18)), ("n21", .int (n1V h 18)), ("n22", .int (n2V h 18)), ("n0", .int (nV h 0)), ("n1", .int (nV h 9)), ("n2", .int (nV h 18)), ("nn0", .int (nnV h 0)), ("m0", .int (pk (seg9 h 0))), ("nn1", .int (nnV h 9)), ("m1", .int (pk (seg9 h 9))), ("nn2", .int (nnV h 18)), ("m2", .int (pk (seg9 h 18)))]
noncomputable abbrev aeN (k : Nat) (h : List Int) (i : Nat) : Loc := aeG k h ++ (nsL h).take i
set_option maxHeartbeats 4000000 in
theorem agari_2 (e : σ[k]? = some ⟨b, .list (h.map AV.int)⟩) (hl : h.length = 34) (H : H4 h) (h7 : twoV h ≠ 7) (hq : ∀ r, (r = true ↔ Win h) → K (.bool r) σ)
  (hk : nV h 0 ≠ 1 → nV h 9 ≠ 1 → nV h 18 ≠ 1 → yV h 0 + yV h 9 + yV h 18 + n2 (cs false h) = 1 → seqA (execS XW (callA XW (n + 1)) 40 (dScope 5 0)) ((dBody 5 0).drop 28) (aeN k h 18) σ (KR K)) :
  seqA (execS XW (callA XW (n + 1)) 40 (dScope 5 0)) ((dBody 5 0).drop 6) (aeG k h) σ (KR K) := by
 have no : (nV h 0 ≠ 1 → nV h 9 ≠ 1 → nV h 18 ≠ 1 → yV h 0 + yV h 9 + yV h 18 + n2 (cs false h) = 1 → False) → K (.bool false) σ := fun c => hq false ⟨fun c => (by cases c), fun w => (by
  rcases w with w | w
  ·obtain ⟨a, b, c', d⟩ := reg_shows w; exact absurd (c a b c' d) id
  ·exact absurd w h7)⟩
 have S := fun i => v_get (sc := dScope 5 0) (ae := aeN k h i) (nm := "tiles") e hl rfl
 refine s_asg (v_add (v_add (S 0 0 rfl) (S 0 3 rfl)) (S 0 6 rfl)) (ae' := aeN k h 1) (by rfl) ?_
 refine s_asg (v_add (v_add (S 1 1 rfl) (S 1 4 rfl)) (S 1 7 rfl)) (ae' := aeN k h 2) (by rfl) ?_
 refine s_asg (v_add (v_add (S 2 2 rfl) (S 2 5 rfl)) (S 2 8 rfl)) (ae' := aeN k h 3) (by rfl) ?_
 refine s_asg (v_add (v_add (S 3 9 rfl) (S 3 12 rfl)) (S 3 15 rfl)) (ae' := aeN k h 4) (by rfl) ?_
 refine s_asg (v_add (v_add (S 4 10 rfl) (S 4 13 rfl)) (S 4 16 rfl)) (ae' := aeN k h 5) (by rfl) ?_
 refine s_asg (v_add (v_add (S 5 11 rfl) (S 5 14 rfl)) (S 5 17 rfl)) (ae' := aeN k h 6) (by rfl) ?_
 refine s_asg (v_add (v_add (S 6 18 rfl) (S 6 21 rfl)) (S 6 24 rfl)) (ae' := aeN k h 7) (by rfl) ?_
 refine s_asg (v_add (v_add (S 7 19 rfl) (S 7 22 rfl)) (S 7 25 rfl)) (ae' := aeN k h 8) (by rfl) ?_
 refine s_asg (v_add (v_add (S 8 20 rfl) (S 8 23 rfl)) (S 8 26 rfl)) (ae' := aeN k h 9) (by rfl) ?_
 clear S
 refine s_join (aeN k h 10) σ ?_ ?_
 ·refine wG_i (by decide) ?_
  exact ⟨rfl, rfl, rfl⟩
 refine s_midr (fun a τ => a = aeN k h 10 ∧ σ = τ ∧ nV h 0 ≠ 1) ?_ ?_
 ·refine wIf_beqI ?_
  refine if_split (fun q => ?_) (fun q => ?_)
  ·refine s_cons ?_
   exact no fun a _ _ _ => a q
  ·exact ⟨rfl, rfl, q⟩
 rintro _ _ ⟨rfl, rfl, q0⟩
 refine s_join (aeN k h 11) σ ?_ ?_
 ·refine wG_i (by decide) ?_
  exact ⟨rfl, rfl, rfl⟩
 refine s_midr (fun a τ => a = aeN k h 11 ∧ σ = τ ∧ nV h 9 ≠ 1) ?_ ?_
 ·refine wIf_beqI ?_
  refine if_split (fun q => ?_) (fun q => ?_)
  ·refine s_cons ?_
   exact no fun _ a _ _ => a q
  ·exact ⟨rfl, rfl, q⟩
 rintro _ _ ⟨rfl, rfl, q1⟩
 refine s_join (aeN k h 12) σ ?_ ?_
 ·refine wG_i (by decide) ?_
  exact ⟨rfl, rfl, rfl⟩
 refine s_midr (fun a τ => a = aeN k h 12 ∧ σ = τ ∧ nV h 18 ≠ 1) ?_ ?_
 ·refine wIf_beqI ?_
  refine if_split (fun q => ?_) (fun q => ?_)
  ·refine s_cons ?_
   exact no fun _ _ a _ => a q
  ·exact ⟨rfl, rfl, q⟩
 rintro _ _ ⟨rfl, rfl, q2⟩
 refine s_midr (fun a τ => a = aeN k h 12 ∧ σ = τ ∧ yV h 0 + yV h 9 + yV h 18 + n2 (cs false h) = 1) ?_ ?_
 ·have S := v_get (sc := dScope 5 0) (ae := aeN k h 12) (nm := "tiles") e hl rfl
  refine v_if (v_ib (v_ib (v_ib (v_ib (v_ib (v_ib (v_ib (v_ib (v_bb (v_eq (v_name rfl)) (v_eq (v_name rfl))) (v_eq (v_name rfl))) (v_eq (S 27 rfl))) (v_eq (S 28 rfl))) (v_eq (S 29 rfl))) (v_eq (S 30 rfl))) (v_eq (S 31 rfl))) (v_eq (S 32 rfl))) (v_eq (S 33 rfl))) ?_
  clear S
  refine wIf_bneI ?_
  refine if_split (fun q3 => ?_) (fun q3 => ?_)
  ·refine s_cons ?_
   exact no fun _ _ _ d => q3 ((x_is h).trans d)
  ·exact ⟨rfl, rfl, (x_is h).symm.trans (Decidable.not_not.mp q3)⟩
 rintro _ _ ⟨rfl, rfl, hX⟩
 have hk := hk q0 q1 q2 hX
 have s0 := sm_n H 0 3 6 1 (by decide); have s1 := sm_n H 1 4 7 2 (by decide); have s2 := sm_n H 9 12 15 1 (by decide); have s3 := sm_n H 10 13 16 2 (by decide); have s4 := sm_n H 18 21 24 1 (by decide); have s5 := sm_n H 19 22 25 2 (by decide)
 refine s_join (aeN k h 13) σ ?_ ?_
 ·refine wG_i s0 (wG_i s1 (wG_i (by decide) ?_))
  exact ⟨rfl, rfl, rfl⟩
 refine s_join (aeN k h 14) σ ?_ ?_
 ·refine res_con (f := 260) (by rfl) ?_
  refine c260 e hl H (by decide) (by decide) ?_
  exact ⟨rfl, rfl, rfl⟩
 refine s_join (aeN k h 15) σ ?_ ?_
 ·refine wG_i s2 (wG_i s3 (wG_i (by decide) ?_))
  exact ⟨rfl, rfl, rfl⟩
 refine s_join (aeN k h 16) σ ?_ ?_
 ·refine res_con (f := 260) (by rfl) ?_
  refine c260 e hl H (by decide) (by decide) ?_
  exact ⟨rfl, rfl, rfl⟩
 refine s_join (aeN k h 17) σ ?_ ?_
 ·refine wG_i s4 (wG_i s5 (wG_i (by decide) ?_))
  exact ⟨rfl, rfl, rfl⟩
 refine s_join (aeN k h 18) σ ?_ ?_
 ·refine res_con (f := 260) (by rfl) ?_
  refine c260 e hl H (by decide) (by decide) ?_
  exact ⟨rfl, rfl, rfl⟩
 exact hk
end
end
section
section
variable {σ : Sto} {k n : Nat} {b : Bool} {h : List Int} {K : KE}
noncomputable abbrev b4 (a b c d : Int) : Int := Builtin.bitOr (Builtin.bitOr (Builtin.bitOr a b) c) d
noncomputable abbrev b6 (a b c d e f : Int) : Int := Builtin.bitOr (Builtin.bitOr (b4 a b c d) e) f
theorem or6 {a b c d e f : Int} (ha : 0 ≤ a) (hb : 0 ≤ b) (hc : 0 ≤ c) (hd : 0 ≤ d) (he : 0 ≤ e) (hf : 0 ≤ f) : Builtin.bitOr (Builtin.bitOr (Builtin.bitOr (Builtin.bitOr (Builtin.bitOr a b) c) d) e) f = 0 ↔ a = 0 ∧ b = 0 ∧ c = 0 ∧ d = 0 ∧ e = 0 ∧ f = 0 := by
 obtain ⟨p1, e1⟩ := bor0 ha hb
 obtain ⟨p2, e2⟩ := bor0 p1 hc
 obtain ⟨p3, e3⟩ := bor0 p2 hd
 obtain ⟨p4, e4⟩ := bor0 p3 he
 obtain ⟨p5, e5⟩ := bor0 p4 hf
 rw [e5, e4, e3, e2, e1]
 simp only [and_assoc]
theorem or4 {a b c d : Int} (ha : 0 ≤ a) (hb : 0 ≤ b) (hc : 0 ≤ c) (hd : 0 ≤ d) : Builtin.bitOr (Builtin.bitOr (Builtin.bitOr a b) c) d = 0 ↔ a = 0 ∧ b = 0 ∧ c = 0 ∧ d = 0 := by
 obtain ⟨p1, e1⟩ := bor0 ha hb
 obtain ⟨p2, e2⟩ := bor0 p1 hc
 obtain ⟨p3, e3⟩ := bor0 p2 hd
 rw [e3, e2, e1]
 simp only [and_assoc]
theorem nz {v : Int} : (!(v != 0)) = true ↔ v = 0 := by simp
theorem and3 {f : Expr → Loc → Sto → XE} {e0 e1 e2 e3 : Expr} {ae : Loc} {σ : Sto} {K : KE} {b0 : Bool} {P1 P2 P3 W : Prop} (hW : W ↔ b0 = true ∧ P1 ∧ P2 ∧ P3) (hq : ∀ r τ, (r = true ↔ W) → K (.bool r) (σ ++ τ))
  (h0 : ∀ KK : KE, KK (.bool b0) σ → f e0 ae σ KK) (h1 : b0 = true → ∀ KK : KE, (∀ r τ, (r = true ↔ P1) → KK (.bool r) (σ ++ τ)) → f e1 ae σ KK)
  (h2 : b0 = true → ∀ (s : Sto) (KK : KE), (∀ r τ, (r = true ↔ P2) → KK (.bool r) (s ++ τ)) → f e2 ae s KK) (h3 : b0 = true → ∀ (s : Sto) (KK : KE), (∀ r τ, (r = true ↔ P3) → KK (.bool r) (s ++ τ)) → f e3 ae s KK) : boolA f .And [e0, e1, e2, e3] ae σ K := by
 refine h0 _ ?_
 cases b0 with
 | false =>
  refine wIf_f ?_
  have := hq false [] ⟨fun c => (by cases c), fun w => absurd (hW.mp w).1 (by decide)⟩
  rwa [List.append_nil] at this
 | true =>
  refine wIf_t (h1 rfl _ fun r1 τ1 e1 => wIf_i (fun c1 => ?_) (fun c1 => ?_))
  ·refine h2 rfl _ _ fun r2 τ2 e2 => wIf_i (fun c2 => ?_) (fun c2 => ?_)
   ·refine h3 rfl _ _ fun r3 τ3 e3 => ?_
    rw [List.append_assoc, List.append_assoc]
    exact hq r3 _ (e3.trans ⟨fun x => hW.mpr ⟨rfl, e1.mp c1, e2.mp c2, x⟩, fun w => (hW.mp w).2.2.2⟩)
   ·rw [List.append_assoc]
    exact hq r2 _ ⟨fun c => (by rw [c] at c2; cases c2), fun w => e2.mpr (hW.mp w).2.2.1⟩
  ·exact hq r1 τ1 ⟨fun c => (by rw [c] at c1; cases c1), fun w => e1.mpr (hW.mp w).2.1⟩
theorem ret3 {X : Ctx} {call : Addr → List AV → Sto → XE} {N : Nat} {sc : Scope} {p q : Pos} {e0 e1 e2 e3 : Expr} {ae : Loc} {σ : Sto} {K : KS} {b0 : Bool} {P1 P2 P3 W : Prop} (hW : W ↔ b0 = true ∧ P1 ∧ P2 ∧ P3) (hq : ∀ r τ, (r = true ↔ W) → K (.ret (.bool r)) ae (σ ++ τ))
  (h0 : ∀ KK : KE, KK (.bool b0) σ → evalE X call N sc e0 ae σ KK) (h1 : b0 = true → ∀ KK : KE, (∀ r τ, (r = true ↔ P1) → KK (.bool r) (σ ++ τ)) → evalE X call N sc e1 ae σ KK)
  (h2 : b0 = true → ∀ (s : Sto) (KK : KE), (∀ r τ, (r = true ↔ P2) → KK (.bool r) (s ++ τ)) → evalE X call N sc e2 ae s KK) (h3 : b0 = true → ∀ (s : Sto) (KK : KE), (∀ r τ, (r = true ↔ P3) → KK (.bool r) (s ++ τ)) → evalE X call N sc e3 ae s KK) :
  execS X call (N + 2) sc (.Return (some (.BoolOp .And [e0, e1, e2, e3] p)) q) ae σ K :=
 and3 (f := evalE X call N sc) (K := fun v σ => K (.ret v) ae σ) hW hq h0 h1 h2 h3
theorem s4a {a b c d : Int} (h : a + b + c + d = 1) (ha : 0 ≤ a) (hb : 0 ≤ b) (hc : 0 ≤ c) (hd : 1 ≤ d) : a = 0 ∧ b = 0 ∧ c = 0 := ⟨by lia -abstractProof, by lia -abstractProof, by lia -abstractProof⟩
theorem s4b {a b c d : Int} (h : a + b + c + d = 1) (hd : d = 0) (hb : 0 ≤ b) (hc : 0 ≤ c) (ha : a = 1) : b = 0 ∧ c = 0 := ⟨by lia -abstractProof, by lia -abstractProof⟩
theorem s4c {a b c d : Int} (h : a + b + c + d = 1) (hd : d = 0) (ha : a = 0) (hc : 0 ≤ c) (hb : b = 1) : c = 0 := by lia -abstractProof
theorem s4d {a b c d : Int} (h : a + b + c + d = 1) (hd : d = 0) (ha : a = 0) (hb : b = 0) : c = 1 := by lia -abstractProof
theorem yz {n y : Int} (h : (n = 2 ∧ y = 1) ∨ (n = 0 ∧ y = 0)) (e : y = 0) : n = 0 ∧ y = 0 := h.resolve_left fun c => absurd (c.2.symm.trans e) (by decide)
theorem yn {n y : Int} (h : (n = 2 ∧ y = 1) ∨ (n = 0 ∧ y = 0)) (e : ¬ n = 2) : n = 0 ∧ y = 0 := h.resolve_left fun c => e c.1
theorem y_nn (h : List Int) (d : Int) : 0 ≤ yV h d := by unfold yV; split <;> decide
theorem nn_nn (h : List Int) (d : Int) : 0 ≤ nnV h d := by have := nn_3 h d; lia -abstractProof
set_option maxHeartbeats 4000000 in
theorem agari_3 (H : H4 h) (hh : ∀ j ∈ honL, gt h j = 0 ∨ gt h j = 2 ∨ gt h j = 3) (h7 : twoV h ≠ 7) (hq : ∀ r τ, (r = true ↔ Win h) → K (.bool r) (σ ++ τ)) (q0 : nV h 0 ≠ 1) (q1 : nV h 9 ≠ 1) (q2 : nV h 18 ≠ 1) (hX : yV h 0 + yV h 9 + yV h 18 + n2 (cs false h) = 1) :
  seqA (execS XW (callA XW (n + 1 + 1)) 40 (dScope 5 0)) ((dBody 5 0).drop 28) (aeN k h 18) σ (KR K) := by
 have W : Win h ↔ FS (sH 9 0 h) (yV h 0) ∧ FS (sH 9 9 h) (yV h 9) ∧ FS (sH 9 18 h) (yV h 18) := by
  rw [← reg_iff hh hX]
  exact ⟨fun w => w.elim id fun c => absurd c h7, .inl⟩
 have J := jv_is H
 have hnp := np_nn (h := h)
 have y0 := yV_of q0
 have y1 := yV_of q1
 have y2 := yV_of q2
 have m0 := nV_nn h 0; have m1 := nV_nn h 9; have m2 := nV_nn h 18
 have w0 := nn_nn h 0; have w1 := nn_nn h 9; have w2 := nn_nn h 18
 have men : ∀ {d : Int} {c : Prop}, (c → nnV h d = 0) → c → ∀ (s : Sto) (KK : KE), (∀ r τ, (r = true ↔ FS (sH 9 d h) 0) → KK (.bool r) (s ++ τ)) → lCall (callA XW (n + 1 + 1)) 240 [.int (pk (seg9 h d))] s KK := fun x c s KK hk => c240' rfl rfl (seg_s7 H _) fun τ => hk _ τ (gm_9 H (x c))
 have ata : ∀ {d : Int} (s : Sto) (KK : KE), (∀ r τ, (r = true ↔ FS (sH 9 d h) 1) → KK (.bool r) (s ++ τ)) → lCall (callA XW (n + 1 + 1)) 250 [.int (nnV h d), .int (pk (seg9 h d))] s KK := fun {d} s KK hk => c250 rfl (nn_3 h d) rfl (seg_s7 H d) fun r hr τ => hk r τ (hr.trans (atm_9 H))
 refine s_cons ?_
 refine wIf_bneI ?_
 refine if_split (fun q => ?_) (fun q => ?_)
 ·have hp := np_of.mp (J.j4.mp q)
  obtain ⟨z0, z1, z2⟩ := s4a hX (y_nn h 0) (y_nn h 9) (y_nn h 18) (by lia -abstractProof)
  have e0 := yz y0 z0
  have e1 := yz y1 z1
  have e2 := yz y2 z2
  rw [e0.2, e1.2, e2.2] at W
  have O := (nz (v := b6 (nV h 0) (nnV h 0) (nV h 9) (nnV h 9) (nV h 18) (nnV h 18))).trans (or6 m0 w0 m1 w1 m2 w2)
  refine s_cons ?_
  refine ret3 (b0 := !(b6 (nV h 0) (nnV h 0) (nV h 9) (nnV h 9) (nV h 18) (nnV h 18) != 0)) (P1 := FS (sH 9 0 h) 0) (P2 := FS (sH 9 9 h) 0) (P3 := FS (sH 9 18 h) 0) ?_ (fun r τ hr => hq r τ hr) ?_ ?_ ?_ ?_
  ·exact ⟨fun w => ⟨O.mpr ⟨e0.1, fs_nn0 H (W.mp w).1, e1.1, fs_nn0 H (W.mp w).2.1, e2.1, fs_nn0 H (W.mp w).2.2⟩, W.mp w⟩, fun x => W.mpr x.2⟩
  ·exact fun _ hk => hk
  ·intro c KK hk
   refine res_con (f := 240) (by rfl) ?_
   exact men (fun c => (O.mp c).2.1) c _ _ hk
  ·intro c s KK hk
   refine res_con (f := 240) (by rfl) ?_
   exact men (fun c => (O.mp c).2.2.2.1) c _ _ hk
  ·intro c s KK hk
   refine res_con (f := 240) (by rfl) ?_
   exact men (fun c => (O.mp c).2.2.2.2.2) c _ _ hk
 have hp : n2 (cs false h) = 0 := Decidable.not_not.mp fun c => q (J.j4.mpr (np_of.mpr c))
 with_reducible refine s_nil ?_
 refine s_cons ?_
 refine wIf_beqI ?_
 refine if_split (fun q3 => ?_) (fun q3 => ?_)
 ·have e0 : yV h 0 = 1 := if_pos q3
  have e1 : nV h 9 = 0 ∧ yV h 9 = 0 := by lia -abstractProof
  have e2 : nV h 18 = 0 ∧ yV h 18 = 0 := by lia -abstractProof
  rw [e0, e1.2, e2.2] at W
  have O := (nz (v := b4 (nV h 9) (nnV h 9) (nV h 18) (nnV h 18))).trans (or4 m1 w1 m2 w2)
  refine s_cons ?_
  refine ret3 (b0 := !(b4 (nV h 9) (nnV h 9) (nV h 18) (nnV h 18) != 0)) (P1 := FS (sH 9 9 h) 0) (P2 := FS (sH 9 18 h) 0) (P3 := FS (sH 9 0 h) 1) ?_ (fun r τ hr => hq r τ hr) ?_ ?_ ?_ ?_
  ·exact ⟨fun w => ⟨O.mpr ⟨e1.1, fs_nn0 H (W.mp w).2.1, e2.1, fs_nn0 H (W.mp w).2.2⟩, (W.mp w).2.1, (W.mp w).2.2, (W.mp w).1⟩, fun x => W.mpr ⟨x.2.2.2, x.2.1, x.2.2.1⟩⟩
  ·exact fun _ hk => hk
  ·intro c KK hk
   refine res_con (f := 240) (by rfl) ?_
   exact men (fun c => (O.mp c).2.1) c _ _ hk
  ·intro c s KK hk
   refine res_con (f := 240) (by rfl) ?_
   exact men (fun c => (O.mp c).2.2.2) c _ _ hk
  ·intro c s KK hk
   refine res_con (f := 250) (by rfl) ?_
   exact ata _ _ hk
 with_reducible refine s_nil ?_
 refine s_cons ?_
 refine wIf_beqI ?_
 refine if_split (fun q4 => ?_) (fun q4 => ?_)
 ·have e0 : nV h 0 = 0 ∧ yV h 0 = 0 := by lia -abstractProof
  have e1 : yV h 9 = 1 := if_pos q4
  have e2 : nV h 18 = 0 ∧ yV h 18 = 0 := by lia -abstractProof
  rw [e0.2, e1, e2.2] at W
  have O := (nz (v := b4 (nV h 18) (nnV h 18) (nV h 0) (nnV h 0))).trans (or4 m2 w2 m0 w0)
  refine s_cons ?_
  refine ret3 (b0 := !(b4 (nV h 18) (nnV h 18) (nV h 0) (nnV h 0) != 0)) (P1 := FS (sH 9 18 h) 0) (P2 := FS (sH 9 0 h) 0) (P3 := FS (sH 9 9 h) 1) ?_ (fun r τ hr => hq r τ hr) ?_ ?_ ?_ ?_
  ·exact ⟨fun w => ⟨O.mpr ⟨e2.1, fs_nn0 H (W.mp w).2.2, e0.1, fs_nn0 H (W.mp w).1⟩, (W.mp w).2.2, (W.mp w).1, (W.mp w).2.1⟩, fun x => W.mpr ⟨x.2.2.1, x.2.2.2, x.2.1⟩⟩
  ·exact fun _ hk => hk
  ·intro c KK hk
   refine res_con (f := 240) (by rfl) ?_
   exact men (fun c => (O.mp c).2.1) c _ _ hk
  ·intro c s KK hk
   refine res_con (f := 240) (by rfl) ?_
   exact men (fun c => (O.mp c).2.2.2) c _ _ hk
  ·intro c s KK hk
   refine res_con (f := 250) (by rfl) ?_
   exact ata _ _ hk
 with_reducible refine s_nil ?_
 have e0 := yn y0 q3
 have e1 := yn y1 q4
 have e2 : yV h 18 = 1 := s4d hX hp e0.2 e1.2
 rw [e0.2, e1.2, e2] at W
 have O := (nz (v := b4 (nV h 0) (nnV h 0) (nV h 9) (nnV h 9))).trans (or4 m0 w0 m1 w1)
 refine s_cons ?_
 refine ret3 (b0 := !(b4 (nV h 0) (nnV h 0) (nV h 9) (nnV h 9) != 0)) (P1 := FS (sH 9 0 h) 0) (P2 := FS (sH 9 9 h) 0) (P3 := FS (sH 9 18 h) 1) ?_ (fun r τ hr => hq r τ hr) ?_ ?_ ?_ ?_
 ·exact ⟨fun w => ⟨O.mpr ⟨e0.1, fs_nn0 H (W.mp w).1, e1.1, fs_nn0 H (W.mp w).2.1⟩, W.mp w⟩, fun x => W.mpr x.2⟩
 ·exact fun _ hk => hk
 ·intro c KK hk
  refine res_con (f := 240) (by rfl) ?_
  exact men (fun c => (O.mp c).2.1) c _ _ hk
 ·intro c s KK hk
  refine res_con (f := 240) (by rfl) ?_
  exact men (fun c => (O.mp c).2.2.2) c _ _ hk
 ·intro c s KK hk
  refine res_con (f := 250) (by rfl) ?_
  exact ata _ _ hk
set_option maxHeartbeats 4000000 in
theorem c230 (e : σ[k]? = some ⟨b, .list (h.map AV.int)⟩) (hl : h.length = 34) (H : H4 h) (hp : prV h ≠ 2) (hsev : twoV h = 7 → ∀ j ∈ honL, gt h j = 0 ∨ gt h j = 2) (hq : ∀ r τ, (r = true ↔ Win h) → K (.bool r) (σ ++ τ)) : lCall (callA XW (n + 1 + 1 + 1)) 230 [.ref k] σ K :=
 agari_1 e hl H hp hsev hq fun hh h7 τ => by
  have hq' : ∀ r τ', (r = true ↔ Win h) → K (.bool r) (σ ++ τ ++ τ') := fun r τ' hr => by rw [List.append_assoc]; exact hq r _ hr
  exact agari_2 (old_app e) hl H h7 (fun r hr => hq r τ hr) fun q0 q1 q2 hX => agari_3 H hh h7 hq' q0 q1 q2 hX
end
end
section
noncomputable def grps (f : Int) (p : Bool) : List (List Int) := [[f, f, f]] ++ (if f < 27 ∧ f.fmod 9 < 7 then [[f, f + 1, f + 2]] else []) ++ (if p = false then [[f, f]] else [])
noncomputable def take1 (s : List Int × Bool) (t : Int) : List Int × Bool := if t ∈ s.1 then (s.1.erase t, s.2) else (s.1, false)
noncomputable def spl : Nat → List Int → Bool → Bool
 | 0, _, _ => false
 | _ + 1, [], p => p
 | n + 1, f :: l, p => (grps f p).any fun g => (g.foldl take1 (f :: l, true)).2 && spl n (g.foldl take1 (f :: l, true)).1 (p || g.length == 2)
noncomputable def GR (τ : Sto) (G : Nat) : List AV → List (List Int) → Prop
 | [], [] => True
 | .ref k :: rs, g :: gs => k ≠ G ∧ (∃ b, τ[k]? = some ⟨b, .list (g.map AV.int)⟩) ∧ GR τ G rs gs
 | _, _ => False
theorem GR.app {τ τ' : Sto} {G : Nat} : ∀ {rs : List AV} {gs : List (List Int)}, GR τ G rs gs → GR (τ ++ τ') G rs gs
 | [], [], _ => trivial
 | .ref k :: rs, g :: gs, ⟨h, ⟨b, e⟩, r⟩ => ⟨h, ⟨b, old_app e⟩, r.app⟩
theorem GR.set {τ : Sto} {G : Nat} {c : Cl} : ∀ {rs : List AV} {gs : List (List Int)}, GR τ G rs gs → GR (τ.set G c) G rs gs
 | [], [], _ => trivial
 | .ref k :: rs, g :: gs, ⟨h, ⟨b, e⟩, r⟩ => ⟨h, ⟨b, by rw [List.getElem?_set_ne (Ne.symm h)]; exact e⟩, r.set⟩
theorem GR.snoc {τ : Sto} {G k : Nat} {g : List Int} (hk : k ≠ G) (e : ∃ b, τ[k]? = some ⟨b, .list (g.map AV.int)⟩) : ∀ {rs : List AV} {gs : List (List Int)}, GR τ G rs gs → GR τ G (rs ++ [.ref k]) (gs ++ [g])
 | [], [], _ => ⟨hk, e, trivial⟩
 | .ref _ :: _, _ :: _, ⟨h, e', r⟩ => ⟨h, e', r.snoc hk e⟩
noncomputable abbrev aeSp (r : Nat) (p : Bool) (f : Int) (G : Nat) (x : Loc) : Loc := ("rest", .ref r) :: ("paired", .bool p) :: ("first", .int f) :: ("groups", .ref G) :: x
noncomputable abbrev aeSg (r : Nat) (p : Bool) (f : Int) (G : Nat) (k l : Nat) (t : Bool) (x : Loc) : Loc := aeSp r p f G (("group", .ref k) :: ("left", .ref l) :: ("fits", .bool t) :: x)
noncomputable def stS (j : Nat) : Stmt := (dBody 11 1000).getD j (.Pass pos0)
section
variable {σ : Sto} {n : Nat} {K : KS} {call : Addr → List AV → Sto → XE}
noncomputable def stI : Stmt := (forBody (stS 5)).getD 2 (.Pass pos0)
theorem take_loop {r G k N : Nat} {p b : Bool} {f : Int} {g T : List Int} {x : Loc} (ek : σ[k]? = some ⟨b, .list (g.map AV.int)⟩) (hT : T.length ≤ 100) (hg : g.length < N) (hx : x = [] ∨ ∃ y, x = ([("tile", y)] : Loc))
  (hg0 : g ≠ []) (hq : ∀ x, (∃ y, x = ([("tile", y)] : Loc)) → K .next (aeSg r p f G k σ.length (g.foldl take1 (T, true)).2 x) (σ ++ [⟨true, .list ((g.foldl take1 (T, true)).1.map AV.int)⟩])) :
  forA (asgA XW call 38 (dScope 11 1000) (forTgt stI)) (seqA (execS XW call 38 (dScope 11 1000)) (forBody stI)) N (.list k 0) (aeSg r p f G k σ.length true x) (σ ++ [⟨true, .list (T.map AV.int)⟩]) K := by
 refine fl_cell (xs := g) (ae0 := aeSg r p f G k σ.length true x) (aeV := fun s v => aeSg r p f G k σ.length s.2 [("tile", v)]) (fun s : List Int × Bool => (⟨true, .list (s.1.map AV.int)⟩ : Cl)) (fun s _ => s.1.length ≤ 100) take1 (T, true) hT hg (fun s => old_app ek) ?_ ?_
 ·intro s y i ae hs _ hy hae KK hk
  clear hq hg0 hT
  obtain ⟨L, ok⟩ := s
  have el : (σ ++ [⟨true, .list (L.map AV.int)⟩] : Sto)[σ.length]? = some ⟨true, .list (L.map AV.int)⟩ := last_get
  have hs : L.length ≤ 100 := hs
  refine a_name (ae' := aeSg r p f G k σ.length ok [("tile", .int y)]) (by rcases hae with ⟨q, rfl⟩ | ⟨z, rfl⟩ <;> first | rfl | (cases q; rcases hx with rfl | ⟨z, rfl⟩ <;> rfl)) ?_
  refine s_cons ?_
  refine wAt_i el ?_
  refine wInts_i ?_
  refine wIf_b ?_
  refine if_split (fun q => ?_) (fun q => ?_)
  ·have hm : y ∈ L := List.contains_iff_mem.mp q
   rw [show take1 (L, ok) y = (L.erase y, ok) from if_pos hm] at hk
   have hk := hk (Nat.le_trans (List.length_erase_le ..) hs)
   refine s_cons ?_
   refine res_lm (name := "remove") el rfl ?_
   refine wLst_i el ?_
   refine wG_i (by rw [List.length_map]; lia) ?_
   refine wInts_i ?_
   refine wG_i hm ?_
   rw [← set_last (c := ⟨true, .list (L.map AV.int)⟩)] at hk
   exact hk
  ·have hm : ¬ y ∈ L := fun c => q (List.contains_iff_mem.mpr c)
   rw [show take1 (L, ok) y = (L, false) from if_neg hm] at hk
   refine s_cons ?_
   exact hk hs
 ·intro ae hae
  rcases hae with ⟨q, _⟩ | ⟨v, rfl⟩
  ·exact absurd q hg0
  ·exact hq _ ⟨v, rfl⟩
end
theorem take_len : ∀ (g : List Int) (s : List Int × Bool), (g.foldl take1 s).2 = true → (g.foldl take1 s).1.length + g.length = s.1.length ∧ s.2 = true
 | [], s, h => ⟨rfl, h⟩
 | t :: g, s, h => by
  obtain ⟨a, b⟩ := take_len g (take1 s t) h
  have ht : t ∈ s.1 := by
   unfold take1 at b
   split at b
   ·assumption
   ·cases b
  rw [List.foldl_cons]
  unfold take1 at a b ⊢
  rw [if_pos ht] at a b ⊢
  have := List.length_erase_of_mem ht
  have := List.length_pos_of_mem ht
  dsimp only at a b
  rw [List.length_cons]
  exact ⟨by lia, b⟩
theorem grps_len {f : Int} {p : Bool} {g : List Int} (h : g ∈ grps f p) : 2 ≤ g.length ∧ g.length ≤ 3 := by
 unfold grps at h
 simp only [List.mem_append, List.mem_singleton] at h
 rcases h with (rfl | h) | h
 ·simp
 ·split at h
  ·cases List.mem_singleton.mp h; simp
  ·cases h
 ·split at h
  ·cases List.mem_singleton.mp h; simp
  ·cases h
noncomputable def GI (σ : Sto) (r : Nat) (p : Bool) (f : Int) (m : Nat) (gs : List (List Int)) (a : Loc) (τ : Sto) : Prop := a = aeSp r p f (σ.length + 1) [] ∧ ∃ τ1 rs, τ = σ ++ τ1 ∧ τ[σ.length + 1]? = some ⟨true, .list rs⟩ ∧ rs.length ≤ m ∧ GR τ (σ.length + 1) rs gs
theorem GI.add {σ : Sto} {r : Nat} {p : Bool} {f : Int} {m : Nat} {gs : List (List Int)} {τ : Sto} {rs : List AV} {g : List Int} (h1 : ∃ τ1, τ = σ ++ τ1) (e : τ[σ.length + 1]? = some ⟨true, .list rs⟩) (hr : rs.length ≤ m) (gr : GR τ (σ.length + 1) rs gs) :
  GI σ r p f (m + 1) (gs ++ [g]) (aeSp r p f (σ.length + 1) []) ((τ ++ [⟨true, .list (g.map AV.int)⟩] : Sto).set (σ.length + 1) ⟨true, .list (rs ++ [.ref τ.length])⟩) := by
 obtain ⟨τ1, rfl⟩ := h1
 have hG := (List.getElem?_eq_some_iff.mp e).1
 refine ⟨rfl, _, _, by rw [List.append_assoc, List.set_append_right _ _ (Nat.le_succ _)], List.getElem?_set_self (by rw [List.length_append]; exact Nat.lt_add_right _ hG), by rw [List.length_append]; exact Nat.succ_le_succ hr, GR.snoc (Nat.ne_of_gt hG) ⟨true, ?_⟩ gr.app.set⟩
 rw [List.getElem?_set_ne (Nat.ne_of_lt hG)]
 exact last_get
set_option maxHeartbeats 2000000 in
theorem grp_ok {σ : Sto} {r n : Nat} {p b : Bool} {f : Int} {T : List Int} {K : KS} (e : σ[r]? = some ⟨b, .list ((f :: T).map AV.int)⟩) (hT : (f :: T).length ≤ 100) (hk : ∀ τ rs, (σ ++ τ)[σ.length + 1]? = some ⟨true, .list rs⟩ → rs.length ≤ 3 → GR (σ ++ τ) (σ.length + 1) rs (grps f p) → seqA (execS XW (callA XW n) 40 (dScope 11 1000)) ((dBody 11 1000).drop 5) (aeSp r p f (σ.length + 1) []) (σ ++ τ) K) :
  seqA (execS XW (callA XW n) 40 (dScope 11 1000)) (dBody 11 1000) [("rest", .ref r), ("paired", .bool p)] σ K := by
 refine s_join [("rest", .ref r), ("paired", .bool p)] σ ?_ ?_
 ·refine wLst_i e ?_
  refine wG_i (by rw [List.length_map]; lia) ?_
  refine wIf_beqI ?_
  refine if_split (fun q => absurd q (by rw [List.length_map, List.length_cons]; lia)) (fun q => ?_)
  exact ⟨rfl, rfl, rfl⟩
 refine s_join [("rest", .ref r), ("paired", .bool p), ("first", .int f)] σ ?_ ?_
 ·refine it_any e (Nat.le_trans hT (by decide)) (by decide) (Int.lt_of_lt_of_le (by decide) (Int.ofNat_le.mpr (Nat.succ_le_succ (Nat.zero_le _)))) ?_
  exact ⟨rfl, rfl, rfl⟩
 clear e hT
 have hl : (σ ++ [⟨true, .list ([f, f, f].map AV.int)⟩] : Sto).length = σ.length + 1 := by rw [List.length_append]; rfl
 refine s_mid (GI σ r p f 1 [[f, f, f]]) ?_ ?_
 ·refine ⟨rfl, by show aeSp r p f (σ ++ [⟨true, .list ([f, f, f].map AV.int)⟩] : Sto).length [] = _; rw [hl], _, [.ref σ.length], List.append_assoc .., hl ▸ last_get, Nat.le_refl _, Nat.ne_of_lt (Nat.lt_succ_self _), ⟨true, old_app last_get⟩, trivial⟩
 clear hl
 rintro _ τ ⟨rfl, τ1, rs, hτ, e, hr, gr⟩
 refine s_mid (GI σ r p f 2 ([[f, f, f]] ++ (if f < 27 ∧ f.fmod 9 < 7 then [[f, f + 1, f + 2]] else []))) ?_ ?_
 ·have none : ∀ q : ¬ (f < 27 ∧ f.fmod 9 < 7), Fl.next = Fl.next ∧ GI σ r p f 2 ([[f, f, f]] ++ (if f < 27 ∧ f.fmod 9 < 7 then [[f, f + 1, f + 2]] else [])) (aeSp r p f (σ.length + 1) []) τ := fun q => by
   rw [if_neg q]
   exact ⟨rfl, rfl, τ1, rs, hτ, e, Nat.le_succ_of_le hr, gr⟩
  refine wIf_decI ?_
  refine if_split (fun q => ?_) (fun q => ?_)
  ·refine wG_i (by decide) ?_
   refine wIf_decI ?_
   refine if_split (fun q2 => ?_) (fun q2 => ?_)
   ·rw [if_pos ⟨q, q2⟩]
    refine wIf_t ?_
    refine s_cons ?_
    refine res_lm (name := "append") e rfl ?_
    refine wLst_i (old_app e) ?_
    refine wG_i (Nat.le_trans hr (by decide)) ?_
    exact ⟨rfl, GI.add ⟨τ1, hτ⟩ e hr gr⟩
   ·exact wIf_f (none fun c => q2 c.2)
  ·exact wIf_f (none fun c => q c.1)
 clear hτ e hr gr
 rintro _ τ ⟨rfl, τ1, rs, hτ, e, hr, gr⟩
 refine s_mid (GI σ r p f 3 (grps f p)) ?_ ?_
 ·cases p with
  | true =>
   refine wIf_f ?_
   exact ⟨rfl, rfl, τ1, rs, hτ, e, Nat.le_succ_of_le hr, by unfold grps; rw [if_neg (c := true = false) (by decide), List.append_nil]; exact gr⟩
  | false =>
   refine wIf_t ?_
   refine s_cons ?_
   refine res_lm (name := "append") e rfl ?_
   refine wLst_i (old_app e) ?_
   refine wG_i (Nat.le_trans hr (by decide)) ?_
   exact ⟨rfl, GI.add ⟨τ1, hτ⟩ e hr gr⟩
 clear hτ e hr gr
 rintro _ _ ⟨rfl, τ2, rs2, rfl, e, hr, gr⟩
 exact hk τ2 rs2 e hr gr
noncomputable def SI (σ : Sto) (r : Nat) (p : Bool) (f : Int) (G : Nat) (v : Bool) (test : List Int → Bool) (vs : List AV) (ae : Loc) (τ : Sto) : Prop := ∃ τ' gs x, τ = σ ++ τ' ∧ GR τ G vs gs ∧ (∀ g ∈ gs, 2 ≤ g.length ∧ g.length ≤ 3) ∧ v = gs.any test ∧ ae = aeSp r p f G x ∧ (x = [] ∨ ∃ a b c d, x = ([("group", a), ("left", b), ("fits", c), ("tile", d)] : Loc))
set_option maxHeartbeats 2000000 in
theorem try_ok {S : Sto} {r k m n G : Nat} {p b : Bool} {f : Int} {T : List Int} {g : List Int} {KK : KS} {x : Loc}
  (ih : ∀ (n : Nat) (T : List Int) (p : Bool) (σ : Sto) (r : Nat) (b : Bool) (K : KE), T.length ≤ m → σ[r]? = some ⟨b, .list (T.map AV.int)⟩ → (∀ τ, K (.bool (spl (m + 1) T p)) (σ ++ τ)) → lCall (callA XW (n + m + 1)) 297 [.ref r, .bool p] σ K)
  (hT : T.length ≤ m) (hm : m ≤ 99) (er : S[r]? = some ⟨b, .list ((f :: T).map AV.int)⟩) (ek : ∃ b', S[k]? = some ⟨b', .list (g.map AV.int)⟩) (g2 : 2 ≤ g.length) (g3 : g.length ≤ 3)
  (hx : x = [] ∨ ∃ a b c d, x = ([("group", a), ("left", b), ("fits", c), ("tile", d)] : Loc))
  (hno : ∀ (t : Bool) (l : Nat) (y : AV) (τ : Sto), ((g.foldl take1 (f :: T, true)).2 && spl (m + 1) (g.foldl take1 (f :: T, true)).1 (p || g.length == 2)) = false → KK .next (aeSg r p f G k l t [("tile", y)]) (S ++ τ))
  (hyes : ∀ (ae : Loc) (τ : Sto), ((g.foldl take1 (f :: T, true)).2 && spl (m + 1) (g.foldl take1 (f :: T, true)).1 (p || g.length == 2)) = true → KK (.ret (.bool true)) ae (S ++ τ)) :
  asgA XW (callA XW (n + m + 1)) 39 (dScope 11 1000) (forTgt (stS 5)) (.ref k) (aeSp r p f G x) S fun ae σ => seqA (execS XW (callA XW (n + m + 1)) 39 (dScope 11 1000)) (forBody (stS 5)) ae σ KK := by
 obtain ⟨bk, ek⟩ := ek
 have hTl : (f :: T).length ≤ 100 := by rw [List.length_cons]; lia
 have hml : ((f :: T).map AV.int).length = T.length + 1 := by rw [List.length_map]; rfl
 have rest : ∀ x2 : Loc, (x2 = [] ∨ ∃ y, x2 = ([("tile", y)] : Loc)) → seqA (execS XW (callA XW (n + m + 1)) 39 (dScope 11 1000)) ((forBody (stS 5)).drop 2) (aeSg r p f G k S.length true x2) (S ++ [⟨true, .list ((f :: T).map AV.int)⟩]) KK := by
  intro x2 hx2
  refine s_cons ?_
  refine lIter.mk (wAt_i (old_app ek) ?_)
  refine lockF.mk ?_
  refine take_loop ek hTl (Nat.lt_of_le_of_lt g3 (by decide)) hx2 (fun c => by rw [c] at g2; exact absurd g2 (by decide)) fun x3 hx3 => ?_
  obtain ⟨y3, rfl⟩ := hx3
  have htl := take_len g (f :: T, true)
  generalize g.foldl take1 (f :: T, true) = s at htl hno hyes ⊢
  obtain ⟨L, ok⟩ := s
  have el : (S ++ [⟨true, .list (L.map AV.int)⟩] : Sto)[S.length]? = some ⟨true, .list (L.map AV.int)⟩ := last_get
  refine s_cons ?_
  cases ok with
  | false =>
   refine wIf_f (wIf_f ?_)
   exact hno false _ _ _ rfl
  | true =>
   have hlen : L.length + g.length = T.length + 1 := (htl rfl).1
   refine wIf_t ?_
   have fin : ∀ q : Bool, q = (p || g.length == 2) → ∀ PT PF : Sto → Prop, (∀ τ, KK (.ret (.bool true)) (aeSg r p f G k S.length true [("tile", y3)]) τ → PT τ) → (∀ τ, KK .next (aeSg r p f G k S.length true [("tile", y3)]) τ → PF τ) → lCall (callA XW (n + m + 1)) 297 [.ref S.length, .bool q] (S ++ [⟨true, .list (L.map AV.int)⟩]) fun v τ3 => wTruth τ3 v fun t => wIf t (PT τ3) (PF τ3) := by
    rintro q rfl PT PF hT hF
    refine ih n L _ _ _ true _ (by lia) el fun τ3 => ?_
    rw [List.append_assoc]
    refine wIf_i (fun hs => hT _ (hyes _ _ hs)) (fun hs => hF _ (hno _ _ _ _ hs))
   have eg2 : (((g.map AV.int).length : Int) == 2) = (g.length == 2) := by
    rw [List.length_map]
    by_cases q : g.length = 2
    ·rw [q]; rfl
    ·rw [beq_eq_false_iff_ne.mpr q, beq_eq_false_iff_ne.mpr (by exact_mod_cast q)]
   cases p with
   | true =>
    refine wIf_t ?_
    exact fin true rfl _ _ (fun τ h => wIf_t (s_cons h)) (fun τ h => wIf_f h)
   | false =>
    refine wIf_f ?_
    refine wLst_i (old_app ek) ?_
    refine wG_i (by rw [List.length_map]; lia) ?_
    exact fin _ eg2 _ _ (fun τ h => wIf_t (s_cons h)) (fun τ h => wIf_f h)
 have sl : ∀ {x2 : Loc}, (x2 = [] ∨ ∃ y, x2 = ([("tile", y)] : Loc)) → ∀ {K : KE}, (seqA (execS XW (callA XW (n + m + 1)) 39 (dScope 11 1000)) ((forBody (stS 5)).drop 2) (aeSg r p f G k S.length true x2) (S ++ [⟨true, .list ((f :: T).map AV.int)⟩]) KK → K (.ref S.length) (S ++ [⟨true, .list ((f :: T).map AV.int)⟩])) → lSlice (.ref r) .none .none S K := fun h2 K h => by
  refine sl_i er 0 (T.length + 1) (Nat.le_trans (Nat.le_of_eq hml) (by lia)) rfl (by show some ((f :: T).map AV.int).length = _; rw [hml]) ?_
  rw [List.drop_zero, Nat.sub_zero, List.take_of_length_le (Nat.le_of_eq hml)]
  exact h (rest _ h2)
 clear ih hno hyes er rest
 rcases hx with rfl | ⟨a, b', c, d, rfl⟩
 ·refine a_name (ae' := aeSp r p f G [("group", .ref k)]) (by rfl) ?_
  refine s_cons ?_
  refine sl (.inl rfl) fun h => ?_
  exact s_cons h
 ·refine a_name (ae' := aeSp r p f G [("group", .ref k), ("left", b'), ("fits", c), ("tile", d)]) (by rfl) ?_
  refine s_cons ?_
  refine sl (.inr ⟨d, rfl⟩) fun h => ?_
  exact s_cons h
set_option maxHeartbeats 4000000 in
theorem c297 : ∀ (m n : Nat) (T : List Int) (p : Bool) (σ : Sto) (r : Nat) (b : Bool) (K : KE), T.length ≤ m → m ≤ 100 → σ[r]? = some ⟨b, .list (T.map AV.int)⟩ → (∀ τ, K (.bool (spl (m + 1) T p)) (σ ++ τ)) → lCall (callA XW (n + m + 1)) 297 [.ref r, .bool p] σ K := by
 have nil : ∀ (m d : Nat) (p : Bool) (σ : Sto) (r : Nat) (b : Bool) (K : KE), σ[r]? = some ⟨b, .list (([] : List Int).map AV.int)⟩ → (∀ τ, K (.bool p) (σ ++ τ)) → lCall (callA XW (d + 1)) 297 [.ref r, .bool p] σ K := by
  intro m d p σ r b K e hq
  refine lCall.mk (call_of (fn := fnAt 11 1000 []) (ae := [("rest", .ref r), ("paired", .bool p)]) (by rfl) ?_)
  refine s_cons ?_
  refine wLst_i e ?_
  refine wG_i (by decide) ?_
  refine wIf_t ?_
  refine s_cons ?_
  have := hq []
  rw [List.append_nil] at this
  exact this
 intro m
 induction m with
 | zero =>
  intro n T p σ r b K hT hm e hq
  obtain rfl : T = [] := List.length_eq_zero_iff.mp (Nat.le_zero.mp hT)
  exact nil 0 _ p σ r b K e hq
 | succ m ih =>
  intro n T p σ r b K hT hm e hq
  cases T with
  | nil => exact nil m _ p σ r b K e hq
  | cons f T =>
   have hT : T.length ≤ m := Nat.le_of_succ_le_succ hT
   refine lCall.mk (call_of (fn := fnAt 11 1000 []) (ae := [("rest", .ref r), ("paired", .bool p)]) (by rfl) ?_)
   refine grp_ok e (by rw [List.length_cons]; lia) fun τ2 rs2 hG hr3 gr2 => ?_
   have hspl : spl (m + 1 + 1) (f :: T) p = (grps f p).any fun g => (g.foldl take1 (f :: T, true)).2 && spl (m + 1) (g.foldl take1 (f :: T, true)).1 (p || g.length == 2) := rfl
   generalize spl (m + 1 + 1) (f :: T) p = v at hspl hq
   refine s_cons ?_
   refine lIter.mk (wAt_i hG ?_)
   refine lockF.mk ?_
   have hq2 : ∀ τ, K (.bool v) (σ ++ τ2 ++ τ) := fun τ => by rw [List.append_assoc]; exact hq _
   have er : (σ ++ τ2 : Sto)[r]? = some ⟨b, .list ((f :: T).map AV.int)⟩ := old_app e
   have hG2 := hG
   clear hq e
   generalize hS : (σ ++ τ2 : Sto) = S at hq2 er gr2 hG
   generalize hGG : σ.length + 1 = G at hG gr2
   refine fl_list (xs := rs2) (SI S r p f G v fun g => (g.foldl take1 (f :: T, true)).2 && spl (m + 1) (g.foldl take1 (f :: T, true)).1 (p || g.length == 2)) ?_ ?_ ?_ rs2.length 0 1000 _ _ (Nat.zero_add _).symm (Nat.lt_of_le_of_lt hr3 (by decide)) ⟨[], grps f p, [], (List.append_nil _).symm, gr2, fun g hg => grps_len hg, hspl, rfl, .inl rfl⟩
   ·rintro vs ae τ ⟨τ', gs, x, rfl, _⟩
    exact ⟨true, old_app hG⟩
   ·rintro v0 vs ae τ ⟨τ', gs, x, rfl, grr, hgs, hany, rfl, hx⟩
    match v0, gs, grr with
    | .ref k, g :: gs, grr =>
     obtain ⟨hkG, ek, grr⟩ := grr
     obtain ⟨gl2, gl3⟩ := hgs g (List.mem_cons_self ..)
     refine try_ok (fun n T p σ r b K h1 h2 h3 => ih n T p σ r b K h1 (Nat.le_of_succ_le hm) h2 h3) hT (by lia) (old_app er) ek gl2 gl3 hx (fun t l y τ ht => ?_) (fun ae τ ht => ?_)
     ·refine ⟨τ' ++ τ, gs, _, (List.append_assoc ..), grr.app, fun g' hg' => hgs g' (List.mem_cons_of_mem _ hg'), ?_, rfl, .inr ⟨_, _, _, _, rfl⟩⟩
      rw [hany, List.any_cons, ht, Bool.false_or]
     ·have := hq2 (τ' ++ τ)
      rw [hany, List.any_cons, ht, Bool.true_or, ← List.append_assoc] at this
      exact this
   ·rintro ae τ ⟨τ', gs, x, rfl, grr, hgs, hany, rfl, hx⟩
    match gs, grr with
    | [], _ =>
     refine s_cons ?_
     have := hq2 τ'
     rw [hany] at this
     rcases hx with rfl | ⟨a, b, c, d, rfl⟩ <;> exact this
end
noncomputable def deadN (h : List Int) : Int := (loneI.filter fun k => gt h k == 4).length
noncomputable def deadV (n : Int) (h : List Int) : Int := if n.fmod 3 = 2 then max (deadN h - 1) 0 else deadN h
noncomputable def c2N (h : List Int) : Int := (h.filter fun c => c == 2).length
structure R3Is (T : List Int) (r : Int) : Prop where
 rng : ∀ x ∈ T, 0 ≤ x ∧ x < 34
 len : T.length ≤ 14
 n3 : (T.length : Int).fmod 3 ≠ 0
 sum : (cntL T).sum = T.length
 hz : ((cntL T).drop 1).take 7 = [0, 0, 0, 0, 0, 0, 0]
 reg : RegIs true 53 T.length (cntL T) r
structure LF (T : List Int) (r3 r4 : Int) : Prop where
 t3 : R3Is T r3
 t4 : RegIs false 53 T.length (cntL T) r4
 m1 : spl 15 T false = true ↔ r3 = -1
 m2 : r3 = if r4 = -1 then -1 else max r4 (deadV T.length (cntL T))
 m3 : ∀ tm sh ex, tm ∈ [1, 2, 4, 5, 7, 8] → R3Is (T.map (mvV tm sh ex)) r3
 m4 : T.length ≤ 11 → ∀ f : Int, 27 ≤ f → f < 34 → gt (cntL T) f = 0 → R3Is (T ++ List.replicate 3 f) r3
 m5 : T.length ≤ 11 → ∃ f : Int, 27 ≤ f ∧ f < 34 ∧ gt (cntL T) f = 0
 h4 : H4 (cntL T)
 pr : prV (cntL T) ≠ 2
 tw : twoV (cntL T) = 7 → ∀ j ∈ honL, gt (cntL T) j = 0 ∨ gt (cntL T) j = 2
 m6 : Win (cntL T) ↔ (spl 15 T false = true ∨ c2N (cntL T) = 7)
section
noncomputable def dfl : List Int := [2, 5, 3, 16, 9, 30, 0, 85, 1, 7, 3]
noncomputable def stL (j : Nat) : Stmt := (dBody 14 1000).getD j (.Pass pos0)
noncomputable def is4 (h : List Int) : AV → Bool
 | .int z => gt h z == 4
 | _ => false
theorem max_if {a b : Int} : max a b = if b > a then b else a := by split <;> lia
noncomputable def hon7 : List Int := (List.range 7).map fun i : Nat => 27 + (i : Int)
theorem rng_h7 : rangeFrom 27 1 7 = hon7.map AV.int := by rfl
theorem h7_rng : ∀ x ∈ hon7, 27 ≤ x ∧ x < 34 := by decide
theorem h7_mem {x : Int} (h0 : 27 ≤ x) (h1 : x < 34) : x ∈ hon7 := by
 have : ∀ i : Fin 7, 27 + (i.1 : Int) ∈ hon7 := by decide
 have := this ⟨(x - 27).toNat, by lia⟩
 rwa [show 27 + (((x - 27).toNat : Nat) : Int) = x by lia] at this
noncomputable def is0 (h : List Int) : AV → Bool
 | .int z => gt h z == 0
 | _ => false
noncomputable def cfW (x : Loc) : Loc := x.filter fun p => List.lookup p.1 ([(".0", .local), ("count", .local)] : List (Str × NameKind)) == some .free
noncomputable def is2 : AV → Bool
 | .int z => z == 2
 | _ => false
noncomputable abbrev aeLa (k N : Nat) (x : Loc) : Loc := ("script", .ref k) :: ("numbers", .ref N) :: x
noncomputable abbrev aeLb (k N t : Nat) (n : Int) (c b4 : Nat) (s : Bool) (x : Loc) : Loc := aeLa k N (("tiles", .ref t) :: ("size", .int n) :: ("counts", .ref c) :: ("before", .ref b4) :: ("splits", .bool s) :: x)
noncomputable abbrev aeLc (k N t : Nat) (n : Int) (c b4 : Nat) (s : Bool) (r4 r3 dd : Int) (x : Loc) : Loc := aeLb k N t n c b4 s (("four", .int r4) :: ("three", .int r3) :: ("dead", .int dd) :: x)
theorem clip_eq {a b : Nat} : PySem.clipAt a b = min b a := by
 unfold PySem.clipAt
 rw [if_neg (Int.not_lt.mpr (Int.natCast_nonneg _))]
 by_cases q : b ≤ a
 ·rw [Int.min_eq_left (by exact_mod_cast q), Nat.min_eq_left q, Int.max_eq_right (Int.natCast_nonneg _), Int.toNat_natCast]
 ·have q := Nat.le_of_not_le q
  rw [Int.min_eq_right (by exact_mod_cast q), Nat.min_eq_right q, Int.max_eq_right (Int.natCast_nonneg _), Int.toNat_natCast]
theorem clip_sc {n : Nat} {sc : List Int} : (sc.take (PySem.clipAt sc.length n)).length = min n sc.length := by
 rw [List.length_take, clip_eq, Nat.min_assoc, Nat.min_self]
theorem clip_d {D : List Int} {n k : Nat} (h : D.length = n) : ((D.drop (PySem.clipAt n k)).take (n - PySem.clipAt n k)).length = n - min k n := by
 rw [List.length_take, List.length_drop, clip_eq, h, Nat.min_self]
section
variable {σ : Sto} {k : Nat}
set_option maxHeartbeats 2000000 in
theorem lw_numbers {call : Addr → List AV → Sto → XE} {sc : List Int} (e : σ[k]? = some ⟨false, .list (sc.map AV.int)⟩) (hs : sc.length ≤ 63) :
  execS XW call 40 (dScope 14 1000) (stL 0) ([("script", .ref k)] : Loc) σ fun fl ae τ => fl = .next ∧ ∃ N τ1 NL, ae = aeLa k N [] ∧ τ = σ ++ τ1 ∧ τ[N]? = some ⟨true, .list (NL.map AV.int)⟩ ∧ (NL : List Int).length = 11 := by
 refine sl_i e 0 (PySem.clipAt sc.length 11) (by rw [List.length_map]; lia) rfl (by rw [List.length_map]; rfl) ?_
 rw [List.drop_zero, Nat.sub_zero, ← List.map_take]
 have hA := clip_sc (n := 11) (sc := sc)
 have hA2 : (sc.take (PySem.clipAt sc.length 11)).length ≤ 63 := Nat.le_trans (List.length_take_le' ..) hs
 generalize sc.take (PySem.clipAt sc.length 11) = A at hA hA2 ⊢
 refine wLst_i (old_app (old_app e)) ?_
 refine wG_i (by rw [List.length_map]; lia) ?_
 rw [List.length_map]
 refine sl_i (xs := dfl.map AV.int) mid_get (PySem.clipAt 11 sc.length) 11 (by decide) rfl rfl ?_
 rw [← List.map_drop, ← List.map_take]
 refine wLst_i (old_app (old_app mid_get)) ?_
 refine wLst_new ?_
 have hB := clip_d (D := dfl) (n := 11) rfl (k := sc.length)
 generalize (dfl.drop (PySem.clipAt 11 sc.length)).take (11 - PySem.clipAt 11 sc.length) = B at hB ⊢
 refine wG_i (by rw [List.length_map, List.length_map]; lia) ?_
 rw [← List.map_append]
 refine ⟨rfl, _, _, _, rfl, (by rw [List.append_assoc, List.append_assoc, List.append_assoc]), mid_get, ?_⟩
 rw [List.length_append, hA, hB]
 lia
set_option maxHeartbeats 2000000 in
theorem lw_4 {N t c b4 : Nat} {T : List Int} {r3 r4 : Int} {x : Loc} (ec : σ[c]? = some ⟨true, .list ((cntL T).map AV.int)⟩) (eb : σ[b4]? = some ⟨true, .list ((cntL T).map AV.int)⟩) (F : LF T r3 r4) {KK : KS} (hk : ∀ ae τ, KK (.ret (.bool true)) ae τ) :
  seqA (execS XW (callA XW 58) 40 (dScope 14 1000)) ((dBody 14 1000).drop 15) (aeLc k N t T.length c b4 (spl 15 T false) r4 r3 (deadV T.length (cntL T)) x) σ KK := by
 have hlen := cntL_len F.t3.rng
 refine s_mid (fun a τ => (∃ τ1, τ = σ ++ τ1) ∧ a = aeLc k N t T.length c b4 (spl 15 T false) r4 r3 (deadV T.length (cntL T)) (putField "won" (.bool (spl 15 T false || c2N (cntL T) == 7)) x)) ?_ ?_
 ·cases hs : spl 15 T false with
  | true =>
   refine wIf_t ?_
   exact ⟨rfl, ⟨[], (List.append_nil _).symm⟩, rfl⟩
  | false =>
   refine wIf_f ?_
   refine lIter.mk (wAt_i ec ?_)
   refine comp_rule (n := 33) (ae0 := cfW x) (aeX := fun v => putField "count" v (cfW x)) (vs := (cntL T).map AV.int) (t := is2 ) (g := id) (show ItIs σ (.list c 0) ((cntL T).map AV.int) from ⟨_, _, ec, rfl⟩) (by rw [List.length_map, hlen]; decide) (by rfl) (fun v => rfl) (fun u v => put_put (n := "count") (u := u) (v := v) (x := cfW x)) (by rw [List.length_map, hlen]; decide) ?_ ?_ ?_
   ·intro v hv acc γ K hK
    obtain ⟨y, hy, rfl⟩ := List.mem_map.mp hv
    refine nm_i (lk_self : (putField "count" (AV.int y) (cfW x)).lookup ("count" : Str) = some (AV.int y)) ?_
    refine wIf_beqI ?_
    rw [show is2 (AV.int y) = (y == 2) from rfl] at hK
    refine if_split (fun q => ?_) (fun q => ?_)
    ·rw [beq_iff_eq.mpr q] at hK; exact hK
    ·rw [beq_eq_false_iff_ne.mpr q] at hK; exact hK
   ·intro v hv _ acc γ K hK
    refine nm_i (lk_self : (putField "count" v (cfW x)).lookup ("count" : Str) = some v) ?_
    exact hK γ
   ·intro _ γ
    refine wLst_mid ?_
    have hd : ((List.map id (List.filter is2 ((cntL T).map AV.int))).length : Int) = c2N (cntL T) := by
     rw [List.map_id, List.filter_map, List.length_map]; rfl
    refine wG_i (by rw [List.map_id]; exact Nat.le_trans (List.length_filter_le ..) (by rw [List.length_map, hlen]; decide)) ?_
    rw [hd]
    exact ⟨rfl, ⟨_, rfl⟩, rfl⟩
 rintro _ _ ⟨⟨τ1, rfl⟩, rfl⟩
 refine s_cons ?_
 refine res_con (by rfl) ?_
 refine c230 (n := 55) (old_app ec) hlen F.h4 F.pr F.tw fun r τ hr => ?_
 have hw := F.m6
 refine nm_i (lk_self : (putField "won" (AV.bool (spl 15 T false || c2N (cntL T) == 7)) x).lookup ("won" : Str) = some (AV.bool (spl 15 T false || c2N (cntL T) == 7))) ?_
 have hrw : r = (spl 15 T false || c2N (cntL T) == 7) := by
  rw [Bool.eq_iff_iff, hr, hw, Bool.or_eq_true, beq_iff_eq]
 rw [← hrw]
 refine wIf_i (fun _ => ?_) (fun q => absurd q (by simp))
 refine wLst_i (old_app (old_app ec)) ?_
 refine wLst_i (old_app (old_app eb)) ?_
 refine wInts_i ?_
 refine wInts_i ?_
 show KK (Fl.ret (AV.bool (cntL T == cntL T))) _ _
 rw [beq_self_eq_true]
 exact hk _ _
end
end
section
section
variable {σ : Sto} {k : Nat}
noncomputable abbrev sL (j : Nat) : List Stmt := (dBody 14 1000).drop j
noncomputable abbrev goL (l : List Stmt) (ae : Loc) (σ : Sto) (KK : KS) : Prop := seqA (execS XW (callA XW 58) 40 (dScope 14 1000)) l ae σ KK
set_option maxHeartbeats 2000000 in
theorem lw_moved {NL : List Int} {N t c b4 : Nat} {T : List Int} {n r3 r4 dv : Int} {b sp : Bool} (h0 : σ[0]? = some ⟨false, .list (loneI.map AV.int)⟩) (eN : σ[N]? = some ⟨b, .list (NL.map AV.int)⟩) (hN : NL.length = 11) (eT : σ[t]? = some ⟨true, .list (T.map AV.int)⟩) (l14 : T.length ≤ 14)
  (hm : ∀ tm sh ex, tm ∈ ([1, 2, 4, 5, 7, 8] : List Int) → R3Is (T.map (mvV tm sh ex)) r3) {KK : KS} (hk : ∀ τ mv, goL (sL 13) (aeLc k N t n c b4 sp r4 r3 dv [("moved", .ref mv)]) (σ ++ τ) KK) :
  goL (sL 11) (aeLc k N t n c b4 sp r4 r3 dv []) σ KK := by
 have h11 := l11 hN
 refine s_mid (fun a τ => (∃ τ1, τ = σ ++ τ1) ∧ ∃ mv M, a = aeLc k N t n c b4 sp r4 r3 dv [("moved", .ref mv)] ∧ R3Is M r3 ∧ M.length ≤ 14 ∧ τ[mv]? = some ⟨true, .list (M.map AV.int)⟩) ?_ ?_
 ·refine c278 ?_
  obtain ⟨f0, f1⟩ := fm (x := gt NL 9) (k := 6) (by decide)
  refine it_any (old_app eN) h11 (by decide) (i11 hN (by decide)) ?_
  refine wG_i (by decide) ?_
  refine it_any (l := [1, 2, 4, 5, 7, 8]) mid_get (by decide) f0 f1 ?_
  have htm : gt [1, 2, 4, 5, 7, 8] ((gt NL 9).fmod 6) ∈ ([1, 2, 4, 5, 7, 8] : List Int) := any_of f0 f1
  have t8 : ∀ x ∈ ([1, 2, 4, 5, 7, 8] : List Int), 0 ≤ x ∧ x ≤ 8 := by decide
  generalize gt [1, 2, 4, 5, 7, 8] ((gt NL 9).fmod 6) = tm at htm ⊢
  refine it_any (old_app eN) h11 (by decide) (i11 hN (by decide)) ?_
  refine wG_i (by decide) ?_
  refine it_any (old_app eN) h11 (by decide) (i11 hN (by decide)) ?_
  refine wG_i (by decide) ?_
  refine c311 (old_app h0) (old_app eT) (Nat.le_trans l14 (by decide)) (t8 _ htm) fun r τ er => ?_
  exact ⟨rfl, ⟨_, List.append_assoc ..⟩, r, _, rfl, hm _ _ _ htm, by rw [List.length_map]; exact l14, er⟩
 clear h0 eN eT hm
 rintro _ _ ⟨⟨τ1, rfl⟩, mv, M, rfl, ⟨vr, vl, vn, vsum, vhz, vreg⟩, lM, emv⟩
 refine s_mid (fun a τ => (∃ τ2, τ = σ ++ τ2) ∧ a = aeLc k N t n c b4 sp r4 r3 dv [("moved", .ref mv)]) ?_ ?_
 ·refine res_con (by rfl) ?_
  refine c304 emv vr (Nat.le_trans lM (by decide)) fun r τ er => ?_
  refine c75 (k := 53) (z := true) (args := [.ref r, .bool true]) (by rfl) er (cntL_len vr) vsum (by exact_mod_cast lM) vn (fun _ => vhz) vreg fun τ' => ?_
  refine wIf_bneI ?_
  rw [if_neg (fun c => c rfl)]
  exact ⟨rfl, ⟨_, by rw [List.append_assoc, List.append_assoc]⟩, rfl⟩
 rintro _ _ ⟨⟨τ2, rfl⟩, rfl⟩
 exact hk τ2 mv
set_option maxHeartbeats 2000000 in
theorem lw_free {N t c b4 mv : Nat} {C : List Int} {n r3 r4 dv : Int} {sp : Bool} (ec : σ[c]? = some ⟨true, .list (C.map AV.int)⟩) (hC : C.length = 34) {KK : KS} (hk : ∀ τ fr, (σ ++ τ)[fr]? = some ⟨true, .list ((hon7.filter fun z => gt C z == 0).map AV.int)⟩ → goL (sL 14) (aeLc k N t n c b4 sp r4 r3 dv [("moved", .ref mv), ("free", .ref fr)]) (σ ++ τ) KK) :
  goL (sL 13) (aeLc k N t n c b4 sp r4 r3 dv [("moved", .ref mv)]) σ KK := by
 refine s_mid (fun a τ => (∃ τ2, τ = σ ++ τ2) ∧ ∃ fr, a = aeLc k N t n c b4 sp r4 r3 dv [("moved", .ref mv), ("free", .ref fr)] ∧ τ[fr]? = some ⟨true, .list ((hon7.filter fun z => gt C z == 0).map AV.int)⟩) ?_ ?_
 ·refine lIter.mk (wAt_new ?_)
  refine wG_i (by decide) ?_
  refine comp_rule (n := 37) (ae0 := [("counts", .ref c)]) (aeX := fun v => [("counts", .ref c), ("kind", v)]) (vs := hon7.map AV.int) (t := is0 C) (g := id) (show ItIs (σ ++ [⟨true, .range 27 34 1⟩]) (.rng 27 7 1) (hon7.map AV.int) from rng_h7) (by decide) (by rfl) (fun v => rfl) (fun u v => rfl) (by decide) ?_ ?_ ?_
  ·intro v hv acc γ K hK
   obtain ⟨y, hy, rfl⟩ := List.mem_map.mp hv
   obtain ⟨y0, y1⟩ := h7_rng y hy
   refine it_list (old_app (old_app ec)) hC (Int.le_trans (by decide) y0) y1 ?_
   refine wIf_beqI ?_
   rw [show is0 C (AV.int y) = (gt C y == 0) from rfl] at hK
   refine if_split (fun q => ?_) (fun q => ?_)
   ·rw [beq_iff_eq.mpr q] at hK; exact hK
   ·rw [beq_eq_false_iff_ne.mpr q] at hK; exact hK
  ·intro v hv _ acc γ K hK
   exact hK γ
  ·intro _ γ
   have hd : List.map id (List.filter (is0 C) (List.map AV.int hon7)) = (hon7.filter fun z => gt C z == 0).map AV.int := by
    rw [List.map_id, List.filter_map]; rfl
   rw [hd]
   exact ⟨rfl, ⟨_, List.append_assoc ..⟩, _, rfl, mid_get⟩
 rintro _ _ ⟨⟨τ3, rfl⟩, fr, rfl, efr⟩
 exact hk τ3 fr efr
set_option maxHeartbeats 2000000 in
theorem lw_more {NL FL : List Int} {N t c b4 mv fr : Nat} {T : List Int} {r3 r4 dv : Int} {b sp : Bool} (eN : σ[N]? = some ⟨b, .list (NL.map AV.int)⟩) (hN : NL.length = 11) (eT : σ[t]? = some ⟨true, .list (T.map AV.int)⟩) (efr : σ[fr]? = some ⟨true, .list (FL.map AV.int)⟩) (hFl : FL.length ≤ 7)
  (hF : T.length ≤ 11 → FL ≠ [] ∧ ∀ f ∈ FL, R3Is (T ++ List.replicate 3 f) r3) {KK : KS} (hk : ∀ τ x, goL (sL 15) (aeLc k N t T.length c b4 sp r4 r3 dv x) (σ ++ τ) KK) :
  goL (sL 14) (aeLc k N t T.length c b4 sp r4 r3 dv [("moved", .ref mv), ("free", .ref fr)]) σ KK := by
 refine s_mid (fun a τ => (∃ τ4, τ = σ ++ τ4) ∧ ∃ x, a = aeLc k N t T.length c b4 sp r4 r3 dv x) ?_ ?_
 ·refine wIf_decI ?_
  refine if_split (fun q => ?_) (fun q => ?_)
  ·have q : T.length ≤ 11 := by exact_mod_cast q
   obtain ⟨hne, hR⟩ := hF q
   have hFp : 0 < FL.length := List.length_pos_iff.mpr hne
   obtain ⟨f0, f1⟩ := fm (x := gt NL 10) (k := (FL.length : Int)) (by exact_mod_cast hFp)
   obtain ⟨ur, ul, un, usum, uhz, ureg⟩ := hR _ (any_of f0 f1)
   have l7 : FL.length ≤ 100000 := Nat.le_trans hFl (by decide)
   clear hR hF hFl hne
   refine s_mid (fun a τ => (∃ τ4, τ = σ ++ τ4) ∧ ∃ mo, a = aeLc k N t T.length c b4 sp r4 r3 dv [("moved", .ref mv), ("free", .ref fr), ("more", .ref mo)] ∧ τ[mo]? = some ⟨true, .list ((cntL (T ++ List.replicate 3 (gt FL ((gt NL 10).fmod FL.length)))).map AV.int)⟩) ?_ ?_
   ·refine it_any eN (l11 hN) (by decide) (i11 hN (by decide)) ?_
    refine wLst_i efr ?_
    refine wG_i (by rw [List.length_map]; exact l7) ?_
    refine wG_i (by rw [List.length_map]; exact_mod_cast Nat.ne_of_gt hFp) ?_
    rw [List.length_map]
    refine it_any efr l7 f0 f1 ?_
    generalize gt FL ((gt NL 10).fmod FL.length) = f at ur ⊢
    refine wLst_new ?_
    refine wG_i ⟨by show 1 * 3 ≤ 100000; decide, by decide⟩ ?_
    refine wLst_i (old_app (old_app eT)) ?_
    refine wLst_new ?_
    refine wG_i (by rw [List.length_map]; show T.length + 3 ≤ 100000; lia) ?_
    rw [rep3, ← List.map_append]
    refine c304 mid_get ur (by rw [List.length_append, List.length_replicate]; lia) fun r τ er => ?_
    exact ⟨rfl, ⟨_, by rw [List.append_assoc, List.append_assoc, List.append_assoc]⟩, r, rfl, er⟩
   clear eN eT efr
   rintro _ _ ⟨⟨τ4, rfl⟩, mo, rfl, emo⟩
   generalize T ++ List.replicate 3 (gt FL ((gt NL 10).fmod FL.length)) = U at *
   refine s_cons ?_
   refine res_con (by rfl) ?_
   refine c75 (k := 53) (z := true) (args := [.ref mo, .bool true]) (by rfl) emo (cntL_len ur) usum (by exact_mod_cast ul) un (fun _ => uhz) ureg fun τ' => ?_
   refine wIf_bneI ?_
   rw [if_neg (fun c => c rfl)]
   exact ⟨rfl, ⟨_, List.append_assoc ..⟩, _, rfl⟩
  ·exact ⟨rfl, ⟨[], (List.append_nil _).symm⟩, _, rfl⟩
 rintro _ _ ⟨⟨τ4, rfl⟩, x, rfl⟩
 exact hk τ4 x
theorem lw_3 {NL : List Int} {N t c b4 : Nat} {T : List Int} {r3 r4 : Int} {b : Bool} (h0 : σ[0]? = some ⟨false, .list (loneI.map AV.int)⟩) (eN : σ[N]? = some ⟨b, .list (NL.map AV.int)⟩) (hN : NL.length = 11) (eT : σ[t]? = some ⟨true, .list (T.map AV.int)⟩)
  (ec : σ[c]? = some ⟨true, .list ((cntL T).map AV.int)⟩) (eb : σ[b4]? = some ⟨true, .list ((cntL T).map AV.int)⟩) (F : LF T r3 r4) {KK : KS} (hk : ∀ ae τ, KK (.ret (.bool true)) ae τ) :
  goL (sL 11) (aeLc k N t T.length c b4 (spl 15 T false) r4 r3 (deadV T.length (cntL T)) []) σ KK := by
 refine lw_moved h0 eN hN eT F.t3.len (fun tm sh ex h => F.m3 tm sh ex h) fun τ mv => ?_
 refine lw_free (old_app ec) (cntL_len F.t3.rng) fun τ2 fr efr => ?_
 refine lw_more (old_app (old_app eN)) hN (old_app (old_app eT)) efr (List.length_filter_le ..) (fun q => ?_) fun τ3 x => ?_
 ·obtain ⟨f, hf0, hf1, hf2⟩ := F.m5 q
  refine ⟨List.ne_nil_of_mem (List.mem_filter.mpr ⟨h7_mem hf0 hf1, beq_iff_eq.mpr hf2⟩), fun z hz => ?_⟩
  obtain ⟨z1, z2⟩ := List.mem_filter.mp hz
  obtain ⟨z3, z4⟩ := h7_rng z z1
  exact F.m4 q z z3 z4 (beq_iff_eq.mp z2)
 ·exact lw_4 (old_app (old_app (old_app ec))) (old_app (old_app (old_app eb))) F hk
set_option maxHeartbeats 2000000 in
theorem lw_2 {NL : List Int} {N t c b4 : Nat} {T : List Int} {r3 r4 : Int} {b : Bool} (h0 : σ[0]? = some ⟨false, .list (loneI.map AV.int)⟩) (eN : σ[N]? = some ⟨b, .list (NL.map AV.int)⟩) (hN : NL.length = 11) (eT : σ[t]? = some ⟨true, .list (T.map AV.int)⟩)
  (ec : σ[c]? = some ⟨true, .list ((cntL T).map AV.int)⟩) (eb : σ[b4]? = some ⟨true, .list ((cntL T).map AV.int)⟩) (F : LF T r3 r4) {KK : KS} (hk : ∀ ae τ, KK (.ret (.bool true)) ae τ) :
  seqA (execS XW (callA XW 58) 40 (dScope 14 1000)) ((dBody 14 1000).drop 8) (aeLb k N t T.length c b4 (spl 15 T false) [("four", .int r4), ("three", .int r3)]) σ KK := by
 have hlen := cntL_len F.t3.rng
 refine s_mid (fun a τ => (∃ τ1, τ = σ ++ τ1) ∧ a = aeLc k N t T.length c b4 (spl 15 T false) r4 r3 (deadN (cntL T)) []) ?_ ?_
 ·refine lIter.mk (wAt_i h0 ?_)
  refine comp_rule (n := 36) (ae0 := [("counts", .ref c)]) (aeX := fun v => [("counts", .ref c), ("kind", v)]) (vs := loneI.map AV.int) (t := is4 (cntL T)) (g := id) (show ItIs σ (.list 0 0) (loneI.map AV.int) from ⟨_, _, h0, rfl⟩) (by decide) (by rfl) (fun v => rfl) (fun u v => rfl) (by decide) ?_ ?_ ?_
  ·intro v hv acc γ K hK
   obtain ⟨y, hy, rfl⟩ := List.mem_map.mp hv
   obtain ⟨y0, y1⟩ := kd_range (.inl hy)
   refine it_list (old_app ec) hlen y0 y1 ?_
   refine wIf_beqI ?_
   rw [show is4 (cntL T) (AV.int y) = (gt (cntL T) y == 4) from rfl] at hK
   refine if_split (fun q => ?_) (fun q => ?_)
   ·rw [beq_iff_eq.mpr q] at hK; exact hK
   ·rw [beq_eq_false_iff_ne.mpr q] at hK; exact hK
  ·intro v hv _ acc γ K hK
   exact hK γ
  ·intro _ γ
   refine wLst_mid ?_
   have hd : ((List.map id (List.filter (is4 (cntL T)) (List.map AV.int loneI))).length : Int) = deadN (cntL T) := by
    rw [List.map_id, List.filter_map, List.length_map]; rfl
   refine wG_i (by rw [List.map_id]; exact Nat.le_trans (List.length_filter_le ..) (by decide)) ?_
   rw [hd]
   exact ⟨rfl, ⟨_, rfl⟩, rfl⟩
 rintro _ _ ⟨⟨τ1, rfl⟩, rfl⟩
 refine s_mid (fun a τ => σ ++ τ1 = τ ∧ a = aeLc k N t T.length c b4 (spl 15 T false) r4 r3 (deadV T.length (cntL T)) []) ?_ ?_
 ·refine wG_i (by decide) ?_
  refine wIf_beqI ?_
  unfold deadV
  refine if_split (fun q => ?_) (fun q => ?_)
  ·rw [if_pos q]
   refine s_cons ?_
   refine ⟨rfl, rfl, ?_⟩
   rw [max_if]
   rfl
  ·rw [if_neg q]
   refine s_nil ?_
   exact ⟨rfl, rfl, rfl⟩
 rintro _ _ ⟨rfl, rfl⟩
 have g1 : ((r3 == -1) != spl 15 T false) = false := by
  have := F.m1
  by_cases q : r3 = -1
  ·rw [beq_iff_eq.mpr q, this.mpr q]; rfl
  ·rw [beq_eq_false_iff_ne.mpr q, Bool.eq_false_iff.mpr fun c => q (this.mp c)]; rfl
 have m2 := F.m2
 refine s_mid (fun a τ => σ ++ τ1 = τ ∧ a = aeLc k N t T.length c b4 (spl 15 T false) r4 r3 (deadV T.length (cntL T)) []) ?_ ?_
 ·refine wIf_i (fun q => absurd q (by rw [g1]; decide)) (fun _ => ?_)
  refine wIf_beqI ?_
  refine if_split (fun q => ?_) (fun q => ?_)
  ·rw [if_pos q] at m2
   refine wIf_bneI ?_
   rw [if_neg (by lia)]
   refine wIf_f ?_
   exact ⟨rfl, rfl, rfl⟩
  ·rw [if_neg q, max_if] at m2
   refine wIf_bneI ?_
   refine if_split (fun q2 => absurd m2 q2) (fun q2 => ?_)
   refine wIf_f ?_
   exact ⟨rfl, rfl, rfl⟩
 rintro _ _ ⟨rfl, rfl⟩
 exact lw_3 (old_app h0) (old_app eN) hN (old_app eT) (old_app ec) (old_app eb) F hk
set_option maxHeartbeats 2000000 in
theorem lw_rest {sc NL : List Int} {N t m : Nat} {T : List Int} {r3 r4 : Int} {b : Bool} (h0 : σ[0]? = some ⟨false, .list (loneI.map AV.int)⟩) (eN : σ[N]? = some ⟨b, .list (NL.map AV.int)⟩) (hN : NL.length = 11) (eT : σ[t]? = some ⟨true, .list (T.map AV.int)⟩) (F : LF T r3 r4) {KK : KS} (hk : ∀ ae τ, KK (.ret (.bool true)) ae τ) :
  seqA (execS XW (callA XW 58) 40 (dScope 14 1000)) ((dBody 14 1000).drop 2) (aeLa k N [("tiles", .ref t)]) σ KK := by
 obtain ⟨tr, tl, tn, tsum, thz, treg⟩ := F.t3
 have hlen := cntL_len tr
 refine s_cons ?_
 refine wLst_i eT ?_
 refine wG_i (by rw [List.length_map]; lia) ?_
 simp only [List.length_map]
 refine s_cons ?_
 refine c304 eT tr (by lia) fun c τ1 ec => ?_
 have eT1 : (σ ++ τ1)[t]? = some ⟨true, .list (T.map AV.int)⟩ := old_app eT
 refine s_cons ?_
 refine sl_i ec 0 34 (by rw [List.length_map, hlen]; decide) rfl (by rw [List.length_map, hlen]; rfl) ?_
 rw [List.drop_zero, Nat.sub_zero, List.take_of_length_le (by rw [List.length_map, hlen]; decide)]
 refine s_cons ?_
 refine c297 14 43 T false _ t true _ (by lia) (by decide) (old_app eT1) fun τ2 => ?_
 refine s_cons ?_
 have ec2 : (σ ++ τ1 ++ [⟨true, .list ((cntL T).map AV.int)⟩] ++ τ2 : Sto)[c]? = some ⟨true, .list ((cntL T).map AV.int)⟩ := old_app (old_app ec)
 refine res_con (by rfl) ?_
 refine c75 (k := 53) (z := false) (args := [.ref c]) (by rfl) ec2 hlen tsum (by lia) tn (fun c => by cases c) F.t4 fun τ3 => ?_
 refine s_cons ?_
 refine res_con (by rfl) ?_
 refine c75 (k := 53) (z := true) (args := [.ref c, .bool true]) (by rfl) (old_app ec2) hlen tsum (by lia) tn (fun _ => thz) treg fun τ4 => ?_
 have eb : (σ ++ τ1 ++ [⟨true, .list ((cntL T).map AV.int)⟩] ++ τ2 ++ τ3 ++ τ4 : Sto)[(σ ++ τ1 : Sto).length]? = some ⟨true, .list ((cntL T).map AV.int)⟩ := old_app (old_app (old_app mid_get))
 have ec4 : (σ ++ τ1 ++ [⟨true, .list ((cntL T).map AV.int)⟩] ++ τ2 ++ τ3 ++ τ4 : Sto)[c]? = some ⟨true, .list ((cntL T).map AV.int)⟩ := old_app (old_app ec2)
 have eT4 : (σ ++ τ1 ++ [⟨true, .list ((cntL T).map AV.int)⟩] ++ τ2 ++ τ3 ++ τ4 : Sto)[t]? = some ⟨true, .list (T.map AV.int)⟩ := old_app (old_app (old_app (old_app eT1)))
 have h04 : (σ ++ τ1 ++ [⟨true, .list ((cntL T).map AV.int)⟩] ++ τ2 ++ τ3 ++ τ4 : Sto)[0]? = some ⟨false, .list (loneI.map AV.int)⟩ := old_app (old_app (old_app (old_app (old_app h0))))
 have eN4 : (σ ++ τ1 ++ [⟨true, .list ((cntL T).map AV.int)⟩] ++ τ2 ++ τ3 ++ τ4 : Sto)[N]? = some ⟨b, .list (NL.map AV.int)⟩ := old_app (old_app (old_app (old_app (old_app eN))))
 exact lw_2 h04 eN4 hN eT4 ec4 eb F hk
end
end
set_option maxHeartbeats 8000000 in
theorem joined (h : WalkO qW looseN (fun _ _ => True) YPW PySem.Challenge.rw_im0120_11.row.toRowW recLaw [] fun f vs => PySem.call f vs) : PySem.Challenge.rw_im0120_11.Holds := by
 w_on
 refine holds_law (by decide +kernel) fun said => ?_
 refine PySem.W.holds_open (r := PySem.Challenge.rw_im0120_11.row) (q := qW) (loose := looseN) (Xt := XtW) (XP := fun _ _ => True) (Yf := YfW) (Ya := YW) (YP := YPW) (d := recLaw) (kwd := []) (N := 4000) leftW ypW ypW_keeps (fun _ _ => trivial) (fun _ _ _ _ _ => trivial) (by rfl) (by rfl) (by rfl)
  (fun s _ => recFacts_nil rfl) (by decide +kernel) (by first | assumption | decide +kernel) (by decide +kernel) ⟨rfl, rfl, rfl, rfl, rfl, by decide +kernel⟩ ?hw h
 case hw => w_witness2
theorem law_of (hp : ∀ (σ : Sto) (k : Nat) (sc : List Int), σ[0]? = some ⟨false, .list (loneI.map .int)⟩ → σ[k]? = some ⟨false, .list (sc.map .int)⟩ → sc.length ≤ 63 → callA XW 59 316 [.ref k] σ fun v _ => v = .bool true) :
  PySem.Challenge.rw_im0120_11.Holds := joined (walkW hp)
set_option maxHeartbeats 2000000 in
theorem law_walk (hF : ∀ (T : List Int) (m : Nat), 1 ≤ m → m ≤ 4 → (T.length = 3 * m + 2 ∨ T.length = 3 * m + 1) → HK T (m + 3) → T.Pairwise (· ≤ ·) → ∃ r3 r4, LF T r3 r4) : PySem.Challenge.rw_im0120_11.Holds := by
 refine law_of fun σ k sc h0 e hs => ?_
 refine call_of (fn := fnAt 14 1000 []) (ae := [("script", .ref k)]) (by rfl) ?_
 refine s_mid _ (lw_numbers e hs) ?_
 rintro _ _ ⟨N, τ1, NL, rfl, rfl, eN, hN⟩
 refine s_cons ?_
 refine c290 (n := 56) (old_app h0) eN hN fun r τ T m m1 m4 hl hk hp er => ?_
 obtain ⟨r3, r4, F⟩ := hF T m m1 m4 hl hk hp
 exact lw_rest (k := k) (sc := sc) (m := m) (old_app (old_app h0)) (old_app eN) hN er F fun _ _ => rfl
set_option tactic.hygienic false
section
theorem cntL_sum : ∀ (T c : List Int), c.length = 34 → (∀ x ∈ T, 0 ≤ x ∧ x < 34) → (T.foldl (fun c k => stl c k (gt c k + 1)) c).sum = c.sum + T.length
 | [], c, _, _ => by simp
 | x :: T, c, hc, h => by
  obtain ⟨h0, h1⟩ := h x (List.mem_cons_self ..)
  rw [List.foldl_cons, cntL_sum T _ (len_stl hc) fun y hy => h y (List.mem_cons_of_mem _ hy)]
  unfold stl gt
  rw [sum_set (by lia -abstractProof), List.length_cons]
  lia -abstractProof
theorem gt_map {h : List Int} (hl : h.length = 34) : h = (List.range 34).map fun i : Nat => gt h (i : Int) := by
 apply List.ext_getElem
 ·simp [hl]
 ·intro i h1 h2
  rw [List.getElem_map, List.getElem_range]
  unfold gt
  rw [Int.toNat_natCast, List.getD_eq_getElem?_getD, List.getElem?_eq_getElem h1, Option.getD_some]
theorem b2_sum : ∀ l : List Int, (l.map fun c => b2iA (c == 2)).sum = (l.filter fun c => c == 2).length
 | [] => rfl
 | c :: l => by
  rw [List.map_cons, List.sum_cons, b2_sum l, List.filter_cons]
  cases c == 2
  ·show 0 + _ = _; simp
  ·show 1 + _ = _; simp; lia -abstractProof
theorem two_c2 {h : List Int} (hl : h.length = 34) : twoV h = c2N h := by
 unfold c2N
 rw [← b2_sum]
 conv => rhs; rw [gt_map hl, List.map_map]
 rfl
theorem two_all : ∀ l : List Int, (∀ c ∈ l, 0 ≤ c) → 2 * ((l.filter fun c => c == 2).length : Int) ≤ l.sum ∧ (l.sum ≤ 2 * ((l.filter fun c => c == 2).length : Int) → ∀ c ∈ l, c = 0 ∨ c = 2)
 | [], _ => ⟨by simp, fun _ c h => by cases h⟩
 | c :: l, h => by
  obtain ⟨a, b⟩ := two_all l fun x hx => h x (List.mem_cons_of_mem _ hx)
  have c0 := h c (List.mem_cons_self ..)
  rw [List.sum_cons, List.filter_cons]
  by_cases q : c = 2
  ·subst q
   rw [if_pos (by decide), List.length_cons]
   refine ⟨by lia -abstractProof, fun hs x hx => ?_⟩
   rcases List.mem_cons.mp hx with rfl | hx
   ·exact .inr rfl
   ·exact b (by lia -abstractProof) x hx
  ·rw [if_neg (by simpa using q)]
   refine ⟨by lia -abstractProof, fun hs x hx => ?_⟩
   rcases List.mem_cons.mp hx with rfl | hx
   ·exact .inl (by lia -abstractProof)
   ·exact b (by lia -abstractProof) x hx
section
variable {T : List Int} {B : Nat} (h : HK T B)
include h
theorem hk_rng : ∀ x ∈ T, 0 ≤ x ∧ x < 34 := fun x hx => kd_range (h.kd x hx)
theorem hk_sum : (cntL T).sum = T.length := by
 have := cntL_sum T z34 rfl (hk_rng h)
 rw [show z34.sum = 0 by decide, Int.zero_add] at this
 exact this
theorem hk_len : (cntL T).length = 34 := cntL_len (hk_rng h)
theorem hk_gt {j : Int} (hj : 0 ≤ j) : gt (cntL T) j = (T.count j : Nat) := cntL_gt (hk_rng h) hj
theorem hk_zero {j : Int} (hj : 0 ≤ j) (hn : j ∉ T) : gt (cntL T) j = 0 := by rw [hk_gt h hj, List.count_eq_zero.mpr hn]; rfl
theorem hk_h4 : H4 (cntL T) := fun j => by
 have : gt (cntL T) j = gt (cntL T) (j.toNat : Nat) := by unfold gt; rw [Int.toNat_natCast]
 rw [this, hk_gt h (Int.natCast_nonneg _)]
 have := h.c4 (j.toNat : Nat)
 lia -abstractProof
theorem hk_nn : ∀ c ∈ cntL T, 0 ≤ c := fun c hc => by
 rw [gt_map (hk_len h)] at hc
 obtain ⟨i, _, rfl⟩ := List.mem_map.mp hc
 exact (hk_h4 h i).1
theorem hk_hz : ((cntL T).drop 1).take 7 = [0, 0, 0, 0, 0, 0, 0] := by
 have hl : (((cntL T).drop 1).take 7).length = 7 := by rw [List.length_take, List.length_drop, hk_len h]; rfl
 have hz : ∀ i : Nat, i < 7 → (((cntL T).drop 1).take 7).getD i 0 = 0 := fun i hi => by
  have : (((cntL T).drop 1).take 7).getD i 0 = gt (cntL T) ((i : Int) + 1) := by
   unfold gt
   rw [show ((i : Int) + 1).toNat = i + 1 by lia -abstractProof, List.getD_eq_getElem?_getD, List.getD_eq_getElem?_getD, List.getElem?_take, if_pos hi, List.getElem?_drop, Nat.add_comm]
  rw [this]
  refine hk_zero h (by lia -abstractProof) fun hm => ?_
  rcases h.kd _ hm with hm | hm
  ·have : ∀ k : Fin 7, ((k.1 : Int) + 1) ∉ loneI := by decide
   exact this ⟨i, hi⟩ hm
  ·lia -abstractProof
 rw [list7 hl, hz 0 (by decide), hz 1 (by decide), hz 2 (by decide), hz 3 (by decide), hz 4 (by decide), hz 5 (by decide), hz 6 (by decide)]
omit h in
theorem mul_zero : ∀ {l : List Int} {p : Int}, (0 ∈ l ∨ p = 0) → l.foldl (· * ·) p = 0
 | [], _, h => h.resolve_left fun h => by cases h
 | x :: l, p, h => by
  rw [List.foldl_cons]
  refine mul_zero ?_
  rcases h with h | rfl
  ·rcases List.mem_cons.mp h with rfl | h
   ·exact .inr (Int.mul_zero p)
   ·exact .inl h
  ·exact .inr (Int.zero_mul x)
theorem hk_pr (hb : B ≤ 7) : prV (cntL T) ≠ 2 := by
 obtain ⟨x, hx, hn⟩ := h.fresh endsI (by decide) (fun _ q => q) (show B < 13 by lia -abstractProof)
 have x0 : ∀ x ∈ endsI, (0 : Int) ≤ x := by decide
 have hz := hk_zero h (x0 x hx) hn
 have e : prV (cntL T) = ((endsI.map (gt (cntL T))).foldl (· * ·) 1) := by show _ = 1 * gt (cntL T) 0 * gt (cntL T) 8 * gt (cntL T) 9 * gt (cntL T) 17 * gt (cntL T) 18 * gt (cntL T) 26 * gt (cntL T) 27 * gt (cntL T) 28 * gt (cntL T) 29 * gt (cntL T) 30 * gt (cntL T) 31 * gt (cntL T) 32 * gt (cntL T) 33; rw [Int.one_mul]; rfl
 rw [e, mul_zero (.inl (List.mem_map.mpr ⟨x, hx, hz⟩))]
 decide
theorem hk_free (hb : B ≤ 6) : ∃ f : Int, 27 ≤ f ∧ f < 34 ∧ gt (cntL T) f = 0 := by
 obtain ⟨x, hx, hn⟩ := h.fresh honL (by decide) (by decide) (show B < 7 by lia -abstractProof)
 have h7 : ∀ x ∈ honL, 27 ≤ x ∧ x < 34 := by decide
 obtain ⟨a, b⟩ := h7 x hx
 exact ⟨x, a, b, hk_zero h (by lia -abstractProof) hn⟩
theorem hk_tw (ht : T.length ≤ 14) (h7 : twoV (cntL T) = 7) : ∀ j ∈ honL, gt (cntL T) j = 0 ∨ gt (cntL T) j = 2 := by
 intro j hj
 have hl := hk_len h
 rw [two_c2 hl] at h7
 have := (two_all _ (hk_nn h)).2 (by rw [hk_sum h]; unfold c2N at h7; lia -abstractProof)
 have hj2 : ∀ j ∈ honL, 0 ≤ j ∧ j < 34 := by decide
 exact this _ (any_of (hj2 j hj).1 (by rw [hl]; exact (hj2 j hj).2))
end
end
set_option tactic.hygienic true
set_option tactic.hygienic false
noncomputable def putS (c : Int) (f : Bool) (a : O) : O := if c = 4 then oI f (oM a) else if c = 3 then oM a else if c = 2 then oP a else if c = 1 then oI f a else a
noncomputable def Z2 : List T → Prop
 | [] => True
 | [b] => b.1 = 0
 | b :: c :: _ => b.1 = 0 ∧ c.1 = 0
theorem sopts_put {c : Int} {f : Bool} {a : O} {r : List T} (h0 : 0 ≤ c) (h4 : c ≤ 4) (hz : c = 0 ∨ Z2 r) : sopts a ((c, f) :: r) = [(putS c f a, r)] := by
 by_cases z : c = 0
 ·subst z; rfl
 have hz : Z2 r := by rcases hz with hz | hz; exact absurd hz z; exact hz
 have h2 : ∀ hd x, sTwo hd x r = [] := fun hd x => by
  match r, hz with
  | [], _ => rfl
  | [b], _ => rfl
  | b :: c :: r, hz => show (if c.1 ≠ 0 then _ else ([] : List (O × List T))) = []; rw [if_neg (fun k => k hz.2)]
 have h1 : ∀ x, sOne x r = [] := fun x => by
  match r, hz with
  | [], _ => rfl
  | [b], hz => show (if b.1 ≠ 0 then _ else ([] : List (O × List T))) = []; rw [if_neg (fun k => k hz)]
  | b :: c :: r, hz => show (if b.1 ≠ 0 then _ else ([] : List (O × List T))) = []; rw [if_neg (fun k => k hz.1)]
 have hm : ∀ x, sMid x r = [] := fun x => by
  match r, hz, h1 x with
  | [], _, h => exact h
  | [b], _, h => exact h
  | b :: c :: r, hz, h => show (if b.1 ≠ 0 ∧ c.1 ≠ 0 then _ else (if c.1 ≠ 0 then _ else ([] : List (O × List T))) ++ sOne x (b :: c :: r)) = []; rw [if_neg (fun k => k.1 hz.1), if_neg (fun k => k hz.2), h]; rfl
 have hd : sDbl a f r = [] := by
  match r, hz with
  | [], _ => rfl
  | [b], _ => rfl
  | b :: c :: r, hz => show (if c.1 ≥ 2 ∧ b.1 ≥ 2 then _ else ([] : List (O × List T))) = []; rw [if_neg (fun k => by have := k.1; have := hz.2; lia -abstractProof)]
 have hs : sSyu a f r = [] := by
  match r, hz with
  | [], _ => rfl
  | [b], _ => rfl
  | b :: c :: r, hz => show (if c.1 ≠ 0 ∧ b.1 ≠ 0 then _ else ([] : List (O × List T))) = []; rw [if_neg (fun k => k.1 hz.2)]
 have he : sEls a f r = [(oI f a, r)] := by unfold sEls; rw [h2, h1]; rfl
 have ho : sOn1 a f r = [(oI f a, r)] := by
  match r, hz, he with
  | [], _, h => exact h
  | [b], _, h => exact h
  | [b, c], _, h => exact h
  | b :: c :: d :: r, hz, h => show (if b.1 = 1 ∧ c.1 ≠ 0 ∧ d.1 ≠ 4 then _ else sEls a f (b :: c :: d :: r)) = _; rw [if_neg (fun k => by have := k.1; have := hz.1; lia -abstractProof)]; exact h
 have hc : c = 4 ∨ c = 3 ∨ c = 2 ∨ c = 1 := by lia -abstractProof
 rcases hc with rfl | rfl | rfl | rfl
 ·show sTwo [] (oM a) r ++ sOne (oM a) r ++ [(oI f (oM a), r)] ++ sTwo [(1, f)] (oP a) r ++ sOne (oP a) r = _
  rw [h2, h2, h1, h1]; rfl
 ·show [(oM a, r)] ++ sMid (oP a) r ++ sDbl a f r = _
  rw [hm, hd]; rfl
 ·show [(oP a, r)] ++ sSyu a f r = _
  rw [hs]; rfl
 ·exact ho
theorem sout_put {c : Int} {f : Bool} {a b : O} {r : List T} (h0 : 0 ≤ c) (h4 : c ≤ 4) (hz : c = 0 ∨ Z2 r) : SOut ((c, f) :: r) a b ↔ SOut r (putS c f a) b := by
 have e := sopts_put (f := f) (a := a) h0 h4 hz
 constructor
 ·intro h
  cases h with
  | step hm k =>
   rw [e] at hm
   obtain ⟨rfl, rfl⟩ := Prod.mk.inj (List.mem_singleton.mp hm)
   exact k
 ·intro k
  exact .step (by rw [e]; exact List.mem_singleton.mpr rfl) k
theorem sout_nil {a b : O} : SOut [] a b ↔ a = b := by
 constructor
 ·intro h
  cases h with
  | nil => rfl
  | step hm _ => cases hm
 ·rintro rfl; exact .nil
noncomputable def Ob (l : List Int) (q : Int) : O := ⟨n34 l + q, 0, n2 l, a41 l, a1 l⟩
theorem put_base {l : List Int} {q c : Int} (h0 : 0 ≤ c) (h4 : c ≤ 4) : putS c (c == 4) (Ob l q) = Ob (l ++ [c]) q := by
 have hc : c = 4 ∨ c = 3 ∨ c = 2 ∨ c = 1 ∨ c = 0 := by lia -abstractProof
 have e34 : n34 (l ++ [c]) = n34 l + if (c == 3 || c == 4) = true then 1 else 0 := by show ((List.countP _ (l ++ [c]) : Nat) : Int) = _; rw [List.countP_append, List.countP_singleton, Int.natCast_add]; split <;> rfl
 have e2 : n2 (l ++ [c]) = n2 l + if (c == 2) = true then 1 else 0 := by show ((List.countP _ (l ++ [c]) : Nat) : Int) = _; rw [List.countP_append, List.countP_singleton, Int.natCast_add]; split <;> rfl
 have e41 : a41 (l ++ [c]) = (a41 l || (c == 4 || c == 1)) := by show List.any (l ++ [c]) _ = _; rw [List.any_append]; exact congrArg (a41 l || ·) (Bool.or_false _)
 have e1 : a1 (l ++ [c]) = (a1 l || (c == 1)) := by show List.any (l ++ [c]) _ = _; rw [List.any_append]; exact congrArg (a1 l || ·) (Bool.or_false _)
 unfold Ob
 rw [e34, e2, e41, e1]
 clear e34 e2 e41 e1
 rcases hc with rfl | rfl | rfl | rfl | rfl
 all_goals refine O_ext ?_ ?_ ?_ ?_ ?_ <;> first | rfl | exact (Int.add_zero _).symm | exact (Bool.or_false _).symm | exact (Bool.or_true _).symm | exact (Int.add_right_comm _ _ _) | (simp; rfl) | simp | (simp; lia -abstractProof)
theorem base_Ob (z : Bool) (n : Int) (h : List Int) : base z n h = Ob (cs z h) ((14 - n).fdiv 3) := rfl
theorem cs_true (h : List Int) : cs true h = cs false h ++ [gt h 0] ++ [gt h 8] := rfl
theorem man_out {h : List Int} {n : Int} {b : O} (H : H4 h) (hz : ∀ j : Int, 1 ≤ j → j ≤ 7 → gt h j = 0) : SOut (sH 9 0 h) (base false n h) b ↔ base true n h = b := by
 have e : sH 9 0 h = [(gt h 0, gt h 0 == 4), (0, false), (0, false), (0, false), (0, false), (0, false), (0, false), (0, false), (gt h 8, gt h 8 == 4)] := by
  show [(gt h 0, gt h 0 == 4), (gt h 1, gt h 1 == 4), (gt h 2, gt h 2 == 4), (gt h 3, gt h 3 == 4), (gt h 4, gt h 4 == 4), (gt h 5, gt h 5 == 4), (gt h 6, gt h 6 == 4), (gt h 7, gt h 7 == 4), (gt h 8, gt h 8 == 4)] = _
  rw [hz 1 (by decide) (by decide), hz 2 (by decide) (by decide), hz 3 (by decide) (by decide), hz 4 (by decide) (by decide), hz 5 (by decide) (by decide), hz 6 (by decide) (by decide), hz 7 (by decide) (by decide)]
  rfl
 rw [e]
 refine (sout_put (H 0).1 (H 0).2 (.inr ?_)).trans ?_
 ·exact ⟨rfl, rfl⟩
 iterate 7 rw [sout_put (Int.le_refl 0) (by decide) (.inl rfl)]
 refine (sout_put (H 8).1 (H 8).2 (.inr ?_)).trans ?_
 ·exact trivial
 rw [sout_nil]
 have z0 : ∀ a : O, putS 0 false a = a := fun a => rfl
 rw [z0, z0, z0, z0, z0, z0, z0, base_Ob, put_base (H 0).1 (H 0).2, put_base (H 8).1 (H 8).2, base_Ob, cs_true]
theorem suits_man {h : List Int} : suitsH 3 h = sH 9 0 h :: suitsH 2 h := rfl
noncomputable def gJ (j x : Int) : Int := if x = -1 then -1 else max x j
theorem gJ_f {j k v : Int} (h0 : 0 ≤ j) (h : j ≤ k) : (if v ≠ -1 ∧ v < k then k else v) = gJ k (if v ≠ -1 ∧ v < j then j else v) := by
 have h2 := h
 by_cases q : v = -1
 ·rw [if_neg (c := v ≠ -1 ∧ v < k) fun c => c.1 q, if_neg (c := v ≠ -1 ∧ v < j) fun c => c.1 q, q]; rfl
 ·by_cases p : v < j
  ·rw [if_pos (c := v ≠ -1 ∧ v < k) ⟨q, Int.lt_of_lt_of_le p h⟩, if_pos (c := v ≠ -1 ∧ v < j) ⟨q, p⟩]
   unfold gJ
   rw [if_neg (by lia -abstractProof)]
   exact (Int.max_eq_right h).symm
  ·rw [if_neg (c := v ≠ -1 ∧ v < j) fun c => p c.2]
   unfold gJ
   rw [if_neg q]
   split <;> lia -abstractProof
theorem gJ_mono {j x y : Int} (h0 : 0 ≤ j) (hx : -1 ≤ x) (h : x ≤ y) : gJ j x ≤ gJ j y := by
 unfold gJ
 by_cases q : x = -1
 ·rw [if_pos q]; split <;> lia -abstractProof
 ·rw [if_neg q, if_neg (by lia -abstractProof)]; lia -abstractProof
theorem gJ_8 {j : Int} (h : j ≤ 8) : gJ j 8 = 8 := Int.max_eq_left h
theorem jd_max {ss : List (List T)} {a : O} {j4 j3 r4 r3 : Int} (n4 : NumIs ss a j4 r4) (n3 : NumIs ss a j3 r3) (l4 : -1 ≤ r4) (l3 : -1 ≤ r3) (h0 : 0 ≤ j4) (h43 : j4 ≤ j3) (h8 : j3 ≤ 8) : r3 = if r4 = -1 then -1 else max r4 j3 := by
 obtain ⟨a4, b4, c4⟩ := n4
 obtain ⟨a3, b3, c3⟩ := n3
 have e : ∀ b, retO j3 b = gJ j3 (retO j4 b) := fun b => gJ_f h0 h43
 have j0 := Int.le_trans h0 h43
 refine Int.le_antisymm ?_ ?_
 ·rcases c4 with h | ⟨b, hb, h⟩
  ·rw [h]; exact Int.le_trans b3 (Int.le_of_eq (gJ_8 h8).symm)
  ·rw [h]; exact Int.le_trans (a3 b hb) (Int.le_of_eq (e b))
 ·rcases c3 with h | ⟨b, hb, h⟩
  ·rw [h]; exact Int.le_trans (gJ_mono j0 l4 b4) (Int.le_of_eq (gJ_8 h8))
  ·rw [h]; exact Int.le_trans (gJ_mono j0 l4 (a4 b hb)) (Int.le_of_eq (e b).symm)
set_option tactic.hygienic true
set_option tactic.hygienic false
theorem tot_3 (h : List Int) : totSS (suitsH 3 h) = totS (sH 9 0 h) + totSS (suitsH 2 h) := rfl
theorem sum_34 {h : List Int} (hl : h.length = 34) : h.sum = totSS (suitsH 3 h) + (cs false h).sum := by
 have e : h.sum = ((List.range 34).map fun i : Nat => gt h (i : Int)).sum := by conv => lhs; rw [gt_map hl]
 have e2 : ((List.range 34).map fun i : Nat => gt h (i : Int)).sum = gt h 0 + (gt h 1 + (gt h 2 + (gt h 3 + (gt h 4 + (gt h 5 + (gt h 6 + (gt h 7 + (gt h 8 + (gt h 9 + (gt h 10 + (gt h 11 + (gt h 12 + (gt h 13 + (gt h 14 + (gt h 15 + (gt h 16 + (gt h 17 + (gt h 18 + (gt h 19 + (gt h 20 + (gt h 21 + (gt h 22 + (gt h 23 + (gt h 24 + (gt h 25 + (gt h 26 + (gt h 27 + (gt h 28 + (gt h 29 + (gt h 30 + (gt h 31 + (gt h 32 + (gt h 33 + 0))))))))))))))))))))))))))))))))) := rfl
 have e3 : totSS (suitsH 3 h) = (gt h 0 + (gt h 1 + (gt h 2 + (gt h 3 + (gt h 4 + (gt h 5 + (gt h 6 + (gt h 7 + (gt h 8 + 0))))))))) + ((gt h 9 + (gt h 10 + (gt h 11 + (gt h 12 + (gt h 13 + (gt h 14 + (gt h 15 + (gt h 16 + (gt h 17 + 0))))))))) + ((gt h 18 + (gt h 19 + (gt h 20 + (gt h 21 + (gt h 22 + (gt h 23 + (gt h 24 + (gt h 25 + (gt h 26 + 0))))))))) + 0)) := rfl
 have e4 : (cs false h).sum = gt h 27 + (gt h 28 + (gt h 29 + (gt h 30 + (gt h 31 + (gt h 32 + (gt h 33 + 0)))))) := rfl
 rw [e, e2, e3, e4]
 lia -abstractProof
theorem ok_sum : ∀ {l : List Int}, (∀ c ∈ l, 0 ≤ c ∧ c ≤ 4) → 3 * n34 l + 2 * n2 l ≤ l.sum ∧ (l.sum ≤ 3 * n34 l + 2 * n2 l ↔ ∀ c ∈ l, c = 0 ∨ c = 2 ∨ c = 3)
 | [], _ => ⟨by decide, ⟨fun _ c h => (by cases h), fun _ => by decide⟩⟩
 | c :: l, h => by
  obtain ⟨a, b⟩ := ok_sum (l := l) fun x hx => h x (List.mem_cons_of_mem _ hx)
  obtain ⟨c0, c4⟩ := h c (List.mem_cons_self ..)
  have e34 : n34 (c :: l) = n34 l + if (c == 3 || c == 4) = true then 1 else 0 := by unfold n34; rw [List.countP_cons]; split <;> simp
  have e2 : n2 (c :: l) = n2 l + if (c == 2) = true then 1 else 0 := by unfold n2; rw [List.countP_cons]; split <;> simp
  rw [e34, e2, List.sum_cons]
  have hc : c = 4 ∨ c = 3 ∨ c = 2 ∨ c = 1 ∨ c = 0 := by lia -abstractProof
  have hm : (∀ x ∈ c :: l, x = 0 ∨ x = 2 ∨ x = 3) ↔ (c = 0 ∨ c = 2 ∨ c = 3) ∧ ∀ x ∈ l, x = 0 ∨ x = 2 ∨ x = 3 := by simp
  rw [hm, ← b]
  clear hm b h
  rcases hc with rfl | rfl | rfl | rfl | rfl <;> simp <;> lia -abstractProof
theorem fss_mod : ∀ {ss : List (List T)} {y : Int}, FSs ss y → 3 ∣ totSS ss - 2 * y
 | [], y, h => by
  have h : y = 0 := h
  subst h; exact ⟨0, rfl⟩
 | s :: ss, y, h => by
  obtain ⟨y1, y2, h1, h2, e⟩ : ∃ y1 y2, FS s y1 ∧ FSs ss y2 ∧ y = y1 + y2 := h
  have a := fs_mod h1
  have b := fss_mod h2
  show (3 : Int) ∣ totS s + totSS ss - 2 * y
  lia -abstractProof
theorem cs_mem {z : Bool} {h : List Int} (H : H4 h) : ∀ c ∈ cs z h, 0 ≤ c ∧ c ≤ 4 := fun c hc => by
 obtain ⟨j, _, rfl⟩ := List.mem_map.mp hc
 exact H j
theorem n34_nn {l : List Int} : 0 ≤ n34 l := by unfold n34; exact Int.natCast_nonneg _
theorem n2_nn {l : List Int} : 0 ≤ n2 l := by unfold n2; exact Int.natCast_nonneg _
theorem n4_34 {l : List Int} : n4 l ≤ n34 l := by
 unfold n4 n34
 have : l.countP (fun c => c == 4) ≤ l.countP (fun c => c == 3 || c == 4) := List.countP_mono_left fun x _ hx => by rw [Bool.or_eq_true]; exact .inr hx
 lia -abstractProof
theorem sm_suits {h : List Int} (H : H4 h) : ∀ m, Sm (suitsH m h)
 | 0 => fun s hs => by cases hs
 | m + 1 => fun s hs => by
  rcases List.mem_cons.mp hs with rfl | hs
  ·exact sH_mem H
  ·exact sm_suits H m s hs
theorem m1_iff {z : Bool} {h : List Int} {n r : Int} (H : H4 h) (hs : totSS (suitsH (mz z) h) + (cs z h).sum = n) (hn : n ≤ 14) (h3 : n.fmod 3 ≠ 0) (N : NumIs (suitsH (mz z) h) (base z n h) (jdO z n h) r) :
  -1 ≤ r ∧ (r = -1 ↔ (∀ c ∈ cs z h, c = 0 ∨ c = 2 ∨ c = 3) ∧ FSs (suitsH (mz z) h) (1 - n2 (cs z h))) := by
 obtain ⟨o1, o2⟩ := ok_sum (cs_mem (z := z) H)
 have a34 := n34_nn (l := cs z h)
 have a2 := n2_nn (l := cs z h)
 have hw : wt (base z n h) = 3 * (n34 (cs z h) + (14 - n).fdiv 3) + 2 * 0 + 2 * n2 (cs z h) := rfl
 have fd : (14 - n).fdiv 3 = (14 - n) / 3 := Int.fdiv_eq_ediv_of_nonneg _ (by decide)
 rw [Int.fmod_eq_emod_of_nonneg _ (by decide)] at h3
 obtain ⟨p1, p2⟩ := num_m1 (sm_suits H _) (show (base z n h).t = 0 from rfl) (show 0 ≤ n34 (cs z h) + (14 - n).fdiv 3 by rw [fd]; lia -abstractProof) (show 0 ≤ n2 (cs z h) from a2) (by rw [hw, fd]; lia -abstractProof) jdO_nn N
 refine ⟨p1, p2.trans ?_⟩
 rw [← o2, hw, fd]
 constructor
 ·rintro ⟨e, f⟩
  exact ⟨by lia -abstractProof, f⟩
 ·rintro ⟨e, f⟩
  refine ⟨?_, f⟩
  have := fss_mod f
  lia -abstractProof
set_option tactic.hygienic true
inductive PS : List Int → Bool → Prop
 | nil : PS [] true
 | step {f : Int} {T g L : List Int} {p : Bool} (hf : f ∈ T) (hm : ∀ x ∈ T, f ≤ x) (hg : g ∈ grps f p) (hp : T.Perm (g ++ L)) (k : PS L (p || g.length == 2)) : PS T p
theorem PS.perm {T T' : List Int} {p : Bool} (h : PS T p) (hp : T'.Perm T) : PS T' p := by
 cases h with
 | nil => rw [hp.eq_nil]; exact .nil
 | step hf hm hg hq k => exact .step (hp.mem_iff.mpr hf) (fun x hx => hm x (hp.mem_iff.mp hx)) hg (hp.trans hq) k
theorem mem_grps {f : Int} {p : Bool} {g : List Int} : g ∈ grps f p ↔ g = [f, f, f] ∨ ((f < 27 ∧ f.fmod 9 < 7) ∧ g = [f, f + 1, f + 2]) ∨ (p = false ∧ g = [f, f]) := by
 unfold grps
 rw [List.mem_append, List.mem_append]
 constructor
 ·rintro ((h | h) | h)
  ·exact .inl (List.mem_singleton.mp h)
  ·split at h
   ·rename_i q; exact .inr (.inl ⟨q, List.mem_singleton.mp h⟩)
   ·cases h
  ·split at h
   ·rename_i q; exact .inr (.inr ⟨q, List.mem_singleton.mp h⟩)
   ·cases h
 ·rintro (rfl | ⟨q, rfl⟩ | ⟨q, rfl⟩)
  ·exact .inl (.inl (List.mem_singleton.mpr rfl))
  ·exact .inl (.inr (by rw [if_pos q]; exact List.mem_singleton.mpr rfl))
  ·exact .inr (by rw [if_pos q]; exact List.mem_singleton.mpr rfl)
theorem take_perm : ∀ (g T : List Int), (g.foldl take1 (T, true)).2 = true → T.Perm (g ++ (g.foldl take1 (T, true)).1) ∧ (g.foldl take1 (T, true)).1.Sublist T
 | [], T, _ => ⟨.refl _, .refl _⟩
 | x :: g, T, h => by
  rw [List.foldl_cons] at h ⊢
  by_cases q : x ∈ T
  ·have e : take1 (T, true) x = (T.erase x, true) := if_pos q
   rw [e] at h ⊢
   obtain ⟨a, b⟩ := take_perm g (T.erase x) h
   exact ⟨(List.perm_cons_erase q).trans (a.cons x), b.trans List.erase_sublist⟩
  ·have e : take1 (T, true) x = (T, false) := if_neg q
   rw [e] at h
   have := take_no g T
   rw [this] at h; cases h
where take_no : ∀ (g T : List Int), (g.foldl take1 (T, false)).2 = false
 | [], _ => rfl
 | x :: g, T => by
  rw [List.foldl_cons]
  unfold take1
  dsimp only
  split
  ·exact take_no g _
  ·exact take_no g _
theorem take_of : ∀ (g T L : List Int), T.Perm (g ++ L) → (g.foldl take1 (T, true)).2 = true ∧ (g.foldl take1 (T, true)).1.Perm L
 | [], T, L, h => ⟨rfl, h⟩
 | x :: g, T, L, h => by
  have hx : x ∈ T := h.mem_iff.mpr (List.mem_cons_self ..)
  rw [List.foldl_cons, show take1 (T, true) x = (T.erase x, true) from if_pos hx]
  exact take_of g (T.erase x) L (List.Perm.cons_inv ((List.perm_cons_erase hx).symm.trans h))
theorem spl_ps : ∀ (m : Nat) (T : List Int) (p : Bool), T.Pairwise (· ≤ ·) → T.length ≤ m → (spl (m + 1) T p = true ↔ PS T p)
 | m, [], p, _, _ => by
  show p = true ↔ PS [] p
  constructor
  ·rintro rfl; exact .nil
  ·intro h
   cases h with
   | nil => rfl
   | step hf => cases hf
 | 0, f :: l, p, _, hl => by simp at hl
 | m + 1, f :: l, p, hs, hl => by
  have hmin : ∀ x ∈ f :: l, f ≤ x := fun x hx => by
   rcases List.mem_cons.mp hx with rfl | hx
   ·exact Int.le_refl _
   ·exact (List.pairwise_cons.mp hs).1 x hx
  show ((grps f p).any fun g => (g.foldl take1 (f :: l, true)).2 && spl (m + 1) (g.foldl take1 (f :: l, true)).1 (p || g.length == 2)) = true ↔ _
  rw [List.any_eq_true]
  have glen : ∀ g ∈ grps f p, 2 ≤ g.length := fun g hg => by
   rcases mem_grps.mp hg with rfl | ⟨_, rfl⟩ | ⟨_, rfl⟩ <;> simp
  constructor
  ·rintro ⟨g, hg, h⟩
   rw [Bool.and_eq_true] at h
   obtain ⟨a, b⟩ := take_perm g (f :: l) h.1
   have := a.length_eq
   have := glen g hg
   rw [List.length_append] at *
   exact .step (List.mem_cons_self ..) hmin hg a ((spl_ps m _ _ (hs.sublist b) (by simp at *; lia -abstractProof)).mp h.2)
  ·intro h
   cases h with
   | @step f' _ g L _ hf hm hg hp k =>
    have e : f' = f := by
     have := hm f (List.mem_cons_self ..)
     have := hmin f' hf
     lia -abstractProof
    subst e
    obtain ⟨a, b⟩ := take_of g _ L hp
    obtain ⟨c, d⟩ := take_perm g _ a
    have := c.length_eq
    have := glen g hg
    rw [List.length_append] at *
    refine ⟨g, hg, ?_⟩
    rw [Bool.and_eq_true]
    exact ⟨a, (spl_ps m _ _ (hs.sublist d) (by simp at *; lia -abstractProof)).mpr (k.perm b)⟩
set_option tactic.hygienic false
section
theorem perm_nil' {T : List Int} {c : Nat} {d : Int} {R : List Int} (h : T.Perm (List.replicate (c + 1) d ++ R)) : d ∈ T := h.mem_iff.mpr (by simp)
section
variable {d : Int} {R : List Int} (hR : ∀ x ∈ R, d < x) (hn : ¬ (d < 27 ∧ d.fmod 9 < 7) ∨ d + 1 ∉ R)
include hR
theorem low_is {T : List Int} {c : Nat} {f : Int} (hT : T.Perm (List.replicate (c + 1) d ++ R)) (hf : f ∈ T) (hm : ∀ x ∈ T, f ≤ x) : f = d := by
 have h1 := hm d (perm_nil' hT)
 rcases List.mem_append.mp (hT.mem_iff.mp hf) with h | h
 ·exact List.eq_of_mem_replicate h
 ·have := hR f h; lia -abstractProof
theorem low_min {T : List Int} {c : Nat} (hT : T.Perm (List.replicate (c + 1) d ++ R)) : ∀ x ∈ T, d ≤ x := fun x hx => by
 rcases List.mem_append.mp (hT.mem_iff.mp hx) with h | h
 ·rw [List.eq_of_mem_replicate h]; exact Int.le_refl _
 ·have := hR x h; lia -abstractProof
theorem cnt_d {T : List Int} {c : Nat} (hT : T.Perm (List.replicate c d ++ R)) : T.count d = c := by
 rw [hT.count_eq, List.count_append, List.count_replicate_self, List.count_eq_zero.mpr fun h => by have := hR d h; lia -abstractProof, Nat.add_zero]
include hn
theorem one_step {T : List Int} {c : Nat} {p : Bool} (hT : T.Perm (List.replicate (c + 1) d ++ R)) (h : PS T p) :
  (2 ≤ c ∧ PS (List.replicate (c - 2) d ++ R) p) ∨ (1 ≤ c ∧ p = false ∧ PS (List.replicate (c - 1) d ++ R) true) := by
 cases h with
 | nil => have := hT.length_eq; rw [List.length_append, List.length_replicate, List.length_nil] at this; lia -abstractProof
 | @step f _ g L _ hf hm hg hp k =>
  obtain rfl := low_is hR hT hf hm
  have hc := cnt_d hR hT
  rcases mem_grps.mp hg with rfl | ⟨q, rfl⟩ | ⟨rfl, rfl⟩
  ·have h3 := hp.count_eq f
   rw [hc, List.count_append] at h3
   have : ([f, f, f] : List Int).count f = 3 := by simp
   have hc2 : 2 ≤ c := by lia -abstractProof
   refine .inl ⟨hc2, (show PS L p from by simpa using k).perm ?_⟩
   have e : List.replicate (c + 1) f ++ R = [f, f, f] ++ (List.replicate (c - 2) f ++ R) := by
    rw [show c + 1 = (c - 2) + 1 + 1 + 1 by lia -abstractProof]; rfl
   rw [e] at hT
   exact ((List.perm_append_left_iff _).mp (hp.symm.trans hT)).symm
  ·rcases hn with hn | hn
   ·exact absurd q hn
   ·have : f + 1 ∈ List.replicate (c + 1) f ++ R := hT.mem_iff.mp (hp.mem_iff.mpr (by simp))
    rcases List.mem_append.mp this with h | h
    ·have := List.eq_of_mem_replicate h; lia -abstractProof
    ·exact absurd h hn
  ·have h3 := hp.count_eq f
   rw [hc, List.count_append] at h3
   have : ([f, f] : List Int).count f = 2 := by simp
   have hc2 : 1 ≤ c := by lia -abstractProof
   refine .inr ⟨hc2, rfl, (show PS L true from by simpa using k).perm ?_⟩
   have e : List.replicate (c + 1) f ++ R = [f, f] ++ (List.replicate (c - 1) f ++ R) := by
    rw [show c + 1 = (c - 1) + 1 + 1 by lia -abstractProof]; rfl
   rw [e] at hT
   exact ((List.perm_append_left_iff _).mp (hp.symm.trans hT)).symm
theorem one_kind {c : Nat} {p : Bool} (h4 : c ≤ 4) : PS (List.replicate c d ++ R) p ↔ (c = 0 ∧ PS R p) ∨ (c = 3 ∧ PS R p) ∨ (c = 2 ∧ p = false ∧ PS R true) := by
 constructor
 ·intro h
  match c, h4 with
  | 0, _ => exact .inl ⟨rfl, h⟩
  | 1, _ =>
   rcases one_step hR hn (.refl _) h with ⟨a, _⟩ | ⟨a, _⟩ <;> lia -abstractProof
  | 2, _ =>
   rcases one_step hR hn (.refl _) h with ⟨a, _⟩ | ⟨_, b, k⟩
   ·lia -abstractProof
   ·exact .inr (.inr ⟨rfl, b, k⟩)
  | 3, _ =>
   rcases one_step hR hn (.refl _) h with ⟨_, k⟩ | ⟨_, b, k⟩
   ·exact .inr (.inl ⟨rfl, k⟩)
   ·rcases one_step hR hn (.refl _) k with ⟨a, _⟩ | ⟨a, _⟩ <;> lia -abstractProof
  | 4, _ =>
   rcases one_step hR hn (.refl _) h with ⟨_, k⟩ | ⟨_, b, k⟩
   ·rcases one_step hR hn (.refl _) k with ⟨a, _⟩ | ⟨a, _⟩ <;> lia -abstractProof
   ·rcases one_step hR hn (.refl _) k with ⟨a, _⟩ | ⟨_, a, _⟩
    ·lia -abstractProof
    ·cases a
 ·rintro (⟨rfl, k⟩ | ⟨rfl, k⟩ | ⟨rfl, rfl, k⟩)
  ·exact k
  ·exact .step (f := d) (g := [d, d, d]) (L := R) (perm_nil' (.refl _)) (low_min hR (c := 2) (.refl _)) (mem_grps.mpr (.inl rfl)) (.refl _) (by simpa using k)
  ·exact .step (f := d) (g := [d, d]) (L := R) (perm_nil' (.refl _)) (low_min hR (c := 1) (.refl _)) (mem_grps.mpr (.inr (.inr ⟨rfl, rfl⟩))) (.refl _) (by simpa using k)
end
end
set_option tactic.hygienic true
set_option tactic.hygienic false
noncomputable def exT : Int → List T → List Int
 | _, [] => []
 | d, t :: r => List.replicate t.1.toNat d ++ exT (d + 1) r
theorem mem_exT : ∀ {S : List T} {d x : Int}, x ∈ exT d S → d ≤ x ∧ x < d + S.length
 | [], d, x, h => by cases h
 | t :: S, d, x, h => by
  rw [List.length_cons]
  rcases List.mem_append.mp h with h | h
  ·have := List.eq_of_mem_replicate h; lia
  ·have := mem_exT h; lia
theorem tn1 {x : Int} (h : 1 ≤ x) : x.toNat = (x - 1).toNat + 1 := by lia
theorem ex_set {c d : Int} {f : Bool} {r : List T} (h : 3 ≤ c) : exT d ((c, f) :: r) = [d, d, d] ++ exT d ((c - 3, f) :: r) := by
 show List.replicate c.toNat d ++ _ = [d, d, d] ++ (List.replicate (c - 3).toNat d ++ _)
 rw [show c.toNat = (c - 3).toNat + 1 + 1 + 1 by lia]; rfl
theorem ex_pair {c d : Int} {f : Bool} {r : List T} (h : 2 ≤ c) : exT d ((c, f) :: r) = [d, d] ++ exT d ((c - 2, f) :: r) := by
 show List.replicate c.toNat d ++ _ = [d, d] ++ (List.replicate (c - 2).toNat d ++ _)
 rw [show c.toNat = (c - 2).toNat + 1 + 1 by lia]; rfl
theorem ex_run {a b c : T} {d : Int} {r : List T} (h1 : 1 ≤ a.1) (h2 : 1 ≤ b.1) (h3 : 1 ≤ c.1) : (exT d (a :: b :: c :: r)).Perm ([d, d + 1, d + 2] ++ exT d (dc a :: dc b :: dc c :: r)) := by
 show (List.replicate a.1.toNat d ++ (List.replicate b.1.toNat (d + 1) ++ (List.replicate c.1.toNat (d + 1 + 1) ++ exT (d + 1 + 1 + 1) r))).Perm
  ([d, d + 1, d + 2] ++ (List.replicate (a.1 - 1).toNat d ++ (List.replicate (b.1 - 1).toNat (d + 1) ++ (List.replicate (c.1 - 1).toNat (d + 1 + 1) ++ exT (d + 1 + 1 + 1) r))))
 rw [show d + 2 = d + 1 + 1 from (Int.add_assoc d 1 1).symm, tn1 h1, tn1 h2, tn1 h3]
 generalize (a.1 - 1).toNat = x
 generalize (b.1 - 1).toNat = y
 generalize (c.1 - 1).toNat = z
 generalize exT (d + 1 + 1 + 1) r = R
 exact .cons d (List.perm_middle.trans (.cons (d + 1) ((List.Perm.append_left _ List.perm_middle).trans List.perm_middle)))
theorem ex_zero : ∀ {S : List T} {d : Int}, NNs S → exT d S = [] → FS S 0
 | [], d, _, _ => .nil
 | (c, f) :: S, d, hn, h => by
  obtain ⟨h1, h2⟩ := List.append_eq_nil_iff.mp h
  have hc : c.toNat = 0 := by simpa using congrArg List.length h1
  obtain ⟨n1, n2⟩ := NNs.cons.mp hn
  have n1 : 0 ≤ c := n1
  obtain rfl : c = 0 := by lia
  exact .zero (ex_zero n2 h2)
noncomputable def SEd (E : Int) : Prop := E = 18 ∨ E = 27
theorem sed_all : ∀ n : Fin 10, 1 ≤ n.1 → (((18 - (n.1 : Int) < 27 ∧ (18 - (n.1 : Int)).fmod 9 < 7) ↔ 3 ≤ n.1) ∧ ((27 - (n.1 : Int) < 27 ∧ (27 - (n.1 : Int)).fmod 9 < 7) ↔ 3 ≤ n.1)) := by decide
theorem sed_run {E d : Int} {n : Nat} (h : SEd E) (e : d + n = E) (h1 : 1 ≤ n) (h9 : n ≤ 9) : (d < 27 ∧ d.fmod 9 < 7) ↔ 3 ≤ n := by
 obtain rfl : d = E - n := by lia
 have := sed_all ⟨n, Nat.lt_succ_of_le h9⟩ h1
 rcases h with rfl | rfl
 ·exact this.1
 ·exact this.2
theorem fs_ps {E : Int} (hE : SEd E) {R : List Int} (hR : ∀ x ∈ R, E ≤ x) {S : List T} {y : Int} (h : FS S y) : ∀ {d : Int} {T : List Int} {p : Bool}, d + S.length = E → S.length ≤ 9 → T.Perm (exT d S ++ R) → ((y = 0 ∧ PS R p) ∨ (y = 1 ∧ p = false ∧ PS R true)) → PS T p := by
 have low : ∀ {S : List T} {d : Int} {T : List Int}, d + S.length = E → T.Perm (exT d S ++ R) → ∀ x ∈ T, d ≤ x := fun {S d T} e hp x hx => by
  rcases List.mem_append.mp (hp.mem_iff.mp hx) with h | h
  ·exact (mem_exT h).1
  ·have := hR x h; lia
 induction h with
 | nil =>
  intro d T p _ _ hp hy
  rcases hy with ⟨_, k⟩ | ⟨a, _⟩
  ·exact k.perm hp
  ·cases a
 | zero h ih =>
  intro d T p e h9 hp hy
  rw [List.length_cons] at e h9
  exact ih (d := d + 1) (by lia) (by lia) hp hy
 | set h k ih =>
  intro d T p e h9 hp hy
  rw [ex_set h, List.append_assoc] at hp
  exact .step (f := d) (hp.mem_iff.mpr (by simp)) (fun x hx => by
   rcases List.mem_append.mp (hp.mem_iff.mp hx) with h | h
   ·simp at h; lia
   ·rcases List.mem_append.mp h with h | h
    ·exact (mem_exT h).1
    ·have := hR x h; lia) (mem_grps.mpr (.inl rfl)) hp (by simpa using ih (d := d) (T := _) (p := p) e h9 (.refl _) hy)
 | pair h k ih =>
  intro d T p e h9 hp hy
  have := (fs_nn k).2
  rw [ex_pair h, List.append_assoc] at hp
  rcases hy with ⟨a, _⟩ | ⟨a, rfl, kR⟩
  ·lia
  ·exact .step (f := d) (hp.mem_iff.mpr (by simp)) (fun x hx => by
    rcases List.mem_append.mp (hp.mem_iff.mp hx) with h | h
    ·simp at h; lia
    ·rcases List.mem_append.mp h with h | h
     ·exact (mem_exT h).1
     ·have := hR x h; lia) (mem_grps.mpr (.inr (.inr ⟨rfl, rfl⟩))) hp (by simpa using ih (d := d) (T := _) (p := true) e h9 (.refl _) (.inl ⟨by lia, kR⟩))
 | @run a b c r y h1 h2 h3 k ih =>
  intro d T p e h9 hp hy
  have hq := (sed_run hE e (by simp) h9).mpr (by simp)
  have hp2 := hp.trans ((ex_run (d := d) (r := r) h1 h2 h3).append_right R)
  rw [List.append_assoc] at hp2
  exact .step (f := d) (hp2.mem_iff.mpr (by simp)) (low e hp) (mem_grps.mpr (.inr (.inl ⟨hq, rfl⟩))) hp2 (by simpa using ih (d := d) (T := _) (p := p) e h9 (.refl _) hy)
set_option tactic.hygienic true
set_option tactic.hygienic false
theorem NNs.dcs {c : Int} {f : Bool} {j : Int} {r : List T} (h : NNs ((c, f) :: r)) (hj : j ≤ c) : NNs ((c - j, f) :: r) := NNs.cons.mpr ⟨by show 0 ≤ c - j; lia -abstractProof, (NNs.cons.mp h).2⟩
theorem ps_fs {E : Int} (hE : SEd E) {T : List Int} {p : Bool} (h : PS T p) : ∀ {S : List Mj.T} {d : Int} {R : List Int}, NNs S → (∀ x ∈ R, E ≤ x) → d + S.length = E → S.length ≤ 9 → T.Perm (exT d S ++ R) → ∃ y, FS S y ∧ ((y = 0 ∧ PS R p) ∨ (y = 1 ∧ p = false ∧ PS R true)) := by
 induction h with
 | nil =>
  intro S d R hn hR e h9 hp
  obtain ⟨a, b⟩ := List.append_eq_nil_iff.mp hp.nil_eq.symm
  exact ⟨0, ex_zero hn a, .inl ⟨rfl, by rw [b]; exact .nil⟩⟩
 | @step f T g L p hf hm hg hq k ih =>
  intro S
  induction S with
  | nil =>
   intro d R hn hR e h9 hp
   exact ⟨0, .nil, .inl ⟨rfl, (PS.step hf hm hg hq k).perm hp.symm⟩⟩
  | cons t S ihS =>
   intro d R hn hR e h9 hp
   obtain ⟨c, f0⟩ := t
   obtain ⟨n1, n2⟩ := NNs.cons.mp hn
   have n1 : 0 ≤ c := n1
   rw [List.length_cons] at e h9
   by_cases z : c = 0
   ·subst z
    obtain ⟨y, a, b⟩ := ihS (d := d + 1) n2 hR (by lia -abstractProof) (by lia -abstractProof) hp
    exact ⟨y, .zero a, b⟩
   have hd1 : d ∉ exT (d + 1) S ++ R := fun h => by
    rcases List.mem_append.mp h with h | h
    ·have := (mem_exT h).1; lia -abstractProof
    ·have := hR d h; lia -abstractProof
   have hp1 : T.Perm (List.replicate c.toNat d ++ (exT (d + 1) S ++ R)) := by rw [← List.append_assoc]; exact hp
   have hdT : d ∈ T := hp1.mem_iff.mpr (List.mem_append.mpr (.inl (List.mem_replicate.mpr ⟨by lia -abstractProof, rfl⟩)))
   have hfd : f = d := by
    have h1 := hm d hdT
    rcases List.mem_append.mp (hp.mem_iff.mp hf) with h | h
    ·have := (mem_exT h).1; lia -abstractProof
    ·have := hR f h; lia -abstractProof
   subst hfd
   have hc : T.count f = c.toNat := by rw [hp1.count_eq, List.count_append, List.count_replicate_self, List.count_eq_zero.mpr hd1, Nat.add_zero]
   have hcg := hq.count_eq f
   rw [hc, List.count_append] at hcg
   rcases mem_grps.mp hg with rfl | ⟨q, rfl⟩ | ⟨rfl, rfl⟩
   ·have : ([f, f, f] : List Int).count f = 3 := by simp
    have c3 : 3 ≤ c := by lia -abstractProof
    rw [ex_set c3, List.append_assoc] at hp
    obtain ⟨y, a, b⟩ := ih (d := f) (hn.dcs c3) hR (by rw [List.length_cons]; exact e) (by rw [List.length_cons]; exact h9) ((List.perm_append_left_iff _).mp (hq.symm.trans hp))
    exact ⟨y, .set c3 a, by simpa using b⟩
   ·have h3 := (sed_run hE (n := S.length + 1) e (by lia -abstractProof) h9).mp q
    clear ihS
    cases S with
    | nil => simp at h3
    | cons t2 S =>
    cases S with
    | nil => simp at h3
    | cons t3 S =>
     obtain ⟨m2, n3⟩ := NNs.cons.mp n2
     obtain ⟨m3, n4⟩ := NNs.cons.mp n3
     simp only [List.length_cons] at e h9
     have i2 : f + 1 ∈ T := hq.mem_iff.mpr (by simp)
     have i3 : f + 2 ∈ T := hq.mem_iff.mpr (by simp)
     have g2 : 1 ≤ t2.1 := by
      have hm2 : f + 1 ∈ List.replicate c.toNat f ++ (List.replicate t2.1.toNat (f + 1) ++ (List.replicate t3.1.toNat (f + 1 + 1) ++ exT (f + 1 + 1 + 1) S) ++ R) := hp1.mem_iff.mp i2
      simp only [List.mem_append, List.mem_replicate] at hm2
      rcases hm2 with h | (h | h | h) | h
      ·lia -abstractProof
      ·lia -abstractProof
      ·lia -abstractProof
      ·have := (mem_exT h).1; lia -abstractProof
      ·have := hR _ h; lia -abstractProof
     have g3 : 1 ≤ t3.1 := by
      have hm2 : f + 2 ∈ List.replicate c.toNat f ++ (List.replicate t2.1.toNat (f + 1) ++ (List.replicate t3.1.toNat (f + 1 + 1) ++ exT (f + 1 + 1 + 1) S) ++ R) := hp1.mem_iff.mp i3
      simp only [List.mem_append, List.mem_replicate] at hm2
      rcases hm2 with h | (h | h | h) | h
      ·lia -abstractProof
      ·lia -abstractProof
      ·lia -abstractProof
      ·have := (mem_exT h).1; lia -abstractProof
      ·have := hR _ h; lia -abstractProof
     have c1 : 1 ≤ ((c, f0) : Mj.T).1 := by show 1 ≤ c; lia -abstractProof
     have hp2 := hp.trans ((ex_run (d := f) (r := S) c1 g2 g3).append_right R)
     rw [List.append_assoc] at hp2
     obtain ⟨y, a, b⟩ := ih (d := f) (S := dc (c, f0) :: dc t2 :: dc t3 :: S) (NNs.cons.mpr ⟨by show 0 ≤ c - 1; lia -abstractProof, NNs.cons.mpr ⟨by show 0 ≤ t2.1 - 1; lia -abstractProof, NNs.cons.mpr ⟨by show 0 ≤ t3.1 - 1; lia -abstractProof, n4⟩⟩⟩) hR (by simp only [List.length_cons]; lia -abstractProof) (by simp only [List.length_cons]; lia -abstractProof) ((List.perm_append_left_iff _).mp (hq.symm.trans hp2))
     exact ⟨y, .run c1 g2 g3 a, by simpa using b⟩
   ·have : ([f, f] : List Int).count f = 2 := by simp
    have c2 : 2 ≤ c := by lia -abstractProof
    rw [ex_pair c2, List.append_assoc] at hp
    obtain ⟨y, a, b⟩ := ih (d := f) (hn.dcs c2) hR (by rw [List.length_cons]; exact e) (by rw [List.length_cons]; exact h9) ((List.perm_append_left_iff _).mp (hq.symm.trans hp))
    rcases b with ⟨rfl, b⟩ | ⟨_, b, _⟩
    ·exact ⟨1, .pair c2 a, .inr ⟨rfl, rfl, by simpa using b⟩⟩
    ·simp at b
theorem suit_iff {E : Int} (hE : SEd E) {R : List Int} (hR : ∀ x ∈ R, E ≤ x) {S : List Mj.T} (hn : NNs S) (h9 : S.length = 9) {p : Bool} : PS (exT (E - 9) S ++ R) p ↔ ∃ y, FS S y ∧ ((y = 0 ∧ PS R p) ∨ (y = 1 ∧ p = false ∧ PS R true)) :=
 ⟨fun h => ps_fs hE h hn hR (by lia -abstractProof) (by lia -abstractProof) (.refl _), fun ⟨_, a, b⟩ => fs_ps hE hR a (d := E - 9) (by lia -abstractProof) (by lia -abstractProof) (.refl _) b⟩
set_option tactic.hygienic true
set_option tactic.hygienic false
noncomputable def bP (p : Bool) : Int := if p = true then 0 else 1
noncomputable def QS (A : List Int) (P : Int → Prop) : Prop := (∀ v, P v → 0 ≤ v) ∧ ∀ p, PS A p ↔ P (bP p)
theorem QS.nil : QS [] (fun v => v = 0) := by
 refine ⟨fun v h => by lia -abstractProof, fun p => ?_⟩
 cases p with
 | true => exact ⟨fun _ => rfl, fun _ => .nil⟩
 | false => exact ⟨fun h => (by cases h with | step hf => cases hf), fun h => (by cases h)⟩
theorem QS.lone {R : List Int} {P : Int → Prop} {c : Nat} {d : Int} (q : QS R P) (hR : ∀ x ∈ R, d < x) (hn : ¬ (d < 27 ∧ d.fmod 9 < 7) ∨ d + 1 ∉ R) (h4 : c ≤ 4) : QS (List.replicate c d ++ R) (fun v => (c = 0 ∨ c = 2 ∨ c = 3) ∧ P (v - if c = 2 then 1 else 0)) := by
 obtain ⟨q1, q2⟩ := q
 refine ⟨fun v h => by have := q1 _ h.2; split at this <;> lia -abstractProof, fun p => (one_kind hR hn h4).trans ?_⟩
 rw [q2, q2]
 constructor
 ·rintro (⟨rfl, h⟩ | ⟨rfl, h⟩ | ⟨rfl, rfl, h⟩)
  ·exact ⟨.inl rfl, by simpa using h⟩
  ·exact ⟨.inr (.inr rfl), by simpa using h⟩
  ·exact ⟨.inr (.inl rfl), by simpa [bP] using h⟩
 ·rintro ⟨rfl | rfl | rfl, h⟩
  ·exact .inl ⟨rfl, by simpa using h⟩
  ·cases p with
   | true => have := q1 _ h; simp [bP] at this
   | false => exact .inr (.inr ⟨rfl, rfl, by simpa [bP] using h⟩)
  ·exact .inr (.inl ⟨rfl, by simpa using h⟩)
theorem QS.suit {R : List Int} {P : Int → Prop} {E : Int} {S : List Mj.T} (q : QS R P) (hE : SEd E) (hR : ∀ x ∈ R, E ≤ x) (hn : NNs S) (h9 : S.length = 9) : QS (exT (E - 9) S ++ R) (fun v => ∃ y, FS S y ∧ P (v - y)) := by
 obtain ⟨q1, q2⟩ := q
 refine ⟨fun v ⟨y, a, b⟩ => by have := q1 _ b; have := (fs_nn a).2; lia -abstractProof, fun p => (suit_iff hE hR hn h9).trans ?_⟩
 rw [q2, q2]
 constructor
 ·rintro ⟨y, a, ⟨rfl, h⟩ | ⟨rfl, rfl, h⟩⟩
  ·exact ⟨0, a, by simpa using h⟩
  ·exact ⟨1, a, by simpa [bP] using h⟩
 ·rintro ⟨y, a, h⟩
  have y0 := (fs_nn a).2
  have y1 := q1 _ h
  cases p with
  | true =>
   have : y = 0 := by simp [bP] at y1; lia -abstractProof
   subst this
   exact ⟨0, a, .inl ⟨rfl, by simpa using h⟩⟩
  | false =>
   have : y = 0 ∨ y = 1 := by simp [bP] at y1; lia -abstractProof
   rcases this with rfl | rfl
   ·exact ⟨0, a, .inl ⟨rfl, by simpa using h⟩⟩
   ·exact ⟨1, a, .inr ⟨rfl, rfl, by simpa [bP] using h⟩⟩
noncomputable def rpl (h : List Int) (k : Int) : List Int := List.replicate (gt h k).toNat k
theorem mem_rpl {h ks : List Int} {x : Int} (hx : x ∈ ks.flatMap (rpl h)) : x ∈ ks := by
 obtain ⟨k, hk, hm⟩ := List.mem_flatMap.mp hx
 rw [List.eq_of_mem_replicate hm]; exact hk
noncomputable def okC (c : Int) : Prop := c = 0 ∨ c = 2 ∨ c = 3
theorem QS.cast {A : List Int} {P P' : Int → Prop} (q : QS A P) (h : ∀ v, P v ↔ P' v) : QS A P' := ⟨fun v k => q.1 v ((h v).mpr k), fun p => (q.2 p).trans (h _)⟩
theorem lone_cast {h : List Int} {d : Int} {P : Int → Prop} {v : Int} (H : H4 h) : (((gt h d).toNat = 0 ∨ (gt h d).toNat = 2 ∨ (gt h d).toNat = 3) ∧ P (v - if (gt h d).toNat = 2 then 1 else 0)) ↔ okC (gt h d) ∧ P (v - if gt h d = 2 then 1 else 0) := by
 have := (H d).1
 have e : (if (gt h d).toNat = 2 then (1 : Int) else 0) = if gt h d = 2 then 1 else 0 := by split <;> split <;> lia -abstractProof
 rw [e]
 unfold okC
 constructor
 ·rintro ⟨a, b⟩; exact ⟨by lia -abstractProof, b⟩
 ·rintro ⟨a, b⟩; exact ⟨by lia -abstractProof, b⟩
theorem n2_cons {c : Int} {l : List Int} : n2 (c :: l) = (if c = 2 then 1 else 0) + n2 l := by
 unfold n2
 rw [List.countP_cons]
 by_cases q : c = 2
 ·subst q; simp; lia -abstractProof
 ·rw [if_neg q, if_neg (by simpa using q)]; simp
theorem qs_hon {h : List Int} (H : H4 h) : ∀ {ks : List Int}, ks.Pairwise (· < ·) → (∀ k ∈ ks, 27 ≤ k) → QS (ks.flatMap (rpl h)) (fun v => (∀ k ∈ ks, okC (gt h k)) ∧ v = n2 (ks.map (gt h)))
 | [], _, _ => QS.nil.cast fun v => ⟨fun h => ⟨fun k hk => (by cases hk), h⟩, fun h => h.2⟩
 | k :: ks, hp, hk => by
  have ih := qs_hon H (List.pairwise_cons.mp hp).2 fun x hx => hk x (List.mem_cons_of_mem _ hx)
  have k27 := hk k (List.mem_cons_self ..)
  have q := ih.lone (c := (gt h k).toNat) (d := k) (fun x hx => (List.pairwise_cons.mp hp).1 x (mem_rpl hx)) (.inl fun c => by lia -abstractProof) (by have := H k; lia -abstractProof)
  refine (q.cast fun v => lone_cast (P := fun v => (∀ k ∈ ks, okC (gt h k)) ∧ v = n2 (ks.map (gt h))) H).cast fun v => ?_
  rw [List.map_cons, n2_cons]
  constructor
  ·rintro ⟨a, b, c⟩
   exact ⟨fun x hx => (List.mem_cons.mp hx).elim (fun e => e ▸ a) (b x), by lia -abstractProof⟩
  ·rintro ⟨a, b⟩
   exact ⟨a k (List.mem_cons_self ..), fun x hx => a x (List.mem_cons_of_mem _ hx), by lia -abstractProof⟩
set_option tactic.hygienic true
noncomputable def n9L : List Int := [9, 10, 11, 12, 13, 14, 15, 16, 17]
noncomputable def n18L : List Int := [18, 19, 20, 21, 22, 23, 24, 25, 26]
noncomputable def kO : List Int := 0 :: 8 :: (n9L ++ (n18L ++ honL))
theorem cnt_flat {h : List Int} {x : Int} : ∀ {ks : List Int}, ks.Nodup → (ks.flatMap (rpl h)).count x = if x ∈ ks then (gt h x).toNat else 0
 | [], _ => rfl
 | k :: ks, hn => by
  obtain ⟨a, b⟩ := List.nodup_cons.mp hn
  rw [List.flatMap_cons, List.count_append, cnt_flat b]
  unfold rpl
  rw [List.count_replicate]
  by_cases q : k = x
  ·subst q; simp [a]
  ·have q2 : ¬ x = k := fun e => q e.symm
   simp [q, q2]
theorem kd_kO {x : Int} (h : Kd x) : x ∈ kO := by
 have a : ∀ x ∈ loneI, x ∈ kO := by decide
 rcases h with h | ⟨h0, h1⟩
 ·exact a x h
 ·have b : ∀ i : Fin 18, 9 + (i.1 : Int) ∈ kO := by decide
  have := b ⟨(x - 9).toNat, by lia -abstractProof⟩
  rwa [show 9 + (((x - 9).toNat : Nat) : Int) = x by lia -abstractProof] at this
theorem ex_9 {h : List Int} : exT 9 (sH 9 9 h) = n9L.flatMap (rpl h) := rfl
theorem ex_18 {h : List Int} : exT 18 (sH 9 18 h) = n18L.flatMap (rpl h) := rfl
theorem kO_is {h : List Int} : kO.flatMap (rpl h) = rpl h 0 ++ (rpl h 8 ++ (exT 9 (sH 9 9 h) ++ (exT 18 (sH 9 18 h) ++ honL.flatMap (rpl h)))) := by
 unfold kO
 rw [List.flatMap_cons, List.flatMap_cons, List.flatMap_append, List.flatMap_append, ex_9, ex_18]
theorem hk_perm {T : List Int} {B : Nat} (h : HK T B) : T.Perm (kO.flatMap (rpl (cntL T))) := by
 rw [List.perm_iff_count]
 intro x
 rw [cnt_flat (by decide)]
 have k0 : ∀ k ∈ kO, (0 : Int) ≤ k := by decide
 split
 ·rename_i q; rw [hk_gt h (k0 x q), Int.toNat_natCast]
 ·rename_i q; exact List.count_eq_zero.mpr fun hx => q (kd_kO (h.kd x hx))
theorem nns_sH {h : List Int} (H : H4 h) {n : Nat} {d : Int} : NNs (sH n d h) := fun t ht => (sH_mem H t ht).1
theorem suits2 (h : List Int) : suitsH 2 h = [sH 9 9 h, sH 9 18 h] := rfl
theorem cs_1 (h : List Int) : cs true h = honL.map (gt h) ++ [gt h 0, gt h 8] := rfl
theorem n2_app {l l' : List Int} : n2 (l ++ l') = n2 l + n2 l' := by unfold n2; rw [List.countP_append]; lia -abstractProof
theorem fss2 {h : List Int} {y : Int} : FSs (suitsH 2 h) y ↔ ∃ y1 y2, FS (sH 9 9 h) y1 ∧ FS (sH 9 18 h) y2 ∧ y = y1 + y2 := by
 constructor
 ·rintro ⟨a, b, h1, ⟨c, d, h2, h3, e⟩, e2⟩
  have h3 : d = 0 := h3
  exact ⟨a, c, h1, h2, by lia -abstractProof⟩
 ·rintro ⟨a, b, h1, h2, e⟩
  exact ⟨a, b, h1, ⟨b, 0, h2, rfl, by lia -abstractProof⟩, e⟩
theorem split_iff {h : List Int} (H : H4 h) : PS (kO.flatMap (rpl h)) false ↔ (∀ c ∈ cs true h, c = 0 ∨ c = 2 ∨ c = 3) ∧ FSs (suitsH 2 h) (1 - n2 (cs true h)) := by
 have m7 : ∀ k ∈ honL, (27 : Int) ≤ k := by decide
 have q7 := qs_hon H (ks := honL) (by decide) m7
 have r7 : ∀ x ∈ honL.flatMap (rpl h), 27 ≤ x := fun x hx => m7 x (mem_rpl hx)
 have q18 := q7.suit (E := 27) (S := sH 9 18 h) (.inr rfl) r7 (nns_sH H) sH_len
 have r18 : ∀ x ∈ exT 18 (sH 9 18 h) ++ honL.flatMap (rpl h), 18 ≤ x := fun x hx => by
  rcases List.mem_append.mp hx with hx | hx
  ·exact (mem_exT hx).1
  ·have := r7 x hx; lia -abstractProof
 have q9 := QS.suit (E := 18) (S := sH 9 9 h) q18 (.inl rfl) r18 (nns_sH H) sH_len
 have r9 : ∀ x ∈ exT 9 (sH 9 9 h) ++ (exT 18 (sH 9 18 h) ++ honL.flatMap (rpl h)), 9 ≤ x := fun x hx => by
  rcases List.mem_append.mp hx with hx | hx
  ·exact (mem_exT hx).1
  ·have := r18 x hx; lia -abstractProof
 let P9 : Int → Prop := fun v => ∃ y, FS (sH 9 9 h) y ∧ ∃ y', FS (sH 9 18 h) y' ∧ (∀ k ∈ honL, okC (gt h k)) ∧ v - y - y' = n2 (honL.map (gt h))
 have q9 : QS (exT 9 (sH 9 9 h) ++ (exT 18 (sH 9 18 h) ++ honL.flatMap (rpl h))) P9 := q9
 let P8 : Int → Prop := fun v => okC (gt h 8) ∧ P9 (v - if gt h 8 = 2 then 1 else 0)
 have q8 : QS (rpl h 8 ++ (exT 9 (sH 9 9 h) ++ (exT 18 (sH 9 18 h) ++ honL.flatMap (rpl h)))) P8 := (QS.lone (c := (gt h 8).toNat) (d := 8) q9 (fun x hx => by have := r9 x hx; lia -abstractProof) (.inl (by decide)) (by have := H 8; lia -abstractProof)).cast fun v => lone_cast (P := P9) H
 have r8 : ∀ x ∈ rpl h 8 ++ (exT 9 (sH 9 9 h) ++ (exT 18 (sH 9 18 h) ++ honL.flatMap (rpl h))), 8 ≤ x := fun x hx => by
  rcases List.mem_append.mp hx with hx | hx
  ·rw [List.eq_of_mem_replicate hx]; exact Int.le_refl _
  ·have := r9 x hx; lia -abstractProof
 have q0 : QS (rpl h 0 ++ (rpl h 8 ++ (exT 9 (sH 9 9 h) ++ (exT 18 (sH 9 18 h) ++ honL.flatMap (rpl h))))) (fun v => okC (gt h 0) ∧ P8 (v - if gt h 0 = 2 then 1 else 0)) := (QS.lone (c := (gt h 0).toNat) (d := 0) q8 (fun x hx => by have := r8 x hx; lia -abstractProof) (.inr fun hx => by have := r8 _ hx; lia -abstractProof) (by have := H 0; lia -abstractProof)).cast fun v => lone_cast (P := P8) H
 rw [kO_is]
 refine (q0.2 false).trans ?_
 rw [cs_1, n2_app, n2_cons, n2_cons, fss2]
 have hmem : (∀ c ∈ honL.map (gt h) ++ [gt h 0, gt h 8], c = 0 ∨ c = 2 ∨ c = 3) ↔ (∀ k ∈ honL, okC (gt h k)) ∧ okC (gt h 0) ∧ okC (gt h 8) := by
  simp only [List.forall_mem_append, List.forall_mem_map, List.forall_mem_cons]
  exact ⟨fun ⟨a, b, c, _⟩ => ⟨a, b, c⟩, fun ⟨a, b, c⟩ => ⟨a, b, c, fun x hx => by cases hx⟩⟩
 rw [hmem]
 have n20 : n2 [] = 0 := rfl
 rw [n20]
 have b1 : bP false = 1 := rfl
 rw [b1]
 constructor
 ·rintro ⟨a, b, y, f1, y', f2, c, e⟩
  exact ⟨⟨c, a, b⟩, y, y', f1, f2, by lia -abstractProof⟩
 ·rintro ⟨⟨c, a, b⟩, y, y', f1, f2, e⟩
  exact ⟨a, b, y, f1, y', f2, c, by lia -abstractProof⟩
theorem hk_split {T : List Int} {B : Nat} (h : HK T B) (hs : T.Pairwise (· ≤ ·)) (hl : T.length ≤ 14) : spl 15 T false = true ↔ (∀ c ∈ cs true (cntL T), c = 0 ∨ c = 2 ∨ c = 3) ∧ FSs (suitsH 2 (cntL T)) (1 - n2 (cs true (cntL T))) :=
 ((spl_ps 14 T false hs hl).trans ⟨fun k => k.perm (hk_perm h).symm, fun k => k.perm (hk_perm h)⟩).trans (split_iff (hk_h4 h))
set_option tactic.hygienic false
section
theorem r3_of {T : List Int} {B : Nat} {r : Int} (h : HK T B) (hl : T.length ≤ 14) (n3 : (T.length : Int).fmod 3 ≠ 0) (N : NumIs (suitsH 2 (cntL T)) (base true T.length (cntL T)) (jdO true T.length (cntL T)) r) : R3Is T r := by
 obtain ⟨r', R, N'⟩ := reg_num true (hk_len h) (hk_nn h) (hk_sum h) (by lia) (show 42 ≤ 53 by decide)
 have := NumIs.uniq (show NumIs (suitsH 2 (cntL T)) (base true T.length (cntL T)) (jdO true T.length (cntL T)) r' from N') N
 subst this
 exact ⟨hk_rng h, hl, n3, hk_sum h, hk_hz h, R⟩
theorem sH_congr {h h' : List Int} : ∀ {n : Nat} {d : Int}, (∀ j : Int, d ≤ j → j < d + n → gt h' j = gt h j) → sH n d h' = sH n d h
 | 0, _, _ => rfl
 | n + 1, d, e => by
  rw [sH_cons, sH_cons, e d (Int.le_refl _) (by lia), sH_congr fun j h0 h1 => e j (by lia) (by lia)]
section
variable {T : List Int} {B : Nat} {f : Int} (h : HK T B) (f0 : 27 ≤ f) (f1 : f < 34) (fz : gt (cntL T) f = 0)
include h f0 f1 fz
theorem more_hk : HK (T ++ List.replicate 3 f) (B + 1) := by
 have hk : Kd f := by
  have : ∀ i : Fin 7, 27 + (i.1 : Int) ∈ loneI := by decide
  have := this ⟨(f - 27).toNat, by lia⟩
  rw [show 27 + (((f - 27).toNat : Nat) : Int) = f by lia] at this
  exact .inl this
 have hc : T.count f = 0 := by have := hk_gt h (j := f) (by lia); lia
 refine h.put (gok_same hk) fun x hx => ?_
 rw [List.eq_of_mem_replicate hx, List.count_append, hc, List.count_replicate_self]; decide
theorem more_gt {j : Int} (hj : 0 ≤ j) : gt (cntL (T ++ List.replicate 3 f)) j = if j = f then 3 else gt (cntL T) j := by
 rw [hk_gt (more_hk h f0 f1 fz) hj, hk_gt h hj, List.count_append, List.count_replicate]
 have hc : T.count f = 0 := by have := hk_gt h (j := f) (by lia); lia
 by_cases q : j = f
 ·subst q; rw [hc]; simp
 ·rw [if_neg q, if_neg (by simpa using fun e : f = j => q e.symm)]; simp
theorem more_cs (p : Int → Bool) (p0 : p 0 = false) : ∀ {ks : List Int}, ks.Nodup → (∀ k ∈ ks, 0 ≤ k) → (((ks.map (gt (cntL (T ++ List.replicate 3 f)))).countP p : Nat) : Int) = ((ks.map (gt (cntL T))).countP p : Nat) + if f ∈ ks ∧ p 3 = true then 1 else 0
 | [], _, _ => by simp
 | k :: ks, hn, hk => by
  obtain ⟨a, b⟩ := List.nodup_cons.mp hn
  have ih := more_cs p p0 (ks := ks) b fun x hx => hk x (List.mem_cons_of_mem _ hx)
  rw [List.map_cons, List.map_cons, cnt_cons, cnt_cons, ih, more_gt h f0 f1 fz (hk k (List.mem_cons_self ..))]
  by_cases q : k = f
  ·subst q
   rw [if_pos rfl, fz, p0]
   simp [a]
  ·have q2 : ¬ f = k := fun e => q e.symm
   rw [if_neg q]
   simp [q2]
   lia
theorem any_cnt (p : Int → Bool) (l : List Int) : l.any p = decide (0 < (l.countP p : Nat)) := by
 rw [Bool.eq_iff_iff, List.any_eq_true, decide_eq_true_iff, List.countP_pos_iff]
theorem more_num {r : Int} (N : NumIs (suitsH 2 (cntL T)) (base true T.length (cntL T)) (jdO true T.length (cntL T)) r) :
  NumIs (suitsH 2 (cntL (T ++ List.replicate 3 f))) (base true (T ++ List.replicate 3 f).length (cntL (T ++ List.replicate 3 f))) (jdO true (T ++ List.replicate 3 f).length (cntL (T ++ List.replicate 3 f))) r := by
 have hf : f ∈ ixs true := by
  have : ∀ i : Fin 7, 27 + (i.1 : Int) ∈ ixs true := by decide
  have := this ⟨(f - 27).toNat, by lia⟩
  rwa [show 27 + (((f - 27).toNat : Nat) : Int) = f by lia] at this
 have key := fun p p0 => more_cs h f0 f1 fz p p0 (ks := ixs true) (by decide) (by decide)
 have k34 := key (fun c => c == 3 || c == 4) rfl
 have k4 := key (fun c => c == 4) rfl
 have k2 := key (fun c => c == 2) rfl
 have k41 := key (fun c => c == 4 || c == 1) rfl
 have k1 := key (fun c => c == 1) rfl
 rw [if_pos ⟨hf, rfl⟩] at k34
 rw [if_neg (fun c => by cases c.2)] at k4 k2 k41 k1
 have e34 : n34 (cs true (cntL (T ++ List.replicate 3 f))) = n34 (cs true (cntL T)) + 1 := k34
 have e4 : n4 (cs true (cntL (T ++ List.replicate 3 f))) = n4 (cs true (cntL T)) := by have := k4; rw [Int.add_zero] at this; exact this
 have e2 : n2 (cs true (cntL (T ++ List.replicate 3 f))) = n2 (cs true (cntL T)) := by have := k2; rw [Int.add_zero] at this; exact this
 have e41 : a41 (cs true (cntL (T ++ List.replicate 3 f))) = a41 (cs true (cntL T)) := by
  unfold a41; rw [any_cnt h f0 f1 fz, any_cnt h f0 f1 fz]; unfold cs; rw [Int.add_zero] at k41; rw [Int.ofNat.inj k41]
 have e1 : a1 (cs true (cntL (T ++ List.replicate 3 f))) = a1 (cs true (cntL T)) := by
  unfold a1; rw [any_cnt h f0 f1 fz, any_cnt h f0 f1 fz]; unfold cs; rw [Int.add_zero] at k1; rw [Int.ofNat.inj k1]
 have es : suitsH 2 (cntL (T ++ List.replicate 3 f)) = suitsH 2 (cntL T) := by
  rw [suits2, suits2]
  have g : ∀ j : Int, 9 ≤ j → j < 27 → gt (cntL (T ++ List.replicate 3 f)) j = gt (cntL T) j := fun j h0 h1 => by rw [more_gt h f0 f1 fz (by lia), if_neg (by lia)]
  rw [sH_congr (h := cntL T) (h' := cntL (T ++ List.replicate 3 f)) (n := 9) (d := 9) fun j h0 h1 => g j h0 (by lia), sH_congr (h := cntL T) (h' := cntL (T ++ List.replicate 3 f)) (n := 9) (d := 18) fun j h0 h1 => g j (by lia) (by lia)]
 have el : ((T ++ List.replicate 3 f).length : Int) = T.length + 3 := by rw [List.length_append, List.length_replicate]; rfl
 have eb : base true (T ++ List.replicate 3 f).length (cntL (T ++ List.replicate 3 f)) = base true T.length (cntL T) := by
  unfold base
  rw [e34, e2, e41, e1, el, Int.fdiv_eq_ediv_of_nonneg _ (by decide), Int.fdiv_eq_ediv_of_nonneg _ (by decide)]
  exact O_ext (by show _ + 1 + _ = _; lia) rfl rfl rfl rfl
 have ej : jdO true (T ++ List.replicate 3 f).length (cntL (T ++ List.replicate 3 f)) = jdO true T.length (cntL T) := by
  unfold jdO
  rw [e4, el, Int.fmod_eq_emod_of_nonneg _ (by decide), Int.fmod_eq_emod_of_nonneg _ (by decide), show ((T.length : Int) + 3) % 3 = (T.length : Int) % 3 by lia]
 rw [es, eb, ej]
 exact N
theorem more_r3 {r : Int} (hl : T.length ≤ 11) (n3 : (T.length : Int).fmod 3 ≠ 0) (N : NumIs (suitsH 2 (cntL T)) (base true T.length (cntL T)) (jdO true T.length (cntL T)) r) : R3Is (T ++ List.replicate 3 f) r := by
 have el : (T ++ List.replicate 3 f).length = T.length + 3 := by rw [List.length_append, List.length_replicate]
 refine r3_of (more_hk h f0 f1 fz) (by lia) ?_ (more_num h f0 f1 fz N)
 rw [el]
 rw [Int.fmod_eq_emod_of_nonneg _ (by decide)] at n3 ⊢
 lia
end
end
set_option tactic.hygienic true
set_option tactic.hygienic false
section
noncomputable def tmL : List Int := [1, 2, 4, 5, 7, 8]
theorem mv_perm : ∀ tm ∈ tmL, ∀ s : Fin 9, ((ixs true).map (fun k => gt loneI (((loneI.idxOf k : Nat) * tm + (s.1 : Int)) % 9))).isPerm (ixs true) = true := by decide
theorem lone_suit : ∀ x ∈ loneI, ¬ (9 ≤ x ∧ x < 27) := by decide
theorem gt_inj : ∀ a b : Fin 9, gt loneI (a.1 : Int) = gt loneI (b.1 : Int) → a = b := by decide
theorem gt_lone {j : Int} (h0 : 0 ≤ j) (h1 : j < 9) : gt loneI j ∈ loneI := (lone_kd h0 h1).2
theorem tm_inj : ∀ tm ∈ tmL, ∀ s a b : Fin 9, gt loneI (((a.1 : Nat) * tm + (s.1 : Nat)) % 9) = gt loneI (((b.1 : Nat) * tm + (s.1 : Nat)) % 9) → a = b := by decide
theorem sx_inj {x y : Int} (x0 : 9 ≤ x) (x1 : x < 27) (y0 : 9 ≤ y) (y1 : y < 27) (e : (if true = false then x else if x < 18 then x + 9 else x - 9) = if true = false then y else if y < 18 then y + 9 else y - 9) : x = y := by
 have : (if x < 18 then x + 9 else x - 9) = if y < 18 then y + 9 else y - 9 := e
 split at this <;> split at this <;> lia
section
variable {tm sh : Int} {ex : Bool} (ht : tm ∈ tmL)
theorem mv_lone {x : Int} (hx : x ∈ loneI) : mvV tm sh ex x = gt loneI (((loneI.idxOf x : Nat) * tm + sh % 9) % 9) := by
 unfold mvV
 rw [if_pos hx, Int.fmod_eq_emod_of_nonneg _ (by decide)]
 congr 1
 generalize ((loneI.idxOf x : Nat) : Int) * tm = z
 lia
theorem mv_suit {x : Int} (h0 : 9 ≤ x) (h1 : x < 27) : mvV tm sh ex x = if ex = false then x else if x < 18 then x + 9 else x - 9 := by
 unfold mvV
 rw [if_neg fun hx => lone_suit x hx ⟨h0, h1⟩]
theorem mv_lone_mem {x : Int} (hx : x ∈ loneI) : mvV tm sh ex x ∈ loneI := by
 rw [mv_lone hx]
 exact gt_lone (Int.emod_nonneg _ (by decide)) (Int.emod_lt_of_pos _ (by decide))
theorem mv_suit_rng {x : Int} (h0 : 9 ≤ x) (h1 : x < 27) : 9 ≤ mvV tm sh ex x ∧ mvV tm sh ex x < 27 := by
 rw [mv_suit h0 h1]; split <;> (try split) <;> lia
theorem mv_kd {x : Int} (hx : Kd x) : Kd (mvV tm sh ex x) := by
 rcases hx with hx | ⟨h0, h1⟩
 ·exact .inl (mv_lone_mem hx)
 ·exact .inr (mv_suit_rng h0 h1)
include ht
theorem mv_inj {x y : Int} (hx : Kd x) (hy : Kd y) (e : mvV tm sh ex x = mvV tm sh ex y) : x = y := by
 rcases hx with hx | ⟨x0, x1⟩ <;> rcases hy with hy | ⟨y0, y1⟩
 ·rw [mv_lone hx, mv_lone hy] at e
  have s0 : (((sh % 9).toNat : Nat) : Int) = sh % 9 := Int.toNat_of_nonneg (Int.emod_nonneg _ (by decide))
  rw [← s0] at e
  have e3 := Fin.mk.inj (tm_inj tm ht ⟨_, (Int.toNat_lt (Int.emod_nonneg _ (by decide))).mpr (Int.emod_lt_of_pos _ (by decide))⟩ ⟨_, List.idxOf_lt_length_iff.mpr hx⟩ ⟨_, List.idxOf_lt_length_iff.mpr hy⟩ e)
  have ex1 : loneI[loneI.idxOf x]'(List.idxOf_lt_length_iff.mpr hx) = x := List.getElem_idxOf _
  have ey1 : loneI[loneI.idxOf y]'(List.idxOf_lt_length_iff.mpr hy) = y := List.getElem_idxOf _
  rw [← ex1, ← ey1]
  congr 1
 ·have := mv_suit_rng (tm := tm) (sh := sh) (ex := ex) y0 y1
  rw [← e] at this
  exact absurd this (lone_suit _ (mv_lone_mem hx))
 ·have := mv_suit_rng (tm := tm) (sh := sh) (ex := ex) x0 x1
  rw [e] at this
  exact absurd this (lone_suit _ (mv_lone_mem hy))
 ·rw [mv_suit x0 x1, mv_suit y0 y1] at e
  cases ex with
  | false => exact e
  | true => exact sx_inj x0 x1 y0 y1 e
theorem mv_count {T : List Int} {k : Int} (hT : ∀ x ∈ T, Kd x) (hk : Kd k) : (T.map (mvV tm sh ex)).count (mvV tm sh ex k) = T.count k := by
 rw [List.count, List.count, List.countP_map]
 refine List.countP_congr fun z hz => ?_
 show (mvV tm sh ex z == mvV tm sh ex k) = true ↔ (z == k) = true
 rw [beq_iff_eq, beq_iff_eq]
 exact ⟨fun e => mv_inj ht (hT z hz) hk e, fun e => by rw [e]⟩
theorem mv_hk {T : List Int} {B : Nat} (h : HK T B) : HK (T.map (mvV tm sh ex)) T.length := by
 refine ⟨fun x hx => ?_, fun y => ?_, T.map (mvV tm sh ex), by simp, fun x hx _ => hx⟩
 ·obtain ⟨z, hz, rfl⟩ := List.mem_map.mp hx
  exact mv_kd (h.kd z hz)
 ·by_cases q : y ∈ T.map (mvV tm sh ex)
  ·obtain ⟨z, hz, rfl⟩ := List.mem_map.mp q
   rw [mv_count ht h.kd (h.kd z hz)]
   exact h.c4 z
  ·rw [List.count_eq_zero.mpr q]; decide
theorem mv_gt {T : List Int} {B : Nat} {k : Int} (h : HK T B) (hk : Kd k) : gt (cntL (T.map (mvV tm sh ex))) (mvV tm sh ex k) = gt (cntL T) k := by
 rw [hk_gt (mv_hk ht h) (kd_range (mv_kd hk)).1, hk_gt h (kd_range hk).1, mv_count ht h.kd hk]
theorem mv_cs {T : List Int} {B : Nat} (h : HK T B) : (cs true (cntL T)).Perm (cs true (cntL (T.map (mvV tm sh ex)))) := by
 have l9 : ∀ k ∈ ixs true, k ∈ loneI := by decide
 have e : cs true (cntL T) = ((ixs true).map (mvV tm sh ex)).map (gt (cntL (T.map (mvV tm sh ex)))) := by
  unfold cs
  rw [List.map_map]
  exact List.map_congr_left fun k hk => (mv_gt ht h (.inl (l9 k hk))).symm
 have e2 : (ixs true).map (mvV tm sh ex) = (ixs true).map (fun k => gt loneI (((loneI.idxOf k : Nat) * tm + sh % 9) % 9)) := List.map_congr_left fun k hk => mv_lone (l9 k hk)
 have hp := mv_perm tm ht ⟨(sh % 9).toNat, by lia⟩
 rw [List.isPerm_iff] at hp
 have e3 : (((sh % 9).toNat : Nat) : Int) = sh % 9 := by lia
 simp only [e3] at hp
 rw [e, e2]
 exact hp.map _
end
end
set_option tactic.hygienic true
set_option tactic.hygienic false
theorem any_pos (p : Int → Bool) (l : List Int) : l.any p = decide (0 < l.countP p) := by
 rw [Bool.eq_iff_iff, List.any_eq_true, decide_eq_true_iff, List.countP_pos_iff]
theorem base_perm {n : Int} {h h' : List Int} (p : (cs true h).Perm (cs true h')) : base true n h' = base true n h ∧ jdO true n h' = jdO true n h := by
 have k := fun q => p.countP_eq q
 have e34 : n34 (cs true h') = n34 (cs true h) := by unfold n34; rw [k]
 have e2 : n2 (cs true h') = n2 (cs true h) := by unfold n2; rw [k]
 have e4 : n4 (cs true h') = n4 (cs true h) := by unfold n4; rw [k]
 have e41 : a41 (cs true h') = a41 (cs true h) := by unfold a41; rw [any_pos, any_pos, k]
 have e1 : a1 (cs true h') = a1 (cs true h) := by unfold a1; rw [any_pos, any_pos, k]
 exact ⟨by unfold base; rw [e34, e2, e41, e1], by unfold jdO; rw [e4]⟩
theorem sH_shift {h h' : List Int} : ∀ {n : Nat} {d e : Int}, (∀ i : Int, 0 ≤ i → i < n → gt h' (d + i) = gt h (e + i)) → sH n d h' = sH n e h
 | 0, _, _, _ => rfl
 | n + 1, d, e, k => by
  have k0 := k 0 (Int.le_refl _) (by lia -abstractProof)
  rw [Int.add_zero, Int.add_zero] at k0
  rw [sH_cons, sH_cons, k0, sH_shift (d := d + 1) (e := e + 1) fun i h0 h1 => by
   have := k (i + 1) (by lia -abstractProof) (by lia -abstractProof)
   rw [show d + 1 + i = d + (i + 1) by lia -abstractProof, show e + 1 + i = e + (i + 1) by lia -abstractProof]; exact this]
theorem mv_r3 {tm sh : Int} {ex : Bool} (ht : tm ∈ tmL) {T : List Int} {B : Nat} {r : Int} (h : HK T B) (hl : T.length ≤ 14) (n3 : (T.length : Int).fmod 3 ≠ 0) (N : NumIs (suitsH 2 (cntL T)) (base true T.length (cntL T)) (jdO true T.length (cntL T)) r) : R3Is (T.map (mvV tm sh ex)) r := by
 obtain ⟨b1, b2⟩ := base_perm (n := T.length) (mv_cs (sh := sh) (ex := ex) ht h)
 refine r3_of (mv_hk ht h) (by rw [List.length_map]; exact hl) (by rw [List.length_map]; exact n3) ?_
 rw [List.length_map, b1, b2]
 have g : ∀ j : Int, 9 ≤ j → j < 27 → gt (cntL (T.map (mvV tm sh ex))) (if ex = false then j else if j < 18 then j + 9 else j - 9) = gt (cntL T) j := fun j h0 h1 => by
  have := mv_gt (sh := sh) (ex := ex) ht h (k := j) (.inr ⟨h0, h1⟩)
  rwa [mv_suit h0 h1] at this
 rw [suits2] at N ⊢
 cases ex with
 | false =>
  rw [sH_shift (h := cntL T) (d := 9) (e := 9) fun i h0 h1 => by simpa using g (9 + i) (by lia -abstractProof) (by lia -abstractProof), sH_shift (h := cntL T) (d := 18) (e := 18) fun i h0 h1 => by simpa using g (18 + i) (by lia -abstractProof) (by lia -abstractProof)]
  exact N
 | true =>
  have t : ¬ (true = false) := by decide
  rw [sH_shift (h := cntL T) (h' := cntL (T.map (mvV tm sh true))) (d := 9) (e := 18) fun i h0 h1 => by
   have := g (18 + i) (by lia -abstractProof) (by lia -abstractProof)
   rw [if_neg t, if_neg (by lia -abstractProof), show 18 + i - 9 = 9 + i by lia -abstractProof] at this; exact this, sH_shift (h := cntL T) (h' := cntL (T.map (mvV tm sh true))) (d := 18) (e := 9) fun i h0 h1 => by
   have := g (9 + i) (by lia -abstractProof) (by lia -abstractProof)
   rw [if_neg t, if_pos (by lia -abstractProof), show 9 + i + 9 = 18 + i by lia -abstractProof] at this; exact this]
  exact num_swap N
set_option tactic.hygienic true
set_option tactic.hygienic false
theorem dead_jd {n : Int} {h : List Int} : deadV n h = jdO true n h := by
 have e : deadN h = n4 (cs true h) := by
  unfold deadN n4 cs
  have hp : loneI.Perm (ixs true) := by decide
  rw [List.countP_map, ← hp.countP_eq, List.countP_eq_length_filter]
  rfl
 have := n4_nn (l := cs true h)
 unfold deadV jdO
 rw [e]
 by_cases q : n.fmod 3 = 2
 ·rw [if_pos q]
  by_cases z : n4 (cs true h) = 0
  ·rw [if_neg (fun c => c.1 z), z]; rfl
  ·rw [if_pos ⟨z, q⟩]; lia -abstractProof
 ·rw [if_neg q, if_neg (fun c => q c.2)]
theorem jd_le {n : Int} {h : List Int} : jdO false n h ≤ jdO true n h := by
 have a := n4_nn (l := cs false h)
 have b : n4 (cs true h) = n4 (cs false h) + n4 [gt h 0, gt h 8] := by
  rw [show cs true h = cs false h ++ [gt h 0, gt h 8] from rfl]; unfold n4; rw [List.countP_append]; lia -abstractProof
 have c := n4_nn (l := [gt h 0, gt h 8])
 unfold jdO
 split <;> split <;> lia -abstractProof
theorem man_num {h : List Int} {n jd r : Int} (H : H4 h) (hz : ∀ j : Int, 1 ≤ j → j ≤ 7 → gt h j = 0) (N : NumIs (suitsH 3 h) (base false n h) jd r) : NumIs (suitsH 2 h) (base true n h) jd r := by
 have key : ∀ b, HOut (suitsH 3 h) (base false n h) b ↔ HOut (suitsH 2 h) (base true n h) b := fun b => by
  constructor
  ·rintro ⟨c, h1, h2⟩
   have h1 : SOut (sH 9 0 h) (base false n h) c := h1
   rw [man_out H hz] at h1
   subst h1
   exact h2
  ·intro h2
   exact ⟨_, (man_out H hz).mpr rfl, h2⟩
 obtain ⟨a, b, c⟩ := N
 exact ⟨fun x hx => a x ((key x).mpr hx), b, c.imp id fun ⟨x, hx, e⟩ => ⟨x, (key x).mp hx, e⟩⟩
theorem lf_of {T : List Int} {m : Nat} (m1 : 1 ≤ m) (m4 : m ≤ 4) (hl : T.length = 3 * m + 2 ∨ T.length = 3 * m + 1) (hk : HK T (m + 3)) (hs : T.Pairwise (· ≤ ·)) : ∃ r3 r4, LF T r3 r4 := by
 have l14 : T.length ≤ 14 := by lia -abstractProof
 have n3 : (T.length : Int).fmod 3 ≠ 0 := by rw [Int.fmod_eq_emod_of_nonneg _ (by decide)]; lia -abstractProof
 have H := hk_h4 hk
 obtain ⟨r3, R3, N3⟩ := reg_num true (hk_len hk) (hk_nn hk) (hk_sum hk) (by lia -abstractProof) (show 42 ≤ 53 by decide)
 obtain ⟨r4, R4, N4⟩ := reg_num false (hk_len hk) (hk_nn hk) (hk_sum hk) (by lia -abstractProof) (show 42 ≤ 53 by decide)
 have N3 : NumIs (suitsH 2 (cntL T)) (base true T.length (cntL T)) (jdO true T.length (cntL T)) r3 := N3
 have N4 : NumIs (suitsH 3 (cntL T)) (base false T.length (cntL T)) (jdO false T.length (cntL T)) r4 := N4
 have hz : ∀ j : Int, 1 ≤ j → j ≤ 7 → gt (cntL T) j = 0 := fun j h0 h1 => hk_zero hk (by lia -abstractProof) fun hm => by
  rcases hk.kd _ hm with hm | hm
  ·have : ∀ k : Fin 7, ((k.1 : Int) + 1) ∉ loneI := by decide
   have := this ⟨(j - 1).toNat, by lia -abstractProof⟩
   rw [show (((j - 1).toNat : Nat) : Int) + 1 = j by lia -abstractProof] at this
   exact this hm
  ·lia -abstractProof
 have N4' := man_num H hz N4
 have t3 : totSS (suitsH 3 (cntL T)) + (cs false (cntL T)).sum = T.length := by rw [← sum_34 (hk_len hk), hk_sum hk]
 have t0 : totS (sH 9 0 (cntL T)) = gt (cntL T) 0 + gt (cntL T) 8 := by
  show gt (cntL T) 0 + (gt (cntL T) 1 + (gt (cntL T) 2 + (gt (cntL T) 3 + (gt (cntL T) 4 + (gt (cntL T) 5 + (gt (cntL T) 6 + (gt (cntL T) 7 + (gt (cntL T) 8 + 0)))))))) = _
  rw [hz 1 (by decide) (by decide), hz 2 (by decide) (by decide), hz 3 (by decide) (by decide), hz 4 (by decide) (by decide), hz 5 (by decide) (by decide), hz 6 (by decide) (by decide), hz 7 (by decide) (by decide)]
  lia -abstractProof
 have t2 : totSS (suitsH 2 (cntL T)) + (cs true (cntL T)).sum = T.length := by
  have e : (cs true (cntL T)).sum = (cs false (cntL T)).sum + (gt (cntL T) 0 + (gt (cntL T) 8 + 0)) := by
   rw [show cs true (cntL T) = cs false (cntL T) ++ [gt (cntL T) 0, gt (cntL T) 8] from rfl, List.sum_append]; rfl
  rw [tot_3, t0] at t3
  rw [e]; lia -abstractProof
 obtain ⟨p3, q3⟩ := m1_iff (z := true) H t2 (by lia -abstractProof) n3 N3
 obtain ⟨p4, q4⟩ := m1_iff (z := false) H t3 (by lia -abstractProof) n3 N4
 have tt : 0 ≤ totSS (suitsH 2 (cntL T)) := by
  have a := (nns_sH H (n := 9) (d := 9)).tot
  have b := (nns_sH H (n := 9) (d := 18)).tot
  show 0 ≤ totS (sH 9 9 (cntL T)) + (totS (sH 9 18 (cntL T)) + 0)
  lia -abstractProof
 have j8 : jdO true T.length (cntL T) ≤ 8 := by
  have a := (ok_sum (cs_mem (z := true) H)).1
  have b := n4_34 (l := cs true (cntL T))
  have c := n2_nn (l := cs true (cntL T))
  unfold jdO; split <;> lia -abstractProof
 have hm2 := jd_max N4' N3 p4 p3 jdO_nn jd_le j8
 have hsp : spl 15 T false = true ↔ r3 = -1 := (hk_split hk hs l14).trans q3.symm
 have h34 : r3 = -1 ↔ r4 = -1 := by
  have := jdO_nn (z := true) (n := T.length) (h := cntL T)
  rw [hm2]; split <;> lia -abstractProof
 have hreg : Reg (cntL T) ↔ r4 = -1 := by
  rw [q4]
  unfold Reg
  rw [show cs false (cntL T) = honL.map (gt (cntL T)) from rfl, List.forall_mem_map]
  rfl
 refine ⟨r3, r4, ⟨r3_of hk l14 n3 N3, R4, hsp, by rw [dead_jd]; exact hm2, fun tm sh ex ht => mv_r3 ht hk l14 n3 N3, fun l11 f f0 f1 fz => more_r3 hk f0 f1 fz l11 n3 N3, fun l11 => hk_free hk (by lia -abstractProof), H, hk_pr hk (by lia -abstractProof), hk_tw hk l14, ?_⟩⟩
 unfold Win
 rw [hreg, ← h34, ← hsp, two_c2 (hk_len hk)]
set_option tactic.hygienic true
theorem law11 : PySem.Challenge.rw_im0120_11.Holds := law_walk fun _ _ m1 m4 hl hk hs => lf_of m1 m4 hl hk hs
end Internal.Mj
theorem PySem.Challenge.cw_im0120_11_holds : PySem.Challenge.rw_im0120_11.Holds :=
  Internal.Mj.law11
