import PyProof.Rows.All
import Wide.All
import OpenK.AllK
import Wide.FinOn
import PySem.Challenge.RW_wf0066_01

open PySem PySem.Calls PySem.W PySem.Spec PyProof.Rows
set_option Elab.async false
set_option autoImplicit false
set_option maxRecDepth 100000
set_option genSizeOf false
set_option linter.unusedVariables false
namespace Mine
noncomputable section

/-- abstract values -/
inductive V where
  | val (v : Value)
  | int (i : Int)
  | bool (b : Bool)
  | str (x : Str)
  | ref (i : Nat)
/-- abstract objects -/
inductive O where
  | list (vs : List V)
  | tuple (vs : List V)
  | range (n : Nat)
  | dict (es : List (Int × V))

abbrev Hp := List O
abbrev Rho := List (Option V)

def VR (φ : List Addr) : V → Value → Prop
  | .val v, c => c = v
  | .int i, c => ∃ t, c = .int i t
  | .bool b, c => c = .bool b
  | .str x, c => ∃ t, c = .str x t
  | .ref i, c => ∃ a, φ[i]? = some a ∧ c = .ref a

set_option genInjectivity false
inductive All2 {α β : Type} (R : α → β → Prop) : List α → List β → Prop where
  | nil : All2 R [] []
  | cons {a b as bs} : R a b → All2 R as bs → All2 R (a :: as) (b :: bs)
theorem All2.mono {α β : Type} {R R' : α → β → Prop} {as : List α} {bs : List β} (h : All2 R as bs) (hr : ∀ a b, R a b → R' a b) : All2 R' as bs := by
  induction h with
  | nil => exact .nil
  | cons h _ ih => exact .cons (hr _ _ h) ih
theorem All2.length {α β : Type} {R : α → β → Prop} {as : List α} {bs : List β} (h : All2 R as bs) : as.length = bs.length := by
  induction h with
  | nil => rfl
  | cons _ _ ih => exact congrArg Nat.succ ih
theorem All2.get {α β : Type} {R : α → β → Prop} {as : List α} {bs : List β} (h : All2 R as bs) : ∀ {i : Nat} {a : α}, as[i]? = some a → ∃ b, bs[i]? = some b ∧ R a b := by
  induction h with
  | nil => intro i a e; cases e
  | @cons a b as bs h _ ih =>
    intro i c e
    cases i with
    | zero => cases e; exact ⟨b, rfl, h⟩
    | succ i => exact ih e
theorem All2.append {α β : Type} {R : α → β → Prop} {as as' : List α} {bs bs' : List β} (h : All2 R as bs) (h' : All2 R as' bs') : All2 R (as ++ as') (bs ++ bs') := by
  induction h with
  | nil => exact h'
  | cons h _ ih => exact .cons h ih
theorem All2.snoc {α β : Type} {R : α → β → Prop} {as : List α} {bs : List β} {a : α} {b : β} (h : All2 R as bs) (hr : R a b) : All2 R (as ++ [a]) (bs ++ [b]) := h.append (.cons hr .nil)
theorem All2.reverse {α β : Type} {R : α → β → Prop} {as : List α} {bs : List β} (h : All2 R as bs) : All2 R as.reverse bs.reverse := by
  induction h with
  | nil => exact .nil
  | cons h _ ih => rw [List.reverse_cons, List.reverse_cons]; exact ih.snoc h

def OR (φ : List Addr) : O → Obj → Prop
  | .list vs, ob => ∃ cs n, All2 (VR φ) vs cs ∧ ob = { cls := .type "list", data := .seq cs.toArray n }
  | .tuple vs, ob => ∃ cs n, All2 (VR φ) vs cs ∧ ob = { cls := .type "tuple", data := .seq cs.toArray n }
  | .range n, ob => ∃ t u v, ob = { cls := .type "range", data := .fields #[.int 0 t, .int n u, .int 1 v] }
  | .dict es, ob => ∃ (ces : Array DictEntry) (ep : Nat), ob.ExactDict ∧ ob.data = .dict ces ep ∧ (∀ c ∈ ces, ∃ k t, c.key = .int k t ∧ c.hash = hashInt k) ∧ All2 (fun (e : Int × V) (c : DictEntry) => (∃ t, c.key = .int e.1 t) ∧ VR φ e.2 c.val) es ces.toList ∧ (es.map (·.1)).Nodup

theorem pre_get {φ φ' : List Addr} {i : Nat} {a : Addr} (p : φ <+: φ') (h : φ[i]? = some a) : φ'[i]? = some a := by
  obtain ⟨ψ, rfl⟩ := p
  rw [List.getElem?_append_left (List.getElem?_eq_some_iff.mp h).1]; exact h
theorem VR.up {φ φ' : List Addr} (p : φ <+: φ') {v : V} {c : Value} (h : VR φ v c) : VR φ' v c := by
  cases v with
  | ref i => exact h.imp fun a h => ⟨pre_get p h.1, h.2⟩
  | _ => exact h
theorem OR.up {φ φ' : List Addr} (p : φ <+: φ') {o : O} {ob : Obj} (h : OR φ o ob) : OR φ' o ob := by
  cases o with
  | list vs => exact h.imp fun cs h => h.imp fun n h => ⟨h.1.mono fun _ _ => VR.up p, h.2⟩
  | tuple vs => exact h.imp fun cs h => h.imp fun n h => ⟨h.1.mono fun _ _ => VR.up p, h.2⟩
  | range n => exact h
  | dict es => exact h.imp fun cs h => h.imp fun n h => ⟨h.1, h.2.1, h.2.2.1, h.2.2.2.1.mono fun _ _ h => ⟨h.1, VR.up p h.2⟩, h.2.2.2.2⟩

/-- what stands fixed -/
structure Cx where
  prog : Program
  w : World
  K : Frag
  h₀ : Heap
  p : Program
  loose : List Str
  mean : ExcName → Option Value
  mg : Str → Option Value
  mb : Str → Option Value
  X : K.In h₀
  T : Top p loose mean mg mb h₀
  tabs : List Addr
  tq : Addr → Str
  fz : List (Addr × V)

variable {C : Cx}

/-- like a code record: its second field is a text -/
def Codey (q : Str) (o : Obj) : Prop := ∃ vs t, o.data = .fields vs ∧ vs[1]? = some (.str q t)
def NC (o : Obj) : Prop := ∀ q, ¬ Codey q o
theorem nc_of {o : Obj} (h : ∀ vs, o.data = .fields vs → ∀ q t, vs[1]? ≠ some (.str q t)) : NC o := fun q ⟨vs, t, h1, h2⟩ => h vs h1 q t h2
theorem OR.nc {φ : List Addr} {o : O} {ob : Obj} (h : OR φ o ob) : NC ob := nc_of fun vs e q t e2 => by
  cases o with
  | list xs => obtain ⟨cs, n, _, rfl⟩ := h; cases e
  | tuple xs => obtain ⟨cs, n, _, rfl⟩ := h; cases e
  | range n => obtain ⟨_, _, _, rfl⟩ := h; cases e; cases e2
  | dict es => obtain ⟨cs, n, _, h, _⟩ := h; rw [h] at e; cases e
/-- a table of codes: what it names are codes, and no one's own -/
def TabOK (C : Cx) (φ : List Addr) (h : Heap) (P : Addr) : Prop :=
  ∃ ps, h.get? P = some (tabObj ps) ∧ TriplesOk ps.toList ∧ ∀ pos cv, codeAmong pos ps.toList = some cv → ∃ c o, cv = .ref c ∧ c ∉ φ ∧ c ∉ C.tabs ∧ h.get? c = some o ∧ Codey (C.tq P) o

structure HR (C : Cx) (hp : Hp) (φ : List Addr) (s : Shared) : Prop where
  len : φ.length = hp.length
  obj : ∀ (i : Nat) (o : O) (a : Addr), hp[i]? = some o → φ[i]? = some a → ∃ ob, s.heap.get? a = some ob ∧ OR φ o ob
  nodup : φ.Nodup
  base : ∀ b o, C.h₀.get? b = some o → s.heap.get? b = some o
  fresh : ∀ a ∈ φ, C.h₀.get? a = none
  tab : ∀ P ∈ C.tabs, P ∉ φ ∧ C.h₀.get? P = none ∧ TabOK C φ s.heap P
  frz : ∀ p ∈ C.fz, ∃ c, VR φ p.2 c ∧ C.h₀.IsCell p.1 (some c)

theorem HR.live {hp : Hp} {φ : List Addr} {s : Shared} (H : HR C hp φ s) {a : Addr} (ha : a ∈ φ) : ∃ o, s.heap.get? a = some o := by
  obtain ⟨i, hi, rfl⟩ := List.mem_iff_getElem.mp ha
  exact (H.obj i _ _ (List.getElem?_eq_getElem (H.len ▸ hi)) (List.getElem?_eq_getElem hi)).imp fun _ h => h.1
theorem get_size (h : Heap) : h.get? h.objs.size = none := Heap.get?_none_of_le (Nat.le_refl _)
theorem dead_up {h h' : Heap} (k : ∀ b o, h.get? b = some o → ∃ o', h'.get? b = some o') {b : Addr} (e : h'.get? b = none) : h.get? b = none :=
  Option.eq_none_iff_forall_ne_some.mpr fun o q => (k b o q).elim fun o' e' => nomatch e.symm.trans e'
theorem HR.dead {hp : Hp} {φ : List Addr} {s : Shared} (H : HR C hp φ s) {b : Addr} (e : s.heap.get? b = none) : C.h₀.get? b = none := dead_up (fun b o q => ⟨o, H.base b o q⟩) e

/-- what an address is, that no one of ours needs -/
structure Free (C : Cx) (b : Addr) (φ own : List Addr) : Prop where
  phi : b ∉ φ
  own : b ∉ own
  tab : b ∉ C.tabs
  base : C.h₀.get? b = none

def Need (C : Cx) (φ : List Addr) (b : Addr) (o : Obj) : Prop := b ∈ φ ∨ (∃ o, C.h₀.get? b = some o) ∨ b ∈ C.tabs ∨ ∃ q, Codey q o
theorem Free.need {φ own : List Addr} {b : Addr} (F : Free C b φ own) {o : Obj} (hn : NC o) (h : Need C φ b o) : False :=
  h.elim F.phi fun h => h.elim (fun ⟨o, e⟩ => nomatch F.base.symm.trans e) fun h => h.elim F.tab fun ⟨q, e⟩ => hn q e
theorem HR.gen {hp : Hp} {φ : List Addr} {s s' : Shared} (H : HR C hp φ s) (k : ∀ b o, s.heap.get? b = some o → Need C φ b o → s'.heap.get? b = some o) : HR C hp φ s' where
  len := H.len
  obj i o a h1 h2 := (H.obj i o a h1 h2).imp fun ob h => ⟨k _ _ h.1 (.inl (List.mem_of_getElem? h2)), h.2⟩
  nodup := H.nodup
  base b o e := k _ _ (H.base b o e) (.inr (.inl ⟨o, e⟩))
  fresh := H.fresh
  tab P hP := ⟨(H.tab P hP).1, (H.tab P hP).2.1, (H.tab P hP).2.2.imp fun ps h => ⟨k _ _ h.1 (.inr (.inr (.inl hP))), h.2.1, fun pos cv e => (h.2.2 pos cv e).imp fun c x => x.imp fun o x => ⟨x.1, x.2.1, x.2.2.1, k _ _ x.2.2.2.1 (.inr (.inr (.inr ⟨_, x.2.2.2.2⟩))), x.2.2.2.2⟩⟩⟩
  frz := H.frz
theorem HR.heap {hp : Hp} {φ : List Addr} {s s' : Shared} (H : HR C hp φ s) (h : ∀ b o, s.heap.get? b = some o → s'.heap.get? b = some o) : HR C hp φ s' := H.gen fun b o e _ => h b o e
/-- only b turns, and b is no one's -/
theorem HR.ext {hp : Hp} {φ own : List Addr} {s s' : Shared} (H : HR C hp φ s) {b : Addr} {o : Obj} (hb : s.heap.get? b = some o) (hn : NC o) (F : Free C b φ own) (hs : ∀ c o, c ≠ b → s.heap.get? c = some o → s'.heap.get? c = some o) : HR C hp φ s' :=
  H.gen fun c o' e nd => hs c o' (fun q => by subst q; cases hb.symm.trans e; exact F.need hn nd) e
/-- a standing object comes to the ledger -/
theorem HR.push {hp : Hp} {φ own : List Addr} {s : Shared} (H : HR C hp φ s) {o : O} {ob : Obj} {a : Addr} (F : Free C a φ own) (hg : s.heap.get? a = some ob) (ho : OR φ o ob) : HR C (hp ++ [o]) (φ ++ [a]) s where
  len := by rw [List.length_append, List.length_append, H.len]; rfl
  obj i o' b h1 h2 := by
    by_cases hi : i < hp.length
    · rw [List.getElem?_append_left hi] at h1
      rw [List.getElem?_append_left (H.len ▸ hi)] at h2
      exact (H.obj i o' b h1 h2).imp fun _ h => ⟨h.1, h.2.up (List.prefix_append _ _)⟩
    · rw [List.getElem?_append_right (Nat.le_of_not_lt hi)] at h1
      rw [List.getElem?_append_right (H.len ▸ Nat.le_of_not_lt hi), H.len] at h2
      generalize i - hp.length = k at h1 h2
      cases k with
      | zero => cases h1; cases h2; exact ⟨ob, hg, ho.up (List.prefix_append _ _)⟩
      | succ k => cases h1
  nodup := List.nodup_append.mpr ⟨H.nodup, List.nodup_cons.mpr ⟨List.not_mem_nil, List.nodup_nil⟩, fun c hc d hd => fun e => F.phi (List.mem_singleton.mp hd ▸ e ▸ hc)⟩
  base := H.base
  fresh b hb := (List.mem_append.mp hb).elim (H.fresh b) fun hb => List.mem_singleton.mp hb ▸ F.base
  tab P hP := ⟨fun hm => (List.mem_append.mp hm).elim (H.tab P hP).1 fun hm => F.tab (List.mem_singleton.mp hm ▸ hP), (H.tab P hP).2.1, (H.tab P hP).2.2.imp fun ps h => ⟨h.1, h.2.1, fun pos cv e => (h.2.2 pos cv e).imp fun c x => x.imp fun o x => ⟨x.1, fun hm => (List.mem_append.mp hm).elim x.2.1 fun hm => by
    cases List.mem_singleton.mp hm; cases hg.symm.trans x.2.2.2.1; exact ho.nc _ x.2.2.2.2, x.2.2⟩⟩⟩
  frz p hp := (H.frz p hp).imp fun c h => ⟨h.1.up (List.prefix_append _ _), h.2⟩
/-- one object of the ledger turns -/
theorem HR.set {hp : Hp} {φ : List Addr} {s s' : Shared} (H : HR C hp φ s) {i : Nat} {a : Addr} {o : O} {ob : Obj} (ha : φ[i]? = some a) (hs : ∀ c, c ≠ a → s'.heap.get? c = s.heap.get? c) (hg : s'.heap.get? a = some ob) (ho : OR φ o ob) : HR C (hp.set i o) φ s' where
  len := by rw [List.length_set, H.len]
  obj j o' b h1 h2 := by
    by_cases hij : i = j
    · subst hij
      cases ha.symm.trans h2
      rw [List.getElem?_set_self (H.len ▸ (List.getElem?_eq_some_iff.mp ha).1)] at h1
      cases h1
      exact ⟨ob, hg, ho⟩
    · rw [List.getElem?_set_ne hij] at h1
      exact (H.obj j o' b h1 h2).imp fun ob' h => ⟨(hs b fun e => hij ((List.getElem?_inj (List.getElem?_eq_some_iff.mp ha).1 H.nodup).mp (ha.trans (e ▸ h2.symm)))).trans h.1, h.2⟩
  nodup := H.nodup
  base b o' e := (hs b fun q => by subst q; rw [H.fresh _ (List.mem_of_getElem? ha)] at e; cases e).trans (H.base b o' e)
  fresh := H.fresh
  tab P hP := ⟨(H.tab P hP).1, (H.tab P hP).2.1, (H.tab P hP).2.2.imp fun ps h => ⟨(hs P fun e => (H.tab P hP).1 (e ▸ List.mem_of_getElem? ha)).trans h.1, h.2.1, fun pos cv e => (h.2.2 pos cv e).imp fun c x => x.imp fun o x => ⟨x.1, x.2.1, x.2.2.1, (hs c fun e => x.2.1 (e ▸ List.mem_of_getElem? ha)).trans x.2.2.2.1, x.2.2.2.2⟩⟩⟩
  frz := H.frz

structure Step (C : Cx) (φ own : List Addr) (s : Shared) (φ' : List Addr) (s' : Shared) : Prop where
  ext : ∃ ψ, φ' = φ ++ ψ ∧ ∀ b ∈ ψ, s.heap.get? b = none
  live : ∀ b o, s.heap.get? b = some o → ∃ o', s'.heap.get? b = some o'
  keep : ∀ b o, b ∉ φ → b ∉ own → b ∉ C.tabs → s.heap.get? b = some o → s'.heap.get? b = some o
  same : ∃ h' tk', s' = { s with heap := h', toks := tk' }

theorem Step.pre {φ φ' own : List Addr} {s s' : Shared} (h : Step C φ own s φ' s') : φ <+: φ' := h.ext.imp fun _ h => h.1.symm
theorem Step.vr {φ φ' own : List Addr} {s s' : Shared} {v : V} {c : Value} (h : Step C φ own s φ' s') (r : VR φ v c) : VR φ' v c := r.up h.pre
theorem Step.dead {φ φ' own : List Addr} {s s' : Shared} (h : Step C φ own s φ' s') {b : Addr} (e : s'.heap.get? b = none) : s.heap.get? b = none := dead_up h.live e
theorem Step.notin {φ φ' own : List Addr} {s s' : Shared} (h : Step C φ own s φ' s') {b : Addr} {o : Obj} (e : s.heap.get? b = some o) (hn : b ∉ φ) : b ∉ φ' := fun hm => by
  obtain ⟨ψ, rfl, hψ⟩ := h.ext
  exact (List.mem_append.mp hm).elim hn fun hm => nomatch e.symm.trans (hψ b hm)
/-- a step within the same ledger -/
theorem Step.mk0 {φ own : List Addr} {s s' : Shared} (same : ∃ h' tk', s' = { s with heap := h', toks := tk' }) (k : ∀ b o, s.heap.get? b = some o → (∃ o', s'.heap.get? b = some o') ∧ (b ∉ φ → b ∉ own → b ∉ C.tabs → s'.heap.get? b = some o)) : Step C φ own s φ s' :=
  ⟨⟨[], (List.append_nil φ).symm, fun _ h => nomatch h⟩, fun b o e => (k b o e).1, fun b o n1 n2 n3 e => (k b o e).2 n1 n2 n3, same⟩
theorem Step.keeps {φ own : List Addr} {s s' : Shared} (hs : ∃ h' tk', s' = { s with heap := h', toks := tk' }) (h : ∀ b o, s.heap.get? b = some o → s'.heap.get? b = some o) : Step C φ own s φ s' :=
  Step.mk0 hs fun b o e => ⟨⟨o, h b o e⟩, fun _ _ _ => h b o e⟩
theorem Step.refl {φ own : List Addr} {s : Shared} : Step C φ own s φ s := Step.keeps ⟨_, _, rfl⟩ fun _ _ e => e
theorem Step.tok {φ own : List Addr} {s : Shared} (t : Nat) : Step C φ own s φ { s with toks := t } := Step.keeps ⟨_, _, rfl⟩ fun _ _ e => e
/-- one object of the ledger, or of the own, turns -/
theorem Step.one {φ own : List Addr} {s s' : Shared} {a : Addr} {ob : Obj} (hm : a ∈ φ ∨ a ∈ own) (same : ∃ h' tk', s' = { s with heap := h', toks := tk' }) (hs : ∀ c, c ≠ a → s'.heap.get? c = s.heap.get? c) (hg : s'.heap.get? a = some ob) : Step C φ own s φ s' :=
  Step.mk0 same fun b o e => by
    by_cases q : b = a
    · subst q; exact ⟨⟨ob, hg⟩, fun n1 n2 _ => (hm.elim n1 n2).elim⟩
    · exact ⟨⟨o, (hs b q).trans e⟩, fun _ _ _ => (hs b q).trans e⟩
theorem Step.trans {φ φ' φ'' own : List Addr} {s s' s'' : Shared} (h : Step C φ own s φ' s') (h' : Step C φ' own s' φ'' s'') : Step C φ own s φ'' s'' := by
  refine ⟨?_, fun b o e => (h.live b o e).elim fun o' e' => h'.live b o' e', fun b o n1 n2 n3 e => h'.keep b o (h.notin e n1) n2 n3 (h.keep b o n1 n2 n3 e), ?_⟩
  · obtain ⟨ψ, rfl, hψ⟩ := h.ext
    obtain ⟨ψ', rfl, hψ'⟩ := h'.ext
    exact ⟨ψ ++ ψ', List.append_assoc _ _ _, fun b hb => (List.mem_append.mp hb).elim (hψ b) fun hb => h.dead (hψ' b hb)⟩
  · obtain ⟨h1, t1, rfl⟩ := h.same
    obtain ⟨h2, t2, rfl⟩ := h'.same
    exact ⟨h2, t2, rfl⟩
/-- what is new, or of the base, may be left out of the own -/
theorem Step.drop {φ φ' own own' : List Addr} {s s' : Shared} (h : Step C φ own s φ' s') (hs : ∀ b ∈ own, b ∈ own' ∨ s.heap.get? b = none) : Step C φ own' s φ' s' :=
  ⟨h.ext, h.live, fun b o n1 n2 n3 e => h.keep b o n1 (fun hm => (hs b hm).elim n2 fun q => nomatch e.symm.trans q) n3 e, h.same⟩
theorem Step.weak {φ φ' own own' : List Addr} {s s' : Shared} (h : Step C φ own s φ' s') (hs : ∀ b ∈ own, b ∈ own') : Step C φ own' s φ' s' := h.drop fun b hb => .inl (hs b hb)
theorem Step.own0 {φ φ' own : List Addr} {s s' : Shared} (h : Step C φ [] s φ' s') : Step C φ own s φ' s' := h.weak fun _ hb => nomatch hb


theorem Step.add {φ own : List Addr} {s s' : Shared} {a : Addr} (hs : ∃ h' tk', s' = { s with heap := h', toks := tk' }) (h : ∀ b o, s.heap.get? b = some o → s'.heap.get? b = some o) (hn : s.heap.get? a = none) : Step C φ own s (φ ++ [a]) s' :=
  ⟨⟨[a], rfl, fun b hb => List.mem_singleton.mp hb ▸ hn⟩, fun b o e => ⟨o, h b o e⟩, fun b o _ _ _ e => h b o e, hs⟩

/-- an object of no one's stands -/
structure Has (C : Cx) (φ own : List Addr) (s : Shared) (b : Addr) (o : Obj) : Prop where
  free : Free C b φ own
  at_ : s.heap.get? b = some o
theorem Has.step {φ φ' own own' : List Addr} {s s' : Shared} {b : Addr} {o : Obj} (h : Has C φ own s b o) (S : Step C φ own' s φ' s') (hs : ∀ c ∈ own', c ∈ own) : Has C φ' own s' b o :=
  ⟨⟨S.notin h.at_ h.free.phi, h.free.own, h.free.tab, h.free.base⟩, S.keep b o h.free.phi (fun hm => h.free.own (hs b hm)) h.free.tab h.at_⟩

/-! the names -/
def Holds (env : Env) (x : Str) (c : Value) (h : Heap) : Prop :=
  (env.kindOf x = some .local ∧ ∃ m, h.Ns env.locals m ∧ m x = some c) ∨
  ((env.kindOf x = some .cell ∨ env.kindOf x = some .free) ∧ ∃ a, env.cells.lookup x = some a ∧ h.IsCell a (some c))
abbrev ownOf (env : Env) : List Addr := env.locals :: env.cells.map (·.2)

structure EnvOK (C : Cx) (env : Env) (ns : List Str) : Prop where
  kind : env.scope.kind = .function
  glob : env.globals = mainGlobals
  blt : env.builtins = builtinsNs
  apart : (ownOf env).Nodup
  names : ∀ x ∈ ns, (x == ("__debug__" : Str)) = false ∧ (x == ("__classdict__" : Str)) = false
  nsND : ns.Nodup
  kinds : ∀ x ∈ ns, env.kindOf x = some .local ∨ (env.kindOf x = some .cell ∧ ∃ a, env.cells.lookup x = some a ∧ C.h₀.get? a = none)
  locF : C.h₀.get? env.locals = none
  tabs : ∀ b ∈ ownOf env, b ∉ C.tabs
structure ER (C : Cx) (env : Env) (ns : List Str) (ρ : Rho) (φ : List Addr) (s : Shared) : Prop where
  st : EnvOK C env ns
  var : ∀ (i : Nat) (x : Str) (v : V), ns[i]? = some x → ρ[i]? = some (some v) → ∃ c, VR φ v c ∧ Holds env x c s.heap
  loc : ∃ m, s.heap.Ns env.locals m
  cel : ∀ x a, env.cells.lookup x = some a → ∃ v, s.heap.IsCell a v
  out : ∀ b ∈ ownOf env, b ∉ φ ∧ ∃ o, s.heap.get? b = some o

theorem mem_own_cell {env : Env} {x : Str} {a : Addr} (h : env.cells.lookup x = some a) : a ∈ ownOf env :=
  List.mem_cons_of_mem _ (List.mem_map.mpr ⟨(x, a), mem_of_lookup h, rfl⟩)
theorem Ns_keep {h h' : Heap} {a : Addr} {m : Str → Option Value} (x : h.Ns a m) (k : ∀ o, h.get? a = some o → h'.get? a = some o) : h'.Ns a m := x.imp fun o x => x.imp fun es x => x.imp fun ep x => ⟨k _ x.1, x.2⟩
theorem Cell_keep {h h' : Heap} {a : Addr} {v : Option Value} (x : h.IsCell a v) (k : ∀ o, h.get? a = some o → h'.get? a = some o) : h'.IsCell a v := x.imp fun o x => ⟨k _ x.1, x.2⟩

/-- what leaves the own as it was leaves the names as they were -/
theorem ER.kp {env : Env} {ns : List Str} {ρ : Rho} {φ φ' : List Addr} {s s' : Shared} (R : ER C env ns ρ φ s) (kp : ∀ b ∈ ownOf env, ∀ o, s.heap.get? b = some o → s'.heap.get? b = some o) (pr : φ <+: φ') (hn : ∀ b o, s.heap.get? b = some o → b ∉ φ → b ∉ φ') : ER C env ns ρ φ' s' where
  st := R.st
  var i x v h1 h2 := (R.var i x v h1 h2).imp fun c h => ⟨h.1.up pr, h.2.imp (fun h => ⟨h.1, h.2.imp fun m h => ⟨Ns_keep h.1 (kp _ List.mem_cons_self), h.2⟩⟩) fun h => ⟨h.1, h.2.imp fun a h => ⟨h.1, Cell_keep h.2 (kp _ (mem_own_cell h.1))⟩⟩⟩
  loc := R.loc.imp fun m h => Ns_keep h (kp _ List.mem_cons_self)
  cel x a hx := (R.cel x a hx).imp fun v h => Cell_keep h (kp _ (mem_own_cell hx))
  out b hb := (R.out b hb).elim fun n h => h.elim fun o e => ⟨hn b o e n, o, kp b hb o e⟩
theorem ER.step {env : Env} {ns : List Str} {ρ : Rho} {φ φ' own : List Addr} {s s' : Shared} (R : ER C env ns ρ φ s) (S : Step C φ own s φ' s') (hd : ∀ b ∈ ownOf env, b ∉ own) : ER C env ns ρ φ' s' :=
  R.kp (fun b hb o e => S.keep b o (R.out b hb).1 (hd b hb) (R.st.tabs b hb) e) S.pre fun b o e n => S.notin e n
theorem ER.step0 {env : Env} {ns : List Str} {ρ : Rho} {φ φ' : List Addr} {s s' : Shared} (R : ER C env ns ρ φ s) (S : Step C φ [] s φ' s') : ER C env ns ρ φ' s' := R.step S fun _ _ h => nomatch h
/-- a dead address is free -/
theorem free_of {env : Env} {ns : List Str} {φ : List Addr} {ρ : Rho} {hp : Hp} {s : Shared} (R : ER C env ns ρ φ s) (H : HR C hp φ s) {I : Addr} (h0 : s.heap.get? I = none) : Free C I φ (ownOf env) where
  phi hm := (H.live hm).elim fun o e => nomatch h0.symm.trans e
  own hm := (R.out I hm).2.elim fun o e => nomatch h0.symm.trans e
  tab hm := (H.tab I hm).2.2.elim fun ps h => nomatch h0.symm.trans h.1
  base := H.dead h0

structure Room (A : Around) (n : Nat) : Prop where
  hand : A.handled = none
  dep : A.depth + n < recursionLimit
  uni : A.units + 8 * n < cLine
theorem Room.deeper {A : Around} {n : Nat} (h : Room A (n + 1)) (env : Env) : Room (A.deeper env) n := ⟨h.hand, by have := h.dep; simp only [Around.deeper]; omega, by have := h.uni; simp only [Around.deeper_units]; omega⟩

/-! the judgements -/
abbrev noE : Value → Shared → Prop := fun _ _ => False
def PV (C : Cx) (φ : List Addr) (s : Shared) (v : V) (hp' : Hp) : Value → Shared → Prop := fun c s' => ∃ φ', Step C φ [] s φ' s' ∧ HR C hp' φ' s' ∧ VR φ' v c
def PVs (C : Cx) (φ : List Addr) (s : Shared) (vs : List V) (hp' : Hp) : List Value → Shared → Prop := fun cs s' => ∃ φ', Step C φ [] s φ' s' ∧ HR C hp' φ' s' ∧ All2 (VR φ') vs cs
def PB (C : Cx) (φ : List Addr) (s : Shared) (b : Bool) (hp' : Hp) : Bool → Shared → Prop := fun c s' => c = b ∧ ∃ φ', Step C φ [] s φ' s' ∧ HR C hp' φ' s'

abbrev FV := Rho → Hp → Option (V × Hp)
abbrev FVs := Rho → Hp → Option (List V × Hp)
abbrev FB := Rho → Hp → Option (Bool × Hp)
inductive Fl where
  | next | brk | cont | ret (v : V)
abbrev FS := Rho → Hp → Option (Fl × Rho × Hp)
def FR (φ : List Addr) : Fl → Flow → Prop
  | .next, c => c = .next
  | .brk, c => c = .brk
  | .cont, c => c = .cont
  | .ret v, c => ∃ cv, c = .ret cv ∧ VR φ v cv

def Ev (C : Cx) (n : Nat) (env : Env) (ns : List Str) (e : Expr) (f : FV) : Prop :=
  ∀ A s φ ρ hp v hp', Room A n → ER C env ns ρ φ s → HR C hp φ s → f ρ hp = some (v, hp') → wpAny (model C.prog C.w) A (eval e env) (PV C φ s v hp') noE s
structure Evs (C : Cx) (n : Nat) (env : Env) (ns : List Str) (es : List Expr) (f : FVs) : Prop where
  plain : ∀ pos, (backTo pos (starEach es env)).any (·.1) = false
  run : ∀ A s φ ρ hp vs hp' pos, Room A n → ER C env ns ρ φ s → HR C hp φ s → f ρ hp = some (vs, hp') → wpAny (model C.prog C.w) A (spliced (backTo pos (starEach es env))) (PVs C φ s vs hp') noE s
def Tr (C : Cx) (n : Nat) (env : Env) (ns : List Str) (e : Expr) (f : FB) : Prop :=
  ∀ A s φ ρ hp b hp', Room A n → ER C env ns ρ φ s → HR C hp φ s → f ρ hp = some (b, hp') → wpAny (model C.prog C.w) A (PySem.isTrue e env (eval e env)) (PB C φ s b hp') noE s
/-- where a walk stands, seen from where it began -/
structure At (C : Cx) (env : Env) (ns : List Str) (ρ : Rho) (φ₀ own : List Addr) (s₀ : Shared) (φ : List Addr) (hp : Hp) (s : Shared) : Prop where
  S : Step C φ₀ own s₀ φ s
  R : ER C env ns ρ φ s
  H : HR C hp φ s
def PS (C : Cx) (env : Env) (ns : List Str) (φ : List Addr) (s : Shared) (fl : Fl) (ρ' : Rho) (hp' : Hp) : Flow → Shared → Prop := fun c s' => ∃ φ', At C env ns ρ' φ (ownOf env) s φ' hp' s' ∧ FR φ' fl c
def Ex (C : Cx) (n : Nat) (env : Env) (ns : List Str) (st : Stmt) (f : FS) : Prop :=
  ∀ A s φ ρ hp fl ρ' hp', Room A n → ER C env ns ρ φ s → HR C hp φ s → f ρ hp = some (fl, ρ', hp') → wpAny (model C.prog C.w) A (exec st env) (PS C env ns φ s fl ρ' hp') noE s
def Exs (C : Cx) (n : Nat) (env : Env) (ns : List Str) (sts : List Stmt) (f : FS) : Prop :=
  ∀ A s φ ρ hp fl ρ' hp', Room A n → ER C env ns ρ φ s → HR C hp φ s → f ρ hp = some (fl, ρ', hp') → wpAny (model C.prog C.w) A (execs sts env) (PS C env ns φ s fl ρ' hp') noE s
def Fn (C : Cx) (n : Nat) (fv : Value) (F : List V → Hp → Option (V × Hp)) : Prop :=
  ∀ A s φ hp vs cs v hp', Room A n → HR C hp φ s → All2 (VR φ) vs cs → F vs hp = some (v, hp') → wpAny (model C.prog C.w) A (call fv cs) (PV C φ s v hp') noE s

theorem wpF {α : Type} {M : Model} {A : Around} {s : Shared} {t : Sem α} {Q Q' : α → Shared → Prop} {E : Value → Shared → Prop} (h : wpAny M A t Q noE s) (hq : ∀ a s', Q a s' → Q' a s') : wpAny M A t Q' E s :=
  wpAny_mono h hq fun _ _ e => e.elim

/-! binds -/
section
variable {β : Type}
def bV (x : Option (V × Hp)) (k : V → Hp → Option β) : Option β := match x with
  | some (v, hp) => k v hp
  | none => none
def onI (v : V) (k : Int → Option β) : Option β := match v with
  | .int i => k i
  | _ => none
def onR (v : V) (k : Nat → Option β) : Option β := match v with
  | .ref i => k i
  | _ => none
def onS (v : V) (k : Str → Option β) : Option β := match v with
  | .str i => k i
  | _ => none
abbrev bI (x : Option (V × Hp)) (k : Int → Hp → Option β) : Option β := bV x fun v hp => onI v fun i => k i hp
abbrev bR (x : Option (V × Hp)) (k : Nat → Hp → Option β) : Option β := bV x fun v hp => onR v fun i => k i hp
abbrev bSt (x : Option (V × Hp)) (k : Str → Hp → Option β) : Option β := bV x fun v hp => onS v fun i => k i hp
def bVs (x : Option (List V × Hp)) (k : List V → Hp → Option β) : Option β := match x with
  | some (v, hp) => k v hp
  | none => none
def bB (x : Option (Bool × Hp)) (k : Bool → Hp → Option β) : Option β := match x with
  | some (v, hp) => k v hp
  | none => none
def bL (x : Option O) (k : List V → Option β) : Option β := match x with
  | some (.list xs) => k xs
  | _ => none
def bG (p : Prop) [Decidable p] (x : Option β) : Option β := if p then x else none
theorem bV_inv {x : Option (V × Hp)} {k : V → Hp → Option β} {r : β} (e : bV x k = some r) : ∃ v hp, x = some (v, hp) ∧ k v hp = some r := match x, e with
  | some (v, hp), e => ⟨v, hp, rfl, e⟩
theorem onI_inv {v : V} {k : Int → Option β} {r : β} (e : onI v k = some r) : ∃ i, v = .int i ∧ k i = some r := by
  cases v <;> first | exact ⟨_, rfl, e⟩ | cases e
theorem onR_inv {v : V} {k : Nat → Option β} {r : β} (e : onR v k = some r) : ∃ i, v = .ref i ∧ k i = some r := by
  cases v <;> first | exact ⟨_, rfl, e⟩ | cases e
theorem onS_inv {v : V} {k : Str → Option β} {r : β} (e : onS v k = some r) : ∃ i, v = .str i ∧ k i = some r := by
  cases v <;> first | exact ⟨_, rfl, e⟩ | cases e
theorem bVs_inv {x : Option (List V × Hp)} {k : List V → Hp → Option β} {r : β} (e : bVs x k = some r) : ∃ v hp, x = some (v, hp) ∧ k v hp = some r := match x, e with
  | some (v, hp), e => ⟨v, hp, rfl, e⟩
theorem bB_inv {x : Option (Bool × Hp)} {k : Bool → Hp → Option β} {r : β} (e : bB x k = some r) : ∃ v hp, x = some (v, hp) ∧ k v hp = some r := match x, e with
  | some (v, hp), e => ⟨v, hp, rfl, e⟩
theorem bL_inv {x : Option O} {k : List V → Option β} {r : β} (e : bL x k = some r) : ∃ xs, x = some (.list xs) ∧ k xs = some r := match x, e with
  | some (.list xs), e => ⟨xs, rfl, e⟩
theorem bLE {x : Option O} {k : List V → Option β} {r : β} {G : Prop} (e : bL x k = some r) (h : ∀ xs, x = some (.list xs) → k xs = some r → G) : G := (bL_inv e).elim fun xs q => h xs q.1 q.2
theorem bGE {p : Prop} [i : Decidable p] {x : Option β} {r : β} {G : Prop} (e : bG p x = some r) (h : p → x = some r → G) : G := match i, e with
  | .isTrue q, e => h q e

variable {n : Nat} {env : Env} {ns : List Str} {ρ : Rho} {φ₀ own : List Addr} {s₀ : Shared} {φ : List Addr} {hp : Hp} {s : Shared} {A : Around} {ex : Expr} {f : FV} {r : β} {E : Value → Shared → Prop} {Q : Value → Shared → Prop}
theorem At.start (R : ER C env ns ρ φ s) (H : HR C hp φ s) : At C env ns ρ φ own s φ hp s := ⟨Step.refl, R, H⟩
theorem At.then_ (X : At C env ns ρ φ₀ own s₀ φ hp s) {φ' : List Addr} {hp' : Hp} {s' : Shared} (S : Step C φ [] s φ' s') (H : HR C hp' φ' s') : At C env ns ρ φ₀ own s₀ φ' hp' s' := ⟨X.S.trans S.own0, X.R.step0 S, H⟩
theorem At.pv (X : At C env ns ρ φ₀ [] s₀ φ hp s) {v : V} {c : Value} (r : VR φ v c) : PV C φ₀ s₀ v hp c s := ⟨φ, X.S, X.H, r⟩
theorem At.ps (X : At C env ns ρ φ₀ (ownOf env) s₀ φ hp s) {fl : Fl} {c : Flow} (r : FR φ fl c) : PS C env ns φ₀ s₀ fl ρ hp c s := ⟨φ, X, r⟩
theorem evV (hf : Ev C n env ns ex f) (hr : Room A n) (X : At C env ns ρ φ₀ own s₀ φ hp s) {k : V → Hp → Option β} (e : bV (f ρ hp) k = some r)
    (h : ∀ c s' φ' v hp', At C env ns ρ φ₀ own s₀ φ' hp' s' → φ <+: φ' → VR φ' v c → k v hp' = some r → Q c s') : wpAny (model C.prog C.w) A (eval ex env) Q E s :=
  (bV_inv e).elim fun v q => q.elim fun hp' q => wpF (hf A s φ ρ hp v hp' hr X.R X.H q.1) fun c s' ⟨φ', S, H, r⟩ => h c s' φ' v hp' (X.then_ S H) S.pre r q.2
theorem evI (hf : Ev C n env ns ex f) (hr : Room A n) (X : At C env ns ρ φ₀ own s₀ φ hp s) {k : Int → Hp → Option β} (e : bI (f ρ hp) k = some r)
    (h : ∀ t s' φ' v hp', At C env ns ρ φ₀ own s₀ φ' hp' s' → φ <+: φ' → k v hp' = some r → Q (.int v t) s') : wpAny (model C.prog C.w) A (eval ex env) Q E s :=
  evV hf hr X e fun c s' φ' v hp' X' p r1 e => (onI_inv e).elim fun i q => by
    cases q.1; exact r1.elim fun t r1 => r1 ▸ h t s' φ' i hp' X' p q.2
theorem evR (hf : Ev C n env ns ex f) (hr : Room A n) (X : At C env ns ρ φ₀ own s₀ φ hp s) {k : Nat → Hp → Option β} (e : bR (f ρ hp) k = some r)
    (h : ∀ a s' φ' v hp', At C env ns ρ φ₀ own s₀ φ' hp' s' → φ <+: φ' → φ'[v]? = some a → k v hp' = some r → Q (.ref a) s') : wpAny (model C.prog C.w) A (eval ex env) Q E s :=
  evV hf hr X e fun c s' φ' v hp' X' p r1 e => (onR_inv e).elim fun i q => by
    cases q.1; exact r1.elim fun a r1 => r1.2 ▸ h a s' φ' i hp' X' p r1.1 q.2
theorem evSt (hf : Ev C n env ns ex f) (hr : Room A n) (X : At C env ns ρ φ₀ own s₀ φ hp s) {k : Str → Hp → Option β} (e : bSt (f ρ hp) k = some r)
    (h : ∀ t s' φ' v hp', At C env ns ρ φ₀ own s₀ φ' hp' s' → φ <+: φ' → k v hp' = some r → Q (.str v t) s') : wpAny (model C.prog C.w) A (eval ex env) Q E s :=
  evV hf hr X e fun c s' φ' v hp' X' p r1 e => (onS_inv e).elim fun i q => by
    cases q.1; exact r1.elim fun t r1 => r1 ▸ h t s' φ' i hp' X' p q.2
theorem evB {t : FB} (hf : Tr C n env ns ex t) (hr : Room A n) (X : At C env ns ρ φ₀ own s₀ φ hp s) {Q : Bool → Shared → Prop} {k : Bool → Hp → Option β} (e : bB (t ρ hp) k = some r)
    (h : ∀ b s' φ' hp', At C env ns ρ φ₀ own s₀ φ' hp' s' → φ <+: φ' → k b hp' = some r → Q b s') : wpAny (model C.prog C.w) A (PySem.isTrue ex env (eval ex env)) Q E s :=
  (bB_inv e).elim fun v q => q.elim fun hp' q => wpF (hf A s φ ρ hp _ hp' hr X.R X.H q.1) fun c s' ⟨r, φ', S, H⟩ => r ▸ h v s' φ' hp' (X.then_ S H) S.pre q.2
theorem evVs {es : List Expr} {g : FVs} (hf : Evs C n env ns es g) (pos : Pos) (hr : Room A n) (X : At C env ns ρ φ₀ own s₀ φ hp s) {Q : List Value → Shared → Prop} {k : List V → Hp → Option β} (e : bVs (g ρ hp) k = some r)
    (h : ∀ cs s' φ' vs hp', At C env ns ρ φ₀ own s₀ φ' hp' s' → φ <+: φ' → All2 (VR φ') vs cs → k vs hp' = some r → Q cs s') : wpAny (model C.prog C.w) A (spliced (backTo pos (starEach es env))) Q E s :=
  (bVs_inv e).elim fun v q => q.elim fun hp' q => wpF (hf.run A s φ ρ hp _ hp' pos hr X.R X.H q.1) fun c s' ⟨φ', S, H, r⟩ => h c s' φ' v hp' (X.then_ S H) S.pre r q.2
theorem pvS {t : Sem Value} {v : V} {hp' : Hp} (S : Step C φ₀ [] s₀ φ s) (h : wpAny (model C.prog C.w) A t (PV C φ s v hp') noE s) : wpAny (model C.prog C.w) A t (PV C φ₀ s₀ v hp') noE s :=
  wpF h fun _ _ ⟨φ', S', H, r⟩ => ⟨φ', S.trans S', H, r⟩
end
end
end Mine

open PySem PySem.Calls PySem.W PySem.Spec PyProof.Rows
set_option Elab.async false
set_option autoImplicit false
set_option maxRecDepth 100000
set_option genSizeOf false
set_option linter.unusedVariables false
namespace Mine
noncomputable section
variable {C : Cx} {n : Nat} {env : Env} {ns : List Str}

def getR (ρ : Rho) (i : Nat) : Option V := match ρ[i]? with
  | some (some v) => some v
  | _ => none
theorem getR_some {ρ : Rho} {i : Nat} {v : V} (h : getR ρ i = some v) : ρ[i]? = some (some v) := by
  unfold getR at h
  revert h
  cases ρ[i]? with
  | none => intro h; cases h
  | some o => cases o with
    | none => intro h; cases h
    | some u => intro h; cases h; rfl

theorem VR.int {φ : List Addr} {i : Int} {t : Tok} : VR φ (.int i) (.int i t) := ⟨t, rfl⟩
theorem VR.strI {φ : List Addr} {i : Str} {t : Tok} : VR φ (.str i) (.str i t) := ⟨t, rfl⟩
theorem PV.tok {φ : List Addr} {s : Shared} {v : V} {hp : Hp} {c : Value} (H : HR C hp φ s) (t : Nat) (h : VR φ v c) : PV C φ s v hp c { s with toks := t } := ⟨φ, Step.tok t, H.heap fun _ _ e => e, h⟩
theorem PV.same {φ : List Addr} {s : Shared} {v : V} {hp : Hp} {c : Value} (H : HR C hp φ s) (h : VR φ v c) : PV C φ s v hp c s := ⟨φ, Step.refl, H, h⟩

theorem Ev_int {i : Int} {k : Nat} {pos : Pos} : Ev C n env ns (.Constant (.int i) k pos) (fun _ hp => some (.int i, hp)) :=
  fun A s φ ρ hp v hp' _ _ H e => by cases e; exact wpAny_Constant_int (PV.tok H _ VR.int)
theorem Ev_str {x : Str} {k : Nat} {pos : Pos} : Ev C n env ns (.Constant (.str x) k pos) (fun _ hp => some (.str x, hp)) :=
  fun A s φ ρ hp v hp' _ _ H e => by cases e; exact wpAny_Constant_str (PV.tok H _ VR.strI)
theorem Ev_bool {b : Bool} {k : Nat} {pos : Pos} : Ev C n env ns (.Constant (.bool b) k pos) (fun _ hp => some (.bool b, hp)) :=
  fun A s φ ρ hp v hp' _ _ H e => by cases e; exact wpAny_Constant_bool (PV.same H rfl)

theorem loadVar {A : Around} {s : Shared} {φ : List Addr} {ρ : Rho} {i : Nat} {x : Str} {v : V} {Q : Value → Shared → Prop} {E : Value → Shared → Prop} (R : ER C env ns ρ φ s) (hx : ns[i]? = some x) (e : getR ρ i = some v) (h : ∀ c, VR φ v c → Q c s) : wpAny (model C.prog C.w) A (loadName env x) Q E s := by
  have hn := R.st.names x (List.mem_of_getElem? hx)
  refine (R.var i x v hx (getR_some e)).elim fun c hc => ?_
  have hq := h c hc.1
  rcases hc.2 with ⟨k, m, hm, e⟩ | ⟨k | k, a, ha, e⟩
  · exact wpAny_loadName_local R.st.kind k hm e hq
  · exact wpAny_loadName_cell R.st.kind k ha e hq
  · exact wpAny_loadName_free R.st.kind k ha e hq hn.2
theorem Ev_var (i : Nat) {x : Str} {pos : Pos} (hx : ns[i]? = some x) : Ev C n env ns (.Name x pos) (fun ρ hp => (getR ρ i).map fun v => (v, hp)) := by
  intro A s φ ρ hp v hp' _ R H e
  refine (Option.map_eq_some_iff.mp e).elim fun u q => ?_
  cases q.2
  exact wpAny_Name (loadVar R hx q.1 fun c hc => PV.same H hc) (R.st.names x (List.mem_of_getElem? hx)).1

/-- a name of the top, or of the built-ins -/
structure TopN (C : Cx) (env : Env) (x : Str) : Prop where
  kind : env.kindOf x = some .globalImplicit
  dbg : (x == ("__debug__" : Str)) = false
theorem Ev_glob {x : Str} {pos : Pos} {c : Value} (v : V) (hn : TopN C env x) (hc : nsIn C.K mainGlobals x = some (some c)) (hv : VR [] v c) : Ev C n env ns (.Name x pos) (fun _ hp => some (v, hp)) := by
  intro A s φ ρ hp v' hp' _ R H e
  cases e
  refine Name_function_global R.st.kind hn.kind (loadGlobal_global (mg := C.mg) ?_ (mg_of C.X C.T.g hc) (PV.same H (hv.up (List.nil_prefix)))) hn.dbg
  rw [R.st.glob]; exact C.T.g.keeps H.base
theorem Ev_bi {x : Str} {pos : Pos} {c : Value} (hn : TopN C env x) (hg : nsIn C.K mainGlobals x = some none) (hb : bootBuiltins x = some c) (hx : x ≠ "__name__") : Ev C n env ns (.Name x pos) (fun _ hp => some (.val c, hp)) := by
  intro A s φ ρ hp v' hp' _ R H e
  cases e
  refine Name_function_global R.st.kind hn.kind (loadGlobal_builtin (mg := C.mg) (mb := C.mb) ?_ (mg_none_of C.X C.T.g hg) ?_ ((C.T.builtins x hx).trans hb) (PV.same H rfl)) hn.dbg
  · rw [R.st.glob]; exact C.T.g.keeps H.base
  · rw [R.st.blt]; exact C.T.b.keeps H.base

/-! arithmetic -/
def small (a : Int) : Bool := decide (a.natAbs < 2 ^ 60)
def binI : Operator → Int → Int → Option Int
  | .Add => fun a b => some (a + b)
  | .Sub => fun a b => some (a - b)
  | .Mult => fun a b => bG ((small b || small a) = true) (some (a * b))
  | .FloorDiv => fun a b => bG (b ≠ 0 ∧ b.natAbs < 2 ^ 30) (some (a.fdiv b))
  | .Mod => fun a b => bG (b ≠ 0) (some (a.fmod b))
  | .Pow => fun a b => bG (0 ≤ b ∧ b ≤ 1000 ∧ a.natAbs < 2 ^ 60) (some (a ^ b.toNat))
  | .LShift => fun a b => bG (0 ≤ b ∧ b ≤ 1000 ∧ a.natAbs < 2 ^ 200) (some (a * 2 ^ b.toNat))
  | .RShift => fun a b => bG (0 ≤ b) (some (a.fdiv (2 ^ b.toNat)))
  | .BitAnd => fun a b => some (Builtin.bitAnd a b)
  | .BitOr => fun a b => some (Builtin.bitOr a b)
  | .BitXor => fun a b => some (Builtin.bitXor a b)
  | _ => fun _ _ => none

theorem bits_le_of {a : Int} {k : Nat} (h : a.natAbs < 2 ^ k) : Builtin.Int.intBits a ≤ k := by
  unfold Builtin.Int.intBits
  split
  · exact Nat.zero_le _
  · rename_i hz
    exact (Nat.log2_lt fun q => hz (beq_iff_eq.mpr (Int.natAbs_eq_zero.mp q))).mpr h
theorem small_bits {a : Int} (h : small a = true) : Builtin.Int.intBits a ≤ 64 := Nat.le_trans (bits_le_of (of_decide_eq_true h)) (by decide)

theorem binI_ok {A : Around} {s : Shared} {op : Operator} {a b c : Int} {t u : Tok} {Q : Value → Shared → Prop} (hA : A.handled = none) (e : binI op a b = some c) (h : Q (.int c s.toks) { s with toks := s.toks + 1 }) :
    wpAny (model C.prog C.w) A (binaryOp op (.int a t) (.int b u)) Q noE s := by
  cases op with
  | Add => cases e; with_reducible exact add_int h
  | Sub => cases e; with_reducible exact sub_int h
  | Mult =>
    refine bGE e fun q e => ?_
    cases e
    with_reducible exact mul_int h ((Bool.or_eq_true_iff.mp q).elim (fun q => IntMulOk.of_right (small_bits q)) fun q => IntMulOk.of_left (small_bits q))
  | FloorDiv =>
    refine bGE e fun q e => ?_
    cases e
    with_reducible exact floordiv_int q.1 h (.inl (PyProof.noPylong_small q.2))
  | Mod =>
    refine bGE e fun q e => ?_
    cases e
    with_reducible exact mod_int' q h
  | Pow =>
    refine bGE e fun q e => ?_
    cases e
    have q3 : a.natAbs < 2 ^ 64 := by omega
    have q4 : b ≤ 1000000 := by omega
    with_reducible exact pow_int_small q.1 q4 q3 h
  | LShift =>
    refine bGE e fun q e => ?_
    cases e
    with_reducible refine lshift_int_or hA (fun q' => absurd q.1 (Int.not_le.mpr q')) (fun _ => ?_) fun _ => h
    have := bits_le_of q.2.2
    omega
  | RShift =>
    refine bGE e fun q e => ?_
    cases e
    with_reducible exact rshift_int q h
  | BitAnd => cases e; with_reducible exact and_int h
  | BitOr => cases e; with_reducible exact or_int h
  | BitXor => cases e; with_reducible exact xor_int h
  | _ => cases e

theorem At.tok {φ₀ : List Addr} {s₀ : Shared} {φ : List Addr} {hp : Hp} {s : Shared} {ρ : Rho} (X : At C env ns ρ φ₀ [] s₀ φ hp s) {v : V} {c : Value} (r : VR φ v c) {t : Nat} : PV C φ₀ s₀ v hp c { s with toks := t } := ⟨φ, X.S.trans (Step.tok t), X.H.heap fun _ _ e => e, r⟩
theorem Ev_bin {op : Operator} {l r : Expr} {pos : Pos} {f g : FV} (hf : Ev C n env ns l f) (hg : Ev C n env ns r g) :
    Ev C n env ns (.BinOp l op r pos) (fun ρ hp => bI (f ρ hp) fun a hp => bI (g ρ hp) fun b hp => (binI op a b).map fun c => (.int c, hp)) := fun A s φ ρ hp v hp' hr R H e =>
  wpAny_BinOp (evI hf hr (.start R H) e fun t s1 φ1 a hp1 X1 _ e => evI hg hr X1 e fun u s2 φ2 b hp2 X2 _ e =>
    (Option.map_eq_some_iff.mp e).elim fun c q => by
      cases q.2
      exact binI_ok hr.hand q.1 (X2.tok VR.int))

theorem HR.lisAt {hp : Hp} {φ : List Addr} {s : Shared} (H : HR C hp φ s) {i : Nat} {vs : List V} {a : Addr} (e : hp[i]? = some (.list vs)) (ha : φ[i]? = some a) {G : Prop}
    (h : ∀ cs n, All2 (VR φ) vs cs → vs.length = cs.length → s.heap.get? a = some { cls := .type "list", data := .seq cs.toArray n } → G) : G :=
  (H.obj i _ a e ha).elim fun ob h1 => h1.2.elim fun cs h2 => h2.elim fun m h2 => h cs m h2.1 h2.1.length (h2.2 ▸ h1.1)
theorem HR.free0 {φ : List Addr} {hp : Hp} {s : Shared} (H : HR C hp φ s) {I : Addr} (h0 : s.heap.get? I = none) : Free C I φ [] where
  phi hm := (H.live hm).elim fun o e => nomatch h0.symm.trans e
  own := List.not_mem_nil
  tab hm := (H.tab I hm).2.2.elim fun ps h => nomatch h0.symm.trans h.1
  base := H.dead h0
/-- a new object comes to the ledger -/
theorem PV.add {φ : List Addr} {s s' : Shared} {hp : Hp} {o : O} {ob : Obj} {a : Addr} (H : HR C hp φ s) (hs : ∃ h' tk', s' = { s with heap := h', toks := tk' }) (up : ∀ b o, s.heap.get? b = some o → s'.heap.get? b = some o) (hn : s.heap.get? a = none) (hg : s'.heap.get? a = some ob) (ho : OR φ o ob) : PV C φ s (.ref hp.length) (hp ++ [o]) (.ref a) s' :=
  ⟨_, Step.add hs up hn, (H.heap up).push (H.free0 hn) hg ho, _, by rw [← H.len, List.getElem?_append_right (Nat.le_refl _), Nat.sub_self]; rfl, rfl⟩
theorem PV.new {φ : List Addr} {s : Shared} {hp : Hp} {o : O} {ob : Obj} (H : HR C hp φ s) (hf : ob.isFreed = false) (ho : OR φ o ob) : PV C φ s (.ref hp.length) (hp ++ [o]) (.ref s.heap.objs.size) { s with heap := s.heap.push ob } :=
  PV.add (s' := { s with heap := s.heap.push ob }) H ⟨_, _, rfl⟩ (fun b o e => Heap.get?_push_of_some _ e) (get_size _) (Heap.get?_push_size _ hf) ho
theorem line_le {n : Nat} (h : n ≤ 1000) : n ≤ sizeLine := by rw [sizeLine_eq]; omega

def rep (n : Nat) (vs : List V) : List V := match n with
  | 0 => []
  | n + 1 => vs ++ rep n vs
theorem mulList {prog : Program} {w : World} {E : Value → Shared → Prop} {A : Around} {s : Shared} {l : Addr} {items : Array Value} {k : Nat} {x : Int} {u : Tok} {Q : Value → Shared → Prop}
    (hl : s.heap.get? l = some { cls := .type "list", dict := none, data := .seq items k, slots := #[] })
    (hlo : -(2 ^ 63 : Int) ≤ x) (hhi : x < 2 ^ 63) (hsz : items.size * x.toNat ≤ 2 ^ 24)
    (h : Q (.ref s.heap.objs.size) { s with heap := s.heap.push { cls := .type "list", data := .seq (List.foldl (fun x1 x2 => x1 ++ x2) #[] (List.replicate (if items.isEmpty = true then 0 else x.toNat) items)) } }) :
    wpAny (model prog w) A (binaryOp .Mult (.ref l) (.int x u)) Q E s :=
  wpAny_binaryOp_repeat_ref (T := "list") (U := "int") (by decide) ⟨_, hl, rfl⟩ (fun s' => typeIs_int s' x u) noFill_list_mul F.fills_int_mul F.slot_int_rmul repeat_list F.slot_int_index.lookup
    (call_meets F.slot_int_rmul (typeIs_int s x u) F.entry_int_rmul (F.args_int_rmul_2 _ _) (int___rmul___int_list x u l items k)
      ⟨hl, rfl, ⟨_, hl, rfl⟩, call_meets F.slot_list_mul ⟨_, hl, rfl⟩ F.entry_list_mul (F.args_list_mul_2 _ _)
        (AutoListH.list___mul___list_int_3 l items k x u (by simp [Builtin.List.listFitsIndex]; omega) (by omega) (by simp [Builtin.List.listTooLong, sizeLine]; omega))
        ⟨hl, h⟩⟩)
theorem foldl_app (items : Array Value) : ∀ (n : Nat) (acc : Array Value), List.foldl (fun x1 x2 => x1 ++ x2) acc (List.replicate n items) = acc ++ (List.replicate n items.toList).flatten.toArray
  | 0, acc => by simp
  | n + 1, acc => by
    rw [List.replicate_succ, List.foldl_cons, foldl_app items n, List.replicate_succ, List.flatten_cons]
    apply Array.ext'
    simp
theorem rep_rel {R : V → Value → Prop} {vs : List V} {cs : List Value} (h : All2 R vs cs) : ∀ n : Nat, All2 R (rep n vs) (List.replicate n cs).flatten
  | 0 => .nil
  | n + 1 => h.append (rep_rel h n)

/-- the end of an expression that makes an object -/
theorem At.newO {φ₀ : List Addr} {s₀ : Shared} {φ : List Addr} {hp : Hp} {s : Shared} {ρ : Rho} (X : At C env ns ρ φ₀ [] s₀ φ hp s) {o : O} {ob : Obj} (hf : ob.isFreed = false) (ho : OR φ o ob) : PV C φ₀ s₀ (.ref hp.length) (hp ++ [o]) (.ref s.heap.objs.size) { s with heap := s.heap.push ob } :=
  (PV.new X.H hf ho).elim fun φ' h => ⟨φ', X.S.trans h.1, h.2⟩
theorem Ev_addL {l r : Expr} {pos : Pos} {f g : FV} (hf : Ev C n env ns l f) (hg : Ev C n env ns r g) :
    Ev C n env ns (.BinOp l .Add r pos) (fun ρ hp => bR (f ρ hp) fun i hp => bR (g ρ hp) fun j hp => bL hp[i]? fun xs => bL hp[j]? fun ys => bG (xs.length + ys.length ≤ 1000) (some (.ref hp.length, hp ++ [.list (xs ++ ys)]))) := fun A s φ ρ hp v hp' hr R H e =>
  wpAny_BinOp (evR hf hr (.start R H) e fun a s1 φ1 i hp1 X1 _ ha e => evR hg hr X1 e fun b s2 φ2 j hp2 X2 p hb e =>
    bLE e fun xs q1 e => bLE e fun ys q2 e => bGE e fun hz e => X2.H.lisAt q1 (pre_get p ha) fun cs k h2 l2 h3 => X2.H.lisAt q2 hb fun ds k' h5 l5 h6 => by
      cases e
      have := X2.newO (o := .list (xs ++ ys)) (ob := { cls := .type "list", data := .seq (cs.toArray ++ ds.toArray) }) rfl ⟨cs ++ ds, 0, h2.append h5, by rw [List.append_toArray]⟩
      with_reducible refine P.add_list h3 h6 this ?_
      simp only [List.size_toArray]
      exact line_le (by omega))
theorem Ev_mulL {l r : Expr} {pos : Pos} {f g : FV} (hf : Ev C n env ns l f) (hg : Ev C n env ns r g) :
    Ev C n env ns (.BinOp l .Mult r pos) (fun ρ hp => bR (f ρ hp) fun i hp => bI (g ρ hp) fun k hp => bL hp[i]? fun xs => bG (0 < xs.length ∧ xs.length * k.toNat ≤ 1000 ∧ k.natAbs ≤ 1000) (some (.ref hp.length, hp ++ [.list (rep k.toNat xs)]))) := fun A s φ ρ hp v hp' hr R H e =>
  wpAny_BinOp (evR hf hr (.start R H) e fun a s1 φ1 i hp1 X1 _ ha e => evI hg hr X1 e fun u s2 φ2 k hp2 X2 p e =>
    bLE e fun xs q1 e => bGE e fun hz e => X2.H.lisAt q1 (pre_get p ha) fun cs m h2 l2 h3 => by
      cases e
      have hne : cs.toArray.isEmpty = false := by
        cases cs with
        | nil => exact absurd hz.1 (by rw [l2]; exact Nat.lt_irrefl _)
        | cons => rfl
      with_reducible refine mulList h3 (by omega) (by omega) (by simp only [List.size_toArray, ← l2]; omega) ?_
      rw [hne, foldl_app]
      exact X2.newO rfl ⟨_, 0, rep_rel h2 _, by rw [Array.empty_append]; rfl⟩)

def unF : UnaryOp → Int → Option Int
  | .USub, x => some (-x)
  | .Invert, x => some (Builtin.bitNot x)
  | _, _ => none
theorem Ev_un {op : UnaryOp} {l : Expr} {pos : Pos} {f : FV} (hf : Ev C n env ns l f) :
    Ev C n env ns (.UnaryOp op l pos) (fun ρ hp => bI (f ρ hp) fun a hp => (unF op a).map fun v => (.int v, hp)) := fun A s φ ρ hp v hp' hr R H e =>
  wpAny_UnaryOp (evI hf hr (.start R H) e fun t s1 φ1 a hp1 X1 _ e => by
    cases op with
    | USub => cases e; with_reducible exact neg_int (X1.tok VR.int)
    | Invert => cases e; with_reducible exact invert_int (X1.tok VR.int)
    | _ => cases e)
end
end Mine

open PySem PySem.Calls PySem.W PySem.Spec PyProof.Rows
set_option Elab.async false
set_option autoImplicit false
set_option maxRecDepth 100000
set_option genSizeOf false
set_option linter.unusedVariables false
namespace Mine
noncomputable section
variable {C : Cx} {n : Nat} {env : Env} {ns : List Str}

def notStar : Expr → Bool
  | .Starred .. => false
  | _ => true
theorem starEach_cons {e : Expr} {rest : List Expr} (h : notStar e = true) : starEach (e :: rest) env = (false, eval e env) :: starEach rest env := by
  cases e <;> first | rfl | cases h

theorem Evs_nil : Evs C n env ns [] (fun _ hp => some ([], hp)) :=
  ⟨fun _ => rfl, fun A s φ ρ hp vs hp' pos _ _ H e => by cases e; exact wpAny_items_nil ⟨φ, Step.refl, H, .nil⟩⟩
theorem Evs_cons {e : Expr} {rest : List Expr} {f : FV} {g : FVs} (he : notStar e = true) (hf : Ev C n env ns e f) (hg : Evs C n env ns rest g) :
    Evs C n env ns (e :: rest) (fun ρ hp => bV (f ρ hp) fun a hp => bVs (g ρ hp) fun b hp => some (a :: b, hp)) where
  plain pos := by rw [starEach_cons he]; exact hg.plain pos
  run A s φ ρ hp vs hp' pos hr R H e := wpAny_items_cons (evV hf hr (.start (own := []) R H) e fun ca s1 φ1 a hp1 X1 _ r1 e => evVs hg pos hr X1 e fun cb s2 φ2 b hp2 X2 p r2 e => by
    cases e; exact ⟨φ2, X2.S, X2.H, .cons (r1.up p) r2⟩) (starEach_cons he)

theorem HR.KIn {hp : Hp} {φ : List Addr} {s : Shared} (H : HR C hp φ s) : C.K.In s.heap := fun a o e => H.base a o (C.X a o e)

/-- what may be called with arguments written out -/
def CW (C : Cx) (cf : Value) : Prop := ∀ (A : Around) (env : Env) (pos : Pos) (e : Expr) (rest : List Expr) (Q : Value → Shared → Prop) (s : Shared), (∃ φ hp, HR C hp φ s) → notStar e = true → (backTo pos (starEach rest env)).any (·.1) = false →
  wpAny (model C.prog C.w) A (spliced (backTo pos (starEach (e :: rest) env))) (fun cs s2 => (∃ φ hp, HR C hp φ s2) ∧ wpAny (model C.prog C.w) A (call cf cs) Q noE s2) noE s → wpAny (model C.prog C.w) A (callWith pos cf [] (backTo pos (starEach (e :: rest) env)) []) Q noE s
theorem CW.K {a : Addr} (hk : keepIn C.K (.ref a) = true) : CW C (.ref a) := fun A env pos e rest Q s x he hp h =>
  callWith_K (first := []) C.X hk (wpF h fun cs s2 h => ⟨h.1.elim fun φ q => q.elim fun hp H => H.KIn, h.2⟩) (starEach_cons he) hp
theorem CW.B {id : String} : CW C (.builtin id) := fun A env pos e rest Q s x he hp h => callWith_builtin1 (wpF h fun cs s2 h => h.2) (starEach_cons he) hp
theorem CW.T {id : String} : CW C (.type id) := fun A env pos e rest Q s x he hp h => callWith_type1 (wpF h fun cs s2 h => h.2) (starEach_cons he) hp
theorem evCallG {x : Str} {p pos : Pos} {e : Expr} {rest : List Expr} {fx : FV} {g : FVs} {T : V → List V → Hp → Option (V × Hp)} {P : V → Prop} (hf : Ev C n env ns (.Name x p) fx) (hP : ∀ ρ hp v hp', fx ρ hp = some (v, hp') → P v) (hg : Evs C n env ns (e :: rest) g) (he : notStar e = true)
    (hF : ∀ v vs hp r, P v → T v vs hp = some r → ∃ cf, v = .val cf ∧ CW C cf ∧ Fn C n cf (T v)) : Ev C n env ns (.Call (.Name x p) (e :: rest) [] pos) (fun ρ hp => bV (fx ρ hp) fun v hp => bVs (g ρ hp) fun vs hp => T v vs hp) := fun A s φ ρ hp v hp' hr R H ee =>
  (bV_inv ee).elim fun fv q => q.elim fun hp1 q => (bVs_inv q.2).elim fun vs y => y.elim fun hp2 y => (hF _ _ _ _ (hP ρ hp fv hp1 q.1) y.2).elim fun cf y => wpAny_Call_NameR (wpF (hf A s φ ρ hp fv hp1 hr R H q.1) fun cf' s1 ⟨φ1, S1, H1, r1⟩ => by
    have ee := q.2
    cases y.1; cases r1
    have X1 : At C env ns ρ φ [] s φ1 hp1 s1 := ⟨S1, R.step0 S1, H1⟩
    have hpl := hg.plain pos
    rw [starEach_cons he] at hpl
    exact y.2.1 A env pos e rest _ s1 ⟨_, _, X1.H⟩ he hpl (evVs hg pos hr X1 ee fun cs s2 φ2 vs hp2 X2 p r2 ee => ⟨⟨_, _, X2.H⟩, pvS X2.S (y.2.2 A s2 φ2 hp2 vs cs v hp' hr X2.H r2 ee)⟩))
/-- a def of the top is called by its name -/
theorem Ev_call {x : Str} {p pos : Pos} {e : Expr} {rest : List Expr} {a : Addr} {g : FVs} {F : List V → Hp → Option (V × Hp)} (hn : TopN C env x) (hc : nsIn C.K mainGlobals x = some (some (.ref a))) (hk : keepIn C.K (.ref a) = true)
    (hg : Evs C n env ns (e :: rest) g) (he : notStar e = true) (hF : Fn C n (.ref a) F) : Ev C n env ns (.Call (.Name x p) (e :: rest) [] pos) (fun ρ hp => bVs (g ρ hp) F) :=
  evCallG (P := fun v => v = .val (.ref a)) (T := fun _ => F) (Ev_glob (.val (.ref a)) hn hc rfl) (fun _ _ _ _ e => by cases e; rfl) hg he fun v _ _ _ q _ => ⟨_, q, CW.K hk, hF⟩
/-- a def held by a name of the frame's own -/
def FnT (C : Cx) (n : Nat) (T : V → List V → Hp → Option (V × Hp)) : Prop := ∀ fv vs hp r, T fv vs hp = some r → ∃ a, fv = .val (.ref a) ∧ keepIn C.K (.ref a) = true ∧ Fn C n (.ref a) (T fv)
theorem Ev_callV (i : Nat) {x : Str} {p pos : Pos} {e : Expr} {rest : List Expr} {g : FVs} {T : V → List V → Hp → Option (V × Hp)} (hx : ns[i]? = some x)
    (hg : Evs C n env ns (e :: rest) g) (he : notStar e = true) (hF : FnT C n T) : Ev C n env ns (.Call (.Name x p) (e :: rest) [] pos) (fun ρ hp => bV ((getR ρ i).map fun v => (v, hp)) fun f hp => bVs (g ρ hp) fun vs hp => T f vs hp) :=
  evCallG (P := fun _ => True) (Ev_var i hx) (fun _ _ _ _ _ => trivial) hg he fun v vs hp r _ e => (hF v vs hp r e).elim fun a q => ⟨.ref a, q.1, CW.K q.2.1, q.2.2⟩
theorem Ev_callB {x : Str} {p pos : Pos} {e : Expr} {rest : List Expr} {id : String} {g : FVs} {F : List V → Hp → Option (V × Hp)} (hn : TopN C env x) (hgl : nsIn C.K mainGlobals x = some none) (hb : bootBuiltins x = some (.builtin id)) (hx : x ≠ "__name__")
    (hg : Evs C n env ns (e :: rest) g) (he : notStar e = true) (hF : Fn C n (.builtin id) F) : Ev C n env ns (.Call (.Name x p) (e :: rest) [] pos) (fun ρ hp => bVs (g ρ hp) F) :=
  evCallG (P := fun v => v = .val (.builtin id)) (T := fun _ => F) (Ev_bi hn hgl hb hx) (fun _ _ _ _ e => by cases e; rfl) hg he fun v _ _ _ q _ => ⟨_, q, CW.B, hF⟩
theorem Ev_callT {x : Str} {p pos : Pos} {e : Expr} {rest : List Expr} {id : String} {g : FVs} {F : List V → Hp → Option (V × Hp)} (hn : TopN C env x) (hgl : nsIn C.K mainGlobals x = some none) (hb : bootBuiltins x = some (.type id)) (hx : x ≠ "__name__")
    (hg : Evs C n env ns (e :: rest) g) (he : notStar e = true) (hF : Fn C n (.type id) F) : Ev C n env ns (.Call (.Name x p) (e :: rest) [] pos) (fun ρ hp => bVs (g ρ hp) F) :=
  evCallG (P := fun v => v = .val (.type id)) (T := fun _ => F) (Ev_bi hn hgl hb hx) (fun _ _ _ _ e => by cases e; rfl) hg he fun v _ _ _ q _ => ⟨_, q, CW.T, hF⟩

theorem At.pb {φ₀ : List Addr} {s₀ : Shared} {φ : List Addr} {hp : Hp} {s : Shared} {ρ : Rho} (X : At C env ns ρ φ₀ [] s₀ φ hp s) {b : Bool} : PB C φ₀ s₀ b hp b s := ⟨rfl, φ, X.S, X.H⟩
theorem isL {h : Heap} {a : Addr} {cs : List Value} {m : Nat} (e : h.get? a = some { cls := .type "list", data := .seq cs.toArray m }) : h.IsList a cs.toArray := ⟨_, e, rfl, _, rfl⟩

/-! displays -/
theorem Ev_list {es : List Expr} {pos : Pos} {g : FVs} (hg : Evs C n env ns es g) :
    Ev C n env ns (.List es pos) (fun ρ hp => bVs (g ρ hp) fun b hp => bG (b.length ≤ 1000) (some (.ref hp.length, hp ++ [.list b]))) := fun A s φ ρ hp v hp' hr R H e =>
  wpAny_List (evVs hg pos hr (.start R H) e fun cs s1 φ1 b hp1 X1 _ r1 e => bGE e fun hl e => by
    cases e; exact ⟨line_le (r1.length ▸ hl), X1.newO (o := .list b) rfl ⟨cs, 0, r1, rfl⟩⟩)
theorem Ev_tuple {es : List Expr} {k : Nat} {pos : Pos} {g : FVs} (hg : Evs C n env ns es g) :
    Ev C n env ns (.Tuple es k pos) (fun ρ hp => bVs (g ρ hp) fun b hp => bG (b.length ≤ 1000) (some (.ref hp.length, hp ++ [.tuple b]))) := fun A s φ ρ hp v hp' hr R H e =>
  wpAny_Tuple (evVs hg pos hr (.start R H) e fun cs s1 φ1 b hp1 X1 _ r1 e => bGE e fun hl e => by
    cases e; exact ⟨line_le (r1.length ▸ hl), X1.newO (o := .tuple b) rfl ⟨cs, 0, r1, rfl⟩⟩)

/-! comparisons -/
def intsOf : List V → Option (List Int)
  | [] => some []
  | .int i :: r => (intsOf r).map (i :: ·)
  | _ :: _ => none
theorem intsOf_are {φ : List Addr} : ∀ {vs : List V} {cs : List Value} {is : List Int}, All2 (VR φ) vs cs → intsOf vs = some is → IntsAre cs is
  | [], _, _, .nil, e => by cases e; exact .nil
  | v :: r, _, _, .cons h hr, e => by
    cases v with
    | int i =>
      refine h.elim fun t h => (Option.map_eq_some_iff.mp e).elim fun is q => ?_
      cases h; cases q.2
      exact .cons _ _ (intsOf_are hr q.1)
    | _ => cases e
theorem are_all2 {φ : List Addr} {cs : List Value} {is : List Int} (h : IntsAre cs is) : All2 (VR φ) (is.map V.int) cs := by
  induction h with
  | nil => exact .nil
  | cons n t _ ih => exact .cons VR.int ih
/-- a list of ints, and its ints -/
def bIs {β : Type} (x : Option O) (k : List Int → Option β) : Option β := bL x fun vs => (intsOf vs).bind k
theorem bIsE {β : Type} {x : Option O} {k : List Int → Option β} {r : β} {hp : Hp} {φ : List Addr} {s : Shared} {i : Nat} {a : Addr} (H : HR C hp φ s) (ha : φ[i]? = some a) (hx : hp[i]? = x) {G : Prop} (e : bIs x k = some r)
    (h : ∀ cs is m, IntsAre cs is → s.heap.get? a = some { cls := .type "list", data := .seq cs.toArray m } → k is = some r → G) : G :=
  bLE e fun vs q e => (Option.bind_eq_some_iff.mp e).elim fun is y => H.lisAt (hx.trans q) ha fun cs m h2 l2 h3 => h cs is m (intsOf_are h2 y.1) h3 y.2

def cmpI : CmpOp → Int → Int → Option Bool
  | .Eq => fun x y => some (x == y)
  | .NotEq => fun x y => some (x != y)
  | .Lt => fun x y => some (decide (x < y))
  | .LtE => fun x y => some (decide (x ≤ y))
  | .GtE => fun x y => some (decide (y ≤ x))
  | _ => fun _ _ => none
theorem cmpI_ok {A : Around} {s : Shared} {op : CmpOp} {x y : Int} {t u : Tok} {v : Bool} {Q : Value → Shared → Prop} (e : cmpI op x y = some v) (h : Q (.bool v) s) : wpAny (model C.prog C.w) A (compareOp op (.int x t) (.int y u)) Q noE s := by
  cases op with
  | Eq => cases e; with_reducible exact PyProof.Rows.eq_int h
  | NotEq => cases e; with_reducible exact PyProof.Rows.ne_int h
  | Lt => cases e; with_reducible exact PyProof.Rows.lt_int h
  | LtE => cases e; with_reducible exact PyProof.Rows.le_int h
  | GtE => cases e; with_reducible exact PyProof.Rows.ge_int h
  | _ => cases e
/-- two values compared, both sides told -/
def Cmp (C : Cx) (n : Nat) (env : Env) (ns : List Str) (op : CmpOp) (l r : Expr) (f : FB) : Prop :=
  ∀ A s φ ρ hp b hp', Room A n → ER C env ns ρ φ s → HR C hp φ s → f ρ hp = some (b, hp') → ∀ Q, (∀ s' φ', Step C φ [] s φ' s' → HR C hp' φ' s' → Q (.bool b) s') →
    wpAny (model C.prog C.w) A (eval l env) (fun a s₁ => wpAny (model C.prog C.w) A (eval r env) (fun b s₂ => wpAny (model C.prog C.w) A (compareOp op a b) Q noE s₂) noE s₁) noE s
theorem Cmp_int {op : CmpOp} {l r : Expr} {f g : FV} (hf : Ev C n env ns l f) (hg : Ev C n env ns r g) : Cmp C n env ns op l r (fun ρ hp => bI (f ρ hp) fun a hp => bI (g ρ hp) fun b hp => (cmpI op a b).map fun c => (c, hp)) := fun A s φ ρ hp v hp' hr R H e Q hQ =>
  evI hf hr (.start (own := []) R H) e fun t s1 φ1 a hp1 X1 _ e => evI hg hr X1 e fun u s2 φ2 b hp2 X2 _ e => (Option.map_eq_some_iff.mp e).elim fun c q => by
    cases q.2; exact cmpI_ok q.1 (hQ _ _ X2.S X2.H)
theorem Cmp_str {l r : Expr} {f g : FV} (hf : Ev C n env ns l f) (hg : Ev C n env ns r g) : Cmp C n env ns .Eq l r (fun ρ hp => bSt (f ρ hp) fun a hp => bSt (g ρ hp) fun b hp => some (a == b, hp)) := fun A s φ ρ hp v hp' hr R H e Q hQ =>
  evSt hf hr (.start (own := []) R H) e fun t s1 φ1 a hp1 X1 _ e => evSt hg hr X1 e fun u s2 φ2 b hp2 X2 _ e => by
    cases e; with_reducible exact PyProof.Rows.eq_str (hQ _ _ X2.S X2.H)
theorem Room.u64 {A : Around} {n : Nat} (h : Room A (n + 8)) : A.units + 64 < cLine := by have := h.uni; omega
theorem Cmp_ne {l r : Expr} {f g : FV} (hf : Ev C (n + 8) env ns l f) (hg : Ev C (n + 8) env ns r g) : Cmp C (n + 8) env ns .NotEq l r (fun ρ hp => bR (f ρ hp) fun i hp => bR (g ρ hp) fun j hp => bIs hp[i]? fun is => bIs hp[j]? fun js => some (!decide (is = js), hp)) := fun A s φ ρ hp v hp' hr R H e Q hQ =>
  evR hf hr (.start (own := []) R H) e fun a s1 φ1 i hp1 X1 _ ha e => evR hg hr X1 e fun b s2 φ2 j hp2 X2 p hb e => bIsE X2.H (pre_get p ha) rfl e fun cs is m h1 h2 e => bIsE X2.H hb rfl e fun ds js m' h3 h4 e => by
    cases e; with_reducible exact ne_intsK (isL h2) h1 (isL h4) h3 hr.u64 (hQ _ _ X2.S X2.H)

/-! tests -/
theorem Tr_cmp {op : CmpOp} {l r : Expr} {pos : Pos} {f : FB} (hm : behindInMarks op r = false) (hc : Cmp C n env ns op l r f) : Tr C n env ns (.Compare l [op] [r] pos) f := fun A s φ ρ hp v hp' hr R H e =>
  wpAny_isTrue_Compare1 (hc A s φ ρ hp v hp' hr R H e _ fun s' φ' S H' => wpAny_truthy_bool ⟨rfl, φ', S, H'⟩) hm
theorem Ev_cmp {op : CmpOp} {l r : Expr} {pos : Pos} {f : FB} (hm : behindInMarks op r = false) (hc : Cmp C n env ns op l r f) : Ev C n env ns (.Compare l [op] [r] pos) (fun ρ hp => bB (f ρ hp) fun b hp => some (.bool b, hp)) := fun A s φ ρ hp v hp' hr R H e =>
  (bB_inv e).elim fun b q => q.elim fun hp1 q => by
    cases q.2
    exact wpAny_Compare1 (hc A s φ ρ hp b _ hr R H q.1 _ fun s' φ' S H' => ⟨φ', S, H', rfl⟩) hm
theorem Tr_not {x : Expr} {pos : Pos} {f : FB} (hf : Tr C n env ns x f) : Tr C n env ns (.UnaryOp .Not x pos) (fun ρ hp => bB (f ρ hp) fun b hp => some (!b, hp)) := fun A s φ ρ hp v hp' hr R H e =>
  wpAny_isTrue_Not (evB hf hr (.start (own := []) R H) e fun b s1 φ1 hp1 X1 _ e => by cases e; exact X1.pb)
theorem Tr_or2 {x y : Expr} {pos : Pos} {f g : FB} (hf : Tr C n env ns x f) (hg : Tr C n env ns y g) : Tr C n env ns (.BoolOp .Or [x, y] pos) (fun ρ hp => bB (f ρ hp) fun a hp => match a with | true => some (true, hp) | false => bB (g ρ hp) fun b hp => some (b, hp)) := fun A s φ ρ hp v hp' hr R H e =>
  wpAny_isTrue_BoolOp (wpAny_allTrue_Or_cons (evB hf hr (.start (own := []) R H) e fun b s1 φ1 hp1 X1 _ e => by
    cases b with
    | true => cases e; exact X1.pb
    | false =>
      refine wpAny_allTrue_Or_cons (evB hg hr X1 e fun b s2 φ2 hp2 X2 _ e => ?_)
      cases e
      cases v with
      | true => exact X2.pb
      | false => exact wpAny_allTrue_Or_nil X2.pb))
/-- a test by a value's truth -/
def TrS (env : Env) (x : Expr) : Prop := ∀ whole, PySem.isTrue x env whole = (do let v ← whole; standAt x.pos; holding [v] (truthy v))
theorem Tr_int {x : Expr} {f : FV} (hf : Ev C n env ns x f) (hs : TrS env x) : Tr C n env ns x (fun ρ hp => bI (f ρ hp) fun a hp => some (a != 0, hp)) := fun A s φ ρ hp v hp' hr R H e =>
  wpAny_isTrue_value (evI hf hr (.start (own := []) R H) e fun t s1 φ1 a hp1 X1 _ e => by
    cases e; with_reducible exact PyProof.Rows.truthy_int X1.pb) (hs _)
theorem Tr_lst {x : Expr} {f : FV} (hf : Ev C n env ns x f) (hs : TrS env x) : Tr C n env ns x (fun ρ hp => bR (f ρ hp) fun i hp => bL hp[i]? fun xs => bG (xs.length ≤ 1000) (some (!xs.isEmpty, hp))) := fun A s φ ρ hp v hp' hr R H e =>
  wpAny_isTrue_value (evR hf hr (.start (own := []) R H) e fun a s1 φ1 i hp1 X1 _ ha e => bLE e fun xs q e => bGE e fun hl e => X1.H.lisAt q ha fun cs m h2 l2 h3 => by
    cases e
    refine wpAny_truthy_list (items := cs.toArray) ⟨_, h3, rfl, _, rfl⟩ (by simp only [List.size_toArray]; omega) ⟨?_, φ1, X1.S.trans (Step.tok _), X1.H.heap fun _ _ e => e⟩
    cases h2 <;> rfl) (hs _)
end
end Mine

open PySem PySem.Calls PySem.W PySem.Spec PyProof.Rows
set_option Elab.async false
set_option autoImplicit false
set_option maxRecDepth 100000
set_option genSizeOf false
set_option linter.unusedVariables false
namespace Mine
noncomputable section
variable {C : Cx} {n : Nat} {env : Env} {ns : List Str}

theorem all2_of {α β : Type} {R : α → β → Prop} : ∀ {as : List α} {bs : List β}, as.length = bs.length → (∀ (i : Nat) a b, as[i]? = some a → bs[i]? = some b → R a b) → All2 R as bs
  | [], [], _, _ => .nil
  | a :: as, b :: bs, hl, h => .cons (h 0 a b rfl rfl) (all2_of (Nat.succ.inj hl) fun i a b h1 h2 => h (i + 1) a b h1 h2)

/-! built-in calls -/
def one {β : Type} (vs : List V) (k : V → Option β) : Option β := match vs with
  | [v] => k v
  | _ => none
theorem oneE {β : Type} {φ : List Addr} {vs : List V} {cs : List Value} {k : V → Option β} {r : β} {G : Prop} (hv : All2 (VR φ) vs cs) (e : one vs k = some r) (h : ∀ v c, cs = [c] → VR φ v c → k v = some r → G) : G := by
  cases hv with
  | nil => cases e
  | cons h1 h2 => cases h2 with
    | nil => exact h _ _ rfl h1 e
    | cons => cases e
abbrev oneR {β : Type} (vs : List V) (k : Nat → Option β) : Option β := one vs fun v => onR v k
theorem oneRE {β : Type} {φ : List Addr} {vs : List V} {cs : List Value} {k : Nat → Option β} {r : β} {G : Prop} (hv : All2 (VR φ) vs cs) (e : oneR vs k = some r) (h : ∀ i a, cs = [.ref a] → φ[i]? = some a → k i = some r → G) : G :=
  oneE hv e fun v c q r1 e => (onR_inv e).elim fun i y => by
    cases y.1; exact r1.elim fun a r1 => h i a (r1.2 ▸ q) r1.1 y.2
def lenF (vs : List V) (hp : Hp) : Option (V × Hp) := oneR vs fun i => bL hp[i]? fun xs => bG (xs.length ≤ 1000) (some (.int xs.length, hp))
theorem B_len : Fn C n (.builtin "len") lenF := fun A s φ hp vs cs v hp' hr H hv e =>
  oneRE hv e fun i a q ha e => bLE e fun xs y e => bGE e fun hl e => H.lisAt y ha fun cs m h2 l2 h3 => by
    cases e; cases q
    with_reducible refine call_len_list (isL h3) (by simp only [List.size_toArray]; omega) ?_
    rw [show ((cs.toArray.size : Nat) : Int) = (xs.length : Int) by rw [l2]; rfl]
    exact PV.tok H _ VR.int
def rangeF (vs : List V) (hp : Hp) : Option (V × Hp) := one vs fun v => onI v fun k => bG (0 ≤ k ∧ k ≤ 1000) (some (.ref hp.length, hp ++ [.range k.toNat]))
theorem T_range : Fn C n (.type "range") rangeF := fun A s φ hp vs cs v hp' hr H hv e =>
  oneE hv e fun v c q r1 e => (onI_inv e).elim fun k y => bGE y.2 fun hk e => by
    cases e; cases q; cases y.1
    obtain ⟨t, rfl⟩ := r1
    with_reducible refine call_range_1 ?_
    refine PV.add H ⟨_, _, rfl⟩ (fun b o e => Heap.get?_push_of_some _ e) (get_size _) (Heap.get?_push_size s.heap rfl) ⟨s.toks, t, s.toks + 1, ?_⟩
    rw [Int.toNat_of_nonneg hk.1]
def rangeVs (n : Nat) : List V := (List.range n).map fun (i : Nat) => V.int (i : Int)
def bRg {β : Type} (x : Option O) (k : Nat → Option β) : Option β := match x with
  | some (.range n) => k n
  | _ => none
theorem bRgE {β : Type} {x : Option O} {k : Nat → Option β} {r : β} {G : Prop} (e : bRg x k = some r) (h : ∀ m, x = some (.range m) → k m = some r → G) : G := by
  cases x with
  | none => cases e
  | some o => cases o with
    | range m => exact h m rfl e
    | _ => cases e
def listF (vs : List V) (hp : Hp) : Option (V × Hp) := oneR vs fun i => bRg hp[i]? fun n => bG (n ≤ 1000) (some (.ref hp.length, hp ++ [.list (rangeVs n)]))
theorem small_range {m : Nat} (h : m ≤ 1000) {t u v : Tok} : Builtin.Range.small 0 (m : Int) 1 = true ∧ Builtin.Range.rangeSize 0 (m : Int) 1 = (m : Int) := by
  have hsz : Builtin.Range.rangeSize 0 (m : Int) 1 = (m : Int) := by simp [Builtin.Range.rangeSize]; omega
  exact ⟨by simp [Builtin.Range.small, hsz, Builtin.Range.rangeFitsLong]; omega, hsz⟩
theorem T_list : Fn C n (.type "list") listF := fun A s φ hp vs cs v hp' hr H hv e =>
  oneRE hv e fun i a q ha e => bRgE e fun m y e => bGE e fun hl e => (H.obj i _ a y ha).elim fun ob g1 => g1.2.elim fun t g2 => g2.elim fun u g2 => g2.elim fun w g2 => by
    cases e; cases q
    obtain ⟨hs1, hs2⟩ := small_range hl (t := t) (u := u) (v := w)
    refine call_list_range (n := m) hr.hand (g2 ▸ g1.1) hs1 hs2 (Nat.le_trans hl (by decide)) fun h' tk acc c' hk hg hi => ?_
    refine PV.add H ⟨_, _, rfl⟩ hk (get_size _) hg ⟨acc.toList, c', ?_, rfl⟩
    refine all2_of (by rw [rangeVs, List.length_map, List.length_range, Array.length_toList, hi.1]) fun j x c h1 h2 => ?_
    obtain ⟨y, h3, rfl⟩ := Option.map_eq_some_iff.mp (List.getElem?_map .. ▸ h1)
    have hj := List.getElem?_eq_some_iff.mp h3
    obtain ⟨hj1, hj2⟩ := hj
    rw [List.getElem_range] at hj2
    obtain ⟨t', e'⟩ := hi.2 j c (Array.getElem?_toList ▸ h2)
    refine ⟨t', ?_⟩
    rw [e', ← hj2]; simp
def sumF (vs : List V) (hp : Hp) : Option (V × Hp) := oneR vs fun i => bIs hp[i]? fun is => some (.int is.sum, hp)
theorem B_sum : Fn C n (.builtin "sum") sumF := fun A s φ hp vs cs v hp' hr H hv e =>
  oneRE hv e fun i a q ha e => bIsE H ha rfl e fun cs is m hi h3 e => by
    cases e; cases q
    obtain ⟨xs, hx⟩ := hi.allInts.items
    have hl := isL h3
    have hn : numsOf cs.toArray.toList = is := hi.numsOf
    rw [hx] at hl hn
    rw [nums_intItems] at hn
    refine sum_intListG hr.hand hl fun h' tk t' hk => ?_
    rw [preSum_eq, List.take_of_length_le (by simp), hn]
    exact ⟨φ, Step.keeps ⟨_, _, rfl⟩ hk, H.heap hk, VR.int⟩
def two {β : Type} (vs : List V) (k : V → V → Option β) : Option β := match vs with
  | [u, v] => k u v
  | _ => none
theorem twoE {β : Type} {φ : List Addr} {vs : List V} {cs : List Value} {k : V → V → Option β} {r : β} {G : Prop} (hv : All2 (VR φ) vs cs) (e : two vs k = some r) (h : ∀ u v c d, cs = [c, d] → VR φ u c → VR φ v d → k u v = some r → G) : G := by
  cases hv with
  | nil => cases e
  | cons h1 h2 => cases h2 with
    | nil => cases e
    | cons h2 h3 => cases h3 with
      | cons => cases e
      | nil => exact h _ _ _ _ rfl h1 h2 e
abbrev twoI {β : Type} (vs : List V) (k : Int → Int → Option β) : Option β := two vs fun u v => onI u fun a => onI v fun b => k a b
theorem twoIE {β : Type} {φ : List Addr} {vs : List V} {cs : List Value} {k : Int → Int → Option β} {r : β} {G : Prop} (hv : All2 (VR φ) vs cs) (e : twoI vs k = some r) (h : ∀ a b t u, cs = [.int a t, .int b u] → k a b = some r → G) : G :=
  twoE hv e fun u v c d q h1 h2 e => (onI_inv e).elim fun a y => (onI_inv y.2).elim fun b z => by
    cases y.1; cases z.1
    exact h1.elim fun t h1 => h2.elim fun u h2 => h a b t u (h1 ▸ h2 ▸ q) z.2
def divmodF (vs : List V) (hp : Hp) : Option (V × Hp) := twoI vs fun a b => bG (b ≠ 0 ∧ b.natAbs < 2 ^ 30) (some (.ref hp.length, hp ++ [.tuple [.int (a.fdiv b), .int (a.fmod b)]]))
theorem B_divmod : Fn C n (.builtin "divmod") divmodF := fun A s φ hp vs cs v hp' hr H hv e =>
  twoIE hv e fun a b t u q e => bGE e fun hb e => by
    cases e; cases q
    have := PV.add (s' := { s with heap := s.heap.push { cls := .type "tuple", data := .seq #[.int (a.fdiv b) s.toks, .int (a.fmod b) (s.toks + 1)] }, toks := s.toks + 1 + 1 }) (o := .tuple [.int (a.fdiv b), .int (a.fmod b)]) H ⟨_, _, rfl⟩ (fun b o e => Heap.get?_push_of_some _ e) (get_size _) (Heap.get?_push_size s.heap rfl) ⟨_, 0, .cons VR.int (.cons VR.int .nil), rfl⟩
    with_reducible exact divmod_int hb.1 this (.inl (PyProof.noPylong_small hb.2))
def sortI (l : List Int) : List Int := l.mergeSort fun a b => decide (a ≤ b)
theorem sortI_eq {a b : List Int} (h : a.Perm b) (hp : a.Pairwise (· ≤ ·)) : a = sortI b := by
  refine lks_uniq (h.trans (List.mergeSort_perm b _).symm) hp ?_
  have := List.pairwise_mergeSort (le := fun (a b : Int) => decide (a ≤ b)) (fun a b c h1 h2 => by simp at *; omega) (fun a b => by simp; omega) b
  exact this.imp fun h => by simpa using h
def sortedF (vs : List V) (hp : Hp) : Option (V × Hp) := oneR vs fun i => bIs hp[i]? fun is => bG (is.length < 64) (some (.ref hp.length, hp ++ [.list ((sortI is).map V.int)]))
theorem B_sorted : Fn C n (.builtin "sorted") sortedF := fun A s φ hp vs cs v hp' hr H hv e =>
  oneRE hv e fun i a q ha e => bIsE H ha rfl e fun cs is m hi h3 e => bGE e fun hl e => by
    cases e; cases q
    refine PyProof.Rows.sorted_ints (isL h3) hi (by rw [hi.length]; exact hl) fun out ns' a1 a2 a3 => ?_
    obtain ⟨ep, he⟩ := sortedAll_at s.heap cs out
    refine PV.add (s' := { s with heap := sortedAll s.heap cs out }) H ⟨_, _, rfl⟩ (fun b o e => sortedAll_old e) (Heap.get?_none_of_le (Nat.le_succ _)) he ⟨out.toList, ep, ?_, rfl⟩
    rw [← sortI_eq a2 a3]
    exact are_all2 a1

/-! methods -/
def MethOK (env : Env) (o : Expr) (name : Str) (apos pos : Pos) (args : List Expr) : Prop :=
  ∃ pl, eval (.Call (.Attribute o name apos) args [] pos) env = (do
      let ov ← eval o env
      standAt apos.atName
      let (f, first) ← holding [ov] (getMethod ov name pl)
      callWith pos f first (backTo pos (starEach args env)) [])
theorem getMethL {A : Around} {s : Shared} {D : Addr} {its : List Value} {k : Nat} {name : Str} {id : String} {pl : Sem Bool} {Q : Value × List Value → Shared → Prop} (h : s.heap.get? D = some { cls := .type "list", data := .seq its.toArray k }) (sl : Slot "list" name id) (ty : typeOf (.builtin id) = pure (.type "method_descriptor"))
    (hq : Q (.builtin id, [.ref D]) s) : wpAny (model C.prog C.w) A (getMethod (.ref D) name pl) Q noE s := by
  have N : News ({} : Heap) (D + 1) s.heap [(D, listOf its.toArray k)] := fun p hp => by
    cases List.mem_singleton.mp hp
    exact ⟨h, fun e => absurd (show D = D + 1 from e) (Nat.ne_of_lt (Nat.lt_succ_self _)), rfl⟩
  exact listMethod_K (its := its.toArray) (n := k) N (List.mem_singleton.mpr rfl) sl ty hq
/-- the list's method is found -/
theorem evMeth {o : Expr} {name : Str} {apos pos : Pos} {args : List Expr} {f : FV} {β : Type} {k : Nat → Hp → Option β} {r : β} {id : String} {φ₀ own : List Addr} {s₀ : Shared} {φ : List Addr} {ρ : Rho} {hp : Hp} {s : Shared} {A : Around} {Q : Value → Shared → Prop} (M : MethOK env o name apos pos args) (sl : Slot "list" name id) (ty : typeOf (.builtin id) = pure (.type "method_descriptor")) (hf : Ev C n env ns o f) (hr : Room A n) (X : At C env ns ρ φ₀ own s₀ φ hp s)
    (e : bR (f ρ hp) (fun i hp => bL hp[i]? fun _ => k i hp) = some r)
    (h : ∀ a s' φ' i hp' xs, At C env ns ρ φ₀ own s₀ φ' hp' s' → φ'[i]? = some a → hp'[i]? = some (.list xs) → k i hp' = some r → wpAny (model C.prog C.w) A (callWith pos (.builtin id) [.ref a] (backTo pos (starEach args env)) []) Q noE s') : wpAny (model C.prog C.w) A (eval (.Call (.Attribute o name apos) args [] pos) env) Q noE s :=
  M.elim fun pl hM => MethodCall_ (pl := pl) (evR hf hr X e fun a s1 φ1 i hp1 X1 _ ha e => bLE e fun xs q e => X1.H.lisAt q ha fun cs m h2 l2 h3 => getMethL h3 sl ty (h a s1 φ1 i hp1 xs X1 ha q e)) hM
/-- the list is another one now -/
theorem At.upd {φ₀ own : List Addr} {s₀ : Shared} {φ : List Addr} {ρ : Rho} {hp : Hp} {s : Shared} (X : At C env ns ρ φ₀ own s₀ φ hp s) {i : Nat} {a : Addr} {h' : Heap} {m : Nat} {o : List V} {ds : List Value} (ha : φ[i]? = some a) (hs : Heap.SameBut a s.heap h') (hg : h'.get? a = some { cls := .type "list", data := .seq ds.toArray m }) (ho : All2 (VR φ) o ds) :
    At C env ns ρ φ₀ own s₀ φ (hp.set i (.list o)) { s with heap := h' } :=
  X.then_ (s' := { s with heap := h' }) (Step.one (.inl (List.mem_of_getElem? ha)) ⟨_, _, rfl⟩ hs.2 hg) (X.H.set ha hs.2 hg ⟨ds, m, ho, rfl⟩)
theorem At.updM {φ₀ own : List Addr} {s₀ : Shared} {φ : List Addr} {ρ : Rho} {hp : Hp} {s : Shared} (X : At C env ns ρ φ₀ own s₀ φ hp s) {i : Nat} {a : Addr} {cs : List Value} {m : Nat} {o : List V} (g : Array Value → Array Value) (ha : φ[i]? = some a) (h3 : s.heap.get? a = some { cls := .type "list", data := .seq cs.toArray m }) {ds : List Value} (hd : g cs.toArray = ds.toArray) (ho : All2 (VR φ) o ds) :
    At C env ns ρ φ₀ own s₀ φ (hp.set i (.list o)) { s with heap := s.heap.update a (Obj.mapSeq g) } := by
  have hg : ∃ m', (s.heap.update a (Obj.mapSeq g)).get? a = some { cls := .type "list", data := .seq (g cs.toArray) m' } := ⟨_, Heap.get?_update_self _ h3 rfl⟩
  rw [hd] at hg
  exact hg.elim fun m' hg => X.upd ha (Heap.SameBut.update ..) hg ho
theorem Ev_append {o e : Expr} {apos pos : Pos} {f g : FV} (M : MethOK env o "append" apos pos [e]) (hf : Ev C n env ns o f) (hg : Ev C n env ns e g) (he : notStar e = true) :
    Ev C n env ns (.Call (.Attribute o "append" apos) [e] [] pos) (fun ρ hp => bR (f ρ hp) fun i hp => bL hp[i]? fun _ => bV (g ρ hp) fun v hp => bL hp[i]? fun xs => bG (xs.length ≤ 1000) (some (.val .none, hp.set i (.list (xs ++ [v]))))) := fun A s φ ρ hp v hp' hr R H ee =>
  evMeth M F.slot_list_append F.type_list_append hf hr (.start (own := []) R H) ee fun a s1 φ1 i hp1 _ X1 ha _ ee => callWith_method1 (wpAny_items_cons (evV hg hr X1 ee fun c s2 φ2 u hp2 X2 p r2 ee => wpAny_items_nil (bLE ee fun xs q ee => bGE ee fun hl ee => X2.H.lisAt q (pre_get p ha) fun cs m h2 l2 h3 => by
    cases ee
    show wpAny _ _ (PySem.call (.builtin "list.append") [.ref a, c]) _ _ _
    with_reducible refine append_at h3 (fun h' hs hg' => ?_) (by simp only [List.size_toArray]; exact line_le (l2 ▸ hl))
    exact (X2.upd (o := xs ++ [u]) (ds := cs ++ [c]) (pre_get p ha) hs (by rw [hg', List.push_toArray]) (h2.snoc r2)).pv rfl)) (starEach_cons he)) (starEach_cons he) rfl
theorem Ev_pop {o : Expr} {apos pos : Pos} {f : FV} (M : MethOK env o "pop" apos pos []) (hf : Ev C n env ns o f) : Ev C n env ns (.Call (.Attribute o "pop" apos) [] [] pos) (fun ρ hp => bR (f ρ hp) fun i hp => bL hp[i]? fun _ => bL hp[i]? fun xs => bG (xs.length ≤ 1000) (xs.getLast?.map fun v => (v, hp.set i (.list xs.dropLast)))) := fun A s φ ρ hp v hp' hr R H ee =>
  evMeth M F.slot_list_pop F.type_list_pop hf hr (.start (own := []) R H) ee fun a s1 φ1 i hp1 _ X1 ha _ ee => bLE ee fun xs q ee => bGE ee fun hl ee => (Option.map_eq_some_iff.mp ee).elim fun u y => X1.H.lisAt q ha fun cs k h2 l2 h3 => by
    cases y.2
    have hu := y.1
    rw [List.getLast?_eq_getElem?] at hu
    obtain ⟨c, hy, ry⟩ := h2.get hu
    have hd : All2 (VR φ1) xs.dropLast cs.dropLast := by
      refine all2_of (by rw [List.length_dropLast, List.length_dropLast, l2]) fun j x c h4 h5 => ?_
      rw [List.getElem?_dropLast] at h4 h5
      split at h4
      · rename_i hj
        rw [if_pos (l2 ▸ hj)] at h5
        exact (h2.get h4).elim fun c' h => by cases h5.symm.trans h.1; exact h.2
      · cases h4
    refine P.pop_list (items := cs.toArray) (n := k) h3 (y := c) (by rw [List.size_toArray, List.getElem?_toArray, ← l2]; exact hy) ((X1.updM _ ha h3 (ds := cs.dropLast) ?_ hd).pv ry) (by simp only [List.size_toArray]; exact line_le (l2 ▸ hl))
    apply Array.ext'
    have : cs ≠ [] := fun q => by subst q; cases hy
    rw [Array.eraseIdxIfInBounds]
    split
    · simp
    · rename_i hh; exfalso; apply hh; have := List.length_pos_iff.mpr this; simp; omega
theorem Ev_reverse {o : Expr} {apos pos : Pos} {f : FV} (M : MethOK env o "reverse" apos pos []) (hf : Ev C n env ns o f) : Ev C n env ns (.Call (.Attribute o "reverse" apos) [] [] pos) (fun ρ hp => bR (f ρ hp) fun i hp => bL hp[i]? fun _ => bL hp[i]? fun xs => bG (xs.length ≤ 1000) (some (.val .none, hp.set i (.list xs.reverse)))) := fun A s φ ρ hp v hp' hr R H ee =>
  evMeth M F.slot_list_reverse F.type_list_reverse hf hr (.start (own := []) R H) ee fun a s1 φ1 i hp1 _ X1 ha _ ee => bLE ee fun xs q ee => bGE ee fun hl ee => X1.H.lisAt q ha fun cs k h2 l2 h3 => by
    cases ee
    exact P.reverse_list (items := cs.toArray) (n := k) h3 ((X1.updM _ ha h3 (ds := cs.reverse) (by rw [List.reverse_toArray]) h2.reverse).pv rfl) (by simp only [List.size_toArray]; exact line_le (l2 ▸ hl))
theorem Ev_extend {o e : Expr} {apos pos : Pos} {f g : FV} (M : MethOK env o "extend" apos pos [e]) (hf : Ev C n env ns o f) (hg : Ev C n env ns e g) (he : notStar e = true) :
    Ev C n env ns (.Call (.Attribute o "extend" apos) [e] [] pos) (fun ρ hp => bR (f ρ hp) fun i hp => bL hp[i]? fun _ => bR (g ρ hp) fun j hp => bL hp[i]? fun xs => bL hp[j]? fun ys => bG (xs.length + ys.length ≤ 1000) (some (.val .none, hp.set i (.list (xs ++ ys))))) := fun A s φ ρ hp v hp' hr R H ee =>
  evMeth M F.slot_list_extend F.type_list_extend hf hr (.start (own := []) R H) ee fun a s1 φ1 i hp1 _ X1 ha _ ee => by
    rw [starEach_cons he]
    exact P.extend_list (evR hg hr X1 ee fun b s2 φ2 j hp2 X2 p hb ee => bLE ee fun xs q ee => bLE ee fun ys q2 ee => bGE ee fun hl ee => X2.H.lisAt q (pre_get p ha) fun ds m h4 l4 h5 => X2.H.lisAt q2 hb fun es m2 h6 l6 h7 => by
      cases ee
      refine ⟨b, ds.toArray, es.toArray, m, m2, ?_, ?_, ?_, rfl, h5, h7, (X2.updM _ (pre_get p ha) h5 (ds := ds ++ es) (by rw [List.append_toArray]) (h4.append h6)).pv rfl⟩
      · simp only [List.size_toArray]; exact line_le (by omega)
      · simp only [List.size_toArray]; exact Nat.le_succ_of_le (line_le (by omega))
      · simp [Builtin.List.listTooLong, sizeLine]; omega)
theorem Ev_bits {o : Expr} {apos pos : Pos} {f : FV} (M : MethOK env o "bit_length" apos pos []) (hf : Ev C n env ns o f) : Ev C n env ns (.Call (.Attribute o "bit_length" apos) [] [] pos) (fun ρ hp => bI (f ρ hp) fun a hp => some (.int (Builtin.Int.intBits a), hp)) := fun A s φ ρ hp v hp' hr R H ee =>
  M.elim fun pl hM => MethodCall_ (pl := pl) (evI hf hr (.start R H) ee fun t s1 φ1 a hp1 X1 _ ee => by
    cases ee
    with_reducible refine getMethod_int_bit_length ?_
    with_reducible refine callWith_method0 ?_
    with_reducible exact call_int_bit_length (X1.tok VR.int)) hM
theorem Ev_lower {o : Expr} {apos pos : Pos} {f : FV} (M : MethOK env o "lower" apos pos []) (hf : Ev C n env ns o f) : Ev C n env ns (.Call (.Attribute o "lower" apos) [] [] pos) (fun ρ hp => bSt (f ρ hp) fun x hp => bG (x.length ≤ 1000) (some (.str (Txt.lower x), hp))) := fun A s φ ρ hp v hp' hr R H ee =>
  M.elim fun pl hM => MethodCall_ (pl := pl) (evSt hf hr (.start R H) ee fun t s1 φ1 x hp1 X1 _ ee => bGE ee fun hl ee => by
    cases ee
    with_reducible refine GM.lower ?_
    with_reducible refine callWith_method0 ?_
    have hl2 : x.length ≤ 5592405 := Nat.le_trans hl (by decide)
    with_reducible exact SCL.lower hl2 fun _ => X1.tok VR.strI) hM
end
end Mine

open PySem PySem.Calls PySem.W PySem.Spec PyProof.Rows
set_option Elab.async false
set_option autoImplicit false
set_option maxRecDepth 100000
set_option genSizeOf false
set_option linter.unusedVariables false
namespace Mine
noncomputable section
variable {C : Cx} {n : Nat} {env : Env} {ns : List Str}

/-! items -/
theorem tailG {A : Around} {value slice : Expr} {o i : Value} {T id : String} {Q : Value → Shared → Prop} {s : Shared} (ht : s.TypeIs o T) (hi : typeLookup (.type T) "__getitem__" = pure (some (.builtin id))) (hs : ∀ o i, ∃ ops, subscripted slice false o i = operate ops (getItem o i))
    (h : wpAny (model C.prog C.w) A (getItem o i) Q noE s) : wpAny (model C.prog C.w) A (subscriptTail value slice o i) Q noE s := (hs o i).elim fun ops ho => tail_any ht hi h ho
abbrev SubOK (slice : Expr) : Prop := ∀ o i, ∃ ops, subscripted slice false o i = operate ops (getItem o i)
/-- an item of a list -/
theorem Ev_idx {value slice : Expr} {pos : Pos} {f g : FV} (hf : Ev C n env ns value f) (hg : Ev C n env ns slice g) (hs : SubOK slice) :
    Ev C n env ns (.Subscript value slice pos) (fun ρ hp => bR (f ρ hp) fun i hp => bI (g ρ hp) fun k hp => bL hp[i]? fun xs => bG (0 ≤ k ∧ k ≤ 1000) (xs[k.toNat]?.map fun v => (v, hp))) := fun A s φ ρ hp v hp' hr R H e =>
  Subscript_ (evR hf hr (.start R H) e fun a s1 φ1 i hp1 X1 _ ha e => evI hg hr X1 e fun t s2 φ2 k hp2 X2 p e => bLE e fun xs q e => bGE e fun hk e => (Option.map_eq_some_iff.mp e).elim fun u y => X2.H.lisAt q (pre_get p ha) fun cs m h2 l2 h3 => (h2.get y.1).elim fun c hc => by
    cases y.2
    have hk2 : k < 2 ^ 63 := by omega
    refine tailG (isL h3).typeIs slot_list_getitem.lookup hs ?_
    with_reducible exact PySem.wpAny_getItem_list (isL h3) hk.1 hk2 (by rw [List.getElem?_toArray]; exact hc.1) (X2.pv hc.2))
/-- a sign of a text -/
theorem Ev_idxS {value slice : Expr} {pos : Pos} {f g : FV} (hf : Ev C n env ns value f) (hg : Ev C n env ns slice g) (hs : SubOK slice) :
    Ev C n env ns (.Subscript value slice pos) (fun ρ hp => bSt (f ρ hp) fun x hp => bI (g ρ hp) fun k hp => bG (0 ≤ k ∧ k < x.length ∧ x.length ≤ 1000) (some (.str (Txt.item x k), hp))) := fun A s φ ρ hp v hp' hr R H e =>
  Subscript_ (evSt hf hr (.start R H) e fun t s1 φ1 x hp1 X1 _ e => evI hg hr X1 e fun u s2 φ2 k hp2 X2 p e => bGE e fun hk e => by
    cases e
    refine tailG (typeIs_str s2 x t) slot_str_getitem.lookup hs ?_
    have h1 : fitsSsize k = true := by simp [fitsSsize]; omega
    have h2 : (Txt.charAt x k).isSome = true := by
      unfold Txt.charAt
      have : seqIndex? k x.length = some k.toNat := by
        unfold seqIndex?
        simp; omega
      rw [this]
      have h4 : k.toNat < x.cps.size := by have := hk.2.1; unfold Str.length at this; omega
      simp [h4]
    with_reducible exact SB.getItem h1 h2 (X2.tok VR.strI))
/-- what a table of ints names -/
def lookI (k : Int) : List (Int × V) → Option V
  | [] => none
  | (j, v) :: r => if j = k then some v else lookI k r
theorem look_rel {φ : List Addr} {k : Int} {v : V} : ∀ {es : List (Int × V)} {cl : List DictEntry}, All2 (fun (e : Int × V) (c : DictEntry) => (∃ t, c.key = .int e.1 t) ∧ VR φ e.2 c.val) es cl → lookI k es = some v → ∃ c, (cl.find? fun e => Value.isInt k e.key).map (·.val) = some c ∧ VR φ v c
  | [], _, _, q => nomatch q
  | (j, u) :: es, _, .cons (b := c) h hr, q => by
    refine h.1.elim fun t hkey => ?_
    rw [lookI] at q
    rw [List.find?_cons, hkey]
    by_cases hj : j = k
    · rw [if_pos hj] at q
      cases q
      have : Value.isInt k (.int j t) = true := decide_eq_true hj
      rw [this]; exact ⟨c.val, rfl, h.2⟩
    · rw [if_neg hj] at q
      have : Value.isInt k (.int j t) = false := decide_eq_false hj
      rw [this]; exact look_rel hr q
def bD {β : Type} (x : Option O) (k : List (Int × V) → Option β) : Option β := match x with
  | some (.dict xs) => k xs
  | _ => none
theorem bDE {β : Type} {x : Option O} {k : List (Int × V) → Option β} {r : β} {G : Prop} (e : bD x k = some r) (h : ∀ m, x = some (.dict m) → k m = some r → G) : G := by
  cases x with
  | none => cases e
  | some o => cases o with
    | dict m => exact h m rfl e
    | _ => cases e
theorem Ev_idxD {value slice : Expr} {pos : Pos} {f g : FV} (hf : Ev C n env ns value f) (hg : Ev C n env ns slice g) (hs : SubOK slice) :
    Ev C n env ns (.Subscript value slice pos) (fun ρ hp => bR (f ρ hp) fun i hp => bI (g ρ hp) fun k hp => bD hp[i]? fun es => (lookI k es).map fun v => (v, hp)) := fun A s φ ρ hp v hp' hr R H e =>
  Subscript_ (evR hf hr (.start R H) e fun a s1 φ1 i hp1 X1 _ ha e => evI hg hr X1 e fun t s2 φ2 k hp2 X2 p e => bDE e fun es q e => (Option.map_eq_some_iff.mp e).elim fun u y => by
    cases y.2
    obtain ⟨ob, h1, ces, ep, h2, h3, h4, h5, h6⟩ := X2.H.obj i _ a q (pre_get p ha)
    have hm : s2.heap.MapOf (intKind C.prog C.w) a (fun j => findBy (intKind C.prog C.w).is ces j) := ⟨ob, ces, ep, h1, h2, h3, fun e he => (h4 e he).elim fun j h => h.elim fun t h => ⟨j, by rw [h.1]; exact decide_eq_true rfl, h.2⟩, fun _ => rfl⟩
    refine tailG hm.typeIs slot_dict_getitem.lookup hs ((look_rel h5 y.1).elim fun c hc => ?_)
    have hq : findBy (intKind C.prog C.w).is ces k = some c := by unfold findBy; rw [← Array.find?_toList]; exact hc.1
    with_reducible exact wpAny_getItem_of (intKind_is _ _ _ _) hm hq (X2.tok hc.2))

/-! slices -/
abbrev FP := Rho → Hp → Option (Option Int × Hp)
def bP {β : Type} (x : Option (Option Int × Hp)) (k : Option Int → Hp → Option β) : Option β := match x with
  | some (v, hp) => k v hp
  | none => none
theorem bP_inv {β : Type} {x : Option (Option Int × Hp)} {k : Option Int → Hp → Option β} {r : β} (e : bP x k = some r) : ∃ v hp, x = some (v, hp) ∧ k v hp = some r := match x, e with
  | some (v, hp), e => ⟨v, hp, rfl, e⟩
def Pt (C : Cx) (n : Nat) (env : Env) (ns : List Str) (e : Option Expr) (f : FP) : Prop :=
  ∀ A s φ ρ hp v hp', Room A n → ER C env ns ρ φ s → HR C hp φ s → f ρ hp = some (v, hp') → wpAny (model C.prog C.w) A (evalPart e env) (fun c s' => ∃ φ', Step C φ [] s φ' s' ∧ HR C hp' φ' s' ∧ IsPart c v) noE s
theorem Pt_none : Pt C n env ns none (fun _ hp => some (none, hp)) := fun A s φ ρ hp v hp' hr R H e => by
  cases e; exact evalPart_none_step ⟨φ, Step.refl, H, .none⟩
theorem Pt_some {e : Expr} {f : FV} (hf : Ev C n env ns e f) : Pt C n env ns (some e) (fun ρ hp => bI (f ρ hp) fun k hp => some (some k, hp)) := fun A s φ ρ hp v hp' hr R H e =>
  evalPart_some_step (evI hf hr (.start (own := []) R H) e fun t s1 φ1 k hp1 X1 _ e => by cases e; exact ⟨φ1, X1.S, X1.H, .int _ _⟩)
theorem evP {β : Type} {ex : Option Expr} {f : FP} {φ₀ own : List Addr} {s₀ : Shared} {φ : List Addr} {ρ : Rho} {hp : Hp} {s : Shared} {A : Around} {r : β} {Q : Value → Shared → Prop} (hf : Pt C n env ns ex f) (hr : Room A n) (X : At C env ns ρ φ₀ own s₀ φ hp s) {k : Option Int → Hp → Option β} (e : bP (f ρ hp) k = some r)
    (h : ∀ c s' φ' v hp', At C env ns ρ φ₀ own s₀ φ' hp' s' → φ <+: φ' → IsPart c v → k v hp' = some r → Q c s') : wpAny (model C.prog C.w) A (evalPart ex env) Q noE s :=
  (bP_inv e).elim fun v q => q.elim fun hp' q => wpF (hf A s φ ρ hp v hp' hr X.R X.H q.1) fun c s' ⟨φ', S, H, r⟩ => h c s' φ' v hp' (X.then_ S H) S.pre r q.2
def pickV (vs : List V) (lo hi st : Option Int) : List V :=
  (sliceRange (sliceBounds lo hi st vs.length).1 (sliceBounds lo hi st vs.length).2.1 (sliceBounds lo hi st vs.length).2.2).filterMap (vs[·]?)
theorem all2_places {R : V → Value → Prop} {vs : List V} {cs : List Value} (h : All2 R vs cs) : ∀ l : List Nat, All2 R (l.filterMap (vs[·]?)) (l.filterMap (cs[·]?))
  | [] => .nil
  | i :: l => by
    cases q : vs[i]? with
    | none =>
      have q' : cs[i]? = none := by rw [List.getElem?_eq_none_iff] at q ⊢; exact h.length ▸ q
      rw [List.filterMap_cons_none q, List.filterMap_cons_none q']
      exact all2_places h l
    | some v =>
      refine (h.get q).elim fun c y => ?_
      rw [List.filterMap_cons_some q, List.filterMap_cons_some y.1]
      exact .cons y.2 (all2_places h l)
theorem Ev_slice {value : Expr} {lo hi st : Option Expr} {sp pos : Pos} {f : FV} {g1 g2 g3 : FP} (hf : Ev C n env ns value f) (h1 : Pt C n env ns lo g1) (h2 : Pt C n env ns hi g2) (h3 : Pt C n env ns st g3) :
    Ev C n env ns (.Subscript value (.Slice lo hi st sp) pos) (fun ρ hp => bR (f ρ hp) fun i hp => bP (g1 ρ hp) fun lo hp => bP (g2 ρ hp) fun hi hp => bP (g3 ρ hp) fun st hp => bL hp[i]? fun xs => bG (xs.length ≤ 1000 ∧ st ≠ some 0) (some (.ref hp.length, hp ++ [.list (pickV xs lo hi st)]))) := fun A s φ ρ hp v hp' hr R H e =>
  Subscript_ (evR hf hr (.start R H) e fun a s1 φ1 i hp1 X1 _ ha e => wpAny_Slice (evP h1 hr X1 e fun c1 s2 φ2 lo' hp2 X2 p2 i1 e => evP h2 hr X2 e fun c2 s3 φ3 hi' hp3 X3 p3 i2 e => evP h3 hr X3 e fun c3 s4 φ4 st' hp4 X4 p4 i3 e => bLE e fun xs q e => bGE e fun hl e => X4.H.lisAt q (pre_get (p2.trans (p3.trans p4)) ha) fun cs m h5 l5 h6 => by
    cases e
    have up : ∀ b o, s4.heap.get? b = some o → (s4.heap.push { cls := .type "slice", data := .fields #[c1, c2, c3] }).get? b = some o := fun b o e => Heap.get?_push_of_some _ e
    have X5 : At C env ns ρ φ [] s φ4 hp4 { s4 with heap := s4.heap.push { cls := .type "slice", data := .fields #[c1, c2, c3] } } := X4.then_ (Step.keeps ⟨_, _, rfl⟩ up) (X4.H.heap up)
    have hL := isL (up _ _ h6)
    refine tailG hL.typeIs list_getitem_lookup (by cases st <;> exact fun _ _ => ⟨_, rfl⟩) (wpAny_getItem_list_slice hL (Heap.IsSliceOf.new ..) i1 i2 i3 hl.2 (X5.newO (o := .list (pickV xs lo' hi' st')) rfl ⟨(slicePick cs.toArray lo' hi' st').toList, 0, ?_, rfl⟩) (by simp only [List.size_toArray]; exact line_le (l5 ▸ hl.1)))
    have : (slicePick cs.toArray lo' hi' st').toList = (sliceRange (sliceBounds lo' hi' st' xs.length).1 (sliceBounds lo' hi' st' xs.length).2.1 (sliceBounds lo' hi' st' xs.length).2.2).filterMap (cs[·]?) := by
      simp [slicePick, l5]
    rw [this]
    exact all2_places h5 _))
theorem Ev_ite {test body orelse : Expr} {pos : Pos} {t : FB} {f g : FV} (ht : Tr C n env ns test t) (hf : Ev C n env ns body f) (hg : Ev C n env ns orelse g) :
    Ev C n env ns (.IfExp test body orelse pos) (fun ρ hp => bB (t ρ hp) fun b hp => match b with | true => f ρ hp | false => g ρ hp) := fun A s φ ρ hp v hp' hr R H e =>
  wpAny_IfExp (evB ht hr (.start R H) e fun b s1 φ1 hp1 X1 _ e => by
    cases b with
    | true => exact pvS X1.S (hf A s1 φ1 ρ hp1 v hp' hr X1.R X1.H e)
    | false => exact pvS X1.S (hg A s1 φ1 ρ hp1 v hp' hr X1.R X1.H e))

/-! a text's place in a table of the top -/
theorem evN {φ₀ own : List Addr} {s₀ : Shared} {φ : List Addr} {ρ : Rho} {hp : Hp} {s : Shared} {A : Around} {ex : Expr} {v : V} {Q : Value → Shared → Prop} {E : Value → Shared → Prop} (hf : Ev C n env ns ex (fun _ hp => some (v, hp))) (hr : Room A n) (X : At C env ns ρ φ₀ own s₀ φ hp s)
    (h : ∀ c s' φ', At C env ns ρ φ₀ own s₀ φ' hp s' → VR φ' v c → Q c s') : wpAny (model C.prog C.w) A (eval ex env) Q E s :=
  wpF (hf A s φ ρ hp v hp hr X.R X.H rfl) fun c s' ⟨φ', S, H, r⟩ => h c s' φ' (X.then_ S H) r
theorem Ev_tok (tab : List (Str × Int)) {a : Addr} {es : Array DictEntry} {k : Nat} {y : Str} {py pos : Pos} {slice : Expr} {f : FV} (hn : TopN C env y) (hc : nsIn C.K mainGlobals y = some (some (.ref a))) (hl : C.K.lookup a = some ⟨.type "dict", none, .dict es k, #[]⟩) (hk : KeysLit C.w.params es.toList)
    (he : ∀ p ∈ tab, ∃ t, nsIn C.K a p.1 = some (some (.int p.2 t))) (hf : Ev C n env ns slice f) (hs : SubOK slice) : Ev C n env ns (.Subscript (.Name y py) slice pos) (fun ρ hp => bSt (f ρ hp) fun x hp => (tab.lookup x).map fun v => (.int v, hp)) := fun A s φ ρ hp v hp' hr R H e =>
  Subscript_ (evN (Ev_glob (.val (.ref a)) hn hc rfl) hr (.start R H) fun ca s1 φ1 X1 r0 => evSt hf hr X1 e fun tb s2 φ2 x hp2 X2 _ e => (Option.map_eq_some_iff.mp e).elim fun u y => (he (x, u) (mem_of_lookup y.1)).elim fun t ht => by
    cases r0; cases y.2
    have hm := mapOf_K (prog := C.prog) X2.H.KIn hl hk
    refine tailG hm.typeIs slot_dict_getitem.lookup hs ?_
    with_reducible exact wpAny_getItem_of (strKind_is C.prog C.w x tb) hm (find_K hl ht) (X2.tok VR.int))
end
end Mine

open PySem PySem.Calls PySem.W PySem.Spec PyProof.Rows
set_option Elab.async false
set_option autoImplicit false
set_option maxRecDepth 100000
set_option genSizeOf false
set_option genInjectivity false
set_option linter.unusedVariables false
namespace Mine
noncomputable section
variable {C : Cx} {n : Nat} {env : Env} {ns : List Str}

/-! stores -/
theorem Ns_uniq {h : Heap} {a : Addr} {m m' : Str → Option Value} (h1 : h.Ns a m) (h2 : h.Ns a m') : m = m' := by
  obtain ⟨o, es, ep, ho, hd, _, hf⟩ := h1
  obtain ⟨o', es', ep', ho', hd', _, hf'⟩ := h2
  cases ho.symm.trans ho'
  cases hd.symm.trans hd'
  exact funext fun x => (hf x).symm.trans (hf' x)
theorem Ns_nc {h : Heap} {b : Addr} {m : Str → Option Value} (x : h.Ns b m) : ∃ o, h.get? b = some o ∧ NC o :=
  x.imp fun o x => x.elim fun es x => x.elim fun ep x => ⟨x.1, nc_of fun vs e => nomatch x.2.1.symm.trans e⟩
theorem Cell_nc {h : Heap} {b : Addr} {v : Option Value} (x : h.IsCell b v) : ∃ o, h.get? b = some o ∧ NC o :=
  x.imp fun o x => ⟨x.1, nc_of fun vs e => nomatch x.2.symm.trans e⟩
theorem snd_inj : ∀ {l : List (Str × Addr)}, (l.map (·.2)).Nodup → ∀ {x y : Str} {a : Addr}, (x, a) ∈ l → (y, a) ∈ l → x = y
  | [], _, _, _, _, hx, _ => nomatch hx
  | p :: r, h, x, y, a, hx, hy => by
    have h := List.nodup_cons.mp h
    rcases List.mem_cons.mp hx with rfl | q1 <;> rcases List.mem_cons.mp hy with q2 | q2
    · cases q2; rfl
    · exact (h.1 (List.mem_map.mpr ⟨_, q2, rfl⟩)).elim
    · cases q2; exact (h.1 (List.mem_map.mpr ⟨_, q1, rfl⟩)).elim
    · exact snd_inj h.2 q1 q2
/-- one name takes a value; all else stands -/
theorem ER.put {ρ : Rho} {φ : List Addr} {s s' : Shared} {i : Nat} {x : Str} {v : V} {c : Value} {own : List Addr} (R : ER C env ns ρ φ s) (hx : ns[i]? = some x) (hv : VR φ v c) (S : Step C φ own s φ s') (h1 : Holds env x c s'.heap) (h2 : ∀ y c', y ≠ x → Holds env y c' s.heap → Holds env y c' s'.heap)
    (h3 : ∃ m, s'.heap.Ns env.locals m) (h4 : ∀ y a, env.cells.lookup y = some a → ∃ v, s'.heap.IsCell a v) : ER C env ns (ρ.set i (some v)) φ s' where
  st := R.st
  var j y w e1 e2 := by
    by_cases hj : i = j
    · subst hj
      cases hx.symm.trans e1
      have hl : i < ρ.length := (List.getElem?_eq_some_iff.mp e2).1 |> fun h => List.length_set .. ▸ h
      rw [List.getElem?_set_self hl] at e2
      cases e2
      exact ⟨c, hv, h1⟩
    · rw [List.getElem?_set_ne hj] at e2
      exact (R.var j y w e1 e2).imp fun c' q => ⟨q.1, h2 y c' (fun e => hj ((List.getElem?_inj (List.getElem?_eq_some_iff.mp hx).1 R.st.nsND).mp (hx.trans (e ▸ e1.symm)))) q.2⟩
  loc := h3
  cel := h4
  out b hb := ⟨(R.out b hb).1, (R.out b hb).2.elim fun o e => S.live b o e⟩
theorem store_ok {A : Around} {s : Shared} {φ : List Addr} {ρ : Rho} {hp : Hp} {i : Nat} {x : Str} {v : V} {c : Value} {Q : Unit → Shared → Prop} {E : Value → Shared → Prop} (R : ER C env ns ρ φ s) (H : HR C hp φ s) (hx : ns[i]? = some x) (hv : VR φ v c)
    (h : ∀ s' b, b ∈ ownOf env → (env.kindOf x = some .local → b = env.locals) → Step C φ [b] s φ s' → ER C env ns (ρ.set i (some v)) φ s' → HR C hp φ s' → Q () s') : wpAny (model C.prog C.w) A (storeName env x c) Q E s := by
  obtain ⟨m, hm⟩ := R.loc
  have nd := List.nodup_cons.mp R.st.apart
  have nl : ∀ y b, env.cells.lookup y = some b → b ≠ env.locals := fun y b hy e => nd.1 (e ▸ List.mem_map.mpr ⟨(y, b), mem_of_lookup hy, rfl⟩)
  have fin : ∀ b h' tk, b ∈ ownOf env → C.h₀.get? b = none → (∃ o, s.heap.get? b = some o ∧ NC o) → Heap.SameBut b s.heap h' → (∃ o, h'.get? b = some o) → Step C φ [b] s φ { s with heap := h', toks := tk } ∧ HR C hp φ { s with heap := h', toks := tk } := fun b h' tk hb h0 h1 hs h2 => by
    refine ⟨h2.elim fun o ho => Step.one (.inr (List.mem_singleton.mpr rfl)) ⟨_, _, rfl⟩ hs.2 ho, h1.elim fun o ho => H.ext (own := []) ho.1 ho.2 ⟨(R.out b hb).1, List.not_mem_nil, R.st.tabs b hb, h0⟩ fun c o hc e => (hs.2 c hc).trans e⟩
  rcases R.st.kinds x (List.mem_of_getElem? hx) with hk | ⟨hk, a, ha, hz⟩
  · refine wpAny_storeName_local hk hm (fun h' hn' hs => ?_) (by rw [R.st.kind]; rfl)
    obtain ⟨S, H'⟩ := fin _ h' (s.toks + 1) List.mem_cons_self R.st.locF (Ns_nc hm) hs ((Ns_nc hn').imp fun o h => h.1)
    refine h _ _ List.mem_cons_self (fun _ => rfl) S (R.put hx hv S (.inl ⟨hk, _, hn', if_pos rfl⟩) (fun y c' hne hh => hh.imp (fun q => ⟨q.1, _, hn', ?_⟩) fun q => ⟨q.1, q.2.imp fun a q => ⟨q.1, q.2.sameBut hs (nl y a q.1)⟩⟩) ⟨_, hn'⟩ fun y a hy => (R.cel y a hy).imp fun v hc => hc.sameBut hs (nl y a hy)) H'
    refine (if_neg hne).trans (q.2.elim fun m' q => ?_)
    rw [Ns_uniq hm q.1]; exact q.2
  · obtain ⟨v₀, hv₀⟩ := R.cel x a ha
    refine wpAny_storeName_cell R.st.kind hk ha hv₀ fun h' hc' hs => ?_
    obtain ⟨S, H'⟩ := fin a h' s.toks (mem_own_cell ha) hz (Cell_nc hv₀) hs ((Cell_nc hc').imp fun o h => h.1)
    refine h _ a (mem_own_cell ha) (fun q => nomatch hk.symm.trans q) S (R.put hx hv S (.inr ⟨.inl hk, a, ha, hc'⟩) (fun y c' hne hh => hh.imp (fun q => ⟨q.1, q.2.imp fun m' q => ⟨q.1.sameBut hs (nl x a ha).symm, q.2⟩⟩) fun q => ⟨q.1, q.2.imp fun b q => ⟨q.1, q.2.sameBut hs fun e => hne (snd_inj nd.2 (mem_of_lookup q.1) (mem_of_lookup (e ▸ ha)))⟩⟩) ⟨m, hm.sameBut hs (nl x a ha).symm⟩ fun y b hy => ?_) H'
    by_cases q : b = a
    · exact ⟨_, q ▸ hc'⟩
    · exact (R.cel y b hy).imp fun v hc => hc.sameBut hs q
theorem At.store {A : Around} {φ₀ : List Addr} {s₀ s : Shared} {φ : List Addr} {ρ : Rho} {hp : Hp} {i : Nat} {x : Str} {v : V} {c : Value} {Q : Unit → Shared → Prop} {E : Value → Shared → Prop} (X : At C env ns ρ φ₀ (ownOf env) s₀ φ hp s) (hx : ns[i]? = some x) (hv : VR φ v c)
    (h : ∀ s', At C env ns (ρ.set i (some v)) φ₀ (ownOf env) s₀ φ hp s' → Q () s') : wpAny (model C.prog C.w) A (storeName env x c) Q E s :=
  store_ok X.R X.H hx hv fun s' b hb _ S R' H' => h s' ⟨X.S.trans (S.weak fun c hc => List.mem_singleton.mp hc ▸ hb), R', H'⟩

/-! statements -/
theorem Ex_assign (i : Nat) {x : Str} {p pos : Pos} {value : Expr} {f : FV} (hx : ns[i]? = some x) (hs : swapsWith value (some (.Name x p)) pos.line env = pure false) (hf : Ev C n env ns value f) :
    Ex C n env ns (.Assign [.Name x p] value pos) (fun ρ hp => bV (f ρ hp) fun v hp => some (.next, ρ.set i (some v), hp)) := fun A s φ ρ hp fl ρ' hp' hr R H e =>
  wpAny_Assign_Name (evV hf hr (.start R H) e fun c s1 φ1 v hp1 X1 _ r1 e => X1.store hx r1 fun s2 X2 => by cases e; exact X2.ps rfl) hs
theorem Ex_aug (i : Nat) {x : Str} {p pos : Pos} {value : Expr} {f : FV} (hx : ns[i]? = some x) (hf : Ev C n env ns value f) :
    Ex C n env ns (.AugAssign (.Name x p) .Add value pos) (fun ρ hp => bI ((getR ρ i).map fun v => (v, hp)) fun a hp => bI (f ρ hp) fun b hp => some (.next, ρ.set i (some (.int (a + b))), hp)) := fun A s φ ρ hp fl ρ' hp' hr R H e =>
  (bV_inv e).elim fun w q => q.elim fun hp1 q => (Option.map_eq_some_iff.mp q.1).elim fun u y => (onI_inv q.2).elim fun a z => by
    cases y.2; cases z.1
    refine wpAny_AugAssign_Name (loadVar R hx y.1 fun c hc => evI hf hr (.start (own := ownOf env) R H) z.2 fun t s1 φ1 b hp1 X1 _ e => ?_)
    obtain ⟨t, rfl⟩ := hc
    cases e
    refine wpAny_iadd_int ?_
    have X3 := X1.then_ (Step.tok (s1.toks + 1)) (X1.H.heap fun _ _ e => e)
    exact At.store X3 hx VR.int fun s2 X2 => X2.ps (fl := .next) rfl
theorem Ex_expr {e : Expr} {pos : Pos} {f : FV} (hf : Ev C n env ns e f) (hi : interactive env = false) (hs : swapsWith e none pos.line env = pure false) :
    Ex C n env ns (.Expr e pos) (fun ρ hp => bV (f ρ hp) fun v hp => match v with | .val .none => some (.next, ρ, hp) | _ => none) := fun A s φ ρ hp fl ρ' hp' hr R H e =>
  wpAny_Expr (evV hf hr (.start R H) e fun c s1 φ1 v hp1 X1 _ r1 e => by
    split at e
    · cases e; cases r1; exact X1.ps rfl
    · cases e) hi hs
theorem Ex_ret {e : Expr} {pos : Pos} {f : FV} (hf : Ev C n env ns e f) : Ex C n env ns (.Return (some e) pos) (fun ρ hp => bV (f ρ hp) fun v hp => some (.ret v, ρ, hp)) := fun A s φ ρ hp fl ρ' hp' hr R H e =>
  wpAny_Return_some (evV hf hr (.start R H) e fun c s1 φ1 v hp1 X1 _ r1 e => by cases e; exact X1.ps ⟨c, rfl, r1⟩)
theorem Ex_ret0 {pos : Pos} : Ex C n env ns (.Return none pos) (fun ρ hp => some (.ret (.val .none), ρ, hp)) := fun A s φ ρ hp fl ρ' hp' hr R H e => by
  cases e; exact wpAny_Return_none ((At.start R H).ps ⟨.none, rfl, rfl⟩)
end
end Mine

open PySem PySem.Calls PySem.W PySem.Spec PyProof.Rows
set_option Elab.async false
set_option autoImplicit false
set_option maxRecDepth 100000
set_option genSizeOf false
set_option genInjectivity false
set_option linter.unusedVariables false
namespace Mine
noncomputable section
variable {C : Cx} {n : Nat} {env : Env} {ns : List Str}

/-! iteration -/
inductive KI where
  | list | tuple | range (n : Nat) | rev (n : Nat)
def itSt (kd : KI) (a I : Addr) (j : Nat) (h : Heap) : Prop := match kd with
  | .list => h.IsListIter I a j
  | .tuple => h.IsTupleIter I a j
  | .range n => IsRangeIter h I (j : Int) ((n : Int) - j) 1
  | .rev n => j ≤ n ∧ h.IsRevIter I a ((n : Int) - 1 - j)
def bT {β : Type} (x : Option O) (k : List V → Option β) : Option β := match x with
  | some (.tuple xs) => k xs
  | _ => none
theorem bTE {β : Type} {x : Option O} {k : List V → Option β} {r : β} {G : Prop} (e : bT x k = some r) (h : ∀ m, x = some (.tuple m) → k m = some r → G) : G := by
  cases x with
  | none => cases e
  | some o => cases o with
    | tuple m => exact h m rfl e
    | _ => cases e
def itemAt (kd : KI) (hp : Hp) (k j : Nat) : Option (Option V) := match kd with
  | .list => bL hp[k]? fun vs => some vs[j]?
  | .tuple => bT hp[k]? fun vs => some vs[j]?
  | .range n => some (if j < n then some (.int j) else none)
  | .rev n => bL hp[k]? fun vs => bG (vs.length = n) (some (if j < n then vs[n - 1 - j]? else none))
def kdOf : Option O → Option KI
  | some (.list _) => some .list
  | some (.tuple _) => some .tuple
  | some (.range n) => bG (n ≤ 1000) (some (.range n))
  | _ => none
theorem itSt.obj {kd : KI} {a I : Addr} {j : Nat} {h : Heap} (x : itSt kd a I j h) : ∃ o, h.get? I = some o ∧ NC o := by
  cases kd with
  | list => exact x.imp fun o x => ⟨x.1, nc_of fun vs e q t => by cases x.2.2.symm.trans e; exact nofun⟩
  | tuple => exact x.imp fun o x => ⟨x.1, nc_of fun vs e q t => by cases x.2.2.symm.trans e; exact nofun⟩
  | range n => exact ⟨_, x, nc_of fun vs e q t => by cases e; exact nofun⟩
  | rev n => exact x.2.imp fun o x => ⟨x.1, nc_of fun vs e q t => by cases x.2.2.symm.trans e; exact nofun⟩
theorem itSt.keep {kd : KI} {a I : Addr} {j : Nat} {h h' : Heap} (x : itSt kd a I j h) (k : ∀ o, h.get? I = some o → h'.get? I = some o) : itSt kd a I j h' := by
  cases kd with
  | list => exact x.imp fun o x => ⟨k _ x.1, x.2⟩
  | tuple => exact x.imp fun o x => ⟨k _ x.1, x.2⟩
  | range n => exact k _ x
  | rev n => exact ⟨x.1, x.2.imp fun o x => ⟨k _ x.1, x.2⟩⟩
theorem HR.tupAt {hp : Hp} {φ : List Addr} {s : Shared} (H : HR C hp φ s) {i : Nat} {vs : List V} {a : Addr} (e : hp[i]? = some (.tuple vs)) (ha : φ[i]? = some a) {G : Prop}
    (h : ∀ cs, All2 (VR φ) vs cs → vs.length = cs.length → s.heap.IsTuple a cs.toArray → G) : G :=
  (H.obj i _ a e ha).elim fun ob h1 => h1.2.elim fun cs h2 => h2.elim fun m h2 => h cs h2.1 h2.1.length ⟨_, h1.1, by rw [h2.2], m, by rw [h2.2]⟩

theorem next_item {A : Around} {s : Shared} {φ : List Addr} {hp : Hp} {kd : KI} {k j : Nat} {a I : Addr} {v : V} {Q : Option Value → Shared → Prop} {E : Value → Shared → Prop} (H : HR C hp φ s) (ha : φ[k]? = some a) (hi : itSt kd a I j s.heap) (e : itemAt kd hp k j = some (some v))
    (h : ∀ c h' tk, VR φ v c → Heap.SameBut I s.heap h' → itSt kd a I (j + 1) h' → Q (some c) { s with heap := h', toks := tk }) : wpAny (model C.prog C.w) A (pyNext (.ref I)) Q E s := by
  cases kd with
  | list =>
    exact bLE e fun vs q e => H.lisAt q ha fun cs m h1 _ h2 => (h1.get (Option.some.inj e)).elim fun c hc =>
      wpAny_pyNext_list_item hi (items := cs.toArray) (isL h2) (by rw [List.getElem?_toArray]; exact hc.1) fun h' hi' hs => h c h' s.toks hc.2 hs hi'
  | tuple =>
    exact bTE e fun vs q e => H.tupAt q ha fun cs h1 _ h2 => (h1.get (Option.some.inj e)).elim fun c hc =>
      wpAny_pyNext_tuple_item hi (items := cs.toArray) h2 (by rw [List.getElem?_toArray]; exact hc.1) fun h' hi' hs => h c h' s.toks hc.2 hs hi'
  | range m =>
    have e := Option.some.inj e
    by_cases hl : j < m
    · rw [if_pos hl] at e
      cases e
      refine wpAny_pyNext_range_item hi (by omega) fun h' hi' hs => h _ h' _ VR.int hs ?_
      show IsRangeIter h' I ((j + 1 : Nat) : Int) ((m : Int) - ((j + 1 : Nat) : Int)) 1
      have e2 : (m : Int) - ((j + 1 : Nat) : Int) = (m : Int) - j - 1 := by omega
      rw [e2]; exact hi'
    · rw [if_neg hl] at e; cases e
  | rev m =>
    refine bLE e fun vs q e => bGE e fun hm e => ?_
    have e := Option.some.inj e
    by_cases hl : j < m
    · rw [if_pos hl] at e
      refine H.lisAt q ha fun cs m' h1 _ h2 => (h1.get e).elim fun c hc => ?_
      have hit := hi.2
      have e1 : (m : Int) - 1 - (j : Int) = ((m - 1 - j : Nat) : Int) := by omega
      rw [e1] at hit
      refine wpAny_pyNext_rev_item hit (items := cs.toArray) (isL h2) (by rw [List.getElem?_toArray]; exact hc.1) fun h' hi' hs => h c h' s.toks hc.2 hs ⟨hl, ?_⟩
      have e2 : (m : Int) - 1 - ((j + 1 : Nat) : Int) = ((m - 1 - j : Nat) : Int) - 1 := by omega
      rw [e2]; exact hi'
    · rw [if_neg hl] at e; cases e
theorem next_end {A : Around} {s : Shared} {φ : List Addr} {hp : Hp} {kd : KI} {k j : Nat} {a I : Addr} {Q : Option Value → Shared → Prop} {E : Value → Shared → Prop} (hA : A.handled = none) (H : HR C hp φ s) (ha : φ[k]? = some a) (hi : itSt kd a I j s.heap) (e : itemAt kd hp k j = some none)
    (h : ∀ h', Heap.ExtBut I s.heap h' → Q none { s with heap := h' }) : wpAny (model C.prog C.w) A (pyNext (.ref I)) Q E s := by
  have out : ∀ {vs : List V} {cs : List Value}, vs.length = cs.length → vs[j]? = none → cs.toArray[j]? = none := fun l e => by
    rw [List.getElem?_toArray, List.getElem?_eq_none_iff, ← l]; exact List.getElem?_eq_none_iff.mp e
  cases kd with
  | list => exact bLE e fun vs q e => H.lisAt q ha fun cs m h1 l1 h2 => wpAny_pyNext_list_end hA hi (items := cs.toArray) (isL h2) (out l1 (Option.some.inj e)) h
  | tuple => exact bTE e fun vs q e => H.tupAt q ha fun cs h1 l1 h2 => wpAny_pyNext_tuple_end hA hi (items := cs.toArray) h2 (out l1 (Option.some.inj e)) h
  | range m =>
    have e := Option.some.inj e
    by_cases hl : j < m
    · rw [if_pos hl] at e; cases e
    · exact wpAny_pyNext_range_end hA hi (by omega) h
  | rev m =>
    refine bLE e fun vs q e => bGE e fun hm e => ?_
    have e := Option.some.inj e
    by_cases hl : j < m
    · rw [if_pos hl] at e
      have := List.getElem?_eq_none_iff.mp e
      omega
    · have hit := hi.2
      have := hi.1
      have e1 : (m : Int) - 1 - (j : Int) = -1 := by omega
      rw [e1] at hit
      exact wpAny_pyNext_rev_end hA hit h
theorem start_iter {A : Around} {s : Shared} {φ : List Addr} {hp : Hp} {kd : KI} {k : Nat} {a : Addr} {Q : Value → Shared → Prop} {E : Value → Shared → Prop} (H : HR C hp φ s) (ha : φ[k]? = some a) (e : kdOf hp[k]? = some kd)
    (h : ∀ I s', s.heap.get? I = none → (∀ b o, s.heap.get? b = some o → s'.heap.get? b = some o) → (∃ h' tk', s' = { s with heap := h', toks := tk' }) → itSt kd a I 0 s'.heap → Q (.ref I) s') : wpAny (model C.prog C.w) A (pyIter (.ref a)) Q E s := by
  have fin : ∀ ob, ob.isFreed = false → itSt kd a s.heap.objs.size 0 (s.heap.push ob) → Q (.ref s.heap.objs.size) { s with heap := s.heap.push ob } := fun ob _ hs => h _ _ (get_size _) (fun b o e => Heap.get?_push_of_some _ e) ⟨_, _, rfl⟩ hs
  cases q : hp[k]? with
  | none => rw [q] at e; cases e
  | some o =>
    rw [q] at e
    cases o with
    | list vs =>
      cases e
      exact H.lisAt q ha fun cs m h1 _ h2 => wpAny_pyIter_list (items := cs.toArray) (isL h2) (fin _ rfl ⟨_, Heap.get?_push_size _ rfl, rfl, rfl⟩)
    | tuple vs =>
      cases e
      exact H.tupAt q ha fun cs h1 _ h2 => wpAny_pyIter_tuple (items := cs.toArray) h2 (fin _ rfl ⟨_, Heap.get?_push_size _ rfl, rfl, rfl⟩)
    | range m =>
      refine bGE e fun hm e => (H.obj k _ a q ha).elim fun ob x => x.2.elim fun t y => y.elim fun u y => y.elim fun v y => ?_
      cases e
      obtain ⟨hs1, hs2⟩ := small_range hm (t := t) (u := u) (v := v)
      refine wpAny_pyIter_range (y ▸ x.1) hs1 (fin _ rfl ?_)
      rw [hs2]
      show IsRangeIter _ _ ((0 : Nat) : Int) ((m : Int) - ((0 : Nat) : Int)) 1
      simpa [IsRangeIter, rawInt] using Heap.get?_push_size s.heap rfl
    | dict es => cases e

/-! loops over what is drawn -/
/-- where a loop stands: fp is the iterator's own -/
structure Lp (C : Cx) (env : Env) (ns : List Str) (φ₀ : List Addr) (s₀ : Shared) (fp own own' : List Addr) (St : Nat → Heap → Prop) (j : Nat) (ρ : Rho) (φ : List Addr) (hp : Hp) (s : Shared) : Prop where
  X : At C env ns ρ φ₀ (fp ++ own) s₀ φ hp s
  F : ∀ b ∈ fp, Free C b φ own'
  st : St j s.heap
structure StOK (fp : List Addr) (St : Nat → Heap → Prop) : Prop where
  obj : ∀ j h, St j h → ∀ b ∈ fp, ∃ o, h.get? b = some o ∧ NC o
  keep : ∀ j h h', St j h → (∀ b ∈ fp, ∀ o, h.get? b = some o → h'.get? b = some o) → St j h'
section
variable {φ₀ : List Addr} {s₀ : Shared} {fp own own' : List Addr} {St : Nat → Heap → Prop} {j : Nat} {ρ : Rho} {φ : List Addr} {hp : Hp} {s : Shared}
theorem Lp.body (L : Lp C env ns φ₀ s₀ fp own own' St j ρ φ hp s) (hS : StOK fp St) {ρ' : Rho} {φ' : List Addr} {hp' : Hp} {s' : Shared} {ob : List Addr} (X : At C env ns ρ' φ ob s φ' hp' s') (h1 : ∀ b ∈ ob, b ∈ own) (h2 : ∀ b ∈ ob, b ∈ own') : Lp C env ns φ₀ s₀ fp own own' St j ρ' φ' hp' s' where
  X := ⟨L.X.S.trans (X.S.weak fun b hb => List.mem_append_right _ (h1 b hb)), X.R, X.H⟩
  F b hb := (hS.obj _ _ L.st b hb).elim fun o q => (Has.mk (L.F b hb) q.1).step X.S h2 |>.free
  st := hS.keep _ _ _ L.st fun b hb o e => ((Has.mk (L.F b hb) e).step X.S h2).at_
end
theorem itOK (kd : KI) (a I : Addr) : StOK [I] (itSt kd a I) where
  obj j h x b hb := List.mem_singleton.mp hb ▸ x.obj
  keep j h h' x k := x.keep (k I (List.mem_singleton.mpr rfl))
/-- the iterator of the end is gone -/
theorem Step.ends {φ φ1 fp own : List Addr} {s s1 s2 : Shared} (S : Step C φ (fp ++ own) s φ1 s1) (hs : ∀ b o, b ∉ fp → s1.heap.get? b = some o → s2.heap.get? b = some o) (same : ∃ h' tk', s2 = { s1 with heap := h', toks := tk' }) (hI : ∀ b ∈ fp, s.heap.get? b = none) : Step C φ own s φ1 s2 where
  ext := S.ext
  live b o e := (S.live b o e).elim fun o' e' => ⟨o', hs b o' (fun q => nomatch e.symm.trans (hI b q)) e'⟩
  keep b o n1 n2 n3 e := hs b o (fun q => nomatch e.symm.trans (hI b q)) (S.keep b o n1 (fun hm => (List.mem_append.mp hm).elim (fun q => nomatch e.symm.trans (hI b q)) n2) n3 e)
  same := by obtain ⟨h1, t1, rfl⟩ := S.same; obtain ⟨h2, t2, rfl⟩ := same; exact ⟨_, _, rfl⟩
section
variable {φ₀ : List Addr} {s₀ : Shared} {own own' : List Addr} {kd : KI} {k j : Nat} {a I : Addr} {ρ : Rho} {φ : List Addr} {hp : Hp} {s : Shared} {A : Around} {Q : Option Value → Shared → Prop} {E : Value → Shared → Prop}
theorem Lp.end_ (L : Lp C env ns φ₀ s₀ [I] own own' (itSt kd a I) j ρ φ hp s) (ho : ∀ b ∈ ownOf env, b ∈ own') (hA : A.handled = none) (ha : φ[k]? = some a) (hI : s₀.heap.get? I = none) (e : itemAt kd hp k j = some none)
    (h : ∀ s', At C env ns ρ φ₀ own s₀ φ hp s' → (∀ b o, b ≠ I → s.heap.get? b = some o → s'.heap.get? b = some o) → Q none s') : wpAny (model C.prog C.w) A (pyNext (.ref I)) Q E s :=
  have F := L.F I (List.mem_singleton.mpr rfl)
  next_end hA L.X.H ha L.st e fun h' hs => h _ ⟨L.X.S.ends (s2 := { s with heap := h' }) (fun b o hb e => hs b o (fun q => hb (List.mem_singleton.mpr q)) e) ⟨_, _, rfl⟩ (fun b hb => List.mem_singleton.mp hb ▸ hI),
    L.X.R.kp (s' := { s with heap := h' }) (fun b hb o e => hs b o (fun q => F.own (q ▸ ho b hb)) e) (List.prefix_refl _) (fun b o e n => n), L.st.obj.elim fun o q => L.X.H.ext q.1 q.2 F fun c o hc e => hs c o hc e⟩ fun b o hb e => hs b o hb e
theorem Lp.item (L : Lp C env ns φ₀ s₀ [I] own own' (itSt kd a I) j ρ φ hp s) (ho : ∀ b ∈ ownOf env, b ∈ own') {i : Nat} {x : Str} {p : Pos} {v : V} (hx : ns[i]? = some x) (hown : ∀ b ∈ ownOf env, (env.kindOf x = some .local → b = env.locals) → b ∈ own) (ha : φ[k]? = some a) (e : itemAt kd hp k j = some (some v)) {Q' : Unit → Shared → Prop}
    (h : ∀ s', Lp C env ns φ₀ s₀ [I] own own' (itSt kd a I) (j + 1) (ρ.set i (some v)) φ hp s' → Step C φ (I :: ownOf env) s φ s' → Q' () s') (hQ : ∀ c s', wpAny (model C.prog C.w) A (assign (.Name x p) env c) Q' E s' → Q (some c) s') : wpAny (model C.prog C.w) A (pyNext (.ref I)) Q E s :=
  have F := L.F I (List.mem_singleton.mpr rfl)
  next_item L.X.H ha L.st e fun c h' tk hc hs hi' => hQ _ _ (wpAny_assign_Name (by
    obtain ⟨o', ho', _⟩ := hi'.obj
    obtain ⟨o, hoI, hoN⟩ := L.st.obj
    have S1 : Step C φ [I] s φ { s with heap := h', toks := tk } := Step.one (.inr (List.mem_singleton.mpr rfl)) ⟨_, _, rfl⟩ hs.2 ho'
    have R1 := L.X.R.step S1 fun b hb q => F.own (List.mem_singleton.mp q ▸ ho b hb)
    have H1 : HR C hp φ { s with heap := h', toks := tk } := L.X.H.ext hoI hoN F fun c o hc e => (hs.2 c hc).trans e
    refine store_ok R1 H1 hx hc fun s2 b hb hl S2 R2 H2 => ?_
    have kI := (Has.mk (s := { s with heap := h', toks := tk }) F ho').step S2 fun c hc => List.mem_singleton.mp hc ▸ ho b hb
    refine h s2 ⟨⟨(L.X.S.trans (S1.weak fun c hc => List.mem_append_left _ hc)).trans (S2.weak fun c hc => List.mem_append_right _ (List.mem_singleton.mp hc ▸ hown b hb hl)), R2, H2⟩, fun c hc => List.mem_singleton.mp hc ▸ kI.free, hi'.keep fun o e => by cases ho'.symm.trans e; exact kI.at_⟩ ?_
    exact (S1.weak fun c hc => List.mem_singleton.mp hc ▸ List.mem_cons_self).trans (S2.weak fun c hc => List.mem_cons_of_mem _ (List.mem_singleton.mp hc ▸ hb))))
end

def bO {β : Type} (x : Option (Option V)) (z : Option β) (k : V → Option β) : Option β := match x with
  | some (some v) => k v
  | some none => z
  | none => none
theorem bOE {β : Type} {x : Option (Option V)} {z : Option β} {k : V → Option β} {r : β} {G : Prop} (e : bO x z k = some r) (h1 : x = some none → z = some r → G) (h2 : ∀ v, x = some (some v) → k v = some r → G) : G := by
  cases x with
  | none => cases e
  | some y => cases y with
    | none => exact h1 rfl e
    | some v => exact h2 v rfl e
theorem At.loop {s₀ s s' : Shared} {φ₀ φ : List Addr} {ρ : Rho} {hp : Hp} {a I : Addr} {kd : KI} {own : List Addr} (X : At C env ns ρ φ₀ own s₀ φ hp s) (h0 : s.heap.get? I = none) (up : ∀ b o, s.heap.get? b = some o → s'.heap.get? b = some o) (same : ∃ h' tk', s' = { s with heap := h', toks := tk' }) (hi : itSt kd a I 0 s'.heap) : Lp C env ns φ₀ s₀ [I] own (ownOf env) (itSt kd a I) 0 ρ φ hp s' where
  X := ⟨(X.S.trans (Step.keeps same up)).weak fun b hb => List.mem_append_right _ hb, X.R.step0 (Step.keeps same up), X.H.heap up⟩
  F b hb := List.mem_singleton.mp hb ▸ free_of X.R X.H h0
  st := hi
end
end Mine

open PySem PySem.Calls PySem.W PySem.Spec PyProof.Rows
set_option Elab.async false
set_option autoImplicit false
set_option maxRecDepth 100000
set_option genSizeOf false
set_option genInjectivity false
set_option linter.unusedVariables false
namespace Mine
noncomputable section
variable {C : Cx} {n : Nat} {env : Env} {ns : List Str}

theorem dead_ne {h : Heap} {a b : Addr} {o : Obj} (e : h.get? a = some o) (d : h.get? b = none) : a ≠ b := fun q => by rw [q, d] at e; cases e
theorem size_ne {h : Heap} {b : Addr} {o : Obj} (e : h.get? b = some o) : b ≠ h.objs.size := fun q => by rw [q, get_size] at e; cases e
theorem all2_set {R : V → Value → Prop} {vs : List V} {cs : List Value} (h : All2 R vs cs) {i : Nat} {v : V} {c : Value} (hv : R v c) : All2 R (vs.set i v) (cs.set i c) := by
  induction h generalizing i with
  | nil => exact .nil
  | cons h1 h2 ih => cases i with
    | zero => exact .cons hv h2
    | succ i => exact .cons h1 ih
/-- an item is stored -/
theorem At.setI {φ₀ : List Addr} {s₀ s : Shared} {φ : List Addr} {ρ : Rho} {hp : Hp} {A : Around} {i : Nat} {a : Addr} {j : Int} {t : Tok} {v : V} {c : Value} {xs : List V} {Q : Unit → Shared → Prop} (X : At C env ns ρ φ₀ (ownOf env) s₀ φ hp s) (ha : φ[i]? = some a) (q : hp[i]? = some (.list xs)) (hj : 0 ≤ j ∧ j ≤ 1000 ∧ j < xs.length) (hv : VR φ v c)
    (h : ∀ s', At C env ns ρ φ₀ (ownOf env) s₀ φ (hp.set i (.list (xs.set j.toNat v))) s' → Q () s') : wpAny (model C.prog C.w) A (setItem (.ref a) (.int j t) c) Q noE s :=
  X.H.lisAt q ha fun cs m h1 l1 h2 => by
    have hj2 : j < 2 ^ 63 := by omega
    exact ki_setAt (items := cs.toArray) (n := m) h2 hj.1 hj2 (by rw [List.size_toArray, ← l1]; omega) (h _ (X.updM _ ha h2 (ds := cs.set j.toNat c) (by rw [List.setIfInBounds_toArray]) (all2_set h1 hv)))
theorem Ex_setI {o i : Expr} {pos' pos : Pos} {value : Expr} {h f g : FV} (hh : Ev C n env ns value h) (hf : Ev C n env ns o f) (hg : Ev C n env ns i g) (hs : swapsWith value (some (.Subscript o i pos')) pos.line env = pure false) :
    Ex C n env ns (.Assign [.Subscript o i pos'] value pos) (fun ρ hp => bV (h ρ hp) fun v hp => bR (f ρ hp) fun i hp => bI (g ρ hp) fun j hp => bL hp[i]? fun xs => bG (0 ≤ j ∧ j ≤ 1000 ∧ j < xs.length) (some (.next, ρ, hp.set i (.list (xs.set j.toNat v))))) := fun A s φ ρ hp fl ρ' hp' hr R H e =>
  wpAny_Assign_Subscript (evV hh hr (.start (own := ownOf env) R H) e fun c1 s1 φ1 v hp1 X1 _ r1 e => evR hf hr X1 e fun a s2 φ2 i' hp2 X2 p2 ha e => evI hg hr X2 e fun t s3 φ3 j hp3 X3 p3 e => bLE e fun xs q e => bGE e fun hj e =>
    X3.setI (pre_get p3 ha) q hj (r1.up (p2.trans p3)) fun s4 X4 => by cases e; exact X4.ps rfl) hs
theorem Ex_augI {o i : Expr} {pos' pos : Pos} {value : Expr} {f g k : FV} (hf : Ev C n env ns o f) (hg : Ev C n env ns i g) (hk : Ev C n env ns value k)
    (ha : ∀ ov iv new, augStore i ov iv new = (do holding [new, ov, iv] (setItem ov iv new); release [new, ov, iv] []; pure .next)) :
    Ex C n env ns (.AugAssign (.Subscript o i pos') .Add value pos) (fun ρ hp => bR (f ρ hp) fun i hp => bI (g ρ hp) fun j hp => bL hp[i]? fun xs => bV (xs[j.toNat]?.map fun v => (v, hp)) fun u hp => onI u fun a => bI (k ρ hp) fun b hp => bL hp[i]? fun ys => bG (0 ≤ j ∧ j ≤ 1000 ∧ j < ys.length) (some (.next, ρ, hp.set i (.list (ys.set j.toNat (.int (a + b))))))) := fun A s φ ρ hp fl ρ' hp' hr R H e =>
  wpAny_AugAssign_Subscript_any (evR hf hr (.start (own := ownOf env) R H) e fun l s1 φ1 i' hp1 X1 _ hl e => evI hg hr X1 e fun t s2 φ2 j hp2 X2 p2 e => bLE e fun xs q e => (bV_inv e).elim fun u z => z.elim fun hp3 z => (Option.map_eq_some_iff.mp z.1).elim fun u' y => (onI_inv z.2).elim fun aa w => X2.H.lisAt q (pre_get p2 hl) fun cs m h2 l2 h3 => (h2.get y.1).elim fun c hc => by
    cases y.2; cases w.1
    obtain ⟨ta, rfl⟩ := hc.2
    have hj : 0 ≤ j ∧ j ≤ 1000 := (bV_inv w.2).elim fun b z => z.elim fun hp4 z => (onI_inv z.2).elim fun _ z => bLE z.2 fun ys _ e => bGE e fun h _ => ⟨h.1, h.2.1⟩
    have hj2 : j < 2 ^ 63 := by omega
    have hi : cs.toArray[j.toNat]? = some (.int aa ta) := by rw [List.getElem?_toArray]; exact hc.1
    with_reducible refine PySem.wpAny_getItem_list (isL h3) hj.1 hj2 hi ?_
    exact evI hk hr X2 w.2 fun tb s3 φ3 b hp3 X3 p3 e => bLE e fun ys q3 e => bGE e fun hj e => by
      cases e
      with_reducible refine wpAny_iadd_int ?_
      have X4 := X3.then_ (Step.tok (s3.toks + 1)) (X3.H.heap fun _ _ e => e)
      exact At.setI X4 (pre_get (p2.trans p3) hl) q3 hj VR.int fun s4 X5 => X5.ps (fl := .next) rfl) ha

/-! a pair is taken apart -/
theorem Ex_assign2 (i j : Nat) {x y : Str} {px py tp pos : Pos} {k : Nat} {value : Expr} {f : FV} (hx : ns[i]? = some x) (hy : ns[j]? = some y) (hs : swapsWithSole [.Tuple [.Name x px, .Name y py] k tp] value pos.line env = pure false) (hw : swappedStores [.Tuple [.Name x px, .Name y py] k tp] value env = pure none) (hf : Ev C n env ns value f) :
    Ex C n env ns (.Assign [.Tuple [.Name x px, .Name y py] k tp] value pos) (fun ρ hp => bR (f ρ hp) fun q hp => bT hp[q]? fun us => two us fun u v => some (.next, (ρ.set i (some u)).set j (some v), hp)) := fun A s φ ρ hp fl ρ' hp' hr R H e =>
  PyProof.Rows.Assign_Tuple (evR hf hr (.start (own := ownOf env) R H) e fun a s1 φ1 q hp1 X1 _ ha e => bTE e fun us q1 e => X1.H.tupAt q1 ha fun cs h2 l2 h3 => twoE h2 e fun u v c1 c2 qc r1 r2 e => by
      cases e; subst qc
      show wpAny _ _ (do standAt tp; unpack (.ref a) (assignEach [.Name x px, .Name y py] env)) _ _ _
      refine wpAny_bind (wpAny_standAt ?_)
      show wpAny _ _ (do let is ← holding [.ref a] (unpackItems (.ref a) 2 none); assignInOrder [assign (.Name x px) env, assign (.Name y py) env] is) _ _ _
      refine wpAny_bind (wpAny_holding (wpAny_unpackItems_tuple (items := #[c1, c2]) hr.hand h3 fun h' he => ?_))
      have up : ∀ b o, s1.heap.get? b = some o → h'.get? b = some o := fun b o e => he b o (size_ne e) e
      have X2 := X1.then_ (s' := { s1 with heap := h' }) (Step.keeps ⟨_, _, rfl⟩ up) (X1.H.heap up)
      show wpAny _ _ (do holding [c2] (assign (.Name x px) env c1); do holding [] (assign (.Name y py) env c2); pure ()) _ _ _
      exact wpAny_bind (wpAny_holding (wpAny_assign_Name (X2.store hx r1 fun s3 X3 => wpAny_bind (wpAny_holding (wpAny_assign_Name (X3.store hy r2 fun s4 X4 => wpAny_pure (X4.ps (fl := .next) rfl))))))) ) hs hw

end
end Mine

open PySem PySem.Calls PySem.W PySem.Spec PyProof.Rows
set_option Elab.async false
set_option autoImplicit false
set_option maxRecDepth 100000
set_option genSizeOf false
set_option genInjectivity false
set_option linter.unusedVariables false
namespace Mine
noncomputable section
variable {C : Cx} {n : Nat} {env : Env} {ns : List Str}

def buildCl (cells : List (Str × Addr)) : List (Str × NameKind) → List (Str × Addr) → List (Str × Addr)
  | [], acc => acc
  | (x, k) :: r, acc => if (k == .free) = true then (match cells.lookup x with
      | some a => buildCl cells r ((x, a) :: acc)
      | none => buildCl cells r acc) else buildCl cells r acc

theorem closure_go (cells : List (Str × Addr)) (env : Env) (hc : env.cells = cells) : ∀ (names : List (Str × NameKind)) (acc : List (Str × Addr)), (∀ y ∈ names, y.2 = .free → ∃ a, cells.lookup y.1 = some a) →
    (forIn names acc fun (x : Str × NameKind) (r : List (Str × Addr)) => (if (x.2 == NameKind.free) = true then do
        let a ← cellOf env x.1
        pure (ForInStep.yield ((x.1, a) :: r))
      else pure (ForInStep.yield r) : Sem (ForInStep (List (Str × Addr))))) = pure (buildCl cells names acc)
  | [], acc, _ => rfl
  | (x, k) :: r, acc, h => by
    rw [List.forIn_cons]
    have hr : ∀ y ∈ r, y.2 = .free → ∃ a, cells.lookup y.1 = some a := fun y hy => h y (List.mem_cons_of_mem _ hy)
    unfold buildCl
    by_cases hk : (k == NameKind.free) = true
    · obtain ⟨a, ha⟩ := h (x, k) List.mem_cons_self (eq_of_beq hk)
      have ha' : cells.lookup x = some a := ha
      have e : cellOf env x = pure a := by unfold cellOf; rw [hc, ha']
      simp only [hk, if_true, ha']
      rw [e]
      exact closure_go cells env hc r _ hr
    · simp only [hk, if_false, Bool.false_eq_true]
      exact closure_go cells env hc r _ hr
theorem closureFor_eq {scope : Scope} (h : ∀ y ∈ scope.names, y.2 = .free → ∃ a, env.cells.lookup y.1 = some a) : closureFor scope env = pure (buildCl env.cells scope.names []) := by
  have := closure_go env.cells env rfl scope.names [] h
  unfold closureFor
  refine Eq.trans ?_ (congrArg (fun t => t >>= fun cs => pure cs) this)
  congr 1

theorem buildCl_mem {cells : List (Str × Addr)} : ∀ {names : List (Str × NameKind)} {acc : List (Str × Addr)} {y : Str} {a : Addr}, (y, a) ∈ buildCl cells names acc → (y, a) ∈ acc ∨ ((y, NameKind.free) ∈ names ∧ cells.lookup y = some a)
  | [], _, _, _, h => .inl h
  | (x, k) :: r, acc, y, a, h => by
    unfold buildCl at h
    split at h
    · rename_i hk
      have hk := eq_of_beq hk
      subst hk
      split at h
      · rename_i b hb
        rcases buildCl_mem h with h | ⟨h1, h2⟩
        · rcases List.mem_cons.mp h with h | h
          · cases h; exact .inr ⟨List.mem_cons_self, hb⟩
          · exact .inl h
        · exact .inr ⟨List.mem_cons_of_mem _ h1, h2⟩
      · rcases buildCl_mem h with h | ⟨h1, h2⟩
        · exact .inl h
        · exact .inr ⟨List.mem_cons_of_mem _ h1, h2⟩
    · rcases buildCl_mem h with h | ⟨h1, h2⟩
      · exact .inl h
      · exact .inr ⟨List.mem_cons_of_mem _ h1, h2⟩
theorem buildCl_acc {cells : List (Str × Addr)} : ∀ {names : List (Str × NameKind)} {acc : List (Str × Addr)} {p : Str × Addr}, p ∈ acc → p ∈ buildCl cells names acc
  | [], _, _, h => h
  | (x, k) :: r, acc, p, h => by
    unfold buildCl
    split
    · split
      · exact buildCl_acc (List.mem_cons_of_mem _ h)
      · exact buildCl_acc h
    · exact buildCl_acc h
theorem buildCl_has {cells : List (Str × Addr)} : ∀ {names : List (Str × NameKind)} {acc : List (Str × Addr)} {y : Str} {a : Addr}, (y, NameKind.free) ∈ names → cells.lookup y = some a → (y, a) ∈ buildCl cells names acc
  | (x, k) :: r, acc, y, a, h, ha => by
    unfold buildCl
    rcases List.mem_cons.mp h with h | h
    · cases h
      rw [if_pos (by rfl), ha]
      exact buildCl_acc List.mem_cons_self
    · split
      · split
        · exact buildCl_has h ha
        · exact buildCl_has h ha
      · exact buildCl_has h ha
theorem buildCl_nd {cells : List (Str × Addr)} : ∀ {names : List (Str × NameKind)} {acc : List (Str × Addr)}, (names.map (·.1)).Nodup → (acc.map (·.1)).Nodup → (∀ y ∈ acc, y.1 ∉ names.map (·.1)) → ((buildCl cells names acc).map (·.1)).Nodup
  | [], _, _, h, _ => h
  | (x, k) :: r, acc, hn, h, hd => by
    simp only [List.map_cons, List.nodup_cons] at hn
    have hd' : ∀ y ∈ acc, y.1 ∉ r.map (·.1) := fun y hy hm => hd y hy (List.mem_cons_of_mem _ hm)
    unfold buildCl
    split
    · split
      · refine buildCl_nd hn.2 ?_ fun y hy => ?_
        · simp only [List.map_cons, List.nodup_cons]
          exact ⟨fun hm => by obtain ⟨p, hp, e⟩ := List.mem_map.mp hm; exact hd p hp (e ▸ List.mem_cons_self), h⟩
        · rcases List.mem_cons.mp hy with rfl | hy
          · exact hn.1
          · exact hd' y hy
      · exact buildCl_nd hn.2 h hd'
    · exact buildCl_nd hn.2 h hd'
theorem lookup_of_nd : ∀ {l : List (Str × Addr)} {y : Str} {a : Addr}, (l.map (·.1)).Nodup → (y, a) ∈ l → l.lookup y = some a
  | (x, b) :: r, y, a, hn, h => by
    simp only [List.map_cons, List.nodup_cons] at hn
    rcases List.mem_cons.mp h with h' | h'
    · cases h'; simp
    · have : (y == x) = false := by
        simp only [beq_eq_false_iff_ne]
        rintro rfl
        exact hn.1 (List.mem_map.mpr ⟨(y, a), h', rfl⟩)
      rw [List.lookup_cons, this]
      exact lookup_of_nd hn.2 h'

/-- what is asked of a comprehension's scope -/
structure CompOK (env : Env) (ns : List Str) (scope : Scope) (x : Str) (caps : List Nat) (cns : List Str) : Prop where
  kind : scope.kind = .function
  cell : ∀ y ∈ scope.names, y.2 ≠ .cell
  names : ∀ y ∈ scope.names, y.2 = .local → scope.names.lookup y.1 = some .local
  tgt : scope.names.lookup x = some .local
  nd : (scope.names.map (·.1)).Nodup
  free : ∀ y ∈ scope.names, y.2 = .free → y.1 ∈ cns
  cap : caps.map (fun i => ns[i]?) = cns.map some
  has : ∀ y ∈ cns, (y, NameKind.free) ∈ scope.names
  knd : ∀ y ∈ cns, env.kindOf y = some .cell
  xnd : (x :: cns).Nodup
  xdbg : (x == ("__debug__" : Str)) = false ∧ (x == ("__classdict__" : Str)) = false

theorem lookup_nd_k : ∀ {l : List (Str × NameKind)} {y : Str} {a : NameKind}, (l.map (·.1)).Nodup → (y, a) ∈ l → l.lookup y = some a
  | (x, b) :: r, y, a, hn, h => by
    simp only [List.map_cons, List.nodup_cons] at hn
    rcases List.mem_cons.mp h with h' | h'
    · cases h'; simp
    · have : (y == x) = false := by
        simp only [beq_eq_false_iff_ne]
        rintro rfl
        exact hn.1 (List.mem_map.mpr ⟨(y, a), h', rfl⟩)
      rw [List.lookup_cons, this]
      exact lookup_nd_k hn.2 h'
theorem relabel_cell {scope : Scope} {y : Str} (hk : env.scope.kind = .function) (hn : (scope.names.map (·.1)).Nodup) (h : (y, NameKind.free) ∈ scope.names) (he : env.kindOf y = some .cell) : (relabel scope env).names.lookup y = some .cell := by
  unfold relabel
  dsimp only
  refine lookup_nd_k ?_ ?_
  · rw [List.map_map]
    have : (((fun (x : Str × NameKind) => x.1) ∘ fun (x : Str × NameKind) => match x with | (n, k) => if (k == .free && env.scope.kind == .function && env.kindOf n == some .cell) = true then (n, NameKind.cell) else (n, k))) = fun x => x.1 := by
      funext ⟨a, b⟩
      dsimp
      split <;> rfl
    rw [this]; exact hn
  · refine List.mem_map.mpr ⟨(y, .free), h, ?_⟩
    simp [hk, he]

theorem nodup_snd : ∀ {l : List (Str × Addr)}, (l.map (·.1)).Nodup → (∀ y z a, (y, a) ∈ l → (z, a) ∈ l → y = z) → (l.map (·.2)).Nodup
  | [], _, _ => List.nodup_nil
  | (x, b) :: r, hn, h => by
    simp only [List.map_cons, List.nodup_cons] at hn ⊢
    refine ⟨fun hm => ?_, nodup_snd hn.2 fun y z a h1 h2 => h y z a (List.mem_cons_of_mem _ h1) (List.mem_cons_of_mem _ h2)⟩
    obtain ⟨⟨y, b'⟩, hp, e⟩ := List.mem_map.mp hm
    have e : b' = b := e
    subst e
    have := h x y b' List.mem_cons_self (List.mem_cons_of_mem _ hp)
    subst this
    exact hn.1 (List.mem_map.mpr ⟨(x, b'), hp, rfl⟩)

abbrev cEnv (env : Env) (scope : Scope) (Cc : Addr) : Env := compEnvC scope (buildCl env.cells scope.names []) Cc env
theorem cl_cell {scope : Scope} {y : Str} {a : Addr} (h : (y, a) ∈ buildCl env.cells scope.names []) : env.cells.lookup y = some a := (buildCl_mem h).elim (fun h => nomatch h) fun h => h.2
theorem own_c {scope : Scope} {Cc b : Addr} (h : b ∈ ownOf (cEnv env scope Cc)) : b = Cc ∨ b ∈ ownOf env := (List.mem_cons.mp h).imp id fun h => (List.mem_map.mp h).elim fun p q => by cases q.2; exact mem_own_cell (cl_cell (y := p.1) (a := p.2) q.1)
section
variable {scope : Scope} {x : Str} {caps : List Nat} {cns : List Str} {ρ : Rho} {φ : List Addr} {s : Shared}
theorem cap_at (K : CompOK env ns scope x caps cns) {i : Nat} {y : Str} (h : cns[i]? = some y) : ∃ q, caps[i]? = some q ∧ ns[q]? = some y := by
  have e := congrArg (fun l => l[i]?) K.cap
  rw [List.getElem?_map, List.getElem?_map, h] at e
  exact Option.map_eq_some_iff.mp e
theorem cap_ns (K : CompOK env ns scope x caps cns) {y : Str} (h : y ∈ cns) : y ∈ ns :=
  (List.mem_iff_getElem?.mp h).elim fun i hi => (cap_at K hi).elim fun q h => List.mem_of_getElem? h.2
theorem cap_cell (R : ER C env ns ρ φ s) (K : CompOK env ns scope x caps cns) {y : Str} (h : y ∈ cns) : ∃ a, env.cells.lookup y = some a ∧ C.h₀.get? a = none :=
  (R.st.kinds y (cap_ns K h)).elim (fun k => nomatch (K.knd y h).symm.trans k) fun h => h.2
theorem comp_clos (R : ER C env ns ρ φ s) (K : CompOK env ns scope x caps cns) : closureFor scope env = pure (buildCl env.cells scope.names []) :=
  closureFor_eq fun y hy hk => (cap_cell R K (K.free y hy hk)).imp fun a h => h.1
def compRho (ρ : Rho) (caps : List Nat) : Rho := none :: caps.map fun i => getR ρ i
theorem compER (R : ER C env ns ρ φ s) (K : CompOK env ns scope x caps cns) {Cc : Addr} {m : Str → Option Value} (hn : s.heap.Ns Cc m) (F : Free C Cc φ (ownOf env)) : ER C (cEnv env scope Cc) (x :: cns) (compRho ρ caps) φ s := by
  have cnd : ((buildCl env.cells scope.names []).map (·.1)).Nodup := buildCl_nd K.nd List.nodup_nil (fun _ h => nomatch h)
  refine ⟨⟨K.kind, R.st.glob, R.st.blt, ?_, fun y hy => ?_, K.xnd, fun y hy => ?_, F.base, fun b hb => (own_c hb).elim (fun q => q ▸ F.tab) (R.st.tabs b)⟩, fun i y v h1 h2 => ?_, ⟨m, hn⟩, fun y a h => R.cel y a (cl_cell (mem_of_lookup h)), fun b hb => ?_⟩
  · refine List.nodup_cons.mpr ⟨fun hm => (List.mem_map.mp hm).elim fun p q => F.own (by have := mem_own_cell (cl_cell (y := p.1) (a := p.2) q.1); rw [q.2] at this; exact this), nodup_snd cnd fun y z a h1 h2 => ?_⟩
    exact snd_inj (List.nodup_cons.mp R.st.apart).2 (mem_of_lookup (cl_cell h1)) (mem_of_lookup (cl_cell h2))
  · rcases List.mem_cons.mp hy with rfl | hy
    · exact K.xdbg
    · exact R.st.names y (cap_ns K hy)
  · rcases List.mem_cons.mp hy with rfl | hy
    · exact .inl (lookup_relabel_local K.tgt)
    · exact (cap_cell R K hy).elim fun a h => .inr ⟨relabel_cell R.st.kind K.nd (K.has y hy) (K.knd y hy), a, lookup_of_nd cnd (buildCl_has (K.has y hy) h.1), h.2⟩
  · cases i with
    | zero => cases h2
    | succ i =>
      refine (cap_at K h1).elim fun q h => ?_
      rw [compRho, List.getElem?_cons_succ, List.getElem?_map, h.1] at h2
      have hy : y ∈ cns := List.mem_of_getElem? h1
      have hk := K.knd y hy
      refine (R.var q y v h.2 (getR_some (Option.some.inj h2))).imp fun c hc => ⟨hc.1, hc.2.elim (fun k => nomatch hk.symm.trans k.1) fun h => .inr ⟨.inl (relabel_cell R.st.kind K.nd (K.has y hy) hk), h.2.imp fun a h => ⟨lookup_of_nd cnd (buildCl_has (K.has y hy) h.1), h.2⟩⟩⟩
  · rcases own_c hb with rfl | hb
    · exact ⟨F.phi, hn.imp fun o h => h.elim fun _ h => h.elim fun _ h => h.1⟩
    · exact R.out b hb
end
theorem pyIter_self {A : Around} {s : Shared} {kd : KI} {a I : Addr} {j : Nat} {Q : Value → Shared → Prop} {E : Value → Shared → Prop} (h : itSt kd a I j s.heap) (hQ : Q (.ref I) s) : wpAny (model C.prog C.w) A (pyIter (.ref I)) Q E s := by
  cases kd with
  | list => exact wpAny_pyIter_listiter h hQ
  | tuple => exact wpAny_pyIter_tupleiter h hQ
  | range n => exact wpAny_pyIter_rangeiter h hQ
  | rev n => exact wpAny_pyIter_revIter h.2 hQ

/-! comprehensions -/
abbrev lsO (cs : List Value) (q : Nat) : Obj := { cls := .type "list", data := .seq cs.toArray q }
theorem ls_nc {cs : List Value} {q : Nat} : NC (lsO cs q) := nc_of fun vs e => nomatch e
/-- where a comprehension's loop stands -/
structure CL (C : Cx) (cenv : Env) (nsc : List Str) (φ₀ : List Addr) (s₀ : Shared) (I D Cc : Addr) (kd : KI) (a : Addr) (k j : Nat) (ρ : Rho) (φ : List Addr) (hp : Hp) (s : Shared) (vs : List V) (cs : List Value) (q : Nat) : Prop where
  L : Lp C cenv nsc φ₀ s₀ [I] [D, Cc] (D :: ownOf cenv) (itSt kd a I) j ρ φ hp s
  D : Has C φ (I :: ownOf cenv) s D (lsO cs q)
  vs : All2 (VR φ) vs cs
  ha : φ[k]? = some a
/-- the display's list grows -/
theorem grow {cenv : Env} {nsc : List Str} {φ : List Addr} {hp : Hp} {s : Shared} {ρ : Rho} {A : Around} {D : Addr} {cs : List Value} {q : Nat} {own : List Addr} {c : Value} {Q : Value → Shared → Prop} {E : Value → Shared → Prop} (R : ER C cenv nsc ρ φ s) (H : HR C hp φ s) (hD : Has C φ own s D (lsO cs q)) (ho : ∀ b ∈ ownOf cenv, b ∈ own) (hl : cs.length ≤ 1000)
    (h : ∀ s', At C cenv nsc ρ φ [D] s φ hp s' → Has C φ own s' D (lsO (cs ++ [c]) (q + 1)) → Q .none s') : wpAny (model C.prog C.w) A (call (.builtin "list.append") [.ref D, c]) Q E s :=
  append_at hD.at_ (fun h9 hs9 hg9 => by
    have hg : h9.get? D = some (lsO (cs ++ [c]) (q + 1)) := by rw [hg9, List.push_toArray]
    have S : Step C φ [D] s φ { s with heap := h9 } := Step.one (.inr (List.mem_singleton.mpr rfl)) ⟨_, _, rfl⟩ hs9.2 hg
    exact h _ ⟨S, R.step S fun b hb q => hD.free.own (List.mem_singleton.mp q ▸ ho b hb), H.ext hD.at_ ls_nc hD.free fun c o hc e => (hs9.2 c hc).trans e⟩ ⟨hD.free, hg⟩) (by rw [List.size_toArray]; exact line_le hl)
theorem ar1 {a m b : Nat} (h : a + (m + 1) ≤ b) (hb : b ≤ 1000) : a ≤ 1000 := by omega
theorem ar2 {vs : List V} {v : V} {m b : Nat} (h : vs.length + (m + 1) ≤ b) : (vs ++ [v]).length + m ≤ b := by rw [List.length_append]; simp only [List.length_singleton]; omega
def compL (elt : FV) (i : Nat) (kd : KI) (k : Nat) : Nat → Nat → Rho → Hp → List V → Option (List V × Rho × Hp)
  | 0, _, _, _, _ => none
  | f + 1, j, ρ, hp, us => bO (itemAt kd hp k j) (some (us, ρ, hp)) fun v => bV (elt (ρ.set i (some v)) hp) fun u hp => compL elt i kd k f (j + 1) (ρ.set i (some v)) hp (us ++ [u])
/-- what the end of a comprehension's loops tells -/
def CEnd (C : Cx) (cenv : Env) (nsc : List Str) (φ₀ : List Addr) (s₀ : Shared) (D Cc : Addr) (us : List V) (ρ : Rho) (hp : Hp) (s : Shared) : Prop := ∃ φ cs q, At C cenv nsc ρ φ₀ [D, Cc] s₀ φ hp s ∧ Has C φ (ownOf cenv) s D (lsO cs q) ∧ All2 (VR φ) us cs
section
variable {cenv : Env} {nsc : List Str} {φ₀ : List Addr} {s₀ : Shared} {I D Cc : Addr} {kd : KI} {a : Addr} {k j : Nat} {ρ : Rho} {φ : List Addr} {hp : Hp} {s : Shared} {vs : List V} {cs : List Value} {q : Nat} {A : Around}
theorem CL.end_ (Y : CL C cenv nsc φ₀ s₀ I D Cc kd a k j ρ φ hp s vs cs q) (hA : A.handled = none) (hI : s₀.heap.get? I = none) (e : itemAt kd hp k j = some none) {Q : Option Value → Shared → Prop} {E : Value → Shared → Prop} (h : ∀ s', At C cenv nsc ρ φ₀ [D, Cc] s₀ φ hp s' → Has C φ (I :: ownOf cenv) s' D (lsO cs q) → Q none s') : wpAny (model C.prog C.w) A (pyNext (.ref I)) Q E s :=
  Y.L.end_ (fun b hb => List.mem_cons_of_mem _ hb) hA Y.ha hI e fun s' X k => h s' X ⟨Y.D.free, k D _ (fun q => Y.D.free.own (q ▸ List.mem_cons_self)) Y.D.at_⟩
theorem CL.item (Y : CL C cenv nsc φ₀ s₀ I D Cc kd a k j ρ φ hp s vs cs q) (hl : cenv.locals = Cc) {i : Nat} {x : Str} {p : Pos} {v : V} (hx : nsc[i]? = some x) (hk : cenv.kindOf x = some .local) (e : itemAt kd hp k j = some (some v)) {Q : Option Value → Shared → Prop} {E : Value → Shared → Prop} {Q' : Unit → Shared → Prop}
    (h : ∀ s', CL C cenv nsc φ₀ s₀ I D Cc kd a k (j + 1) (ρ.set i (some v)) φ hp s' vs cs q → Q' () s') (hQ : ∀ c s', wpAny (model C.prog C.w) A (assign (.Name x p) cenv c) Q' E s' → Q (some c) s') : wpAny (model C.prog C.w) A (pyNext (.ref I)) Q E s :=
  Y.L.item (fun b hb => List.mem_cons_of_mem _ hb) hx (fun b hb h => (h hk).trans hl ▸ List.mem_cons_of_mem _ (List.mem_singleton.mpr rfl)) Y.ha e (fun s' L' S => h s' ⟨L', Y.D.step S fun c hc => hc, Y.vs, Y.ha⟩) hQ
/-- an expression is reckoned within -/
theorem CL.step (Y : CL C cenv nsc φ₀ s₀ I D Cc kd a k j ρ φ hp s vs cs q) {φ' : List Addr} {hp' : Hp} {s' : Shared} (X : At C cenv nsc ρ φ [] s φ' hp' s') : CL C cenv nsc φ₀ s₀ I D Cc kd a k j ρ φ' hp' s' vs cs q :=
  ⟨Y.L.body (itOK kd a I) X (fun _ h => nomatch h) (fun _ h => nomatch h), Y.D.step X.S (fun _ h => nomatch h), Y.vs.mono fun _ _ => VR.up X.S.pre, pre_get X.S.pre Y.ha⟩
theorem CL.push (Y : CL C cenv nsc φ₀ s₀ I D Cc kd a k j ρ φ hp s vs cs q) (hn : vs.length ≤ 1000) {v : V} {c : Value} (hv : VR φ v c) {Q : Value → Shared → Prop} {E : Value → Shared → Prop} (h : ∀ s', CL C cenv nsc φ₀ s₀ I D Cc kd a k j ρ φ hp s' (vs ++ [v]) (cs ++ [c]) (q + 1) → Q .none s') : wpAny (model C.prog C.w) A (call (.builtin "list.append") [.ref D, c]) Q E s :=
  grow Y.L.X.R Y.L.X.H Y.D (fun b hb => List.mem_cons_of_mem _ hb) (Y.vs.length ▸ hn) fun s' X D' => h s' ⟨Y.L.body (itOK kd a I) X (fun b hb => List.mem_singleton.mp hb ▸ List.mem_cons_self) (fun b hb => List.mem_singleton.mp hb ▸ List.mem_cons_self), D', Y.vs.snoc hv, Y.ha⟩
theorem cl_loop {elt : Expr} {x : Str} {px : Pos} {fe : FV} {us : List V} {ρ' : Rho} {hp' : Hp} {Lc : Code} {R' : Result → Shared → Prop} {Er : Value → Shared → Prop} {i m₀ : Nat} (hr : Room A n) (hl : cenv.locals = Cc) (hx : nsc[i]? = some x) (hk : cenv.kindOf x = some .local) (hel : Ev C n cenv nsc elt fe)
    (rule : ∀ (J : Nat → Shared → Prop), (∀ n s, J n s → wpAny (model C.prog C.w) A (pyNext (.ref I)) (fun r s₁ => match r with
      | none => R' (.ok .next) s₁
      | some v => wpAny (model C.prog C.w) A (assign (.Name x px) cenv v) (fun _ s₂ => wpAny (model C.prog C.w) A (eval elt cenv) (fun x s₃ => wpAny (model C.prog C.w) A (call (.builtin "list.append") [.ref D, x]) (fun _ s₄ => ∃ m, m < n ∧ J m s₄) Er s₃) Er s₂) Er s₁) Er s) → J m₀ s → codeAny (model C.prog C.w) A Lc R' s)
    (Y : CL C cenv nsc φ₀ s₀ I D Cc kd a k 0 ρ φ hp s vs cs q) (hI : s₀.heap.get? I = none) (e : compL fe i kd k m₀ 0 ρ hp vs = some (us, ρ', hp')) {b : Nat} (h0 : vs.length + m₀ ≤ b) (hb : b ≤ 1000) (hR : ∀ s', CEnd C cenv nsc φ₀ s₀ D Cc us ρ' hp' s' → us.length ≤ b → R' (.ok .next) s') : codeAny (model C.prog C.w) A Lc R' s :=
  rule (fun m s' => ∃ j ρ φ hp vs cs q, CL C cenv nsc φ₀ s₀ I D Cc kd a k j ρ φ hp s' vs cs q ∧ vs.length + m ≤ b ∧ compL fe i kd k m j ρ hp vs = some (us, ρ', hp')) (fun m s1 ⟨j, ρ1, φ1, hp1, vs, cs, q, Y1, hn, e1⟩ => by
    cases m with
    | zero => cases e1
    | succ m =>
      refine bOE e1 (fun e2 e3 => Y1.end_ hr.hand hI e2 fun s2 X2 D2 => ?_) fun v e2 e3 => Y1.item hl hx hk e2 (Q' := fun _ s₂ => wpAny _ A (eval elt cenv) _ _ s₂) (fun s2 Y2 => ?_) fun c s' h => h
      · cases e3; exact hR _ ⟨φ1, cs, q, X2, ⟨⟨D2.free.phi, fun h => D2.free.own (List.mem_cons_of_mem _ h), D2.free.tab, D2.free.base⟩, D2.at_⟩, Y1.vs⟩ (Nat.le_trans (Nat.le_add_right _ _) hn)
      · exact evV hel hr (.start (own := []) Y2.L.X.R Y2.L.X.H) e3 fun c s3 φ3 u hp3 X3 _ r3 e4 => (Y2.step X3).push (ar1 hn hb) r3 fun s4 Y4 => ⟨m, Nat.lt_succ_self _, _, _, _, _, _, _, _, Y4, ar2 hn, e4⟩) ⟨0, ρ, φ, hp, vs, cs, q, Y, h0, e⟩
end
end
end Mine

open PySem PySem.Calls PySem.W PySem.Spec PyProof.Rows
set_option Elab.async false
set_option autoImplicit false
set_option maxRecDepth 100000
set_option genSizeOf false
set_option genInjectivity false
set_option linter.unusedVariables false
namespace Mine
noncomputable section
variable {C : Cx} {n : Nat} {env : Env} {ns : List Str}

/-- the iterator, the display and the names of a comprehension are made -/
theorem comp_start {A : Around} {s₀ : Shared} {φ₀ : List Addr} {ρ : Rho} {hp hp1 hp' : Hp} {us : List V} {elt iter : Expr} {x : Str} {px pos pos' : Pos} {rest : List Comprehension} {scope : Scope} {cl : List (Str × Addr)} {nsc : List Str} {ρc : Rho} {fi : FV} {use : Option (Value → Sem Unit)} {Q : Value → Shared → Prop} {ki : Nat} {kd : KI}
    (hr : Room A n) (R : ER C env ns ρ φ₀ s₀) (H : HR C hp φ₀ s₀) (hkind : scope.kind = .function) (hcell : ∀ y ∈ scope.names, y.2 ≠ .cell) (hnames : ∀ y ∈ scope.names, y.2 = .local → scope.names.lookup y.1 = some .local) (hclos : closureFor scope env = pure cl)
    (hER : ∀ Cc m φ s, ER C env ns ρ φ s → s.heap.Ns Cc m → Free C Cc φ (ownOf env) → ER C (compEnvC scope cl Cc env) nsc ρc φ s) (hown : ∀ Cc b, b ∈ ownOf (compEnvC scope cl Cc env) → b = Cc ∨ b ∈ ownOf env)
    (hfold : ∀ v, foldedSetIterable iter env v = pure v) (hfi : Ev C n env ns iter fi) (e1 : fi ρ hp = some (.ref ki, hp1)) (ek : kdOf hp1[ki]? = some kd)
    (hloop : ∀ I D Cc φ s a R', CL C (compEnvC scope cl Cc env) nsc φ₀ s₀ I D Cc kd a ki 0 ρc φ hp1 s [] [] 0 → s₀.heap.get? I = none → (∀ ρ' s', CEnd C (compEnvC scope cl Cc env) nsc φ₀ s₀ D Cc us ρ' hp' s' → R' (.ok .next) s') → codeAny (model C.prog C.w) A (.compLoop (.ListComp elt (⟨.Name x px, iter, [], 0⟩ :: rest) scope pos) 0 (.ref I) (.ref D) (compEnvC scope cl Cc env)) R' s)
    (hQ : ∀ D Cc φ' s', Step C φ₀ [Cc] s₀ φ' s' → HR C (hp' ++ [.list us]) φ' s' → VR φ' (.ref hp'.length) (.ref D) → (∃ m, s'.heap.Ns Cc m) → Free C Cc φ' [] → s₀.heap.get? Cc = none → compPost (model C.prog C.w) A noE use Q (.ref D) Cc (.ok .next) s') :
    wpAny (model C.prog C.w) A (comprehension (.ListComp elt (⟨.Name x px, iter, [], 0⟩ :: rest) scope pos) scope env pos' (newList []) false (eval iter env) use) Q noE s₀ := by
  refine wpAny_comprehension_free rfl hfold hclos hkind hnames (evR hfi hr (.start (own := []) R H) (k := fun i hp => if i = ki then some hp else none) (r := hp1) (by rw [e1]; exact if_pos rfl) fun a s1 φ1 i hp1' X1 _ ha e => ?_)
  have : i = ki ∧ hp1' = hp1 := by
    split at e
    · cases e; exact ⟨by assumption, rfl⟩
    · cases e
  obtain ⟨rfl, rfl⟩ := this
  refine start_iter X1.H ha ek fun I s2 hI0 up2 same2 hst => ?_
  refine wpAny_newObj_type ?_
  have hD0 : s2.heap.get? s2.heap.objs.size = none := get_size _
  have hD1 := Heap.get?_push_size s2.heap (o := lsO [] 0) rfl
  have up3 : ∀ b o, s2.heap.get? b = some o → (s2.heap.push (lsO [] 0)).get? b = some o := fun b o e => Heap.get?_push_of_some _ e
  show wpAny _ _ _ _ _ { s2 with heap := s2.heap.push (lsO [] 0) }
  generalize s2.heap.objs.size = D at hD0 hD1 ⊢
  generalize s2.heap.push (lsO [] 0) = h3 at hD1 up3 ⊢
  refine wpAny_newFunctionEnv hcell (fun y hy => nomatch hy) (fun h₁ hns₁ hsb₁ => ?_) hkind
  have hC0 : h3.get? h3.objs.size = none := get_size _
  dsimp only at hns₁ hsb₁ ⊢
  have up4 : ∀ b o, h3.get? b = some o → h₁.get? b = some o := fun b o e => hsb₁.extBut b o (size_ne e) (Heap.get?_push_of_some _ e)
  generalize h3.objs.size = Cc at hC0 hns₁ ⊢
  have up : ∀ b o, s1.heap.get? b = some o → h₁.get? b = some o := fun b o e => up4 b o (up3 b o (up2 b o e))
  have dead : ∀ {h h' : Heap} {b : Addr}, (∀ b o, h.get? b = some o → h'.get? b = some o) → h'.get? b = none → h.get? b = none := fun k e => dead_up (fun b o q => ⟨o, k b o q⟩) e
  have dD := dead up2 hD0
  have dC := dead up2 (dead up3 hC0)
  obtain ⟨oI, hoI, _⟩ := hst.obj
  have nID : I ≠ D := dead_ne hoI hD0
  have nIC : I ≠ Cc := dead_ne (up3 _ _ hoI) hC0
  have nDC : D ≠ Cc := dead_ne hD1 hC0
  have sI := X1.S.dead hI0
  have sD := X1.S.dead dD
  have sC := X1.S.dead dC
  obtain ⟨s4, hs4⟩ : ∃ s4 : Shared, s4 = { s2 with heap := h₁, toks := s2.toks + ([] : List (Str × Value)).length } := ⟨_, rfl⟩
  have h4 : s4.heap = h₁ := by rw [hs4]
  have S4 : Step C φ1 [] s1 φ1 s4 := Step.keeps (by rw [hs4]; obtain ⟨_, _, rfl⟩ := same2; exact ⟨_, _, rfl⟩) (h4 ▸ up)
  have X4 := X1.then_ S4 (X1.H.heap (h4 ▸ up))
  have FI := free_of X1.R X1.H hI0
  have FD := free_of X1.R X1.H dD
  have FC := free_of X1.R X1.H dC
  have R4 := hER Cc _ _ s4 X4.R (h4 ▸ hns₁) FC
  have fr : ∀ b, Free C b φ1 (ownOf env) → b ≠ Cc → ∀ c, b ≠ c → Free C b φ1 (c :: ownOf (compEnvC scope cl Cc env)) := fun b F q c q2 => ⟨F.phi, fun hm => (List.mem_cons.mp hm).elim q2 fun hm => (hown Cc b hm).elim q F.own, F.tab, F.base⟩
  have Y : CL C (compEnvC scope cl Cc env) nsc φ₀ s₀ I D Cc kd a i 0 ρc φ1 hp1' s4 [] [] 0 := ⟨⟨⟨X4.S.own0, R4, X4.H⟩, fun b hb => List.mem_singleton.mp hb ▸ fr I FI nIC D nID, h4 ▸ hst.keep fun o e => up4 _ _ (up3 _ _ e)⟩, ⟨fr D FD nDC I nID.symm, h4 ▸ up4 _ _ hD1⟩, .nil, ha⟩
  have loop := hloop I D Cc φ1 s4 a (compPost (model C.prog C.w) A noE use Q (.ref D) Cc) Y sI fun ρ5 s5 ⟨φ5, cs, q, X5, D5, r5⟩ => by
    have eR : ER C (compEnvC scope cl Cc env) nsc ρ5 φ5 s5 := X5.R
    have FC5 := eR.out Cc List.mem_cons_self
    refine hQ D Cc (φ5 ++ [D]) s5 ⟨?_, X5.S.live, fun b o n1 n2 n3 e => X5.S.keep b o n1 (fun hm => (List.mem_cons.mp hm).elim (dead_ne e sD) n2) n3 e, X5.S.same⟩ (X5.H.push D5.free D5.at_ ⟨cs, q, r5, rfl⟩) ⟨D, by rw [← X5.H.len, List.getElem?_append_right (Nat.le_refl _), Nat.sub_self]; rfl, rfl⟩ eR.loc ⟨fun hm => (List.mem_append.mp hm).elim FC5.1 fun hm => nDC (List.mem_singleton.mp hm).symm, List.not_mem_nil, FC.tab, FC.base⟩ sC
    obtain ⟨ψ, hψ, hψf⟩ := X5.S.ext
    exact ⟨ψ ++ [D], by rw [hψ, List.append_assoc], fun b hb => (List.mem_append.mp hb).elim (hψf b) fun hb => List.mem_singleton.mp hb ▸ sD⟩
  have := codeAny_compStart_list loop (pyIter_self (C := C) (E := notedBy (model C.prog C.w) A (compEnvC scope cl Cc env) fun x s' => compPost (model C.prog C.w) A noE use Q (.ref D) Cc (.error x) s') Y.L.st loop)
  rw [hs4] at this
  exact this

def compF (fi : FV) (elt : FV) (caps : List Nat) : FV := fun ρ hp => bR (fi ρ hp) fun k hp => (kdOf hp[k]?).bind fun kd => (compL elt 0 kd k 100 0 (compRho ρ caps) hp []).map fun r => (.ref r.2.2.length, r.2.2 ++ [.list r.1])
theorem compF_inv {fi elt : FV} {caps : List Nat} {ρ : Rho} {hp : Hp} {r : V × Hp} (e : compF fi elt caps ρ hp = some r) : ∃ k hp1 kd us ρ2 hp2, fi ρ hp = some (.ref k, hp1) ∧ kdOf hp1[k]? = some kd ∧ compL elt 0 kd k 100 0 (compRho ρ caps) hp1 [] = some (us, ρ2, hp2) ∧ r = (.ref hp2.length, hp2 ++ [.list us]) :=
  (bV_inv e).elim fun v q => q.elim fun hp1 q => (onR_inv q.2).elim fun k y => (Option.bind_eq_some_iff.mp y.2).elim fun kd z => (Option.map_eq_some_iff.mp z.2).elim fun w x => ⟨k, hp1, kd, w.1, w.2.1, w.2.2, y.1 ▸ q.1, z.1, x.1, x.2.symm⟩
section
variable {elt iter : Expr} {x : Str} {px pos : Pos} {scope : Scope} {caps : List Nat} {cns : List Str} {fi fe : FV}
theorem comp1_loop {φ₀ : List Addr} {s₀ : Shared} {I D Cc : Addr} {kd : KI} {a : Addr} {k : Nat} {ρ ρ' : Rho} {φ : List Addr} {hp hp' : Hp} {s : Shared} {A : Around} {us : List V} {R' : Result → Shared → Prop} (hr : Room A n) (K : CompOK env ns scope x caps cns) (hel : Ev C n (cEnv env scope Cc) (x :: cns) elt fe)
    (Y : CL C (cEnv env scope Cc) (x :: cns) φ₀ s₀ I D Cc kd a k 0 ρ φ hp s [] [] 0) (hI : s₀.heap.get? I = none) (e : compL fe 0 kd k 100 0 ρ hp [] = some (us, ρ', hp')) (hR : ∀ s', CEnd C (cEnv env scope Cc) (x :: cns) φ₀ s₀ D Cc us ρ' hp' s' → R' (.ok .next) s') : codeAny (model C.prog C.w) A (.compLoop (.ListComp elt [⟨.Name x px, iter, [], 0⟩] scope pos) 0 (.ref I) (.ref D) (cEnv env scope Cc)) R' s :=
  cl_loop (cenv := cEnv env scope Cc) (i := 0) (x := x) (px := px) (nsc := x :: cns) hr rfl rfl (lookup_relabel_local K.tgt) hel (fun J turn h => codeAny_compLoop_list J turn 100 h) Y hI e (b := 100) (Nat.le_refl _) (by decide) fun s' h _ => hR s' h
theorem Ev_comp (K : CompOK env ns scope x caps cns) (hfold : ∀ v, foldedSetIterable iter env v = pure v) (hfi : Ev C n env ns iter fi) (hel : ∀ Cc, Ev C n (cEnv env scope Cc) (x :: cns) elt fe) :
    Ev C n env ns (.ListComp elt [⟨.Name x px, iter, [], 0⟩] scope pos) (compF fi fe caps) := fun A s φ ρ hp v hp' hr R H e => by
  obtain ⟨k, hp1, kd, us, ρ2, hp2, e1, ek, e2, er⟩ := compF_inv e
  cases er
  rw [eval_ListComp]
  exact comp_start hr R H K.kind K.cell K.names (comp_clos R K) (fun Cc m φ s R h F => compER R K h F) (fun Cc b hb => own_c hb) hfold hfi e1 ek (fun I D Cc φ s a R' Y hI hR => comp1_loop hr K (hel Cc) Y hI e2 (hR _))
    fun D Cc φ' s' S H' r hC F h0 => hC.imp fun m hm => ⟨hm, fun h' hs => (Ns_nc hm).elim fun o q => ⟨φ', S.ends (fp := [Cc]) (s2 := { s' with heap := h' }) (fun b o hb e => (hs.2 b fun q => hb (List.mem_singleton.mpr q)).trans e) ⟨_, _, rfl⟩ (fun b hb => List.mem_singleton.mp hb ▸ h0), H'.ext (s' := { s' with heap := h' }) q.1 q.2 F fun b o hb e => (hs.2 b hb).trans e, r⟩⟩
/-- a comprehension bound to a name of the frame: its stores are exchanged -/
theorem Ex_assignC (i : Nat) {y : Str} {py spos : Pos} (hy : ns[i]? = some y) (hsw : swapsWith (.ListComp elt [⟨.Name x px, iter, [], 0⟩] scope pos) (some (.Name y py)) spos.line env = pure true)
    (K : CompOK env ns scope x caps cns) (hfold : ∀ v, foldedSetIterable iter env v = pure v) (hfi : Ev C n env ns iter fi) (hel : ∀ Cc, Ev C n (cEnv env scope Cc) (x :: cns) elt fe) :
    Ex C n env ns (.Assign [.Name y py] (.ListComp elt [⟨.Name x px, iter, [], 0⟩] scope pos) spos) (fun ρ hp => bV (compF fi fe caps ρ hp) fun v hp => some (.next, ρ.set i (some v), hp)) := fun A s φ ρ hp fl ρ' hp' hr R H e => by
  obtain ⟨v, hp9, e, e9⟩ := bV_inv e
  obtain ⟨k, hp1, kd, us, ρ2, hp2, e1, ek, e2, er⟩ := compF_inv e
  cases er; cases e9
  rw [exec_Assign_Name_used _ _ _ _ hsw]
  refine wpAny_bind (wpAny_standAt (wpAny_bind ?_))
  show wpAny _ A (do let _ ← comprehension (.ListComp elt [⟨.Name x px, iter, [], 0⟩] scope pos) scope env _ (newList []) false (eval iter env) (some (assign (.Name y py) env))) _ _ s
  refine wpAny_bind (wpF (comp_start (use := some (assign (.Name y py) env)) (Q := fun _ s' => PS C env ns φ s .next (ρ.set i (some (.ref hp2.length))) (hp2 ++ [.list us]) .next s') hr R H K.kind K.cell K.names (comp_clos R K) (fun Cc m φ s R h F => compER R K h F) (fun Cc b hb => own_c hb) hfold hfi e1 ek (fun I D Cc φ s a R' Y hI hR => comp1_loop hr K (hel Cc) Y hI e2 (hR _))
    fun D Cc φ' s' S H' r hC F h0 => ?_) fun _ s' hq => wpAny_pure (wpAny_pure hq))
  have hCo : ∀ b ∈ ownOf env, b ≠ Cc := fun b hb => (R.out b hb).2.elim fun o e => dead_ne e h0
  have R' := R.step S fun b hb q => hCo b hb (List.mem_singleton.mp q)
  show wpAny _ A (assign (.Name y py) env (.ref D)) _ _ _
  have X : At C env ns ρ φ' (ownOf env) s' φ' (hp2 ++ [.list us]) s' := .start R' H'
  refine wpAny_assign_Name (X.store hy r fun s2 X2 => hC.imp fun m hm => ?_)
  have hm2 : s2.heap.Ns Cc m := Ns_keep hm fun o e => X2.S.keep Cc o F.phi (fun hm => hCo Cc hm rfl) F.tab e
  refine ⟨hm2, fun h' hs => (Ns_nc hm2).elim fun o q => At.ps (φ := φ') (s := { s2 with heap := h' }) ⟨?_, X2.R.kp (s' := { s2 with heap := h' }) (fun b hb o e => (hs.2 b (hCo b hb)).trans e) (List.prefix_refl _) (fun b o e n => n), X2.H.ext (s' := { s2 with heap := h' }) q.1 q.2 F fun b o hb e => (hs.2 b hb).trans e⟩ rfl⟩
  exact ((S.weak (own' := [Cc] ++ ownOf env) fun b hb => List.mem_append_left _ hb).trans (X2.S.weak fun b hb => List.mem_append_right _ hb)).ends (fp := [Cc]) (s2 := { s2 with heap := h' }) (fun b o hb e => (hs.2 b fun q => hb (List.mem_singleton.mpr q)).trans e) ⟨_, _, rfl⟩ (fun b hb => List.mem_singleton.mp hb ▸ h0)
end
end
end Mine

open PySem PySem.Calls PySem.W PySem.Spec PyProof.Rows
set_option Elab.async false
set_option autoImplicit false
set_option maxRecDepth 100000
set_option genSizeOf false
set_option genInjectivity false
set_option linter.unusedVariables false
namespace Mine
noncomputable section
section
variable {prog : Program} {w : World} {A : Around} {R : Result → Shared → Prop} {s : Shared}
abbrev nest2 (elt t0 i0 t1 i1 : Expr) (scope : Scope) (pos : Pos) : Expr := .ListComp elt [⟨t0, i0, [], 0⟩, ⟨t1, i1, [], 0⟩] scope pos
theorem turn_last (elt t0 i0 t1 i1 : Expr) (scope : Scope) (pos : Pos) (it acc : Value) (env : Env) :
    compTurn (nest2 elt t0 i0 t1 i1 scope pos) 1 it acc env = (standAt i1.pos >>= fun _ => pyNext it >>= fun r => match r with
      | none => pure (.done .next)
      | some v => letOwnedTupleGo t1 it v >>= fun _ => assign t1 env v >>= fun _ =>
        (eval elt env >>= fun x => call (.builtin "list.append") [acc, x] >>= fun _ => pure ()) >>= fun _ =>
          again (.compLoop (nest2 elt t0 i0 t1 i1 scope pos) 1 it acc env)) := by rfl
theorem turn_first (elt t0 i0 t1 i1 : Expr) (scope : Scope) (pos : Pos) (it acc : Value) (env : Env) :
    compTurn (nest2 elt t0 i0 t1 i1 scope pos) 0 it acc env = (standAt i0.pos >>= fun _ => pyNext it >>= fun r => match r with
      | none => pure (.done .next)
      | some v => letOwnedTupleGo t0 it v >>= fun _ => assign t0 env v >>= fun _ =>
        eval i1 env >>= fun x => standAt i1.pos >>= fun _ => foldedSetIterable i1 env x >>= fun x => holding [x] (pyIter x) >>= fun y => runOwn (.compStart (nest2 elt t0 i0 t1 i1 scope pos) 1 y acc env) env >>= fun _ =>
          again (.compLoop (nest2 elt t0 i0 t1 i1 scope pos) 0 it acc env)) := by rfl
theorem loop_last {elt t0 i0 t1 i1 : Expr} {scope : Scope} {pos : Pos} {it acc : Value} {env : Env} (I : Nat → Shared → Prop)
    (turn : ∀ n s, I n s → wpAny (model prog w) A (pyNext it) (fun r s₁ => match r with
      | none => R (.ok .next) s₁
      | some v => wpAny (model prog w) A (assign t1 env v) (fun _ s₂ => wpAny (model prog w) A (eval elt env) (fun x s₃ =>
          wpAny (model prog w) A (call (.builtin "list.append") [acc, x]) (fun _ s₄ => ∃ m, m < n ∧ I m s₄) noE s₃) noE s₂) noE s₁) noE s)
    (n : Nat) (h : I n s) (ht : ∀ v, letOwnedTupleGo t1 it v = pure () := by intro _; rfl) :
    codeAny (model prog w) A (.compLoop (nest2 elt t0 i0 t1 i1 scope pos) 1 it acc env) R s := by
  refine codeAny_loop rfl I (fun n s hI => ?_) n h
  show wpAny _ _ ((compTurn (nest2 elt t0 i0 t1 i1 scope pos) 1 it acc env).onRaise (fun x => do noteFrame x env; theTreesLotGoes x)) _ _ s
  refine wpAny_noted ?_
  rw [turn_last]
  refine wpAny_bind (wpAny_standAt (wpAny_bind (wpF (turn n s hI) (fun r s₁ h₁ => ?_))))
  cases r with
  | none => exact wpAny_pure h₁
  | some v =>
    refine wpAny_bind (wpAny_of_eq (ht v) ?_)
    exact wpAny_bind (wpF h₁ (fun _ s₂ h₂ => wpAny_bind (wpAny_bind (wpF h₂ (fun x s₃ h₃ => wpAny_bind (wpF h₃
      (fun _ s₄ h₄ => wpAny_pure (wpAny_pure ⟨rfl, h₄⟩))))))))
theorem loop_first {elt t0 i0 t1 i1 : Expr} {scope : Scope} {pos : Pos} {it acc : Value} {env : Env} (I : Nat → Shared → Prop)
    (turn : ∀ n s, I n s → wpAny (model prog w) A (pyNext it) (fun r s₁ => match r with
      | none => R (.ok .next) s₁
      | some v => wpAny (model prog w) A (assign t0 env v) (fun _ s₂ => wpAny (model prog w) A (eval i1 env) (fun x s₃ =>
          wpAny (model prog w) A (pyIter x) (fun y s₄ => codeAny (model prog w) A (.compStart (nest2 elt t0 i0 t1 i1 scope pos) 1 y acc env) (fun r s₅ => ∃ f, r = .ok f ∧ ∃ m, m < n ∧ I m s₅) s₄) noE s₃) noE s₂) noE s₁) noE s)
    (n : Nat) (h : I n s) (hfold : ∀ v, foldedSetIterable i1 env v = pure v) (ht : ∀ v, letOwnedTupleGo t0 it v = pure () := by intro _; rfl) :
    codeAny (model prog w) A (.compLoop (nest2 elt t0 i0 t1 i1 scope pos) 0 it acc env) R s := by
  refine codeAny_loop rfl I (fun n s hI => ?_) n h
  show wpAny _ _ ((compTurn (nest2 elt t0 i0 t1 i1 scope pos) 0 it acc env).onRaise (fun x => do noteFrame x env; theTreesLotGoes x)) _ _ s
  refine wpAny_noted ?_
  rw [turn_first]
  refine wpAny_bind (wpAny_standAt (wpAny_bind (wpF (turn n s hI) (fun r s₁ h₁ => ?_))))
  cases r with
  | none => exact wpAny_pure h₁
  | some v =>
    refine wpAny_bind (wpAny_of_eq (ht v) ?_)
    refine wpAny_bind (wpF h₁ (fun _ s₂ h₂ => ?_))
    refine wpAny_bind (wpF h₂ (fun x s₃ h₃ => ?_))
    refine wpAny_bind (wpAny_standAt (wpAny_bind (wpAny_of_eq (hfold x) ?_)))
    refine wpAny_bind (wpAny_holding (wpF h₃ fun y s₄ h₄ => ?_))
    refine wpAny_bind (wpAny_runOwn (A := A) (h := none) (codeAny_mono h₄ fun r s₅ h₅ => ?_))
    obtain ⟨f, rfl, h₅⟩ := h₅
    exact wpAny_pure ⟨rfl, h₅⟩
theorem start_last {elt t0 i0 t1 i1 : Expr} {scope : Scope} {pos : Pos} {it acc : Value} {env : Env}
    (h0 : codeAny (model prog w) A (.compLoop (nest2 elt t0 i0 t1 i1 scope pos) 1 it acc env) R s)
    (h : wpAny (model prog w) A (pyIter it) (fun it' s' => codeAny (model prog w) A (.compLoop (nest2 elt t0 i0 t1 i1 scope pos) 1 it' acc env) R s') noE s) :
    codeAny (model prog w) A (.compStart (nest2 elt t0 i0 t1 i1 scope pos) 1 it acc env) R s := by
  refine codeAny_of_tree ?_
  show wpAny _ _ ((compStart (nest2 elt t0 i0 t1 i1 scope pos) 1 it acc env).onRaise (fun x => do noteFrame x env; standAt theWindowsPlace)) _ _ s
  refine wpAny_notedAt ?_
  unfold compStart
  show wpAny _ _ (ask >>= _) _ _ s
  refine wpAny_bind (wpAny_askSetting (wpAny_ite ?_))
  split
  · first
      | exact wpAny_bind (wpAny_pure (wpAny_pure (And.intro rfl h0)))
      | exact wpAny_pure (And.intro rfl h0)
  · first
      | exact wpAny_bind (wpAny_rule (wpAny_bind (wpAny_standAt (wpAny_bind (wpF h (fun it' s' h' => wpAny_pure (And.intro rfl h')))))))
      | (refine wpAny_bind (wpAny_rule ?_); show wpAny _ _ (standAt i1.pos >>= _) _ _ s; exact wpAny_bind (wpAny_standAt (wpAny_bind (wpF h (fun it' s' h' => wpAny_pure (And.intro rfl h'))))))
end


variable {C : Cx} {n : Nat} {env : Env} {ns : List Str}
def compLo (it2 elt : FV) (kd : KI) (k : Nat) : Nat → Nat → Rho → Hp → List V → Option (List V × Rho × Hp)
  | 0, _, _, _, _ => none
  | f + 1, j, ρ, hp, us => bO (itemAt kd hp k j) (some (us, ρ, hp)) fun v => bR (it2 (ρ.set 0 (some v)) hp) fun k2 hp => (kdOf hp[k2]?).bind fun kd2 => (compL elt 1 kd2 k2 20 0 (ρ.set 0 (some v)) hp us).bind fun r => compLo it2 elt kd k f (j + 1) r.2.1 r.2.2 r.1
def comp2F (fi it2 elt : FV) : FV := fun ρ hp => bR (fi ρ hp) fun k hp => (kdOf hp[k]?).bind fun kd => (compLo it2 elt kd k 30 0 [none, none] hp []).map fun r => (.ref r.2.2.length, r.2.2 ++ [.list r.1])

/-- the scope of a comprehension of two loops that takes nothing from around -/
structure Comp2OK (scope : Scope) (x y : Str) : Prop where
  kind : scope.kind = .function
  cell : ∀ y ∈ scope.names, y.2 ≠ .cell
  free : ∀ y ∈ scope.names, y.2 ≠ .free
  names : ∀ y ∈ scope.names, y.2 = .local → scope.names.lookup y.1 = some .local
  t0 : scope.names.lookup x = some .local
  t1 : scope.names.lookup y = some .local
  nd : x ≠ y
  dbg : ∀ z ∈ [x, y], (z == ("__debug__" : Str)) = false ∧ (z == ("__classdict__" : Str)) = false
abbrev c2Env (env : Env) (scope : Scope) (Cc : Addr) : Env := compEnvC scope [] Cc env
theorem buildCl_none {cells : List (Str × Addr)} : ∀ {names : List (Str × NameKind)} {acc : List (Str × Addr)}, (∀ y ∈ names, y.2 ≠ .free) → buildCl cells names acc = acc
  | [], _, _ => rfl
  | (x, k) :: r, acc, h => by
    unfold buildCl
    rw [if_neg (fun q => h (x, k) List.mem_cons_self (eq_of_beq q))]
    exact buildCl_none fun y hy => h y (List.mem_cons_of_mem _ hy)
theorem comp2ER {scope : Scope} {x y : Str} {ρ : Rho} {φ : List Addr} {s : Shared} (R : ER C env ns ρ φ s) (K : Comp2OK scope x y) {Cc : Addr} {m : Str → Option Value} (hn : s.heap.Ns Cc m) (F : Free C Cc φ (ownOf env)) : ER C (c2Env env scope Cc) [x, y] [none, none] φ s := by
  have own2 : ∀ b ∈ ownOf (c2Env env scope Cc), b = Cc := fun b h => List.mem_singleton.mp h
  refine ⟨⟨K.kind, R.st.glob, R.st.blt, List.nodup_cons.mpr ⟨List.not_mem_nil, List.nodup_nil⟩, K.dbg, List.nodup_cons.mpr ⟨fun h => K.nd (List.mem_singleton.mp h), List.nodup_cons.mpr ⟨List.not_mem_nil, List.nodup_nil⟩⟩, fun z hz => .inl ?_, F.base, fun b hb => own2 b hb ▸ F.tab⟩, fun i z v h1 h2 => ?_, ⟨m, hn⟩, fun y a h => (by cases h), fun b hb => ?_⟩
  · rcases List.mem_cons.mp hz with rfl | hz
    · exact lookup_relabel_local K.t0
    · cases List.mem_singleton.mp hz; exact lookup_relabel_local K.t1
  · match i with
    | 0 => cases h2
    | 1 => cases h2
    | i + 2 => cases h2
  · rw [own2 b hb]; exact ⟨F.phi, hn.imp fun o h => h.elim fun _ h => h.elim fun _ h => h.1⟩
section
variable {elt iter it2 : Expr} {x y : Str} {px py pos : Pos} {scope : Scope} {fi f2 fe : FV} {φ₀ : List Addr} {s₀ : Shared} {I D Cc : Addr} {kd : KI} {a : Addr} {k j : Nat} {ρ ρ' : Rho} {φ : List Addr} {hp hp' : Hp} {s : Shared} {A : Around} {vs us : List V} {cs : List Value} {q : Nat}
/-- the inner loop's end, seen from the outer one -/
theorem CL.inner {cenv : Env} {nsc : List Str} {s' : Shared} (hl : cenv.locals = Cc) (Y : CL C cenv nsc φ₀ s₀ I D Cc kd a k j ρ φ hp s vs cs q) (h : CEnd C cenv nsc φ s D Cc us ρ' hp' s') : ∃ φ' cs' q', CL C cenv nsc φ₀ s₀ I D Cc kd a k j ρ' φ' hp' s' us cs' q' :=
  h.imp fun φ' h => h.imp fun cs' h => h.imp fun q' h => ⟨Y.L.body (itOK kd a I) h.1 (fun _ h => h) (fun b hb => (List.mem_cons.mp hb).elim (fun q => q ▸ List.mem_cons_self) fun hb => List.mem_cons_of_mem _ (List.mem_singleton.mp hb ▸ hl ▸ List.mem_cons_self)), ⟨⟨h.2.1.free.phi, fun hm => (List.mem_cons.mp hm).elim (fun q => Y.D.free.own (q ▸ List.mem_cons_self)) h.2.1.free.own, h.2.1.free.tab, h.2.1.free.base⟩, h.2.1.at_⟩, h.2.2, pre_get h.1.S.pre Y.ha⟩
theorem ar3 {a b m c : Nat} (h : a + 20 * (m + 1) ≤ c) (h2 : b ≤ a + 20) : b + 20 * m ≤ c := by omega
theorem ar4 {a m c : Nat} (h : a + 20 * (m + 1) ≤ c) : a + 20 ≤ c := by omega
def Inv2 (C : Cx) (cenv : Env) (nsc : List Str) (φ₀ : List Addr) (s₀ : Shared) (I D Cc : Addr) (kd : KI) (a : Addr) (k : Nat) (f2 fe : FV) (r : List V × Rho × Hp) (m : Nat) (s' : Shared) : Prop := ∃ j ρ φ hp vs cs q, CL C cenv nsc φ₀ s₀ I D Cc kd a k j ρ φ hp s' vs cs q ∧ vs.length + 20 * m ≤ 900 ∧ compLo f2 fe kd k m j ρ hp vs = some r
theorem comp2_loop {R' : Result → Shared → Prop} (hr : Room A n) (K : Comp2OK scope x y) (hfold2 : ∀ v, foldedSetIterable it2 (c2Env env scope Cc) v = pure v) (hf2 : Ev C n (c2Env env scope Cc) [x, y] it2 f2) (hel : Ev C n (c2Env env scope Cc) [x, y] elt fe)
    (Y : CL C (c2Env env scope Cc) [x, y] φ₀ s₀ I D Cc kd a k 0 ρ φ hp s [] [] 0) (hI : s₀.heap.get? I = none) (e : compLo f2 fe kd k 30 0 ρ hp [] = some (us, ρ', hp')) (hR : ∀ s', CEnd C (c2Env env scope Cc) [x, y] φ₀ s₀ D Cc us ρ' hp' s' → R' (.ok .next) s') : codeAny (model C.prog C.w) A (.compLoop (nest2 elt (.Name x px) iter (.Name y py) it2 scope pos) 0 (.ref I) (.ref D) (c2Env env scope Cc)) R' s :=
  loop_first (Inv2 C (c2Env env scope Cc) [x, y] φ₀ s₀ I D Cc kd a k f2 fe (us, ρ', hp')) (fun m s1 ⟨j, ρ1, φ1, hp1, vs, cs, q, Y1, hn, e1⟩ => by
    cases m with
    | zero => cases e1
    | succ m =>
      refine bOE e1 (fun e2 e3 => Y1.end_ hr.hand hI e2 fun s2 X2 D2 => ?_) fun v e2 e3 => Y1.item rfl (i := 0) (x := x) rfl (lookup_relabel_local K.t0) e2 (Q' := fun _ s₂ => wpAny _ A (eval it2 (c2Env env scope Cc)) _ _ s₂) (fun s2 Y2 => ?_) fun c s' h => h
      · cases e3; exact hR _ ⟨φ1, cs, q, X2, ⟨⟨D2.free.phi, fun h => D2.free.own (List.mem_cons_of_mem _ h), D2.free.tab, D2.free.base⟩, D2.at_⟩, Y1.vs⟩
      · refine evR hf2 hr (.start (own := []) Y2.L.X.R Y2.L.X.H) e3 fun a2 s3 φ3 k2 hp3 X3 _ ha3 e4 => (Option.bind_eq_some_iff.mp e4).elim fun kd2 z => (Option.bind_eq_some_iff.mp z.2).elim fun r w => start_iter X3.H ha3 z.1 fun J s4 hJ0 up4 same4 hst => ?_
        have Y3 := Y2.step X3
        have FJ := free_of X3.R X3.H hJ0
        have nJ : ∀ {b o}, s3.heap.get? b = some o → J ≠ b := fun e q => by rw [q, e] at hJ0; cases hJ0
        have S4 : Step C φ3 [] s3 φ3 s4 := Step.keeps same4 up4
        have Z : CL C (c2Env env scope Cc) [x, y] φ3 s3 J D Cc kd2 a2 k2 0 (ρ1.set 0 (some v)) φ3 hp3 s4 vs cs q := ⟨⟨⟨S4.own0, X3.R.step0 S4, X3.H.heap up4⟩, fun b hb => List.mem_singleton.mp hb ▸ ⟨FJ.phi, fun hm => (List.mem_cons.mp hm).elim (fun q => nJ Y3.D.at_ q) fun hm => X3.R.out J hm |>.2.elim fun o e => nJ e rfl, FJ.tab, FJ.base⟩, hst⟩, ⟨⟨Y3.D.free.phi, fun hm => (List.mem_cons.mp hm).elim (fun q => nJ Y3.D.at_ q.symm) fun hm => Y3.D.free.own (List.mem_cons_of_mem _ hm), Y3.D.free.tab, Y3.D.free.base⟩, up4 _ _ Y3.D.at_⟩, Y3.vs, ha3⟩
        have fin : ∀ s5, s5 = s4 → codeAny (model C.prog C.w) A (.compLoop (nest2 elt (.Name x px) iter (.Name y py) it2 scope pos) 1 (.ref J) (.ref D) (c2Env env scope Cc)) (fun r s₅ => ∃ f, r = .ok f ∧ ∃ m', m' < m + 1 ∧ Inv2 C (c2Env env scope Cc) [x, y] φ₀ s₀ I D Cc kd a k f2 fe (us, ρ', hp') m' s₅) s5 := fun s5 q5 => q5 ▸ cl_loop (cenv := c2Env env scope Cc) (i := 1) (x := y) (px := py) (nsc := [x, y]) hr rfl rfl (lookup_relabel_local K.t1) hel (fun J' turn h => loop_last J' turn 20 h) Z hJ0 w.1 (Nat.le_refl _) (Nat.le_trans (ar4 hn) (by decide)) fun s6 h6 hl6 => (Y3.inner rfl h6).elim fun φ' h => h.elim fun cs' h => h.elim fun q' Y6 => ⟨.next, rfl, m, Nat.lt_succ_self _, _, _, _, _, _, _, _, Y6, ar3 hn hl6, w.2⟩
        exact start_last (fin _ rfl) (pyIter_self hst (fin _ rfl))) 30 ⟨0, ρ, φ, hp, [], [], 0, Y, by decide, e⟩ hfold2
theorem Ev_comp2 (K : Comp2OK scope x y) (hfold : ∀ v, foldedSetIterable iter env v = pure v) (hfi : Ev C n env ns iter fi)
    (hfold2 : ∀ Cc v, foldedSetIterable it2 (c2Env env scope Cc) v = pure v) (hf2 : ∀ Cc, Ev C n (c2Env env scope Cc) [x, y] it2 f2) (hel : ∀ Cc, Ev C n (c2Env env scope Cc) [x, y] elt fe) :
    Ev C n env ns (.ListComp elt [⟨.Name x px, iter, [], 0⟩, ⟨.Name y py, it2, [], 0⟩] scope pos) (comp2F fi f2 fe) := fun A s φ ρ hp v hp' hr R H e =>
  (bV_inv e).elim fun v q => q.elim fun hp1 q => (onR_inv q.2).elim fun k y => (Option.bind_eq_some_iff.mp y.2).elim fun kd z => (Option.map_eq_some_iff.mp z.2).elim fun w e3 => by
    cases y.1; cases e3.2
    rw [eval_ListComp]
    exact comp_start hr R H K.kind K.cell K.names (by rw [closureFor_eq fun y hy hk => absurd hk (K.free y hy), buildCl_none K.free]) (fun Cc m φ s R h F => comp2ER R K h F) (fun Cc b hb => .inl (List.mem_singleton.mp hb)) hfold hfi q.1 z.1 (fun I D Cc φ s a R' Y hI hR => comp2_loop hr K (hfold2 Cc) (hf2 Cc) (hel Cc) Y hI e3.1 (hR _))
      fun D Cc φ' s' S H' r hC F h0 => hC.imp fun m hm => ⟨hm, fun h' hs => (Ns_nc hm).elim fun o q => ⟨φ', S.ends (fp := [Cc]) (s2 := { s' with heap := h' }) (fun b o hb e => (hs.2 b fun q => hb (List.mem_singleton.mpr q)).trans e) ⟨_, _, rfl⟩ (fun b hb => List.mem_singleton.mp hb ▸ h0), H'.ext (s' := { s' with heap := h' }) q.1 q.2 F fun b o hb e => (hs.2 b hb).trans e, r⟩⟩
end
end
end Mine

open PySem PySem.Calls PySem.W PySem.Spec PyProof.Rows
set_option Elab.async false
set_option autoImplicit false
set_option maxRecDepth 100000
set_option genSizeOf false
set_option genInjectivity false
set_option linter.unusedVariables false
namespace Mine
noncomputable section
variable {C : Cx} {n : Nat} {env : Env} {ns : List Str}

theorem args_at {φ : List Addr} {ps : List Str} {vs : List V} {cs : List Value} (hps : ps = ns.take ps.length) (hv : All2 (VR φ) vs cs) (hl : vs.length = ps.length) {i : Nat} {y : Str} {v : V} (h1 : ns[i]? = some y) (h2 : (vs.map some ++ List.replicate (ns.length - ps.length) none)[i]? = some (some v)) : ps[i]? = some y ∧ ∃ c, cs[i]? = some c ∧ VR φ v c := by
  have hi : i < (vs.map some).length := Nat.lt_of_not_le fun hge => by
    rw [List.getElem?_append_right hge] at h2
    cases (List.mem_replicate.mp (List.mem_of_getElem? h2)).2
  rw [List.getElem?_append_left hi, List.getElem?_map] at h2
  refine (Option.map_eq_some_iff.mp h2).elim fun u q => ?_
  cases q.2
  rw [List.length_map] at hi
  exact ⟨by rw [hps, List.getElem?_take, if_pos (hl ▸ hi)]; exact h1, hv.get q.1⟩
/-- what is asked of a def: ps its parameters, ns all its own names, the parameters first -/
structure DefOK (scope : Scope) (ps ns : List Str) : Prop where
  co : scope.isCoroutine = false
  gen : scope.isGenerator = false
  kind : scope.kind = .function
  nd : ((cellsFrom 0 scope.names []).map (·.1)).Nodup
  ps : ps = ns.take ps.length
  nsND : ns.Nodup
  dbg : ∀ y ∈ ns, (y == ("__debug__" : Str)) = false ∧ (y == ("__classdict__" : Str)) = false
  kinds : ∀ y ∈ ns, scope.names.lookup y = some .local ∨ scope.names.lookup y = some .cell

theorem bindL_off {kd : Str → Option NameKind} {y : Str} : ∀ {ps : List Str} {cs : List Value} {m : Str → Option Value}, y ∉ ps → bindL kd (ps.zip cs) m y = m y
  | [], _, _, _ => by simp [bindL]
  | p :: ps, [], _, _ => by simp [bindL]
  | p :: ps, c :: cs, m, h => by
    simp only [List.mem_cons, not_or] at h
    simp only [List.zip_cons_cons, bindL]
    rw [bindL_off h.2]
    split
    · simp [h.1]
    · rfl
theorem bindC_off {kd : Str → Option NameKind} {y : Str} : ∀ {ps : List Str} {cs : List Value} {m : Str → Option Value}, y ∉ ps → bindC kd (ps.zip cs) m y = m y
  | [], _, _, _ => by simp [bindC]
  | p :: ps, [], _, _ => by simp [bindC]
  | p :: ps, c :: cs, m, h => by
    simp only [List.mem_cons, not_or] at h
    simp only [List.zip_cons_cons, bindC]
    rw [bindC_off h.2]
    split
    · rfl
    · simp [h.1]
theorem bindL_at {kd : Str → Option NameKind} {y : Str} {c : Value} (hk : kd y = some .local) : ∀ {ps : List Str} {cs : List Value} {m : Str → Option Value} {i : Nat}, ps.Nodup → ps[i]? = some y → cs[i]? = some c → bindL kd (ps.zip cs) m y = some c
  | [], _, _, _, _, h, _ => by simp at h
  | p :: ps, [], _, _, _, _, h => by simp at h
  | p :: ps, d :: cs, m, i, hn, h1, h2 => by
    simp only [List.nodup_cons] at hn
    simp only [List.zip_cons_cons, bindL]
    cases i with
    | zero =>
      simp at h1 h2
      subst h1; subst h2
      rw [bindL_off hn.1, if_pos hk]
      simp
    | succ i =>
      simp at h1 h2
      exact bindL_at hk hn.2 h1 h2
theorem bindC_at {kd : Str → Option NameKind} {y : Str} {c : Value} (hk : kd y ≠ some .local) : ∀ {ps : List Str} {cs : List Value} {m : Str → Option Value} {i : Nat}, ps.Nodup → ps[i]? = some y → cs[i]? = some c → bindC kd (ps.zip cs) m y = some c
  | [], _, _, _, _, h, _ => by simp at h
  | p :: ps, [], _, _, _, _, h => by simp at h
  | p :: ps, d :: cs, m, i, hn, h1, h2 => by
    simp only [List.nodup_cons] at hn
    simp only [List.zip_cons_cons, bindC]
    cases i with
    | zero =>
      simp at h1 h2
      subst h1; subst h2
      rw [bindC_off hn.1, if_neg hk]
      simp
    | succ i =>
      simp at h1 h2
      exact bindC_at hk hn.2 h1 h2


section
variable {name qual : Str} {params : Arguments} {body : List Stmt} {scope : Scope} {dV kV doc pm cdv ct oc : Value} {an od : Option Addr} {osl : Array (Option Value)} {f : Addr} {ps : List Str} {g : FS}
theorem cell_at {L : Nat} {y : Str} (k : scope.names.lookup y = some .cell) : ∃ a, (cellsFrom (L + 1) scope.names []).lookup y = some a := Option.isSome_iff_exists.mp (cellsFrom_some scope.names _ [] (.inl k))
theorem defER {s s' : Shared} {φ : List Addr} {hp : Hp} {vs : List V} {cs : List Value} (D : DefOK scope ps ns) (H : HR C hp φ s) (hv : All2 (VR φ) vs cs) (hl : vs.length = ps.length)
    (x : InCallC s s.heap.objs.size (bindL (envOfC qual scope s.heap.objs.size f cdv).kindOf (ps.zip cs) fun _ => none) (envOfC qual scope s.heap.objs.size f cdv).cells (bindC (envOfC qual scope s.heap.objs.size f cdv).kindOf (ps.zip cs) fun _ => none) s')
    (fr : ∀ b ∈ ownOf (envOfC qual scope s.heap.objs.size f cdv), s.heap.get? b = none) :
    ER C (envOfC qual scope s.heap.objs.size f cdv) ns (vs.map some ++ List.replicate (ns.length - ps.length) none) φ s' := by
  have psND : ps.Nodup := by rw [D.ps]; exact D.nsND.sublist (List.take_sublist _ _)
  have cnd : ((cellsFrom (s.heap.objs.size + 1) scope.names []).map (·.1)).Nodup := cellsFrom_names scope.names 0 (s.heap.objs.size + 1) [] [] rfl ▸ D.nd
  have F : ∀ b ∈ ownOf (envOfC qual scope s.heap.objs.size f cdv), Free C b φ [] := fun b hb => H.free0 (fr b hb)
  refine ⟨⟨D.kind, rfl, rfl, List.nodup_cons.mpr ⟨fun hm => (List.mem_map.mp hm).elim fun p q => ?_, List.pairwise_map.mpr x.apart⟩, D.dbg, D.nsND, fun y hy => (D.kinds y hy).imp id fun k => ⟨k, (cell_at k).imp fun a ha => ⟨ha, (F _ (mem_own_cell (env := envOfC qual scope s.heap.objs.size f cdv) ha)).base⟩⟩, (F _ List.mem_cons_self).base, fun b hb => (F b hb).tab⟩, fun i y v h1 h2 => ?_, ⟨_, x.toInCall.ns⟩, fun y a h => ⟨_, x.cell y a h⟩, fun b hb => ⟨(F b hb).phi, ?_⟩⟩
  · exact absurd (x.above p.1 p.2 q.1) (q.2 ▸ Nat.lt_irrefl _)
  · refine (args_at D.ps hv hl h1 h2).elim fun h5 q => q.imp fun c h => ⟨h.2, (D.kinds y (List.mem_of_getElem? h1)).imp (fun k => ⟨k, _, x.toInCall.ns, bindL_at k psND h5 h.1⟩) fun k => ⟨.inl k, (cell_at k).imp fun a ha => ⟨ha, ?_⟩⟩⟩
    have := x.cell y a ha
    rw [bindC_at (kd := (envOfC qual scope s.heap.objs.size f cdv).kindOf) (y := y) (c := c) (fun q => nomatch k.symm.trans q) psND h5 h.1] at this
    exact this
  · rcases List.mem_cons.mp hb with rfl | hb
    · exact x.toInCall.ns.imp fun o h => h.elim fun _ h => h.elim fun _ h => h.1
    · exact (List.mem_map.mp hb).elim fun p q => q.2 ▸ (x.cell p.1 p.2 (lookup_of_nd cnd q.1)).imp fun o h => h.1
end
/-! names that no one writes any more -/
structure FzN (C : Cx) (env : Env) (x : Str) (v : V) : Prop where
  kind : env.kindOf x = some .cell ∨ env.kindOf x = some .free
  fun_ : env.scope.kind = .function
  cell : ∃ a, env.cells.lookup x = some a ∧ (a, v) ∈ C.fz
  dbg : (x == ("__debug__" : Str)) = false ∧ (x == ("__classdict__" : Str)) = false
theorem Ev_frz {x : Str} {v : V} {pos : Pos} (Z : FzN C env x v) : Ev C n env ns (.Name x pos) (fun _ hp => some (v, hp)) := fun A s φ ρ hp v' hp' _ R H e => by
  cases e
  refine Z.cell.elim fun a ha => (H.frz _ ha.2).elim fun c hc => wpAny_Name ?_ Z.dbg.1
  have hcell := Cell_keep (h' := s.heap) hc.2 fun o e => H.base _ _ e
  rcases Z.kind with k | k
  · exact wpAny_loadName_cell Z.fun_ k ha.1 hcell (PV.same H hc.1)
  · exact wpAny_loadName_free Z.fun_ k ha.1 hcell (PV.same H hc.1) Z.dbg.2
theorem CW.F {f : Addr} (hfn : FnAt f C.h₀) : CW C (.ref f) := fun A env pos e rest Q s x he hp h => by
  have up : ∀ {s}, (∃ φ hp, HR C hp φ s) → FnAt f s.heap := fun {s} h => h.elim fun φ h => h.elim fun hp H => hfn.imp fun oc h => h.imp fun od h => h.imp fun fd h => h.imp fun sl h => H.base _ _ h
  exact callWith_F (first := []) (up x) (wpF h fun cs s2 h => ⟨up h.1, h.2⟩) (starEach_cons he) hp
/-- a def held by such a name is called -/
theorem Ev_callZ {x : Str} {f : Addr} {p pos : Pos} {e : Expr} {rest : List Expr} {g : FVs} {F : List V → Hp → Option (V × Hp)} (Z : FzN C env x (.val (.ref f))) (hfn : FnAt f C.h₀)
    (hg : Evs C n env ns (e :: rest) g) (he : notStar e = true) (hF : Fn C n (.ref f) F) : Ev C n env ns (.Call (.Name x p) (e :: rest) [] pos) (fun ρ hp => bVs (g ρ hp) F) :=
  evCallG (P := fun v => v = .val (.ref f)) (T := fun _ => F) (Ev_frz Z) (fun _ _ _ _ e => by cases e; rfl) hg he fun v _ _ _ q _ => ⟨_, q, CW.F hfn, hF⟩

/-! a def inside a def, called -/
structure CloOK (scope : Scope) (ps ns : List Str) : Prop where
  co : scope.isCoroutine = false
  gen : scope.isGenerator = false
  kind : scope.kind = .function
  ps : ps = ns.take ps.length
  nsND : ns.Nodup
  dbg : ∀ y ∈ ns, (y == ("__debug__" : Str)) = false ∧ (y == ("__classdict__" : Str)) = false
  kinds : ∀ y ∈ ns, scope.names.lookup y = some .local
  nocell : ∀ y ∈ scope.names, y.2 ≠ .cell
theorem rev_zip_lookup : ∀ {ps : List Str} {cs : List Value} {i : Nat} {y : Str} {c : Value}, ps.Nodup → ps[i]? = some y → cs[i]? = some c → (ps.zip cs).reverse.lookup y = some c
  | [], _, _, _, _, _, h, _ => nomatch h
  | p :: ps, [], _, _, _, _, _, h => nomatch h
  | p :: ps, d :: cs, i, y, c, hn, h1, h2 => by
    have hn := List.nodup_cons.mp hn
    rw [List.zip_cons_cons, List.reverse_cons, List.lookup_append]
    cases i with
    | zero =>
      cases h1; cases h2
      have : (ps.zip cs).reverse.lookup p = none := List.lookup_eq_none_iff.mpr fun q hq => bne_iff_ne.mpr fun e : p = q.1 => hn.1 (e ▸ (List.of_mem_zip (List.mem_reverse.mp hq)).1)
      rw [this, List.lookup_cons, beq_self_eq_true]; rfl
    | succ i => rw [rev_zip_lookup hn.2 h1 h2]; rfl
end
end Mine

open PySem PySem.Calls PySem.W PySem.Spec PyProof.Rows
set_option Elab.async false
set_option autoImplicit false
set_option maxRecDepth 100000
set_option genSizeOf false
set_option genInjectivity false
set_option linter.unusedVariables false
namespace Mine
noncomputable section
variable {C : Cx} {n : Nat} {env : Env} {ns : List Str}

theorem codeAmong_app {pos q : Pos} {c cv : Value} : ∀ {l : List Value}, TriplesOk l → codeAmong q (l ++ [rawInt pos.line, rawInt pos.col, c]) = some cv → codeAmong q l = some cv ∨ cv = c
  | [], _, h => by
    simp [codeAmong, rawInt] at h
    exact .inr h.2.symm
  | .int a t :: .int b u :: x :: r, ht, h => by
    simp only [List.cons_append, codeAmong] at h ⊢
    split at h
    · rename_i hc; rw [if_pos hc]; exact .inl h
    · rename_i hc; rw [if_neg hc]; exact codeAmong_app (l := r) ht h
theorem triples_app {a b : Int} {c : Value} : ∀ {l : List Value}, TriplesOk l → TriplesOk (l ++ [rawInt a, rawInt b, c])
  | [], _ => trivial
  | .int _ _ :: .int _ _ :: _ :: r, h => triples_app (l := r) h
def fzOf (env : Env) (ns : List Str) (ρ : Rho) : List (Addr × V) := (ns.zip ρ).filterMap fun p => match env.kindOf p.1, env.cells.lookup p.1, p.2 with
  | some .cell, some a, some v => some (a, v)
  | _, _, _ => none
theorem fzOf_has {ρ : Rho} {i : Nat} {x : Str} {v : V} {a : Addr} (h1 : ns[i]? = some x) (h2 : ρ[i]? = some (some v)) (hk : env.kindOf x = some .cell) (ha : env.cells.lookup x = some a) : (a, v) ∈ fzOf env ns ρ := by
  refine List.mem_filterMap.mpr ⟨(x, some v), ?_, by dsimp only; rw [hk, ha]⟩
  refine List.mem_iff_getElem?.mpr ⟨i, ?_⟩
  rw [List.getElem?_zip_eq_some]
  exact ⟨h1, h2⟩
theorem fzOf_of {ρ : Rho} {p : Addr × V} (h : p ∈ fzOf env ns ρ) : ∃ (i : Nat) (x : Str), ns[i]? = some x ∧ ρ[i]? = some (some p.2) ∧ env.kindOf x = some .cell ∧ env.cells.lookup x = some p.1 := by
  obtain ⟨⟨x, o⟩, hm, e⟩ := List.mem_filterMap.mp h
  obtain ⟨i, hi⟩ := List.mem_iff_getElem?.mp hm
  obtain ⟨h1, h2⟩ := List.getElem?_zip_eq_some.mp hi
  dsimp only at e h1 h2
  split at e
  · rename_i e1 e2
    cases e
    exact ⟨i, x, h1, h2, e1, e2⟩
  · cases e

/-- the one context carries the other on -/
structure Same (C' C : Cx) : Prop where
  prog : C'.prog = C.prog
  w : C'.w = C.w
  K : C'.K = C.K
  tabs : C'.tabs = C.tabs
/-- what the rest knows of the def made -/
structure Made (C' : Cx) (env : Env) (ns : List Str) (ρ : Rho) (name qual : Str) (params : Arguments) (body : List Stmt) (scope : Scope) (f' c' : Addr) (doc pm ctv : Value) : Prop where
  obj : C'.h₀.get? f' = some (fnMade name qual params body scope (buildCl env.cells scope.names []) doc pm c' ctv)
  code : C'.h₀.CodeRec (.ref c') qual
  cells : ∀ x a, env.cells.lookup x = some a → ∃ v, C'.h₀.IsCell a v
  nd : (env.cells.map (·.2)).Nodup
  frz : ∀ (i : Nat) (x : Str) (v : V), ns[i]? = some x → ρ[i]? = some (some v) → env.kindOf x = some .cell → FzN C' env x v

theorem T_bmainAt {p : Program} {loose : List Str} {mean : ExcName → Option Value} {mg mb : Str → Option Value} {h₀ h : Heap} {P : Addr} {ps : Array Value} (T : Top p loose mean mg mb h₀) (base : ∀ b o, h₀.get? b = some o → h.get? b = some o) (hP : h.get? P = some (tabObj ps)) : mainGlobals ≠ P ∧ h.BuiltinsAt mg P := by
  obtain ⟨bm, ob, b1, b2, b3, b4, b5, b6⟩ := T.bmain
  have hgs := T.g.keeps base
  have hgP : mainGlobals ≠ P := fun q => by
    obtain ⟨o, es, ep, e, hd, _⟩ := hgs
    rw [q, hP] at e; cases e; cases hd
  have hbP : bm ≠ P := fun q => by
    have e := base _ _ b3
    rw [q, hP] at e; cases e; cases b4
  have hbG : bm ≠ mainGlobals := fun q => by
    obtain ⟨o, es, ep, e, hd, _⟩ := T.g
    rw [q, e] at b3; cases b3; rw [hd] at b6; cases b6
  exact ⟨hgP, bm, ob, b1, b2, hbG, hbP, base _ _ b3, b4, b5, b6⟩


theorem HR.table {hp : Hp} {φ : List Addr} {s s' : Shared} (H : HR C hp φ s) {P : Addr} (hP : P ∈ C.tabs) (hx : Heap.ExtBut P s.heap s'.heap) {ps : Array Value} (hp0 : s.heap.get? P = some (tabObj ps)) {pos : Pos} {c' : Addr} (hTr : TriplesOk ps.toList)
    (hp1 : s'.heap.get? P = some (tabObj (ps ++ #[rawInt pos.line, rawInt pos.col, .ref c']))) (hc0 : s.heap.get? c' = none) (hc : s'.heap.CodeRec (.ref c') (C.tq P)) : HR C hp φ s' := by
  have HP := H.tab P hP
  have Fc := H.free0 hc0
  have nP : ∀ Q, Q ≠ P → TabOK C φ s.heap Q → TabOK C φ s'.heap Q := fun Q hq z => z.imp fun ps' z => ⟨hx Q _ hq z.1, z.2.1, fun q cv e => (z.2.2 q cv e).imp fun c z => z.imp fun o z => ⟨z.1, z.2.1, z.2.2.1, hx c o (fun q => z.2.2.1 (q ▸ hP)) z.2.2.2.1, z.2.2.2.2⟩⟩
  refine ⟨H.len, fun i o a h1 h2 => (H.obj i o a h1 h2).imp fun ob h => ⟨hx a ob (fun q => HP.1 (q ▸ List.mem_of_getElem? h2)) h.1, h.2⟩, H.nodup, fun b o e => hx b o (dead_ne e HP.2.1) (H.base b o e), H.fresh, fun Q hQ => ⟨(H.tab Q hQ).1, (H.tab Q hQ).2.1, ?_⟩, H.frz⟩
  by_cases hq : Q = P
  · subst hq
    obtain ⟨ps', z1, z2, z3⟩ := HP.2.2
    cases hp0.symm.trans z1
    refine ⟨_, hp1, by rw [Array.toList_append]; exact triples_app hTr, fun q cv e => ?_⟩
    rw [Array.toList_append] at e
    rcases codeAmong_app hTr e with e | rfl
    · exact (z3 q cv e).imp fun c z => z.imp fun o z => ⟨z.1, z.2.1, z.2.2.1, hx c o (fun q => z.2.2.1 (q ▸ hQ)) z.2.2.2.1, z.2.2.2.2⟩
    · obtain ⟨c, o, vs, t, e1, e2, e3, e4⟩ := hc
      cases e1
      exact ⟨c', o, rfl, Fc.phi, Fc.tab, e2, vs, t, e3, e4⟩
  · exact nP Q hq (H.tab Q hQ).2.2

/-- the context of what stands behind a def -/
def cxOf (C : Cx) (env : Env) (ns : List Str) (ρ : Rho) (h : Heap) (X : C.K.In h) (T : Top C.p C.loose C.mean C.mg C.mb h) : Cx := { C with h₀ := h, X := X, T := T, fz := fzOf env ns ρ }

end
end Mine

open PySem PySem.Calls PySem.W PySem.Spec PyProof.Rows
set_option Elab.async false
set_option autoImplicit false
set_option maxRecDepth 100000
set_option genSizeOf false
set_option genInjectivity false
set_option linter.unusedVariables false
namespace Mine
noncomputable section
variable {C : Cx} {n : Nat} {env : Env} {ns : List Str}
/-! a display of a table: numbers name defs -/
inductive DG (C : Cx) (env : Env) : List (Option Expr) → List Expr → List (Int × Addr) → Prop
  | nil : DG C env [] [] []
  | cons {i : Int} {k : Nat} {p px : Pos} {x : Str} {a : Addr} {keys : List (Option Expr)} {vals : List Expr} {es : List (Int × Addr)} : TopN C env x → nsIn C.K mainGlobals x = some (some (.ref a)) → DG C env keys vals es → DG C env (some (.Constant (.int i) k p) :: keys) (.Name x px :: vals) ((i, a) :: es)
abbrev dgV (es : List (Int × Addr)) : List (Int × V) := es.map fun p => (p.1, .val (.ref p.2))
theorem DG.shape {keys : List (Option Expr)} {vals : List Expr} {es : List (Int × Addr)} (h : DG C env keys vals es) : keys.all (·.isSome) = true ∧ keys.length = vals.length ∧ keys.length = es.length := by
  induction h with
  | nil => exact ⟨rfl, rfl, rfl⟩
  | cons _ _ _ ih => obtain ⟨h1, h2, h3⟩ := ih; exact ⟨by simpa using h1, by simp [h2], by simp [h3]⟩
theorem evalDG {A : Around} {ρ : Rho} {φ : List Addr} {hp : Hp} (hr : Room A n) {pos : Pos} {keys : List (Option Expr)} {vals : List Expr} {es : List (Int × Addr)} (h : DG C env keys vals es) : ∀ {s : Shared}, ER C env ns ρ φ s → HR C hp φ s →
    wpAny (model C.prog C.w) A (evalPairs (pairTrees keys vals env pos)) (fun vs s' => ∃ tk, s' = { s with toks := tk } ∧ Carries (intKind C.prog C.w) vs (es.map fun p => (p.1, Value.ref p.2))) noE s := by
  induction h with
  | nil => intro s _ _; exact evalPairs_nil ⟨s.toks, rfl, trivial⟩
  | @cons i k p px x a keys vals es hn hc _ ih =>
    intro s R H
    refine evalPairs_cons (wpAny_Constant_int ?_)
    have R1 : ER C env ns ρ φ { s with toks := s.toks + 1 } := R.step0 (Step.tok _)
    refine wpAny_bind (Name_function_global R.st.kind hn.kind (loadGlobal_global (mg := C.mg) ?_ (mg_of C.X C.T.g hc) (wpAny_bind (wpAny_standAt (wpAny_pure ?_)))) hn.dbg)
    · rw [R.st.glob]; exact C.T.g.keeps H.base
    · exact wpF (ih R1 (H.heap fun _ _ e => e)) fun vs s' ⟨tk, h1, hcar⟩ => ⟨tk, h1, intKind_is _ _ _ _, rfl, hcar⟩
theorem merged_nd {α : Type} [DecidableEq α] : ∀ {kvs acc : List (α × Value)}, ((acc ++ kvs).map (·.1)).Nodup → merged acc kvs = acc ++ kvs
  | [], acc, _ => by simp [merged]
  | (k, v) :: r, acc, h => by
    have hk : acc.any (fun kv => decide (kv.1 = k)) = false := by
      rw [List.any_eq_false]
      intro q hq e
      simp only [List.map_append, List.map_cons, List.nodup_append] at h
      exact h.2.2 q.1 (List.mem_map.mpr ⟨q, hq, rfl⟩) k (by simp) (of_decide_eq_true e)
    have hs : stored acc k v = acc ++ [(k, v)] := by unfold stored; rw [hk]; rfl
    have := merged_nd (kvs := r) (acc := acc ++ [(k, v)]) (by simpa using h)
    unfold merged at this ⊢
    rw [List.foldl_cons]
    dsimp only
    rw [hs, this]; simp
theorem pairs_dg {φ : List Addr} {prog : Program} {w : World} : ∀ {es : List (Int × Addr)} {l : List DictEntry}, Pairs (intKind prog w) l (es.map fun p => (p.1, Value.ref p.2)) → All2 (fun (e : Int × V) (c : DictEntry) => (∃ t, c.key = .int e.1 t) ∧ VR φ e.2 c.val) (dgV es) l
  | [], _, .nil => .nil
  | p :: es, _, .cons h1 h2 h3 => .cons ⟨Value.isInt_shape h1, h2⟩ (pairs_dg h3)
theorem Ev_dictG {keys : List (Option Expr)} {vals : List Expr} {pos : Pos} {es : List (Int × Addr)} (D : DG C env keys vals es) (h0 : es ≠ []) (hlen : es.length ≤ 15) (nd : (es.map (·.1)).Nodup) :
    Ev C n env ns (.Dict keys vals pos) (fun _ hp => some (.ref hp.length, hp ++ [.dict (dgV es)])) := fun A s φ ρ hp v hp' hr R H e => by
  cases e
  obtain ⟨d1, d2, d3⟩ := D.shape
  have hl := pairTrees_length keys vals env pos d1 d2
  have hnd : (es.map fun p => (p.1, Value.ref p.2)).map (·.1) = es.map (·.1) := List.map_map ..
  refine wpAny_Dict_pairs (knd := intKind C.prog C.w) (zip_pairTrees keys vals env pos d1 d2) (fun q => h0 (List.eq_nil_of_length_eq_zero (by rw [← d3, ← hl, q]; rfl))) (by rw [hl, d3]; exact hlen) ?_
  have up : ∀ b o, s.heap.get? b = some o → (s.heap.push { cls := .type "dict", data := .dict #[] }).get? b = some o := fun b o e => Heap.get?_push_of_some _ e
  refine wpF (evalDG hr D (R.step0 (s' := { s with heap := s.heap.push { cls := .type "dict", data := .dict #[] } }) (Step.keeps ⟨_, _, rfl⟩ up)) (H.heap up)) fun vs s' ⟨tk, hs', hcar⟩ => ?_
  subst hs'
  refine ⟨_, hcar, ⟨_, #[], 0, Heap.get?_push_size _ rfl, ⟨rfl, rfl, rfl⟩, rfl, fun _ he => by simp at he, .nil, by simp⟩, fun h' hd hs => ?_⟩
  rw [merged_nd (by rw [List.nil_append, hnd]; exact nd)] at hd
  obtain ⟨o, ces, ep, ho, x1, x2, x3, x4, x5⟩ := hd
  refine PV.add (s' := { s with heap := h', toks := tk + vs.length }) H ⟨_, _, rfl⟩ (fun b o e => (hs.2 b (size_ne e)).trans (up b o e)) (get_size _) ho ⟨ces, ep, x1, x2, fun c hc => (x3 c hc).elim fun k h => (Value.isInt_shape h.1).elim fun t h3 => ⟨k, t, h3, h.2⟩, pairs_dg x4, ?_⟩
  rw [show (dgV es).map (·.1) = es.map (·.1) from List.map_map ..]; exact nd
end
end Mine

open PySem PySem.Calls PySem.W PySem.Spec PyProof.Rows
set_option Elab.async false
set_option autoImplicit false
set_option maxRecDepth 100000
set_option genSizeOf false
set_option genInjectivity false
set_option linter.unusedVariables false
namespace Mine
noncomputable section
variable {C : Cx} {n : Nat} {env : Env} {ns : List Str}

/-- a step that may forget what stood in the ledger -/
structure Stp (C : Cx) (φ own : List Addr) (s : Shared) (φ' : List Addr) (s' : Shared) : Prop where
  new : ∀ b ∈ φ', b ∈ φ ∨ s.heap.get? b = none
  live : ∀ b o, s.heap.get? b = some o → ∃ o', s'.heap.get? b = some o'
  keep : ∀ b o, b ∉ φ → b ∉ own → b ∉ C.tabs → s.heap.get? b = some o → s'.heap.get? b = some o
  same : ∃ h' tk', s' = { s with heap := h', toks := tk' }
section
variable {φ φ' φ'' own own' : List Addr} {s s' s'' : Shared}
theorem Step.stp (h : Step C φ own s φ' s') : Stp C φ own s φ' s' :=
  ⟨fun b hb => h.ext.elim fun ψ q => (List.mem_append.mp (q.1 ▸ hb)).imp id (q.2 b), h.live, h.keep, h.same⟩
theorem Stp.notin (h : Stp C φ own s φ' s') {b : Addr} {o : Obj} (e : s.heap.get? b = some o) (hn : b ∉ φ) : b ∉ φ' := fun hm => (h.new b hm).elim hn fun q => nomatch e.symm.trans q
theorem Stp.trans (h : Stp C φ own s φ' s') (h' : Stp C φ' own s' φ'' s'') : Stp C φ own s φ'' s'' where
  new b hb := (h'.new b hb).elim (h.new b) fun q => .inr (dead_up h.live q)
  live b o e := (h.live b o e).elim fun o' e' => h'.live b o' e'
  keep b o n1 n2 n3 e := h'.keep b o (h.notin e n1) n2 n3 (h.keep b o n1 n2 n3 e)
  same := by obtain ⟨h1, t1, rfl⟩ := h.same; obtain ⟨h2, t2, rfl⟩ := h'.same; exact ⟨h2, t2, rfl⟩
theorem Stp.drop (h : Stp C φ own s φ' s') (hs : ∀ b ∈ own, b ∈ own' ∨ s.heap.get? b = none) : Stp C φ own' s φ' s' :=
  ⟨h.new, h.live, fun b o n1 n2 n3 e => h.keep b o n1 (fun hm => (hs b hm).elim n2 fun q => nomatch e.symm.trans q) n3 e, h.same⟩
theorem Stp.weak (h : Stp C φ own s φ' s') (hs : ∀ b ∈ own, b ∈ own') : Stp C φ own' s φ' s' := h.drop fun b hb => .inl (hs b hb)
/-- the iterator of the end is gone -/
theorem Stp.ends {fp : List Addr} (S : Stp C φ (fp ++ own) s φ' s') (hs : ∀ b o, b ∉ fp → s'.heap.get? b = some o → s''.heap.get? b = some o) (same : ∃ h' tk', s'' = { s' with heap := h', toks := tk' }) (hI : ∀ b ∈ fp, s.heap.get? b = none) : Stp C φ own s φ' s'' where
  new := S.new
  live b o e := (S.live b o e).elim fun o' e' => ⟨o', hs b o' (fun q => nomatch e.symm.trans (hI b q)) e'⟩
  keep b o n1 n2 n3 e := hs b o (fun q => nomatch e.symm.trans (hI b q)) (S.keep b o n1 (fun hm => (List.mem_append.mp hm).elim (fun q => nomatch e.symm.trans (hI b q)) n2) n3 e)
  same := by obtain ⟨h1, t1, rfl⟩ := S.same; obtain ⟨h2, t2, rfl⟩ := same; exact ⟨_, _, rfl⟩
end
/-- where statements stand; the first w of the ledger are pinned -/
structure Aw (C : Cx) (env : Env) (ns : List Str) (ρ : Rho) (w : Nat) (φ₀ own : List Addr) (s₀ : Shared) (φ : List Addr) (hp : Hp) (s : Shared) : Prop where
  S : Stp C φ₀ own s₀ φ s
  P : φ.take w = φ₀.take w
  R : ER C env ns ρ φ s
  H : HR C hp φ s
def PT (C : Cx) (env : Env) (ns : List Str) (w : Nat) (φ : List Addr) (s : Shared) (fl : Fl) (ρ' : Rho) (hp' : Hp) : Flow → Shared → Prop := fun c s' => ∃ φ', Aw C env ns ρ' w φ (ownOf env) s φ' hp' s' ∧ FR φ' fl c
def Tri1 (C : Cx) (n : Nat) (env : Env) (ns : List Str) (w : Nat) (st : Stmt) (ρ : Rho) (hp : Hp) (fl : Fl) (ρ' : Rho) (hp' : Hp) : Prop :=
  ∀ A s φ, Room A n → ER C env ns ρ φ s → HR C hp φ s → wpAny (model C.prog C.w) A (exec st env) (PT C env ns w φ s fl ρ' hp') noE s
def Tri (C : Cx) (n : Nat) (env : Env) (ns : List Str) (w : Nat) (sts : List Stmt) (ρ : Rho) (hp : Hp) (fl : Fl) (ρ' : Rho) (hp' : Hp) : Prop :=
  ∀ A s φ, Room A n → ER C env ns ρ φ s → HR C hp φ s → wpAny (model C.prog C.w) A (execs sts env) (PT C env ns w φ s fl ρ' hp') noE s
section
variable {w w' : Nat} {ρ ρ₁ ρ' : Rho} {φ₀ φ₁ φ own : List Addr} {s₀ s₁ s : Shared} {hp hp₁ hp' : Hp} {fl : Fl} {A : Around}
theorem take_le {a b : List Addr} (h : a.take w' = b.take w') (hw : w ≤ w') : a.take w = b.take w := by
  have e : ∀ l : List Addr, l.take w = (l.take w').take w := fun l => by rw [List.take_take, Nat.min_eq_left hw]
  rw [e a, e b, h]
theorem Aw.comp (X : Aw C env ns ρ₁ w φ₀ own s₀ φ₁ hp₁ s₁) (Y : Aw C env ns ρ w' φ₁ own s₁ φ hp s) (hw : w ≤ w') : Aw C env ns ρ w φ₀ own s₀ φ hp s :=
  ⟨X.S.trans Y.S, (take_le Y.P hw).trans X.P, Y.R, Y.H⟩
theorem At.aw (X : At C env ns ρ φ₀ own s₀ φ hp s) (hw : w ≤ φ₀.length) : Aw C env ns ρ w φ₀ own s₀ φ hp s :=
  ⟨X.S.stp, X.S.ext.elim fun ψ q => by rw [q.1, List.take_append_of_le_length hw], X.R, X.H⟩
theorem pin {a : Addr} {k : Nat} (X : Aw C env ns ρ w φ₀ own s₀ φ hp s) (hk : k < w) (h : φ₀[k]? = some a) : φ[k]? = some a := by
  have e : ∀ l : List Addr, l[k]? = (l.take w)[k]? := fun l => by rw [List.getElem?_take, if_pos hk]
  rw [e, X.P, ← e]; exact h
theorem ptS {t : Sem Flow} {E : Value → Shared → Prop} (X : Aw C env ns ρ₁ w φ₀ (ownOf env) s₀ φ₁ hp₁ s₁) (hw : w ≤ w') (h : wpAny (model C.prog C.w) A t (PT C env ns w' φ₁ s₁ fl ρ' hp') noE s₁) : wpAny (model C.prog C.w) A t (PT C env ns w φ₀ s₀ fl ρ' hp') E s₁ :=
  wpF h fun _ _ ⟨φ', Y, r⟩ => ⟨φ', X.comp Y hw, r⟩
theorem T_ex {st : Stmt} {f : FS} (h : Ex C n env ns st f) (e : f ρ hp = some (fl, ρ', hp')) (hw : w ≤ hp.length) : Tri1 C n env ns w st ρ hp fl ρ' hp' := fun A s φ hr R H =>
  wpF (h A s φ ρ hp fl ρ' hp' hr R H e) fun _ _ ⟨φ', X, r⟩ => ⟨φ', X.aw (H.len ▸ hw), r⟩
theorem T_cons {st : Stmt} {rest : List Stmt} (h1 : Tri1 C n env ns w st ρ hp .next ρ₁ hp₁) (h2 : Tri C n env ns w rest ρ₁ hp₁ fl ρ' hp') : Tri C n env ns w (st :: rest) ρ hp fl ρ' hp' := fun A s φ hr R H =>
  wpAny_execs_cons (wpF (h1 A s φ hr R H) fun _ s1 ⟨φ1, X, r⟩ => by cases r; exact ptS X (Nat.le_refl _) (h2 A s1 φ1 hr X.R X.H))
theorem T_consR {st : Stmt} {rest : List Stmt} {v : V} (h1 : Tri1 C n env ns w st ρ hp (.ret v) ρ' hp') : Tri C n env ns w (st :: rest) ρ hp (.ret v) ρ' hp' := fun A s φ hr R H =>
  wpAny_execs_cons (wpF (h1 A s φ hr R H) fun _ s1 ⟨φ1, X, r⟩ => r.elim fun cv r => by cases r.1; exact ⟨φ1, X, cv, rfl, r.2⟩)
theorem T_nil : Tri C n env ns w [] ρ hp .next ρ hp := fun A s φ hr R H => wpAny_execs_nil ⟨φ, ⟨Step.refl.stp, rfl, R, H⟩, rfl⟩
theorem T_if {test : Expr} {body orelse : List Stmt} {pos : Pos} {t : FB} {b : Bool} (ht : Tr C n env ns test t) (e : t ρ hp = some (b, hp₁)) (hw : w ≤ hp.length) (h1 : b = true → Tri C n env ns w body ρ hp₁ fl ρ' hp') (h2 : b = false → Tri C n env ns w orelse ρ hp₁ fl ρ' hp') : Tri1 C n env ns w (.If test body orelse pos) ρ hp fl ρ' hp' := fun A s φ hr R H =>
  wpAny_If (evB ht hr (.start (own := ownOf env) R H) (k := fun b' hp' => if b' = b then some hp' else none) (r := hp₁) (by rw [e]; exact if_pos rfl) fun b' s1 φ1 hp1 X1 _ e1 => by
    have X := X1.aw (H.len ▸ hw)
    split at e1
    · rename_i q
      cases e1; subst q
      cases b' with
      | true => exact ptS X (Nat.le_refl _) (h1 rfl A s1 φ1 hr X.R X.H)
      | false => exact ptS X (Nat.le_refl _) (h2 rfl A s1 φ1 hr X.R X.H)
    · cases e1)
end
/-! what is left standing is named anew -/
theorem HR.view {φ φ' : List Addr} {hp hp' : Hp} {s : Shared} (H : HR C hp φ s) (hl : φ'.length = hp'.length) (nd : φ'.Nodup) (sub : ∀ b ∈ φ', b ∈ φ)
    (ho : ∀ (m : Nat) (o : O) (a : Addr), hp'[m]? = some o → φ'[m]? = some a → ∃ (i : Nat) (o' : O), hp[i]? = some o' ∧ φ[i]? = some a ∧ ∀ ob, OR φ o' ob → OR φ' o ob) (hz : ∀ p ∈ C.fz, ∀ c, VR φ p.2 c → VR φ' p.2 c) : HR C hp' φ' s where
  len := hl
  obj m o a h1 h2 := (ho m o a h1 h2).elim fun i q => q.elim fun o' q => (H.obj i o' a q.1 q.2.1).imp fun ob h => ⟨h.1, q.2.2 ob h.2⟩
  nodup := nd
  base := H.base
  fresh a ha := H.fresh a (sub a ha)
  tab P hP := ⟨fun hm => (H.tab P hP).1 (sub P hm), (H.tab P hP).2.1, (H.tab P hP).2.2.imp fun ps h => ⟨h.1, h.2.1, fun pos cv e => (h.2.2 pos cv e).imp fun c x => x.imp fun o x => ⟨x.1, fun hm => x.2.1 (sub c hm), x.2.2⟩⟩⟩
  frz p hp := (H.frz p hp).imp fun c h => ⟨hz p hp c h.1, h.2⟩
theorem ER.view {φ φ' : List Addr} {ρ ρ' : Rho} {s : Shared} (R : ER C env ns ρ φ s) (sub : ∀ b ∈ φ', b ∈ φ) (hv : ∀ (i : Nat) (v : V), ρ'[i]? = some (some v) → ∃ v', ρ[i]? = some (some v') ∧ ∀ c, VR φ v' c → VR φ' v c) : ER C env ns ρ' φ' s where
  st := R.st
  var i x v h1 h2 := (hv i v h2).elim fun v' q => (R.var i x v' h1 q.1).imp fun c h => ⟨q.2 c h.1, h.2⟩
  loc := R.loc
  cel := R.cel
  out b hb := ⟨fun hm => (R.out b hb).1 (sub b hm), (R.out b hb).2⟩
def V.ren (ix : List Nat) (v : V) : Option V := match v with
  | .ref m => ix[m]?.map V.ref
  | v => some v
def mapO {α β : Type} (f : α → Option β) : List α → Option (List β)
  | [] => some []
  | v :: r => (f v).bind fun a => (mapO f r).map (a :: ·)
def O.ren (ix : List Nat) (o : O) : Option O := match o with
  | .list vs => (mapO (V.ren ix) vs).map O.list
  | .tuple vs => (mapO (V.ren ix) vs).map O.tuple
  | .range m => some (.range m)
  | .dict es => (mapO (fun e => (e.2.ren ix).map fun v => (e.1, v)) es).map O.dict
theorem mapO_all {α β : Type} {f : α → Option β} : ∀ {as : List α} {bs : List β}, mapO f as = some bs → All2 (fun a b => f a = some b) as bs
  | [], _, e => by cases e; exact .nil
  | a :: r, _, e => (Option.bind_eq_some_iff.mp e).elim fun b q => (Option.map_eq_some_iff.mp q.2).elim fun bs y => by cases y.2; exact .cons q.1 (mapO_all y.1)
theorem All2.comp {α β γ : Type} {R : α → β → Prop} {S : β → γ → Prop} {T : α → γ → Prop} (h : ∀ a b c, R a b → S b c → T a c) {as : List α} {bs : List β} {cs : List γ} (h1 : All2 R as bs) : All2 S bs cs → All2 T as cs := by
  induction h1 generalizing cs with
  | nil => intro h2; cases h2; exact .nil
  | cons a _ ih => intro h2; cases h2 with
    | cons b r => exact .cons (h _ _ _ a b) (ih r)
/-- the new ledger out of the old one -/
abbrev pickA (ix : List Nat) (φ : List Addr) : List Addr := ix.map fun i => φ.getD i 0
theorem pickA_at {ix : List Nat} {φ : List Addr} {m i : Nat} {a : Addr} (h : ix[m]? = some i) (ha : φ[i]? = some a) : (pickA ix φ)[m]? = some a := by
  rw [List.getElem?_map, h, Option.map_some, List.getD_eq_getElem?_getD, ha]; rfl
theorem V.ren_ok {ix : List Nat} {φ : List Addr} {v v' : V} {c : Value} (e : v.ren ix = some v') (h : VR φ v' c) : VR (pickA ix φ) v c := by
  cases v with
  | ref m =>
    refine (Option.map_eq_some_iff.mp e).elim fun i q => ?_
    cases q.2
    exact h.imp fun a h => ⟨pickA_at q.1 h.1, h.2⟩
  | _ => cases e; exact h
theorem O.ren_ok {ix : List Nat} {φ : List Addr} {o o' : O} {ob : Obj} (e : o.ren ix = some o') (h : OR φ o' ob) : OR (pickA ix φ) o ob := by
  cases o with
  | list vs =>
    refine (Option.map_eq_some_iff.mp e).elim fun vs' q => ?_
    cases q.2
    exact h.imp fun cs h => h.imp fun n h => ⟨(mapO_all q.1).comp (S := VR φ) (T := VR (pickA ix φ)) (fun a b c e h => V.ren_ok e h) h.1, h.2⟩
  | tuple vs =>
    refine (Option.map_eq_some_iff.mp e).elim fun vs' q => ?_
    cases q.2
    exact h.imp fun cs h => h.imp fun n h => ⟨(mapO_all q.1).comp (S := VR φ) (T := VR (pickA ix φ)) (fun a b c e h => V.ren_ok e h) h.1, h.2⟩
  | range m => cases e; exact h
  | dict es =>
    refine (Option.map_eq_some_iff.mp e).elim fun es' q => ?_
    cases q.2
    have hk := mapO_all q.1
    have hkeys : ∀ {as bs : List (Int × V)}, All2 (fun e e' => (e.2.ren ix).map (fun v => (e.1, v)) = some e') as bs → as.map (·.1) = bs.map (·.1) := fun {as bs} h => by
      induction h with
      | nil => rfl
      | cons h _ ih => exact (Option.map_eq_some_iff.mp h).elim fun v y => by rw [List.map_cons, List.map_cons, ih, ← y.2]
    exact h.imp fun cs h => h.imp fun n h => ⟨h.1, h.2.1, h.2.2.1, hk.comp (fun a b c e h => (Option.map_eq_some_iff.mp e).elim fun v y => by cases y.2; exact ⟨h.1, V.ren_ok y.1 h.2⟩) h.2.2.2.1, hkeys hk ▸ h.2.2.2.2⟩
def pickH (ix : List Nat) (hp : Hp) : Option Hp := mapO (fun i => hp[i]?) ix
def renH (ix : List Nat) (hp : Hp) : Option Hp := mapO (O.ren ix) hp
def renR (ix : List Nat) (ρ : Rho) : Option Rho := mapO (fun x => match x with | none => some none | some v => (V.ren ix v).map some) ρ
def pickR : Rho → Rho → Rho
  | none :: r, _ :: r' => none :: pickR r r'
  | some _ :: r, b :: r' => b :: pickR r r'
  | _, _ => []
theorem All2.at {α β : Type} {R : α → β → Prop} {as : List α} {bs : List β} (h : All2 R as bs) {i : Nat} {b : β} (e : bs[i]? = some b) : ∃ a, as[i]? = some a ∧ R a b := by
  cases q : as[i]? with
  | none => exact absurd (List.getElem?_eq_some_iff.mp e).1 (by rw [← h.length]; exact Nat.not_lt.mpr (List.getElem?_eq_none_iff.mp q))
  | some a => exact (h.get q).elim fun b' y => ⟨a, rfl, by cases e.symm.trans y.1; exact y.2⟩
theorem pickA_bound {ix : List Nat} {hp hp' : Hp} {φ : List Addr} (hl : φ.length = hp.length) (e : pickH ix hp = some hp') : ∀ i ∈ ix, ∃ a, φ[i]? = some a := fun i hi =>
  (List.mem_iff_getElem?.mp hi).elim fun m q => ((mapO_all e).get q).elim fun o y => ⟨_, List.getElem?_eq_getElem (hl ▸ (List.getElem?_eq_some_iff.mp y.2).1)⟩
theorem pickA_nd {ix : List Nat} {φ : List Addr} (nd : ix.Nodup) (hφ : φ.Nodup) (hb : ∀ i ∈ ix, ∃ a, φ[i]? = some a) : (pickA ix φ).Nodup := by
  induction ix with
  | nil => exact List.nodup_nil
  | cons i r ih =>
    have nd := List.nodup_cons.mp nd
    refine List.nodup_cons.mpr ⟨fun hm => (List.mem_map.mp hm).elim fun j q => ?_, ih nd.2 fun j hj => hb j (List.mem_cons_of_mem _ hj)⟩
    obtain ⟨a, ha⟩ := hb i List.mem_cons_self
    obtain ⟨b, hb⟩ := hb j (List.mem_cons_of_mem _ q.1)
    have e : φ.getD j 0 = φ.getD i 0 := q.2
    rw [List.getD_eq_getElem?_getD, List.getD_eq_getElem?_getD, ha, hb] at e
    have e : b = a := e
    exact nd.1 ((List.getElem?_inj (List.getElem?_eq_some_iff.mp ha).1 hφ).mp (ha.trans (e ▸ hb.symm)) ▸ q.1)
theorem pickA_sub {ix : List Nat} {φ : List Addr} (hb : ∀ i ∈ ix, ∃ a, φ[i]? = some a) : ∀ b ∈ pickA ix φ, b ∈ φ := fun b hm => (List.mem_map.mp hm).elim fun i q => (hb i q.1).elim fun a ha => by
  have e := q.2
  rw [List.getD_eq_getElem?_getD, ha] at e
  exact e ▸ List.mem_of_getElem? ha
section
variable {w w' : Nat} {ρ ρ₁ ρ' ρ'' : Rho} {φ₀ φ₁ φ own : List Addr} {s₀ s₁ s : Shared} {hp hp₁ hp' hp'' : Hp} {fl : Fl} {A : Around}
def RenO (ix : List Nat) (o o' : O) : Prop := ∀ φ ob, OR φ o' ob → OR (pickA ix φ) o ob
theorem Aw.norm {q : Hp} (X : Aw C env ns ρ' w φ₀ own s₀ φ hp' s) (hz : C.fz = []) (ix : List Nat) (nd : ix.Nodup) (hp : pickH ix hp' = some q) (a2 : All2 (RenO ix) hp'' q) (e3 : renR ix ρ'' = some (pickR ρ'' ρ')) (hw : ix.take w = List.range w) : Aw C env ns ρ'' w φ₀ own s₀ (pickA ix φ) hp'' s := by
  have hb := pickA_bound X.H.len hp
  have a1 := mapO_all hp
  refine ⟨⟨fun b hm => X.S.new b (pickA_sub hb b hm), X.S.live, X.S.keep, X.S.same⟩, ?_, X.R.view (pickA_sub hb) fun i v h => ?_, X.H.view ?_ (pickA_nd nd X.H.nodup hb) (pickA_sub hb) (fun m o a h1 h2 => ?_) fun p hp => ?_⟩
  · rw [← X.P, ← List.map_take, hw]
    apply List.ext_getElem?
    intro m
    rw [List.getElem?_map, List.getElem?_take]
    by_cases hm : m < w
    · rw [List.getElem?_range hm, if_pos hm, Option.map_some, List.getD_eq_getElem?_getD]
      have : m ∈ ix := List.mem_of_mem_take (hw ▸ List.mem_range.mpr hm)
      exact (hb m this).elim fun a ha => by rw [ha]; rfl
    · rw [if_neg hm, List.getElem?_eq_none_iff.mpr (by rw [List.length_range]; exact Nat.le_of_not_lt hm)]; rfl
  · have a3 := mapO_all e3
    refine (a3.get h).elim fun v' y => ?_
    refine (Option.map_eq_some_iff.mp y.2).elim fun u z => ⟨u, ?_, fun c h => V.ren_ok z.1 h⟩
    have : ∀ {r r' : Rho} {i : Nat} {u : V}, r[i]? = some (some v) → (pickR r r')[i]? = some (some u) → r'[i]? = some (some u) := by
      intro r
      induction r with
      | nil => intro r' i u h; cases h
      | cons x r ih =>
        intro r' i u h1 h2
        cases r' with
        | nil => cases x <;> cases h2
        | cons b r' =>
          cases i with
          | zero => cases h1; exact h2
          | succ i => cases x <;> exact List.getElem?_cons_succ.trans (ih (List.getElem?_cons_succ.symm.trans h1) (List.getElem?_cons_succ.symm.trans h2))
    exact this h (y.1.trans (congrArg some z.2.symm))
  · rw [List.length_map, a1.length, a2.length]
  · obtain ⟨o', h3, h4⟩ := a2.get h1
    obtain ⟨i, h5, h6⟩ := a1.at h3
    obtain ⟨b, hb'⟩ := hb i (List.mem_of_getElem? h5)
    have := (pickA_at h5 hb').symm.trans h2
    cases this
    exact ⟨i, o', h6, hb', fun ob h => h4 φ ob h⟩
  · rw [hz] at hp; cases hp
def FlatO (o : O) : Prop := ∀ φ φ' ob, OR φ o ob → OR φ' o ob
def AllF : Hp → Prop
  | [] => True
  | o :: r => FlatO o ∧ AllF r
theorem AllF.ren {ix : List Nat} : ∀ {hp : Hp}, AllF hp → All2 (RenO ix) hp hp
  | [], _ => .nil
  | o :: r, h => .cons (fun φ ob => h.1 φ _ ob) (AllF.ren h.2)
theorem AllF.mem : ∀ {hp : Hp}, AllF hp → ∀ o ∈ hp, FlatO o
  | o :: r, h, o', hm => (List.mem_cons.mp hm).elim (fun q => q ▸ h.1) (AllF.mem h.2 o')
theorem T_norm {sts : List Stmt} (h : Tri C n env ns w sts ρ hp .next ρ' hp') (hz : C.fz = []) (ix : List Nat) (nd : ix.Nodup) (e1 : pickH ix hp' = some hp'') (hf : AllF hp'') (e3 : renR ix ρ'' = some (pickR ρ'' ρ')) (hw : ix.take w = List.range w) : Tri C n env ns w sts ρ hp .next ρ'' hp'' := fun A s φ hr R H =>
  wpF (h A s φ hr R H) fun _ _ ⟨φ', X, r⟩ => ⟨_, X.norm hz ix nd e1 hf.ren e3 hw, r⟩
theorem T_normR {sts : List Stmt} {q : Hp} (h : Tri C n env ns w sts ρ hp .next ρ' hp') (hz : C.fz = []) (ix : List Nat) (nd : ix.Nodup) (e1 : pickH ix hp' = some q) (hf : All2 (RenO ix) hp'' q) (e3 : renR ix ρ'' = some (pickR ρ'' ρ')) (hw : ix.take w = List.range w) : Tri C n env ns w sts ρ hp .next ρ'' hp'' := fun A s φ hr R H =>
  wpF (h A s φ hr R H) fun _ _ ⟨φ', X, r⟩ => ⟨_, X.norm hz ix nd e1 hf e3 hw, r⟩
end
end
end Mine

open PySem PySem.Calls PySem.W PySem.Spec PyProof.Rows
set_option Elab.async false
set_option autoImplicit false
set_option maxRecDepth 100000
set_option genSizeOf false
set_option genInjectivity false
set_option linter.unusedVariables false
namespace Mine
noncomputable section
variable {C : Cx} {n : Nat} {env : Env} {ns : List Str}

/-! loops -/
/-- the turns of a loop over what is drawn -/
def FoR (it : Hp → Nat → Option (Option V)) (up : Nat → V → Rho → Rho) (B : Nat → Rho → Hp → Rho → Hp → Prop) : Nat → Nat → Rho → Hp → Rho → Hp → Prop
  | 0, j, ρ, hp, ρ', hp' => it hp j = some none ∧ ρ' = ρ ∧ hp' = hp
  | m + 1, j, ρ, hp, ρ', hp' => ∃ v ρ1 hp1, it hp j = some (some v) ∧ B j (up j v ρ) hp ρ1 hp1 ∧ FoR it up B m (j + 1) ρ1 hp1 ρ' hp'
/-- where a loop stands: fp is the iterator's own -/
structure Lw (C : Cx) (env : Env) (ns : List Str) (w : Nat) (φ₀ : List Addr) (s₀ : Shared) (fp : List Addr) (St : Nat → Heap → Prop) (j : Nat) (ρ : Rho) (φ : List Addr) (hp : Hp) (s : Shared) : Prop where
  X : Aw C env ns ρ w φ₀ (fp ++ ownOf env) s₀ φ hp s
  F : ∀ b ∈ fp, Free C b φ (ownOf env)
  st : St j s.heap
section
variable {w w' : Nat} {φ₀ : List Addr} {s₀ : Shared} {fp : List Addr} {St : Nat → Heap → Prop} {j k : Nat} {ρ ρ' : Rho} {φ : List Addr} {hp hp' : Hp} {s : Shared} {A : Around}
theorem Lw.body (L : Lw C env ns w φ₀ s₀ fp St j ρ φ hp s) (hS : StOK fp St) {φ' : List Addr} {s' : Shared} (Y : Aw C env ns ρ' w φ (ownOf env) s φ' hp' s') : Lw C env ns w φ₀ s₀ fp St j ρ' φ' hp' s' where
  X := ⟨L.X.S.trans (Y.S.weak fun b hb => List.mem_append_right _ hb), Y.P.trans L.X.P, Y.R, Y.H⟩
  F b hb := (hS.obj _ _ L.st b hb).elim fun o q => ⟨Y.S.notin q.1 (L.F b hb).phi, (L.F b hb).own, (L.F b hb).tab, (L.F b hb).base⟩
  st := hS.keep _ _ _ L.st fun b hb o e => Y.S.keep b o (L.F b hb).phi (L.F b hb).own (L.F b hb).tab e
theorem Lw.ended (L : Lw C env ns w φ₀ s₀ fp St j ρ φ hp s) (hS : StOK fp St) (hI : ∀ b ∈ fp, s₀.heap.get? b = none) {h' : Heap} (hs : ∀ b o, b ∉ fp → s.heap.get? b = some o → h'.get? b = some o) : Aw C env ns ρ w φ₀ (ownOf env) s₀ φ hp { s with heap := h' } :=
  ⟨L.X.S.ends (s'' := { s with heap := h' }) hs ⟨_, _, rfl⟩ hI, L.X.P, L.X.R.kp (s' := { s with heap := h' }) (fun b hb o e => hs b o (fun q => (L.F b q).own hb) e) (List.prefix_refl _) (fun b o e n => n),
    L.X.H.gen (s' := { s with heap := h' }) fun b o e nd => hs b o (fun q => (hS.obj _ _ L.st b q).elim fun o' y => by cases e.symm.trans y.1; exact (L.F b q).need y.2 nd) e⟩
/-- how a loop draws -/
structure Draw (C : Cx) (env : Env) (ns : List Str) (A : Around) (w : Nat) (φ₀ : List Addr) (s₀ : Shared) (fp : List Addr) (St : Nat → Heap → Prop) (tgt : Expr) (I a : Addr) (k : Nat) (it : Hp → Nat → Option (Option V)) (up : Nat → V → Rho → Rho) : Prop where
  ok : StOK fp St
  fin : ∀ j ρ φ hp s Q E, Lw C env ns w φ₀ s₀ fp St j ρ φ hp s → φ[k]? = some a → it hp j = some none → (∀ s', Aw C env ns ρ w φ₀ (ownOf env) s₀ φ hp s' → Q none s') → wpAny (model C.prog C.w) A (pyNext (.ref I)) Q E s
  item : ∀ j ρ φ hp s v Q Q' E, Lw C env ns w φ₀ s₀ fp St j ρ φ hp s → φ[k]? = some a → it hp j = some (some v) → (∀ s', Lw C env ns w φ₀ s₀ fp St (j + 1) (up j v ρ) φ hp s' → Q' () s') →
    (∀ c s1, wpAny (model C.prog C.w) A (letOwnedTupleGo tgt (.ref I) c) (fun _ s2 => wpAny (model C.prog C.w) A (assign tgt env c) Q' E s2) E s1 → Q (some c) s1) → wpAny (model C.prog C.w) A (pyNext (.ref I)) Q E s
theorem loopT {B : Nat → Rho → Hp → Rho → Hp → Prop} {tgt : Expr} {I a : Addr} {it : Hp → Nat → Option (Option V)} {up : Nat → V → Rho → Rho} {body : List Stmt} {m : Nat} {R' : Result → Shared → Prop} (hr : Room A n) (D : Draw C env ns A w φ₀ s₀ fp St tgt I a k it up) (hI : ∀ b ∈ fp, s₀.heap.get? b = none) (hB : ∀ j ρ hp ρ' hp', B j ρ hp ρ' hp' → Tri C n env ns w body ρ hp .next ρ' hp')
    (L : Lw C env ns w φ₀ s₀ fp St 0 ρ φ hp s) (ha : φ[k]? = some a) (hk : k < w) (e : FoR it up B m 0 ρ hp ρ' hp') (hR : ∀ s' φ', Aw C env ns ρ' w φ₀ (ownOf env) s₀ φ' hp' s' → R' (.ok .next) s') : codeAny (model C.prog C.w) A (.forLoop tgt (.ref I) body [] env) R' s :=
  codeAny_forLoop_any (fun m s' => ∃ j φ ρ hp, Lw C env ns w φ₀ s₀ fp St j ρ φ hp s' ∧ φ[k]? = some a ∧ FoR it up B m j ρ hp ρ' hp') (fun m s1 ⟨j, φ1, ρ1, hp1, L1, ha1, e1⟩ => by
    cases m with
    | zero =>
      obtain ⟨e2, rfl, rfl⟩ := e1
      exact D.fin j _ φ1 _ s1 _ _ L1 ha1 e2 fun s2 X2 => wpAny_execs_nil (hR _ _ X2)
    | succ m =>
      obtain ⟨v, ρ2, hp2, e2, b2, e3⟩ := e1
      refine D.item j ρ1 φ1 hp1 s1 v _ (fun _ s₂ => wpAny _ A (execs body env) _ _ s₂) _ L1 ha1 e2 (fun s2 L2 => ?_) fun c s' h => h
      exact wpF (hB _ _ _ _ _ b2 A s2 φ1 hr L2.X.R L2.X.H) fun cf s3 ⟨φ3, Y, r⟩ => by cases r; exact ⟨m, Nat.lt_succ_self _, _, _, _, _, L2.body D.ok Y, pin Y hk ha1, e3⟩) m ⟨0, φ, ρ, hp, L, ha, e⟩
theorem draw_kd (hr : Room A n) {kd : KI} {a I : Addr} {i : Nat} {x : Str} {p : Pos} (hx : ns[i]? = some x) (hI : ∀ b ∈ [I], s₀.heap.get? b = none) : Draw C env ns A w φ₀ s₀ [I] (itSt kd a I) (.Name x p) I a k (fun hp j => itemAt kd hp k j) (fun _ v ρ => ρ.set i (some v)) where
  ok := itOK kd a I
  fin j ρ φ hp s Q E L ha e h := next_end hr.hand L.X.H ha L.st e fun h' hs => h _ (L.ended (itOK kd a I) hI fun b o hb e => hs b o (fun q => hb (List.mem_singleton.mpr q)) e)
  item j ρ φ hp s v Q Q' E L ha e h hQ :=
    have F := L.F I (List.mem_singleton.mpr rfl)
    next_item L.X.H ha L.st e fun c h' tk hc hs hi' => hQ _ _ (wpAny_pure (wpAny_assign_Name (by
      obtain ⟨o', ho', _⟩ := hi'.obj
      obtain ⟨o, hoI, hoN⟩ := L.st.obj
      have S1 : Step C φ [I] s φ { s with heap := h', toks := tk } := Step.one (.inr (List.mem_singleton.mpr rfl)) ⟨_, _, rfl⟩ hs.2 ho'
      have R1 := L.X.R.step S1 fun b hb q => F.own (List.mem_singleton.mp q ▸ hb)
      have H1 : HR C hp φ { s with heap := h', toks := tk } := L.X.H.ext hoI hoN F fun c o hc e => (hs.2 c hc).trans e
      have L1 : Lw C env ns w φ₀ s₀ [I] (itSt kd a I) (j + 1) ρ φ hp { s with heap := h', toks := tk } := ⟨⟨L.X.S.trans (S1.stp.weak fun c hc => List.mem_append_left _ hc), L.X.P, R1, H1⟩, L.F, hi'⟩
      have X1 : At C env ns ρ φ (ownOf env) { s with heap := h', toks := tk } φ hp { s with heap := h', toks := tk } := .start R1 H1
      exact X1.store hx hc fun s2 X2 => h s2 (L1.body (itOK kd a I) ⟨X2.S.stp, rfl, X2.R, X2.H⟩))))
theorem Lw.start (X : At C env ns ρ φ₀ (ownOf env) s₀ φ hp s) (hw : w ≤ φ₀.length) {s' : Shared} (dead : ∀ b ∈ fp, s.heap.get? b = none) (up : ∀ b o, s.heap.get? b = some o → s'.heap.get? b = some o) (same : ∃ h' tk', s' = { s with heap := h', toks := tk' }) (hi : St 0 s'.heap) : Lw C env ns w φ₀ s₀ fp St 0 ρ φ hp s' where
  X := ⟨(X.S.trans (Step.keeps same up)).stp.weak fun b hb => List.mem_append_right _ hb, (X.aw hw).P, X.R.step0 (Step.keeps same up), X.H.heap up⟩
  F b hb := free_of X.R X.H (dead b hb)
  st := hi
end
section
variable {w w' k m : Nat} {kd : KI} {ρ ρ' : Rho} {hp hp1 hp' : Hp} {body : List Stmt} {f : FV} {B : Nat → Rho → Hp → Rho → Hp → Prop} {x : Str} {p pos : Pos} {iter : Expr}
/-- a loop's own ledger begins behind the iterable's reckoning -/
theorem loopS {A : Around} {s₀ s1 : Shared} {φ₀ φ1 : List Addr} {fp : List Addr} {St : Nat → Heap → Prop} {tgt : Expr} {I a : Addr} {it : Hp → Nat → Option (Option V)} {up : Nat → V → Rho → Rho} {s2 : Shared} (hr : Room A n) (X1 : At C env ns ρ φ₀ (ownOf env) s₀ φ1 hp1 s1) (hw : w ≤ φ₀.length) (hww : w ≤ w') (hw' : w' ≤ hp1.length) (hk : k < w') (ha : φ1[k]? = some a)
    (D : Draw C env ns A w' φ1 s1 fp St tgt I a k it up) (dead : ∀ b ∈ fp, s1.heap.get? b = none) (upp : ∀ b o, s1.heap.get? b = some o → s2.heap.get? b = some o) (same : ∃ h' tk', s2 = { s1 with heap := h', toks := tk' }) (hi : St 0 s2.heap) (hB : ∀ j ρ hp ρ' hp', B j ρ hp ρ' hp' → Tri C n env ns w' body ρ hp .next ρ' hp') (e : FoR it up B m 0 ρ hp1 ρ' hp') {R' : Result → Shared → Prop} (hR : ∀ s', PT C env ns w φ₀ s₀ .next ρ' hp' .next s' → R' (.ok .next) s') : codeAny (model C.prog C.w) A (.forLoop tgt (.ref I) body [] env) R' s2 :=
  loopT hr D dead hB (Lw.start (.start X1.R X1.H) (X1.H.len ▸ hw') dead upp same hi) ha hk e fun s' φ' Y => hR s' ⟨φ', (X1.aw hw).comp Y hww, rfl⟩
theorem T_for (i : Nat) (hx : ns[i]? = some x) (hfold : ∀ v, foldedSetIterable iter env v = pure v) (hf : Ev C n env ns iter f) (w' : Nat) (hB : ∀ j ρ hp ρ' hp', B j ρ hp ρ' hp' → Tri C n env ns w' body ρ hp .next ρ' hp') (e1 : f ρ hp = some (.ref k, hp1)) (ek : kdOf hp1[k]? = some kd) (hw : w ≤ hp.length) (hww : w ≤ w') (hw' : w' ≤ hp1.length) (hk : k < w')
    (e : FoR (fun hp j => itemAt kd hp k j) (fun _ v ρ => ρ.set i (some v)) B m 0 ρ hp1 ρ' hp') : Tri1 C n env ns w (.For (.Name x p) iter body [] pos) ρ hp .next ρ' hp' := fun A s φ hr R H =>
  wpAny_For (wpF (hf A s φ ρ hp _ hp1 hr R H e1) fun c s1 ⟨φ1, S1, H1, a, ha, hc⟩ => hc ▸ start_iter H1 ha ek fun I s2 h0 up same hi =>
    loopS hr ⟨S1.own0, R.step0 S1, H1⟩ (H.len ▸ hw) hww hw' hk ha (draw_kd hr hx fun b hb => List.mem_singleton.mp hb ▸ h0) (fun b hb => List.mem_singleton.mp hb ▸ h0) up same hi hB e fun s' h => h) hfold
theorem T_forRev {e : Expr} {rp cp : Pos} {vs : List V} (i : Nat) (hx : ns[i]? = some x) (hn : TopN C env "reversed") (hgl : nsIn C.K mainGlobals "reversed" = some none)
    (hfold : ∀ v, foldedSetIterable (.Call (.Name "reversed" rp) [e] [] cp) env v = pure v) (he : notStar e = true) (hf : Ev C n env ns e f) (w' : Nat) (hB : ∀ j ρ hp ρ' hp', B j ρ hp ρ' hp' → Tri C n env ns w' body ρ hp .next ρ' hp') (e1 : f ρ hp = some (.ref k, hp1)) (ek : hp1[k]? = some (.list vs)) (hw : w ≤ hp.length) (hww : w ≤ w') (hw' : w' ≤ hp1.length) (hk : k < w')
    (ee : FoR (fun hp j => itemAt (.rev vs.length) hp k j) (fun _ v ρ => ρ.set i (some v)) B m 0 ρ hp1 ρ' hp') : Tri1 C n env ns w (.For (.Name x p) (.Call (.Name "reversed" rp) [e] [] cp) body [] pos) ρ hp .next ρ' hp' := fun A s φ hr R H =>
  wpAny_For (wpAny_Call_NameR (evN (Ev_bi hn hgl (c := .type "reversed") rfl (by decide)) hr (.start (own := ownOf env) R H) fun cf s1 φ1 X1 r0 => by
    cases r0
    exact callWith_type1 (wpAny_items_cons (wpF (hf A s1 φ1 ρ hp _ hp1 hr X1.R X1.H e1) fun c s2 ⟨φ2, S2, H2, a, ha, hc⟩ => hc ▸ wpAny_items_nil (H2.lisAt ek ha fun cs m h1 l1 h3 =>
      call_reversed_list (items := cs.toArray) (isL h3) (by
        have hst : itSt (.rev vs.length) a s2.heap.objs.size 0 (s2.heap.push (revObj a (((cs.toArray).size : Int) - 1))) := ⟨Nat.zero_le _, _, Heap.get?_push_size _ rfl, rfl, by simp [revObj, l1]⟩
        exact wpAny_pyIter_revIter hst.2 (loopS hr (X1.then_ S2 H2) (H.len ▸ hw) hww hw' hk ha (draw_kd hr hx fun b hb => List.mem_singleton.mp hb ▸ get_size _) (fun b hb => List.mem_singleton.mp hb ▸ get_size _) (s2 := { s2 with heap := s2.heap.push (revObj a (((cs.toArray).size : Int) - 1)) }) (fun b o e => Heap.get?_push_of_some _ e) ⟨_, _, rfl⟩ hst hB ee fun s' h => h)))) (starEach_cons he)) (starEach_cons he) rfl)) hfold

end
end
end Mine

open PySem PySem.Calls PySem.W PySem.Spec PyProof.Rows
set_option Elab.async false
set_option autoImplicit false
set_option maxRecDepth 100000
set_option genSizeOf false
set_option genInjectivity false
set_option linter.unusedVariables false
namespace Mine
noncomputable section
variable {C : Cx} {n : Nat} {env : Env} {ns : List Str}

/-! over the places and the items -/
def enSt (a E I : Addr) (j : Nat) (h : Heap) : Prop := (∃ old, IsEnum h E I (j : Int) old) ∧ h.IsListIter I a j
theorem enOK (a E I : Addr) : StOK [E, I] (enSt a E I) where
  obj j h x b hb := by
    rcases List.mem_cons.mp hb with rfl | hb
    · exact x.1.elim fun old y => ⟨_, y, nc_of fun vs e q t => by cases e; exact nofun⟩
    · cases List.mem_singleton.mp hb; exact itSt.obj (kd := .list) x.2
  keep j h h' x k := ⟨x.1.imp fun old y => k E List.mem_cons_self _ y, itSt.keep (kd := .list) x.2 (k I (List.mem_cons_of_mem _ (List.mem_singleton.mpr rfl)))⟩
section
variable {w w' k m : Nat} {φ₀ : List Addr} {s₀ : Shared} {A : Around} {ρ ρ' : Rho} {hp hp1 hp' : Hp} {body : List Stmt} {f : FV}
theorem draw_en (hr : Room A n) {a E I : Addr} (nEI : E ≠ I) {i1 i2 : Nat} {x y : Str} {px py pt : Pos} {x1 : Nat} (hx : ns[i1]? = some x) (hy : ns[i2]? = some y) (hI : ∀ b ∈ [E, I], s₀.heap.get? b = none) :
    Draw C env ns A w φ₀ s₀ [E, I] (enSt a E I) (.Tuple [.Name x px, .Name y py] x1 pt) E a k (fun hp j => itemAt .list hp k j) (fun j v ρ => (ρ.set i1 (some (.int j))).set i2 (some v)) where
  ok := enOK a E I
  fin j ρ φ hp s Q Er L ha e h := bLE e fun vs q e => L.X.H.lisAt q ha fun cs m h1 l1 h2 => L.st.1.elim fun old he => wpAny_pyNext_enum_end hr.hand he L.st.2 (isL h2) (by rw [List.getElem?_toArray, List.getElem?_eq_none_iff, ← l1]; exact List.getElem?_eq_none_iff.mp (Option.some.inj e)) fun h' hs => h _ (L.ended (enOK a E I) hI fun b o hb e => hs b o (fun q => hb (q ▸ List.mem_cons_of_mem _ (List.mem_singleton.mpr rfl))) e)
  item j ρ φ hp s v Q Q' Er L ha e h hQ := bLE e fun vs q e => L.X.H.lisAt q ha fun cs m h1 l1 h2 => (h1.get (Option.some.inj e)).elim fun c hc => L.st.1.elim fun old hE4 => by
    have hEl : E < s.heap.objs.size := Heap.lt_size hE4
    refine wpAny_pyNext_enum_item hE4 L.st.2 (isL h2) (by rw [List.getElem?_toArray]; exact hc.1) nEI fun h₁ heo hit₁ ht₁ hz₁ hk₁ => hQ _ _ ?_
    refine wpAny_letOwnedTupleGo_enum heo fun h₂ he₂ hs₂ => ?_
    replace hs₂ : Heap.SameBut E h₁ h₂ := hs₂
    have ht₂ : h₂.IsTuple s.heap.objs.size #[.int j s.toks, c] := ⟨_, (hs₂.2 _ (Nat.ne_of_gt hEl)).trans ht₁, rfl, _, rfl⟩
    refine wpAny_assign_Tuple hr.hand ht₂ rfl rfl fun h₃ hx₃ => ?_
    replace hx₃ : Heap.ExtBut h₂.objs.size h₂ h₃ := hx₃
    have to3 : ∀ b o, h₂.get? b = some o → h₃.get? b = some o := fun b o e2 => hx₃ b o (size_ne e2) e2
    have up : ∀ b o, b ∉ [E, I] → s.heap.get? b = some o → h₃.get? b = some o := fun b o hb e => to3 b o ((hs₂.2 b fun q => hb (q ▸ List.mem_cons_self)).trans (hk₁ b o (fun q => hb (q ▸ List.mem_cons_self)) (fun q => hb (q ▸ List.mem_cons_of_mem _ (List.mem_singleton.mpr rfl))) e))
    have st3 : enSt a E I (j + 1) h₃ := ⟨⟨c, to3 _ _ he₂⟩, hit₁.imp fun o q => ⟨to3 _ _ ((hs₂.2 I nEI.symm).trans q.1), q.2⟩⟩
    have S3 : Step C φ [E, I] s φ { s with heap := h₃, toks := s.toks + 1 } := Step.mk0 ⟨_, _, rfl⟩ fun b o e => by
      by_cases q : b ∈ [E, I]
      · exact ⟨((enOK a E I).obj _ _ st3 b q).imp fun o h => h.1, fun _ n _ => (n q).elim⟩
      · exact ⟨⟨o, up b o q e⟩, fun _ _ _ => up b o q e⟩
    have H3 : HR C hp φ { s with heap := h₃, toks := s.toks + 1 } := L.X.H.gen fun b o e nd => up b o (fun q => ((enOK a E I).obj _ _ L.st b q).elim fun o' y => by cases e.symm.trans y.1; exact (L.F b q).need y.2 nd) e
    have X3 : At C env ns ρ φ (ownOf env) { s with heap := h₃, toks := s.toks + 1 } φ hp { s with heap := h₃, toks := s.toks + 1 } := .start (L.X.R.step S3 fun b hb q => (L.F b q).own hb) H3
    have L3 : Lw C env ns w φ₀ s₀ [E, I] (enSt a E I) (j + 1) ρ φ hp { s with heap := h₃, toks := s.toks + 1 } := ⟨⟨L.X.S.trans (S3.stp.weak fun b hb => List.mem_append_left _ hb), L.X.P, X3.R, H3⟩, L.F, st3⟩
    show wpAny _ A (do holding [c] (assign (.Name x px) env (.int j s.toks)); do holding [] (assign (.Name y py) env c); pure ()) _ _ _
    exact wpAny_bind (wpAny_holding (wpAny_assign_Name (X3.store hx (v := .int j) VR.int fun s6 X6 => wpAny_bind (wpAny_holding (wpAny_assign_Name (X6.store hy hc.2 fun s7 X7 => wpAny_pure (h s7 (L3.body (enOK a E I) ⟨X7.S.stp, rfl, X7.R, X7.H⟩))))))))
theorem T_forEnum {B : Nat → Rho → Hp → Rho → Hp → Prop} {e : Expr} {xi xv : Str} {pi pv pt pos rp cp : Pos} {x1 : Nat} {vs : List V} (i j : Nat) (hxi : ns[i]? = some xi) (hxv : ns[j]? = some xv) (hn : TopN C env "enumerate") (hgl : nsIn C.K mainGlobals "enumerate" = some none)
    (hfold : ∀ v, foldedSetIterable (.Call (.Name "enumerate" rp) [e] [] cp) env v = pure v) (he : notStar e = true) (hf : Ev C n env ns e f) (w' : Nat) (hB : ∀ j ρ hp ρ' hp', B j ρ hp ρ' hp' → Tri C n env ns w' body ρ hp .next ρ' hp') (e1 : f ρ hp = some (.ref k, hp1)) (ek : hp1[k]? = some (.list vs)) (hw : w ≤ hp.length) (hww : w ≤ w') (hw' : w' ≤ hp1.length) (hk : k < w')
    (ee : FoR (fun hp j => itemAt .list hp k j) (fun m v ρ => (ρ.set i (some (.int m))).set j (some v)) B m 0 ρ hp1 ρ' hp') : Tri1 C n env ns w (.For (.Tuple [.Name xi pi, .Name xv pv] x1 pt) (.Call (.Name "enumerate" rp) [e] [] cp) body [] pos) ρ hp .next ρ' hp' := fun A s φ hr R H =>
  wpAny_For (wpAny_Call_NameR (evN (Ev_bi hn hgl (c := .type "enumerate") rfl (by decide)) hr (.start (own := ownOf env) R H) fun cf s1 φ1 X1 r0 => by
    cases r0
    refine callWith_type1 (wpAny_items_cons (wpF (hf A s1 φ1 ρ hp _ hp1 hr X1.R X1.H e1) fun c s2 ⟨φ2, S2, H2, a, ha, hc⟩ => hc ▸ wpAny_items_nil (H2.lisAt ek ha fun cs m h1 l1 h3 => call_enumerate_list (items := cs.toArray) (isL h3) fun h' hE hI hsz hk' => ?_)) (starEach_cons he)) (starEach_cons he) rfl
    have nEI : s2.heap.objs.size + 1 ≠ s2.heap.objs.size := Nat.succ_ne_self _
    have dE : ∀ b ∈ [s2.heap.objs.size + 1, s2.heap.objs.size], s2.heap.get? b = none := fun b hb => Heap.get?_none_of_le ((List.mem_cons.mp hb).elim (fun q => q ▸ Nat.le_succ _) fun hb => List.mem_singleton.mp hb ▸ Nat.le_refl _)
    generalize s2.heap.objs.size + 1 = E at *
    generalize s2.heap.objs.size = I at *
    exact wpAny_pyIter_enum hE (loopS hr (X1.then_ S2 H2) (H.len ▸ hw) hww hw' hk ha (draw_en hr nEI hxi hxv dE) dE (s2 := { s2 with heap := h' }) hk' ⟨_, _, rfl⟩ ⟨⟨_, hE⟩, hI⟩ hB ee fun s' h => h))) hfold

/-! while -/
def WhR (t : FB) (B : Rho → Hp → Rho → Hp → Prop) (w : Nat) : Nat → Rho → Hp → Rho → Hp → Prop
  | 0, ρ, hp, ρ', hp' => t ρ hp = some (false, hp') ∧ ρ' = ρ
  | m + 1, ρ, hp, ρ', hp' => ∃ hp1 ρ2 hp2, t ρ hp = some (true, hp1) ∧ B ρ hp1 ρ2 hp2 ∧ w ≤ hp2.length ∧ WhR t B w m ρ2 hp2 ρ' hp'
theorem T_while {test : Expr} {pos : Pos} {t : FB} {B : Rho → Hp → Rho → Hp → Prop} (ht : Tr C n env ns test t) (hB : ∀ ρ hp ρ' hp', B ρ hp ρ' hp' → Tri C n env ns w body ρ hp .next ρ' hp') (m : Nat) (hw : w ≤ hp.length) (e : WhR t B w m ρ hp ρ' hp') : Tri1 C n env ns w (.While test body [] pos) ρ hp .next ρ' hp' := fun A s φ hr R H =>
  wpAny_While (codeAny_whileLoop (fun k s' => ∃ φ1 ρ1 hp1, Aw C env ns ρ1 w φ (ownOf env) s φ1 hp1 s' ∧ w ≤ hp1.length ∧ WhR t B w k ρ1 hp1 ρ' hp') (fun k s1 ⟨φ1, ρ1, hp1, X1, hw1, e1⟩ => by
    cases k with
    | zero =>
      obtain ⟨e2, rfl⟩ := e1
      exact wpF (ht A s1 φ1 _ hp1 _ _ hr X1.R X1.H e2) fun b s2 ⟨hb, φ2, S2, H2⟩ => by subst hb; exact wpAny_execs_nil ⟨φ2, X1.comp (At.aw ⟨S2.own0, X1.R.step0 S2, H2⟩ (X1.H.len ▸ hw1)) (Nat.le_refl _), rfl⟩
    | succ k =>
      obtain ⟨hp2, ρ2, hp3, e2, b2, hw3, e3⟩ := e1
      refine wpF (ht A s1 φ1 _ hp1 _ _ hr X1.R X1.H e2) fun b s2 ⟨hb, φ2, S2, H2⟩ => ?_
      subst hb
      have X2 := X1.comp (At.aw ⟨S2.own0, X1.R.step0 S2, H2⟩ (X1.H.len ▸ hw1)) (Nat.le_refl _)
      exact wpF (hB _ _ _ _ b2 A s2 φ2 hr X2.R X2.H) fun cf s3 ⟨φ3, Y, r⟩ => by cases r; exact ⟨k, Nat.lt_succ_self _, φ3, ρ2, hp3, X2.comp Y (Nat.le_refl _), hw3, e3⟩) m ⟨φ, ρ, hp, ⟨Step.refl.stp, rfl, R, H⟩, hw, e⟩)
end
end
end Mine

open PySem PySem.Calls PySem.W PySem.Spec PyProof.Rows
set_option Elab.async false
set_option autoImplicit false
set_option maxRecDepth 100000
set_option genSizeOf false
set_option genInjectivity false
set_option linter.unusedVariables false
namespace Mine
noncomputable section
variable {C : Cx} {n : Nat} {env : Env} {ns : List Str}

abbrev flV (c : Flow) : Value := match c with
  | .ret v => v
  | _ => .none
/-- what a body's end hands on -/
def FlR (fl : Fl) (v : V) : Prop := ∀ φ c, FR φ fl c → VR φ v (flV c)
theorem FlR.ret {v : V} : FlR (.ret v) v := fun φ c h => h.elim fun cv h => h.1 ▸ h.2
theorem FlR.next : FlR .next (.val .none) := fun φ c h => by cases h; rfl
def Bd (C : Cx) (n : Nat) (env : Env) (ns : List Str) (body : List Stmt) (ρ : Rho) (hp : Hp) (v : V) (hp' : Hp) : Prop := ∃ fl ρ', Tri C n env ns hp.length body ρ hp fl ρ' hp' ∧ FlR fl v
/-- one call -/
def Cl (C : Cx) (n : Nat) (fv : Value) (vs : List V) (hp : Hp) (v : V) (hp' : Hp) : Prop :=
  ∀ A s φ cs, Room A n → HR C hp φ s → All2 (VR φ) vs cs → wpAny (model C.prog C.w) A (call fv cs) (PV C φ s v hp') noE s
def ClAt (C : Cx) (n : Nat) (fv : Value) (vs : List V) (hp : Hp) (v : V) (hp' : Hp) (s : Shared) : Prop :=
  ∀ A φ cs, Room A n → HR C hp φ s → All2 (VR φ) vs cs → wpAny (model C.prog C.w) A (call fv cs) (PV C φ s v hp') noE s
theorem Fn.of {fv : Value} {F : List V → Hp → Option (V × Hp)} (h : ∀ vs hp v hp', F vs hp = some (v, hp') → Cl C n fv vs hp v hp') : Fn C n fv F := fun A s φ hp vs cs v hp' hr H hv e => h vs hp v hp' e A s φ cs hr H hv
theorem Stp.step {φ φ' own : List Addr} {s s' : Shared} (S : Stp C φ own s φ' s') (P : φ'.take φ.length = φ) (nd : φ'.Nodup) : Step C φ own s φ' s' where
  ext := ⟨φ'.drop φ.length, by rw [show φ ++ φ'.drop φ.length = φ'.take φ.length ++ φ'.drop φ.length by rw [P], List.take_append_drop], fun b hb => (S.new b (List.mem_of_mem_drop hb)).elim (fun hm => by
    rw [← List.take_append_drop φ.length φ', P] at nd
    exact ((List.nodup_append.mp nd).2.2 b hm b hb rfl).elim) id⟩
  live := S.live
  keep := S.keep
  same := S.same
/-- a body is run from its arguments -/
theorem run_body {A : Around} {body : List Stmt} {φ : List Addr} {s s' : Shared} {ρ : Rho} {hp hp' : Hp} {v : V} {E : Value → Shared → Prop} (hbody : Bd C n env ns body ρ hp v hp') (hr : Room A n) (S : Step C φ [] s φ s') (R : ER C env ns ρ φ s') (H : HR C hp φ s) (H' : HR C hp φ s') (hd : ∀ b ∈ ownOf env, s.heap.get? b = none ∨ ∃ o, C.h₀.get? b = some o) :
    wpAny (model C.prog C.w) A (execs body env) (fun cf s'' => PV C φ s v hp' (flV cf) s'') E s' :=
  hbody.elim fun fl q => q.elim fun ρ' q => wpF (q.1 A s' φ hr R H') fun cf s'' ⟨φ', X, r⟩ => by
    have S2 := S.own0.trans (X.S.step (by have := X.P; rw [← H.len, List.take_length] at this; exact this) X.H.nodup)
    refine ⟨φ', ⟨S2.ext, S2.live, fun b o n1 _ n3 e => ?_, S2.same⟩, X.H, q.2 φ' cf r⟩
    by_cases hb : b ∈ ownOf env
    · rcases hd b hb with q | ⟨o', q⟩
      · cases e.symm.trans q
      · cases e.symm.trans (H.base _ _ q); exact X.H.base _ _ q
    · exact S2.keep b o n1 hb n3 e
abbrev argR (ns ps : List Str) (vs : List V) : Rho := vs.map some ++ List.replicate (ns.length - ps.length) none
/-- the def of the top stands at f -/
def FnB (K : Frag) (f : Addr) (name qual : Str) (params : Arguments) (body : List Stmt) (scope : Scope) (cdv : Value) (ps : List Str) : Prop :=
  ∃ oc od osl dV kV doc pm an ct, K.lookup f = some ⟨oc, od, .func (fnOf name qual params body scope dV kV doc pm an cdv ct), osl⟩ ∧ codeIn K cdv qual = true ∧ ∀ cs : List Value, cs.length = ps.length → bindArgs (fnOf name qual params body scope dV kV doc pm an cdv ct) ⟨cs, []⟩ = pure (ps.zip cs)
section
variable {name qual : Str} {params : Arguments} {body : List Stmt} {scope : Scope} {cdv : Value} {f : Addr} {ps : List Str} {vs : List V} {hp hp' : Hp} {v : V}
theorem ClAt_def {s : Shared} (B : FnB C.K f name qual params body scope cdv ps) (D : DefOK scope ps ns) (hl : vs.length = ps.length) (hbody : Bd C n (envOfC qual scope s.heap.objs.size f cdv) ns body (argR ns ps vs) hp v hp') : ClAt C (n + 1) (.ref f) vs hp v hp' s := fun A φ cs hr H hv => by
  obtain ⟨oc, od, osl, dV, kV, doc, pm, an, ct, ho, hcd, hbind⟩ := B
  have hroom : A.depth < recursionLimit := Nat.lt_of_le_of_lt (Nat.le_add_right _ _) hr.dep
  have hk : ((ps.zip cs).all fun y => scope.names.lookup y.1 == some .local || scope.names.lookup y.1 == some .cell) = true := List.all_eq_true.mpr fun y hy => by
    have hm : y.1 ∈ ps := (List.of_mem_zip hy).1
    rw [D.ps] at hm
    rcases D.kinds y.1 (List.mem_of_mem_take hm) with k | k <;> rw [k] <;> rfl
  refine wpAny_call (codeAny_call_function hroom (H.KIn f _ ho) rfl D.co D.gen rfl (codeRec_of H.KIn hcd) ((BindsTo.of_eq (hbind cs (by rw [← hv.length, hl]))) _ _ _ _ ?_))
  refine wpAny_newFunctionEnv_cells D.kind (kindsX hk _) fun env' he s' x => ?_
  subst he
  have fr : ∀ b ∈ ownOf (envOfC qual scope s.heap.objs.size f cdv), s.heap.get? b = none := fun b hb => Heap.get?_none_of_le ((List.mem_cons.mp hb).elim (fun q => q ▸ Nat.le_refl _) fun hb => (List.mem_map.mp hb).elim fun p q => q.2 ▸ Nat.le_of_lt (x.above p.1 p.2 q.1))
  have S0 : Step C φ [] s φ s' := Step.keeps x.toInCall.same x.toInCall.keep
  exact ⟨(C.T.nolimit.keeps H.base).keeps x.toInCall.keep, codeAny_func (run_body hbody (hr.deeper _) S0 (defER D H hv hl x fr) H (H.heap x.toInCall.keep) fun b hb => .inl (fr b hb))⟩
theorem Cl_def (B : FnB C.K f name qual params body scope cdv ps) (D : DefOK scope ps ns) (hl : vs.length = ps.length) (hbody : ∀ L, Bd C n (envOfC qual scope L f cdv) ns body (argR ns ps vs) hp v hp') : Cl C (n + 1) (.ref f) vs hp v hp' := fun A s φ cs => ClAt_def B D hl (hbody _) A φ cs
end
section
variable {name qual : Str} {params : Arguments} {body : List Stmt} {scope : Scope} {cdv : Value} {f : Addr} {ps : List Str} {vs : List V} {hp hp' : Hp} {v : V}
theorem Cl_clo {cl : List (Str × Addr)} {c : Addr} {doc pm ctv : Value} (ho : C.h₀.get? f = some (fnMade name qual params body scope cl doc pm c ctv)) (hcd : C.h₀.CodeRec (.ref c) qual) (D : CloOK scope ps ns)
    (hbind : ∀ cs : List Value, cs.length = ps.length → bindArgs (fnX name qual params body scope cl .none .none doc pm none (.ref c) ctv) ⟨cs, []⟩ = pure (ps.zip cs))
    (hcl : ∀ x a, cl.lookup x = some a → ∃ v, C.h₀.IsCell a v) (hnd : (cl.map (·.2)).Nodup) (hcl2 : ∀ b ∈ cl.map (·.2), ∃ o, C.h₀.get? b = some o) (hl : vs.length = ps.length) (hbody : ∀ L, Bd C n (envX qual scope L f (.ref c) cl) ns body (argR ns ps vs) hp v hp') : Cl C (n + 1) (.ref f) vs hp v hp' := fun A s φ cs hr H hv => by
  have hroom : A.depth < recursionLimit := Nat.lt_of_le_of_lt (Nat.le_add_right _ _) hr.dep
  have psND : ps.Nodup := by rw [D.ps]; exact D.nsND.sublist (List.take_sublist _ _)
  have hloc : ∀ y ∈ ps.zip cs, scope.names.lookup y.1 = some .local := fun y hy => by
    have hm : y.1 ∈ ps := (List.of_mem_zip hy).1
    rw [D.ps] at hm
    exact D.kinds _ (List.mem_of_mem_take hm)
  refine wpAny_call (codeAny_call_function hroom (H.base f _ ho) rfl D.co D.gen rfl (hcd.keeps H.base) ((BindsTo.of_eq (hbind cs (by rw [← hv.length, hl]))) _ _ _ _ ?_))
  refine wpAny_newFunctionEnv D.nocell hloc (fun h' hns hsb => ?_) D.kind
  dsimp only
  have hL0 : s.heap.get? s.heap.objs.size = none := get_size _
  have up : ∀ b o, s.heap.get? b = some o → h'.get? b = some o := fun b o e => hsb.extBut b o (size_ne e) (Heap.get?_push_of_some _ e)
  have FL := H.free0 hL0
  have froz : ∀ b o, C.h₀.get? b = some o → b ∉ φ ∧ b ∉ C.tabs := fun b o e => ⟨fun hm => (nomatch e.symm.trans (H.fresh b hm)), fun hm => (nomatch e.symm.trans (H.tab b hm).2.1)⟩
  have R' : ER C (envX qual scope s.heap.objs.size f (.ref c) cl) ns (vs.map some ++ List.replicate (ns.length - ps.length) none) φ { s with heap := h', toks := s.toks + (ps.zip cs).length } := by
    refine ⟨⟨D.kind, rfl, rfl, List.nodup_cons.mpr ⟨fun hm => (hcl2 _ hm).elim fun o ho' => (nomatch hL0.symm.trans (H.base _ _ ho')), hnd⟩, D.dbg, D.nsND, fun y hy => .inl (D.kinds y hy), FL.base, fun b hb => (List.mem_cons.mp hb).elim (fun q => q ▸ FL.tab) fun hb => (hcl2 b hb).elim fun o e => (froz b o e).2⟩,
      fun i y v h1 h2 => (args_at D.ps hv hl h1 h2).elim fun h5 q => q.imp fun c' h => ⟨h.2, .inl ⟨D.kinds y (List.mem_of_getElem? h1), _, hns, rev_zip_lookup psND h5 h.1⟩⟩, ⟨_, hns⟩, fun y a h => (hcl y a h).imp fun v' h => Cell_keep h fun o e => up _ _ (H.base _ _ e), fun b hb => ?_⟩
    rcases List.mem_cons.mp hb with rfl | hb
    · exact ⟨FL.phi, hns.imp fun o h => h.elim fun _ h => h.elim fun _ h => h.1⟩
    · exact (hcl2 b hb).elim fun o e => ⟨(froz b o e).1, o, up _ _ (H.base _ _ e)⟩
  exact ⟨(C.T.nolimit.keeps H.base).keeps up, codeAny_func (run_body (hbody s.heap.objs.size) (hr.deeper _) (Step.keeps ⟨_, _, rfl⟩ up) R' H (H.heap up) fun b hb => (List.mem_cons.mp hb).imp (fun q => by rw [q]; exact hL0) (hcl2 b))⟩
end

/-! a call on a part of the ledger -/
def FlatV (v : V) : Prop := ∀ φ φ' c, VR φ v c → VR φ' v c
abbrev IL (l : List Int) : List V := l.map V.int
theorem flat_int {i : Int} : FlatV (.int i) := fun _ _ _ h => h
theorem flat_IL {φ φ' : List Addr} : ∀ {l : List Int} {cs : List Value}, All2 (VR φ) (IL l) cs → All2 (VR φ') (IL l) cs
  | [], _, .nil => .nil
  | _ :: _, _, .cons h r => .cons h (flat_IL r)
theorem flat_list {l : List Int} : FlatO (.list (IL l)) := fun _ _ _ h => h.imp fun _ h => h.imp fun _ h => ⟨flat_IL h.1, h.2⟩
theorem flat_tup {l : List Int} : FlatO (.tuple (IL l)) := fun _ _ _ h => h.imp fun _ h => h.imp fun _ h => ⟨flat_IL h.1, h.2⟩
theorem ClAt_frame {s : Shared} {fv : Value} {vs vs₀ : List V} {hp hp' hp₀ g : Hp} {v v₀ : V} (hz : C.fz = []) (h₀ : ClAt C n fv vs₀ hp₀ v₀ (hp₀ ++ g) s) (ix : List Nat) (nd : ix.Nodup) (e1 : mapO (V.ren ix) vs₀ = some vs) (e2 : pickH ix hp = some hp₀) (hf : ∀ o ∈ hp₀, FlatO o)
    (hv : (v₀ = v ∧ FlatV v ∧ hp' = hp) ∨ ∃ k o, v₀ = .ref (hp₀.length + k) ∧ g[k]? = some o ∧ FlatO o ∧ v = .ref hp.length ∧ hp' = hp ++ [o]) : ClAt C n fv vs hp v hp' s := fun A φ cs hr H ha => by
  have hb := pickA_bound H.len e2
  have a2 := mapO_all e2
  have sub := pickA_sub hb
  have hob : ∀ (m : Nat) (o : O) (a : Addr), hp₀[m]? = some o → (pickA ix φ)[m]? = some a → ∃ (i : Nat) (o' : O), hp[i]? = some o' ∧ φ[i]? = some a ∧ ∀ ob, OR φ o' ob → OR (pickA ix φ) o ob := fun m o a h1 h2 => by
    obtain ⟨i, h5, h6⟩ := a2.at h1
    obtain ⟨b, hb'⟩ := hb i (List.mem_of_getElem? h5)
    cases (pickA_at h5 hb').symm.trans h2
    exact ⟨i, o, h6, hb', fun ob => hf o (List.mem_of_getElem? h1) _ _ ob⟩
  have H₀ : HR C hp₀ (pickA ix φ) s := H.view (by rw [List.length_map, a2.length]) (pickA_nd nd H.nodup hb) sub hob fun p hp => by rw [hz] at hp; cases hp
  refine wpF (h₀ A _ cs hr H₀ ((mapO_all e1).comp (S := VR φ) (T := VR (pickA ix φ)) (fun a b c e h => V.ren_ok e h) ha)) fun c s' ⟨φ1, S, H1, r1⟩ => ?_
  have hob' : ∀ (i : Nat) (o : O) (a : Addr), hp[i]? = some o → φ[i]? = some a → ∃ ob, s'.heap.get? a = some ob ∧ OR φ o ob := fun i o a h1 h2 => by
    by_cases hm : a ∈ pickA ix φ
    · obtain ⟨m, hm⟩ := List.mem_iff_getElem?.mp hm
      obtain ⟨o2, ho2⟩ : ∃ o2, hp₀[m]? = some o2 := ⟨_, List.getElem?_eq_getElem (H₀.len ▸ (List.getElem?_eq_some_iff.mp hm).1)⟩
      obtain ⟨j, h5, h6⟩ := a2.at ho2
      obtain ⟨b, hb'⟩ := hb j (List.mem_of_getElem? h5)
      cases (pickA_at h5 hb').symm.trans hm
      have := (List.getElem?_inj (List.getElem?_eq_some_iff.mp h2).1 H.nodup).mp (h2.trans hb'.symm)
      subst this
      cases h1.symm.trans h6
      exact (H1.obj m o a (by rw [List.getElem?_append_left (List.getElem?_eq_some_iff.mp ho2).1]; exact ho2) (pre_get S.pre hm)).imp fun ob h => ⟨h.1, hf o (List.mem_of_getElem? ho2) _ _ ob h.2⟩
    · exact (H.obj i o a h1 h2).imp fun ob h => ⟨S.keep a ob hm List.not_mem_nil (fun q => (H.tab a q).1 (List.mem_of_getElem? h2)) h.1, h.2⟩
  have H' : HR C hp φ s' := ⟨H.len, hob', H.nodup, H1.base, H.fresh, fun P hP => ⟨(H.tab P hP).1, (H.tab P hP).2.1, (H1.tab P hP).2.2.imp fun ps h => ⟨h.1, h.2.1, fun pos cv e => (h.2.2 pos cv e).imp fun c x => x.imp fun o x => ⟨x.1, fun hm => (List.mem_iff_getElem?.mp hm).elim fun i hi => (hob' i _ c (List.getElem?_eq_getElem (H.len ▸ (List.getElem?_eq_some_iff.mp hi).1)) hi).elim fun ob y => by
    cases y.1.symm.trans x.2.2.2.1; exact y.2.nc _ x.2.2.2.2, x.2.2⟩⟩⟩, H.frz⟩
  have S' : Step C φ [] s φ s' := Step.mk0 S.same fun b o e => ⟨S.live b o e, fun n1 n2 n3 => S.keep b o (fun hm => n1 (sub b hm)) n2 n3 e⟩
  rcases hv with ⟨rfl, hf, rfl⟩ | ⟨k, o, rfl, hg, hfo, rfl, rfl⟩
  · exact ⟨φ, S', H', hf _ _ _ r1⟩
  · obtain ⟨a, ha1, rfl⟩ := r1
    obtain ⟨ob, hob1, hor⟩ := H1.obj (hp₀.length + k) o a (by rw [List.getElem?_append_right (Nat.le_add_right _ _), Nat.add_sub_cancel_left]; exact hg) ha1
    have hdead : s.heap.get? a = none := by
      obtain ⟨ψ, hψ, hd⟩ := S.ext
      rw [hψ, List.getElem?_append_right (by rw [H₀.len]; exact Nat.le_add_right _ _)] at ha1
      exact hd a (List.mem_of_getElem? ha1)
    exact ⟨φ ++ [a], ⟨⟨[a], rfl, fun b hb => List.mem_singleton.mp hb ▸ hdead⟩, S'.live, S'.keep, S'.same⟩, H'.push (H.free0 hdead) hob1 (hfo _ _ ob hor), a, by rw [← H.len, List.getElem?_append_right (Nat.le_refl _), Nat.sub_self]; rfl, rfl⟩
theorem Cl_frame {fv : Value} {vs vs₀ : List V} {hp hp' hp₀ g : Hp} {v v₀ : V} (hz : C.fz = []) (h₀ : Cl C n fv vs₀ hp₀ v₀ (hp₀ ++ g)) (ix : List Nat) (nd : ix.Nodup) (e1 : mapO (V.ren ix) vs₀ = some vs) (e2 : pickH ix hp = some hp₀) (hf : ∀ o ∈ hp₀, FlatO o)
    (hv : (v₀ = v ∧ FlatV v ∧ hp' = hp) ∨ ∃ k o, v₀ = .ref (hp₀.length + k) ∧ g[k]? = some o ∧ FlatO o ∧ v = .ref hp.length ∧ hp' = hp ++ [o]) : Cl C n fv vs hp v hp' := fun A s φ cs => ClAt_frame hz (h₀ := fun A => h₀ A s) ix nd e1 e2 hf hv A φ cs
theorem T_def {P c : Addr} (iI kt : Nat) {name : Str} {params : Arguments} {body rest : List Stmt} {scope : Scope} {pos : Pos} {w : Nat} {ρ ρ' : Rho} {hp hp' : Hp} {fl : Fl}
    (hz : C.fz = []) (hP : P ∈ C.tabs) (hcode : env.code = .ref c) (hC : CodeHd C.h₀ c P) (hq : C.tq P = qualnameIn env name name) (hname : ns[iI]? = some name) (hkI : env.kindOf name = some .cell) (hkt : kt ≤ iI)
    (hfree : ∀ y ∈ scope.names, y.2 = .free → y.1 ∈ ns ∧ env.kindOf y.1 = some .cell) (hloc : ∀ y ∈ ns.take kt, env.kindOf y = some .local)
    (hnd : (env.cells.map (·.1)).Nodup) (hd0 : params.defaults = []) (hk0 : params.kw_defaults = []) (ha : annTrees params none env = [])
    (hrest : ∀ C' f' c' doc pm ctv, Same C' C → Made C' env ns (ρ.set iI (some (.val (.ref f')))) name (qualnameIn env name name) params body scope f' c' doc pm ctv → Tri C' n env (ns.take kt) w rest (ρ.take kt) hp fl ρ' hp') :
    Tri C n env ns w (.FunctionDef name params body [] none [] scope none name pos :: rest) ρ hp fl [] hp' := fun A s φ hr R H => by
  refine wpAny_execs_cons (nestDef_K hd0 hk0 ha ?_)
  obtain ⟨hPφ, hP0, ps, hPs, hTr, hTab⟩ := H.tab P hP
  have ocells : ∀ y ∈ scope.names, y.2 = .free → ∃ a, env.cells.lookup y.1 = some a := fun y hy hk =>
    (R.st.kinds y.1 (hfree y hy hk).1).elim (fun k => nomatch (hfree y hy hk).2.symm.trans k) fun h => h.2.imp fun a h => h.1
  have claim : ∀ s1 f' c' doc pm ctv, Step C φ [] s φ s1 → HR C hp φ s1 → s.heap.get? f' = none → s1.heap.get? f' = some (fnMade name (qualnameIn env name name) params body scope (buildCl env.cells scope.names []) doc pm c' ctv) →
      c' ∉ φ → c' ∉ C.tabs → s1.heap.CodeRec (.ref c') (qualnameIn env name name) →
      wpAny (model C.prog C.w) A (storeName env name (.ref f')) (fun _ s'' => wpAny (model C.prog C.w) A (execs rest env) (PT C env ns w φ s fl [] hp') noE s'') noE s1 := by
    intro s1 f' c' doc pm ctv S1 H1 hf0 hf hc1 hc2 hcr
    have X1 : At C env ns ρ φ (ownOf env) s φ hp s1 := (At.start R H).then_ S1 H1
    have nf := free_of R H hf0
    refine store_ok X1.R H1 hname (v := .val (.ref f')) rfl fun s2 b hb _ S2 R2 H2 => ?_
    have S2 : Step C φ (ownOf env) s1 φ s2 := S2.weak fun c hc => List.mem_singleton.mp hc ▸ hb
    have hid : ∀ b o, b ∉ φ ++ C.tabs ++ [env.locals] → s2.heap.get? b = some o → (hideAll s2.heap (φ ++ C.tabs ++ [env.locals])).get? b = some o := fun b o hb e => hideAll_get _ e hb
    have split : ∀ {b}, b ∉ φ → b ∉ C.tabs → b ≠ env.locals → b ∉ φ ++ C.tabs ++ [env.locals] := fun h1 h2 h3 hm => (List.mem_append.mp hm).elim (fun hm => (List.mem_append.mp hm).elim h1 h2) fun hm => h3 (List.mem_singleton.mp hm)
    have incl : ∀ b o, C.h₀.get? b = some o → (hideAll s2.heap (φ ++ C.tabs ++ [env.locals])).get? b = some o := fun b o e => hid b o (split (fun hm => nomatch e.symm.trans (H.fresh b hm)) (fun hm => nomatch e.symm.trans (H.tab b hm).2.1) (dead_ne e R.st.locF)) (H2.base b o e)
    have cin : ∀ x a, env.cells.lookup x = some a → a ∉ φ ++ C.tabs ++ [env.locals] := fun x a hx => split (R.out a (mem_own_cell hx)).1 (R.st.tabs a (mem_own_cell hx)) fun q => (List.nodup_cons.mp R.st.apart).1 (q ▸ List.mem_map.mpr ⟨(x, a), mem_of_lookup hx, rfl⟩)
    obtain ⟨C', hC'⟩ : ∃ C' : Cx, C' = cxOf C env ns (ρ.set iI (some (.val (.ref f')))) (hideAll s2.heap (φ ++ C.tabs ++ [env.locals])) (fun a o e => incl a o (C.X a o e)) (C.T.keeps incl) := ⟨_, rfl⟩
    have ch : C'.h₀ = hideAll s2.heap (φ ++ C.tabs ++ [env.locals]) := by rw [hC']; rfl
    have cz : C'.fz = fzOf env ns (ρ.set iI (some (.val (.ref f')))) := by rw [hC']; rfl
    have sm : Same C' C := by rw [hC']; exact ⟨rfl, rfl, rfl, rfl⟩
    have ctq : C'.tq = C.tq := by rw [hC']; rfl
    clear hC'
    have hide : ∀ b, b ∈ φ ++ C.tabs ++ [env.locals] → C'.h₀.get? b = none := fun b hb => ch ▸ hideAll_none _ hb
    have tabUp : ∀ Q φ h, TabOK C φ h Q → TabOK C' φ h Q := fun Q φ h z => by
      obtain ⟨ps, z1, z2, z3⟩ := z
      exact ⟨ps, z1, z2, fun q cv e => by rw [sm.tabs, ctq]; exact z3 q cv e⟩
    have H' : HR C' hp φ s2 := by
      refine ⟨H2.len, H2.obj, H2.nodup, fun b o e => of_hideAll _ (ch ▸ e), fun a ha => hide a (List.mem_append_left _ (List.mem_append_left _ ha)), fun Q hQ => ?_, fun p hp => ?_⟩
      · rw [sm.tabs] at hQ
        exact ⟨(H2.tab Q hQ).1, hide Q (List.mem_append_left _ (List.mem_append_right _ hQ)), tabUp _ _ _ (H2.tab Q hQ).2.2⟩
      · rw [cz] at hp
        obtain ⟨i, x, h1, h2, h3, h4⟩ := fzOf_of hp
        refine (R2.var i x p.2 h1 h2).imp fun cv q => ⟨q.1, q.2.elim (fun k => nomatch h3.symm.trans k.1) fun k => k.2.elim fun a k => ?_⟩
        cases h4.symm.trans k.1
        rw [ch]
        exact Cell_keep k.2 fun o e => hid _ _ (cin x _ h4) e
    have R' : ER C' env (ns.take kt) (ρ.take kt) φ s2 := by
      refine ⟨⟨R2.st.kind, R2.st.glob, R2.st.blt, R2.st.apart, fun x hx => R2.st.names x (List.mem_of_mem_take hx), R2.st.nsND.sublist (List.take_sublist _ _), fun x hx => .inl (hloc x hx), hide _ (List.mem_append_right _ (List.mem_singleton.mpr rfl)), fun b hb => by rw [sm.tabs]; exact R2.st.tabs b hb⟩, fun i x v h1 h2 => ?_, R2.loc, R2.cel, R2.out⟩
      rw [List.getElem?_take] at h1 h2
      split at h1
      · rename_i hi
        rw [if_pos hi] at h2
        exact R2.var i x v h1 (by rw [List.getElem?_set_ne (Nat.ne_of_gt (Nat.lt_of_lt_of_le hi hkt))]; exact h2)
      · cases h1
    have kf : s2.heap.get? f' = some _ := S2.keep f' _ nf.phi nf.own nf.tab hf
    have hcr' : C'.h₀.CodeRec (.ref c') (qualnameIn env name name) := by
      obtain ⟨c9, o, vs, t, e1, e2, e3, e4⟩ := hcr
      cases e1
      have nc : ∀ o', s1.heap.get? c' = some o' → ¬ NC o' := fun o' e h => by cases e.symm.trans e2; exact h _ ⟨vs, t, e3, e4⟩
      have hown : c' ∉ ownOf env := fun hm => (List.mem_cons.mp hm).elim (fun q => X1.R.loc.elim fun m hm => (Ns_nc hm).elim fun o' h => nc o' (q ▸ h.1) h.2) fun hm => (List.mem_map.mp hm).elim fun p hp => (X1.R.cel p.1 p.2 (lookup_of_nd hnd hp.1)).elim fun v hv => (Cell_nc hv).elim fun o' h => nc o' (hp.2 ▸ h.1) h.2
      rw [ch]
      exact ⟨c', o, vs, t, rfl, hid _ _ (split hc1 hc2 fun q => hown (q ▸ List.mem_cons_self)) (S2.keep c' o hc1 hown hc2 e2), e3, e4⟩
    have M : Made C' env ns (ρ.set iI (some (.val (.ref f')))) name (qualnameIn env name name) params body scope f' c' doc pm ctv :=
      ⟨ch ▸ hid _ _ (split nf.phi nf.tab fun q => nf.own (q ▸ List.mem_cons_self)) kf, hcr', fun x a hx => (R2.cel x a hx).imp fun v h => ch ▸ Cell_keep h fun o e => hid _ _ (cin x a hx) e, (List.nodup_cons.mp R.st.apart).2, fun i x v h1 h2 hk => (R.st.kinds x (List.mem_of_getElem? h1)).elim (fun k => nomatch hk.symm.trans k) fun h => ⟨.inl hk, R.st.kind, h.2.imp fun a h => ⟨h.1, by rw [cz]; exact fzOf_has h1 h2 hk h.1⟩, R.st.names x (List.mem_of_getElem? h1)⟩⟩
    have hw := hrest C' f' c' doc pm ctv sm M A s2 φ hr R' H'
    rw [sm.prog, sm.w] at hw
    refine wpF hw fun cf s3 ⟨φ3, X3, rr⟩ => ?_
    have S3 : Stp C φ (ownOf env) s2 φ3 s3 := ⟨X3.S.new, X3.S.live, fun b o n1 n2 n3 e => X3.S.keep b o n1 n2 (sm.tabs ▸ n3) e, X3.S.same⟩
    have H3 : HR C hp' φ3 s3 := by
      refine ⟨X3.H.len, X3.H.obj, X3.H.nodup, fun b o e => X3.H.base b o (ch ▸ incl b o e), fun a ha => dead_up (fun b o q => ⟨o, ch ▸ incl b o q⟩) (X3.H.fresh a ha), fun Q hQ => ?_, fun p hp => by rw [hz] at hp; cases hp⟩
      obtain ⟨x, y, ps, z1, z2, z3⟩ := X3.H.tab Q (sm.tabs ▸ hQ)
      refine ⟨x, (H.tab Q hQ).2.1, ps, z1, z2, fun q cv e => ?_⟩
      have := z3 q cv e
      rw [sm.tabs, ctq] at this; exact this
    exact ⟨φ3, ⟨(X1.S.trans S2).stp.trans S3, X3.P, ⟨R.st, fun i x v _ h2 => (by cases h2), X3.R.loc, X3.R.cel, X3.R.out⟩, H3⟩, rr⟩
  obtain ⟨hgP, hBA⟩ := T_bmainAt C.T H.base hPs
  have hgs := C.T.g.keeps H.base
  have hC' := hC.keeps H.base
  cases hca : codeAmong pos ps.toList with
  | none =>
    refine makeFunction_K (mg := C.mg) (closureFor_eq ocells) R.st.glob hgs hcode hC' hPs hTr hca hgP hBA fun c' ctv doc h' tk hx hge hlt hrec htb => ?_
    have hc0 : s.heap.get? c' = none := Heap.get?_none_of_le hge
    have up : ∀ b o, h'.get? b = some o → (h'.push (fnMade name (qualnameIn env name name) params body scope (buildCl env.cells scope.names []) doc ((C.mg "__name__").getD .none) c' ctv)).get? b = some o := fun b o e => Heap.get?_push_of_some _ e
    have ext : Heap.ExtBut P s.heap (h'.push (fnMade name (qualnameIn env name name) params body scope (buildCl env.cells scope.names []) doc ((C.mg "__name__").getD .none) c' ctv)) := fun b o hb e => up b o (hx b o hb e)
    have F := free_of R H hc0
    refine claim _ _ c' doc _ ctv (Step.mk0 ⟨_, _, rfl⟩ fun b o e => ?_) (H.table hP ext hPs hTr (up _ _ htb) hc0 (by rw [hq]; exact hrec.keeps up)) (Heap.get?_none_of_le (Nat.le_of_lt (Nat.lt_of_le_of_lt hge hlt))) (Heap.get?_push_size _ rfl) F.phi F.tab (hrec.keeps up)
    by_cases q : b = P
    · subst q; exact ⟨⟨_, up _ _ htb⟩, fun _ _ n => (n hP).elim⟩
    · exact ⟨⟨o, ext b o q e⟩, fun _ _ _ => ext b o q e⟩
  | some cv =>
    obtain ⟨c', o, rfl, h5, h6, h7, vs, t, h8, h9⟩ := hTab pos cv hca
    refine makeFunction_hit (mg := C.mg) (closureFor_eq ocells) R.st.glob hgs hcode hC' hPs hTr hca hBA fun ctv doc h' tk hk hsz => ?_
    have up : ∀ b o, s.heap.get? b = some o → (h'.push (fnMade name (qualnameIn env name name) params body scope (buildCl env.cells scope.names []) doc ((C.mg "__name__").getD .none) c' ctv)).get? b = some o := fun b o e => Heap.get?_push_of_some _ (hk b o e)
    refine claim _ _ c' doc _ ctv (Step.keeps ⟨_, _, rfl⟩ up) (H.heap up) (Heap.get?_none_of_le hsz) (Heap.get?_push_size _ rfl) h5 h6 ⟨c', o, vs, t, rfl, up _ _ h7, h8, ?_⟩
    rw [← hq]; exact h9
end
end Mine

open PySem PySem.Calls PySem.W PySem.Spec PyProof.Rows
set_option Elab.async false
set_option autoImplicit false
set_option maxRecDepth 100000
set_option genSizeOf false
set_option genInjectivity false
set_option linter.unusedVariables false
namespace Mine
noncomputable section
def bd (i : Nat) : Stmt := (PySem.Challenge.pw_wf0066_01.main.body[i]?).getD default
abbrev tokTab : List (Str × Int) := [("+", 14), ("-", 15), ("*", 16), ("&", 19), ("|", 18), ("^", 32), ("~", 31)]
/-- the def of the statement stands at f -/
def FnS (K : Frag) (f : Addr) (st : Stmt) (cdv : Value) (ps : List Str) : Prop := match st with
  | .FunctionDef name params body _ _ _ scope _ _ _ => FnB K f name name params body scope cdv ps
  | _ => False
/-- what the top has made -/
structure Bs (C : Cx) : Prop where
  hz : C.fz = []
  n_range : nsIn C.K mainGlobals "range" = some none
  n_len : nsIn C.K mainGlobals "len" = some none
  n_sum : nsIn C.K mainGlobals "sum" = some none
  n_sorted : nsIn C.K mainGlobals "sorted" = some none
  n_divmod : nsIn C.K mainGlobals "divmod" = some none
  n_list : nsIn C.K mainGlobals "list" = some none
  n_reversed : nsIn C.K mainGlobals "reversed" = some none
  n_enumerate : nsIn C.K mainGlobals "enumerate" = some none
  n_NT_OFFSET : ∃ t, nsIn C.K mainGlobals "NT_OFFSET" = some (some (.int 256 t))
  n_ENDMARKER : ∃ t, nsIn C.K mainGlobals "ENDMARKER" = some (some (.int 0 t))
  n_CASE_COST : ∃ t, nsIn C.K mainGlobals "_CASE_COST" = some (some (.int 1 t))
  n_MOVE_COST : ∃ t, nsIn C.K mainGlobals "_MOVE_COST" = some (some (.int 2 t))
  n_DIV_LIMIT : ∃ t, nsIn C.K mainGlobals "_DIV_LIMIT" = some (some (.int 4000 t))
  n_div2n1n : nsIn C.K mainGlobals "_div2n1n" = some (some (.ref 21))
  k_div2n1n : keepIn C.K (.ref 21) = true
  b_div2n1n : ∃ cdv, FnS C.K 21 (bd 2) cdv ["a", "b", "n"]
  n_int2digits : nsIn C.K mainGlobals "_int2digits" = some (some (.ref 35))
  k_int2digits : keepIn C.K (.ref 35) = true
  b_int2digits : ∃ c P, FnS C.K 35 (bd 4) (.ref c) ["a", "n"] ∧ CodeHd C.h₀ c P ∧ P ∈ C.tabs ∧ C.tq P = "_int2digits.<locals>.inner"
  n_digits2int : nsIn C.K mainGlobals "_digits2int" = some (some (.ref 42))
  k_digits2int : keepIn C.K (.ref 42) = true
  b_digits2int : ∃ c P, FnS C.K 42 (bd 5) (.ref c) ["digits", "n"] ∧ CodeHd C.h₀ c P ∧ P ∈ C.tabs ∧ C.tq P = "_digits2int.<locals>.inner"
  n_divmod_pos : nsIn C.K mainGlobals "_divmod_pos" = some (some (.ref 49))
  k_divmod_pos : keepIn C.K (.ref 49) = true
  b_divmod_pos : ∃ cdv, FnS C.K 49 (bd 6) cdv ["a", "b"]
  n_int_divmod : nsIn C.K mainGlobals "int_divmod" = some (some (.ref 56))
  k_int_divmod : keepIn C.K (.ref 56) = true
  b_int_divmod : ∃ cdv, FnS C.K 56 (bd 7) cdv ["a", "b"]
  n_add : nsIn C.K mainGlobals "add" = some (some (.ref 63))
  k_add : keepIn C.K (.ref 63) = true
  b_add : ∃ cdv, FnS C.K 63 (bd 9) cdv ["a", "b"]
  n_and_ : nsIn C.K mainGlobals "and_" = some (some (.ref 70))
  k_and_ : keepIn C.K (.ref 70) = true
  b_and_ : ∃ cdv, FnS C.K 70 (bd 10) cdv ["a", "b"]
  n_inv : nsIn C.K mainGlobals "inv" = some (some (.ref 77))
  k_inv : keepIn C.K (.ref 77) = true
  b_inv : ∃ cdv, FnS C.K 77 (bd 11) cdv ["a"]
  n_mul : nsIn C.K mainGlobals "mul" = some (some (.ref 84))
  k_mul : keepIn C.K (.ref 84) = true
  b_mul : ∃ cdv, FnS C.K 84 (bd 12) cdv ["a", "b"]
  n_or_ : nsIn C.K mainGlobals "or_" = some (some (.ref 91))
  k_or_ : keepIn C.K (.ref 91) = true
  b_or_ : ∃ cdv, FnS C.K 91 (bd 13) cdv ["a", "b"]
  n_sub : nsIn C.K mainGlobals "sub" = some (some (.ref 98))
  k_sub : keepIn C.K (.ref 98) = true
  b_sub : ∃ cdv, FnS C.K 98 (bd 14) cdv ["a", "b"]
  n_xor : nsIn C.K mainGlobals "xor" = some (some (.ref 105))
  k_xor : keepIn C.K (.ref 105) = true
  b_xor : ∃ cdv, FnS C.K 105 (bd 15) cdv ["a", "b"]
  n_ISNONTERMINAL : nsIn C.K mainGlobals "ISNONTERMINAL" = some (some (.ref 115))
  k_ISNONTERMINAL : keepIn C.K (.ref 115) = true
  b_ISNONTERMINAL : ∃ cdv, FnS C.K 115 (bd 68) cdv ["x"]
  n_ISEOF : nsIn C.K mainGlobals "ISEOF" = some (some (.ref 122))
  k_ISEOF : keepIn C.K (.ref 122) = true
  b_ISEOF : ∃ cdv, FnS C.K 122 (bd 69) cdv ["x"]
  n_substitution_cost : nsIn C.K mainGlobals "_substitution_cost" = some (some (.ref 129))
  k_substitution_cost : keepIn C.K (.ref 129) = true
  b_substitution_cost : ∃ cdv, FnS C.K 129 (bd 73) cdv ["ch_a", "ch_b"]
  n_law_cells : nsIn C.K mainGlobals "_law_cells" = some (some (.ref 136))
  k_law_cells : keepIn C.K (.ref 136) = true
  b_law_cells : ∃ cdv, FnS C.K 136 (bd 75) cdv ["script"]
  n_law_symbols : nsIn C.K mainGlobals "_law_symbols" = some (some (.ref 143))
  k_law_symbols : keepIn C.K (.ref 143) = true
  b_law_symbols : ∃ cdv, FnS C.K 143 (bd 76) cdv ["cells"]
  n_law_worths : nsIn C.K mainGlobals "_law_worths" = some (some (.ref 148))
  k_law_worths : keepIn C.K (.ref 148) = true
  b_law_worths : ∃ cdv, FnS C.K 148 (bd 77) cdv ["symbols"]
  n_law_added : nsIn C.K mainGlobals "_law_added" = some (some (.ref 155))
  k_law_added : keepIn C.K (.ref 155) = true
  b_law_added : ∃ cdv, FnS C.K 155 (bd 78) cdv ["left", "right"]
  n_law_planes : nsIn C.K mainGlobals "_law_planes" = some (some (.ref 160))
  k_law_planes : keepIn C.K (.ref 160) = true
  b_law_planes : ∃ cdv, FnS C.K 160 (bd 79) cdv ["cells"]
  b_law : ∃ cdv, FnS C.K 165 (bd 80) cdv ["script"]
  tok : ∃ a es k, nsIn C.K mainGlobals "EXACT_TOKEN_TYPES" = some (some (.ref a)) ∧ C.K.lookup a = some ⟨.type "dict", none, .dict es k, #[]⟩ ∧ KeysLit C.w.params es.toList ∧ ∀ p ∈ tokTab, ∃ t, nsIn C.K a p.1 = some (some (.int p.2 t))
variable {C : Cx} {n : Nat} {env : Env} {ns : List Str}
theorem Ev_globI {x : Str} {pos : Pos} {i : Int} (hn : TopN C env x) (hc : ∃ t, nsIn C.K mainGlobals x = some (some (.int i t))) : Ev C n env ns (.Name x pos) (fun _ hp => some (.int i, hp)) := hc.elim fun t h => Ev_glob (.int i) hn h ⟨t, rfl⟩
def onB {β : Type} (v : V) (k : Bool → Option β) : Option β := match v with
  | .bool i => k i
  | _ => none
theorem onB_inv {β : Type} {v : V} {k : Bool → Option β} {r : β} (e : onB v k = some r) : ∃ i, v = .bool i ∧ k i = some r := by
  cases v <;> first | exact ⟨_, rfl, e⟩ | cases e
theorem Tr_bl {x : Expr} {f : FV} (hf : Ev C n env ns x f) (hs : TrS env x) : Tr C n env ns x (fun ρ hp => bV (f ρ hp) fun v hp => onB v fun b => some (b, hp)) := fun A s φ ρ hp v hp' hr R H e =>
  wpAny_isTrue_value (evV hf hr (.start (own := []) R H) e fun c s1 φ1 u hp1 X1 _ r1 e => (onB_inv e).elim fun b q => by
    cases q.1; cases q.2; cases r1; exact wpAny_truthy_bool X1.pb) (hs _)
theorem T_ifT {w : Nat} {ρ ρ' : Rho} {hp hp₁ hp' : Hp} {fl : Fl} {test : Expr} {body orelse : List Stmt} {pos : Pos} {t : FB} {b : Bool} (ht : Tr C n env ns test t) (e : t ρ hp = some (b, hp₁)) (hb : b = true) (hw : w ≤ hp.length) (h : Tri C n env ns w body ρ hp₁ fl ρ' hp') : Tri1 C n env ns w (.If test body orelse pos) ρ hp fl ρ' hp' :=
  T_if ht e hw (fun _ => h) fun q => nomatch hb.symm.trans q
theorem T_ifF {w : Nat} {ρ ρ' : Rho} {hp hp₁ hp' : Hp} {fl : Fl} {test : Expr} {body orelse : List Stmt} {pos : Pos} {t : FB} {b : Bool} (ht : Tr C n env ns test t) (e : t ρ hp = some (b, hp₁)) (hb : b = false) (hw : w ≤ hp.length) (h : Tri C n env ns w orelse ρ hp₁ fl ρ' hp') : Tri1 C n env ns w (.If test body orelse pos) ρ hp fl ρ' hp' :=
  T_if ht e hw (fun q => nomatch hb.symm.trans q) fun _ => h
/-- one statement that hands on -/
theorem Bd_ret {st : Stmt} {rest : List Stmt} {ρ ρ' : Rho} {hp hp' : Hp} {v : V} {f : FS} (h : Ex C n env ns st f) (e : f ρ hp = some (.ret v, ρ', hp')) : Bd C n env ns (st :: rest) ρ hp v hp' := ⟨_, _, T_consR (T_ex h e (Nat.le_refl _)), FlR.ret⟩
theorem twoI_inv {β : Type} {vs : List V} {k : Int → Int → Option β} {r : β} (e : twoI vs k = some r) : ∃ a b, vs = [.int a, .int b] ∧ k a b = some r := by
  match vs, e with
  | [u, v], e => exact (onI_inv e).elim fun a y => (onI_inv y.2).elim fun b z => ⟨a, b, by rw [y.1, z.1], z.2⟩
theorem oneI_inv {β : Type} {vs : List V} {k : Int → Option β} {r : β} (e : one vs (fun v => onI v k) = some r) : ∃ a, vs = [.int a] ∧ k a = some r := by
  match vs, e with
  | [u], e => exact (onI_inv e).elim fun a y => ⟨a, by rw [y.1], y.2⟩
theorem ret_eq {x : Option (V × Hp)} {v : V} {hp' : Hp} {ρ : Rho} (e : x = some (v, hp')) : bV x (fun v hp => some (Fl.ret v, ρ, hp)) = some (.ret v, ρ, hp') := by rw [e]; rfl
theorem asg_eq {x : Option (V × Hp)} {v : V} {hp' : Hp} {ρ : Rho} {i : Nat} (e : x = some (v, hp')) : bV x (fun v hp => some (Fl.next, ρ.set i (some v), hp)) = some (.next, ρ.set i (some v), hp') := by rw [e]; rfl
/-- the deeds -/
def opF (op : Operator) (vs : List V) (hp : Hp) : Option (V × Hp) := twoI vs fun a b => (binI op a b).map fun c => (.int c, hp)
theorem h_add (B : Bs C) : Fn C (n + 1) (.ref 63) (opF .Add) := .of fun vs hp v hp' e => (twoI_inv e).elim fun a q => q.elim fun b q => by
  obtain ⟨rfl, e⟩ := q
  obtain ⟨cdv, h⟩ := B.b_add
  exact Cl_def (ns := ["a", "b"]) h ⟨rfl, rfl, rfl, by decide, rfl, by decide, by decide, by decide⟩ rfl fun L => Bd_ret (Ex_ret (Ev_bin (Ev_var 0 rfl) (Ev_var 1 rfl))) (ret_eq e)
theorem h_and_ (B : Bs C) : Fn C (n + 1) (.ref 70) (opF .BitAnd) := .of fun vs hp v hp' e => (twoI_inv e).elim fun a q => q.elim fun b q => by
  obtain ⟨rfl, e⟩ := q
  obtain ⟨cdv, h⟩ := B.b_and_
  exact Cl_def (ns := ["a", "b"]) h ⟨rfl, rfl, rfl, by decide, rfl, by decide, by decide, by decide⟩ rfl fun L => Bd_ret (Ex_ret (Ev_bin (Ev_var 0 rfl) (Ev_var 1 rfl))) (ret_eq e)
theorem h_mul (B : Bs C) : Fn C (n + 1) (.ref 84) (opF .Mult) := .of fun vs hp v hp' e => (twoI_inv e).elim fun a q => q.elim fun b q => by
  obtain ⟨rfl, e⟩ := q
  obtain ⟨cdv, h⟩ := B.b_mul
  exact Cl_def (ns := ["a", "b"]) h ⟨rfl, rfl, rfl, by decide, rfl, by decide, by decide, by decide⟩ rfl fun L => Bd_ret (Ex_ret (Ev_bin (Ev_var 0 rfl) (Ev_var 1 rfl))) (ret_eq e)
theorem h_or_ (B : Bs C) : Fn C (n + 1) (.ref 91) (opF .BitOr) := .of fun vs hp v hp' e => (twoI_inv e).elim fun a q => q.elim fun b q => by
  obtain ⟨rfl, e⟩ := q
  obtain ⟨cdv, h⟩ := B.b_or_
  exact Cl_def (ns := ["a", "b"]) h ⟨rfl, rfl, rfl, by decide, rfl, by decide, by decide, by decide⟩ rfl fun L => Bd_ret (Ex_ret (Ev_bin (Ev_var 0 rfl) (Ev_var 1 rfl))) (ret_eq e)
theorem h_sub (B : Bs C) : Fn C (n + 1) (.ref 98) (opF .Sub) := .of fun vs hp v hp' e => (twoI_inv e).elim fun a q => q.elim fun b q => by
  obtain ⟨rfl, e⟩ := q
  obtain ⟨cdv, h⟩ := B.b_sub
  exact Cl_def (ns := ["a", "b"]) h ⟨rfl, rfl, rfl, by decide, rfl, by decide, by decide, by decide⟩ rfl fun L => Bd_ret (Ex_ret (Ev_bin (Ev_var 0 rfl) (Ev_var 1 rfl))) (ret_eq e)
theorem h_xor (B : Bs C) : Fn C (n + 1) (.ref 105) (opF .BitXor) := .of fun vs hp v hp' e => (twoI_inv e).elim fun a q => q.elim fun b q => by
  obtain ⟨rfl, e⟩ := q
  obtain ⟨cdv, h⟩ := B.b_xor
  exact Cl_def (ns := ["a", "b"]) h ⟨rfl, rfl, rfl, by decide, rfl, by decide, by decide, by decide⟩ rfl fun L => Bd_ret (Ex_ret (Ev_bin (Ev_var 0 rfl) (Ev_var 1 rfl))) (ret_eq e)
def invF (vs : List V) (hp : Hp) : Option (V × Hp) := one vs fun v => onI v fun a => some (.int (Builtin.bitNot a), hp)
theorem h_inv (B : Bs C) : Fn C (n + 1) (.ref 77) invF := .of fun vs hp v hp' e => (oneI_inv e).elim fun a q => by
  obtain ⟨rfl, e⟩ := q
  cases e
  obtain ⟨cdv, h⟩ := B.b_inv
  exact Cl_def (ns := ["a"]) h ⟨rfl, rfl, rfl, by decide, rfl, by decide, by decide, by decide⟩ rfl fun L => Bd_ret (Ex_ret (Ev_un (Ev_var 0 rfl))) rfl
def isntF (vs : List V) (hp : Hp) : Option (V × Hp) := one vs fun v => onI v fun a => some (.bool (decide (256 ≤ a)), hp)
theorem h_ISNONTERMINAL (B : Bs C) : Fn C (n + 1) (.ref 115) isntF := .of fun vs hp v hp' e => (oneI_inv e).elim fun a q => by
  obtain ⟨rfl, e⟩ := q
  cases e
  obtain ⟨cdv, h⟩ := B.b_ISNONTERMINAL
  exact Cl_def (ns := ["x"]) h ⟨rfl, rfl, rfl, by decide, rfl, by decide, by decide, by decide⟩ rfl fun L => Bd_ret (Ex_ret (Ev_cmp rfl (Cmp_int (Ev_var 0 rfl) (Ev_globI ⟨rfl, by decide⟩ B.n_NT_OFFSET)))) rfl
def iseofF (vs : List V) (hp : Hp) : Option (V × Hp) := one vs fun v => onI v fun a => some (.bool (a == 0), hp)
theorem h_ISEOF (B : Bs C) : Fn C (n + 1) (.ref 122) iseofF := .of fun vs hp v hp' e => (oneI_inv e).elim fun a q => by
  obtain ⟨rfl, e⟩ := q
  cases e
  obtain ⟨cdv, h⟩ := B.b_ISEOF
  exact Cl_def (ns := ["x"]) h ⟨rfl, rfl, rfl, by decide, rfl, by decide, by decide, by decide⟩ rfl fun L => Bd_ret (Ex_ret (Ev_cmp rfl (Cmp_int (Ev_var 0 rfl) (Ev_globI ⟨rfl, by decide⟩ B.n_ENDMARKER)))) rfl
end
end Mine

open PySem PySem.Calls PySem.W PySem.Spec PyProof.Rows
set_option Elab.async false
set_option autoImplicit false
set_option maxRecDepth 100000
set_option genSizeOf false
set_option genInjectivity false
set_option linter.unusedVariables false
namespace Mine
noncomputable section
variable {C : Cx} {n : Nat} {env : Env} {ns : List Str}

theorem look_at {hp es : Hp} {i : Nat} {o : O} (h : hp[i]? = some o) : (hp ++ es)[i]? = some o := by rw [List.getElem?_append_left (List.getElem?_eq_some_iff.mp h).1, h]
theorem look_new (hp es : Hp) (c : Nat) : (hp ++ es)[hp.length + c]? = es[c]? := by rw [List.getElem?_append_right (Nat.le_add_right _ _), Nat.add_sub_cancel_left]
theorem set_new (hp es : Hp) (c : Nat) (o : O) : (hp ++ es).set (hp.length + c) o = hp ++ es.set c o := by rw [List.set_append_right _ _ (Nat.le_add_right _ _), Nat.add_sub_cancel_left]
/-- an item of a list of ints, by its place -/
theorem at_eq {l : List Int} {j : Nat} {p : Int} {hp : Hp} (hj : j ≤ 1000) (h : l[j]? = some p) : bG (0 ≤ (j : Int) ∧ (j : Int) ≤ 1000) ((IL l)[(j : Int).toNat]?.map fun v => (v, hp)) = some (.int p, hp) := by
  have : 0 ≤ (j : Int) ∧ (j : Int) ≤ 1000 := by omega
  rw [bG, if_pos this, Int.toNat_natCast, List.getElem?_map, h]; rfl
theorem bL_eq {β : Type} {x : Option O} {vs : List V} {k : List V → Option β} (h : x = some (.list vs)) : bL x k = k vs := by rw [h]; rfl
theorem intsOf_IL : ∀ {vs : List V} {l : List Int}, intsOf vs = some l → vs = IL l
  | [], _, e => by cases e; rfl
  | v :: r, _, e => by
    cases v with
    | int i => exact (Option.map_eq_some_iff.mp e).elim fun is q => by rw [← q.2, intsOf_IL q.1]; rfl
    | _ => cases e
theorem IL_intsOf : ∀ {l : List Int}, intsOf (IL l) = some l
  | [] => rfl
  | i :: l => by show (intsOf (IL l)).map _ = _; rw [IL_intsOf]; rfl
theorem bIs_inv {β : Type} {x : Option O} {k : List Int → Option β} {r : β} (e : bIs x k = some r) : ∃ l, x = some (.list (IL l)) ∧ k l = some r :=
  (bL_inv e).elim fun vs q => (Option.bind_eq_some_iff.mp q.2).elim fun l y => ⟨l, by rw [q.1, intsOf_IL y.1], y.2⟩

/-! _law_added -/
def addL (c : Int) : List Int → List Int → List Int
  | p :: l, q :: r => Builtin.bitXor (Builtin.bitXor p q) c :: addL (Builtin.bitOr (Builtin.bitAnd p q) (Builtin.bitAnd c (Builtin.bitXor p q))) l r
  | _, _ => []
def addedF (vs : List V) (hp : Hp) : Option (V × Hp) := two vs fun u v => onR u fun i => onR v fun j => bIs hp[i]? fun l => bIs hp[j]? fun r => bG (l.length = 5 ∧ r.length = 5) (some (.ref hp.length, hp ++ [.list (IL (addL 0 l r)), .range 5]))
abbrev adR (i j t : Nat) (c : Int) (k x y : Option V) : Rho := [some (.ref i), some (.ref j), some (.ref t), some (.int c), k, x, y]
/-- one turn -/
def AdB (hp : Hp) (i j : Nat) (l r : List Int) (m : Nat) (ρ : Rho) (h : Hp) (ρ' : Rho) (h' : Hp) : Prop := ∃ told c p q x y, l[m]? = some p ∧ r[m]? = some q ∧ m ≤ 5 ∧ told.length ≤ 5 ∧ ρ = adR i j hp.length c (some (.int m)) x y ∧ h = hp ++ [.list (IL told), .range 5] ∧
  ρ' = adR i j hp.length (Builtin.bitOr (Builtin.bitAnd p q) (Builtin.bitAnd c (Builtin.bitXor p q))) (some (.int m)) (some (.int p)) (some (.int q)) ∧ h' = hp ++ [.list (IL (told ++ [Builtin.bitXor (Builtin.bitXor p q) c])), .range 5]
theorem added_loop {hp : Hp} {i j : Nat} {l r : List Int} (hl : l.length = 5) (hr : r.length = 5) : ∀ (m a : Nat) (told : List Int) (c : Int) (k x y : Option V), a + m = 5 → told.length = a → ∃ c' k' x' y', FoR (fun hp' b => itemAt (.range 5) hp' (hp.length + 1) b) (fun _ v ρ => ρ.set 4 (some v)) (AdB hp i j l r) m a (adR i j hp.length c k x y) (hp ++ [.list (IL told), .range 5]) (adR i j hp.length c' k' x' y') (hp ++ [.list (IL (told ++ addL c (l.drop a) (r.drop a))), .range 5])
  | 0, a, told, c, k, x, y, h, _ => by
    have e : a = 5 := by omega
    subst e
    have el : l.drop 5 = [] := List.drop_eq_nil_of_le (by omega)
    rw [el]
    exact ⟨c, k, x, y, rfl, rfl, by rw [addL, List.append_nil]; exact nofun⟩
  | m + 1, a, told, c, k, x, y, h, ht => by
    have ha : a < 5 := by omega
    obtain ⟨p, hp'⟩ : ∃ p, l[a]? = some p := ⟨_, List.getElem?_eq_getElem (by omega)⟩
    obtain ⟨q, hq⟩ : ∃ q, r[a]? = some q := ⟨_, List.getElem?_eq_getElem (by omega)⟩
    have el : l.drop a = p :: l.drop (a + 1) := by rw [List.drop_eq_getElem_cons (by omega), ← (List.getElem?_eq_some_iff.mp hp').2]
    have er : r.drop a = q :: r.drop (a + 1) := by rw [List.drop_eq_getElem_cons (by omega), ← (List.getElem?_eq_some_iff.mp hq).2]
    obtain ⟨c', k', x', y', hh⟩ := added_loop (hp := hp) (i := i) (j := j) hl hr m (a + 1) (told ++ [Builtin.bitXor (Builtin.bitXor p q) c]) (Builtin.bitOr (Builtin.bitAnd p q) (Builtin.bitAnd c (Builtin.bitXor p q))) (some (.int a)) (some (.int p)) (some (.int q)) (by omega) (by rw [List.length_append, ht]; rfl)
    refine ⟨c', k', x', y', .int a, _, _, ?_, ⟨told, c, p, q, x, y, hp', hq, Nat.le_of_lt ha, by omega, rfl, rfl, rfl, rfl⟩, ?_⟩
    · show some (if a < 5 then _ else _) = _; rw [if_pos ha]
    · rw [el, er, addL]
      rw [List.append_assoc told] at hh; exact hh
theorem h_law_added (B : Bs C) : Fn C (n + 1) (.ref 155) addedF := .of fun vs hp v hp' e => by
  match vs, e with
  | [u, w], e =>
    obtain ⟨i, rfl, e⟩ := onR_inv e
    obtain ⟨j, rfl, e⟩ := onR_inv e
    obtain ⟨l, hl, e⟩ := bIs_inv e
    obtain ⟨r, hr, e⟩ := bIs_inv e
    refine bGE e fun hlen e => ?_
    cases e
    obtain ⟨cdv, h⟩ := B.b_law_added
    obtain ⟨c', k', x', y', hloop⟩ := added_loop (hp := hp) (i := i) (j := j) hlen.1 hlen.2 5 0 [] 0 none none none rfl rfl
    refine Cl_def (ns := ["left", "right", "told", "carry", "k", "p", "q"]) h ⟨rfl, rfl, rfl, by decide, rfl, by decide, by decide, by decide⟩ rfl fun L => ⟨_, adR i j hp.length c' k' x' y', ?_, FlR.ret⟩
    refine T_cons (T_ex (Ex_assign 2 rfl rfl (Ev_list Evs_nil)) rfl (Nat.le_refl _)) (T_cons (T_ex (Ex_assign 3 rfl rfl Ev_int) rfl (by rw [List.length_append]; exact Nat.le_add_right _ _)) (T_cons (T_for (kd := .range 5) (k := hp.length + 1) 4 rfl (fun _ => rfl) (Ev_callT ⟨rfl, by decide⟩ B.n_range boot_range (by decide) (Evs_cons rfl Ev_int Evs_nil) rfl T_range) (hp.length + 2) (B := AdB hp i j l r) (fun m ρ h ρ' h' b => ?_) (hp1 := hp ++ [.list (IL []), .range 5]) ?_ ?_ (by rw [List.length_append]; exact Nat.le_add_right _ _) (Nat.le_add_right _ _) (by rw [List.length_append]; exact Nat.le_refl _) (Nat.lt_succ_self _) hloop) (T_consR (T_ex (Ex_ret (Ev_var 2 rfl)) rfl (by rw [List.length_append]; exact Nat.le_add_right _ _)))))
    · obtain ⟨told, c, p, q, x, y, hp', hq, hm, ht, rfl, rfl, rfl, rfl⟩ := b
      have hw : hp.length + 2 ≤ (hp ++ [O.list (IL told), O.range 5]).length := by rw [List.length_append]; exact Nat.le_refl _
      have hm' : m ≤ 1000 := by omega
      refine T_cons (T_ex (Ex_assign 5 rfl rfl (Ev_idx (Ev_var 0 rfl) (Ev_var 4 rfl) fun _ _ => ⟨_, rfl⟩)) (asg_eq ((bL_eq (look_at hl)).trans (at_eq hm' hp'))) hw) (T_cons (T_ex (Ex_assign 6 rfl rfl (Ev_idx (Ev_var 1 rfl) (Ev_var 4 rfl) fun _ _ => ⟨_, rfl⟩)) (asg_eq ((bL_eq (look_at hr)).trans (at_eq hm' hq))) hw) (T_cons (T_ex (ρ' := adR i j hp.length c (some (.int m)) (some (.int p)) (some (.int q))) (hp' := hp ++ [.list (IL (told ++ [Builtin.bitXor (Builtin.bitXor p q) c])), .range 5]) (Ex_expr (Ev_append ⟨_, rfl⟩ (Ev_var 2 rfl) (Ev_bin (Ev_bin (Ev_var 5 rfl) (Ev_var 6 rfl)) (Ev_var 3 rfl)) rfl) rfl rfl) ?_ hw) (T_cons (T_ex (Ex_assign 3 rfl rfl (Ev_bin (Ev_bin (Ev_var 5 rfl) (Ev_var 6 rfl)) (Ev_bin (Ev_var 3 rfl) (Ev_bin (Ev_var 5 rfl) (Ev_var 6 rfl))))) rfl (by rw [List.length_append]; exact Nat.le_refl _)) T_nil)))
      have e0 : (hp ++ [O.list (IL told), O.range 5])[hp.length]? = some (.list (IL told)) := look_new hp _ 0
      show bV (bL _ fun _ => bL _ _) _ = _
      rw [bL_eq e0, bL_eq e0, bG, if_pos (by rw [List.length_map]; omega), show ((hp ++ [O.list (IL told), .range 5]).set hp.length _) = _ from set_new hp _ 0 _]
      rw [show IL (told ++ [Builtin.bitXor (Builtin.bitXor p q) c]) = IL told ++ [.int (Builtin.bitXor (Builtin.bitXor p q) c)] from List.map_append ..]
      rfl
    · show some (V.ref (hp ++ [_]).length, (hp ++ [_]) ++ [_]) = _
      rw [List.length_append, List.append_assoc]; rfl
    · rw [look_new]; rfl
end
end Mine

open PySem PySem.Calls PySem.W PySem.Spec PyProof.Rows
set_option Elab.async false
set_option autoImplicit false
set_option maxRecDepth 100000
set_option genSizeOf false
set_option genInjectivity false
set_option linter.unusedVariables false
namespace Mine
noncomputable section
variable {C : Cx} {n : Nat} {env : Env} {ns : List Str}
theorem bG_eq {β : Type} {p : Prop} [i : Decidable p] {x : Option β} (h : p) : bG p x = x := if_pos h
theorem map_len {l : List Int} : (IL l).length = l.length := List.length_map ..
theorem IL_app {a b : List Int} : IL a ++ IL b = IL (a ++ b) := (List.map_append ..).symm
theorem flat1 {l : List Int} : ∀ o ∈ [O.list (IL l)], FlatO o := fun o ho => List.mem_singleton.mp ho ▸ flat_list
/-- a call with one list, which gives a new list: shown on a ledger of its own -/
theorem Cl_list {fv : Value} {i : Nat} {l r : List Int} {hp g : Hp} {k : Nat} (B : Bs C) (hi : hp[i]? = some (.list (IL l))) (hg : g[k]? = some (.list (IL r))) (h : Cl C n fv [.ref 0] [.list (IL l)] (.ref (1 + k)) ([.list (IL l)] ++ g)) : Cl C n fv [.ref i] hp (.ref hp.length) (hp ++ [.list (IL r)]) :=
  Cl_frame B.hz h [i] (List.nodup_cons.mpr ⟨List.not_mem_nil, List.nodup_nil⟩) rfl (by rw [pickH, mapO, hi]; rfl) flat1 (.inr ⟨k, _, rfl, hg, flat_list, rfl, rfl⟩)

def fdB : Stmt → List Stmt
  | .FunctionDef _ _ b .. => b
  | _ => []
def fdS : Stmt → Scope
  | .FunctionDef _ _ _ _ _ _ s .. => s
  | _ => default
def stO : Stmt → List Stmt
  | .If _ _ b _ => b
  | _ => []
def stB : Stmt → List Stmt
  | .For _ _ b .. => b
  | .While _ b .. => b
  | .If _ b .. => b
  | _ => []

theorem app_eq {x : Option (V × Hp)} {v : V} {hp1 : Hp} {i : Nat} {xs : List V} {ρ : Rho} (hx : x = some (v, hp1)) (hi : hp1[i]? = some (.list xs)) (hl : xs.length ≤ 1000) : (bV (bV x fun v hp => bL hp[i]? fun xs => bG (xs.length ≤ 1000) (some (V.val .none, hp.set i (.list (xs ++ [v]))))) fun v hp => match v with | .val .none => some (Fl.next, ρ, hp) | _ => none) = some (.next, ρ, hp1.set i (.list (xs ++ [v]))) := by
  subst hx
  show bV (bL _ _) _ = _
  rw [bL_eq hi, bG_eq hl]; rfl

/-! _law_symbols -/
def prt (c : Int) : List Int := match (c.fdiv 6).fmod 3 != 0 with
  | true => [256 + (c.fdiv 72).fmod 32]
  | false => [1]
def sideL (c : Int) (s : List Int) : List Int := match (c.fdiv 18).fmod 2 == 1 with
  | true => prt c ++ s
  | false => s ++ prt c
def signK (k : Int) : Int := match k with
  | .ofNat 0 => 14
  | .ofNat 1 => 15
  | .ofNat 2 => 16
  | .ofNat 3 => 19
  | .ofNat 4 => 18
  | _ => 32
def tildL (c : Int) (s : List Int) : List Int := match (c.fdiv 36).fmod 2 == 1 with
  | true => s ++ [31]
  | false => s
def symStep (s : List Int) (c : Int) : List Int := tildL c (sideL c s ++ [signK (c.fmod 6)])
def symF (vs : List V) (hp : Hp) : Option (V × Hp) := oneR vs fun i => bIs hp[i]? fun l => bG (l.length = 4) (some (.ref hp.length, hp ++ [.list (IL (l.foldl symStep [1] ++ [0]))]))
theorem prt_len (c : Int) : (prt c).length = 1 := by unfold prt; cases (c.fdiv 6).fmod 3 != 0 <;> rfl
theorem sideL_len (c : Int) (s : List Int) : (sideL c s).length = s.length + 1 := by
  unfold sideL
  cases (c.fdiv 18).fmod 2 == 1
  · rw [List.length_append, prt_len]
  · rw [List.length_append, prt_len, Nat.add_comm]
theorem symStep_len (c : Int) (s : List Int) : (symStep s c).length ≤ s.length + 3 := by
  unfold symStep tildL
  cases (c.fdiv 36).fmod 2 == 1
  · simp only [List.length_append, sideL_len, List.length_singleton]; omega
  · simp only [List.length_append, sideL_len, List.length_singleton]; omega
theorem tok_eq (hp : Hp) : ∀ k : Int, 0 ≤ k → k < 6 → bSt (bG (0 ≤ k ∧ k < (Str.ofString "+-*&|^").length ∧ (Str.ofString "+-*&|^").length ≤ 1000) (some (V.str (Txt.item (Str.ofString "+-*&|^") k), hp))) (fun x hp => (tokTab.lookup x).map fun v => (V.int v, hp)) = some (.int (signK k), hp)
  | .ofNat 0, _, _ => rfl
  | .ofNat 1, _, _ => rfl
  | .ofNat 2, _, _ => rfl
  | .ofNat 3, _, _ => rfl
  | .ofNat 4, _, _ => rfl
  | .ofNat 5, _, _ => rfl
  | .ofNat (k + 6), _, h => absurd h (by simp; omega)
  | .negSucc k, h, _ => absurd h (by simp)
def SyB (l : List Int) (m : Nat) (ρ : Rho) (h : Hp) (ρ' : Rho) (h' : Hp) : Prop := ∃ c s, s.length ≤ 100 ∧ ρ = [some (.ref 0), some (.ref 1), some (.int c), none] ∧ h = [.list (IL l), .list (IL s)] ∧ ρ' = [some (.ref 0), some (.ref 1), none, none] ∧ h' = [.list (IL l), .list (IL (symStep s c))]
theorem sym_turn (B : Bs C) {L : Addr} {cdv : Value} {l : List Int} (m : Nat) (ρ : Rho) (h : Hp) (ρ' : Rho) (h' : Hp) (b : SyB l m ρ h ρ' h') : Tri C n (envOfC "_law_symbols" (fdS (bd 76)) L 143 cdv) ["cells", "symbols", "c", "part"] 1 (stB ((fdB (bd 76))[1]?.getD default)) ρ h .next ρ' h' := by
  obtain ⟨c, s, hs, rfl, rfl, rfl, rfl⟩ := b
  obtain ⟨aT, esT, kT, hT1, hT2, hT3, hT4⟩ := B.tok
  refine T_cons (T_ex (Ex_assign 3 rfl rfl (Ev_list (Evs_cons rfl Ev_int Evs_nil))) rfl (Nat.le_of_ble_eq_true rfl)) ?_
  refine T_cons (ρ₁ := [some (.ref 0), some (.ref 1), some (.int c), some (.ref 2)]) (hp₁ := [.list (IL l), .list (IL s), .list (IL (prt c))]) (T_if (Tr_cmp rfl (Cmp_int (Ev_bin (Ev_bin (Ev_var 2 rfl) Ev_int) Ev_int) Ev_int)) (b := (c.fdiv 6).fmod 3 != 0) rfl (Nat.le_of_ble_eq_true rfl) (fun hb => ?_) fun hb => ?_) ?_
  · have e : prt c = [256 + (c.fdiv 72).fmod 32] := by unfold prt; rw [hb]
    rw [e]
    exact T_norm (T_cons (T_ex (Ex_assign 3 rfl rfl (Ev_list (Evs_cons rfl (Ev_bin Ev_int (Ev_bin (Ev_bin (Ev_var 2 rfl) Ev_int) Ev_int)) Evs_nil))) rfl (Nat.le_of_ble_eq_true rfl)) T_nil) B.hz [0, 1, 3] (by decide) rfl ⟨flat_list, flat_list, flat_list (l := [_]), trivial⟩ rfl rfl
  · have e : prt c = [1] := by unfold prt; rw [hb]
    rw [e]
    exact T_norm T_nil B.hz [0, 1, 2] (by decide) rfl ⟨flat_list, flat_list, flat_list (l := [1]), trivial⟩ rfl rfl
  refine T_cons (ρ₁ := [some (.ref 0), some (.ref 1), some (.int c), none]) (hp₁ := [.list (IL l), .list (IL (sideL c s))]) (T_if (Tr_cmp rfl (Cmp_int (Ev_bin (Ev_bin (Ev_var 2 rfl) Ev_int) Ev_int) Ev_int)) (b := (c.fdiv 18).fmod 2 == 1) rfl (Nat.le_of_ble_eq_true rfl) (fun hb => ?_) fun hb => ?_) ?_
  · have e : sideL c s = prt c ++ s := by unfold sideL; rw [hb]
    rw [e, ← IL_app]
    exact T_norm (T_cons (T_ex (Ex_assign 1 rfl rfl (Ev_addL (Ev_var 3 rfl) (Ev_var 1 rfl))) (asg_eq (bG_eq (by rw [map_len, map_len, prt_len]; omega))) (Nat.le_of_ble_eq_true rfl)) T_nil) B.hz [0, 3] (by decide) rfl ⟨flat_list, IL_app ▸ flat_list, trivial⟩ rfl rfl
  · have e : sideL c s = s ++ prt c := by unfold sideL; rw [hb]
    rw [e, ← IL_app]
    exact T_norm (T_cons (T_ex (Ex_assign 1 rfl rfl (Ev_addL (Ev_var 1 rfl) (Ev_var 3 rfl))) (asg_eq (bG_eq (by rw [map_len, map_len, prt_len]; omega))) (Nat.le_of_ble_eq_true rfl)) T_nil) B.hz [0, 3] (by decide) rfl ⟨flat_list, IL_app ▸ flat_list, trivial⟩ rfl rfl
  have hl : (sideL c s).length ≤ 101 := by rw [sideL_len]; omega
  refine T_cons (ρ₁ := [some (.ref 0), some (.ref 1), some (.int c), none]) (hp₁ := [.list (IL l), .list (IL (sideL c s ++ [signK (c.fmod 6)]))]) (T_ex (Ex_expr (Ev_append ⟨_, rfl⟩ (Ev_var 1 rfl) (Ev_tok tokTab ⟨rfl, by decide⟩ hT1 hT2 hT3 hT4 (Ev_idxS Ev_str (Ev_bin (Ev_var 2 rfl) Ev_int) fun _ _ => ⟨_, rfl⟩) fun _ _ => ⟨_, rfl⟩) rfl) rfl rfl) ?_ (Nat.le_of_ble_eq_true rfl)) ?_
  · rw [← IL_app]
    have := app_eq (ρ := [some (.ref 0), some (.ref 1), some (.int c), none]) (i := 1) (tok_eq [.list (IL l), .list (IL (sideL c s))] (c.fmod 6) (Int.fmod_nonneg_of_pos c (by decide)) (Int.fmod_lt_of_pos c (by decide))) rfl (by rw [map_len]; omega)
    exact this
  unfold symStep
  have hl2 : (sideL c s ++ [signK (c.fmod 6)]).length ≤ 102 := by rw [List.length_append]; exact Nat.succ_le_succ hl
  generalize sideL c s ++ [signK (c.fmod 6)] = s2 at hl2 ⊢
  refine T_cons (T_if (Tr_cmp rfl (Cmp_int (Ev_bin (Ev_bin (Ev_var 2 rfl) Ev_int) Ev_int) Ev_int)) (b := (c.fdiv 36).fmod 2 == 1) rfl (Nat.le_of_ble_eq_true rfl) (fun hb => ?_) fun hb => ?_) T_nil
  · have e : tildL c s2 = s2 ++ [31] := by unfold tildL; rw [hb]
    rw [e, ← IL_app]
    refine T_norm (T_cons (T_ex (Ex_expr (Ev_append ⟨_, rfl⟩ (Ev_var 1 rfl) (Ev_tok tokTab ⟨rfl, by decide⟩ hT1 hT2 hT3 hT4 Ev_str fun _ _ => ⟨_, rfl⟩) rfl) rfl rfl) (ρ' := [some (.ref 0), some (.ref 1), some (.int c), none]) (hp' := [.list (IL l), .list (IL s2 ++ [.int 31])]) ?_ (Nat.le_of_ble_eq_true rfl)) T_nil) B.hz [0, 1] (by decide) rfl ⟨flat_list, IL_app (b := [31]) ▸ flat_list, trivial⟩ rfl rfl
    exact app_eq (x := some (.int 31, [.list (IL l), .list (IL s2)])) (i := 1) rfl rfl (by rw [map_len]; omega)
  · have e : tildL c s2 = s2 := by unfold tildL; rw [hb]
    rw [e]
    exact T_norm T_nil B.hz [0, 1] (by decide) rfl ⟨flat_list, flat_list, trivial⟩ rfl rfl
theorem IL_at {l rest : List Int} {j : Nat} {c : Int} (h : l.drop j = c :: rest) : l[j]? = some c ∧ (IL l)[j]? = some (.int c) ∧ l.drop (j + 1) = rest := by
  have h1 : l[j]? = some c := by
    have := congrArg List.head? h
    rw [List.head?_drop] at this; exact this
  refine ⟨h1, by rw [List.getElem?_map, h1]; rfl, ?_⟩
  rw [← List.drop_drop, h]; rfl
theorem IL_end {l : List Int} {j : Nat} (h : l.drop j = []) : (IL l)[j]? = none := by
  rw [List.getElem?_eq_none_iff, map_len]; exact List.drop_eq_nil_iff.mp h
theorem sym_loop {l : List Int} : ∀ (rest : List Int) (j : Nat) (s : List Int), l.drop j = rest → s.length + 3 * rest.length ≤ 100 →
    FoR (fun hp j => itemAt .list hp 0 j) (fun _ v ρ => ρ.set 2 (some v)) (SyB l) rest.length j [some (.ref 0), some (.ref 1), none, none] [.list (IL l), .list (IL s)] [some (.ref 0), some (.ref 1), none, none] [.list (IL l), .list (IL (rest.foldl symStep s))]
  | [], j, s, h, _ => ⟨congrArg some (IL_end h), rfl, rfl⟩
  | c :: rest, j, s, h, hb => by
    rw [List.length_cons] at hb
    exact ⟨.int c, _, _, congrArg some (IL_at h).2.1, ⟨c, s, by omega, rfl, rfl, rfl, rfl⟩, sym_loop rest (j + 1) (symStep s c) (IL_at h).2.2 (by have := symStep_len c s; omega)⟩
theorem h_law_symbols (B : Bs C) : Fn C (n + 1) (.ref 143) symF := .of fun vs hp v hp' e => by
  match vs, e with
  | [u], e =>
    obtain ⟨i, rfl, e⟩ := onR_inv e
    obtain ⟨l, hl, e⟩ := bIs_inv e
    refine bGE e fun hlen e => ?_
    cases e
    obtain ⟨cdv, h⟩ := B.b_law_symbols
    refine Cl_list (k := 0) (g := [.list (IL (l.foldl symStep [1] ++ [0]))]) B hl rfl (Cl_def (ns := ["cells", "symbols", "c", "part"]) h ⟨rfl, rfl, rfl, by decide, rfl, by decide, by decide, by decide⟩ rfl fun L => ⟨_, [some (.ref 0), some (.ref 1), none, none], ?_, FlR.ret⟩)
    have hs : (l.foldl symStep [1]).length ≤ 100 := by
      match l, hlen with
      | [a, b, c, d], _ =>
        have h1 := symStep_len a [1]
        have h2 := symStep_len b (symStep [1] a)
        have h3 := symStep_len c (symStep (symStep [1] a) b)
        have h4 := symStep_len d (symStep (symStep (symStep [1] a) b) c)
        simp only [List.foldl_cons, List.foldl_nil, List.length_singleton] at *
        omega
    refine T_cons (T_ex (Ex_assign 1 rfl rfl (Ev_list (Evs_cons rfl Ev_int Evs_nil))) rfl (Nat.le_of_ble_eq_true rfl)) (T_cons (T_for (kd := .list) (k := 0) 2 rfl (fun _ => rfl) (Ev_var 0 rfl) 1 (B := SyB l) (sym_turn B) rfl rfl (Nat.le_of_ble_eq_true rfl) (Nat.le_of_ble_eq_true rfl) (Nat.le_of_ble_eq_true rfl) (Nat.le_of_ble_eq_true rfl) (sym_loop l 0 [1] rfl (by rw [hlen]; decide))) (T_cons (T_ex (ρ' := [some (.ref 0), some (.ref 1), none, none]) (hp' := [.list (IL l), .list (IL (l.foldl symStep [1]) ++ [.int 0])]) (Ex_expr (Ev_append ⟨_, rfl⟩ (Ev_var 1 rfl) Ev_int rfl) rfl rfl) ?_ (Nat.le_of_ble_eq_true rfl)) ?_))
    · exact app_eq (x := some (.int 0, [.list (IL l), .list (IL (l.foldl symStep [1]))])) (i := 1) rfl rfl (by rw [map_len]; omega)
    · rw [← IL_app]
      exact T_consR (T_ex (Ex_ret (Ev_var 1 rfl)) rfl (Nat.le_of_ble_eq_true rfl))
end
end Mine

open PySem PySem.Calls PySem.W PySem.Spec PyProof.Rows
set_option Elab.async false
set_option autoImplicit false
set_option maxRecDepth 100000
set_option genSizeOf false
set_option genInjectivity false
set_option linter.unusedVariables false
namespace Mine
noncomputable section
variable {C : Cx} {n : Nat} {env : Env} {ns : List Str}
theorem oneR_inv {β : Type} {vs : List V} {k : Nat → Option β} {r : β} (e : oneR vs k = some r) : ∃ i, vs = [.ref i] ∧ k i = some r := by
  cases vs with
  | nil => cases e
  | cons u vs => cases vs with
    | cons => cases e
    | nil => exact (onR_inv e).imp fun i y => ⟨by rw [y.1], y.2⟩
/-- a comprehension whose element makes nothing -/
theorem compL0 {elt : FV} {kd : KI} {k : Nat} {hp : Hp} {t : Rho} : ∀ (rest us' : List V) (j : Nat) (us : List V) (x : Option V) (fuel : Nat), All2 (fun v u => elt (some v :: t) hp = some (u, hp)) rest us' → (∀ m, itemAt kd hp k (j + m) = some rest[m]?) → rest.length < fuel →
    ∃ x', compL elt 0 kd k fuel j (x :: t) hp us = some (us ++ us', x' :: t, hp)
  | [], _, j, us, x, fuel + 1, .nil, hi, _ => ⟨x, by
    show bO _ _ _ = _
    rw [show itemAt kd hp k j = some none from hi 0, List.append_nil]; rfl⟩
  | v :: rest, _, j, us, x, fuel + 1, .cons (b := u) (bs := us') h hr, hi, hf => by
    obtain ⟨x', e⟩ := compL0 rest us' (j + 1) (us ++ [u]) (some v) fuel hr (fun m => by rw [Nat.add_assoc, Nat.add_comm 1 m]; exact hi (m + 1)) (Nat.lt_of_succ_lt_succ hf)
    refine ⟨x', ?_⟩
    show bO _ _ _ = _
    rw [show itemAt kd hp k j = some (some v) from hi 0]
    show bV (elt (some v :: t) hp) _ = _
    rw [h]
    show compL elt 0 kd k fuel (j + 1) (some v :: t) hp (us ++ [u]) = _
    rw [e, List.append_assoc]; rfl
theorem compF_eq {fi elt : FV} {caps : List Nat} {ρ : Rho} {hp hp1 : Hp} {k : Nat} {kd : KI} {rest us : List V} (e1 : fi ρ hp = some (.ref k, hp1)) (ek : kdOf hp1[k]? = some kd) (h : All2 (fun v u => elt (some v :: caps.map fun i => getR ρ i) hp1 = some (u, hp1)) rest us) (hi : ∀ m, itemAt kd hp1 k m = some rest[m]?) (hf : rest.length < 100) :
    compF fi elt caps ρ hp = some (.ref hp1.length, hp1 ++ [.list us]) := by
  obtain ⟨x', e⟩ := compL0 rest us 0 [] none 100 h (fun m => by rw [Nat.zero_add]; exact hi m) hf
  show bR _ _ = _
  rw [e1]
  show (kdOf hp1[k]?).bind _ = _
  rw [ek]
  show (compL elt 0 kd k 100 0 (none :: caps.map fun i => getR ρ i) hp1 []).map _ = _
  rw [e]; rfl
theorem items_list {hp : Hp} {k : Nat} {vs : List V} (h : hp[k]? = some (.list vs)) (m : Nat) : itemAt .list hp k m = some vs[m]? := by
  show bL _ _ = _
  rw [bL_eq h]
theorem items_range {hp : Hp} {k r : Nat} (m : Nat) : itemAt (.range r) hp k m = some ((rangeVs r)[m]?) := by
  show some (if m < r then _ else _) = _
  rw [rangeVs, List.getElem?_map]
  by_cases h : m < r
  · rw [if_pos h, List.getElem?_range h]; rfl
  · rw [if_neg h, List.getElem?_eq_none_iff.mpr (by rw [List.length_range]; omega)]; rfl

/-! _law_worths -/
def deedsT : List (Int × Addr) := [(14, 63), (15, 98), (16, 84), (18, 91), (19, 70), (32, 105)]
def opOf (s : Int) : Option Operator := match s with
  | .ofNat 14 => some .Add
  | .ofNat 15 => some .Sub
  | .ofNat 16 => some .Mult
  | .ofNat 18 => some .BitOr
  | .ofNat 19 => some .BitAnd
  | .ofNat 32 => some .BitXor
  | _ => none
def deedOp (a : Addr) : Option Operator := match a with
  | 63 => some .Add
  | 98 => some .Sub
  | 84 => some .Mult
  | 91 => some .BitOr
  | 70 => some .BitAnd
  | 105 => some .BitXor
  | _ => none
def deedT (fv : V) (vs : List V) (hp : Hp) : Option (V × Hp) := match fv with
  | .val (.ref a) => (deedOp a).bind fun op => opF op vs hp
  | _ => none
theorem hT_deed (B : Bs C) : FnT C (n + 1) deedT := fun fv vs hp r e => by
  unfold deedT at e
  split at e
  · rename_i a
    refine ⟨a, rfl, ?_⟩
    unfold deedOp at e
    split at e <;> first | exact ⟨B.k_add, h_add B⟩ | exact ⟨B.k_sub, h_sub B⟩ | exact ⟨B.k_mul, h_mul B⟩ | exact ⟨B.k_or_, h_or_ B⟩ | exact ⟨B.k_and_, h_and_ B⟩ | exact ⟨B.k_xor, h_xor B⟩ | cases e
  · cases e
/-- the pile and what it stands on -/
def WI (syms : List Int) (st : List (List Int)) (hp : Hp) : Prop := hp[0]? = some (.list (IL syms)) ∧ hp[1]? = some (.dict (dgV deedsT)) ∧ ∃ refs, hp[2]? = some (.list refs) ∧ refs.length ≤ 100 ∧ All2 (fun v a => ∃ k, 3 ≤ k ∧ v = .ref k ∧ hp[k]? = some (.list (IL a))) refs st
theorem WI.len {syms : List Int} {st : List (List Int)} {hp : Hp} (h : WI syms st hp) : 3 ≤ hp.length := h.2.2.elim fun _ q => (List.getElem?_eq_some_iff.mp q.1).1
theorem WI.ext {syms : List Int} {st : List (List Int)} {hp : Hp} (h : WI syms st hp) (g : Hp) : WI syms st (hp ++ g) :=
  ⟨look_at h.1, look_at h.2.1, h.2.2.imp fun refs q => ⟨look_at q.1, q.2.1, q.2.2.mono fun v a y => y.imp fun k y => ⟨y.1, y.2.1, look_at y.2.2⟩⟩⟩
theorem WI.set {syms : List Int} {st st' : List (List Int)} {hp : Hp} (h : WI syms st hp) {refs' : List V} (hl : refs'.length ≤ 100) (hr : All2 (fun v a => ∃ k, 3 ≤ k ∧ v = .ref k ∧ hp[k]? = some (.list (IL a))) refs' st') : WI syms st' (hp.set 2 (.list refs')) :=
  ⟨(List.getElem?_set_ne (by decide)).trans h.1, (List.getElem?_set_ne (by decide)).trans h.2.1, refs', List.getElem?_set_self h.len, hl, hr.mono fun v a y => y.imp fun k y => ⟨y.1, y.2.1, (List.getElem?_set_ne (Nat.ne_of_lt y.1)).trans y.2.2⟩⟩
theorem WI.push {syms a : List Int} {st : List (List Int)} {hp : Hp} {k : Nat} (h : WI syms st hp) (hk : hp[k]? = some (.list (IL a))) (h3 : 3 ≤ k) (hl : st.length < 100) : ∃ refs, hp[2]? = some (.list refs) ∧ refs.length ≤ 1000 ∧ WI syms (st ++ [a]) (hp.set 2 (.list (refs ++ [.ref k]))) :=
  h.2.2.imp fun refs q => ⟨q.1, Nat.le_trans q.2.1 (by decide), h.set (by rw [List.length_append, q.2.2.length]; exact hl) (q.2.2.snoc ⟨k, h3, rfl, hk⟩)⟩
theorem All2.unsnoc {α β : Type} {R : α → β → Prop} : ∀ {as : List α} {bs : List β} {b : β}, All2 R as (bs ++ [b]) → ∃ as' a, as = as' ++ [a] ∧ All2 R as' bs ∧ R a b
  | _, [], _, .cons h .nil => ⟨[], _, rfl, .nil, h⟩
  | _, _ :: bs, _, .cons h r => (All2.unsnoc r).elim fun as' q => q.elim fun a q => ⟨_ :: as', a, by rw [q.1]; rfl, .cons h q.2.1, q.2.2⟩
theorem WI.pop {syms a : List Int} {st : List (List Int)} {hp : Hp} (h : WI syms (st ++ [a]) hp) : ∃ refs k, hp[2]? = some (.list refs) ∧ refs.length ≤ 1000 ∧ refs.getLast? = some (.ref k) ∧ 3 ≤ k ∧ hp[k]? = some (.list (IL a)) ∧ WI syms st (hp.set 2 (.list refs.dropLast)) := by
  obtain ⟨refs, h2, hl, hr⟩ := h.2.2
  obtain ⟨as', v, rfl, hr', k, h3, rfl, hk⟩ := hr.unsnoc
  rw [List.length_append] at hl
  exact ⟨_, k, h2, by rw [List.length_append]; exact Nat.le_trans hl (by decide), List.getLast?_concat, h3, hk, by rw [List.dropLast_concat]; exact h.set (Nat.le_of_succ_le hl) hr'⟩
theorem set_keep {hp : Hp} {k : Nat} {o o' : O} (h : hp[k]? = some o) (h3 : 3 ≤ k) : (hp.set 2 o')[k]? = some o := (List.getElem?_set_ne (Nat.ne_of_lt h3)).trans h
end
end Mine

open PySem PySem.Calls PySem.W PySem.Spec PyProof.Rows
set_option Elab.async false
set_option autoImplicit false
set_option maxRecDepth 100000
set_option genSizeOf false
set_option genInjectivity false
set_option linter.unusedVariables false
namespace Mine
noncomputable section
variable {C : Cx} {n : Nat} {env : Env} {ns : List Str}
theorem app_eq2 {x : Option (V × Hp)} {v : V} {hp hp1 : Hp} {i : Nat} {xs ys : List V} {ρ : Rho} (h0 : hp[i]? = some (.list ys)) (hx : x = some (v, hp1)) (hi : hp1[i]? = some (.list xs)) (hl : xs.length ≤ 1000) : (bV (bL hp[i]? fun _ => bV x fun v hp => bL hp[i]? fun xs => bG (xs.length ≤ 1000) (some (V.val .none, hp.set i (.list (xs ++ [v]))))) fun v hp => match v with | .val .none => some (Fl.next, ρ, hp) | _ => none) = some (.next, ρ, hp1.set i (.list (xs ++ [v]))) := by
  rw [bL_eq h0]; exact app_eq hx hi hl
theorem pop_eq {hp : Hp} {i : Nat} {xs : List V} {v : V} (h0 : hp[i]? = some (.list xs)) (hl : xs.length ≤ 1000) (hv : xs.getLast? = some v) : (bL hp[i]? fun _ => bL hp[i]? fun xs => bG (xs.length ≤ 1000) (xs.getLast?.map fun v => (v, hp.set i (.list xs.dropLast)))) = some (v, hp.set i (.list xs.dropLast)) := by
  rw [bL_eq h0, bL_eq h0, bG_eq hl, hv]; rfl
def ints17 : List Int := (List.range 17).map fun (i : Nat) => (i : Int)
def zipW (op : Operator) : List Int → List Int → Option (List Int)
  | [], [] => some []
  | a :: l, b :: r => (binI op a b).bind fun c => (zipW op l r).map (c :: ·)
  | _, _ => none
/-- one deed on the pile, its top first -/
def stepW (s : Int) (S : List (List Int)) : Option (List (List Int)) :=
  bG (S.length < 50) (if 256 ≤ s then some (List.replicate 17 (s - 256) :: S) else if s = 1 then some (ints17 :: S) else if s = 31 then (match S with
    | a :: S => bG (a.length = 17) (some (a.map Builtin.bitNot :: S))
    | _ => none) else (match S with
    | r :: l :: S => (opOf s).bind fun op => bG (l.length = 17 ∧ r.length = 17) ((zipW op l r).map (· :: S))
    | _ => none))
def runW : List Int → List (List Int) → Option (List Int)
  | s :: rest, S => if s = 0 then S.head? else (stepW s S).bind (runW rest)
  | [], _ => none
def worthsF (vs : List V) (hp : Hp) : Option (V × Hp) := oneR vs fun i => bIs hp[i]? fun l => bG (l.length ≤ 100) ((runW l []).map fun w => (.ref hp.length, hp ++ [.list (IL w)]))
abbrev wR (j : Nat) (a b c d e : Option V) : Rho := [some (.ref 0), some (.ref 1), some (.ref 2), some (.int j), a, b, c, d, e]
theorem lookI_deed {s : Int} {op : Operator} (h : opOf s = some op) : ∃ a, lookI s (dgV deedsT) = some (.val (.ref a)) ∧ deedOp a = some op := by
  unfold opOf at h
  split at h <;> first | (cases h; exact ⟨_, rfl, rfl⟩) | cases h
theorem zipW_at {op : Operator} {hp : Hp} : ∀ {l r w : List Int}, zipW op l r = some w → ∀ (j : Nat) (p q : Int), l[j]? = some p → r[j]? = some q → ∃ c, w[j]? = some c ∧ binI op p q = some c
  | [], [], _, _, j, p, q, h, _ => nomatch h
  | a :: l, b :: r, w, e, j, p, q, h1, h2 => by
    obtain ⟨c, hc, e⟩ := Option.bind_eq_some_iff.mp e
    obtain ⟨w', hw, rfl⟩ := Option.map_eq_some_iff.mp e
    cases j with
    | zero => cases h1; cases h2; exact ⟨c, rfl, hc⟩
    | succ j => exact zipW_at (hp := hp) hw j p q h1 h2
theorem zipW_len {op : Operator} : ∀ {l r w : List Int}, zipW op l r = some w → w.length = l.length
  | [], [], _, e => by cases e; rfl
  | a :: l, b :: r, w, e => by
    obtain ⟨c, hc, e⟩ := Option.bind_eq_some_iff.mp e
    obtain ⟨w', hw, rfl⟩ := Option.map_eq_some_iff.mp e
    exact congrArg Nat.succ (zipW_len hw)
/-- the element: a deed of two items -/
def deedE : FV := fun ρ hp => bV ((getR ρ 1).map fun v => (v, hp)) fun f hp => bVs (bV (bR ((getR ρ 3).map fun v => (v, hp)) fun i hp => bI ((getR ρ 0).map fun v => (v, hp)) fun k hp => bL hp[i]? fun xs => bG (0 ≤ k ∧ k ≤ 1000) (xs[k.toNat]?.map fun v => (v, hp))) fun a' hp => bVs (bV (bR ((getR ρ 2).map fun v => (v, hp)) fun i hp => bI ((getR ρ 0).map fun v => (v, hp)) fun k hp => bL hp[i]? fun xs => bG (0 ≤ k ∧ k ≤ 1000) (xs[k.toNat]?.map fun v => (v, hp))) fun a' hp => bVs (some ([], hp)) fun b hp => some (a' :: b, hp)) fun b hp => some (a' :: b, hp)) fun vs hp => deedT f vs hp
theorem deed_elt {hp : Hp} {kl kr a : Nat} {l r w : List Int} {op : Operator} (hl : hp[kl]? = some (.list (IL l))) (hr : hp[kr]? = some (.list (IL r))) (ha : deedOp a = some op) (h1 : l.length = 17) (h2 : r.length = 17) (hz : zipW op l r = some w) :
    All2 (fun v u => deedE (some v :: [some (.val (.ref a)), some (.ref kr), some (.ref kl)]) hp = some (u, hp)) (rangeVs 17) (IL w) := by
  have hw := zipW_len hz
  refine all2_of (by rw [rangeVs, List.length_map, List.length_range, map_len, hw, h1]) fun j v u e1 e2 => ?_
  obtain ⟨j', e3, rfl⟩ := Option.map_eq_some_iff.mp (List.getElem?_map .. ▸ e1)
  obtain ⟨hj, e4⟩ := List.getElem?_eq_some_iff.mp e3
  rw [List.getElem_range] at e4
  subst e4
  rw [List.length_range] at hj
  obtain ⟨p, hp'⟩ : ∃ p, l[j]? = some p := ⟨_, List.getElem?_eq_getElem (by omega)⟩
  obtain ⟨q, hq⟩ : ∃ q, r[j]? = some q := ⟨_, List.getElem?_eq_getElem (by omega)⟩
  obtain ⟨c, hc, hb⟩ := zipW_at (hp := hp) hz j p q hp' hq
  rw [List.getElem?_map, hc] at e2
  cases e2
  show bVs (bV (bL hp[kl]? _) _) _ = _
  rw [bL_eq hl, at_eq (by omega) hp']
  show bVs (bVs (bV (bL hp[kr]? _) _) _) _ = _
  rw [bL_eq hr, at_eq (by omega) hq]
  show (deedOp a).bind _ = _
  rw [ha]
  show (binI op p q).map _ = _
  rw [hb]; rfl
theorem rep_IL : ∀ (m : Nat) (x : Int), rep m [.int x] = IL (List.replicate m x)
  | 0, _ => rfl
  | m + 1, x => by show .int x :: rep m [.int x] = _; rw [rep_IL m x]; rfl
theorem range17 : rangeVs 17 = IL ints17 := by rw [rangeVs, ints17, IL, List.map_map]; rfl
theorem methX {x : Str} {p1 : Pos} {name : Str} {apos pos : Pos} {args : List Expr} (hf : methodCallForm args.length (backTo pos (starEach args env)) [] = true) (hl : (apos.endLine == pos.line) = true) : MethOK env (.Name x p1) name apos pos args := ⟨do return (← importBound (.Name x p1) env).getD true, by
  show (do let ov ← eval (.Name x p1) env; standAt apos.atName; methodCall (.Name x p1) name apos pos env ov args.length (backTo pos (starEach args env)) []) = _
  refine congrArg (eval (.Name x p1) env >>= ·) (funext fun ov => congrArg (standAt apos.atName >>= ·) (funext fun _ => ?_))
  unfold methodCall calleeOf methodCallPos
  rw [hf, hl]; rfl⟩
theorem methA {x : Str} {p1 : Pos} {e : Expr} {apos pos : Pos} (he : notStar e = true) (hl : (apos.endLine == pos.line) = true) : MethOK env (.Name x p1) "append" apos pos [e] := methX (by
  cases e with
  | Starred => cases he
  | _ => rfl) hl
theorem methP {x : Str} {p1 : Pos} {apos pos : Pos} (hl : (apos.endLine == pos.line) = true) : MethOK env (.Name x p1) "pop" apos pos [] := methX rfl hl
/-- what an append to the pile does -/
theorem wor_app {syms a : List Int} {S : List (List Int)} {hp g : Hp} {k : Nat} {ρ : Rho} {x : Str} {e : Expr} {E : FV} {p1 p2 p3 p4 : Pos} (M : (p2.endLine == p3.line) = true) (hx : ns[2]? = some x) (hE : Ev C n env ns e E) (he : notStar e = true) (hi : interactive env = false) (hs : swapsWith (.Call (.Attribute (.Name x p1) "append" p2) [e] [] p3) none p4.line env = pure false)
    (hI : WI syms S.reverse hp) (hl : S.length < 50) (hρ : getR ρ 2 = some (.ref 2)) (h : E ρ hp = some (.ref (hp.length + k), hp ++ g)) (hg : g[k]? = some (.list (IL a))) : ∃ hp', Tri1 C n env ns 3 (.Expr (.Call (.Attribute (.Name x p1) "append" p2) [e] [] p3) p4) ρ hp .next ρ hp' ∧ WI syms (a :: S).reverse hp' := by
  obtain ⟨refs, h2, hlr, hW⟩ := (hI.ext g).push (k := hp.length + k) (by rw [look_new]; exact hg) (Nat.le_trans hI.len (Nat.le_add_right _ _)) (by rw [List.length_reverse]; omega)
  obtain ⟨ys, hys, _⟩ := hI.2.2
  rw [List.reverse_cons]
  refine ⟨_, T_ex (Ex_expr (Ev_append (methA he M) (Ev_var 2 hx) hE he) hi hs) ?_ hI.len, hW⟩
  show bV (bR ((getR ρ 2).map _) _) _ = _
  rw [hρ]
  exact app_eq2 hys h h2 hlr
/-- a pop of the pile into a name -/
theorem wor_pop {syms a : List Int} {S : List (List Int)} {hp : Hp} {ρ : Rho} {i : Nat} {x y : Str} {p1 p2 p3 p4 p5 : Pos} (M : (p2.endLine == p3.line) = true) (hx : ns[2]? = some x) (hy : ns[i]? = some y) (hs : swapsWith (.Call (.Attribute (.Name x p1) "pop" p2) [] [] p3) (some (.Name y p4)) p5.line env = pure false)
    (hI : WI syms (a :: S).reverse hp) (hρ : getR ρ 2 = some (.ref 2)) : ∃ k hp', Tri1 C n env ns 3 (.Assign [.Name y p4] (.Call (.Attribute (.Name x p1) "pop" p2) [] [] p3) p5) ρ hp .next (ρ.set i (some (.ref k))) hp' ∧ WI syms S.reverse hp' ∧ 3 ≤ k ∧ hp'[k]? = some (.list (IL a)) ∧ ∀ (k' : Nat) (o : O), 3 ≤ k' → hp[k']? = some o → hp'[k']? = some o := by
  rw [List.reverse_cons] at hI
  obtain ⟨refs, k, h2, hl, hv, h3, hk, hW⟩ := hI.pop
  refine ⟨k, _, T_ex (Ex_assign i hy hs (Ev_pop (methP M) (Ev_var 2 hx))) ?_ hI.len, hW, h3, set_keep hk h3, fun k' o h h' => set_keep h' h⟩
  show bV (bR ((getR ρ 2).map _) _) _ = _
  rw [hρ]
  exact asg_eq (pop_eq h2 hl hv)
set_option maxHeartbeats 1000000 in
theorem wor_turn (B : Bs C) {L : Addr} {cdv : Value} {syms : List Int} {S S' : List (List Int)} {hp : Hp} {j : Nat} {s : Int} {a b c d e : Option V} (hI : WI syms S.reverse hp) (hj : j ≤ 1000) (hs : syms[j]? = some s) (hst : stepW s S = some S') :
    ∃ a' b' c' d' e' hp', Tri C (n + 1) (envOfC "_law_worths" (fdS (bd 77)) L 148 cdv) ["symbols", "deeds", "pile", "place", "symbol", "over", "deed", "right", "left"] 3 (stB ((fdB (bd 77))[3]?.getD default)) (wR j a b c d e) hp .next (wR (j + 1) a' b' c' d' e') hp' ∧ WI syms S'.reverse hp' := by
  have h_ISNONTERMINAL := h_ISNONTERMINAL (n := n) B
  have h_inv := h_inv (n := n) B
  have hT := hT_deed (n := n) B
  have t1 : Tri1 C (n + 1) (envOfC "_law_worths" (fdS (bd 77)) L 148 cdv) ["symbols", "deeds", "pile", "place", "symbol", "over", "deed", "right", "left"] 3 ((stB ((fdB (bd 77))[3]?.getD default))[0]?.getD default) (wR j a b c d e) hp .next (wR j (some (.int s)) b c d e) hp := T_ex (Ex_assign 4 rfl rfl (Ev_idx (Ev_var 0 rfl) (Ev_var 3 rfl) fun _ _ => ⟨_, rfl⟩)) (asg_eq ((bL_eq hI.1).trans (at_eq hj hs))) hI.len
  have t2 : Tri1 C (n + 1) (envOfC "_law_worths" (fdS (bd 77)) L 148 cdv) ["symbols", "deeds", "pile", "place", "symbol", "over", "deed", "right", "left"] 3 ((stB ((fdB (bd 77))[3]?.getD default))[1]?.getD default) (wR j (some (.int s)) b c d e) hp .next (wR (j + 1) (some (.int s)) b c d e) hp := T_ex (Ex_aug 3 rfl Ev_int) rfl hI.len
  unfold stepW at hst
  refine bGE hst fun hl hst => ?_
  by_cases c1 : 256 ≤ s
  · rw [if_pos c1] at hst
    cases hst
    obtain ⟨hp', t3, hW⟩ : ∃ hp', Tri1 C (n + 1) (envOfC "_law_worths" (fdS (bd 77)) L 148 cdv) ["symbols", "deeds", "pile", "place", "symbol", "over", "deed", "right", "left"] 3 ((stB ((stB ((fdB (bd 77))[3]?.getD default))[2]?.getD default))[0]?.getD default) (wR (j + 1) (some (.int s)) b c d e) hp .next (wR (j + 1) (some (.int s)) b c d e) hp' ∧ WI syms (List.replicate 17 (s - 256) :: S).reverse hp' := wor_app (k := 1) (g := [.list [.int (s - 256)], .list (rep 17 [.int (s - 256)])]) (ρ := wR (j + 1) (some (.int s)) b c d e) rfl rfl (Ev_mulL (Ev_list (Evs_cons rfl (Ev_bin (Ev_var 4 rfl) Ev_int) Evs_nil)) Ev_int) rfl rfl rfl hI hl rfl (by
      show bL (hp ++ [_])[hp.length]? _ = _
      rw [bL_eq (show (hp ++ [_])[hp.length]? = _ from look_new hp _ 0)]
      show bG (0 < [V.int (s - 256)].length ∧ _ ∧ _) _ = _
      rw [bG_eq (show 0 < [V.int (s - 256)].length ∧ [V.int (s - 256)].length * Int.toNat 17 ≤ 1000 ∧ Int.natAbs 17 ≤ 1000 from ⟨Nat.zero_lt_one, Nat.le_of_ble_eq_true rfl, by decide⟩)]
      show some (V.ref (hp ++ [_]).length, (hp ++ [_]) ++ [_]) = _
      rw [List.length_append, List.append_assoc]; rfl) (congrArg (fun l => some (O.list l)) (rep_IL 17 (s - 256)))
    exact ⟨_, _, _, _, _, hp', T_cons t1 (T_cons t2 (T_cons (T_ifT (Tr_bl (Ev_call ⟨rfl, by decide⟩ B.n_ISNONTERMINAL B.k_ISNONTERMINAL (Evs_cons rfl (Ev_var 4 rfl) Evs_nil) rfl h_ISNONTERMINAL) fun _ => rfl) (b := decide (256 ≤ s)) rfl (decide_eq_true c1) hI.len (T_cons t3 T_nil)) T_nil)), hW⟩
  rw [if_neg c1] at hst
  have i1 : ∀ {ρ' : Rho} {hp' : Hp}, Tri C (n + 1) (envOfC "_law_worths" (fdS (bd 77)) L 148 cdv) ["symbols", "deeds", "pile", "place", "symbol", "over", "deed", "right", "left"] 3 (stO ((stB ((fdB (bd 77))[3]?.getD default))[2]?.getD default)) (wR (j + 1) (some (.int s)) b c d e) hp .next ρ' hp' → Tri C (n + 1) (envOfC "_law_worths" (fdS (bd 77)) L 148 cdv) ["symbols", "deeds", "pile", "place", "symbol", "over", "deed", "right", "left"] 3 (stB ((fdB (bd 77))[3]?.getD default)) (wR j a b c d e) hp .next ρ' hp' := fun h => T_cons t1 (T_cons t2 (T_cons (T_ifF (Tr_bl (Ev_call ⟨rfl, by decide⟩ B.n_ISNONTERMINAL B.k_ISNONTERMINAL (Evs_cons rfl (Ev_var 4 rfl) Evs_nil) rfl h_ISNONTERMINAL) fun _ => rfl) (b := decide (256 ≤ s)) rfl (decide_eq_false c1) hI.len h) T_nil))
  by_cases c2 : s = 1
  · rw [if_pos c2] at hst
    cases hst
    obtain ⟨hp', t3, hW⟩ : ∃ hp', Tri1 C (n + 1) (envOfC "_law_worths" (fdS (bd 77)) L 148 cdv) ["symbols", "deeds", "pile", "place", "symbol", "over", "deed", "right", "left"] 3 ((stB ((stO ((stB ((fdB (bd 77))[3]?.getD default))[2]?.getD default))[0]?.getD default))[0]?.getD default) (wR (j + 1) (some (.int s)) b c d e) hp .next (wR (j + 1) (some (.int s)) b c d e) hp' ∧ WI syms (ints17 :: S).reverse hp' := wor_app (k := 1) (g := [.range 17, .list (rangeVs 17)]) (ρ := wR (j + 1) (some (.int s)) b c d e) rfl rfl (Ev_callT ⟨rfl, by decide⟩ B.n_list boot_list (by decide) (Evs_cons rfl (Ev_callT ⟨rfl, by decide⟩ B.n_range boot_range (by decide) (Evs_cons rfl Ev_int Evs_nil) rfl T_range) Evs_nil) rfl T_list) rfl rfl rfl hI hl rfl (by
      show bRg (hp ++ [_])[hp.length]? _ = _
      rw [show (hp ++ [_])[hp.length]? = _ from look_new hp _ 0]
      show some (V.ref (hp ++ [_]).length, (hp ++ [_]) ++ [_]) = _
      rw [List.length_append, List.append_assoc]; rfl) (congrArg (fun l => some (O.list l)) range17)
    exact ⟨_, _, _, _, _, hp', i1 (T_cons (T_ifT (Tr_cmp rfl (Cmp_int (Ev_var 4 rfl) Ev_int)) (b := s == 1) rfl (beq_iff_eq.mpr c2) hI.len (T_cons t3 T_nil)) T_nil), hW⟩
  rw [if_neg c2] at hst
  have i2 : ∀ {ρ' : Rho} {hp' : Hp}, Tri C (n + 1) (envOfC "_law_worths" (fdS (bd 77)) L 148 cdv) ["symbols", "deeds", "pile", "place", "symbol", "over", "deed", "right", "left"] 3 (stO ((stO ((stB ((fdB (bd 77))[3]?.getD default))[2]?.getD default))[0]?.getD default)) (wR (j + 1) (some (.int s)) b c d e) hp .next ρ' hp' → Tri C (n + 1) (envOfC "_law_worths" (fdS (bd 77)) L 148 cdv) ["symbols", "deeds", "pile", "place", "symbol", "over", "deed", "right", "left"] 3 (stB ((fdB (bd 77))[3]?.getD default)) (wR j a b c d e) hp .next ρ' hp' := fun h => i1 (T_cons (T_ifF (Tr_cmp rfl (Cmp_int (Ev_var 4 rfl) Ev_int)) (b := s == 1) rfl (beq_eq_false_iff_ne.mpr c2) hI.len h) T_nil)
  by_cases c3 : s = 31
  · rw [if_pos c3] at hst
    cases S with
    | nil => cases hst
    | cons x S =>
      refine bGE hst fun hx hst => ?_
      cases hst
      obtain ⟨k, hp1, t3, hI1, h3, hk, _⟩ : ∃ k hp', Tri1 C (n + 1) (envOfC "_law_worths" (fdS (bd 77)) L 148 cdv) ["symbols", "deeds", "pile", "place", "symbol", "over", "deed", "right", "left"] 3 ((stB ((stO ((stO ((stB ((fdB (bd 77))[3]?.getD default))[2]?.getD default))[0]?.getD default))[0]?.getD default))[0]?.getD default) (wR (j + 1) (some (.int s)) b c d e) hp .next (List.set (wR (j + 1) (some (.int s)) b c d e) 5 (some (.ref k))) hp' ∧ WI syms (S).reverse hp' ∧ 3 ≤ k ∧ hp'[k]? = some (.list (IL x)) ∧ ∀ (k' : Nat) (o : O), 3 ≤ k' → hp[k']? = some o → hp'[k']? = some o := wor_pop (i := 5) (ρ := wR (j + 1) (some (.int s)) b c d e) rfl rfl rfl rfl hI rfl
      obtain ⟨hp', t4, hW⟩ : ∃ hp', Tri1 C (n + 1) (envOfC "_law_worths" (fdS (bd 77)) L 148 cdv) ["symbols", "deeds", "pile", "place", "symbol", "over", "deed", "right", "left"] 3 ((stB ((stO ((stO ((stB ((fdB (bd 77))[3]?.getD default))[2]?.getD default))[0]?.getD default))[0]?.getD default))[1]?.getD default) (wR (j + 1) (some (.int s)) (some (.ref k)) c d e) hp1 .next (wR (j + 1) (some (.int s)) (some (.ref k)) c d e) hp' ∧ WI syms (x.map Builtin.bitNot :: S).reverse hp' := wor_app (k := 0) (g := [.list (IL (x.map Builtin.bitNot))]) (ρ := wR (j + 1) (some (.int s)) (some (.ref k)) c d e) rfl rfl (Ev_comp (caps := []) (cns := []) ⟨rfl, by decide, by decide, rfl, by decide, by decide, rfl, by decide, (fun _ h => nomatch h), by decide, by decide⟩ (fun _ => rfl) (Ev_var 5 rfl) (fun _ => (Ev_call ⟨rfl, by decide⟩ B.n_inv B.k_inv (Evs_cons rfl (Ev_var 0 rfl) Evs_nil) rfl h_inv))) rfl rfl rfl hI1 (Nat.lt_of_succ_lt hl) rfl
        (compF_eq (kd := .list) (k := k) (rest := IL x) rfl (by rw [hk]; rfl) (all2_of (by rw [map_len, map_len, List.length_map]) fun m v u e1 e2 => by
          obtain ⟨p, h5, rfl⟩ := Option.map_eq_some_iff.mp (List.getElem?_map .. ▸ e1)
          rw [List.getElem?_map, List.getElem?_map, h5] at e2
          cases e2; rfl) (items_list hk) (by rw [map_len, hx]; decide)) rfl
      exact ⟨_, _, _, _, _, hp', i2 (T_cons (T_ifT (Tr_cmp rfl (Cmp_int (Ev_var 4 rfl) Ev_int)) (b := s == 31) rfl (beq_iff_eq.mpr c3) hI.len (T_cons t3 (T_cons t4 T_nil))) T_nil), hW⟩
  rw [if_neg c3] at hst
  have i3 : ∀ {ρ' : Rho} {hp' : Hp}, Tri C (n + 1) (envOfC "_law_worths" (fdS (bd 77)) L 148 cdv) ["symbols", "deeds", "pile", "place", "symbol", "over", "deed", "right", "left"] 3 (stO ((stO ((stO ((stB ((fdB (bd 77))[3]?.getD default))[2]?.getD default))[0]?.getD default))[0]?.getD default)) (wR (j + 1) (some (.int s)) b c d e) hp .next ρ' hp' → Tri C (n + 1) (envOfC "_law_worths" (fdS (bd 77)) L 148 cdv) ["symbols", "deeds", "pile", "place", "symbol", "over", "deed", "right", "left"] 3 (stB ((fdB (bd 77))[3]?.getD default)) (wR j a b c d e) hp .next ρ' hp' := fun h => i2 (T_cons (T_ifF (Tr_cmp rfl (Cmp_int (Ev_var 4 rfl) Ev_int)) (b := s == 31) rfl (beq_eq_false_iff_ne.mpr c3) hI.len h) T_nil)
  cases S with
  | nil => cases hst
  | cons r S => cases S with
    | nil => cases hst
    | cons l S =>
      obtain ⟨op, hop, hst⟩ := Option.bind_eq_some_iff.mp hst
      refine bGE hst fun hlr hst => ?_
      obtain ⟨w, hw, rfl⟩ := Option.map_eq_some_iff.mp hst
      obtain ⟨f, hf, hdf⟩ := lookI_deed hop
      have t3 : Tri1 C (n + 1) (envOfC "_law_worths" (fdS (bd 77)) L 148 cdv) ["symbols", "deeds", "pile", "place", "symbol", "over", "deed", "right", "left"] 3 ((stO ((stO ((stO ((stB ((fdB (bd 77))[3]?.getD default))[2]?.getD default))[0]?.getD default))[0]?.getD default))[0]?.getD default) (wR (j + 1) (some (.int s)) b c d e) hp .next (wR (j + 1) (some (.int s)) b (some (.val (.ref f))) d e) hp := T_ex (Ex_assign 6 rfl rfl (Ev_idxD (Ev_var 1 rfl) (Ev_var 4 rfl) fun _ _ => ⟨_, rfl⟩)) (asg_eq (by
        show bD hp[1]? _ = _
        rw [hI.2.1]
        show (lookI s (dgV deedsT)).map _ = _
        rw [hf]; rfl)) hI.len
      obtain ⟨k, hp1, t4, hI1, h3, hk, _⟩ : ∃ k hp', Tri1 C (n + 1) (envOfC "_law_worths" (fdS (bd 77)) L 148 cdv) ["symbols", "deeds", "pile", "place", "symbol", "over", "deed", "right", "left"] 3 ((stO ((stO ((stO ((stB ((fdB (bd 77))[3]?.getD default))[2]?.getD default))[0]?.getD default))[0]?.getD default))[1]?.getD default) (wR (j + 1) (some (.int s)) b (some (.val (.ref f))) d e) hp .next (List.set (wR (j + 1) (some (.int s)) b (some (.val (.ref f))) d e) 7 (some (.ref k))) hp' ∧ WI syms (l :: S).reverse hp' ∧ 3 ≤ k ∧ hp'[k]? = some (.list (IL r)) ∧ ∀ (k' : Nat) (o : O), 3 ≤ k' → hp[k']? = some o → hp'[k']? = some o := wor_pop (i := 7) (ρ := wR (j + 1) (some (.int s)) b (some (.val (.ref f))) d e) rfl rfl rfl rfl hI rfl
      obtain ⟨k', hp2, t5, hI2, h3', hk', hkeep⟩ : ∃ k2 hp', Tri1 C (n + 1) (envOfC "_law_worths" (fdS (bd 77)) L 148 cdv) ["symbols", "deeds", "pile", "place", "symbol", "over", "deed", "right", "left"] 3 ((stO ((stO ((stO ((stB ((fdB (bd 77))[3]?.getD default))[2]?.getD default))[0]?.getD default))[0]?.getD default))[2]?.getD default) (wR (j + 1) (some (.int s)) b (some (.val (.ref f))) (some (.ref k)) e) hp1 .next (List.set (wR (j + 1) (some (.int s)) b (some (.val (.ref f))) (some (.ref k)) e) 8 (some (.ref k2))) hp' ∧ WI syms (S).reverse hp' ∧ 3 ≤ k2 ∧ hp'[k2]? = some (.list (IL l)) ∧ ∀ (k' : Nat) (o : O), 3 ≤ k' → hp1[k']? = some o → hp'[k']? = some o := wor_pop (i := 8) (ρ := wR (j + 1) (some (.int s)) b (some (.val (.ref f))) (some (.ref k)) e) rfl rfl rfl rfl hI1 rfl
      obtain ⟨hp', t6, hW⟩ : ∃ hp', Tri1 C (n + 1) (envOfC "_law_worths" (fdS (bd 77)) L 148 cdv) ["symbols", "deeds", "pile", "place", "symbol", "over", "deed", "right", "left"] 3 ((stO ((stO ((stO ((stB ((fdB (bd 77))[3]?.getD default))[2]?.getD default))[0]?.getD default))[0]?.getD default))[3]?.getD default) (wR (j + 1) (some (.int s)) b (some (.val (.ref f))) (some (.ref k)) (some (.ref k'))) hp2 .next (wR (j + 1) (some (.int s)) b (some (.val (.ref f))) (some (.ref k)) (some (.ref k'))) hp' ∧ WI syms (w :: S).reverse hp' := wor_app (k := 1) (g := [.range 17, .list (IL w)]) (ρ := wR (j + 1) (some (.int s)) b (some (.val (.ref f))) (some (.ref k)) (some (.ref k'))) rfl rfl (Ev_comp (caps := [6, 7, 8]) (cns := ["deed", "right", "left"]) ⟨rfl, by decide, by decide, rfl, by decide, by decide, rfl, by decide, (List.forall_mem_cons.mpr ⟨rfl, (List.forall_mem_cons.mpr ⟨rfl, (List.forall_mem_cons.mpr ⟨rfl, (fun _ h => nomatch h)⟩)⟩)⟩), by decide, by decide⟩ (fun _ => rfl) (Ev_callT ⟨rfl, by decide⟩ B.n_range boot_range (by decide) (Evs_cons rfl Ev_int Evs_nil) rfl T_range) (fun _ => (Ev_callV 1 rfl (Evs_cons rfl (Ev_idx (Ev_var 3 rfl) (Ev_var 0 rfl) fun _ _ => ⟨_, rfl⟩) (Evs_cons rfl (Ev_idx (Ev_var 2 rfl) (Ev_var 0 rfl) fun _ _ => ⟨_, rfl⟩) Evs_nil)) rfl hT))) rfl rfl rfl hI2 (Nat.lt_of_succ_lt (Nat.lt_of_succ_lt hl)) rfl (by
        have := compF_eq (elt := deedE) (fi := fun _ hp => some (.ref hp.length, hp ++ [.range 17])) (ρ := wR (j + 1) (some (.int s)) b (some (.val (.ref f))) (some (.ref k)) (some (.ref k'))) (caps := [6, 7, 8]) (hp := hp2) (kd := .range 17) rfl (by rw [show (hp2 ++ [_])[hp2.length]? = _ from look_new hp2 _ 0]; rfl) (deed_elt (look_at hk') (look_at (hkeep _ _ h3 hk)) hdf hlr.1 hlr.2 hw) items_range (by decide)
        rw [List.length_append, List.append_assoc] at this
        exact this) rfl
      exact ⟨_, _, _, _, _, hp', i3 (T_cons t3 (T_cons t4 (T_cons t5 (T_cons t6 T_nil)))), hW⟩
end
end Mine

open PySem PySem.Calls PySem.W PySem.Spec PyProof.Rows
set_option Elab.async false
set_option autoImplicit false
set_option maxRecDepth 100000
set_option genSizeOf false
set_option genInjectivity false
set_option linter.unusedVariables false
namespace Mine
noncomputable section
variable {C : Cx} {n : Nat} {env : Env} {ns : List Str}
theorem ClAt_listG {fv : Value} {i : Nat} {l r : List Int} {hp q : Hp} {k : Nat} {s : Shared} (B : Bs C) (hi : hp[i]? = some (.list (IL l))) (h : ClAt C n fv [.ref 0] [.list (IL l)] (.ref k) q s) (h0 : q[0]? = some (.list (IL l))) (hk : 1 ≤ k) (hr : q[k]? = some (.list (IL r))) : ClAt C n fv [.ref i] hp (.ref hp.length) (hp ++ [.list (IL r)]) s := by
  cases q with
  | nil => cases h0
  | cons o q =>
    cases h0
    cases k with
    | zero => cases hk
    | succ k => exact ClAt_frame (hp₀ := [.list (IL l)]) (g := q) B.hz (v₀ := .ref ([O.list (IL l)].length + k)) (vs₀ := [.ref 0]) (by rw [List.length_singleton, Nat.add_comm]; exact h) [i] (List.nodup_cons.mpr ⟨List.not_mem_nil, List.nodup_nil⟩) rfl (by rw [pickH, mapO, hi]; rfl) flat1 (.inr ⟨k, _, rfl, hr, flat_list, rfl, rfl⟩)
theorem drop_cons {α : Type} {l rest : List α} {j : Nat} {c : α} (h : l.drop j = c :: rest) : l[j]? = some c ∧ l.drop (j + 1) = rest := by
  refine ⟨?_, by rw [← List.drop_drop, h]; rfl⟩
  have := congrArg List.head? h
  rw [List.head?_drop] at this; exact this
theorem wor_run (B : Bs C) {L : Addr} {cdv : Value} {syms w : List Int} {t : FB} (ht : ∀ (j : Nat) (a b c d e : Option V) (hp : Hp) (s : Int), hp[0]? = some (.list (IL syms)) → j ≤ 1000 → syms[j]? = some s → t (wR j a b c d e) hp = some (!(s == 0), hp)) :
    ∀ (rest : List Int) (j : Nat) (S : List (List Int)) (hp : Hp) (a b c d e : Option V), syms.drop j = rest → j + rest.length ≤ 1000 → WI syms S.reverse hp → runW rest S = some w →
      ∃ m j' a' b' c' d' e' S' hp', WhR t (fun ρ hp ρ' hp' => Tri C (n + 1) (envOfC "_law_worths" (fdS (bd 77)) L 148 cdv) ["symbols", "deeds", "pile", "place", "symbol", "over", "deed", "right", "left"] 3 (stB ((fdB (bd 77))[3]?.getD default)) ρ hp .next ρ' hp') 3 m (wR j a b c d e) hp (wR j' a' b' c' d' e') hp' ∧ WI syms (w :: S').reverse hp'
  | [], _, _, _, _, _, _, _, _, _, _, _, h => nomatch h
  | s :: rest, j, S, hp, a, b, c, d, e, hd, hj, hI, h => by
    obtain ⟨h1, h2⟩ := drop_cons hd
    rw [List.length_cons] at hj
    have e1 := ht j a b c d e hp s hI.1 (by omega) h1
    unfold runW at h
    by_cases c0 : s = 0
    · rw [if_pos c0] at h
      cases S with
      | nil => cases h
      | cons x S =>
        cases h
        exact ⟨0, j, a, b, c, d, e, S, hp, ⟨by rw [e1, beq_iff_eq.mpr c0]; rfl, rfl⟩, hI⟩
    · rw [if_neg c0] at h
      obtain ⟨S', hst, h⟩ := Option.bind_eq_some_iff.mp h
      obtain ⟨a', b', c', d', e', hp', t1, hW⟩ := wor_turn (n := n) (L := L) (cdv := cdv) (a := a) (b := b) (c := c) (d := d) (e := e) B hI (by omega) h1 hst
      obtain ⟨m, j2, a2, b2, c2, d2, e2, S2, hp2, hm, hW2⟩ := wor_run B ht rest (j + 1) S' hp' a' b' c' d' e' h2 (by omega) hW h
      exact ⟨m + 1, j2, a2, b2, c2, d2, e2, S2, hp2, ⟨hp, _, hp', by rw [e1, beq_eq_false_iff_ne.mpr c0]; rfl, t1, hW.len, hm⟩, hW2⟩
def stT : Stmt → Expr
  | .While t _ _ _ => t
  | .If t _ _ _ => t
  | _ => .Name "" default
theorem T1_weak {w w' : Nat} {st : Stmt} {fl : Fl} {ρ ρ' : Rho} {hp hp' : Hp} (h : Tri1 C n env ns w' st ρ hp fl ρ' hp') (hw : w ≤ w') : Tri1 C n env ns w st ρ hp fl ρ' hp' := fun A s φ hr R H => wpF (h A s φ hr R H) fun _ _ ⟨φ', X, r⟩ => ⟨φ', ⟨X.S, take_le X.P hw, X.R, X.H⟩, r⟩
theorem wor_test (B : Bs C) {L : Addr} {cdv : Value} {syms : List Int} : ∃ t : FB, (∀ (j : Nat) (a b c d e : Option V) (hp : Hp) (s : Int), hp[0]? = some (.list (IL syms)) → j ≤ 1000 → syms[j]? = some s → t (wR j a b c d e) hp = some (!(s == 0), hp)) ∧ Tr C (n + 1) (envOfC "_law_worths" (fdS (bd 77)) L 148 cdv) ["symbols", "deeds", "pile", "place", "symbol", "over", "deed", "right", "left"] (stT ((fdB (bd 77))[3]?.getD default)) t := by
  have h_ISEOF := h_ISEOF (n := n) B
  refine ⟨_, fun j a b c d e hp s h0 hj hs => ?_, (Tr_not (Tr_bl (Ev_call ⟨rfl, by decide⟩ B.n_ISEOF B.k_ISEOF (Evs_cons rfl (Ev_idx (Ev_var 0 rfl) (Ev_var 3 rfl) fun _ _ => ⟨_, rfl⟩) Evs_nil) rfl h_ISEOF) fun _ => rfl))⟩
  show bB (bV (bVs (bV (bL hp[0]? _) _) _) _) _ = _
  rw [bL_eq h0, at_eq hj hs]; rfl
set_option maxHeartbeats 1000000 in
theorem h_law_worths (B : Bs C) : Fn C (n + 2) (.ref 148) worthsF := .of fun vs hp v hp' e => by
  obtain ⟨i, rfl, e⟩ := oneR_inv e
  obtain ⟨l, hl, e⟩ := bIs_inv e
  refine bGE e fun hlen e => ?_
  obtain ⟨w, hw, e⟩ := Option.map_eq_some_iff.mp e
  cases e
  obtain ⟨cdv, h⟩ := B.b_law_worths
  have W0 : WI l ([] : List (List Int)).reverse [.list (IL l), .dict (dgV deedsT), .list []] := ⟨rfl, rfl, [], rfl, by decide, .nil⟩
  intro A s φ cs
  obtain ⟨q, k, hb, h0, hk, hr⟩ : ∃ q k, Bd C (n + 1) (envOfC "_law_worths" (fdS (bd 77)) s.heap.objs.size 148 cdv) ["symbols", "deeds", "pile", "place", "symbol", "over", "deed", "right", "left"] (fdB (bd 77)) (argR ["symbols", "deeds", "pile", "place", "symbol", "over", "deed", "right", "left"] ["symbols"] [.ref 0]) [.list (IL l)] (.ref k) q ∧ q[0]? = some (.list (IL l)) ∧ 1 ≤ k ∧ q[k]? = some (.list (IL w)) := by
    obtain ⟨t, ht, htr⟩ := wor_test (n := n) (L := s.heap.objs.size) (cdv := cdv) (syms := l) B
    obtain ⟨m, j', a', b', c', d', e', S', hp', hm, hW⟩ := wor_run (n := n) (L := s.heap.objs.size) (cdv := cdv) B ht l 0 [] [.list (IL l), .dict (dgV deedsT), .list []] none none none none none rfl (by omega) W0 hw
    rw [List.reverse_cons] at hW
    have hWl := hW.len
    obtain ⟨refs, k, h2, hl, hv, h3, hk, hW⟩ := hW.pop
    refine ⟨_, k, ⟨_, wR j' a' b' c' d' e', T_cons (T_ex (ρ' := [some (.ref 0), some (.ref 1), none, none, none, none, none, none, none]) (hp' := [.list (IL l), .dict (dgV deedsT)]) (Ex_assign 1 rfl rfl (Ev_dictG (.cons ⟨rfl, by decide⟩ B.n_add (.cons ⟨rfl, by decide⟩ B.n_sub (.cons ⟨rfl, by decide⟩ B.n_mul (.cons ⟨rfl, by decide⟩ B.n_or_ (.cons ⟨rfl, by decide⟩ B.n_and_ (.cons ⟨rfl, by decide⟩ B.n_xor .nil)))))) (by decide) (by decide) (by decide))) rfl (Nat.le_of_ble_eq_true rfl)) (T_cons (T_ex (ρ' := [some (.ref 0), some (.ref 1), some (.ref 2), none, none, none, none, none, none]) (hp' := [.list (IL l), .dict (dgV deedsT), .list []]) (Ex_assign 2 rfl rfl (Ev_list Evs_nil)) rfl (Nat.le_of_ble_eq_true rfl)) (T_cons (T_ex (ρ' := wR 0 none none none none none) (hp' := [.list (IL l), .dict (dgV deedsT), .list []]) (Ex_assign 3 rfl rfl Ev_int) rfl (Nat.le_of_ble_eq_true rfl)) (T_cons (T1_weak (T_while htr (fun _ _ _ _ h => h) m (Nat.le_of_ble_eq_true rfl) hm) (Nat.succ_le_succ (Nat.zero_le _))) (T_consR (T_ex (Ex_ret (Ev_pop ⟨_, rfl⟩ (Ev_var 2 rfl))) (ret_eq (pop_eq h2 hl hv)) (Nat.le_trans (Nat.succ_le_succ (Nat.zero_le _)) hWl)))))), FlR.ret⟩, hW.1, by omega, set_keep hk h3⟩
  exact ClAt_listG B hl (ClAt_def (ns := ["symbols", "deeds", "pile", "place", "symbol", "over", "deed", "right", "left"]) h ⟨rfl, rfl, rfl, by decide, rfl, by decide, by decide, by decide⟩ rfl hb) h0 hk hr A φ cs
end
end Mine

open PySem PySem.Calls PySem.W PySem.Spec PyProof.Rows
set_option Elab.async false
set_option autoImplicit false
set_option maxRecDepth 100000
set_option genSizeOf false
set_option genInjectivity false
set_option linter.unusedVariables false
namespace Mine
noncomputable section
variable {C : Cx} {n : Nat} {env : Env} {ns : List Str}
/-! _law_cells -/
theorem fmod_nat (j : Nat) (m : Nat) : (j : Int).fmod (m : Int) = ((j % m : Nat) : Int) := by rw [Int.fmod_eq_emod_of_nonneg _ (Int.natCast_nonneg m)]; rfl
theorem mod_nat (j m : Nat) (h : (m : Int) ≠ 0) : binI .Mod (j : Int) (m : Int) = some ((j % m : Nat) : Int) := (bG_eq h).trans (congrArg some (fmod_nat j m))
theorem mod_eq {j : Nat} {hp : Hp} : (bI (some (V.int j, hp)) fun a hp => bI (some (V.int 4, hp)) fun b hp => (binI .Mod a b).map fun c => (V.int c, hp)) = some (V.int (j % 4 : Nat), hp) := congrArg (Option.map fun c => (V.int c, hp)) (mod_nat j 4 (by decide))
theorem bR_eq {β : Type} {x : Option (V × Hp)} {i : Nat} {hp : Hp} {k : Nat → Hp → Option β} (h : x = some (.ref i, hp)) : bR x k = k i hp := by rw [h]; rfl
theorem bI_eq {β : Type} {x : Option (V × Hp)} {a : Int} {hp : Hp} {k : Int → Hp → Option β} (h : x = some (.int a, hp)) : bI x k = k a hp := by rw [h]; rfl
def cellT (cells : List Int) (j : Nat) (x : Int) : List Int := cells.set (j % 4) (cells.getD (j % 4) 0 + x.fmod (10 ^ 6))
def cellL (cells : List Int) : Nat → List Int → List Int
  | _, [] => cells
  | j, x :: r => cellL (cellT cells j x) (j + 1) r
def pick20 (l : List Int) : List Int := (sliceRange (sliceBounds none (some 20) none l.length).1 (sliceBounds none (some 20) none l.length).2.1 (sliceBounds none (some 20) none l.length).2.2).filterMap (l[·]?)
def cells (l : List Int) : List Int := cellL [800, 41, 2115, 19] 0 (pick20 l)
theorem cellL_len {c : List Int} : ∀ {r : List Int} {j : Nat}, (cellL c j r).length = c.length := fun {r} {j} => by
  induction r generalizing c j with
  | nil => rfl
  | cons x r ih => exact ih.trans (List.length_set ..)
theorem pick_IL (l : List Int) : pickV (IL l) none (some 20) none = IL (pick20 l) := by
  unfold pickV pick20 IL
  rw [List.length_map, List.map_filterMap]
  exact congrArg (fun f => List.filterMap f _) (funext fun i => List.getElem?_map ..)
/-! the script: a list of the base, that no one writes -/
def onA {β : Type} (a : Addr) (v : V) (k : Option β) : Option β := match v with
  | .val (.ref b) => bG (b = a) k
  | _ => none
theorem onA_inv {β : Type} {a : Addr} {v : V} {k : Option β} {r : β} (e : onA a v k = some r) : v = .val (.ref a) ∧ k = some r := by
  cases v with
  | val c => cases c with
    | ref b => exact bGE e fun h e => ⟨by rw [h], e⟩
    | _ => cases e
  | _ => cases e
theorem onA_eq {β : Type} {a : Addr} {k : Option β} : onA a (.val (.ref a)) k = k := if_pos rfl
/-- the script stands in the base -/
structure Scr (C : Cx) (a : Addr) (l : List Int) : Prop where
  lst : ∃ cs, C.h₀.IsList a (List.toArray cs) ∧ IntsAre cs l
  short : l.length ≤ 1000
theorem Ev_sliceB {a : Addr} {l : List Int} (Sc : Scr C a l) {value : Expr} {lo hi st : Option Expr} {sp pos : Pos} {f : FV} {g1 g2 g3 : FP} (hf : Ev C n env ns value f) (h1 : Pt C n env ns lo g1) (h2 : Pt C n env ns hi g2) (h3 : Pt C n env ns st g3) :
    Ev C n env ns (.Subscript value (.Slice lo hi st sp) pos) (fun ρ hp => bV (f ρ hp) fun v hp => onA a v (bP (g1 ρ hp) fun lo hp => bP (g2 ρ hp) fun hi hp => bP (g3 ρ hp) fun st hp => bG (st ≠ some 0) (some (.ref hp.length, hp ++ [.list (pickV (IL l) lo hi st)])))) := fun A s φ ρ hp v hp' hr R H e =>
  Subscript_ (evV hf hr (.start R H) e fun c s1 φ1 v1 hp1 X1 _ r1 e => by
    obtain ⟨hv, e'⟩ := onA_inv e
    subst hv
    cases r1
    exact wpAny_Slice (evP h1 hr X1 e' fun c1 s2 φ2 lo' hp2 X2 p2 i1 e => evP h2 hr X2 e fun c2 s3 φ3 hi' hp3 X3 p3 i2 e => evP h3 hr X3 e fun c3 s4 φ4 st' hp4 X4 p4 i3 e => bGE e fun hst e => by
      cases e
      obtain ⟨cs, ⟨o, ho, hcl, hda⟩, hi⟩ := Sc.lst
      have up : ∀ b o, s4.heap.get? b = some o → (s4.heap.push { cls := .type "slice", data := .fields #[c1, c2, c3] }).get? b = some o := fun b o e => Heap.get?_push_of_some _ e
      have X5 : At C env ns ρ φ [] s φ4 hp4 { s4 with heap := s4.heap.push { cls := .type "slice", data := .fields #[c1, c2, c3] } } := X4.then_ (Step.keeps ⟨_, _, rfl⟩ up) (X4.H.heap up)
      have hL : (s4.heap.push { cls := .type "slice", data := .fields #[c1, c2, c3] }).IsList a cs.toArray := ⟨o, up _ _ (X4.H.base _ _ ho), hcl, hda⟩
      have h5 : All2 (VR φ4) (IL l) cs := are_all2 hi
      have l5 : l.length = cs.length := (map_len (l := l)).symm.trans h5.length
      refine tailG hL.typeIs list_getitem_lookup (by cases st <;> exact fun _ _ => ⟨_, rfl⟩) (wpAny_getItem_list_slice hL (Heap.IsSliceOf.new ..) i1 i2 i3 hst (X5.newO (o := .list (pickV (IL l) lo' hi' st')) rfl ⟨(slicePick cs.toArray lo' hi' st').toList, 0, ?_, rfl⟩) (by simp only [List.size_toArray]; exact line_le (l5 ▸ Sc.short)))
      have : (slicePick cs.toArray lo' hi' st').toList = (sliceRange (sliceBounds lo' hi' st' (IL l).length).1 (sliceBounds lo' hi' st' (IL l).length).2.1 (sliceBounds lo' hi' st' (IL l).length).2.2).filterMap (cs[·]?) := by
        simp [slicePick, l5]
      rw [this]
      exact all2_places h5 _))
def cellsF (a : Addr) (l : List Int) (vs : List V) (hp : Hp) : Option (V × Hp) := one vs fun v => onA a v (match hp with
  | [] => some (.ref 0, [.list (IL (cells l)), .list (IL (pick20 l))])
  | _ => none)
abbrev ceR (a : Addr) (x y : Option V) : Rho := [some (.val (.ref a)), some (.ref 0), x, y]
def CeB (a : Addr) (j : Nat) (ρ : Rho) (h : Hp) (ρ' : Rho) (h' : Hp) : Prop := ∃ cs x p, cs.length = 4 ∧ ρ = ceR a (some (.int j)) (some (.int x)) ∧ h = [.list (IL cs), .list p] ∧ ρ' = ρ ∧ h' = [.list (IL (cellT cs j x)), .list p]
theorem cell_turn {L : Addr} {cdv : Value} {a : Addr} (j : Nat) (ρ : Rho) (h : Hp) (ρ' : Rho) (h' : Hp) (b : CeB a j ρ h ρ' h') : Tri C n (envOfC "_law_cells" (fdS (bd 75)) L 136 cdv) ["script", "cells", "k", "x"] 2 (stB ((fdB (bd 75))[1]?.getD default)) ρ h .next ρ' h' := by
  obtain ⟨cs, x, p, h4, rfl, rfl, rfl, rfl⟩ := b
  refine T_cons (T_ex (ρ' := ceR a (some (.int j)) (some (.int x))) (hp' := [.list (IL (cellT cs j x)), .list p]) (Ex_augI (Ev_var 1 rfl) (Ev_bin (Ev_var 2 rfl) Ev_int) (Ev_bin (Ev_var 3 rfl) (Ev_bin Ev_int Ev_int)) fun _ _ _ => rfl) ?_ (Nat.le_of_ble_eq_true rfl)) T_nil
  have hj : j % 4 < cs.length := by rw [h4]; exact Nat.mod_lt j (by decide)
  refine (bR_eq (i := 0) (hp := [.list (IL cs), .list p]) rfl).trans ((bI_eq (a := (j % 4 : Nat)) (hp := [.list (IL cs), .list p]) mod_eq).trans ?_)
  show bV ((IL cs)[j % 4]?.map _) _ = _
  rw [List.getElem?_map, List.getElem?_eq_getElem hj]
  show bG (0 ≤ ((j % 4 : Nat) : Int) ∧ ((j % 4 : Nat) : Int) ≤ 1000 ∧ ((j % 4 : Nat) : Int) < ((IL cs).length : Nat)) _ = _
  rw [bG_eq (by rw [map_len]; omega), IL, cellT, List.getD_eq_getElem?_getD, List.getElem?_eq_getElem hj, ← IL, ← List.map_set]; rfl
theorem cell_loop {q : List Int} {s : Addr} : ∀ (r cs : List Int) (j : Nat) (a b : Option V), q.drop j = r → cs.length = 4 → ∃ a' b',
    FoR (fun hp j => itemAt .list hp 1 j) (fun m v ρ => (ρ.set 2 (some (.int m))).set 3 (some v)) (CeB s) r.length j (ceR s a b) [.list (IL cs), .list (IL q)] (ceR s a' b') [.list (IL (cellL cs j r)), .list (IL q)]
  | [], cs, j, a, b, h, _ => ⟨a, b, congrArg some (IL_end h), rfl, rfl⟩
  | x :: r, cs, j, a, b, h, h4 => by
    obtain ⟨a', b', hh⟩ := cell_loop r (cellT cs j x) (j + 1) (some (.int j)) (some (.int x)) (IL_at h).2.2 (by rw [cellT, List.length_set, h4])
    exact ⟨a', b', .int x, _, _, congrArg some (IL_at h).2.1, ⟨cs, x, _, h4, rfl, rfl, rfl, rfl⟩, hh⟩
theorem h_law_cells (B : Bs C) {s : Addr} {l : List Int} (Sc : Scr C s l) : Fn C (n + 1) (.ref 136) (cellsF s l) := .of fun vs hp v hp' e => by
  match vs, e with
  | [u], e =>
    obtain ⟨hv, e'⟩ := onA_inv e
    subst hv
    match hp, e' with
    | [], e' =>
      cases e'
      obtain ⟨cdv, h⟩ := B.b_law_cells
      obtain ⟨a', b', hloop⟩ := cell_loop (q := pick20 l) (s := s) (pick20 l) [800, 41, 2115, 19] 0 none none rfl rfl
      refine Cl_def (ns := ["script", "cells", "k", "x"]) h ⟨rfl, rfl, rfl, by decide, rfl, by decide, by decide, by decide⟩ rfl fun L => ⟨_, ceR s a' b', ?_, FlR.ret⟩
      refine T_cons (T_ex (ρ' := ceR s none none) (hp' := [.list (IL [800, 41, 2115, 19])]) (Ex_assign 1 rfl rfl (Ev_list (Evs_cons rfl Ev_int (Evs_cons rfl Ev_int (Evs_cons rfl Ev_int (Evs_cons rfl Ev_int Evs_nil)))))) rfl (Nat.le_of_ble_eq_true rfl)) (T_cons (T_forEnum (k := 1) (hp1 := [.list (IL [800, 41, 2115, 19]), .list (IL (pick20 l))]) 2 3 rfl rfl ⟨rfl, by decide⟩ B.n_enumerate (fun _ => rfl) rfl (Ev_sliceB Sc (Ev_var 0 rfl) Pt_none (Pt_some Ev_int) Pt_none) 2 cell_turn ?_ rfl (Nat.le_of_ble_eq_true rfl) (Nat.le_of_ble_eq_true rfl) (Nat.le_of_ble_eq_true rfl) (Nat.le_of_ble_eq_true rfl) hloop) (T_consR (T_ex (Ex_ret (Ev_var 1 rfl)) rfl (Nat.le_of_ble_eq_true rfl))))
      show onA s (.val (.ref s)) _ = _
      rw [onA_eq]
      show bG ((none : Option Int) ≠ some 0) (some (V.ref 1, [O.list (IL [800, 41, 2115, 19]), O.list (pickV (IL l) none (some 20) none)])) = _
      rw [bG_eq nofun, pick_IL]
end
end Mine

open PySem PySem.Calls PySem.W PySem.Spec PyProof.Rows
set_option Elab.async false
set_option autoImplicit false
set_option maxRecDepth 100000
set_option genSizeOf false
set_option genInjectivity false
set_option linter.unusedVariables false
namespace Mine
noncomputable section
variable {C : Cx} {n : Nat} {env : Env} {ns : List Str}
/-! _substitution_cost -/
theorem two_inv {β : Type} {vs : List V} {k : V → V → Option β} {r : β} (e : two vs k = some r) : ∃ u v, vs = [u, v] ∧ k u v = some r := by
  cases vs with
  | nil => cases e
  | cons u vs => cases vs with
    | nil => cases e
    | cons v vs => cases vs with
      | nil => exact ⟨u, v, rfl, e⟩
      | cons => cases e
def cost (a b : Str) : Int := if (a == b) = true then 0 else if (Txt.lower a == Txt.lower b) = true then 1 else 2
def substF (vs : List V) (hp : Hp) : Option (V × Hp) := two vs fun u v => onS u fun a => onS v fun b => bG (a.length ≤ 1000 ∧ b.length ≤ 1000) (some (.int (cost a b), hp))
theorem bSt_eq {β : Type} {x : Option (V × Hp)} {a : Str} {hp : Hp} {k : Str → Hp → Option β} (h : x = some (.str a, hp)) : bSt x k = k a hp := by rw [h]; rfl
theorem h_substitution_cost (B : Bs C) : Fn C (n + 1) (.ref 129) substF := .of fun vs hp v hp' e => by
  obtain ⟨u, w, rfl, e⟩ := two_inv e
  obtain ⟨a, rfl, e⟩ := onS_inv e
  obtain ⟨b, rfl, e⟩ := onS_inv e
  refine bGE e fun hl e => ?_
  cases e
  obtain ⟨cdv, h⟩ := B.b_substitution_cost
  refine Cl_def (ns := ["ch_a", "ch_b"]) h ⟨rfl, rfl, rfl, by decide, rfl, by decide, by decide, by decide⟩ rfl fun L => ⟨_, [some (.str a), some (.str b)], ?_, FlR.ret⟩
  unfold cost
  by_cases c1 : (a == b) = true
  · rw [if_pos c1]
    exact T_consR (T_ifT (Tr_cmp rfl (Cmp_str (Ev_var 0 rfl) (Ev_var 1 rfl))) (b := a == b) rfl c1 (Nat.le_refl _) (T_consR (T_ex (Ex_ret Ev_int) rfl (Nat.le_refl _))))
  · rw [if_neg c1]
    refine T_cons (T_ifF (Tr_cmp rfl (Cmp_str (Ev_var 0 rfl) (Ev_var 1 rfl))) (b := a == b) rfl (Bool.eq_false_iff.mpr c1) (Nat.le_refl _) T_nil) ?_
    have e2 : (bSt (bSt (some (V.str a, hp)) fun x hp => bG (x.length ≤ 1000) (some (V.str (Txt.lower x), hp))) fun a hp => bSt (bSt (some (V.str b, hp)) fun x hp => bG (x.length ≤ 1000) (some (V.str (Txt.lower x), hp))) fun b hp => some (a == b, hp)) = some (Txt.lower a == Txt.lower b, hp) :=
      (bSt_eq (bG_eq hl.1)).trans (bSt_eq (bG_eq hl.2))
    by_cases c2 : (Txt.lower a == Txt.lower b) = true
    · rw [if_pos c2]
      exact T_consR (T_ifT (Tr_cmp rfl (Cmp_str (Ev_lower ⟨_, rfl⟩ (Ev_var 0 rfl)) (Ev_lower ⟨_, rfl⟩ (Ev_var 1 rfl)))) e2 c2 (Nat.le_refl _) (T_consR (T_ex (Ex_ret (Ev_globI ⟨rfl, by decide⟩ B.n_CASE_COST)) rfl (Nat.le_refl _))))
    · rw [if_neg c2]
      exact T_cons (T_ifF (Tr_cmp rfl (Cmp_str (Ev_lower ⟨_, rfl⟩ (Ev_var 0 rfl)) (Ev_lower ⟨_, rfl⟩ (Ev_var 1 rfl)))) e2 (Bool.eq_false_iff.mpr c2) (Nat.le_refl _) T_nil) (T_consR (T_ex (Ex_ret (Ev_globI ⟨rfl, by decide⟩ B.n_MOVE_COST)) rfl (Nat.le_refl _)))
/-! _div2n1n -/
def threeI {β : Type} (vs : List V) (k : Int → Int → Int → Option β) : Option β := match vs with
  | v :: r => onI v fun a => twoI r (k a)
  | [] => none
theorem threeI_inv {β : Type} {vs : List V} {k : Int → Int → Int → Option β} {r : β} (e : threeI vs k = some r) : ∃ a b c, vs = [.int a, .int b, .int c] ∧ k a b c = some r := by
  cases vs with
  | nil => cases e
  | cons v vs => exact (onI_inv e).elim fun a y => (twoI_inv y.2).elim fun b z => z.elim fun c z => ⟨a, b, c, by rw [y.1, z.1], z.2⟩
def div2F (vs : List V) (hp : Hp) : Option (V × Hp) := threeI vs fun a b m => bG ((Builtin.Int.intBits a : Int) - m ≤ 4000 ∧ b ≠ 0 ∧ b.natAbs < 2 ^ 30) (some (.ref hp.length, hp ++ [.tuple [.int (a.fdiv b), .int (a.fmod b)]]))
theorem h_div2n1n (B : Bs C) : Fn C (n + 1) (.ref 21) div2F := .of fun vs hp v hp' e => by
  obtain ⟨a, b, m, rfl, e⟩ := threeI_inv e
  refine bGE e fun hl e => ?_
  cases e
  obtain ⟨cdv, h⟩ := B.b_div2n1n
  refine Cl_def (ns := ["a", "b", "n", "pad", "half_n", "mask", "b1", "b2", "q1", "r", "q2"]) h ⟨rfl, rfl, rfl, by decide, rfl, by decide, by decide, by decide⟩ rfl fun L => ⟨_, argR ["a", "b", "n", "pad", "half_n", "mask", "b1", "b2", "q1", "r", "q2"] ["a", "b", "n"] [.int a, .int b, .int m], ?_, FlR.ret⟩
  exact T_consR (T_ifT (Tr_cmp rfl (Cmp_int (Ev_bin (Ev_bits ⟨_, rfl⟩ (Ev_var 0 rfl)) (Ev_var 2 rfl)) (Ev_globI ⟨rfl, by decide⟩ B.n_DIV_LIMIT))) (b := decide ((Builtin.Int.intBits a : Int) - m ≤ 4000)) rfl (decide_eq_true hl.1) (Nat.le_refl _) (T_consR (T_ex (Ex_ret (Ev_callB ⟨rfl, by decide⟩ B.n_divmod boot_divmod (by decide) (Evs_cons rfl (Ev_var 0 rfl) (Evs_cons rfl (Ev_var 1 rfl) Evs_nil)) rfl B_divmod)) (ret_eq (show divmodF [.int a, .int b] hp = some (V.ref hp.length, hp ++ [.tuple [.int (a.fdiv b), .int (a.fmod b)]]) from bG_eq hl.2)) (Nat.le_refl _))))
end
end Mine

open PySem PySem.Calls PySem.W PySem.Spec PyProof.Rows
set_option Elab.async false
set_option autoImplicit false
set_option maxRecDepth 100000
set_option genSizeOf false
set_option genInjectivity false
set_option linter.unusedVariables false
namespace Mine
noncomputable section
variable {C C' : Cx} {n : Nat} {env : Env} {ns : List Str}
/-! a def inside a def -/
theorem nsK {g : Addr} {x : Str} {r : Option (Option Value)} (sm : Same C' C) (h : nsIn C.K g x = r) : nsIn C'.K g x = r := by rw [sm.K]; exact h
theorem buildCl_sub {cells : List (Str × Addr)} : ∀ (names : List (Str × NameKind)) (acc : List (Str × Addr)), (∀ p ∈ acc, cells.lookup p.1 = some p.2) → ∀ p ∈ buildCl cells names acc, cells.lookup p.1 = some p.2
  | [], acc, h => h
  | (x, k) :: r, acc, h => by
    unfold buildCl
    split
    · cases e : cells.lookup x with
      | none => exact buildCl_sub r acc h
      | some a => exact buildCl_sub r _ fun p hp => (List.mem_cons.mp hp).elim (fun q => by rw [q]; exact e) (h p)
    · exact buildCl_sub r acc h
theorem Made.cl {nsO ps ns' : List Str} {ρ : Rho} {name qual : Str} {params : Arguments} {body : List Stmt} {scope : Scope} {f' c' : Addr} {doc pm ctv : Value} {vs : List V} {hp hp' : Hp} {v : V} (M : Made C' env nsO ρ name qual params body scope f' c' doc pm ctv) (D : CloOK scope ps ns')
    (hbind : ∀ cs : List Value, cs.length = ps.length → bindArgs (fnX name qual params body scope (buildCl env.cells scope.names []) .none .none doc pm none (.ref c') ctv) ⟨cs, []⟩ = pure (ps.zip cs)) (hnd : ((buildCl env.cells scope.names []).map (·.2)).Nodup) (hl : vs.length = ps.length)
    (hbody : ∀ L, Bd C' n (envX qual scope L f' (.ref c') (buildCl env.cells scope.names [])) ns' body (argR ns' ps vs) hp v hp') : Cl C' (n + 1) (.ref f') vs hp v hp' :=
  have hs : ∀ p ∈ buildCl env.cells scope.names [], ∃ v, C'.h₀.IsCell p.2 v := fun p hp => M.cells p.1 p.2 (buildCl_sub _ _ (fun q hq => absurd hq List.not_mem_nil) p hp)
  Cl_clo M.obj M.code D hbind (fun x a h => hs (x, a) (mem_of_lookup h)) hnd (fun b hb => (List.mem_map.mp hb).elim fun p q => q.2 ▸ (hs p q.1).elim fun v h => h.imp fun o h => h.1) hl hbody
theorem FzN.inner {x : Str} {v : V} {qual : Str} {scope : Scope} {L f c : Addr} {cl : List (Str × Addr)} (Z : FzN C' env x v) (hk : scope.names.lookup x = some .free) (hs : scope.kind = .function) (hcl : cl.lookup x = env.cells.lookup x) : FzN C' (envX qual scope L f (.ref c) cl) x v :=
  ⟨.inr hk, hs, Z.cell.imp fun a h => ⟨hcl.trans h.1, h.2⟩, Z.dbg⟩
theorem Made.fn {nsO : List Str} {ρ : Rho} {name qual : Str} {params : Arguments} {body : List Stmt} {scope : Scope} {f' c' : Addr} {doc pm ctv : Value} (M : Made C' env nsO ρ name qual params body scope f' c' doc pm ctv) : FnAt f' C'.h₀ := ⟨_, _, _, _, M.obj⟩
theorem three_nd {a b c : Nat} (h1 : a ≠ b) (h2 : a ≠ c) (h3 : b ≠ c) : [a, b, c].Nodup := by
  refine List.nodup_cons.mpr ⟨fun h => ?_, List.nodup_cons.mpr ⟨fun h => h3 (List.mem_singleton.mp h), List.nodup_cons.mpr ⟨List.not_mem_nil, List.nodup_nil⟩⟩⟩
  exact (List.mem_cons.mp h).elim h1 fun h => h2 (List.mem_singleton.mp h)
/-! _digits2int -/
def valD (m : Nat) : List Int → Int
  | [] => 0
  | d :: r => d + 2 ^ m * valD m r
theorem valD_app {m : Nat} : ∀ (l r : List Int), valD m (l ++ r) = valD m l + 2 ^ (m * l.length) * valD m r
  | [], r => by show valD m r = 0 + 2 ^ (m * 0) * _; rw [Nat.mul_zero, Int.pow_zero]; omega
  | d :: l, r => by
    show d + 2 ^ m * valD m (l ++ r) = d + 2 ^ m * valD m l + 2 ^ (m * (l.length + 1)) * valD m r
    rw [valD_app l r, Nat.mul_succ, Int.pow_add, Int.mul_add, Int.mul_comm (2 ^ (m * l.length)) (2 ^ m), Int.mul_assoc]; omega
theorem valD_lt {m : Nat} : ∀ (l : List Int), (∀ d ∈ l, 0 ≤ d ∧ d < 2 ^ m) → 0 ≤ valD m l ∧ valD m l < 2 ^ (m * l.length)
  | [], _ => by show (0 : Int) ≤ 0 ∧ (0 : Int) < 2 ^ (m * 0); rw [Nat.mul_zero]; decide
  | d :: l, h => by
    have h1 := h d List.mem_cons_self
    have h2 := valD_lt l fun d hd => h d (List.mem_cons_of_mem _ hd)
    show 0 ≤ d + 2 ^ m * valD m l ∧ d + 2 ^ m * valD m l < 2 ^ (m * (l.length + 1))
    rw [Nat.mul_succ, Int.pow_add, Int.mul_comm (2 ^ (m * l.length)) (2 ^ m)]
    have h3 : 2 ^ m * (valD m l + 1) ≤ (2 : Int) ^ m * 2 ^ (m * l.length) := Int.mul_le_mul_of_nonneg_left h2.2 (Int.pow_nonneg (by decide))
    have h4 : 0 ≤ 2 ^ m * valD m l := Int.mul_nonneg (Int.pow_nonneg (by decide)) h2.1
    rw [Int.mul_add] at h3
    omega
def seg (l : List Int) (a b : Nat) : List Int := (l.drop a).take (b - a)
theorem seg_one {l : List Int} {a : Nat} {d : Int} (h : l[a]? = some d) : seg l a (a + 1) = [d] := by
  have := List.getElem?_eq_some_iff.mp h
  rw [seg, List.drop_eq_getElem_cons this.1, this.2, Nat.add_sub_cancel_left]; rfl
theorem seg_app {l : List Int} {a c b : Nat} (h1 : a ≤ c) (h2 : c ≤ b) : seg l a b = seg l a c ++ seg l c b := by
  unfold seg
  rw [show b - a = (c - a) + (b - c) by omega, List.take_add, List.drop_drop, show a + (c - a) = c by omega]
theorem seg_len {l : List Int} {a b : Nat} (h : b ≤ l.length) : (seg l a b).length = b - a := by
  rw [seg, List.length_take, List.length_drop]; omega
theorem seg_mem {l : List Int} {a b : Nat} {d : Int} (h : d ∈ seg l a b) : d ∈ l := List.mem_of_mem_drop (List.mem_of_mem_take h)
/-- what inner does -/
def d2F (m : Nat) (ds : List Int) (k : Nat) (vs : List V) (hp : Hp) : Option (V × Hp) := twoI vs fun a b => bIs hp[0]? fun l => bG (l = ds ∧ 0 ≤ a ∧ a < b ∧ b ≤ ds.length ∧ b - a ≤ (2 ^ k : Nat)) (some (.int (valD m (seg ds a.toNat b.toNat)), hp))
theorem mid_eq {a b : Nat} : (((a : Int) + b).fdiv (2 ^ Int.toNat 1)) = (((a + b) / 2 : Nat) : Int) := by
  rw [Int.fdiv_eq_ediv_of_nonneg _ (by decide)]; rfl
def fdP : Stmt → Arguments
  | .FunctionDef _ a .. => a
  | _ => default
abbrev d2E (L : Addr) (cdv : Value) : Env := envOfC "_digits2int" (fdS (bd 5)) L 42 cdv
abbrev d2I : Stmt := (fdB (bd 5))[0]?.getD default
theorem len2 {α : Type} {l : List α} (h : l.length = 2) : ∃ a b, l = [a, b] := by
  cases l with
  | nil => cases h
  | cons a l => cases l with
    | nil => cases h
    | cons b l => cases l with
      | nil => exact ⟨a, b, rfl⟩
      | cons => cases h
theorem d2_val {m k : Nat} {l : List Int} {a b : Nat} {hp : Hp} (hl : hp[0]? = some (.list (IL l))) (h1 : a < b) (h2 : b ≤ l.length) (h3 : b - a ≤ 2 ^ k) : d2F m l k [.int a, .int b] hp = some (.int (valD m (seg l a b)), hp) := by
  show bIs hp[0]? _ = _
  unfold bIs
  rw [bL_eq hl, IL_intsOf]
  exact bG_eq ⟨rfl, by omega, by omega, by omega, by omega⟩
theorem sub_mul_nat {a c m : Nat} (h : a ≤ c) (hm : c ≤ 1000) : (bG ((small (m : Int) || small ((c : Int) - a)) = true) (some (((c : Int) - a) * m))) = some (((c - a) * m : Nat) : Int) := by
  rw [bG_eq (by rw [Bool.or_eq_true]; exact .inr (decide_eq_true (by omega))), Int.natCast_mul, Int.natCast_sub h]
theorem nat_lt_pow {x : Int} {k : Nat} (h0 : 0 ≤ x) (h : x < 2 ^ k) : x.natAbs < 2 ^ k := by
  obtain ⟨y, rfl⟩ := Int.eq_ofNat_of_zero_le h0
  exact_mod_cast h
theorem shl_val {x : Int} {s : Nat} (h0 : 0 ≤ x) (h : x < 2 ^ 200) (hs : s ≤ 1000) : binI .LShift x (s : Int) = some (x * 2 ^ s) :=
  bG_eq ⟨by omega, by omega, nat_lt_pow h0 h⟩
theorem seg_bound {m : Nat} {l : List Int} {a b : Nat} (hm : m * l.length ≤ 200) (hd : ∀ d ∈ l, 0 ≤ d ∧ d < 2 ^ m) (hb : b ≤ l.length) : 0 ≤ valD m (seg l a b) ∧ valD m (seg l a b) < 2 ^ 200 := by
  have h := valD_lt (seg l a b) fun d h => hd d (seg_mem h)
  refine ⟨h.1, Int.lt_of_lt_of_le h.2 ?_⟩
  rw [seg_len hb]
  have : m * (b - a) ≤ 200 := Nat.le_trans (Nat.mul_le_mul_left m (by omega)) hm
  exact_mod_cast Nat.pow_le_pow_right (by decide : 2 > 0) this
theorem mid_val {a b : Nat} : binI .RShift ((a : Int) + b) 1 = some (((a + b) / 2 : Nat) : Int) := (bG_eq (by decide)).trans (congrArg some mid_eq)
theorem d2_step {nsO : List Str} {ρ : Rho} {f' c' : Addr} {doc pm ctv : Value} {L : Addr} {cdv : Value} {m : Nat} {ds : List Int} (hm : m * ds.length ≤ 200) (hd : ∀ d ∈ ds, 0 ≤ d ∧ d < 2 ^ m) (hln : ds.length ≤ 200)
    (M : Made C' (d2E L cdv) nsO ρ "inner" (qualnameIn (d2E L cdv) "inner" "inner") (fdP d2I) (fdB d2I) (fdS d2I) f' c' doc pm ctv)
    (z1 : FzN C' (d2E L cdv) "digits" (.ref 0)) (z2 : FzN C' (d2E L cdv) "n" (.int m)) (z3 : FzN C' (d2E L cdv) "inner" (.val (.ref f'))) {k : Nat} (ih : k = 0 ∨ ∃ k', k = k' + 1 ∧ Fn C' n (.ref f') (d2F m ds k')) :
    Fn C' (n + 1) (.ref f') (d2F m ds k) := .of fun vs hp v hp' e => by
  obtain ⟨a, b, rfl, e⟩ := twoI_inv e
  obtain ⟨l, hl, e⟩ := bIs_inv e
  refine bGE e fun q e => ?_
  obtain ⟨rfl, q1, q2, q3, q4⟩ := q
  cases e
  obtain ⟨a, rfl⟩ := Int.eq_ofNat_of_zero_le q1
  obtain ⟨b, rfl⟩ := Int.eq_ofNat_of_zero_le (Int.le_of_lt (Int.lt_of_le_of_lt q1 q2))
  have r2 := Int.ofNat_lt.mp q2
  have r3 := Int.ofNat_le.mp q3
  refine M.cl (ns' := ["L", "R", "mid", "shift"]) (ps := ["L", "R"]) ⟨rfl, rfl, rfl, rfl, by decide, by decide, by decide, by decide⟩ (fun cs h => (len2 h).elim fun c h => h.elim fun d h => by rw [h]; rfl) (three_nd (a := L + 1 + 1) (b := L + 1 + 1 + 1) (c := L + 1) (by omega) (by omega) (by omega)) rfl fun L' => ?_
  have Z_digits := z1.inner (qual := qualnameIn (d2E L cdv) "inner" "inner") (scope := fdS d2I) (L := L') (f := f') (c := c') (cl := buildCl (d2E L cdv).cells (fdS d2I).names []) rfl rfl rfl
  by_cases c1 : ((a : Int) + 1 == b) = true
  · obtain ⟨d, hdd⟩ : ∃ d, l[a]? = some d := ⟨_, List.getElem?_eq_getElem (by omega)⟩
    have hb : b = a + 1 := by have := beq_iff_eq.mp c1; omega
    subst hb
    refine ⟨.ret (.int d), [some (.int a), some (.int (a + 1 : Nat)), none, none], T_consR (T_ifT (Tr_cmp rfl (Cmp_int (Ev_bin (Ev_var 0 rfl) Ev_int) (Ev_var 1 rfl))) (b := ((a : Int) + 1 == (a + 1 : Nat))) rfl c1 (Nat.le_refl _) (T_consR (T_ex (Ex_ret (Ev_idx (Ev_frz Z_digits) (Ev_var 0 rfl) fun _ _ => ⟨_, rfl⟩)) (ret_eq ((bL_eq hl).trans (at_eq (by omega) hdd))) (Nat.le_refl _)))), ?_⟩
    show FlR _ (.int (valD m (seg l a (a + 1))))
    rw [seg_one hdd, show valD m [d] = d from by show d + 2 ^ m * 0 = d; omega]
    exact FlR.ret
  · have Z_n := z2.inner (qual := qualnameIn (d2E L cdv) "inner" "inner") (scope := fdS d2I) (L := L') (f := f') (c := c') (cl := buildCl (d2E L cdv).cells (fdS d2I).names []) rfl rfl rfl
    have Z_inner := z3.inner (qual := qualnameIn (d2E L cdv) "inner" "inner") (scope := fdS d2I) (L := L') (f := f') (c := c') (cl := buildCl (d2E L cdv).cells (fdS d2I).names []) rfl rfl rfl
    have hfn := M.fn
    have hb : a + 2 ≤ b := by
      have : ¬ ((a : Int) + 1 = b) := fun h => c1 (beq_iff_eq.mpr h)
      omega
    rcases ih with rfl | ⟨k', rfl, h_inner⟩
    · have : b - a ≤ 1 := by omega
      omega
    · have r4 : b - a ≤ 2 ^ k' + 2 ^ k' := by rw [Nat.pow_succ] at q4; omega
      obtain ⟨c, hc⟩ : ∃ c, c = (a + b) / 2 := ⟨_, rfl⟩
      have hs : (c - a) * m ≤ 200 := Nat.le_trans (Nat.mul_le_mul_right m (by omega)) (Nat.mul_comm m l.length ▸ hm)
      have s1 := seg_bound (a := c) (b := b) hm hd r3
      refine ⟨_, [some (.int a), some (.int b), some (.int c), some (.int ((c - a) * m : Nat))], T_cons (T_ifF (Tr_cmp rfl (Cmp_int (Ev_bin (Ev_var 0 rfl) Ev_int) (Ev_var 1 rfl))) (b := ((a : Int) + 1 == b)) rfl (Bool.eq_false_iff.mpr c1) (Nat.le_refl _) T_nil) (T_cons (T_ex (ρ' := [some (.int a), some (.int b), some (.int c), none]) (hp' := hp) (Ex_assign 2 rfl rfl (Ev_bin (Ev_bin (Ev_var 0 rfl) (Ev_var 1 rfl)) Ev_int)) ?_ (Nat.le_refl _)) (T_cons (T_ex (ρ' := [some (.int a), some (.int b), some (.int c), some (.int ((c - a) * m : Nat))]) (hp' := hp) (Ex_assign 3 rfl rfl (Ev_bin (Ev_bin (Ev_var 2 rfl) (Ev_var 0 rfl)) (Ev_frz Z_n))) ?_ (Nat.le_refl _)) (T_consR (T_ex (Ex_ret (Ev_bin (Ev_bin (Ev_callZ Z_inner hfn (Evs_cons rfl (Ev_var 2 rfl) (Evs_cons rfl (Ev_var 1 rfl) Evs_nil)) rfl h_inner) (Ev_var 3 rfl)) (Ev_callZ Z_inner hfn (Evs_cons rfl (Ev_var 0 rfl) (Evs_cons rfl (Ev_var 2 rfl) Evs_nil)) rfl h_inner))) (ret_eq ((bI_eq (a := valD m (seg l c b) * 2 ^ ((c - a) * m)) (hp := hp) ((bI_eq (d2_val hl (by omega) r3 (by omega))).trans ?_)).trans (bI_eq (d2_val hl (by omega) (by omega) (by omega))))) (Nat.le_refl _))))), ?_⟩
      · subst hc
        exact asg_eq (i := 2) ((bI_eq (a := (a : Int) + b) (hp := hp) rfl).trans (congrArg (Option.map fun c => (V.int c, hp)) mid_val))
      · exact asg_eq (i := 3) ((bI_eq (a := (c : Int) - a) (hp := hp) rfl).trans (congrArg (Option.map fun c => (V.int c, hp)) (sub_mul_nat (by omega) (by omega))))
      · exact congrArg (Option.map fun c => (V.int c, hp)) (shl_val s1.1 s1.2 (by omega))
      · have e : valD m (seg l c b) * 2 ^ ((c - a) * m) + valD m (seg l a c) = valD m (seg l a b) := by
          rw [seg_app (l := l) (show a ≤ c by omega) (show c ≤ b by omega), valD_app, seg_len (by omega), Nat.mul_comm m, Int.mul_comm, Int.add_comm]
        show FlR _ (.int (valD m (seg l a b)))
        rw [e]; exact FlR.ret
theorem d2_inner {nsO : List Str} {ρ : Rho} {f' c' : Addr} {doc pm ctv : Value} {L : Addr} {cdv : Value} {m : Nat} {ds : List Int} (hm : m * ds.length ≤ 200) (hd : ∀ d ∈ ds, 0 ≤ d ∧ d < 2 ^ m) (hln : ds.length ≤ 200)
    (M : Made C' (d2E L cdv) nsO ρ "inner" (qualnameIn (d2E L cdv) "inner" "inner") (fdP d2I) (fdB d2I) (fdS d2I) f' c' doc pm ctv)
    (z1 : FzN C' (d2E L cdv) "digits" (.ref 0)) (z2 : FzN C' (d2E L cdv) "n" (.int m)) (z3 : FzN C' (d2E L cdv) "inner" (.val (.ref f'))) : ∀ k, Fn C' (n + k + 1) (.ref f') (d2F m ds k)
  | 0 => d2_step hm hd hln M z1 z2 z3 (.inl rfl)
  | k + 1 => d2_step hm hd hln M z1 z2 z3 (.inr ⟨k, rfl, d2_inner hm hd hln M z1 z2 z3 k⟩)
theorem bB_eq {β : Type} {x : Option (Bool × Hp)} {a : Bool} {hp : Hp} {k : Bool → Hp → Option β} (h : x = some (a, hp)) : bB x k = k a hp := by rw [h]; rfl
theorem bVs_eq {β : Type} {x : Option (List V × Hp)} {a : List V} {hp : Hp} {k : List V → Hp → Option β} (h : x = some (a, hp)) : bVs x k = k a hp := by rw [h]; rfl
def d2iF (vs : List V) (hp : Hp) : Option (V × Hp) := two vs fun u w => onR u fun i => onI w fun m => bIs hp[i]? fun l => bG (0 ≤ m ∧ l.length ≤ 128 ∧ m.toNat * l.length ≤ 200 ∧ ∀ d ∈ l, 0 ≤ d ∧ d < 2 ^ m.toNat) (some (.int (valD m.toNat l), hp))
theorem h_digits2int (B : Bs C) : Fn C (n + 9) (.ref 42) d2iF := .of fun vs hp v hp' e => by
  obtain ⟨u, w, rfl, e⟩ := two_inv e
  obtain ⟨i, rfl, e⟩ := onR_inv e
  obtain ⟨m, rfl, e⟩ := onI_inv e
  obtain ⟨l, hl, e⟩ := bIs_inv e
  refine bGE e fun q e => ?_
  cases e
  obtain ⟨q1, q3, q4, q5⟩ := q
  obtain ⟨m, rfl⟩ := Int.eq_ofNat_of_zero_le q1
  obtain ⟨c, P, h, hC, hP, hq⟩ := B.b_digits2int
  refine Cl_frame (hp₀ := [.list (IL l)]) (g := []) (vs₀ := [.ref 0, .int m]) B.hz (Cl_def (ns := ["digits", "n", "inner"]) (v := .int (valD m l)) h ⟨rfl, rfl, rfl, by decide, rfl, by decide, by decide, by decide⟩ rfl fun L => ⟨.ret (.int (valD m l)), [], ?_, FlR.ret⟩) [i] (List.nodup_cons.mpr ⟨List.not_mem_nil, List.nodup_nil⟩) rfl (by rw [pickH, mapO, hl]; rfl) flat1 (.inl ⟨rfl, flat_int, rfl⟩)
  have hfree : ∀ y ∈ (fdS d2I).names, y.2 = .free → y.1 ∈ (["digits", "n", "inner"] : List Str) ∧ (fdS (bd 5)).names.lookup y.1 = some .cell := by decide
  refine T_def (name := "inner") (params := fdP d2I) (body := fdB d2I) (scope := fdS d2I) (ρ' := []) 2 0 B.hz hP rfl hC hq rfl rfl (by decide) hfree (fun y hy => nomatch hy) (cellsFrom_names (fdS (bd 5)).names 0 (L + 1) [] [] rfl ▸ by decide) rfl rfl rfl fun C' f' c' doc pm ctv sm M => ?_
  have Z_digits : FzN C' (d2E L (.ref c)) "digits" (.ref 0) := M.frz 0 "digits" (.ref 0) rfl rfl rfl
  have Z_n : FzN C' (d2E L (.ref c)) "n" (.int m) := M.frz 1 "n" (.int m) rfl rfl rfl
  have Z_inner : FzN C' (d2E L (.ref c)) "inner" (.val (.ref f')) := M.frz 2 "inner" (.val (.ref f')) rfl rfl rfl
  have hfn := M.fn
  have h_inner := d2_inner (n := n) q4 q5 (Nat.le_trans q3 (by decide)) M Z_digits Z_n Z_inner 7
  have hlen : (IL l).length ≤ 1000 := by rw [map_len]; omega
  by_cases q2 : 0 < l.length
  case neg =>
    cases l with
    | cons => exact absurd (Nat.succ_pos _) q2
    | nil => exact T_consR (T_ex (ρ' := []) (hp' := [.list []]) (Ex_ret (Ev_ite (Tr_lst (Ev_frz Z_digits) fun _ => rfl) (Ev_callZ Z_inner hfn (Evs_cons rfl Ev_int (Evs_cons rfl (Ev_callB ⟨rfl, by decide⟩ (nsK sm B.n_len) boot_len (by decide) (Evs_cons rfl (Ev_frz Z_digits) Evs_nil) rfl B_len) Evs_nil)) rfl h_inner) Ev_int)) rfl (Nat.le_refl _))
  have he : (!(IL l).isEmpty) = true := by
    cases l with
    | nil => cases q2
    | cons => rfl
  have e1 : lenF [.ref 0] [.list (IL l)] = some (.int (l.length : Nat), [.list (IL l)]) := (bG_eq hlen).trans (by rw [map_len])
  have e2 : seg l 0 l.length = l := by rw [seg, List.drop_zero, Nat.sub_zero, List.take_length]
  refine T_consR (T_ex (Ex_ret (Ev_ite (Tr_lst (Ev_frz Z_digits) fun _ => rfl) (Ev_callZ Z_inner hfn (Evs_cons rfl Ev_int (Evs_cons rfl (Ev_callB ⟨rfl, by decide⟩ (nsK sm B.n_len) boot_len (by decide) (Evs_cons rfl (Ev_frz Z_digits) Evs_nil) rfl B_len) Evs_nil)) rfl h_inner) Ev_int)) (ret_eq ((bB_eq (a := true) (hp := [.list (IL l)]) ((bG_eq hlen).trans (by rw [he]))).trans ((bVs_eq (a := [.int 0, .int (l.length : Nat)]) (hp := [.list (IL l)]) ?_).trans ?_))) (Nat.le_refl _))
  · show bVs (bV (lenF [.ref 0] [.list (IL l)]) _) _ = _
    rw [e1]; rfl
  · exact (d2_val (a := 0) rfl q2 (Nat.le_refl _) q3).trans (by rw [e2]; rfl)
end
end Mine

open PySem PySem.Calls PySem.W PySem.Spec PyProof.Rows
set_option Elab.async false
set_option autoImplicit false
set_option maxRecDepth 100000
set_option genSizeOf false
set_option genInjectivity false
set_option linter.unusedVariables false
namespace Mine
noncomputable section
variable {C C' : Cx} {n : Nat} {env : Env} {ns : List Str}
/-! bits -/
theorem bitNot_bitNot (x : Int) : Builtin.bitNot (Builtin.bitNot x) = x := by unfold Builtin.bitNot; omega
theorem bitAnd_nat (x y : Nat) : Builtin.bitAnd (x : Int) y = ((x &&& y : Nat) : Int) := by
  unfold Builtin.bitAnd
  rw [decide_eq_true (Int.natCast_nonneg x), decide_eq_true (Int.natCast_nonneg y)]; rfl
theorem bitOr_nat (x y : Nat) : Builtin.bitOr (x : Int) y = ((x ||| y : Nat) : Int) := by
  unfold Builtin.bitOr Builtin.bitAnd
  rw [decide_eq_false (show ¬ 0 ≤ Builtin.bitNot (x : Int) by unfold Builtin.bitNot; omega), decide_eq_false (show ¬ 0 ≤ Builtin.bitNot (y : Int) by unfold Builtin.bitNot; omega)]
  show Builtin.bitNot (Builtin.bitNot (((Builtin.bitNot (Builtin.bitNot (x : Int))).toNat ||| (Builtin.bitNot (Builtin.bitNot (y : Int))).toNat : Nat) : Int)) = _
  rw [bitNot_bitNot, bitNot_bitNot, bitNot_bitNot]; rfl
theorem xor_low (X s : Nat) : Builtin.bitXor (X : Int) ((X / 2 ^ s * 2 ^ s : Nat) : Int) = ((X % 2 ^ s : Nat) : Int) := by
  have hb : ∀ i, (X / 2 ^ s * 2 ^ s).testBit i = (decide (s ≤ i) && X.testBit i) := fun i => by
    rw [Nat.mul_comm, Nat.testBit_two_pow_mul, Nat.testBit_div_two_pow]
    by_cases h : s ≤ i
    · rw [decide_eq_true h, show i - s + s = i by omega]
    · rw [decide_eq_false h]; rfl
  have h1 : X ||| (X / 2 ^ s * 2 ^ s) = X := Nat.eq_of_testBit_eq fun i => by
    rw [Nat.testBit_or, hb]
    cases X.testBit i <;> cases decide (s ≤ i) <;> rfl
  have h2 : X &&& (X / 2 ^ s * 2 ^ s) = X / 2 ^ s * 2 ^ s := Nat.eq_of_testBit_eq fun i => by
    rw [Nat.testBit_and, hb]
    cases X.testBit i <;> cases decide (s ≤ i) <;> rfl
  unfold Builtin.bitXor
  rw [bitOr_nat, bitAnd_nat, h1, h2]
  have := Nat.div_add_mod X (2 ^ s)
  rw [Nat.mul_comm] at this
  omega
/-! _int2digits -/
def digs (m : Nat) : Nat → Nat → List Int
  | _, 0 => []
  | X, c + 1 => ((X % 2 ^ m : Nat) : Int) :: digs m (X / 2 ^ m) c
theorem digs_len {m : Nat} : ∀ (c X : Nat), (digs m X c).length = c
  | 0, _ => rfl
  | c + 1, X => congrArg Nat.succ (digs_len c _)
theorem digs_app {m : Nat} (d : Nat) : ∀ (c X : Nat), digs m X (c + d) = digs m (X % 2 ^ (m * c)) c ++ digs m (X / 2 ^ (m * c)) d
  | 0, X => by rw [Nat.mul_zero, Nat.pow_zero, Nat.div_one, Nat.zero_add]; rfl
  | c + 1, X => by
    rw [show c + 1 + d = (c + d) + 1 by omega]
    show _ :: digs m (X / 2 ^ m) (c + d) = _ :: (digs m (X % 2 ^ (m * (c + 1)) / 2 ^ m) c ++ _)
    rw [digs_app d c, Nat.mul_succ, Nat.pow_add, Nat.mul_comm (2 ^ (m * c)) (2 ^ m), Nat.mod_mul_right_div_self, Nat.div_div_eq_div_mul, Nat.mod_mul_right_mod]
def putD (m : Nat) (l : List Int) (a b X : Nat) : List Int := l.take a ++ (digs m X (b - a) ++ l.drop b)
theorem putD_len {m : Nat} {l : List Int} {a b X : Nat} (h : a ≤ b) (hb : b ≤ l.length) : (putD m l a b X).length = l.length := by
  rw [putD, List.length_append, List.length_append, digs_len, List.length_take, List.length_drop]; omega
theorem putD_one {m : Nat} {l : List Int} {a X : Nat} (ha : a < l.length) (hX : X < 2 ^ (m * (a + 1 - a))) : putD m l a (a + 1) X = l.set a (X : Int) := by
  rw [Nat.add_sub_cancel_left, Nat.mul_one] at hX
  rw [putD, Nat.add_sub_cancel_left, List.set_eq_take_append_cons_drop, if_pos ha]
  show _ ++ ([((X % 2 ^ m : Nat) : Int)] ++ _) = _
  rw [Nat.mod_eq_of_lt hX]; rfl
theorem putD_two {m : Nat} {l : List Int} {a b c X : Nat} (h1 : a ≤ c) (h2 : c ≤ b) (hb : b ≤ l.length) : putD m (putD m l a c (X % 2 ^ ((c - a) * m))) c b (X / 2 ^ ((c - a) * m)) = putD m l a b X := by
  have e0 : (l.take a ++ digs m (X % 2 ^ ((c - a) * m)) (c - a)).length = c := by rw [List.length_append, digs_len, List.length_take]; omega
  have e : putD m l a c (X % 2 ^ ((c - a) * m)) = (l.take a ++ digs m (X % 2 ^ ((c - a) * m)) (c - a)) ++ l.drop c := by rw [putD, List.append_assoc]
  unfold putD at e
  unfold putD
  rw [e, List.take_left' e0, show b = c + (b - c) by omega, ← List.drop_drop, List.drop_left' e0, List.drop_drop, show c + (b - c) = b by omega, show b - a = (c - a) + (b - c) by omega, digs_app, Nat.mul_comm m, List.append_assoc, List.append_assoc]
def i2F (m k : Nat) (vs : List V) (hp : Hp) : Option (V × Hp) := threeI vs fun x a b => bIs hp[1]? fun l => bG (0 ≤ x ∧ x < 2 ^ (m * (b.toNat - a.toNat)) ∧ 0 ≤ a ∧ a < b ∧ b ≤ l.length ∧ b - a ≤ (2 ^ k : Nat) ∧ l.length * m ≤ 190 ∧ l.length ≤ 190) (some (.val .none, hp.set 1 (.list (IL (putD m l a.toNat b.toNat x.toNat)))))
theorem i2_val {m k : Nat} {l : List Int} {X a b : Nat} {hp : Hp} (hl : hp[1]? = some (.list (IL l))) (hX : X < 2 ^ (m * (b - a))) (h1 : a < b) (h2 : b ≤ l.length) (h3 : b - a ≤ 2 ^ k) (h4 : l.length * m ≤ 190) (h5 : l.length ≤ 190) : i2F m k [.int X, .int a, .int b] hp = some (.val .none, hp.set 1 (.list (IL (putD m l a b X)))) := by
  show bIs hp[1]? _ = _
  unfold bIs
  rw [bL_eq hl, IL_intsOf]
  exact bG_eq ⟨by omega, by exact_mod_cast hX, by omega, by omega, by omega, by omega, h4, h5⟩
theorem expr_eq {x : Option (V × Hp)} {hp' : Hp} {ρ : Rho} (e : x = some (.val .none, hp')) : (bV x fun v hp => match v with | .val .none => some (Fl.next, ρ, hp) | _ => none) = some (.next, ρ, hp') := by rw [e]; rfl
abbrev i2E (L : Addr) (cdv : Value) : Env := envOfC "_int2digits" (fdS (bd 4)) L 35 cdv
abbrev i2I : Stmt := (fdB (bd 4))[1]?.getD default
theorem len3 {α : Type} {l : List α} (h : l.length = 3) : ∃ a b c, l = [a, b, c] := by
  cases l with
  | nil => cases h
  | cons a l => exact (len2 (Nat.succ.inj h)).elim fun b q => q.elim fun c q => ⟨a, b, c, by rw [q]⟩
abbrev i2R (x a b c s u l : Nat) : Rho := [some (.int x), some (.int a), some (.int b), some (.int c), some (.int s), some (.int u), some (.int l)]
theorem shr_val (X s : Nat) : binI .RShift (X : Int) (s : Int) = some ((X / 2 ^ s : Nat) : Int) := (bG_eq (by omega)).trans (congrArg some (by rw [Int.fdiv_eq_ediv_of_nonneg _ (Int.pow_nonneg (by decide)), Int.toNat_natCast, Int.natCast_ediv, Int.natCast_pow]; rfl))
theorem shl_nat {Y s : Nat} (h : Y < 2 ^ 200) (hs : s ≤ 1000) : binI .LShift (Y : Int) (s : Int) = some ((Y * 2 ^ s : Nat) : Int) :=
  (shl_val (by omega) (by exact_mod_cast h) hs).trans (by rw [Int.natCast_mul, Int.natCast_pow]; rfl)
theorem i2_step {nsO : List Str} {ρ : Rho} {f' c' : Addr} {doc pm ctv : Value} {L : Addr} {cdv : Value} {m : Nat}
    (M : Made C' (i2E L cdv) nsO ρ "inner" (qualnameIn (i2E L cdv) "inner" "inner") (fdP i2I) (fdB i2I) (fdS i2I) f' c' doc pm ctv)
    (z1 : FzN C' (i2E L cdv) "a_digits" (.ref 1)) (z2 : FzN C' (i2E L cdv) "n" (.int m)) (z3 : FzN C' (i2E L cdv) "inner" (.val (.ref f'))) {k : Nat} (ih : k = 0 ∨ ∃ k', k = k' + 1 ∧ Fn C' n (.ref f') (i2F m k')) :
    Fn C' (n + 1) (.ref f') (i2F m k) := .of fun vs hp v hp' e => by
  obtain ⟨X, a, b, rfl, e⟩ := threeI_inv e
  obtain ⟨l, hl, e⟩ := bIs_inv e
  refine bGE e fun q e => ?_
  obtain ⟨q0, qX, q1, q2, q3, q4, q5, q6⟩ := q
  cases e
  obtain ⟨X, rfl⟩ := Int.eq_ofNat_of_zero_le q0
  obtain ⟨a, rfl⟩ := Int.eq_ofNat_of_zero_le q1
  obtain ⟨b, rfl⟩ := Int.eq_ofNat_of_zero_le (Int.le_of_lt (Int.lt_of_le_of_lt q1 q2))
  have r2 := Int.ofNat_lt.mp q2
  have r3 := Int.ofNat_le.mp q3
  have rX : X < 2 ^ (m * (b - a)) := by exact_mod_cast qX
  have h0 : 1 < hp.length := (List.getElem?_eq_some_iff.mp hl).1
  refine M.cl (ns' := ["x", "L", "R", "mid", "shift", "upper", "lower"]) (ps := ["x", "L", "R"]) ⟨rfl, rfl, rfl, rfl, by decide, by decide, by decide, by decide⟩ (fun cs h => (len3 h).elim fun c h => h.elim fun d h => h.elim fun e h => by rw [h]; rfl) (three_nd (a := L + 1) (b := L + 1 + 1 + 1) (c := L + 1 + 1) (by omega) (by omega) (by omega)) rfl fun L' => ?_
  have Z_a_digits := z1.inner (qual := qualnameIn (i2E L cdv) "inner" "inner") (scope := fdS i2I) (L := L') (f := f') (c := c') (cl := buildCl (i2E L cdv).cells (fdS i2I).names []) rfl rfl rfl
  show Bd _ _ _ _ _ _ _ _ (hp.set 1 (.list (IL (putD m l a b X))))
  by_cases c1 : ((a : Int) + 1 == b) = true
  · have hb : b = a + 1 := by have := beq_iff_eq.mp c1; omega
    subst hb
    refine ⟨.ret (.val .none), argR ["x", "L", "R", "mid", "shift", "upper", "lower"] ["x", "L", "R"] [.int X, .int a, .int (a + 1 : Nat)], T_consR (T_ifT (Tr_cmp rfl (Cmp_int (Ev_bin (Ev_var 1 rfl) Ev_int) (Ev_var 2 rfl))) (b := ((a : Int) + 1 == (a + 1 : Nat))) rfl c1 (Nat.le_refl _) (T_cons (T_ex (ρ' := argR ["x", "L", "R", "mid", "shift", "upper", "lower"] ["x", "L", "R"] [.int X, .int a, .int (a + 1 : Nat)]) (hp' := hp.set 1 (.list (IL (putD m l a (a + 1) X)))) (Ex_setI (Ev_var 0 rfl) (Ev_frz Z_a_digits) (Ev_var 1 rfl) rfl) ?_ (Nat.le_refl _)) (T_consR (T_ex Ex_ret0 rfl (by rw [List.length_set]; exact Nat.le_refl _))))), FlR.ret⟩
    show bL hp[1]? _ = _
    rw [bL_eq hl, bG_eq (by rw [map_len]; omega), putD_one r3 rX, show IL (l.set a (X : Int)) = (IL l).set a (.int X) from List.map_set]; rfl
  · have Z_n := z2.inner (qual := qualnameIn (i2E L cdv) "inner" "inner") (scope := fdS i2I) (L := L') (f := f') (c := c') (cl := buildCl (i2E L cdv).cells (fdS i2I).names []) rfl rfl rfl
    have Z_inner := z3.inner (qual := qualnameIn (i2E L cdv) "inner" "inner") (scope := fdS i2I) (L := L') (f := f') (c := c') (cl := buildCl (i2E L cdv).cells (fdS i2I).names []) rfl rfl rfl
    have hfn := M.fn
    have hb : a + 2 ≤ b := by
      have : ¬ ((a : Int) + 1 = b) := fun h => c1 (beq_iff_eq.mpr h)
      omega
    rcases ih with rfl | ⟨k', rfl, h_inner⟩
    · have : b - a ≤ 1 := by omega
      omega
    · have r4 : b - a ≤ 2 ^ k' + 2 ^ k' := by rw [Nat.pow_succ] at q4; omega
      obtain ⟨c, hc⟩ : ∃ c, c = (a + b) / 2 := ⟨_, rfl⟩
      obtain ⟨s, hs⟩ : ∃ s, s = (c - a) * m := ⟨_, rfl⟩
      have hs2 : s ≤ 190 := hs ▸ Nat.le_trans (Nat.mul_le_mul_right m (by omega)) q5
      have x1 : X < 2 ^ 200 := Nat.lt_of_lt_of_le rX (Nat.pow_le_pow_right (by decide) (Nat.le_trans (Nat.mul_comm m (b - a) ▸ Nat.mul_le_mul_right m (show b - a ≤ l.length by omega)) (Nat.le_trans q5 (by decide))))
      have x2 : X % 2 ^ s < 2 ^ (m * (c - a)) := by rw [Nat.mul_comm m, ← hs]; exact Nat.mod_lt _ (Nat.two_pow_pos s)
      have x3 : X / 2 ^ s < 2 ^ (m * (b - c)) := Nat.div_lt_of_lt_mul (by rw [← Nat.pow_add, hs, Nat.mul_comm (c - a), ← Nat.mul_add, show c - a + (b - c) = b - a by omega]; exact rX)
      have h1 : (hp.set 1 (.list (IL (putD m l a c (X % 2 ^ s)))))[1]? = some (.list (IL (putD m l a c (X % 2 ^ s)))) := List.getElem?_set_self h0
      have h2 : (hp.set 1 (.list (IL (putD m l a c (X % 2 ^ s))))).set 1 (.list (IL (putD m (putD m l a c (X % 2 ^ s)) c b (X / 2 ^ s)))) = hp.set 1 (.list (IL (putD m l a b X))) := by rw [List.set_set, hs, putD_two (by omega) (by omega) r3]
      have hl1 := putD_len (m := m) (X := X % 2 ^ s) (show a ≤ c by omega) (show c ≤ l.length by omega)
      refine ⟨.next, i2R X a b c s (X / 2 ^ s) (X % 2 ^ s), T_cons (T_ifF (Tr_cmp rfl (Cmp_int (Ev_bin (Ev_var 1 rfl) Ev_int) (Ev_var 2 rfl))) (b := ((a : Int) + 1 == b)) rfl (Bool.eq_false_iff.mpr c1) (Nat.le_refl _) T_nil) (T_cons (T_ex (ρ' := [some (.int X), some (.int a), some (.int b), some (.int c), none, none, none]) (hp' := hp) (Ex_assign 3 rfl rfl (Ev_bin (Ev_bin (Ev_var 1 rfl) (Ev_var 2 rfl)) Ev_int)) ?_ (Nat.le_refl _)) (T_cons (T_ex (ρ' := [some (.int X), some (.int a), some (.int b), some (.int c), some (.int s), none, none]) (hp' := hp) (Ex_assign 4 rfl rfl (Ev_bin (Ev_bin (Ev_var 3 rfl) (Ev_var 1 rfl)) (Ev_frz Z_n))) ?_ (Nat.le_refl _)) (T_cons (T_ex (ρ' := [some (.int X), some (.int a), some (.int b), some (.int c), some (.int s), some (.int (X / 2 ^ s : Nat)), none]) (hp' := hp) (Ex_assign 5 rfl rfl (Ev_bin (Ev_var 0 rfl) (Ev_var 4 rfl))) ?_ (Nat.le_refl _)) (T_cons (T_ex (ρ' := i2R X a b c s (X / 2 ^ s) (X % 2 ^ s)) (hp' := hp) (Ex_assign 6 rfl rfl (Ev_bin (Ev_var 0 rfl) (Ev_bin (Ev_var 5 rfl) (Ev_var 4 rfl)))) ?_ (Nat.le_refl _)) (T_cons (T_ex (Ex_expr (Ev_callZ Z_inner hfn (Evs_cons rfl (Ev_var 6 rfl) (Evs_cons rfl (Ev_var 1 rfl) (Evs_cons rfl (Ev_var 3 rfl) Evs_nil))) rfl h_inner) rfl rfl) (expr_eq (i2_val hl x2 (by omega) (by omega) (by omega) q5 q6)) (Nat.le_refl _)) (T_cons (T_ex (Ex_expr (Ev_callZ Z_inner hfn (Evs_cons rfl (Ev_var 5 rfl) (Evs_cons rfl (Ev_var 3 rfl) (Evs_cons rfl (Ev_var 2 rfl) Evs_nil))) rfl h_inner) rfl rfl) (expr_eq ((i2_val h1 x3 (by omega) (by omega) (by omega) (by rw [hl1]; exact q5) (by rw [hl1]; exact q6)).trans (by rw [h2]))) (by rw [List.length_set]; exact Nat.le_refl _)) T_nil)))))), FlR.next⟩
      · subst hc
        exact asg_eq (i := 3) ((bI_eq (a := (a : Int) + b) (hp := hp) rfl).trans (congrArg (Option.map fun c => (V.int c, hp)) mid_val))
      · subst hs
        exact asg_eq (i := 4) ((bI_eq (a := (c : Int) - a) (hp := hp) rfl).trans (congrArg (Option.map fun c => (V.int c, hp)) (sub_mul_nat (by omega) (by omega))))
      · exact asg_eq (i := 5) (congrArg (Option.map fun c => (V.int c, hp)) (shr_val X s))
      · exact asg_eq (i := 6) ((bI_eq (a := X) (hp := hp) rfl).trans ((bI_eq (a := ((X / 2 ^ s * 2 ^ s : Nat) : Int)) (hp := hp) (congrArg (Option.map fun c => (V.int c, hp)) (shl_nat (Nat.lt_of_le_of_lt (Nat.div_le_self X (2 ^ s)) x1) (by omega)))).trans (congrArg (fun c => some (V.int c, hp)) (xor_low X s))))
theorem i2_inner {nsO : List Str} {ρ : Rho} {f' c' : Addr} {doc pm ctv : Value} {L : Addr} {cdv : Value} {m : Nat}
    (M : Made C' (i2E L cdv) nsO ρ "inner" (qualnameIn (i2E L cdv) "inner" "inner") (fdP i2I) (fdB i2I) (fdS i2I) f' c' doc pm ctv)
    (z1 : FzN C' (i2E L cdv) "a_digits" (.ref 1)) (z2 : FzN C' (i2E L cdv) "n" (.int m)) (z3 : FzN C' (i2E L cdv) "inner" (.val (.ref f'))) : ∀ k, Fn C' (n + k + 1) (.ref f') (i2F m k)
  | 0 => i2_step M z1 z2 z3 (.inl rfl)
  | k + 1 => i2_step M z1 z2 z3 (.inr ⟨k, rfl, i2_inner M z1 z2 z3 k⟩)
theorem lt_bits (X : Nat) : X < 2 ^ Builtin.Int.intBits (X : Int) := by
  unfold Builtin.Int.intBits
  split
  · rename_i h
    have : X = 0 := by have := beq_iff_eq.mp h; omega
    rw [this]; decide
  · exact Nat.lt_log2_self
def cntD (X m : Nat) : Nat := (Builtin.Int.intBits (X : Int) + m - 1) / m
theorem cntD_le {X m : Nat} (h : 0 < m) : X < 2 ^ (m * cntD X m) := Nat.lt_of_lt_of_le (lt_bits X) (Nat.pow_le_pow_right (by decide) (by
  have h1 := Nat.div_add_mod (Builtin.Int.intBits (X : Int) + m - 1) m
  have h2 := Nat.mod_lt (Builtin.Int.intBits (X : Int) + m - 1) h
  unfold cntD
  omega))
theorem cnt_val {X m N : Nat} (h : 0 < m) (h2 : (m : Int) ≤ 1000) (hN : N = cntD X m) : binI .FloorDiv ((Builtin.Int.intBits (X : Int) : Int) + m - 1) m = some (N : Int) := by
  refine (bG_eq ⟨by omega, by omega⟩).trans (congrArg some ?_)
  rw [Int.fdiv_eq_ediv_of_nonneg _ (by omega), hN, cntD, Int.natCast_ediv]
  exact congrArg (· / (m : Int)) (by omega)
def i2dF (vs : List V) (hp : Hp) : Option (V × Hp) := twoI vs fun a m => bG (0 ≤ a ∧ 1 ≤ m ∧ m ≤ 1000 ∧ cntD a.toNat m.toNat * m.toNat ≤ 190 ∧ cntD a.toNat m.toNat ≤ 128) (some (.ref hp.length, hp ++ [.list (IL (digs m.toNat a.toNat (cntD a.toNat m.toNat)))]))
theorem h_int2digits (B : Bs C) : Fn C (n + 9) (.ref 35) i2dF := .of fun vs hp v hp' e => by
  obtain ⟨X, m, rfl, e⟩ := twoI_inv e
  refine bGE e fun q e => ?_
  cases e
  obtain ⟨q1, q2, q5, q3, q4⟩ := q
  obtain ⟨X, rfl⟩ := Int.eq_ofNat_of_zero_le q1
  obtain ⟨m, rfl⟩ := Int.eq_ofNat_of_zero_le (Int.le_of_lt q2)
  obtain ⟨c, P, h, hC, hP, hq⟩ := B.b_int2digits
  obtain ⟨N, hN⟩ : ∃ N, N = cntD X m := ⟨_, rfl⟩
  have r2 : 0 < m := by omega
  have r5 : X < 2 ^ (m * N) := hN ▸ cntD_le r2
  rw [show cntD (Int.toNat (X : Int)) (Int.toNat (m : Int)) = N from hN.symm] at q3 q4 ⊢
  have q3 : N * m ≤ 190 := q3
  refine Cl_frame (hp₀ := []) (g := [.list [.int 0], .list (IL (digs m X N))]) (vs₀ := [.int X, .int m]) B.hz (Cl_def (ns := ["a", "n", "a_digits", "inner"]) (v := .ref 1) (hp' := [.list [.int 0], .list (IL (digs m X N))]) h ⟨rfl, rfl, rfl, by decide, rfl, by decide, by decide, by decide⟩ rfl fun L => ⟨.ret (.ref 1), [], ?_, FlR.ret⟩) [] List.nodup_nil rfl rfl (fun _ h => nomatch h) (.inr ⟨1, _, rfl, rfl, flat_list, rfl, rfl⟩)
  have hfree : ∀ y ∈ (fdS i2I).names, y.2 = .free → y.1 ∈ (["a", "n", "a_digits", "inner"] : List Str) ∧ (fdS (bd 4)).names.lookup y.1 = some .cell := by decide
  refine T_cons (T_ex (ρ' := [some (.int X), some (.int m), some (.ref 1), none]) (hp' := [.list [.int 0], .list (IL (List.replicate N 0))]) (Ex_assign 2 rfl rfl (Ev_mulL (Ev_list (Evs_cons rfl Ev_int Evs_nil)) (Ev_bin (Ev_bin (Ev_bin (Ev_bits ⟨_, rfl⟩ (Ev_var 0 rfl)) (Ev_var 1 rfl)) Ev_int) (Ev_var 1 rfl)))) ?_ (Nat.le_refl _)) (T_def (name := "inner") (params := fdP i2I) (body := fdB i2I) (scope := fdS i2I) (ρ' := [some (.int X)]) 3 1 B.hz hP rfl hC hq rfl rfl (by decide) hfree (fun y hy => by cases List.mem_singleton.mp hy; rfl) (cellsFrom_names (fdS (bd 4)).names 0 (L + 1) [] [] rfl ▸ by decide) rfl rfl rfl fun C' f' c' doc pm ctv sm M => ?_)
  · refine asg_eq (i := 2) ((bR_eq (i := 0) (hp := [.list [.int 0]]) rfl).trans ((bI_eq (a := (N : Nat)) (hp := [.list [.int 0]]) ((bI_eq (a := (Builtin.Int.intBits (X : Int) : Int) + m - 1) (hp := [.list [.int 0]]) rfl).trans (congrArg (Option.map fun c => (V.int c, [O.list [.int 0]])) (cnt_val r2 q5 hN)))).trans ?_))
    refine (bG_eq (show 0 < [V.int 0].length ∧ [V.int 0].length * (N : Int).toNat ≤ 1000 ∧ (N : Int).natAbs ≤ 1000 from ⟨Nat.zero_lt_one, ?_, ?_⟩)).trans ?_
    · show 1 * N ≤ 1000; omega
    · show N ≤ 1000; omega
    · exact congrArg (fun l => some (V.ref 1, [O.list [.int 0], .list l])) (rep_IL N 0)
  · have Z_a_digits : FzN C' (i2E L (.ref c)) "a_digits" (.ref 1) := M.frz 2 "a_digits" (.ref 1) rfl rfl rfl
    have Z_n : FzN C' (i2E L (.ref c)) "n" (.int m) := M.frz 1 "n" (.int m) rfl rfl rfl
    have Z_inner : FzN C' (i2E L (.ref c)) "inner" (.val (.ref f')) := M.frz 3 "inner" (.val (.ref f')) rfl rfl rfl
    have hfn := M.fn
    have h_inner := i2_inner (n := n) M Z_a_digits Z_n Z_inner 7
    have e1 : lenF [.ref 1] [.list [.int 0], .list (IL (List.replicate N 0))] = some (.int N, [.list [.int 0], .list (IL (List.replicate N 0))]) := (bG_eq (by rw [map_len, List.length_replicate]; omega)).trans (by rw [map_len, List.length_replicate])
    have e2 : putD m (List.replicate N 0) 0 N X = digs m X N := by
      rw [putD, List.take_zero, List.nil_append, Nat.sub_zero, List.drop_eq_nil_of_le (by rw [List.length_replicate]; exact Nat.le_refl N), List.append_nil]
    refine T_cons (ρ₁ := [some (.int X)]) (hp₁ := [.list [.int 0], .list (IL (digs m X N))]) ?_ (T_consR (T_ex (ρ' := [some (.int X)]) (hp' := [.list [.int 0], .list (IL (digs m X N))]) (Ex_ret (Ev_frz Z_a_digits)) rfl (Nat.zero_le _)))
    by_cases h0 : ((X : Int) != 0) = true
    · have hN0 : 0 < N := by
        rcases Nat.eq_zero_or_pos N with q | q
        · rw [q, Nat.mul_zero] at r5
          have := bne_iff_ne.mp h0
          omega
        · exact q
      refine T_ifT (Tr_int (Ev_var 0 rfl) fun _ => rfl) (b := (X : Int) != 0) rfl h0 (Nat.zero_le _) (T_cons (T_ex (ρ' := [some (.int X)]) (hp' := [.list [.int 0], .list (IL (digs m X N))]) (Ex_expr (Ev_callZ Z_inner hfn (Evs_cons rfl (Ev_var 0 rfl) (Evs_cons rfl Ev_int (Evs_cons rfl (Ev_callB ⟨rfl, by decide⟩ (nsK sm B.n_len) boot_len (by decide) (Evs_cons rfl (Ev_frz Z_a_digits) Evs_nil) rfl B_len) Evs_nil))) rfl h_inner) rfl rfl) (expr_eq ((bVs_eq (a := [.int X, .int (0 : Nat), .int N]) (hp := [.list [.int 0], .list (IL (List.replicate N 0))]) ?_).trans ?_)) (Nat.zero_le _)) T_nil)
      · show bVs (bVs (bV (lenF [.ref 1] [.list [.int 0], .list (IL (List.replicate N 0))]) _) _) _ = _
        rw [e1]; rfl
      · refine (i2_val (l := List.replicate N 0) rfl r5 hN0 (by rw [List.length_replicate]; exact Nat.le_refl N) q4 (by rw [List.length_replicate]; exact q3) (by rw [List.length_replicate]; omega)).trans ?_
        rw [e2]; rfl
    · have hX : X = 0 := by
        have := bne_eq_false_iff_eq.mp (Bool.eq_false_iff.mpr h0)
        omega
      subst hX
      have hN0 : N = 0 := by
        rw [hN]
        exact Nat.div_eq_of_lt (show 0 + m - 1 < m by omega)
      subst hN0
      exact T_ifF (Tr_int (Ev_var 0 rfl) fun _ => rfl) (b := ((0 : Nat) : Int) != 0) rfl (Bool.eq_false_iff.mpr h0) (Nat.zero_le _) T_nil
end
end Mine

open PySem PySem.Calls PySem.W PySem.Spec PyProof.Rows
set_option Elab.async false
set_option autoImplicit false
set_option maxRecDepth 100000
set_option genSizeOf false
set_option genInjectivity false
set_option linter.unusedVariables false
namespace Mine
noncomputable section
variable {C C' : Cx} {n : Nat} {env : Env} {ns : List Str}
/-! _divmod_pos, by 16 -/
def ldQ : Nat → List Int → List Int
  | _, [] => []
  | r, d :: l => (((r : Int) * 32 + d) / 16) :: ldQ (((r : Int) * 32 + d) % 16).toNat l
def ldR : Nat → List Int → Nat
  | r, [] => r
  | r, d :: l => ldR (((r : Int) * 32 + d) % 16).toNat l
theorem valD_rev (d : Int) (l : List Int) : valD 5 (d :: l).reverse = valD 5 l.reverse + 2 ^ (5 * l.length) * d := by
  rw [List.reverse_cons, valD_app, List.length_reverse]
  show _ + _ * (d + 2 ^ 5 * 0) = _
  rw [Int.mul_zero, Int.add_zero]
theorem ldQ_len : ∀ (l : List Int) (r : Nat), (ldQ r l).length = l.length
  | [], _ => rfl
  | d :: l, r => congrArg Nat.succ (ldQ_len l _)
theorem ld_ok : ∀ (l : List Int) (r : Nat), (r : Int) * 2 ^ (5 * l.length) + valD 5 l.reverse = 16 * valD 5 (ldQ r l).reverse + ldR r l
  | [], r => by show (r : Int) * 2 ^ 0 + 0 = 16 * 0 + (r : Int); omega
  | d :: l, r => by
    have h := ld_ok l (((r : Int) * 32 + d) % 16).toNat
    show _ = 16 * valD 5 ((((r : Int) * 32 + d) / 16) :: ldQ (((r : Int) * 32 + d) % 16).toNat l).reverse + (ldR (((r : Int) * 32 + d) % 16).toNat l : Nat)
    rw [valD_rev, valD_rev, ldQ_len, Int.mul_add, Int.add_right_comm, ← h, List.length_cons, Nat.mul_succ, Int.pow_add]
    have e1 : ((((r : Int) * 32 + d) % 16).toNat : Int) = ((r : Int) * 32 + d) % 16 := Int.toNat_of_nonneg (by omega)
    rw [e1]
    have e2 : (r : Int) * 32 + d = 16 * (((r : Int) * 32 + d) / 16) + ((r : Int) * 32 + d) % 16 := by omega
    have e3 := congrArg (· * (2 : Int) ^ (5 * l.length)) e2
    simp only [Int.add_mul] at e3
    rw [show (2 : Int) ^ 5 = 32 from rfl, Int.mul_comm ((2 : Int) ^ (5 * l.length)) 32, ← Int.mul_assoc, Int.mul_comm ((2 : Int) ^ (5 * l.length)) d, Int.mul_comm ((2 : Int) ^ (5 * l.length)) (_ / 16), ← Int.mul_assoc 16]
    omega
theorem ldR_lt : ∀ (l : List Int) (r : Nat), r < 16 → ldR r l < 16
  | [], _, h => h
  | d :: l, r, _ => ldR_lt l _ (by omega)
theorem ldQ_mem : ∀ (l : List Int) (r : Nat), r < 16 → (∀ d ∈ l, 0 ≤ d ∧ d < 32) → ∀ q ∈ ldQ r l, 0 ≤ q ∧ q < 32
  | [], _, _, _, q, h => nomatch h
  | d :: l, r, hr, hd, q, h => by
    have h1 := hd d List.mem_cons_self
    rcases List.mem_cons.mp h with rfl | h
    · omega
    · exact ldQ_mem l _ (by omega) (fun d h => hd d (List.mem_cons_of_mem _ h)) q h
theorem digs_mem {m : Nat} : ∀ (c X : Nat), ∀ d ∈ digs m X c, 0 ≤ d ∧ d < 2 ^ m
  | 0, _, d, h => nomatch h
  | c + 1, X, d, h => by
    rcases List.mem_cons.mp h with rfl | h
    · exact ⟨by omega, by exact_mod_cast Nat.mod_lt X (Nat.two_pow_pos m)⟩
    · exact digs_mem c _ d h
theorem valD_digs {m : Nat} : ∀ (c X : Nat), X < 2 ^ (m * c) → valD m (digs m X c) = X
  | 0, X, h => by rw [Nat.mul_zero] at h; have : X = 0 := by omega
                  rw [this]; rfl
  | c + 1, X, h => by
    show ((X % 2 ^ m : Nat) : Int) + 2 ^ m * valD m (digs m (X / 2 ^ m) c) = X
    rw [valD_digs c _ (Nat.div_lt_of_lt_mul (by rw [← Nat.pow_add, Nat.add_comm, ← Nat.mul_succ]; exact h))]
    exact_mod_cast Nat.mod_add_div X (2 ^ m)
theorem bV_eq {β : Type} {x : Option (V × Hp)} {v : V} {hp : Hp} {k : V → Hp → Option β} (h : x = some (v, hp)) : bV x k = k v hp := by rw [h]; rfl
abbrev dmR (X m : Nat) (r : Nat) (d q : Option V) : Rho := [some (.int X), some (.int 16), some (.int 5), some (.ref 0), some (.int r), some (.ref 1), d, q, none]
def DmB (X : Nat) (ds : List Int) (_ : Nat) (ρ : Rho) (h : Hp) (ρ' : Rho) (h' : Hp) : Prop := ∃ qs r d q, r < 16 ∧ 0 ≤ d ∧ d < 32 ∧ qs.length ≤ 1000 ∧ ρ = dmR X 0 r (some (.int d)) q ∧ h = [.list (IL ds), .list (IL qs)] ∧
  ρ' = dmR X 0 (((r : Int) * 32 + d) % 16).toNat (some (.int d)) (some (.int (((r : Int) * 32 + d) / 16))) ∧ h' = [.list (IL ds), .list (IL (qs ++ [((r : Int) * 32 + d) / 16]))]
theorem div2_val {t : Int} {hp : Hp} (h0 : 0 ≤ t) (h : t < 512) : div2F [.int t, .int 16, .int 5] hp = some (.ref hp.length, hp ++ [.tuple [.int (t / 16), .int ((t % 16).toNat : Nat)]]) := by
  have hb : Builtin.Int.intBits t ≤ 9 := bits_le_of (nat_lt_pow h0 h)
  refine (bG_eq (show (Builtin.Int.intBits t : Int) - 5 ≤ 4000 ∧ (16 : Int) ≠ 0 ∧ (16 : Int).natAbs < 2 ^ 30 from ⟨by omega, by decide, by decide⟩)).trans ?_
  rw [Int.fdiv_eq_ediv_of_nonneg _ (by decide), Int.fmod_eq_emod_of_nonneg _ (by decide), Int.toNat_of_nonneg (by omega)]
theorem dm_turn (B : Bs C) {L : Addr} {cdv : Value} {X : Nat} {ds : List Int} (j : Nat) (ρ : Rho) (h : Hp) (ρ' : Rho) (h' : Hp) (b : DmB X ds j ρ h ρ' h') : Tri C (n + 1) (envOfC "_divmod_pos" (fdS (bd 6)) L 49 cdv) ["a", "b", "n", "a_digits", "r", "q_digits", "a_digit", "q_digit", "q"] 2 (stB ((fdB (bd 6))[4]?.getD default)) ρ h .next ρ' h' := by
  obtain ⟨qs, r, d, q, hr, h0, h1, h2, rfl, rfl, rfl, rfl⟩ := b
  have h_div2n1n := h_div2n1n (n := n) B
  obtain ⟨t, ht⟩ : ∃ t, t = (r : Int) * 32 + d := ⟨_, rfl⟩
  rw [← ht]
  refine T_norm (ρ' := dmR X 0 (t % 16).toNat (some (.int d)) (some (.int (t / 16)))) (hp' := [.list (IL ds), .list (IL (qs ++ [t / 16])), .tuple [.int (t / 16), .int ((t % 16).toNat : Nat)]]) (T_cons (T_ex (ρ' := dmR X 0 (t % 16).toNat (some (.int d)) (some (.int (t / 16)))) (hp' := [.list (IL ds), .list (IL qs), .tuple [.int (t / 16), .int ((t % 16).toNat : Nat)]]) (Ex_assign2 7 4 rfl rfl rfl rfl (Ev_call ⟨rfl, by decide⟩ B.n_div2n1n B.k_div2n1n (Evs_cons rfl (Ev_bin (Ev_bin (Ev_var 4 rfl) (Ev_var 2 rfl)) (Ev_var 6 rfl)) (Evs_cons rfl (Ev_var 1 rfl) (Evs_cons rfl (Ev_var 2 rfl) Evs_nil))) rfl h_div2n1n)) ?_ (Nat.le_of_ble_eq_true rfl)) (T_cons (T_ex (Ex_expr (Ev_append ⟨_, rfl⟩ (Ev_var 5 rfl) (Ev_var 7 rfl) rfl) rfl rfl) ?_ (Nat.le_of_ble_eq_true rfl)) T_nil)) B.hz [0, 1] (by decide) rfl ⟨flat_list, flat_list, trivial⟩ rfl rfl
  · refine (bR_eq (i := 2) (hp := [.list (IL ds), .list (IL qs), .tuple [.int (t / 16), .int ((t % 16).toNat : Nat)]]) ((bVs_eq (a := [.int t, .int 16, .int 5]) (hp := [.list (IL ds), .list (IL qs)]) ?_).trans (div2_val (by omega) (by omega)))).trans rfl
    refine (bV_eq (v := .int t) (hp := [.list (IL ds), .list (IL qs)]) ((bI_eq (a := (r : Int) * 32) (hp := [.list (IL ds), .list (IL qs)]) (congrArg (Option.map fun c => (V.int c, [O.list (IL ds), .list (IL qs)])) (shl_val (x := (r : Int)) (s := 5) (by omega) ?_ (by decide)))).trans (by rw [ht]; rfl))).trans rfl
    exact Int.lt_of_lt_of_le (show (r : Int) < 16 by omega) (by decide)
  · rw [← IL_app]
    exact app_eq2 (i := 1) (hp := [.list (IL ds), .list (IL qs), .tuple [.int (t / 16), .int ((t % 16).toNat : Nat)]]) (x := some (.int (t / 16), [.list (IL ds), .list (IL qs), .tuple [.int (t / 16), .int ((t % 16).toNat : Nat)]])) rfl rfl rfl (by rw [map_len]; exact h2)
theorem dm_loop {X : Nat} {ds : List Int} (hd : ∀ d ∈ ds, 0 ≤ d ∧ d < 32) (hl : ds.length ≤ 100) : ∀ (l : List Int) (j : Nat) (r : Nat) (qs : List Int) (d q : Option V), ds.reverse.drop j = l → r < 16 → qs.length = j → ∃ d' q',
    FoR (fun hp j => itemAt (.rev (IL ds).length) hp 0 j) (fun _ v ρ => ρ.set 6 (some v)) (DmB X ds) l.length j (dmR X 0 r d q) [.list (IL ds), .list (IL qs)] (dmR X 0 (ldR r l) d' q') [.list (IL ds), .list (IL (qs ++ ldQ r l))]
  | [], j, r, qs, d, q, h, hr, hq => by
    refine ⟨d, q, ?_, rfl, by rw [ldQ, List.append_nil]⟩
    show bG ((IL ds).length = (IL ds).length) (some (if j < (IL ds).length then _ else _)) = _
    have := List.drop_eq_nil_iff.mp h
    rw [List.length_reverse] at this
    rw [bG_eq rfl, if_neg (by rw [map_len]; omega)]
  | x :: l, j, r, qs, d, q, h, hr, hq => by
    obtain ⟨h1, h2⟩ := drop_cons h
    have hj : j < ds.length := List.length_reverse ▸ (List.getElem?_eq_some_iff.mp h1).1
    rw [List.getElem?_reverse hj] at h1
    have hx := hd x (List.mem_of_getElem? h1)
    obtain ⟨d', q', hh⟩ := dm_loop hd hl l (j + 1) (((r : Int) * 32 + x) % 16).toNat (qs ++ [((r : Int) * 32 + x) / 16]) (some (.int x)) (some (.int (((r : Int) * 32 + x) / 16))) h2 (by omega) (by rw [List.length_append, hq]; rfl)
    refine ⟨d', q', .int x, _, _, ?_, ⟨qs, r, x, q, hr, hx.1, hx.2, by omega, rfl, rfl, rfl, rfl⟩, ?_⟩
    · show bG ((IL ds).length = (IL ds).length) (some (if j < (IL ds).length then (IL ds)[(IL ds).length - 1 - j]? else _)) = _
      rw [bG_eq rfl, if_pos (by rw [map_len]; exact hj), map_len, IL, List.getElem?_map, h1]; rfl
    · rw [List.append_assoc] at hh; exact hh
theorem bits16 : Builtin.Int.intBits 16 = 5 := by decide +kernel
/-- a by 16 -/
def dmpF (vs : List V) (hp : Hp) : Option (V × Hp) := twoI vs fun a b => bG (b = 16 ∧ 0 ≤ a ∧ a < 2 ^ 100) (some (.ref hp.length, hp ++ [.tuple [.int (a / 16), .int (a % 16)]]))
theorem h_divmod_pos (B : Bs C) : Fn C (n + 10) (.ref 49) dmpF := .of fun vs hp v hp' e => by
  obtain ⟨X, m, rfl, e⟩ := twoI_inv e
  refine bGE e fun q e => ?_
  cases e
  obtain ⟨rfl, q1, q2⟩ := q
  obtain ⟨X, rfl⟩ := Int.eq_ofNat_of_zero_le q1
  obtain ⟨cdv, h⟩ := B.b_divmod_pos
  have h_int2digits := h_int2digits (n := n) B
  have h_digits2int := h_digits2int (n := n) B
  have hb : Builtin.Int.intBits (X : Int) ≤ 100 := bits_le_of (nat_lt_pow q1 q2)
  obtain ⟨N, hN⟩ : ∃ N, N = cntD X 5 := ⟨_, rfl⟩
  have hN2 : N ≤ 20 := by rw [hN]; unfold cntD; omega
  have hX : X < 2 ^ (5 * N) := hN ▸ cntD_le (by decide)
  obtain ⟨ds, hds⟩ : ∃ ds, ds = digs 5 X N := ⟨_, rfl⟩
  have hdl : ds.length = N := by rw [hds, digs_len]
  have hdm : ∀ d ∈ ds, 0 ≤ d ∧ d < 32 := fun d hd => digs_mem (m := 5) N X d (hds ▸ hd)
  obtain ⟨d', q', hloop⟩ := dm_loop (X := X) hdm (by omega) ds.reverse 0 0 [] none none rfl (by decide) rfl
  obtain ⟨qs, hqs⟩ : ∃ qs, qs = ldQ 0 ds.reverse := ⟨_, rfl⟩
  obtain ⟨r, hr⟩ : ∃ r, r = ldR 0 ds.reverse := ⟨_, rfl⟩
  have hval := ld_ok ds.reverse 0
  have hr2 := ldR_lt ds.reverse 0 (by decide)
  have hqm := ldQ_mem ds.reverse 0 (by decide) fun d hd => hdm d (List.mem_reverse.mp hd)
  have hql := ldQ_len ds.reverse 0
  rw [List.reverse_reverse, ← hqs, ← hr, hds, valD_digs N X hX] at hval
  rw [← hr] at hr2 hloop
  rw [← hqs] at hqm hql hloop
  rw [List.nil_append] at hloop
  rw [List.length_reverse, hdl] at hql
  have e1 : (X : Int) / 16 = valD 5 qs.reverse := by omega
  have e2 : (X : Int) % 16 = r := by omega
  rw [e1, e2]
  refine Cl_frame (hp₀ := []) (g := [.list (IL ds), .list (IL qs.reverse), .tuple [.int (valD 5 qs.reverse), .int r]]) (vs₀ := [.int X, .int 16]) B.hz (Cl_def (ns := ["a", "b", "n", "a_digits", "r", "q_digits", "a_digit", "q_digit", "q"]) (v := .ref 2) (hp' := [.list (IL ds), .list (IL qs.reverse), .tuple [.int (valD 5 qs.reverse), .int r]]) h ⟨rfl, rfl, rfl, by decide, rfl, by decide, by decide, by decide⟩ rfl fun L => ⟨.ret (.ref 2), (dmR X 0 r d' q').set 8 (some (.int (valD 5 qs.reverse))), ?_, FlR.ret⟩) [] List.nodup_nil rfl rfl (fun _ h => nomatch h) (.inr ⟨2, _, rfl, rfl, flat_tup (l := [valD 5 qs.reverse, r]), rfl, rfl⟩)
  have f1 : i2dF [.int X, .int 5] [] = some (.ref 0, [.list (IL ds)]) := by
    refine (bG_eq (show 0 ≤ (X : Int) ∧ (1 : Int) ≤ 5 ∧ (5 : Int) ≤ 1000 ∧ cntD X 5 * 5 ≤ 190 ∧ cntD X 5 ≤ 128 from ⟨by omega, by decide, by decide, by omega, by omega⟩)).trans ?_
    rw [hds, hN]; rfl
  have f2 : d2iF [.ref 1, .int 5] [.list (IL ds), .list (IL qs.reverse)] = some (.int (valD 5 qs.reverse), [.list (IL ds), .list (IL qs.reverse)]) := by
    show bIs (some (O.list (IL qs.reverse))) _ = _
    unfold bIs
    rw [bL_eq rfl, IL_intsOf]
    exact bG_eq ⟨by decide, by rw [List.length_reverse]; omega, by rw [List.length_reverse]; show 5 * _ ≤ _; omega, fun d hd => hqm d (List.mem_reverse.mp hd)⟩
  refine T_cons (T_ex (ρ' := [some (.int X), some (.int 16), some (.int 5), none, none, none, none, none, none]) (hp' := []) (Ex_assign 2 rfl rfl (Ev_bits ⟨_, rfl⟩ (Ev_var 1 rfl))) (asg_eq (i := 2) (show some (V.int (Builtin.Int.intBits 16 : Nat), []) = _ by rw [bits16]; rfl)) (Nat.zero_le _)) (T_cons (T_ex (ρ' := [some (.int X), some (.int 16), some (.int 5), some (.ref 0), none, none, none, none, none]) (hp' := [.list (IL ds)]) (Ex_assign 3 rfl rfl (Ev_call ⟨rfl, by decide⟩ B.n_int2digits B.k_int2digits (Evs_cons rfl (Ev_var 0 rfl) (Evs_cons rfl (Ev_var 2 rfl) Evs_nil)) rfl h_int2digits)) (asg_eq (i := 3) f1) (Nat.zero_le _)) (T_cons (T_ex (ρ' := [some (.int X), some (.int 16), some (.int 5), some (.ref 0), some (.int 0), none, none, none, none]) (hp' := [.list (IL ds)]) (Ex_assign 4 rfl rfl Ev_int) rfl (Nat.zero_le _)) (T_cons (T_ex (ρ' := dmR X 0 0 none none) (hp' := [.list (IL ds), .list (IL [])]) (Ex_assign 5 rfl rfl (Ev_list Evs_nil)) rfl (Nat.zero_le _)) (T_cons (T_forRev (k := 0) (hp1 := [.list (IL ds), .list (IL [])]) 6 rfl ⟨rfl, by decide⟩ B.n_reversed (fun _ => rfl) rfl (Ev_var 3 rfl) 2 (dm_turn B) rfl rfl (Nat.zero_le _) (Nat.zero_le _) (Nat.le_of_ble_eq_true rfl) (Nat.le_of_ble_eq_true rfl) hloop) (T_cons (T_ex (ρ' := dmR X 0 r d' q') (hp' := [.list (IL ds), .list (IL qs.reverse)]) (Ex_expr (Ev_reverse ⟨_, rfl⟩ (Ev_var 5 rfl)) rfl rfl) (expr_eq ?_) (Nat.zero_le _)) (T_cons (T_ex (ρ' := (dmR X 0 r d' q').set 8 (some (.int (valD 5 qs.reverse)))) (hp' := [.list (IL ds), .list (IL qs.reverse)]) (Ex_assign 8 rfl rfl (Ev_call ⟨rfl, by decide⟩ B.n_digits2int B.k_digits2int (Evs_cons rfl (Ev_var 5 rfl) (Evs_cons rfl (Ev_var 2 rfl) Evs_nil)) rfl h_digits2int)) (asg_eq (i := 8) f2) (Nat.zero_le _)) (T_consR (T_ex (Ex_ret (Ev_tuple (Evs_cons rfl (Ev_var 8 rfl) (Evs_cons rfl (Ev_var 4 rfl) Evs_nil)))) rfl (Nat.zero_le _)))))))))
  exact (bG_eq (show (IL qs).length ≤ 1000 by rw [map_len]; omega)).trans (by rw [show (IL qs).reverse = IL qs.reverse from List.map_reverse.symm]; rfl)
/-! int_divmod, by 16 or by -16 -/
def dmP (a b : Int) : Int × Int := if b = 16 then (a / 16, a % 16) else ((-a) / 16, -((-a) % 16))
/-- how far: 0 = by 16, a not below nought; 1 = by 16; 2 = by 16 or -16 -/
def idmF (k : Nat) (vs : List V) (hp : Hp) : Option (V × Hp) := twoI vs fun a b => bG ((b = 16 ∨ (b = -16 ∧ k = 2)) ∧ (k = 0 → 0 ≤ a) ∧ a.natAbs < 2 ^ 99) (some (.ref hp.length, hp ++ [.tuple [.int (dmP a b).1, .int (dmP a b).2]]))
theorem idm_val {k : Nat} {a b : Int} {hp : Hp} (h1 : b = 16 ∨ (b = -16 ∧ k = 2)) (h2 : k = 0 → 0 ≤ a) (h3 : a.natAbs < 2 ^ 99) : idmF k [.int a, .int b] hp = some (.ref hp.length, hp ++ [.tuple [.int (dmP a b).1, .int (dmP a b).2]]) := bG_eq ⟨h1, h2, h3⟩
theorem idm_step (B : Bs C) {k : Nat} (ih : k = 0 ∨ ∃ k', k = k' + 1 ∧ Fn C (n + 10) (.ref 56) (idmF k')) : Fn C (n + 11) (.ref 56) (idmF k) := .of fun vs hp v hp' e => by
  obtain ⟨a, b, rfl, e⟩ := twoI_inv e
  refine bGE e fun q e => ?_
  cases e
  obtain ⟨q1, q2, q3⟩ := q
  obtain ⟨cdv, h⟩ := B.b_int_divmod
  have h_divmod_pos := h_divmod_pos (n := n) B
  obtain ⟨g, ρ', k', hg, hT⟩ : ∃ g ρ' k', g[k']? = some (O.tuple [.int (dmP a b).1, .int (dmP a b).2]) ∧ ∀ L, Tri C (n + 10) (envOfC "int_divmod" (fdS (bd 7)) L 56 cdv) ["a", "b", "q", "r"] 0 (fdB (bd 7)) [some (.int a), some (.int b), none, none] [] (.ret (.ref k')) ρ' g := by
    by_cases c1 : b < 0
    · have hb : b = -16 ∧ k = 2 := by omega
      obtain ⟨rfl, rfl⟩ := hb
      rcases ih with h | ⟨k', h, h_int_divmod⟩
      · cases h
      · cases h
        refine ⟨[.tuple [.int (dmP (-a) 16).1, .int (dmP (-a) 16).2], .tuple [.int (dmP a (-16)).1, .int (dmP a (-16)).2]], [some (.int a), some (.int (-16)), some (.int (dmP (-a) 16).1), some (.int (dmP (-a) 16).2)], 1, rfl, fun L => T_consR (T_ifF (Tr_cmp rfl (Cmp_int (Ev_var 1 rfl) Ev_int)) (b := (-16 : Int) == 0) rfl rfl (Nat.zero_le _) (T_consR (T_ifT (Tr_cmp rfl (Cmp_int (Ev_var 1 rfl) Ev_int)) (b := decide ((-16 : Int) < 0)) rfl rfl (Nat.zero_le _) (T_cons (T_ex (ρ' := [some (.int a), some (.int (-16)), some (.int (dmP (-a) 16).1), some (.int (dmP (-a) 16).2)]) (hp' := [.tuple [.int (dmP (-a) 16).1, .int (dmP (-a) 16).2]]) (Ex_assign2 2 3 rfl rfl rfl rfl (Ev_call ⟨rfl, by decide⟩ B.n_int_divmod B.k_int_divmod (Evs_cons rfl (Ev_un (Ev_var 0 rfl)) (Evs_cons rfl (Ev_un (Ev_var 1 rfl)) Evs_nil)) rfl h_int_divmod)) ((bR_eq (i := 0) (hp := [.tuple [.int (dmP (-a) 16).1, .int (dmP (-a) 16).2]]) (idm_val (k := 1) (a := -a) (b := 16) (.inl rfl) (fun h => absurd h (by decide)) (by omega))).trans rfl) (Nat.zero_le _)) (T_consR (T_ex (Ex_ret (Ev_tuple (Evs_cons rfl (Ev_var 2 rfl) (Evs_cons rfl (Ev_un (Ev_var 3 rfl)) Evs_nil)))) rfl (Nat.zero_le _)))))))⟩
    · have hb : b = 16 := by omega
      subst hb
      by_cases c2 : a < 0
      · rcases ih with rfl | ⟨k', rfl, h_int_divmod⟩
        · exact absurd (q2 rfl) (by omega)
        · have hn : Builtin.bitNot a = -a - 1 := rfl
          have e1 : Builtin.bitNot (dmP (Builtin.bitNot a) 16).1 = (dmP a 16).1 := by
            show -((Builtin.bitNot a) / 16) - 1 = a / 16
            rw [hn]; omega
          have e2 : 16 + Builtin.bitNot (dmP (Builtin.bitNot a) 16).2 = (dmP a 16).2 := by
            show 16 + (-((Builtin.bitNot a) % 16) - 1) = a % 16
            rw [hn]; omega
          refine ⟨[.tuple [.int (dmP (Builtin.bitNot a) 16).1, .int (dmP (Builtin.bitNot a) 16).2], .tuple [.int (Builtin.bitNot (dmP (Builtin.bitNot a) 16).1), .int (16 + Builtin.bitNot (dmP (Builtin.bitNot a) 16).2)]], [some (.int a), some (.int 16), some (.int (dmP (Builtin.bitNot a) 16).1), some (.int (dmP (Builtin.bitNot a) 16).2)], 1, by rw [e1, e2]; rfl, fun L => T_consR (T_ifF (Tr_cmp rfl (Cmp_int (Ev_var 1 rfl) Ev_int)) (b := (16 : Int) == 0) rfl rfl (Nat.zero_le _) (T_consR (T_ifF (Tr_cmp rfl (Cmp_int (Ev_var 1 rfl) Ev_int)) (b := decide ((16 : Int) < 0)) rfl rfl (Nat.zero_le _) (T_consR (T_ifT (Tr_cmp rfl (Cmp_int (Ev_var 0 rfl) Ev_int)) (b := decide (a < 0)) rfl (decide_eq_true c2) (Nat.zero_le _) (T_cons (T_ex (ρ' := [some (.int a), some (.int 16), some (.int (dmP (Builtin.bitNot a) 16).1), some (.int (dmP (Builtin.bitNot a) 16).2)]) (hp' := [.tuple [.int (dmP (Builtin.bitNot a) 16).1, .int (dmP (Builtin.bitNot a) 16).2]]) (Ex_assign2 2 3 rfl rfl rfl rfl (Ev_call ⟨rfl, by decide⟩ B.n_int_divmod B.k_int_divmod (Evs_cons rfl (Ev_un (Ev_var 0 rfl)) (Evs_cons rfl (Ev_var 1 rfl) Evs_nil)) rfl h_int_divmod)) ((bR_eq (i := 0) (hp := [.tuple [.int (dmP (Builtin.bitNot a) 16).1, .int (dmP (Builtin.bitNot a) 16).2]]) (idm_val (k := k') (a := Builtin.bitNot a) (b := 16) (.inl rfl) (fun _ => by rw [hn]; omega) (by rw [hn]; omega))).trans rfl) (Nat.zero_le _)) (T_consR (T_ex (Ex_ret (Ev_tuple (Evs_cons rfl (Ev_un (Ev_var 2 rfl)) (Evs_cons rfl (Ev_bin (Ev_var 1 rfl) (Ev_un (Ev_var 3 rfl))) Evs_nil)))) rfl (Nat.zero_le _)))))))))⟩
      · have hp : dmpF [.int a, .int 16] [] = some (.ref 0, [.tuple [.int (a / 16), .int (a % 16)]]) := bG_eq ⟨rfl, by omega, by omega⟩
        refine ⟨[.tuple [.int (a / 16), .int (a % 16)]], [some (.int a), some (.int 16), none, none], 0, rfl, fun L => T_consR (T_ifF (Tr_cmp rfl (Cmp_int (Ev_var 1 rfl) Ev_int)) (b := (16 : Int) == 0) rfl rfl (Nat.zero_le _) (T_consR (T_ifF (Tr_cmp rfl (Cmp_int (Ev_var 1 rfl) Ev_int)) (b := decide ((16 : Int) < 0)) rfl rfl (Nat.zero_le _) (T_consR (T_ifF (Tr_cmp rfl (Cmp_int (Ev_var 0 rfl) Ev_int)) (b := decide (a < 0)) rfl (decide_eq_false c2) (Nat.zero_le _) (T_consR (T_ex (Ex_ret (Ev_call ⟨rfl, by decide⟩ B.n_divmod_pos B.k_divmod_pos (Evs_cons rfl (Ev_var 0 rfl) (Evs_cons rfl (Ev_var 1 rfl) Evs_nil)) rfl h_divmod_pos)) (ret_eq hp) (Nat.zero_le _))))))))⟩
  exact Cl_frame (hp₀ := []) (g := g) (vs₀ := [.int a, .int b]) B.hz (Cl_def (ns := ["a", "b", "q", "r"]) (v := .ref k') (hp' := g) h ⟨rfl, rfl, rfl, by decide, rfl, by decide, by decide, by decide⟩ rfl fun L => ⟨_, ρ', hT L, FlR.ret⟩) [] List.nodup_nil rfl rfl (fun _ h => nomatch h) (.inr ⟨k', _, by rw [List.length_nil, Nat.zero_add], hg, flat_tup (l := [_, _]), rfl, rfl⟩)
theorem h_int_divmod (B : Bs C) : Fn C (n + 13) (.ref 56) (idmF 2) := idm_step (n := n + 2) B (.inr ⟨1, rfl, idm_step (n := n + 1) B (.inr ⟨0, rfl, idm_step (n := n) B (.inl rfl)⟩)⟩)
end
end Mine

open PySem PySem.Calls PySem.W PySem.Spec PyProof.Rows
set_option Elab.async false
set_option autoImplicit false
set_option maxRecDepth 100000
set_option genSizeOf false
set_option genInjectivity false
set_option linter.unusedVariables false
namespace Mine
noncomputable section
variable {C C' : Cx} {n : Nat} {env : Env} {ns : List Str}
/-! _law_planes: the parts -/
def axisL : List Int := [43690, 52428, 61680, 65280, 65536]
def notL (l : List Int) : List Int := l.map fun p => 131071 - p
def bitP (c : Int) (k : Nat) : Int := ((((c.fdiv 72).fmod 32).fdiv (2 ^ k)).fmod 2) * 131071
def partP (c : Int) : List Int := match (c.fdiv 6).fmod 3 != 0 with
  | true => (List.range 5).map (bitP c)
  | false => axisL
/-- `full - p`, whose place is i, p's is j -/
def notE (i j : Nat) : FV := fun ρ hp => bI ((getR ρ i).map fun v => (v, hp)) fun a hp => bI ((getR ρ j).map fun v => (v, hp)) fun b hp => (binI .Sub a b).map fun c => (.int c, hp)
theorem not_elt {hp : Hp} (l : List Int) : All2 (fun v u => notE 1 0 (some v :: [some (.int 131071)]) hp = some (u, hp)) (IL l) (IL (notL l)) :=
  all2_of (by rw [map_len, map_len, notL, List.length_map]) fun m v u e1 e2 => by
    obtain ⟨p, h5, rfl⟩ := Option.map_eq_some_iff.mp (List.getElem?_map .. ▸ e1)
    rw [notL, List.getElem?_map, List.getElem?_map, h5] at e2
    cases e2; rfl
theorem not_comp {fi : FV} {ρ : Rho} {hp hp1 : Hp} {k i : Nat} {l : List Int} (e1 : fi ρ hp = some (.ref k, hp1)) (hk : hp1[k]? = some (.list (IL l))) (hi : getR ρ i = some (.int 131071)) (hl : l.length < 100) : compF fi (notE 1 0) [i] ρ hp = some (.ref hp1.length, hp1 ++ [.list (IL (notL l))]) :=
  compF_eq (kd := .list) e1 (by rw [hk]; rfl) (by rw [List.map_cons, hi]; exact not_elt l) (items_list hk) (by rw [map_len]; exact hl)
/-- an item of a list at a place held by a name -/
def atE (i j : Nat) : FV := fun ρ hp => bR ((getR ρ i).map fun v => (v, hp)) fun i hp => bI ((getR ρ j).map fun v => (v, hp)) fun k hp => bL hp[i]? fun xs => bG (0 ≤ k ∧ k ≤ 1000) (xs[k.toNat]?.map fun v => (v, hp))
theorem atE_eq {i j a k : Nat} {ρ : Rho} {hp : Hp} {l : List Int} {p : Int} (hi : getR ρ i = some (.ref a)) (hj : getR ρ j = some (.int k)) (ha : hp[a]? = some (.list (IL l))) (hk : k ≤ 1000) (hp' : l[k]? = some p) : atE i j ρ hp = some (.int p, hp) := by
  show bR ((getR ρ i).map _) _ = _
  rw [hi]
  show bI ((getR ρ j).map _) _ = _
  rw [hj]
  exact (bL_eq ha).trans (at_eq hk hp')
def zipE (op : Operator) : FV := fun ρ hp => bI (atE 1 0 ρ hp) fun a hp => bI (atE 2 0 ρ hp) fun b hp => (binI op a b).map fun c => (.int c, hp)
theorem range_at {m j : Nat} {v : V} (e : (rangeVs m)[j]? = some v) : v = .int j ∧ j < m := by
  obtain ⟨j', e3, rfl⟩ := Option.map_eq_some_iff.mp (List.getElem?_map .. ▸ e)
  obtain ⟨hj, e4⟩ := List.getElem?_eq_some_iff.mp e3
  rw [List.getElem_range] at e4
  subst e4
  rw [List.length_range] at hj
  exact ⟨rfl, hj⟩
theorem range_len (m : Nat) : (rangeVs m).length = m := by rw [rangeVs, List.length_map, List.length_range]
theorem zip_elt {op : Operator} {f : Int → Int → Int} (hop : ∀ a b, binI op a b = some (f a b)) {hp : Hp} {i j : Nat} {l r : List Int} (hl : hp[i]? = some (.list (IL l))) (hr : hp[j]? = some (.list (IL r))) (h1 : l.length = 5) (h2 : r.length = 5) :
    All2 (fun v u => zipE op (some v :: [some (.ref i), some (.ref j)]) hp = some (u, hp)) (rangeVs 5) (IL (List.zipWith f l r)) :=
  all2_of (by rw [range_len, map_len, List.length_zipWith, h1, h2]; rfl) fun m v u e1 e2 => by
    obtain ⟨rfl, hm⟩ := range_at e1
    rw [List.getElem?_map] at e2
    obtain ⟨p, hp'⟩ : ∃ p, l[m]? = some p := ⟨_, List.getElem?_eq_getElem (by omega)⟩
    obtain ⟨q, hq⟩ : ∃ q, r[m]? = some q := ⟨_, List.getElem?_eq_getElem (by omega)⟩
    rw [List.getElem?_zipWith, hp', hq] at e2
    cases e2
    refine (bI_eq (atE_eq (i := 1) (j := 0) rfl rfl hl (by omega) hp')).trans ((bI_eq (atE_eq (i := 2) (j := 0) rfl rfl hr (by omega) hq)).trans ?_)
    rw [hop]; rfl
theorem zip_comp {op : Operator} {f : Int → Int → Int} (hop : ∀ a b, binI op a b = some (f a b)) {fi : FV} {ρ : Rho} {hp : Hp} {i j x y : Nat} {l r : List Int} (e1 : fi ρ hp = some (.ref hp.length, hp ++ [.range 5])) (hx : getR ρ x = some (.ref i)) (hy : getR ρ y = some (.ref j)) (hl : hp[i]? = some (.list (IL l))) (hr : hp[j]? = some (.list (IL r))) (h1 : l.length = 5) (h2 : r.length = 5) :
    compF fi (zipE op) [x, y] ρ hp = some (.ref (hp.length + 1), hp ++ [.range 5, .list (IL (List.zipWith f l r))]) := by
  have := compF_eq (elt := zipE op) (ρ := ρ) (caps := [x, y]) (kd := .range 5) e1 (by rw [show (hp ++ [_])[hp.length]? = _ from look_new hp _ 0]; rfl) (by rw [List.map_cons, List.map_cons, hx, hy]; exact zip_elt hop (look_at hl) (look_at hr) h1 h2) items_range (by decide)
  rw [List.length_append, List.append_assoc] at this
  exact this
def bitE : FV := fun ρ hp => bI (bI (bI (bI (bI ((getR ρ 2).map fun v => (v, hp)) fun a hp => bI (some (.int 72, hp)) fun b hp => (binI .FloorDiv a b).map fun c => (.int c, hp)) fun a hp => bI (some (.int 32, hp)) fun b hp => (binI .Mod a b).map fun c => (.int c, hp)) fun a hp => bI (bI (some (.int 2, hp)) fun a hp => bI ((getR ρ 0).map fun v => (v, hp)) fun b hp => (binI .Pow a b).map fun c => (.int c, hp)) fun b hp => (binI .FloorDiv a b).map fun c => (.int c, hp)) fun a hp => bI (some (.int 2, hp)) fun b hp => (binI .Mod a b).map fun c => (.int c, hp)) fun a hp => bI ((getR ρ 1).map fun v => (v, hp)) fun b hp => (binI .Mult a b).map fun c => (.int c, hp)
theorem bit_elt {hp : Hp} {c : Int} : All2 (fun v u => bitE (some v :: [some (.int 131071), some (.int c)]) hp = some (u, hp)) (rangeVs 5) (IL ((List.range 5).map (bitP c))) := by
  have e : ∀ k : Nat, k < 5 → bitE [some (.int k), some (.int 131071), some (.int c)] hp = some (.int (bitP c k), hp) := fun k hk => by
    have : k = 0 ∨ k = 1 ∨ k = 2 ∨ k = 3 ∨ k = 4 := by omega
    rcases this with rfl | rfl | rfl | rfl | rfl <;> rfl
  refine all2_of (by rw [range_len, map_len, List.length_map, List.length_range]) fun m v u e1 e2 => ?_
  obtain ⟨rfl, hm⟩ := range_at e1
  rw [List.getElem?_map, List.getElem?_map, List.getElem?_range hm] at e2
  cases e2
  exact e m hm
end
end Mine

open PySem PySem.Calls PySem.W PySem.Spec PyProof.Rows
set_option Elab.async false
set_option autoImplicit false
set_option maxRecDepth 100000
set_option genSizeOf false
set_option genInjectivity false
set_option linter.unusedVariables false
namespace Mine
noncomputable section
variable {C C' : Cx} {n : Nat} {env : Env} {ns : List Str}
abbrev plR (g : Option V) (c : Int) (part k left right kind : Option V) : Rho := [some (.ref 0), some (.int 131071), some (.ref 1), g, some (.int c), part, k, left, right, kind]
abbrev plE (L : Addr) (cdv : Value) : Env := envOfC "_law_planes" (fdS (bd 79)) L 160 cdv
abbrev plN : List Str := ["cells", "full", "axis", "g", "c", "part", "k", "left", "right", "kind"]
theorem pl_part (B : Bs C) {L : Addr} {cdv : Value} {g k l r kd : Option V} {c : Int} {hp : Hp} (h1 : hp[1]? = some (.list (IL axisL))) : ∃ j e, Tri1 C (n + 1) (plE L cdv) plN hp.length ((stB ((fdB (bd 79))[3]?.getD default))[1]?.getD default) (plR g c (some (.ref 1)) k l r kd) hp .next (plR g c (some (.ref j)) k l r kd) (hp ++ e) ∧ (hp ++ e)[j]? = some (.list (IL (partP c))) := by
  cases hc : ((c.fdiv 6).fmod 3 != 0) with
  | true =>
    refine ⟨hp.length + 1, [.range 5, .list (IL ((List.range 5).map (bitP c)))], T_ifT (Tr_cmp rfl (Cmp_int (Ev_bin (Ev_bin (Ev_var 4 rfl) Ev_int) Ev_int) Ev_int)) (b := ((c.fdiv 6).fmod 3 != 0)) (hp₁ := hp) rfl hc (Nat.le_refl _) (T_cons (T_ex (Ex_assignC 5 rfl rfl (caps := [1, 4]) (cns := ["full", "c"]) ⟨rfl, by decide, by decide, rfl, by decide, by decide, rfl, by decide, (List.forall_mem_cons.mpr ⟨rfl, (List.forall_mem_cons.mpr ⟨rfl, (fun _ h => nomatch h)⟩)⟩), by decide, by decide⟩ (fun _ => rfl) (Ev_callT ⟨rfl, by decide⟩ B.n_range boot_range (by decide) (Evs_cons rfl Ev_int Evs_nil) rfl T_range) (fun _ => (Ev_bin (Ev_bin (Ev_bin (Ev_bin (Ev_bin (Ev_var 2 rfl) Ev_int) Ev_int) (Ev_bin Ev_int (Ev_var 0 rfl))) Ev_int) (Ev_var 1 rfl)))) (asg_eq (i := 5) ?_) (Nat.le_refl _)) T_nil), ?_⟩
    · have := compF_eq (fi := fun _ hp => some (.ref hp.length, hp ++ [.range 5])) (elt := bitE) (ρ := plR g c (some (.ref 1)) k l r kd) (caps := [1, 4]) (hp := hp) (kd := .range 5) rfl (by rw [show (hp ++ [_])[hp.length]? = _ from look_new hp _ 0]; rfl) bit_elt items_range (by decide)
      rw [List.length_append, List.append_assoc] at this
      exact this
    · rw [look_new hp [.range 5, .list (IL ((List.range 5).map (bitP c)))] 1, partP, hc]; rfl
  | false => 
    refine ⟨1, [], ?_, ?_⟩
    · rw [List.append_nil]
      exact T_ifF (Tr_cmp rfl (Cmp_int (Ev_bin (Ev_bin (Ev_var 4 rfl) Ev_int) Ev_int) Ev_int)) (b := ((c.fdiv 6).fmod 3 != 0)) (hp₁ := hp) rfl hc (Nat.le_refl _) T_nil
    · rw [List.append_nil, h1, partP, hc]
theorem pl_side (B : Bs C) {L : Addr} {cdv : Value} {k kd : Option V} {gi pi : Nat} {c : Int} {hp : Hp} : Tri1 C (n + 1) (plE L cdv) plN hp.length ((stB ((fdB (bd 79))[3]?.getD default))[4]?.getD default) (plR (some (.ref gi)) c (some (.ref pi)) k (some (.ref gi)) (some (.ref pi)) kd) hp .next (plR (some (.ref gi)) c (some (.ref pi)) k (some (.ref (if (c.fdiv 18).fmod 2 == 1 then pi else gi))) (some (.ref (if (c.fdiv 18).fmod 2 == 1 then gi else pi))) kd) hp := by
  cases hc : ((c.fdiv 18).fmod 2 == 1) with
  | true => exact T_ifT (Tr_cmp rfl (Cmp_int (Ev_bin (Ev_bin (Ev_var 4 rfl) Ev_int) Ev_int) Ev_int)) (b := ((c.fdiv 18).fmod 2 == 1)) (hp₁ := hp) rfl hc (Nat.le_refl _) (T_cons (T_ex (Ex_assign 7 rfl rfl (Ev_var 5 rfl)) rfl (Nat.le_refl _)) (T_cons (T_ex (Ex_assign 8 rfl rfl (Ev_var 3 rfl)) rfl (Nat.le_refl _)) T_nil))
  | false => exact T_ifF (Tr_cmp rfl (Cmp_int (Ev_bin (Ev_bin (Ev_var 4 rfl) Ev_int) Ev_int) Ev_int)) (b := ((c.fdiv 18).fmod 2 == 1)) (hp₁ := hp) rfl hc (Nat.le_refl _) T_nil
theorem pl_tild (B : Bs C) {L : Addr} {cdv : Value} {pt k l r kd : Option V} {gi : Nat} {c : Int} {hp : Hp} {gl : List Int} (hg : hp[gi]? = some (.list (IL gl))) (h5 : gl.length = 5) : ∃ j e, Tri1 C (n + 1) (plE L cdv) plN hp.length ((stB ((fdB (bd 79))[3]?.getD default))[7]?.getD default) (plR (some (.ref gi)) c pt k l r kd) hp .next (plR (some (.ref j)) c pt k l r kd) (hp ++ e) ∧ (hp ++ e)[j]? = some (.list (IL (match (c.fdiv 36).fmod 2 == 1 with | true => notL gl | false => gl))) := by
  cases hc : ((c.fdiv 36).fmod 2 == 1) with
  | true =>
    exact ⟨hp.length, [.list (IL (notL gl))], T_ifT (Tr_cmp rfl (Cmp_int (Ev_bin (Ev_bin (Ev_var 4 rfl) Ev_int) Ev_int) Ev_int)) (b := ((c.fdiv 36).fmod 2 == 1)) (hp₁ := hp) rfl hc (Nat.le_refl _) (T_cons (T_ex (Ex_assignC 3 rfl rfl (caps := [1]) (cns := ["full"]) ⟨rfl, by decide, by decide, rfl, by decide, by decide, rfl, by decide, (List.forall_mem_cons.mpr ⟨rfl, (fun _ h => nomatch h)⟩), by decide, by decide⟩ (fun _ => rfl) (Ev_var 3 rfl) (fun _ => (Ev_bin (Ev_var 1 rfl) (Ev_var 0 rfl)))) (asg_eq (i := 3) (not_comp (ρ := plR (some (.ref gi)) c pt k l r kd) (i := 1) rfl hg rfl (by omega))) (Nat.le_refl _)) T_nil), look_new hp _ 0⟩
  | false =>
    refine ⟨gi, [], ?_, ?_⟩
    · rw [List.append_nil]
      exact T_ifF (Tr_cmp rfl (Cmp_int (Ev_bin (Ev_bin (Ev_var 4 rfl) Ev_int) Ev_int) Ev_int)) (b := ((c.fdiv 36).fmod 2 == 1)) (hp₁ := hp) rfl hc (Nat.le_refl _) T_nil
    · rw [List.append_nil]; exact hg
end
end Mine

open PySem PySem.Calls PySem.W PySem.Spec PyProof.Rows
set_option Elab.async false
set_option autoImplicit false
set_option maxRecDepth 100000
set_option genSizeOf false
set_option genInjectivity false
set_option linter.unusedVariables false
namespace Mine
noncomputable section
variable {C C' : Cx} {n : Nat} {env : Env} {ns : List Str}
theorem added_val {i j : Nat} {l r : List Int} {hp : Hp} (hl : hp[i]? = some (.list (IL l))) (hr : hp[j]? = some (.list (IL r))) (h1 : l.length = 5) (h2 : r.length = 5) : addedF [.ref i, .ref j] hp = some (.ref hp.length, hp ++ [.list (IL (addL 0 l r)), .range 5]) := by
  show bIs hp[i]? (fun l => bIs hp[j]? fun r => _) = _
  unfold bIs
  rw [bL_eq hl, IL_intsOf]
  show bL hp[j]? _ = _
  rw [bL_eq hr, IL_intsOf]
  exact bG_eq ⟨h1, h2⟩
theorem addL_len : ∀ {l r : List Int} {c : Int}, l.length = r.length → (addL c l r).length = l.length
  | [], [], _, _ => rfl
  | p :: l, q :: r, c, h => congrArg Nat.succ (addL_len (Nat.succ.inj h))
def mulS (l r acc : List Int) (k : Nat) : List Int := addL 0 acc (List.replicate k 0 ++ (l.take (5 - k)).map fun p => Builtin.bitAnd p (r.getD k 0))
def mulP (l r : List Int) : List Int := (List.range 5).foldl (mulS l r) (List.replicate 5 0)
def opP (kd : Int) (l r : List Int) : List Int := match kd with
  | .ofNat 0 => addL 0 l r
  | .ofNat 1 => notL (addL 0 (notL l) r)
  | .ofNat 2 => mulP l r
  | .ofNat 3 => List.zipWith Builtin.bitAnd l r
  | .ofNat 4 => List.zipWith Builtin.bitOr l r
  | _ => List.zipWith Builtin.bitXor l r
theorem op_0 (B : Bs C) {L : Addr} {cdv : Value} {g pt k kd : Option V} {i j : Nat} {c : Int} {hp : Hp} {l r : List Int} (hl : hp[i]? = some (.list (IL l))) (hr : hp[j]? = some (.list (IL r))) (h1 : l.length = 5) (h2 : r.length = 5) :
    Tri1 C (n + 1) (plE L cdv) plN hp.length ((stB ((stB ((fdB (bd 79))[3]?.getD default))[6]?.getD default))[0]?.getD default) (plR g c pt k (some (.ref i)) (some (.ref j)) kd) hp .next (plR (some (.ref hp.length)) c pt k (some (.ref i)) (some (.ref j)) kd) (hp ++ [.list (IL (addL 0 l r)), .range 5]) := by
  have h_law_added := h_law_added (n := n) B
  exact T_ex (Ex_assign 3 rfl rfl (Ev_call ⟨rfl, by decide⟩ B.n_law_added B.k_law_added (Evs_cons rfl (Ev_var 7 rfl) (Evs_cons rfl (Ev_var 8 rfl) Evs_nil)) rfl h_law_added)) (asg_eq (i := 3) (added_val hl hr h1 h2)) (Nat.le_refl _)
theorem op_1 (B : Bs C) {L : Addr} {cdv : Value} {g pt k kd : Option V} {i j : Nat} {c : Int} {hp : Hp} {l r : List Int} (hl : hp[i]? = some (.list (IL l))) (hr : hp[j]? = some (.list (IL r))) (h1 : l.length = 5) (h2 : r.length = 5) :
    Tri1 C (n + 1) (plE L cdv) plN hp.length ((stB ((stO ((stB ((fdB (bd 79))[3]?.getD default))[6]?.getD default))[0]?.getD default))[0]?.getD default) (plR g c pt k (some (.ref i)) (some (.ref j)) kd) hp .next (plR (some (.ref (hp.length + 3))) c pt k (some (.ref i)) (some (.ref j)) kd) (hp ++ [.list (IL (notL l)), .list (IL (addL 0 (notL l) r)), .range 5, .list (IL (notL (addL 0 (notL l) r)))]) := by
  have h_law_added := h_law_added (n := n) B
  have hn : (notL l).length = 5 := by rw [notL, List.length_map, h1]
  have e1 := not_comp (fi := fun ρ hp => (getR ρ 7).map fun v => (v, hp)) (ρ := plR g c pt k (some (.ref i)) (some (.ref j)) kd) (i := 1) (hp := hp) rfl hl rfl (by omega)
  have e2 := added_val (hp := hp ++ [.list (IL (notL l))]) (look_new hp [.list (IL (notL l))] 0) (look_at hr) hn h2
  have e3 := not_comp (fi := fun ρ hp => bVs (bV (compF (fun ρ hp => (getR ρ 7).map fun v => (v, hp)) (notE 1 0) [1] ρ hp) fun a hp => bVs (bV ((getR ρ 8).map fun v => (v, hp)) fun a hp => bVs (some ([], hp)) fun b hp => some (a :: b, hp)) fun b hp => some (a :: b, hp)) addedF) (ρ := plR g c pt k (some (.ref i)) (some (.ref j)) kd) (i := 1) (hp := hp) (l := addL 0 (notL l) r) ((bVs_eq (a := [.ref hp.length, .ref j]) (hp := hp ++ [.list (IL (notL l))]) ((bV_eq e1).trans rfl)).trans e2) (look_new (hp ++ [.list (IL (notL l))]) [.list (IL (addL 0 (notL l) r)), .range 5] 0) rfl (by rw [addL_len (by omega)]; omega)
  refine T_ex (Ex_assignC 3 rfl rfl (caps := [1]) (cns := ["full"]) ⟨rfl, by decide, by decide, rfl, by decide, by decide, rfl, by decide, (List.forall_mem_cons.mpr ⟨rfl, (fun _ h => nomatch h)⟩), by decide, by decide⟩ (fun _ => rfl) (Ev_call ⟨rfl, by decide⟩ B.n_law_added B.k_law_added (Evs_cons rfl (Ev_comp (caps := [1]) (cns := ["full"]) ⟨rfl, by decide, by decide, rfl, by decide, by decide, rfl, by decide, (List.forall_mem_cons.mpr ⟨rfl, (fun _ h => nomatch h)⟩), by decide, by decide⟩ (fun _ => rfl) (Ev_var 7 rfl) (fun _ => (Ev_bin (Ev_var 1 rfl) (Ev_var 0 rfl)))) (Evs_cons rfl (Ev_var 8 rfl) Evs_nil)) rfl h_law_added) (fun _ => (Ev_bin (Ev_var 1 rfl) (Ev_var 0 rfl)))) (asg_eq (i := 3) (e3.trans ?_)) (Nat.le_refl _)
  rw [List.length_append, List.length_append, List.append_assoc, List.append_assoc]; rfl
abbrev rg5 : FV := fun ρ hp => bVs (bV (some (V.int 5, hp)) fun a hp => bVs (some ([], hp)) fun b hp => some (a :: b, hp)) rangeF
theorem op_3 (B : Bs C) {L : Addr} {cdv : Value} {g pt k kd : Option V} {i j : Nat} {c : Int} {hp : Hp} {l r : List Int} (hl : hp[i]? = some (.list (IL l))) (hr : hp[j]? = some (.list (IL r))) (h1 : l.length = 5) (h2 : r.length = 5) :
    Tri1 C (n + 1) (plE L cdv) plN hp.length ((stB ((stO ((stO ((stO ((stB ((fdB (bd 79))[3]?.getD default))[6]?.getD default))[0]?.getD default))[0]?.getD default))[0]?.getD default))[0]?.getD default) (plR g c pt k (some (.ref i)) (some (.ref j)) kd) hp .next (plR (some (.ref (hp.length + 1))) c pt k (some (.ref i)) (some (.ref j)) kd) (hp ++ [.range 5, .list (IL (List.zipWith Builtin.bitAnd l r))]) :=
  T_ex (Ex_assignC 3 rfl rfl (caps := [7, 8]) (cns := ["left", "right"]) ⟨rfl, by decide, by decide, rfl, by decide, by decide, rfl, by decide, (List.forall_mem_cons.mpr ⟨rfl, (List.forall_mem_cons.mpr ⟨rfl, (fun _ h => nomatch h)⟩)⟩), by decide, by decide⟩ (fun _ => rfl) (Ev_callT ⟨rfl, by decide⟩ B.n_range boot_range (by decide) (Evs_cons rfl Ev_int Evs_nil) rfl T_range) (fun _ => (Ev_bin (Ev_idx (Ev_var 1 rfl) (Ev_var 0 rfl) fun _ _ => ⟨_, rfl⟩) (Ev_idx (Ev_var 2 rfl) (Ev_var 0 rfl) fun _ _ => ⟨_, rfl⟩)))) (asg_eq (i := 3) (zip_comp (op := .BitAnd) (x := 7) (y := 8) (fi := rg5) (ρ := plR g c pt k (some (.ref i)) (some (.ref j)) kd) (fun _ _ => rfl) rfl rfl rfl hl hr h1 h2)) (Nat.le_refl _)
theorem op_4 (B : Bs C) {L : Addr} {cdv : Value} {g pt k kd : Option V} {i j : Nat} {c : Int} {hp : Hp} {l r : List Int} (hl : hp[i]? = some (.list (IL l))) (hr : hp[j]? = some (.list (IL r))) (h1 : l.length = 5) (h2 : r.length = 5) :
    Tri1 C (n + 1) (plE L cdv) plN hp.length ((stB ((stO ((stO ((stO ((stO ((stB ((fdB (bd 79))[3]?.getD default))[6]?.getD default))[0]?.getD default))[0]?.getD default))[0]?.getD default))[0]?.getD default))[0]?.getD default) (plR g c pt k (some (.ref i)) (some (.ref j)) kd) hp .next (plR (some (.ref (hp.length + 1))) c pt k (some (.ref i)) (some (.ref j)) kd) (hp ++ [.range 5, .list (IL (List.zipWith Builtin.bitOr l r))]) :=
  T_ex (Ex_assignC 3 rfl rfl (caps := [7, 8]) (cns := ["left", "right"]) ⟨rfl, by decide, by decide, rfl, by decide, by decide, rfl, by decide, (List.forall_mem_cons.mpr ⟨rfl, (List.forall_mem_cons.mpr ⟨rfl, (fun _ h => nomatch h)⟩)⟩), by decide, by decide⟩ (fun _ => rfl) (Ev_callT ⟨rfl, by decide⟩ B.n_range boot_range (by decide) (Evs_cons rfl Ev_int Evs_nil) rfl T_range) (fun _ => (Ev_bin (Ev_idx (Ev_var 1 rfl) (Ev_var 0 rfl) fun _ _ => ⟨_, rfl⟩) (Ev_idx (Ev_var 2 rfl) (Ev_var 0 rfl) fun _ _ => ⟨_, rfl⟩)))) (asg_eq (i := 3) (zip_comp (op := .BitOr) (x := 7) (y := 8) (fi := rg5) (ρ := plR g c pt k (some (.ref i)) (some (.ref j)) kd) (fun _ _ => rfl) rfl rfl rfl hl hr h1 h2)) (Nat.le_refl _)
theorem op_5 (B : Bs C) {L : Addr} {cdv : Value} {g pt k kd : Option V} {i j : Nat} {c : Int} {hp : Hp} {l r : List Int} (hl : hp[i]? = some (.list (IL l))) (hr : hp[j]? = some (.list (IL r))) (h1 : l.length = 5) (h2 : r.length = 5) :
    Tri1 C (n + 1) (plE L cdv) plN hp.length ((stO ((stO ((stO ((stO ((stO ((stB ((fdB (bd 79))[3]?.getD default))[6]?.getD default))[0]?.getD default))[0]?.getD default))[0]?.getD default))[0]?.getD default))[0]?.getD default) (plR g c pt k (some (.ref i)) (some (.ref j)) kd) hp .next (plR (some (.ref (hp.length + 1))) c pt k (some (.ref i)) (some (.ref j)) kd) (hp ++ [.range 5, .list (IL (List.zipWith Builtin.bitXor l r))]) :=
  T_ex (Ex_assignC 3 rfl rfl (caps := [7, 8]) (cns := ["left", "right"]) ⟨rfl, by decide, by decide, rfl, by decide, by decide, rfl, by decide, (List.forall_mem_cons.mpr ⟨rfl, (List.forall_mem_cons.mpr ⟨rfl, (fun _ h => nomatch h)⟩)⟩), by decide, by decide⟩ (fun _ => rfl) (Ev_callT ⟨rfl, by decide⟩ B.n_range boot_range (by decide) (Evs_cons rfl Ev_int Evs_nil) rfl T_range) (fun _ => (Ev_bin (Ev_idx (Ev_var 1 rfl) (Ev_var 0 rfl) fun _ _ => ⟨_, rfl⟩) (Ev_idx (Ev_var 2 rfl) (Ev_var 0 rfl) fun _ _ => ⟨_, rfl⟩)))) (asg_eq (i := 3) (zip_comp (op := .BitXor) (x := 7) (y := 8) (fi := rg5) (ρ := plR g c pt k (some (.ref i)) (some (.ref j)) kd) (fun _ _ => rfl) rfl rfl rfl hl hr h1 h2)) (Nat.le_refl _)
end
end Mine

open PySem PySem.Calls PySem.W PySem.Spec PyProof.Rows
set_option Elab.async false
set_option autoImplicit false
set_option maxRecDepth 100000
set_option genSizeOf false
set_option genInjectivity false
set_option linter.unusedVariables false
namespace Mine
noncomputable section
variable {C C' : Cx} {n : Nat} {env : Env} {ns : List Str}
theorem pick_take {l : List Int} (h : l.length = 5) {k : Nat} (hk : k < 5) : pickV (IL l) none (some (5 - (k : Int))) none = IL (l.take (5 - k)) := by
  match l, h with
  | [a, b, c, d, e], _ =>
    have : k = 0 ∨ k = 1 ∨ k = 2 ∨ k = 3 ∨ k = 4 := by omega
    rcases this with rfl | rfl | rfl | rfl | rfl <;> rfl
def andE : FV := fun ρ hp => bI ((getR ρ 0).map fun v => (v, hp)) fun a hp => bI (atE 2 1 ρ hp) fun b hp => (binI .BitAnd a b).map fun c => (.int c, hp)
theorem and_elt {hp : Hp} {k j : Nat} {q : Int} {r : List Int} (hr : hp[j]? = some (.list (IL r))) (hk : k ≤ 1000) (hq : r[k]? = some q) (l : List Int) : All2 (fun v u => andE (some v :: [some (.int k), some (.ref j)]) hp = some (u, hp)) (IL l) (IL (l.map fun p => Builtin.bitAnd p q)) :=
  all2_of (by rw [map_len, map_len, List.length_map]) fun m v u e1 e2 => by
    obtain ⟨p, h5, rfl⟩ := Option.map_eq_some_iff.mp (List.getElem?_map .. ▸ e1)
    rw [List.getElem?_map, List.getElem?_map, h5] at e2
    cases e2
    show bI (some (V.int p, hp)) (fun a hp => bI (atE 2 1 [some (.int p), some (.int k), some (.ref j)] hp) fun b hp => (binI .BitAnd a b).map fun c => (V.int c, hp)) = _
    refine (bI_eq (a := p) (hp := hp) rfl).trans ?_
    exact (bI_eq (atE_eq (i := 2) (j := 1) rfl rfl hr hk hq)).trans rfl
/-- the heap's growth in a turn of the product -/
def mulG (acc l r : List Int) (k : Nat) : Hp := [.list [.int 0], .list (IL (List.replicate k 0)), .list (IL (l.take (5 - k))), .list (IL ((l.take (5 - k)).map fun p => Builtin.bitAnd p (r.getD k 0))), .list (IL (List.replicate k 0 ++ (l.take (5 - k)).map fun p => Builtin.bitAnd p (r.getD k 0))), .list (IL (mulS l r acc k)), .range 5]
abbrev mulF0 (k : Option V) (hp : Hp) : Option (V × Hp) := bR (some (.ref hp.length, hp ++ [.list [.int 0]])) fun i hp => bI (k.map fun v => (v, hp)) fun k hp => bL hp[i]? fun xs => bG (0 < xs.length ∧ xs.length * k.toNat ≤ 1000 ∧ k.natAbs ≤ 1000) (some (.ref hp.length, hp ++ [.list (rep k.toNat xs)]))
def sliF : FV := fun ρ hp => bR ((getR ρ 7).map fun v => (v, hp)) fun i hp => bP (some (none, hp)) fun lo hp => bP (bI (bI (some (.int 5, hp)) fun a hp => bI ((getR ρ 6).map fun v => (v, hp)) fun b hp => (binI .Sub a b).map fun c => (.int c, hp)) fun a hp => some (some a, hp)) fun hi hp => bP (some (none, hp)) fun st hp => bL hp[i]? fun xs => bG (xs.length ≤ 1000 ∧ st ≠ some 0) (some (.ref hp.length, hp ++ [.list (pickV xs lo hi st)]))
def catF : FV := fun ρ hp => bR (mulF0 (getR ρ 6) hp) fun i hp => bR (compF sliF andE [6, 8] ρ hp) fun j hp => bL hp[i]? fun xs => bL hp[j]? fun ys => bG (xs.length + ys.length ≤ 1000) (some (.ref hp.length, hp ++ [.list (xs ++ ys)]))
theorem mul_turn (B : Bs C) {L : Addr} {cdv : Value} {pt kd : Option V} {a i j k w : Nat} {c : Int} {hp : Hp} {acc l r : List Int} (ha : hp[a]? = some (.list (IL acc))) (hl : hp[i]? = some (.list (IL l))) (hr : hp[j]? = some (.list (IL r))) (h0 : acc.length = 5) (h1 : l.length = 5) (h2 : r.length = 5) (hk : k < 5) (hw : w ≤ hp.length) :
    Tri C (n + 1) (plE L cdv) plN w (stB ((stB ((stO ((stO ((stB ((fdB (bd 79))[3]?.getD default))[6]?.getD default))[0]?.getD default))[0]?.getD default))[1]?.getD default)) (plR (some (.ref a)) c pt (some (.int k)) (some (.ref i)) (some (.ref j)) kd) hp .next (plR (some (.ref (hp.length + 5))) c pt (some (.int k)) (some (.ref i)) (some (.ref j)) kd) (hp ++ mulG acc l r k) := by
  have h_law_added := h_law_added (n := n) B
  obtain ⟨q, hq⟩ : ∃ q, r[k]? = some q := ⟨_, List.getElem?_eq_getElem (by omega)⟩
  have hqd : r.getD k 0 = q := by rw [List.getD_eq_getElem?_getD, hq]; rfl
  have h5 : (l.take (5 - k)).length = 5 - k := by rw [List.length_take]; omega
  obtain ⟨tk, htk⟩ : ∃ tk, tk = l.take (5 - k) := ⟨_, rfl⟩
  obtain ⟨an, han⟩ : ∃ an, an = tk.map fun p => Builtin.bitAnd p q := ⟨_, rfl⟩
  obtain ⟨zs, hzs⟩ : ∃ zs, zs = List.replicate k (0 : Int) := ⟨_, rfl⟩
  have e1 : mulF0 (some (.int k)) hp = some (.ref (hp.length + 1), hp ++ [.list [.int 0], .list (IL zs)]) := by
    show bL (hp ++ [.list [.int 0]])[hp.length]? _ = _
    rw [bL_eq (show (hp ++ [O.list [.int 0]])[hp.length]? = _ from look_new hp [.list [.int 0]] 0)]
    refine (bG_eq (show 0 < [V.int 0].length ∧ [V.int 0].length * (k : Int).toNat ≤ 1000 ∧ (k : Int).natAbs ≤ 1000 from ⟨Nat.zero_lt_one, by show 1 * k ≤ 1000; omega, by show k ≤ 1000; omega⟩)).trans ?_
    rw [List.length_append, List.append_assoc, show rep (k : Int).toNat [V.int 0] = IL zs from hzs ▸ rep_IL k 0]; rfl
  have e2 : sliF (plR (some (.ref a)) c pt (some (.int k)) (some (.ref i)) (some (.ref j)) kd) (hp ++ [.list [.int 0], .list (IL zs)]) = some (.ref (hp.length + 2), hp ++ [.list [.int 0], .list (IL zs), .list (IL tk)]) := by
    show bL (hp ++ [.list [.int 0], .list (IL zs)])[i]? _ = _
    rw [bL_eq (look_at hl)]
    refine (bG_eq (show (IL l).length ≤ 1000 ∧ (none : Option Int) ≠ some 0 from ⟨by rw [map_len]; omega, nofun⟩)).trans ?_
    rw [pick_take h1 hk, List.length_append, List.append_assoc, htk]; rfl
  have e3 := compF_eq (elt := andE) (caps := [6, 8]) (kd := .list) (rest := IL tk) (us := IL an) e2 (by rw [look_new hp [.list [.int 0], .list (IL zs), .list (IL tk)] 2]; rfl) (han ▸ and_elt (look_at hr) (by omega) hq tk) (items_list (look_new hp [.list [.int 0], .list (IL zs), .list (IL tk)] 2)) (by rw [map_len, htk, h5]; omega)
  rw [List.length_append, List.append_assoc] at e3
  have e4 := added_val (hp := hp ++ [.list [.int 0], .list (IL zs), .list (IL tk), .list (IL an), .list (IL (zs ++ an))]) (l := acc) (r := zs ++ an) (look_at ha) (look_new hp [.list [.int 0], .list (IL zs), .list (IL tk), .list (IL an), .list (IL (zs ++ an))] 4) h0 (by rw [List.length_append, hzs, han, List.length_replicate, List.length_map, htk, h5]; omega)
  rw [List.length_append, List.append_assoc] at e4
  have e5 : catF (plR (some (.ref a)) c pt (some (.int k)) (some (.ref i)) (some (.ref j)) kd) hp = some (.ref (hp.length + 4), hp ++ [.list [.int 0], .list (IL zs), .list (IL tk), .list (IL an), .list (IL (zs ++ an))]) := by
    refine (bR_eq e1).trans ((bR_eq e3).trans ?_)
    show bL (hp ++ [.list [.int 0], .list (IL zs), .list (IL tk), .list (IL an)])[hp.length + 1]? (fun xs => bL (hp ++ [.list [.int 0], .list (IL zs), .list (IL tk), .list (IL an)])[hp.length + 3]? _) = _
    rw [bL_eq (look_new hp [.list [.int 0], .list (IL zs), .list (IL tk), .list (IL an)] 1), bL_eq (look_new hp [.list [.int 0], .list (IL zs), .list (IL tk), .list (IL an)] 3)]
    refine (bG_eq (show (IL zs).length + (IL an).length ≤ 1000 from ?_)).trans ?_
    · rw [map_len, map_len, hzs, han, List.length_replicate, List.length_map, htk, h5]; omega
    · rw [IL_app, List.length_append, List.append_assoc]; rfl
  refine T_cons (T_ex (Ex_assign 3 rfl rfl (Ev_call ⟨rfl, by decide⟩ B.n_law_added B.k_law_added (Evs_cons rfl (Ev_var 3 rfl) (Evs_cons rfl (Ev_addL (Ev_mulL (Ev_list (Evs_cons rfl Ev_int Evs_nil)) (Ev_var 6 rfl)) (Ev_comp (caps := [6, 8]) (cns := ["k", "right"]) ⟨rfl, by decide, by decide, rfl, by decide, by decide, rfl, by decide, (List.forall_mem_cons.mpr ⟨rfl, (List.forall_mem_cons.mpr ⟨rfl, (fun _ h => nomatch h)⟩)⟩), by decide, by decide⟩ (fun _ => rfl) (Ev_slice (Ev_var 7 rfl) Pt_none (Pt_some (Ev_bin Ev_int (Ev_var 6 rfl))) Pt_none) (fun _ => (Ev_bin (Ev_var 0 rfl) (Ev_idx (Ev_var 2 rfl) (Ev_var 1 rfl) fun _ _ => ⟨_, rfl⟩))))) Evs_nil)) rfl h_law_added)) (asg_eq (i := 3) ((bVs_eq (a := [.ref a, .ref (hp.length + 4)]) (hp := hp ++ [.list [.int 0], .list (IL zs), .list (IL tk), .list (IL an), .list (IL (zs ++ an))]) ((bV_eq (v := .ref a) (hp := hp) rfl).trans ((bVs_eq ((bV_eq e5).trans rfl)).trans rfl))).trans (e4.trans ?_))) hw) T_nil
  rw [mulG, mulS, hqd, ← htk, ← hzs, ← han]; rfl
end
end Mine

open PySem PySem.Calls PySem.W PySem.Spec PyProof.Rows
set_option Elab.async false
set_option autoImplicit false
set_option maxRecDepth 100000
set_option genSizeOf false
set_option genInjectivity false
set_option linter.unusedVariables false
namespace Mine
noncomputable section
variable {C C' : Cx} {n : Nat} {env : Env} {ns : List Str}
theorem mulS_len {l r acc : List Int} {k : Nat} (h0 : acc.length = 5) (h1 : l.length = 5) (hk : k < 5) : (mulS l r acc k).length = 5 := by
  rw [mulS, addL_len, h0]
  rw [h0, List.length_append, List.length_replicate, List.length_map, List.length_take]; omega
def MuB (w i j : Nat) (l r : List Int) (c : Int) (pt kd : Option V) (m : Nat) (ρ : Rho) (h : Hp) (ρ' : Rho) (h' : Hp) : Prop := ∃ a acc, h[a]? = some (.list (IL acc)) ∧ h[i]? = some (.list (IL l)) ∧ h[j]? = some (.list (IL r)) ∧ acc.length = 5 ∧ m < 5 ∧ w ≤ h.length ∧
  ρ = plR (some (.ref a)) c pt (some (.int m)) (some (.ref i)) (some (.ref j)) kd ∧ ρ' = plR (some (.ref (h.length + 5))) c pt (some (.int m)) (some (.ref i)) (some (.ref j)) kd ∧ h' = h ++ mulG acc l r m
theorem mul_loop {w i j kk : Nat} {l r : List Int} {c : Int} {pt kd : Option V} (h1 : l.length = 5) : ∀ (cnt m a : Nat) (acc : List Int) (h : Hp) (k : Option V), m + cnt = 5 → h[a]? = some (.list (IL acc)) → h[i]? = some (.list (IL l)) → h[j]? = some (.list (IL r)) → acc.length = 5 → w ≤ h.length →
    ∃ a' e k', FoR (fun hp j => itemAt (.range 5) hp kk j) (fun _ v ρ => ρ.set 6 (some v)) (MuB w i j l r c pt kd) cnt m (plR (some (.ref a)) c pt k (some (.ref i)) (some (.ref j)) kd) h (plR (some (.ref a')) c pt k' (some (.ref i)) (some (.ref j)) kd) (h ++ e) ∧ (h ++ e)[a']? = some (.list (IL ((List.range' m cnt).foldl (mulS l r) acc)))
  | 0, m, a, acc, h, k, hm, ha, hl, hr, h0, hw => ⟨a, [], k, ⟨by show some (if m < 5 then _ else _) = _; rw [if_neg (by omega)], rfl, by rw [List.append_nil]⟩, by rw [List.append_nil]; exact ha⟩
  | cnt + 1, m, a, acc, h, k, hm, ha, hl, hr, h0, hw => by
    obtain ⟨a', e, k', hh, hv⟩ := mul_loop (w := w) (i := i) (j := j) (kk := kk) (r := r) (c := c) (pt := pt) (kd := kd) h1 cnt (m + 1) (h.length + 5) (mulS l r acc m) (h ++ mulG acc l r m) (some (.int m)) (by omega) (look_new h (mulG acc l r m) 5) (look_at hl) (look_at hr) (mulS_len h0 h1 (by omega)) (by rw [List.length_append]; omega)
    rw [List.append_assoc] at hh hv
    exact ⟨a', mulG acc l r m ++ e, k', ⟨.int m, _, _, by show some (if m < 5 then _ else _) = _; rw [if_pos (by omega)], ⟨a, acc, ha, hl, hr, h0, by omega, hw, rfl, rfl, rfl⟩, hh⟩, hv⟩
theorem op_2 (B : Bs C) {L : Addr} {cdv : Value} {g pt k kd : Option V} {i j : Nat} {c : Int} {hp : Hp} {l r : List Int} (hl : hp[i]? = some (.list (IL l))) (hr : hp[j]? = some (.list (IL r))) (h1 : l.length = 5) (h2 : r.length = 5) :
    ∃ m e k', Tri C (n + 1) (plE L cdv) plN hp.length (stB ((stO ((stO ((stB ((fdB (bd 79))[3]?.getD default))[6]?.getD default))[0]?.getD default))[0]?.getD default)) (plR g c pt k (some (.ref i)) (some (.ref j)) kd) hp .next (plR (some (.ref m)) c pt k' (some (.ref i)) (some (.ref j)) kd) (hp ++ e) ∧ (hp ++ e)[m]? = some (.list (IL (mulP l r))) := by
  obtain ⟨a', e, k', hh, hv⟩ := mul_loop (w := hp.length + 3) (i := i) (j := j) (kk := hp.length + 2) (l := l) (r := r) (c := c) (pt := pt) (kd := kd) h1 5 0 (hp.length + 1) (List.replicate 5 0) (hp ++ [.list [.int 0], .list (IL (List.replicate 5 0)), .range 5]) k rfl (look_new hp _ 1) (look_at hl) (look_at hr) rfl (by rw [List.length_append]; exact Nat.le_refl _)
  rw [List.append_assoc] at hv hh
  refine ⟨a', _, k', T_cons (T_ex (ρ' := plR (some (.ref (hp.length + 1))) c pt k (some (.ref i)) (some (.ref j)) kd) (hp' := hp ++ [.list [.int 0], .list (IL (List.replicate 5 0))]) (Ex_assign 3 rfl rfl (Ev_mulL (Ev_list (Evs_cons rfl Ev_int Evs_nil)) Ev_int)) (asg_eq (i := 3) ?_) (Nat.le_refl _)) (T_cons (T_for (kd := .range 5) (k := hp.length + 2) 6 rfl (fun _ => rfl) (Ev_callT ⟨rfl, by decide⟩ B.n_range boot_range (by decide) (Evs_cons rfl Ev_int Evs_nil) rfl T_range) (hp.length + 3) (B := MuB (hp.length + 3) i j l r c pt kd) (fun m ρ h ρ' h' b => ?_) (hp1 := hp ++ [.list [.int 0], .list (IL (List.replicate 5 0)), .range 5]) ?_ ?_ (by rw [List.length_append]; exact Nat.le_add_right _ _) (Nat.le_add_right _ _) (by rw [List.length_append]; exact Nat.le_refl _) (Nat.lt_succ_self _) hh) T_nil), hv⟩
  · show bL (hp ++ [.list [.int 0]])[hp.length]? _ = _
    rw [bL_eq (show (hp ++ [O.list [.int 0]])[hp.length]? = _ from look_new hp [.list [.int 0]] 0)]
    refine (bG_eq (show 0 < [V.int 0].length ∧ [V.int 0].length * (5 : Int).toNat ≤ 1000 ∧ (5 : Int).natAbs ≤ 1000 from ⟨Nat.zero_lt_one, by decide, by decide⟩)).trans ?_
    rw [List.length_append, List.append_assoc]; rfl
  · obtain ⟨a, acc, ha, hl, hr, h0, hm, hw, rfl, rfl, rfl⟩ := b
    exact mul_turn B ha hl hr h0 h1 h2 hm hw
  · show some (V.ref (hp ++ [_, _]).length, (hp ++ [_, _]) ++ [_]) = _
    rw [List.length_append, List.append_assoc]; rfl
  · rw [look_new hp [.list [.int 0], .list (IL (List.replicate 5 0)), .range 5] 2]; rfl
end
end Mine

open PySem PySem.Calls PySem.W PySem.Spec PyProof.Rows
set_option Elab.async false
set_option autoImplicit false
set_option maxRecDepth 100000
set_option genSizeOf false
set_option genInjectivity false
set_option linter.unusedVariables false
namespace Mine
noncomputable section
variable {C C' : Cx} {n : Nat} {env : Env} {ns : List Str}
theorem pl_op (B : Bs C) {L : Addr} {cdv : Value} {g pt k : Option V} {i j : Nat} {c kd : Int} {hp : Hp} {l r : List Int} (hl : hp[i]? = some (.list (IL l))) (hr : hp[j]? = some (.list (IL r))) (h1 : l.length = 5) (h2 : r.length = 5) :
    ∃ m e k', Tri1 C (n + 1) (plE L cdv) plN hp.length ((stB ((fdB (bd 79))[3]?.getD default))[6]?.getD default) (plR g c pt k (some (.ref i)) (some (.ref j)) (some (.int kd))) hp .next (plR (some (.ref m)) c pt k' (some (.ref i)) (some (.ref j)) (some (.int kd))) (hp ++ e) ∧ (hp ++ e)[m]? = some (.list (IL (opP kd l r))) := by
  by_cases c0 : kd = 0
  · subst c0
    exact ⟨_, _, k, T_ifT (Tr_cmp rfl (Cmp_int (Ev_var 9 rfl) Ev_int)) (b := (0 : Int) == 0) (hp₁ := hp) rfl rfl (Nat.le_refl _) (T_cons (op_0 B hl hr h1 h2) T_nil), look_new hp _ 0⟩
  have w0 : (kd == 0) = false := beq_eq_false_iff_ne.mpr c0
  have i0 : ∀ {ρ' : Rho} {hp' : Hp}, Tri C (n + 1) (plE L cdv) plN hp.length (stO ((stB ((fdB (bd 79))[3]?.getD default))[6]?.getD default)) (plR g c pt k (some (.ref i)) (some (.ref j)) (some (.int kd))) hp .next ρ' hp' → Tri1 C (n + 1) (plE L cdv) plN hp.length ((stB ((fdB (bd 79))[3]?.getD default))[6]?.getD default) (plR g c pt k (some (.ref i)) (some (.ref j)) (some (.int kd))) hp .next ρ' hp' := fun h => T_ifF (Tr_cmp rfl (Cmp_int (Ev_var 9 rfl) Ev_int)) (b := kd == 0) (hp₁ := hp) rfl w0 (Nat.le_refl _) h
  by_cases c1 : kd = 1
  · subst c1
    exact ⟨_, _, k, i0 (T_cons (T_ifT (Tr_cmp rfl (Cmp_int (Ev_var 9 rfl) Ev_int)) (b := (1 : Int) == 1) (hp₁ := hp) rfl rfl (Nat.le_refl _) (T_cons (op_1 B hl hr h1 h2) T_nil)) T_nil), look_new hp _ 3⟩
  have w1 : (kd == 1) = false := beq_eq_false_iff_ne.mpr c1
  have i1 : ∀ {ρ' : Rho} {hp' : Hp}, Tri C (n + 1) (plE L cdv) plN hp.length (stO ((stO ((stB ((fdB (bd 79))[3]?.getD default))[6]?.getD default))[0]?.getD default)) (plR g c pt k (some (.ref i)) (some (.ref j)) (some (.int kd))) hp .next ρ' hp' → Tri1 C (n + 1) (plE L cdv) plN hp.length ((stB ((fdB (bd 79))[3]?.getD default))[6]?.getD default) (plR g c pt k (some (.ref i)) (some (.ref j)) (some (.int kd))) hp .next ρ' hp' := fun h => i0 (T_cons (T_ifF (Tr_cmp rfl (Cmp_int (Ev_var 9 rfl) Ev_int)) (b := kd == 1) (hp₁ := hp) rfl w1 (Nat.le_refl _) h) T_nil)
  by_cases c2 : kd = 2
  · subst c2
    obtain ⟨m, e, k', t, hv⟩ := op_2 (n := n) (L := L) (cdv := cdv) (g := g) (pt := pt) (k := k) (kd := some (.int 2)) (c := c) B hl hr h1 h2
    exact ⟨m, e, k', i1 (T_cons (T_ifT (Tr_cmp rfl (Cmp_int (Ev_var 9 rfl) Ev_int)) (b := (2 : Int) == 2) (hp₁ := hp) rfl rfl (Nat.le_refl _) t) T_nil), hv⟩
  have w2 : (kd == 2) = false := beq_eq_false_iff_ne.mpr c2
  have i2 : ∀ {ρ' : Rho} {hp' : Hp}, Tri C (n + 1) (plE L cdv) plN hp.length (stO ((stO ((stO ((stB ((fdB (bd 79))[3]?.getD default))[6]?.getD default))[0]?.getD default))[0]?.getD default)) (plR g c pt k (some (.ref i)) (some (.ref j)) (some (.int kd))) hp .next ρ' hp' → Tri1 C (n + 1) (plE L cdv) plN hp.length ((stB ((fdB (bd 79))[3]?.getD default))[6]?.getD default) (plR g c pt k (some (.ref i)) (some (.ref j)) (some (.int kd))) hp .next ρ' hp' := fun h => i1 (T_cons (T_ifF (Tr_cmp rfl (Cmp_int (Ev_var 9 rfl) Ev_int)) (b := kd == 2) (hp₁ := hp) rfl w2 (Nat.le_refl _) h) T_nil)
  by_cases c3 : kd = 3
  · subst c3
    exact ⟨_, _, k, i2 (T_cons (T_ifT (Tr_cmp rfl (Cmp_int (Ev_var 9 rfl) Ev_int)) (b := (3 : Int) == 3) (hp₁ := hp) rfl rfl (Nat.le_refl _) (T_cons (op_3 B hl hr h1 h2) T_nil)) T_nil), look_new hp _ 1⟩
  have w3 : (kd == 3) = false := beq_eq_false_iff_ne.mpr c3
  have i3 : ∀ {ρ' : Rho} {hp' : Hp}, Tri C (n + 1) (plE L cdv) plN hp.length (stO ((stO ((stO ((stO ((stB ((fdB (bd 79))[3]?.getD default))[6]?.getD default))[0]?.getD default))[0]?.getD default))[0]?.getD default)) (plR g c pt k (some (.ref i)) (some (.ref j)) (some (.int kd))) hp .next ρ' hp' → Tri1 C (n + 1) (plE L cdv) plN hp.length ((stB ((fdB (bd 79))[3]?.getD default))[6]?.getD default) (plR g c pt k (some (.ref i)) (some (.ref j)) (some (.int kd))) hp .next ρ' hp' := fun h => i2 (T_cons (T_ifF (Tr_cmp rfl (Cmp_int (Ev_var 9 rfl) Ev_int)) (b := kd == 3) (hp₁ := hp) rfl w3 (Nat.le_refl _) h) T_nil)
  by_cases c4 : kd = 4
  · subst c4
    exact ⟨_, _, k, i3 (T_cons (T_ifT (Tr_cmp rfl (Cmp_int (Ev_var 9 rfl) Ev_int)) (b := (4 : Int) == 4) (hp₁ := hp) rfl rfl (Nat.le_refl _) (T_cons (op_4 B hl hr h1 h2) T_nil)) T_nil), look_new hp _ 1⟩
  have w4 : (kd == 4) = false := beq_eq_false_iff_ne.mpr c4
  have e5 : opP kd l r = List.zipWith Builtin.bitXor l r := by
    unfold opP
    split <;> first | rfl | exact absurd rfl ‹_›
  rw [e5]
  exact ⟨_, _, k, i3 (T_cons (T_ifF (Tr_cmp rfl (Cmp_int (Ev_var 9 rfl) Ev_int)) (b := kd == 4) (hp₁ := hp) rfl w4 (Nat.le_refl _) (T_cons (op_5 B hl hr h1 h2) T_nil)) T_nil), look_new hp _ 1⟩
end
end Mine

open PySem PySem.Calls PySem.W PySem.Spec PyProof.Rows
set_option Elab.async false
set_option autoImplicit false
set_option maxRecDepth 100000
set_option genSizeOf false
set_option genInjectivity false
set_option linter.unusedVariables false
namespace Mine
noncomputable section
variable {C C' : Cx} {n : Nat} {env : Env} {ns : List Str}
def sidL (c : Int) (g p : List Int) : List Int := if (c.fdiv 18).fmod 2 == 1 then p else g
def tilP (c : Int) (g : List Int) : List Int := match (c.fdiv 36).fmod 2 == 1 with
  | true => notL g
  | false => g
def stepP (g : List Int) (c : Int) : List Int := tilP c (opP (c.fmod 6) (sidL c g (partP c)) (sidL c (partP c) g))
theorem partP_len (c : Int) : (partP c).length = 5 := by unfold partP; cases (c.fdiv 6).fmod 3 != 0 <;> rfl
theorem sidL_len {c : Int} {g p : List Int} (h1 : g.length = 5) (h2 : p.length = 5) : (sidL c g p).length = 5 := by unfold sidL; split <;> assumption
theorem tilP_len {c : Int} {g : List Int} (h : g.length = 5) : (tilP c g).length = 5 := by
  unfold tilP
  split
  · rw [notL, List.length_map, h]
  · exact h
theorem mulP_len {l r : List Int} (h1 : l.length = 5) : (mulP l r).length = 5 :=
  mulS_len (mulS_len (mulS_len (mulS_len (mulS_len rfl h1 (by decide)) h1 (by decide)) h1 (by decide)) h1 (by decide)) h1 (by decide)
theorem opP_len {kd : Int} {l r : List Int} (h1 : l.length = 5) (h2 : r.length = 5) : (opP kd l r).length = 5 := by
  unfold opP
  split
  · rw [addL_len (by omega), h1]
  · rw [notL, List.length_map, addL_len (by rw [notL, List.length_map]; omega), notL, List.length_map, h1]
  · exact mulP_len h1
  all_goals rw [List.length_zipWith, h1, h2]; rfl
theorem stepP_len {g : List Int} {c : Int} (h : g.length = 5) : (stepP g c).length = 5 := tilP_len (opP_len (sidL_len h (partP_len c)) (sidL_len (partP_len c) h))
abbrev plX (g cv part k left right kind : Option V) : Rho := [some (.ref 0), some (.int 131071), some (.ref 1), g, cv, part, k, left, right, kind]
theorem side_at {hp : Hp} {b : Bool} {p g : Nat} {pl gl : List Int} (hp1 : hp[p]? = some (.list (IL pl))) (hg : hp[g]? = some (.list (IL gl))) : hp[if b then p else g]? = some (.list (IL (if b then pl else gl))) := by
  cases b
  · exact hg
  · exact hp1
theorem pl_turn (B : Bs C) {L : Addr} {cdv : Value} {gi : Nat} {c : Int} {hp : Hp} {gl : List Int} {pt k l r kd : Option V} (h1 : hp[1]? = some (.list (IL axisL))) (hg : hp[gi]? = some (.list (IL gl))) (h5 : gl.length = 5) (hw : 2 ≤ hp.length) :
    ∃ m e pt' k' l' r' kd', Tri C (n + 1) (plE L cdv) plN 2 (stB ((fdB (bd 79))[3]?.getD default)) (plX (some (.ref gi)) (some (.int c)) pt k l r kd) hp .next (plX (some (.ref m)) (some (.int c)) pt' k' l' r' kd') (hp ++ e) ∧ (hp ++ e)[m]? = some (.list (IL (stepP gl c))) := by
  obtain ⟨pj, e1, t1, hpj⟩ := pl_part (n := n) (L := L) (cdv := cdv) (g := some (.ref gi)) (k := k) (l := l) (r := r) (kd := kd) (c := c) B h1
  have hg1 : (hp ++ e1)[gi]? = _ := look_at hg
  have t4 := pl_side (n := n) (L := L) (cdv := cdv) (k := k) (kd := kd) (gi := gi) (pi := pj) (c := c) (hp := hp ++ e1) B
  obtain ⟨m, e2, k', t6, hm⟩ := pl_op (n := n) (L := L) (cdv := cdv) (g := some (.ref gi)) (pt := some (.ref pj)) (k := k) (c := c) (kd := c.fmod 6) B (side_at (b := (c.fdiv 18).fmod 2 == 1) hpj hg1) (side_at (b := (c.fdiv 18).fmod 2 == 1) hg1 hpj) (sidL_len h5 (partP_len c)) (sidL_len (partP_len c) h5)
  obtain ⟨m', e3, t7, hm'⟩ := pl_tild (n := n) (L := L) (cdv := cdv) (pt := some (.ref pj)) (k := k') (l := some (.ref (if (c.fdiv 18).fmod 2 == 1 then pj else gi))) (r := some (.ref (if (c.fdiv 18).fmod 2 == 1 then gi else pj))) (kd := some (.int (c.fmod 6))) (c := c) B hm (opP_len (sidL_len h5 (partP_len c)) (sidL_len (partP_len c) h5))
  have w1 : 2 ≤ (hp ++ e1).length := by rw [List.length_append]; omega
  have w2 : 2 ≤ (hp ++ e1 ++ e2).length := by rw [List.length_append]; omega
  refine ⟨m', e1 ++ (e2 ++ e3), some (.ref pj), k', some (.ref (if (c.fdiv 18).fmod 2 == 1 then pj else gi)), some (.ref (if (c.fdiv 18).fmod 2 == 1 then gi else pj)), some (.int (c.fmod 6)), ?_, ?_⟩
  · rw [← List.append_assoc, ← List.append_assoc]
    exact T_cons (T_ex (ρ' := plR (some (.ref gi)) c (some (.ref 1)) k l r kd) (hp' := hp) (Ex_assign 5 rfl rfl (Ev_var 2 rfl)) rfl hw) (T_cons (T1_weak t1 hw) (T_cons (T_ex (ρ' := plR (some (.ref gi)) c (some (.ref pj)) k (some (.ref gi)) r kd) (hp' := hp ++ e1) (Ex_assign 7 rfl rfl (Ev_var 3 rfl)) rfl w1) (T_cons (T_ex (ρ' := plR (some (.ref gi)) c (some (.ref pj)) k (some (.ref gi)) (some (.ref pj)) kd) (hp' := hp ++ e1) (Ex_assign 8 rfl rfl (Ev_var 5 rfl)) rfl w1) (T_cons (T1_weak t4 w1) (T_cons (T_ex (ρ' := plR (some (.ref gi)) c (some (.ref pj)) k (some (.ref (if (c.fdiv 18).fmod 2 == 1 then pj else gi))) (some (.ref (if (c.fdiv 18).fmod 2 == 1 then gi else pj))) (some (.int (c.fmod 6)))) (hp' := hp ++ e1) (Ex_assign 9 rfl rfl (Ev_bin (Ev_var 4 rfl) Ev_int)) rfl w1) (T_cons (T1_weak t6 w1) (T_cons (T1_weak t7 w2) T_nil)))))))
  · rw [← List.append_assoc, ← List.append_assoc, stepP, tilP]; exact hm'
theorem pl_loop (B : Bs C) {L : Addr} {cdv : Value} {cs : List Int} : ∀ (rest : List Int) (j gi : Nat) (gl : List Int) (hp : Hp) (cv pt k l r kd : Option V), cs.drop j = rest → hp[0]? = some (.list (IL cs)) → hp[1]? = some (.list (IL axisL)) → hp[gi]? = some (.list (IL gl)) → gl.length = 5 → 2 ≤ hp.length →
    ∃ m e cv' pt' k' l' r' kd', FoR (fun hp j => itemAt .list hp 0 j) (fun _ v ρ => ρ.set 4 (some v)) (fun _ ρ h ρ' h' => Tri C (n + 1) (plE L cdv) plN 2 (stB ((fdB (bd 79))[3]?.getD default)) ρ h .next ρ' h') rest.length j (plX (some (.ref gi)) cv pt k l r kd) hp (plX (some (.ref m)) cv' pt' k' l' r' kd') (hp ++ e) ∧ (hp ++ e)[0]? = some (.list (IL cs)) ∧ (hp ++ e)[m]? = some (.list (IL (rest.foldl stepP gl)))
  | [], j, gi, gl, hp, cv, pt, k, l, r, kd, hd, h0, h1, hg, h5, hw => ⟨gi, [], cv, pt, k, l, r, kd, ⟨by
      show bL hp[0]? _ = _
      rw [bL_eq h0]
      exact congrArg some (IL_end hd), rfl, by rw [List.append_nil]⟩, by rw [List.append_nil]; exact h0, by rw [List.append_nil]; exact hg⟩
  | c :: rest, j, gi, gl, hp, cv, pt, k, l, r, kd, hd, h0, h1, hg, h5, hw => by
    obtain ⟨m, e, pt', k', l', r', kd', t, hm⟩ := pl_turn (n := n) (L := L) (cdv := cdv) (c := c) (pt := pt) (k := k) (l := l) (r := r) (kd := kd) B h1 hg h5 hw
    obtain ⟨m2, e2, cv2, pt2, k2, l2, r2, kd2, hh, hz, hv⟩ := pl_loop B (L := L) (cdv := cdv) rest (j + 1) m (stepP gl c) (hp ++ e) (some (.int c)) pt' k' l' r' kd' (IL_at hd).2.2 (look_at h0) (look_at h1) hm (stepP_len h5) (by rw [List.length_append]; omega)
    rw [List.append_assoc] at hh hz hv
    refine ⟨m2, e ++ e2, cv2, pt2, k2, l2, r2, kd2, ⟨.int c, _, _, ?_, t, hh⟩, hz, hv⟩
    show bL hp[0]? _ = _
    rw [bL_eq h0]
    exact congrArg some (IL_at hd).2.1
def planesF (vs : List V) (hp : Hp) : Option (V × Hp) := oneR vs fun i => bIs hp[i]? fun l => bG (l.length = 4) (some (.ref hp.length, hp ++ [.list (IL (l.foldl stepP axisL))]))
theorem foldP_len : ∀ (l g : List Int), g.length = 5 → (l.foldl stepP g).length = 5
  | [], _, h => h
  | c :: l, g, h => foldP_len l _ (stepP_len h)
set_option maxHeartbeats 2000000 in
theorem h_law_planes (B : Bs C) : Fn C (n + 2) (.ref 160) planesF := .of fun vs hp v hp' e => by
  obtain ⟨i, rfl, e⟩ := oneR_inv e
  obtain ⟨l, hl, e⟩ := bIs_inv e
  refine bGE e fun hlen e => ?_
  cases e
  obtain ⟨cdv, h⟩ := B.b_law_planes
  intro A s φ cs
  obtain ⟨m, e, cv, pt, k, l', r', kd, hh, hz, hv⟩ := pl_loop (n := n) (L := s.heap.objs.size) (cdv := cdv) (cs := l) B l 0 1 axisL [.list (IL l), .list (IL axisL)] none none none none none none rfl rfl rfl rfl rfl (Nat.le_of_ble_eq_true rfl)
  have hk : 1 ≤ m := by
    rcases Nat.eq_zero_or_pos m with q | q
    · rw [q, hz] at hv
      have := congrArg (fun o => match o with | some (O.list xs) => xs.length | _ => 0) hv
      simp only [map_len, foldP_len l axisL rfl, hlen] at this
      omega
    · exact q
  have hb : Bd C (n + 1) (plE s.heap.objs.size cdv) plN (fdB (bd 79)) (argR plN ["cells"] [.ref 0]) [.list (IL l)] (.ref m) ([.list (IL l), .list (IL axisL)] ++ e) := ⟨.ret (.ref m), plX (some (.ref m)) cv pt k l' r' kd, T_cons (T_ex (ρ' := [some (.ref 0), some (.int 131071), none, none, none, none, none, none, none, none]) (hp' := [.list (IL l)]) (Ex_assign 1 rfl rfl Ev_int) rfl (Nat.le_of_ble_eq_true rfl)) (T_cons (T_ex (ρ' := [some (.ref 0), some (.int 131071), some (.ref 1), none, none, none, none, none, none, none]) (hp' := [.list (IL l), .list (IL axisL)]) (Ex_assign 2 rfl rfl (Ev_list (Evs_cons rfl Ev_int (Evs_cons rfl Ev_int (Evs_cons rfl Ev_int (Evs_cons rfl Ev_int (Evs_cons rfl Ev_int Evs_nil))))))) rfl (Nat.le_of_ble_eq_true rfl)) (T_cons (T_ex (ρ' := plX (some (.ref 1)) none none none none none none) (hp' := [.list (IL l), .list (IL axisL)]) (Ex_assign 3 rfl rfl (Ev_var 2 rfl)) rfl (Nat.le_of_ble_eq_true rfl)) (T_cons (T_for (body := (stB ((fdB (bd 79))[3]?.getD default))) (kd := .list) (k := 0) 4 rfl (fun _ => rfl) (Ev_var 0 rfl) 2 (B := fun _ ρ h ρ' h' => Tri C (n + 1) (plE s.heap.objs.size cdv) plN 2 (stB ((fdB (bd 79))[3]?.getD default)) ρ h .next ρ' h') (fun _ _ _ _ _ h => h) rfl rfl (Nat.le_of_ble_eq_true rfl) (Nat.le_of_ble_eq_true rfl) (Nat.le_of_ble_eq_true rfl) (Nat.le_of_ble_eq_true rfl) hh) (T_consR (T_ex (Ex_ret (Ev_var 3 rfl)) rfl (Nat.succ_le_succ (Nat.zero_le _))))))), FlR.ret⟩
  exact ClAt_listG B hl (ClAt_def (ns := ["cells", "full", "axis", "g", "c", "part", "k", "left", "right", "kind"]) h ⟨rfl, rfl, rfl, by decide, rfl, by decide, by decide, by decide⟩ rfl hb) hz hk hv A φ cs
end
end Mine

open PySem PySem.Calls PySem.W PySem.Spec PyProof.Rows
set_option Elab.async false
set_option autoImplicit false
set_option maxRecDepth 100000
set_option genSizeOf false
set_option genInjectivity false
set_option linter.unusedVariables false
namespace Mine
noncomputable section
variable {C C' : Cx} {n : Nat} {env : Env} {ns : List Str}
/-! law: the parts -/
def symsOf (cs : List Int) : List Int := cs.foldl symStep [1] ++ [0]
theorem cells_len (l : List Int) : (cells l).length = 4 := cellL_len
def nextS (w : List Int) (s : Nat) : Nat := (((s : Int) + 1 + 2 * (w.getD (s + 1) 0 - w.getD s 0)) % 16).toNat
def stS (w : List Int) : Nat → Nat
  | 0 => 0
  | h + 1 => nextS w (stS w h)
theorem nextS_lt (w : List Int) (s : Nat) : nextS w s < 16 := by unfold nextS; omega
theorem stS_lt (w : List Int) : ∀ h, stS w h < 16
  | 0 => Nat.zero_lt_succ _
  | h + 1 => nextS_lt w _
def statesL (w : List Int) (m : Nat) : List Int := (List.range m).map fun h => (stS w h : Int)
abbrev lwE (L : Addr) (cdv : Value) : Env := envOfC "law" (fdS (bd 80)) L 165 cdv
abbrev lwN : List Str := ["script", "cells", "worths", "planes", "x", "states", "state", "hour", "side", "goal", "quotient", "rest", "figures", "lower", "higher", "i", "costs"]
abbrev hrR (wr pl x : Option V) (si : Nat) (s : Int) (hour side goal q r : Option V) : Rho := [none, some (.ref 0), wr, pl, x, some (.ref si), some (.int s), hour, side, goal, q, r, none, none, none, none, none]
theorem mul_l {a b : Int} (h : small a = true) : binI .Mult a b = some (a * b) := bG_eq (by rw [h, Bool.or_true])
theorem hr_app (B : Bs C) {L : Addr} {cdv : Value} {wr pl x hour side goal q r : Option V} {si : Nat} {s : Int} {sts : List Int} {hp : Hp} {w : Nat} (hs : hp[si]? = some (.list (IL sts))) (hl : sts.length ≤ 100) (hw : w ≤ hp.length) :
    Tri1 C n (lwE L cdv) lwN w ((stB ((fdB (bd 80))[6]?.getD default))[0]?.getD default) (hrR wr pl x si s hour side goal q r) hp .next (hrR wr pl x si s hour side goal q r) (hp.set si (.list (IL (sts ++ [s])))) := by
  refine T_ex (Ex_expr (Ev_append ⟨_, rfl⟩ (Ev_var 5 rfl) (Ev_var 6 rfl) rfl) rfl rfl) ?_ hw
  rw [← IL_app]
  exact app_eq2 hs rfl hs (by rw [map_len]; omega)
theorem hr_side (B : Bs C) {L : Addr} {cdv : Value} {wr pl x side goal q r : Option V} {si h : Nat} {s : Int} {hp : Hp} {w : Nat} (hw : w ≤ hp.length) :
    Tri1 C n (lwE L cdv) lwN w ((stB ((fdB (bd 80))[6]?.getD default))[1]?.getD default) (hrR wr pl x si s (some (.int h)) side goal q r) hp .next (hrR wr pl x si s (some (.int h)) (some (.int (1 - 2 * ((h % 2 : Nat) : Int)))) goal q r) hp := by
  refine T_ex (Ex_assign 8 rfl rfl (Ev_bin Ev_int (Ev_bin Ev_int (Ev_bin (Ev_var 7 rfl) Ev_int)))) (asg_eq (i := 8) ?_) hw
  have e : (bI (some (V.int h, hp)) fun a hp => bI (some (V.int 2, hp)) fun b hp => (binI .Mod a b).map fun c => (V.int c, hp)) = some (V.int (h % 2 : Nat), hp) := congrArg (Option.map fun c => (V.int c, hp)) (mod_nat h 2 (by decide))
  exact (bI_eq (a := 1) (hp := hp) rfl).trans ((bI_eq (a := 2 * ((h % 2 : Nat) : Int)) (hp := hp) ((bI_eq (a := 2) (hp := hp) rfl).trans ((bI_eq (a := ((h % 2 : Nat) : Int)) (hp := hp) e).trans (congrArg (Option.map fun c => (V.int c, hp)) (mul_l rfl))))).trans rfl)
theorem hr_goal (B : Bs C) {L : Addr} {cdv : Value} {pl x hour side goal q r : Option V} {si wi s : Nat} {hp : Hp} {w : Nat} {ws : List Int} {a b : Int} (hws : hp[wi]? = some (.list (IL ws))) (hs : s < 16) (ha : ws[s + 1]? = some a) (hb : ws[s]? = some b) (hw : w ≤ hp.length) :
    Tri1 C (n + 1) (lwE L cdv) lwN w ((stB ((fdB (bd 80))[6]?.getD default))[2]?.getD default) (hrR (some (.ref wi)) pl x si s hour side goal q r) hp .next (hrR (some (.ref wi)) pl x si s hour side (some (.int ((s : Int) + 1 + 2 * (a - b)))) q r) hp := by
  have h_add := h_add (n := n) B
  have h_mul := h_mul (n := n) B
  have h_sub := h_sub (n := n) B
  refine T_ex (Ex_assign 9 rfl rfl (Ev_call ⟨rfl, by decide⟩ B.n_add B.k_add (Evs_cons rfl (Ev_call ⟨rfl, by decide⟩ B.n_add B.k_add (Evs_cons rfl (Ev_var 6 rfl) (Evs_cons rfl Ev_int Evs_nil)) rfl h_add) (Evs_cons rfl (Ev_call ⟨rfl, by decide⟩ B.n_mul B.k_mul (Evs_cons rfl Ev_int (Evs_cons rfl (Ev_call ⟨rfl, by decide⟩ B.n_sub B.k_sub (Evs_cons rfl (Ev_idx (Ev_var 2 rfl) (Ev_bin (Ev_var 6 rfl) Ev_int) fun _ _ => ⟨_, rfl⟩) (Evs_cons rfl (Ev_idx (Ev_var 2 rfl) (Ev_var 6 rfl) fun _ _ => ⟨_, rfl⟩) Evs_nil)) rfl h_sub) Evs_nil)) rfl h_mul) Evs_nil)) rfl h_add)) (asg_eq (i := 9) ((bVs_eq (a := [.int ((s : Int) + 1), .int (2 * (a - b))]) (hp := hp) ((bV_eq (v := .int ((s : Int) + 1)) (hp := hp) rfl).trans ((bVs_eq (a := [.int (2 * (a - b))]) (hp := hp) ((bV_eq (v := .int (2 * (a - b))) (hp := hp) ?_).trans rfl)).trans rfl))).trans rfl)) hw
  refine (bVs_eq (a := [.int 2, .int (a - b)]) (hp := hp) ((bV_eq (v := .int 2) (hp := hp) rfl).trans ((bVs_eq (a := [.int (a - b)]) (hp := hp) ((bV_eq (v := .int (a - b)) (hp := hp) ?_).trans rfl)).trans rfl))).trans (congrArg (Option.map fun c => (V.int c, hp)) (mul_l rfl))
  refine (bVs_eq (a := [.int a, .int b]) (hp := hp) ((bV_eq (v := .int a) (hp := hp) ?_).trans ((bVs_eq (a := [.int b]) (hp := hp) ((bV_eq (v := .int b) (hp := hp) ?_).trans rfl)).trans rfl))).trans rfl
  · exact (bL_eq hws).trans (at_eq (j := s + 1) (by omega) ha)
  · exact (bL_eq hws).trans (at_eq (by omega) hb)
theorem mul_r {a b : Int} (h : small b = true) : binI .Mult a b = some (a * b) := bG_eq (by rw [h, Bool.true_or])
/-- quotient and rest of an hour; sd is 1 or -1 -/
theorem hr_div (B : Bs C) {L : Addr} {cdv : Value} {wr pl x hour q r : Option V} {si : Nat} {s sd g : Int} {hp : Hp} {w : Nat} (hsd : sd = 1 ∨ sd = -1) (hg : g.natAbs < 2 ^ 99) (hw : w ≤ hp.length) :
    Tri1 C (n + 13) (lwE L cdv) lwN w ((stB ((fdB (bd 80))[6]?.getD default))[3]?.getD default) (hrR wr pl x si s hour (some (.int sd)) (some (.int g)) q r) hp .next (hrR wr pl x si s hour (some (.int sd)) (some (.int g)) (some (.int (dmP (sd * g) (sd * 16)).1)) (some (.int (dmP (sd * g) (sd * 16)).2))) (hp ++ [.tuple [.int (dmP (sd * g) (sd * 16)).1, .int (dmP (sd * g) (sd * 16)).2]]) := by
  have h_int_divmod := h_int_divmod (n := n) B
  have hm : small sd = true := by rcases hsd with rfl | rfl <;> rfl
  refine T_ex (Ex_assign2 10 11 rfl rfl rfl rfl (Ev_call ⟨rfl, by decide⟩ B.n_int_divmod B.k_int_divmod (Evs_cons rfl (Ev_bin (Ev_var 8 rfl) (Ev_var 9 rfl)) (Evs_cons rfl (Ev_bin (Ev_var 8 rfl) Ev_int) Evs_nil)) rfl h_int_divmod)) ((bR_eq (i := hp.length) (hp := hp ++ [.tuple [.int (dmP (sd * g) (sd * 16)).1, .int (dmP (sd * g) (sd * 16)).2]]) ((bVs_eq (a := [.int (sd * g), .int (sd * 16)]) (hp := hp) ?_).trans (idm_val ?_ (fun h => absurd h (by decide)) ?_))).trans ?_) hw
  · have e1 : (bI (some (V.int sd, hp)) fun a hp => bI (some (V.int g, hp)) fun b hp => (binI .Mult a b).map fun c => (V.int c, hp)) = some (V.int (sd * g), hp) := congrArg (Option.map fun c => (V.int c, hp)) (mul_l hm)
    have e2 : (bI (some (V.int sd, hp)) fun a hp => bI (some (V.int 16, hp)) fun b hp => (binI .Mult a b).map fun c => (V.int c, hp)) = some (V.int (sd * 16), hp) := congrArg (Option.map fun c => (V.int c, hp)) (mul_l (b := 16) hm)
    have e3 : (bVs (bV (bI (some (V.int sd, hp)) fun a hp => bI (some (V.int 16, hp)) fun b hp => (binI .Mult a b).map fun c => (V.int c, hp)) fun a hp => bVs (some ([], hp)) fun b hp => some (a :: b, hp)) fun b hp => some (V.int (sd * g) :: b, hp)) = some ([V.int (sd * g), V.int (sd * 16)], hp) := by rw [e2]; rfl
    exact (bV_eq (v := .int (sd * g)) (hp := hp) e1).trans e3
  · rcases hsd with rfl | rfl
    · exact .inl rfl
    · exact .inr ⟨rfl, rfl⟩
  · rcases hsd with rfl | rfl <;> omega
  · show bT (hp ++ [O.tuple _])[hp.length]? _ = _
    rw [show (hp ++ [O.tuple _])[hp.length]? = _ from look_new hp _ 0]; rfl
theorem hr_chk (B : Bs C) {L : Addr} {cdv : Value} {wr pl x hour : Option V} {si : Nat} {s sd g q r : Int} {hp : Hp} {w : Nat} (hsd : sd = 1 ∨ sd = -1) (he : q * sd * 16 + r = sd * g) (hw : w ≤ hp.length) :
    Tri1 C n (lwE L cdv) lwN w ((stB ((fdB (bd 80))[6]?.getD default))[4]?.getD default) (hrR wr pl x si s hour (some (.int sd)) (some (.int g)) (some (.int q)) (some (.int r))) hp .next (hrR wr pl x si s hour (some (.int sd)) (some (.int g)) (some (.int q)) (some (.int r))) hp := by
  have hm : small sd = true := by rcases hsd with rfl | rfl <;> rfl
  refine T_ifF (Tr_cmp rfl (Cmp_int (Ev_bin (Ev_bin (Ev_bin (Ev_var 10 rfl) (Ev_var 8 rfl)) Ev_int) (Ev_var 11 rfl)) (Ev_bin (Ev_var 8 rfl) (Ev_var 9 rfl)))) (b := q * sd * 16 + r != sd * g) (hp₁ := hp) ?_ (by rw [he]; exact bne_self_eq_false _) hw T_nil
  refine (bI_eq (a := q * sd * 16 + r) (hp := hp) ?_).trans ((bI_eq (a := sd * g) (hp := hp) ?_).trans rfl)
  · refine (bI_eq (a := q * sd * 16) (hp := hp) ?_).trans rfl
    refine (bI_eq (a := q * sd) (hp := hp) (congrArg (Option.map fun c => (V.int c, hp)) (mul_r hm))).trans ?_
    exact congrArg (Option.map fun c => (V.int c, hp)) (mul_r (a := q * sd) (b := 16) rfl)
  · exact congrArg (Option.map fun c => (V.int c, hp)) (mul_l hm)
theorem hr_st (B : Bs C) {L : Addr} {cdv : Value} {wr pl x hour goal q : Option V} {si : Nat} {s sd r : Int} {hp : Hp} {w : Nat} (hsd : sd = 1 ∨ sd = -1) (hw : w ≤ hp.length) :
    Tri1 C n (lwE L cdv) lwN w ((stB ((fdB (bd 80))[6]?.getD default))[5]?.getD default) (hrR wr pl x si s hour (some (.int sd)) goal q (some (.int r))) hp .next (hrR wr pl x si (sd * r) hour (some (.int sd)) goal q (some (.int r))) hp := by
  have hm : small sd = true := by rcases hsd with rfl | rfl <;> rfl
  exact T_ex (Ex_assign 6 rfl rfl (Ev_bin (Ev_var 8 rfl) (Ev_var 11 rfl))) (asg_eq (i := 6) (congrArg (Option.map fun c => (V.int c, hp)) (mul_l hm))) hw
theorem dm_side {sd g : Int} (hsd : sd = 1 ∨ sd = -1) : (dmP (sd * g) (sd * 16)).1 * sd * 16 + (dmP (sd * g) (sd * 16)).2 = sd * g ∧ sd * (dmP (sd * g) (sd * 16)).2 = g % 16 := by
  rcases hsd with rfl | rfl
  · rw [dmP, if_pos (show (1 : Int) * 16 = 16 from rfl)]
    show 1 * g / 16 * 1 * 16 + 1 * g % 16 = 1 * g ∧ 1 * (1 * g % 16) = g % 16
    omega
  · rw [dmP, if_neg (by decide)]
    show -(-1 * g) / 16 * -1 * 16 + -(-(-1 * g) % 16) = -1 * g ∧ -1 * -(-(-1 * g) % 16) = g % 16
    omega
theorem getD_at {ws : List Int} {k : Nat} (h : k < ws.length) : ws[k]? = some (ws.getD k 0) := by
  rw [List.getElem?_eq_getElem h, List.getD_eq_getElem?_getD, List.getElem?_eq_getElem h]; rfl
theorem hr_turn (B : Bs C) {L : Addr} {cdv : Value} {pl x side goal q r : Option V} {si wi h : Nat} {sts ws : List Int} {s : Nat} {hp : Hp} {w : Nat} (hne : wi ≠ si) (hws : hp[wi]? = some (.list (IL ws))) (h17 : ws.length = 17) (hs : hp[si]? = some (.list (IL sts))) (hl : sts.length ≤ 100) (hs16 : s < 16) (hb : ∀ k, (ws.getD k 0).natAbs < 2 ^ 60) (hw : w ≤ hp.length) :
    ∃ side' goal' q' r' e, Tri C (n + 13) (lwE L cdv) lwN w (stB ((fdB (bd 80))[6]?.getD default)) (hrR (some (.ref wi)) pl x si s (some (.int h)) side goal q r) hp .next (hrR (some (.ref wi)) pl x si (nextS ws s : Nat) (some (.int h)) side' goal' q' r') (hp.set si (.list (IL (sts ++ [(s : Int)]))) ++ e) := by
  obtain ⟨sd, hsd⟩ : ∃ sd, sd = 1 - 2 * ((h % 2 : Nat) : Int) := ⟨_, rfl⟩
  have hsd2 : sd = 1 ∨ sd = -1 := by omega
  obtain ⟨g, hg⟩ : ∃ g, g = (s : Int) + 1 + 2 * (ws.getD (s + 1) 0 - ws.getD s 0) := ⟨_, rfl⟩
  have hgb : g.natAbs < 2 ^ 99 := by have := hb (s + 1); have := hb s; omega
  have hd := dm_side (sd := sd) (g := g) hsd2
  have hw' : w ≤ (hp.set si (.list (IL (sts ++ [(s : Int)])))).length := by rw [List.length_set]; exact hw
  have hw2 : w ≤ (hp.set si (.list (IL (sts ++ [(s : Int)]))) ++ [O.tuple [.int (dmP (sd * g) (sd * 16)).1, .int (dmP (sd * g) (sd * 16)).2]]).length := by rw [List.length_append]; omega
  have hws' : (hp.set si (.list (IL (sts ++ [(s : Int)]))))[wi]? = some (.list (IL ws)) := (List.getElem?_set_ne (Ne.symm hne)).trans hws
  have hn : sd * (dmP (sd * g) (sd * 16)).2 = ((nextS ws s : Nat) : Int) := by
    rw [hd.2, nextS, ← hg]
    exact (Int.toNat_of_nonneg (by omega)).symm
  refine ⟨some (.int sd), some (.int g), some (.int (dmP (sd * g) (sd * 16)).1), some (.int (dmP (sd * g) (sd * 16)).2), [.tuple [.int (dmP (sd * g) (sd * 16)).1, .int (dmP (sd * g) (sd * 16)).2]], T_cons (hr_app B hs hl hw) (T_cons (hsd ▸ hr_side B hw') (T_cons (hg ▸ hr_goal B hws' hs16 (getD_at (by omega)) (getD_at (by omega)) hw') (T_cons (hr_div B hsd2 hgb hw') (T_cons (hr_chk B hsd2 hd.1 hw2) (T_cons (hn ▸ hr_st B hsd2 hw2) T_nil)))))⟩
end
end Mine

open PySem PySem.Calls PySem.W PySem.Spec PyProof.Rows
set_option Elab.async false
set_option autoImplicit false
set_option maxRecDepth 100000
set_option genSizeOf false
set_option genInjectivity false
set_option linter.unusedVariables false
namespace Mine
noncomputable section
variable {C C' : Cx} {n : Nat} {env : Env} {ns : List Str}
theorem hr_loop (B : Bs C) {L : Addr} {cdv : Value} {pl x : Option V} {si wi kk w : Nat} {ws : List Int} (hne : wi ≠ si) (h17 : ws.length = 17) (hb : ∀ k, (ws.getD k 0).natAbs < 2 ^ 60) : ∀ (cnt h : Nat) (hp : Hp) (hour side goal q r : Option V), h + cnt = 16 → hp[wi]? = some (.list (IL ws)) → hp[si]? = some (.list (IL (statesL ws h))) → w ≤ hp.length →
    ∃ hour' side' goal' q' r' hp', FoR (fun hp j => itemAt (.range 16) hp kk j) (fun _ v ρ => ρ.set 7 (some v)) (fun _ ρ h ρ' h' => Tri C (n + 13) (lwE L cdv) lwN w (stB ((fdB (bd 80))[6]?.getD default)) ρ h .next ρ' h') cnt h (hrR (some (.ref wi)) pl x si (stS ws h : Nat) hour side goal q r) hp (hrR (some (.ref wi)) pl x si (stS ws 16 : Nat) hour' side' goal' q' r') hp' ∧
      hp'[wi]? = some (.list (IL ws)) ∧ hp'[si]? = some (.list (IL (statesL ws 16))) ∧ ∀ (k : Nat) (o : O), k ≠ si → hp[k]? = some o → hp'[k]? = some o
  | 0, h, hp, hour, side, goal, q, r, hc, h1, h2, hw => by
    have e : h = 16 := by omega
    subst e
    exact ⟨hour, side, goal, q, r, hp, ⟨by show some (if 16 < 16 then _ else _) = _; rw [if_neg (by decide)], rfl, rfl⟩, h1, h2, fun _ _ _ h => h⟩
  | cnt + 1, h, hp, hour, side, goal, q, r, hc, h1, h2, hw => by
    obtain ⟨side1, goal1, q1, r1, e, t⟩ := hr_turn (n := n) (L := L) (cdv := cdv) (pl := pl) (x := x) (side := side) (goal := goal) (q := q) (r := r) (h := h) B hne h1 h17 h2 (by rw [statesL, List.length_map, List.length_range]; omega) (stS_lt ws h) hb hw
    have hs : statesL ws h ++ [(stS ws h : Int)] = statesL ws (h + 1) := by rw [statesL, statesL, List.range_succ, List.map_append]; rfl
    rw [hs] at t
    have keep : ∀ (k : Nat) (o : O), k ≠ si → hp[k]? = some o → (hp.set si (.list (IL (statesL ws (h + 1)))) ++ e)[k]? = some o := fun k o hk ho => look_at ((List.getElem?_set_ne (Ne.symm hk)).trans ho)
    obtain ⟨hour', side', goal', q', r', hp', hh, a1, a2, a3⟩ := hr_loop B (L := L) (cdv := cdv) (pl := pl) (x := x) (kk := kk) (w := w) hne h17 hb cnt (h + 1) (hp.set si (.list (IL (statesL ws (h + 1)))) ++ e) (some (.int h)) side1 goal1 q1 r1 (by omega) (keep _ _ hne h1) (look_at (List.getElem?_set_self (List.getElem?_eq_some_iff.mp h2).1)) (by rw [List.length_append, List.length_set]; exact Nat.le_trans hw (Nat.le_add_right _ _))
    exact ⟨hour', side', goal', q', r', hp', ⟨.int h, _, _, by show some (if h < 16 then _ else _) = _; rw [if_pos (by omega)], t, hh⟩, a1, a2, fun k o hk ho => a3 k o hk (keep k o hk ho)⟩
end
end Mine

open PySem PySem.Calls PySem.W PySem.Spec PyProof.Rows
set_option Elab.async false
set_option autoImplicit false
set_option maxRecDepth 100000
set_option genSizeOf false
set_option genInjectivity false
set_option linter.unusedVariables false
namespace Mine
noncomputable section
variable {C C' : Cx} {n : Nat} {env : Env} {ns : List Str}
/-! the lanes -/
def laneV (P : List Int) (x k : Nat) : Int := ((P.getD k 0).fdiv (2 ^ x)).fmod 2 * 2 ^ k
theorem pow_val {x : Nat} (h : x ≤ 1000) : binI .Pow 2 (x : Int) = some (2 ^ x) := bG_eq ⟨by omega, by omega, by decide⟩
theorem pow_ok {x : Nat} (h : x < 17) : ((2 : Int) ^ x) ≠ 0 ∧ ((2 : Int) ^ x).natAbs < 2 ^ 30 := by
  rw [Int.natAbs_pow]
  exact ⟨Int.pow_ne_zero (by decide), Nat.pow_lt_pow_right (by decide) (by omega)⟩
theorem small_pow {k : Nat} (h : k < 17) : small ((2 : Int) ^ k) = true := by
  refine decide_eq_true ?_
  rw [Int.natAbs_pow]
  exact Nat.pow_lt_pow_right (by decide) (by omega)
theorem lane_val {a : Int} {x k : Nat} {hp : Hp} (hx : x < 17) (hk : k < 5) :
    (bI (bI (bI (some (V.int a, hp)) fun a hp => bI (bI (some (V.int 2, hp)) fun a hp => bI (some (V.int x, hp)) fun b hp => (binI .Pow a b).map fun c => (V.int c, hp)) fun b hp => (binI .FloorDiv a b).map fun c => (V.int c, hp)) fun a hp => bI (some (V.int 2, hp)) fun b hp => (binI .Mod a b).map fun c => (V.int c, hp)) fun a hp => bI (bI (some (V.int 2, hp)) fun a hp => bI (some (V.int k, hp)) fun b hp => (binI .Pow a b).map fun c => (V.int c, hp)) fun b hp => (binI .Mult a b).map fun c => (V.int c, hp)) = some (V.int ((a.fdiv (2 ^ x)).fmod 2 * 2 ^ k), hp) := by
  have p1 : (bI (some (V.int 2, hp)) fun a hp => bI (some (V.int x, hp)) fun b hp => (binI .Pow a b).map fun c => (V.int c, hp)) = some (V.int (2 ^ x), hp) := congrArg (Option.map fun c => (V.int c, hp)) (pow_val (x := x) (by omega))
  have p2 : (bI (some (V.int 2, hp)) fun a hp => bI (some (V.int k, hp)) fun b hp => (binI .Pow a b).map fun c => (V.int c, hp)) = some (V.int (2 ^ k), hp) := congrArg (Option.map fun c => (V.int c, hp)) (pow_val (x := k) (by omega))
  have d1 : binI .FloorDiv a (2 ^ x) = some (a.fdiv (2 ^ x)) := bG_eq (pow_ok hx)
  have q1 : (bI (some (V.int a, hp)) fun a hp => bI (bI (some (V.int 2, hp)) fun a hp => bI (some (V.int x, hp)) fun b hp => (binI .Pow a b).map fun c => (V.int c, hp)) fun b hp => (binI .FloorDiv a b).map fun c => (V.int c, hp)) = some (V.int (a.fdiv (2 ^ x)), hp) := (bI_eq (a := a) (hp := hp) rfl).trans ((bI_eq p1).trans (congrArg (Option.map fun c => (V.int c, hp)) d1))
  have m1 : binI .Mod (a.fdiv (2 ^ x)) 2 = some ((a.fdiv (2 ^ x)).fmod 2) := bG_eq (by decide)
  have q2 : (bI (some (V.int (a.fdiv (2 ^ x)), hp)) fun a hp => bI (some (V.int 2, hp)) fun b hp => (binI .Mod a b).map fun c => (V.int c, hp)) = some (V.int ((a.fdiv (2 ^ x)).fmod 2), hp) := congrArg (Option.map fun c => (V.int c, hp)) m1
  have m2 : binI .Mult ((a.fdiv (2 ^ x)).fmod 2) (2 ^ k) = some ((a.fdiv (2 ^ x)).fmod 2 * 2 ^ k) := mul_r (small_pow (by omega))
  rw [q1, q2]
  exact (bI_eq (a := (a.fdiv (2 ^ x)).fmod 2) (hp := hp) rfl).trans ((bI_eq p2).trans (congrArg (Option.map fun c => (V.int c, hp)) m2))
def laneE : FV := fun ρ hp => bI (bI (bI (atE 1 0 ρ hp) fun a hp => bI (bI (some (V.int 2, hp)) fun a hp => bI ((getR ρ 2).map fun v => (v, hp)) fun b hp => (binI .Pow a b).map fun c => (V.int c, hp)) fun b hp => (binI .FloorDiv a b).map fun c => (V.int c, hp)) fun a hp => bI (some (V.int 2, hp)) fun b hp => (binI .Mod a b).map fun c => (V.int c, hp)) fun a hp => bI (bI (some (V.int 2, hp)) fun a hp => bI ((getR ρ 0).map fun v => (v, hp)) fun b hp => (binI .Pow a b).map fun c => (V.int c, hp)) fun b hp => (binI .Mult a b).map fun c => (V.int c, hp)
theorem lane_elt {P : List Int} {pi x : Nat} {hp : Hp} (hP : hp[pi]? = some (.list (IL P))) (h5 : P.length = 5) (hx : x < 17) : All2 (fun v u => laneE (some v :: [some (.ref pi), some (.int x)]) hp = some (u, hp)) (rangeVs 5) (IL ((List.range 5).map (laneV P x))) := by
  refine all2_of (by rw [range_len, map_len, List.length_map, List.length_range]) fun m v u e1 e2 => ?_
  obtain ⟨rfl, hm⟩ := range_at e1
  rw [List.getElem?_map, List.getElem?_map, List.getElem?_range hm] at e2
  cases e2
  have ha : atE 1 0 (some (.int m) :: [some (.ref pi), some (.int x)]) hp = some (.int (P.getD m 0), hp) := atE_eq rfl rfl hP (by omega) (getD_at (by omega))
  unfold laneE
  rw [ha]
  exact lane_val hx hm
abbrev lnR (wi pi : Nat) (x : Option V) : Rho := [none, some (.ref 0), some (.ref wi), some (.ref pi), x, none, none, none, none, none, none, none, none, none, none, none, none]
theorem lane_turn (B : Bs C) {L : Addr} {cdv : Value} {wi pi x w : Nat} {ws P : List Int} {a : Int} {hp : Hp} (hws : hp[wi]? = some (.list (IL ws))) (hP : hp[pi]? = some (.list (IL P))) (h5 : P.length = 5) (hx : x < 17) (ha : ws[x]? = some a) (he : a.fmod 32 = ((List.range 5).map (laneV P x)).sum) (hw : w ≤ hp.length) :
    Tri C n (lwE L cdv) lwN w (stB ((fdB (bd 80))[3]?.getD default)) (lnR wi pi (some (.int x))) hp .next (lnR wi pi (some (.int x))) (hp ++ [.range 5, .list (IL ((List.range 5).map (laneV P x)))]) := by
  have e1 := compF_eq (fi := rg5) (elt := laneE) (ρ := lnR wi pi (some (.int x))) (caps := [3, 4]) (hp := hp) (kd := .range 5) rfl (by rw [show (hp ++ [_])[hp.length]? = _ from look_new hp _ 0]; rfl) (lane_elt (look_at hP) h5 hx) items_range (by decide)
  rw [List.length_append, List.append_assoc] at e1
  have e2 : sumF [.ref (hp.length + 1)] (hp ++ [.range 5, .list (IL ((List.range 5).map (laneV P x)))]) = some (.int ((List.range 5).map (laneV P x)).sum, hp ++ [.range 5, .list (IL ((List.range 5).map (laneV P x)))]) := by
    show bIs _ _ = _
    unfold bIs
    rw [bL_eq (look_new hp [.range 5, .list (IL ((List.range 5).map (laneV P x)))] 1), IL_intsOf]; rfl
  refine T_cons (T_ifF (Tr_cmp rfl (Cmp_int (Ev_bin (Ev_idx (Ev_var 2 rfl) (Ev_var 4 rfl) fun _ _ => ⟨_, rfl⟩) Ev_int) (Ev_callB ⟨rfl, by decide⟩ B.n_sum boot_sum (by decide) (Evs_cons rfl (Ev_comp (caps := [3, 4]) (cns := ["planes", "x"]) ⟨rfl, by decide, by decide, rfl, by decide, by decide, rfl, by decide, (List.forall_mem_cons.mpr ⟨rfl, (List.forall_mem_cons.mpr ⟨rfl, (fun _ h => nomatch h)⟩)⟩), by decide, by decide⟩ (fun _ => rfl) (Ev_callT ⟨rfl, by decide⟩ B.n_range boot_range (by decide) (Evs_cons rfl Ev_int Evs_nil) rfl T_range) (fun _ => (Ev_bin (Ev_bin (Ev_bin (Ev_idx (Ev_var 1 rfl) (Ev_var 0 rfl) fun _ _ => ⟨_, rfl⟩) (Ev_bin Ev_int (Ev_var 2 rfl))) Ev_int) (Ev_bin Ev_int (Ev_var 0 rfl))))) Evs_nil) rfl B_sum))) (b := a.fmod 32 != ((List.range 5).map (laneV P x)).sum) (hp₁ := hp ++ [.range 5, .list (IL ((List.range 5).map (laneV P x)))]) ?_ (by rw [he]; exact bne_self_eq_false _) hw T_nil) T_nil
  have m1 : binI .Mod a 32 = some (a.fmod 32) := bG_eq (by decide)
  refine (bI_eq (a := a.fmod 32) (hp := hp) ((bI_eq (a := a) (hp := hp) ((bL_eq hws).trans (at_eq (by omega) ha))).trans (congrArg (Option.map fun c => (V.int c, hp)) m1))).trans ?_
  exact (bI_eq ((bVs_eq (a := [.ref (hp.length + 1)]) ((bV_eq e1).trans rfl)).trans e2)).trans rfl
theorem lane_loop (B : Bs C) {L : Addr} {cdv : Value} {wi pi kk w : Nat} {ws P : List Int} (h17 : ws.length = 17) (h5 : P.length = 5) (he : ∀ x, x < 17 → (ws.getD x 0).fmod 32 = ((List.range 5).map (laneV P x)).sum) : ∀ (cnt x : Nat) (hp : Hp) (xv : Option V), x + cnt = 17 → hp[wi]? = some (.list (IL ws)) → hp[pi]? = some (.list (IL P)) → w ≤ hp.length →
    ∃ xv' e, FoR (fun hp j => itemAt (.range 17) hp kk j) (fun _ v ρ => ρ.set 4 (some v)) (fun _ ρ h ρ' h' => Tri C n (lwE L cdv) lwN w (stB ((fdB (bd 80))[3]?.getD default)) ρ h .next ρ' h') cnt x (lnR wi pi xv) hp (lnR wi pi xv') (hp ++ e)
  | 0, x, hp, xv, hc, h1, h2, hw => ⟨xv, [], by
      show some (if x < 17 then _ else _) = _ ∧ _
      rw [if_neg (by omega), List.append_nil]; exact ⟨rfl, rfl, rfl⟩⟩
  | cnt + 1, x, hp, xv, hc, h1, h2, hw => by
    have t := lane_turn (n := n) (L := L) (cdv := cdv) B h1 h2 h5 (show x < 17 by omega) (getD_at (by omega)) (he x (by omega)) hw
    obtain ⟨xv', e, hh⟩ := lane_loop B (L := L) (cdv := cdv) (kk := kk) (w := w) h17 h5 he cnt (x + 1) (hp ++ [.range 5, .list (IL ((List.range 5).map (laneV P x)))]) (some (.int x)) (by omega) (look_at h1) (look_at h2) (by rw [List.length_append]; exact Nat.le_trans hw (Nat.le_add_right _ _))
    rw [List.append_assoc] at hh
    exact ⟨xv', _, .int x, _, _, by show some (if x < 17 then _ else _) = _; rw [if_pos (by omega)], t, hh⟩
end
end Mine

open PySem PySem.Calls PySem.W PySem.Spec PyProof.Rows
set_option Elab.async false
set_option autoImplicit false
set_option maxRecDepth 100000
set_option genSizeOf false
set_option genInjectivity false
set_option linter.unusedVariables false
namespace Mine
noncomputable section
variable {C C' : Cx} {n : Nat} {env : Env} {ns : List Str}
theorem bIs_eq {β : Type} {x : Option O} {l : List Int} {k : List Int → Option β} (h : x = some (.list (IL l))) : bIs x k = k l := by
  unfold bIs
  rw [bL_eq h, IL_intsOf]; rfl
def ints16 : List Int := (List.range 16).map fun (i : Nat) => (i : Int)
theorem range16 : rangeVs 16 = IL ints16 := by rw [rangeVs, ints16, IL, List.map_map]; rfl
theorem law_7 (B : Bs C) {L : Addr} {cdv : Value} {wr pl x hour side goal q r : Option V} {si w : Nat} {sts : List Int} {hp : Hp} (hs : hp[si]? = some (.list (IL sts))) (hl : sts.length = 16) (ho : sortI sts = ints16) (hw : w ≤ hp.length) :
    Tri1 C (n + 8) (lwE L cdv) lwN w ((fdB (bd 80))[7]?.getD default) (hrR wr pl x si 0 hour side goal q r) hp .next (hrR wr pl x si 0 hour side goal q r) (hp ++ [.list (IL ints16), .range 16, .list (IL ints16)]) := by
  have e1 : sortedF [.ref si] hp = some (.ref hp.length, hp ++ [.list (IL ints16)]) := (bIs_eq hs).trans ((bG_eq (by omega)).trans (by rw [ho]))
  have e2 : listF [.ref (hp.length + 1)] (hp ++ [.list (IL ints16), .range 16]) = some (.ref (hp.length + 2), hp ++ [.list (IL ints16), .range 16, .list (IL ints16)]) := by
    show bRg (hp ++ [O.list (IL ints16), .range 16])[hp.length + 1]? _ = _
    rw [look_new hp [.list (IL ints16), .range 16] 1]
    show some (V.ref (hp ++ [_, _]).length, (hp ++ [_, _]) ++ [O.list (rangeVs 16)]) = _
    rw [range16, List.length_append, List.append_assoc]; rfl
  have e3 : rangeF [.int 16] (hp ++ [.list (IL ints16)]) = some (.ref (hp.length + 1), hp ++ [.list (IL ints16), .range 16]) := by
    show some (V.ref (hp ++ [_]).length, (hp ++ [_]) ++ [O.range 16]) = _
    rw [List.length_append, List.append_assoc]; rfl
  refine T_ifF (Tr_or2 (Tr_cmp rfl (Cmp_int (Ev_var 6 rfl) Ev_int)) (Tr_cmp rfl (Cmp_ne (Ev_callB ⟨rfl, by decide⟩ B.n_sorted boot_sorted (by decide) (Evs_cons rfl (Ev_var 5 rfl) Evs_nil) rfl B_sorted) (Ev_callT ⟨rfl, by decide⟩ B.n_list boot_list (by decide) (Evs_cons rfl (Ev_callT ⟨rfl, by decide⟩ B.n_range boot_range (by decide) (Evs_cons rfl Ev_int Evs_nil) rfl T_range) Evs_nil) rfl T_list)))) (b := false) (hp₁ := hp ++ [.list (IL ints16), .range 16, .list (IL ints16)]) ?_ rfl hw T_nil
  refine (bB_eq (a := false) (hp := hp) rfl).trans ((bB_eq (a := false) ?_).trans rfl)
  refine (bR_eq ((bVs_eq (a := [.ref si]) (hp := hp) rfl).trans e1)).trans ?_
  have e4 : (bVs (bV (bVs (bV (some (V.int 16, hp ++ [O.list (IL ints16)])) fun a hp => bVs (some ([], hp)) fun b hp => some (a :: b, hp)) rangeF) fun a hp => bVs (some ([], hp)) fun b hp => some (a :: b, hp)) listF) = some (.ref (hp.length + 2), hp ++ [.list (IL ints16), .range 16, .list (IL ints16)]) := by
    show bVs (bV (rangeF [.int 16] (hp ++ [.list (IL ints16)])) _) _ = _
    rw [e3]; exact e2
  refine (bR_eq e4).trans ?_
  refine (bIs_eq (look_new hp [.list (IL ints16), .range 16, .list (IL ints16)] 0)).trans ((bIs_eq (look_new hp [.list (IL ints16), .range 16, .list (IL ints16)] 2)).trans ?_)
  rw [decide_eq_true rfl]; rfl
end
end Mine

open PySem PySem.Calls PySem.W PySem.Spec PyProof.Rows
set_option Elab.async false
set_option autoImplicit false
set_option maxRecDepth 100000
set_option genSizeOf false
set_option genInjectivity false
set_option linter.unusedVariables false
namespace Mine
noncomputable section
variable {C C' : Cx} {n : Nat} {env : Env} {ns : List Str}
/-! the figures -/
def valN : List Nat → Nat
  | [] => 1
  | d :: r => d + 16 * valN r
def figN : List Nat → List Int
  | [] => [1]
  | d :: r => ((d % 4 : Nat) : Int) :: ((d / 4 : Nat) : Int) :: figN r
theorem fig_digs : ∀ l : List Nat, (∀ d ∈ l, d < 16) → digs 2 (valN l) (2 * l.length + 1) = figN l
  | [], _ => rfl
  | d :: l, h => by
    have hd := h d List.mem_cons_self
    have ih := fig_digs l fun d hd => h d (List.mem_cons_of_mem _ hd)
    show (((d + 16 * valN l) % 2 ^ 2 : Nat) : Int) :: (((d + 16 * valN l) / 2 ^ 2 % 2 ^ 2 : Nat) : Int) :: digs 2 ((d + 16 * valN l) / 2 ^ 2 / 2 ^ 2) (2 * l.length + 1) = _
    rw [show (d + 16 * valN l) % 2 ^ 2 = d % 4 by omega, show (d + 16 * valN l) / 2 ^ 2 % 2 ^ 2 = d / 4 by omega, show (d + 16 * valN l) / 2 ^ 2 / 2 ^ 2 = valN l by omega, ih, figN]
theorem val_cast : ∀ l : List Nat, valD 4 (l.map (fun (d : Nat) => (d : Int)) ++ [1]) = (valN l : Int)
  | [] => rfl
  | d :: l => by
    show (d : Int) + 2 ^ 4 * valD 4 (l.map (fun (d : Nat) => (d : Int)) ++ [1]) = ((d + 16 * valN l : Nat) : Int)
    rw [val_cast l]
    omega
theorem val_range : ∀ l : List Nat, (∀ d ∈ l, d < 16) → 16 ^ l.length ≤ valN l ∧ valN l < 2 * 16 ^ l.length
  | [], _ => by decide
  | d :: l, h => by
    have hd := h d List.mem_cons_self
    have ih := val_range l fun d hd => h d (List.mem_cons_of_mem _ hd)
    rw [List.length_cons, Nat.pow_succ, valN]
    omega
theorem val_cnt {l : List Nat} (hl : l.length = 16) (h : ∀ d ∈ l, d < 16) : cntD (valN l) 2 = 33 := by
  have hr := val_range l h
  rw [hl] at hr
  have e : Builtin.Int.intBits ((valN l : Nat) : Int) = 65 := by
    unfold Builtin.Int.intBits
    rw [if_neg (by rw [beq_iff_eq]; omega)]
    show (valN l).log2 + 1 = 65
    have : (valN l).log2 = 64 := (Nat.log2_eq_iff (by omega)).mpr ⟨by omega, by omega⟩
    omega
  rw [cntD, e]
theorem law_8 (B : Bs C) {L : Addr} {cdv : Value} {wr pl x hour side goal q r : Option V} {si w : Nat} {s : Int} {l : List Nat} {hp : Hp} (hs : hp[si]? = some (.list (IL (l.map fun (d : Nat) => (d : Int))))) (hl : l.length = 16) (h16 : ∀ d ∈ l, d < 16) (hw : w ≤ hp.length) :
    Tri1 C (n + 9) (lwE L cdv) lwN w ((fdB (bd 80))[8]?.getD default) (hrR wr pl x si s hour side goal q r) hp .next ((hrR wr pl x si s hour side goal q r).set 12 (some (.ref (hp.length + 2)))) (hp ++ [.list [.int 1], .list (IL (l.map (fun (d : Nat) => (d : Int)) ++ [1])), .list (IL (figN l))]) := by
  have h_int2digits := h_int2digits (n := n) B
  have h_digits2int := h_digits2int (n := n) B
  obtain ⟨cs, hcs⟩ : ∃ cs, cs = l.map (fun (d : Nat) => (d : Int)) ++ [1] := ⟨_, rfl⟩
  have hcl : cs.length = 17 := by rw [hcs, List.length_append, List.length_map, hl]; rfl
  have e1 : (bL (hp ++ [O.list [.int 1]])[si]? fun xs => bL (hp ++ [O.list [.int 1]])[hp.length]? fun ys => bG (xs.length + ys.length ≤ 1000) (some (V.ref (hp ++ [O.list [.int 1]]).length, (hp ++ [O.list [.int 1]]) ++ [.list (xs ++ ys)]))) = some (.ref (hp.length + 1), hp ++ [.list [.int 1], .list (IL cs)]) := by
    rw [bL_eq (look_at hs), bL_eq (show (hp ++ [O.list [.int 1]])[hp.length]? = _ from look_new hp [.list [.int 1]] 0), bG_eq (by rw [map_len, List.length_map, hl]; decide), List.length_append, List.append_assoc, hcs, ← IL_app]; rfl
  have e2 : d2iF [.ref (hp.length + 1), .int 4] (hp ++ [.list [.int 1], .list (IL cs)]) = some (.int (valN l : Nat), hp ++ [.list [.int 1], .list (IL cs)]) := by
    have hdg : ∀ d ∈ cs, 0 ≤ d ∧ d < 2 ^ (4 : Int).toNat := fun d hd => by
      rw [hcs] at hd
      rcases List.mem_append.mp hd with hd | hd
      · obtain ⟨e, he, rfl⟩ := List.mem_map.mp hd
        have := h16 e he
        show 0 ≤ (e : Int) ∧ (e : Int) < 2 ^ 4
        omega
      · rw [List.mem_singleton.mp hd]; decide
    have hv : valD (4 : Int).toNat cs = (valN l : Int) := hcs ▸ val_cast l
    refine (bIs_eq (look_new hp [.list [.int 1], .list (IL cs)] 1)).trans ((bG_eq ⟨by decide, by omega, by rw [hcl]; decide, hdg⟩).trans ?_)
    rw [hv]
  have e3 : i2dF [.int (valN l : Nat), .int 2] (hp ++ [.list [.int 1], .list (IL cs)]) = some (.ref (hp.length + 2), hp ++ [.list [.int 1], .list (IL cs), .list (IL (figN l))]) := by
    have hc := val_cnt hl h16
    have hf := fig_digs l h16
    rw [hl] at hf
    refine (bG_eq (show 0 ≤ ((valN l : Nat) : Int) ∧ (1 : Int) ≤ 2 ∧ (2 : Int) ≤ 1000 ∧ cntD (valN l) 2 * 2 ≤ 190 ∧ cntD (valN l) 2 ≤ 128 from ⟨by omega, by decide, by decide, by omega, by omega⟩)).trans ?_
    show some (V.ref (hp ++ _).length, (hp ++ _) ++ [O.list (IL (digs 2 (valN l) (cntD (valN l) 2)))]) = _
    rw [hc, hf, List.length_append, List.append_assoc]; rfl
  rw [← hcs]
  refine T_ex (Ex_assign 12 rfl rfl (Ev_call ⟨rfl, by decide⟩ B.n_int2digits B.k_int2digits (Evs_cons rfl (Ev_call ⟨rfl, by decide⟩ B.n_digits2int B.k_digits2int (Evs_cons rfl (Ev_addL (Ev_var 5 rfl) (Ev_list (Evs_cons rfl Ev_int Evs_nil))) (Evs_cons rfl Ev_int Evs_nil)) rfl h_digits2int) (Evs_cons rfl Ev_int Evs_nil)) rfl h_int2digits)) (asg_eq (i := 12) ((bVs_eq (a := [.int (valN l : Nat), .int 2]) (hp := hp ++ [.list [.int 1], .list (IL cs)]) ((bV_eq (v := .int (valN l : Nat)) (hp := hp ++ [.list [.int 1], .list (IL cs)]) ((bVs_eq (a := [.ref (hp.length + 1), .int 4]) (hp := hp ++ [.list [.int 1], .list (IL cs)]) ((bV_eq (v := .ref (hp.length + 1)) (hp := hp ++ [.list [.int 1], .list (IL cs)]) e1).trans rfl)).trans e2)).trans rfl)).trans e3)) hw
end
end Mine

open PySem PySem.Calls PySem.W PySem.Spec PyProof.Rows
set_option Elab.async false
set_option autoImplicit false
set_option maxRecDepth 100000
set_option genSizeOf false
set_option genInjectivity false
set_option linter.unusedVariables false
namespace Mine
noncomputable section
variable {C C' : Cx} {n : Nat} {env : Env} {ns : List Str}
/-! statement 9 -/
abbrev flR (a0 a1 wr pl x : Option V) (si : Nat) (s hour side goal q r : Option V) (fi : Nat) (lo hi i co : Option V) : Rho := [a0, a1, wr, pl, x, some (.ref si), s, hour, side, goal, q, r, some (.ref fi), lo, hi, i, co]
def figM : List Nat → List Int
  | [] => []
  | d :: r => ((d % 4 : Nat) : Int) :: ((d / 4 : Nat) : Int) :: figM r
theorem figN_eq : ∀ l : List Nat, figN l = figM l ++ [1]
  | [] => rfl
  | d :: l => by rw [figN, figM, figN_eq l]; rfl
theorem figM_len : ∀ l : List Nat, (figM l).length = 2 * l.length
  | [] => rfl
  | d :: l => by rw [figM, List.length_cons, List.length_cons, figM_len l, List.length_cons]; omega
def f2E : FV := fun ρ hp => bVs (bV (bI ((getR ρ 0).map fun v => (v, hp)) fun a hp => bI (some (V.int 4, hp)) fun b hp => (binI .Mod a b).map fun c => (V.int c, hp)) fun a hp => bVs (bV (bI ((getR ρ 0).map fun v => (v, hp)) fun a hp => bI (some (V.int 4, hp)) fun b hp => (binI .FloorDiv a b).map fun c => (V.int c, hp)) fun a hp => bVs (some ([], hp)) fun b hp => some (a :: b, hp)) fun b hp => some (a :: b, hp)) fun b hp => bG (b.length ≤ 1000) (some (.ref hp.length, hp ++ [.tuple b]))
theorem f2_val {d : Nat} {t : Rho} {hp : Hp} : f2E (some (.int d) :: t) hp = some (.ref hp.length, hp ++ [.tuple [.int (d % 4 : Nat), .int (d / 4 : Nat)]]) := by
  have e1 : (bI (some (V.int d, hp)) fun a hp => bI (some (V.int 4, hp)) fun b hp => (binI .Mod a b).map fun c => (V.int c, hp)) = some (V.int (d % 4 : Nat), hp) := mod_eq
  have d1 : binI .FloorDiv (d : Int) 4 = some ((d / 4 : Nat) : Int) := (bG_eq ⟨by decide, by decide⟩).trans (congrArg some (by rw [Int.fdiv_eq_ediv_of_nonneg _ (by decide)]; rfl))
  have e2 : (bI (some (V.int d, hp)) fun a hp => bI (some (V.int 4, hp)) fun b hp => (binI .FloorDiv a b).map fun c => (V.int c, hp)) = some (V.int (d / 4 : Nat), hp) := congrArg (Option.map fun c => (V.int c, hp)) d1
  have e3 : (bVs (bV (bI (some (V.int d, hp)) fun a hp => bI (some (V.int 4, hp)) fun b hp => (binI .FloorDiv a b).map fun c => (V.int c, hp)) fun a hp => bVs (some ([], hp)) fun b hp => some (a :: b, hp)) fun b hp => some (V.int (d % 4 : Nat) :: b, hp)) = some ([V.int (d % 4 : Nat), V.int (d / 4 : Nat)], hp) := by rw [e2]; rfl
  exact (bVs_eq (a := [.int (d % 4 : Nat), .int (d / 4 : Nat)]) (hp := hp) ((bV_eq (v := .int (d % 4 : Nat)) (hp := hp) e1).trans e3)).trans rfl
def elt1 : FV := fun ρ hp => (getR ρ 1).map fun v => (v, hp)
theorem compL_two {k f : Nat} {hp : Hp} {a x : Option V} {u v : V} {us : List V} (h : hp[k]? = some (.tuple [u, v])) : compL elt1 1 .tuple k (f + 3) 0 [a, x] hp us = some (us ++ [u, v], [a, some v], hp) := by
  have i0 : itemAt .tuple hp k 0 = some (some u) := by show bT _ _ = _; rw [h]; rfl
  have i1 : itemAt .tuple hp k 1 = some (some v) := by show bT _ _ = _; rw [h]; rfl
  have i2 : itemAt .tuple hp k 2 = some none := by show bT _ _ = _; rw [h]; rfl
  have st : ∀ (g j : Nat) (o : Option V) (us : List V), compL elt1 1 .tuple k (g + 1) j [a, o] hp us = bO (itemAt .tuple hp k j) (some (us, [a, o], hp)) fun v => compL elt1 1 .tuple k g (j + 1) [a, some v] hp (us ++ [v]) := fun _ _ _ _ => rfl
  rw [st, i0]
  show compL elt1 1 .tuple k (f + 2) 1 [a, some u] hp (us ++ [u]) = _
  rw [st, i1]
  show compL elt1 1 .tuple k (f + 1) 2 [a, some v] hp (us ++ [u] ++ [v]) = _
  rw [st, i2, List.append_assoc]; rfl
theorem compLo_eq {k : Nat} {vs : List V} : ∀ (l : List Nat) (j : Nat) (us : List V) (x y : Option V) (hp : Hp) (fuel : Nat), hp[k]? = some (.list vs) → vs.drop j = l.map (fun (d : Nat) => V.int d) → l.length < fuel →
    ∃ x' y' e, compLo f2E elt1 .list k fuel j [x, y] hp us = some (us ++ IL (figM l), [x', y'], hp ++ e)
  | [], j, us, x, y, hp, fuel + 1, h, hd, _ => ⟨x, y, [], by
    show bO (itemAt .list hp k j) _ _ = _
    rw [items_list h, List.getElem?_eq_none_iff.mpr (List.drop_eq_nil_iff.mp hd), figM, List.append_nil, IL, List.map_nil, List.append_nil]; rfl⟩
  | d :: l, j, us, x, y, hp, fuel + 1, h, hd, hf => by
    obtain ⟨h1, h2⟩ := drop_cons hd
    obtain ⟨x', y', e, hh⟩ := compLo_eq l (j + 1) (us ++ [.int (d % 4 : Nat), .int (d / 4 : Nat)]) (some (.int d)) (some (.int (d / 4 : Nat))) (hp ++ [.tuple [.int (d % 4 : Nat), .int (d / 4 : Nat)]]) fuel (look_at h) h2 (Nat.lt_of_succ_lt_succ hf)
    rw [List.append_assoc hp, List.append_assoc us] at hh
    have hk : (hp ++ [O.tuple [.int (d % 4 : Nat), .int (d / 4 : Nat)]])[hp.length]? = some (.tuple [.int (d % 4 : Nat), .int (d / 4 : Nat)]) := look_new hp _ 0
    refine ⟨x', y', [O.tuple [.int (d % 4 : Nat), .int (d / 4 : Nat)]] ++ e, ?_⟩
    have st : compLo f2E elt1 .list k (fuel + 1) j [x, y] hp us = bO (itemAt .list hp k j) (some (us, [x, y], hp)) fun v => bR (f2E [some v, y] hp) fun k2 hp => (kdOf hp[k2]?).bind fun kd2 => (compL elt1 1 kd2 k2 20 0 [some v, y] hp us).bind fun r => compLo f2E elt1 .list k fuel (j + 1) r.2.1 r.2.2 r.1 := rfl
    rw [st, items_list h, h1]
    have bs : ∀ {β : Type} (v : V) (z : Option β) (k : V → Option β), bO (some (some v)) z k = k v := fun _ _ _ => rfl
    rw [bs]
    refine Eq.trans (bR_eq (f2_val (d := d) (t := [y]) (hp := hp))) ?_
    rw [hk]
    show (compL elt1 1 .tuple hp.length 20 0 [some (.int d), y] (hp ++ [O.tuple [.int (d % 4 : Nat), .int (d / 4 : Nat)]]) us).bind _ = _
    rw [show (20 : Nat) = 17 + 3 from rfl, compL_two hk]
    exact hh
theorem law_9 (B : Bs C) {L : Addr} {cdv : Value} {a0 a1 wr pl x s hour side goal q r lo hi i co : Option V} {si fi w : Nat} {l : List Nat} {hp : Hp} (hs : hp[si]? = some (.list (IL (l.map fun (d : Nat) => (d : Int))))) (hl : l.length = 16) (hfi : hp[fi]? = some (.list (IL (figN l)))) (hw : w ≤ hp.length) :
    ∃ e, Tri1 C (n + 8) (lwE L cdv) lwN w ((fdB (bd 80))[9]?.getD default) (flR a0 a1 wr pl x si s hour side goal q r fi lo hi i co) hp .next (flR a0 a1 wr pl x si s hour side goal q r fi lo hi i co) (hp ++ e) := by
  obtain ⟨x', y', e, he⟩ := compLo_eq (k := si) l 0 [] none none hp 30 hs (by rw [List.drop_zero, IL, List.map_map]; rfl) (by omega)
  have e1 : comp2F (fun ρ hp => (getR ρ 5).map fun v => (v, hp)) f2E elt1 (flR a0 a1 wr pl x si s hour side goal q r fi lo hi i co) hp = some (.ref (hp ++ e).length, hp ++ e ++ [.list (IL (figM l))]) := by
    show (kdOf hp[si]?).bind _ = _
    rw [hs]
    show (compLo f2E elt1 .list si 30 0 [none, none] hp []).map _ = _
    rw [he, List.nil_append]; rfl
  obtain ⟨h1, hh1⟩ : ∃ h1, h1 = hp ++ e := ⟨_, rfl⟩
  rw [← hh1] at e1
  have k1 : ∀ z, (h1 ++ O.list (IL (figM l)) :: z)[h1.length]? = some (.list (IL (figM l))) := fun z => look_new h1 (.list (IL (figM l)) :: z) 0
  have e2 : (bR (comp2F (fun ρ hp => (getR ρ 5).map fun v => (v, hp)) f2E elt1 (flR a0 a1 wr pl x si s hour side goal q r fi lo hi i co) hp) fun i hp => bR (bVs (bV (some (V.int 1, hp)) fun a hp => bVs (some ([], hp)) fun b hp => some (a :: b, hp)) fun b hp => bG (b.length ≤ 1000) (some (.ref hp.length, hp ++ [.list b]))) fun j hp => bL hp[i]? fun xs => bL hp[j]? fun ys => bG (xs.length + ys.length ≤ 1000) (some (V.ref hp.length, hp ++ [O.list (xs ++ ys)]))) = some (.ref (h1.length + 2), h1 ++ [.list (IL (figM l)), .list [.int 1], .list (IL (figN l))]) := by
    refine (bR_eq e1).trans ?_
    refine (bR_eq (i := (h1 ++ [O.list (IL (figM l))]).length) (hp := h1 ++ [O.list (IL (figM l))] ++ [.list [.int 1]]) rfl).trans ?_
    have hlen : (h1 ++ [O.list (IL (figM l))]).length = h1.length + 1 := List.length_append ..
    rw [hlen, List.append_assoc]
    refine (bL_eq (k1 _)).trans ((bL_eq (look_new h1 [.list (IL (figM l)), .list [.int 1]] 1)).trans ((bG_eq (by rw [map_len, figM_len, hl]; decide)).trans ?_))
    rw [List.length_append, List.append_assoc, figN_eq, ← IL_app]; rfl
  refine ⟨e ++ [.list (IL (figM l)), .list [.int 1], .list (IL (figN l))], T_ifF (Tr_cmp rfl (Cmp_ne (Ev_var 12 rfl) (Ev_addL (Ev_comp2 ⟨rfl, by decide, by decide, by decide, rfl, rfl, by decide, by decide⟩ (fun _ => rfl) (Ev_var 5 rfl) (fun _ _ => rfl) (fun _ => (Ev_tuple (Evs_cons rfl (Ev_bin (Ev_var 0 rfl) Ev_int) (Evs_cons rfl (Ev_bin (Ev_var 0 rfl) Ev_int) Evs_nil)))) (fun _ => (Ev_var 1 rfl))) (Ev_list (Evs_cons rfl Ev_int Evs_nil))))) (b := false) ?_ rfl hw T_nil⟩
  have hfi' : (h1 ++ [.list (IL (figM l)), .list [.int 1], .list (IL (figN l))])[fi]? = some (.list (IL (figN l))) := look_at (by rw [hh1]; exact look_at hfi)
  refine (bR_eq (i := fi) (hp := hp) rfl).trans ((bR_eq e2).trans ?_)
  refine (bIs_eq hfi').trans ((bIs_eq (look_new h1 [.list (IL (figM l)), .list [.int 1], .list (IL (figN l))] 2)).trans ?_)
  rw [decide_eq_true rfl, ← List.append_assoc, ← hh1]; rfl
end
end Mine

open PySem PySem.Calls PySem.W PySem.Spec PyProof.Rows
set_option Elab.async false
set_option autoImplicit false
set_option maxRecDepth 100000
set_option genSizeOf false
set_option genInjectivity false
set_option linter.unusedVariables false
namespace Mine
noncomputable section
variable {C C' : Cx} {n : Nat} {env : Env} {ns : List Str}
/-! statements 10 and 11 -/
def sg (k : Nat) : Str := Txt.item (Str.ofString "abAB") (k : Int)
def SL (l : List Nat) : List V := l.map fun d => V.str (sg d)
theorem fig_even (l : List Nat) (h : l.length = 16) : pickV (IL (figN l)) (some 0) (some 32) (some 2) = IL (l.map fun d => ((d % 4 : Nat) : Int)) := match l, h with
  | [_, _, _, _, _, _, _, _, _, _, _, _, _, _, _, _], _ => rfl
theorem fig_odd (l : List Nat) (h : l.length = 16) : pickV (IL (figN l)) (some 1) (some 32) (some 2) = IL (l.map fun d => ((d / 4 : Nat) : Int)) := match l, h with
  | [_, _, _, _, _, _, _, _, _, _, _, _, _, _, _, _], _ => rfl
def sgE : FV := fun ρ hp => bSt (some (V.str (Str.ofString "abAB"), hp)) fun x hp => bI ((getR ρ 0).map fun v => (v, hp)) fun k hp => bG (0 ≤ k ∧ k < x.length ∧ x.length ≤ 1000) (some (.str (Txt.item x k), hp))
theorem ab_len : (Str.ofString "abAB").length = 4 := by decide +kernel
theorem sg_elt {hp : Hp} (l : List Nat) (h : ∀ d ∈ l, d < 4) : All2 (fun v u => sgE (some v :: []) hp = some (u, hp)) (IL (l.map fun (d : Nat) => (d : Int))) (SL l) :=
  all2_of (by rw [map_len, SL, List.length_map, List.length_map]) fun m v u e1 e2 => by
    rw [SL, List.getElem?_map] at e2
    rw [List.getElem?_map, List.getElem?_map] at e1
    obtain ⟨d, hd, rfl⟩ := Option.map_eq_some_iff.mp e2
    rw [hd] at e1
    cases e1
    have := h d (List.mem_of_getElem? hd)
    show bG (0 ≤ (d : Int) ∧ (d : Int) < ((Str.ofString "abAB").length : Nat) ∧ (Str.ofString "abAB").length ≤ 1000) _ = _
    rw [bG_eq (by rw [ab_len]; omega)]; rfl
def slF (a : Int) : FV := fun ρ hp => bR ((getR ρ 12).map fun v => (v, hp)) fun i hp => bP (bI (some (V.int a, hp)) fun k hp => some (some k, hp)) fun lo hp => bP (bI (some (V.int 32, hp)) fun k hp => some (some k, hp)) fun hi hp => bP (bI (some (V.int 2, hp)) fun k hp => some (some k, hp)) fun st hp => bL hp[i]? fun xs => bG (xs.length ≤ 1000 ∧ st ≠ some 0) (some (.ref hp.length, hp ++ [.list (pickV xs lo hi st)]))
theorem figN_len (l : List Nat) : (figN l).length = 2 * l.length + 1 := by rw [figN_eq, List.length_append, figM_len]; rfl
theorem sg_comp {a : Int} {ρ : Rho} {fi : Nat} {hp : Hp} {l ds : List Nat} (hfi : hp[fi]? = some (.list (IL (figN l)))) (hl : l.length = 16) (hρ : getR ρ 12 = some (.ref fi)) (hp' : pickV (IL (figN l)) (some a) (some 32) (some 2) = IL (ds.map fun (d : Nat) => (d : Int))) (hd : ∀ d ∈ ds, d < 4) (h16 : ds.length = 16) :
    compF (slF a) sgE [] ρ hp = some (.ref (hp.length + 1), hp ++ [.list (IL (ds.map fun (d : Nat) => (d : Int))), .list (SL ds)]) := by
  have e1 : slF a ρ hp = some (.ref hp.length, hp ++ [.list (IL (ds.map fun (d : Nat) => (d : Int)))]) := by
    unfold slF
    rw [hρ]
    refine (bL_eq hfi).trans ((bG_eq ⟨by rw [map_len, figN_len, hl]; decide, by decide⟩).trans ?_)
    rw [hp']
  have hk : (hp ++ [O.list (IL (ds.map fun (d : Nat) => (d : Int)))])[hp.length]? = some (.list (IL (ds.map fun (d : Nat) => (d : Int)))) := look_new hp _ 0
  have := compF_eq (fi := slF a) (elt := sgE) (ρ := ρ) (caps := []) (hp := hp) (kd := .list) e1 (by rw [hk]; rfl) (sg_elt ds hd) (items_list hk) (by rw [map_len, List.length_map, h16]; decide)
  rw [this, List.length_append, List.append_assoc]; rfl
theorem law_10 (B : Bs C) {L : Addr} {cdv : Value} {a0 a1 wr pl x s hour side goal q r lo hi i co : Option V} {si fi w : Nat} {l : List Nat} {hp : Hp} (hl : l.length = 16) (hfi : hp[fi]? = some (.list (IL (figN l)))) (hw : w ≤ hp.length) :
    Tri1 C n (lwE L cdv) lwN w ((fdB (bd 80))[10]?.getD default) (flR a0 a1 wr pl x si s hour side goal q r fi lo hi i co) hp .next (flR a0 a1 wr pl x si s hour side goal q r fi (some (.ref (hp.length + 1))) hi i co) (hp ++ [.list (IL ((l.map fun d : Nat => d % 4).map fun (d : Nat) => (d : Int))), .list (SL (l.map fun d : Nat => d % 4))]) :=
  T_ex (Ex_assign 13 rfl rfl (Ev_comp (caps := []) (cns := []) ⟨rfl, by decide, by decide, rfl, by decide, by decide, rfl, by decide, (fun _ h => nomatch h), by decide, by decide⟩ (fun _ => rfl) (Ev_slice (Ev_var 12 rfl) (Pt_some Ev_int) (Pt_some Ev_int) (Pt_some Ev_int)) (fun _ => (Ev_idxS Ev_str (Ev_var 0 rfl) fun _ _ => ⟨_, rfl⟩)))) (asg_eq (i := 13) (sg_comp hfi hl rfl (by rw [fig_even l hl, List.map_map]; rfl) (fun d hd => by obtain ⟨a, _, rfl⟩ := List.mem_map.mp hd; omega) (by rw [List.length_map, hl]))) hw
theorem law_11 (B : Bs C) {L : Addr} {cdv : Value} {a0 a1 wr pl x s hour side goal q r lo hi i co : Option V} {si fi w : Nat} {l : List Nat} {hp : Hp} (hl : l.length = 16) (h16 : ∀ d ∈ l, d < 16) (hfi : hp[fi]? = some (.list (IL (figN l)))) (hw : w ≤ hp.length) :
    Tri1 C n (lwE L cdv) lwN w ((fdB (bd 80))[11]?.getD default) (flR a0 a1 wr pl x si s hour side goal q r fi lo hi i co) hp .next (flR a0 a1 wr pl x si s hour side goal q r fi lo (some (.ref (hp.length + 1))) i co) (hp ++ [.list (IL ((l.map fun d : Nat => d / 4).map fun (d : Nat) => (d : Int))), .list (SL (l.map fun d : Nat => d / 4))]) :=
  T_ex (Ex_assign 14 rfl rfl (Ev_comp (caps := []) (cns := []) ⟨rfl, by decide, by decide, rfl, by decide, by decide, rfl, by decide, (fun _ h => nomatch h), by decide, by decide⟩ (fun _ => rfl) (Ev_slice (Ev_var 12 rfl) (Pt_some Ev_int) (Pt_some Ev_int) (Pt_some Ev_int)) (fun _ => (Ev_idxS Ev_str (Ev_var 0 rfl) fun _ _ => ⟨_, rfl⟩)))) (asg_eq (i := 14) (sg_comp hfi hl rfl (by rw [fig_odd l hl, List.map_map]; rfl) (fun d hd => by obtain ⟨a, ha, rfl⟩ := List.mem_map.mp hd; have := h16 a ha; omega) (by rw [List.length_map, hl]))) hw
end
end Mine

open PySem PySem.Calls PySem.W PySem.Spec PyProof.Rows
set_option Elab.async false
set_option autoImplicit false
set_option maxRecDepth 100000
set_option genSizeOf false
set_option genInjectivity false
set_option linter.unusedVariables false
namespace Mine
noncomputable section
variable {C C' : Cx} {n : Nat} {env : Env} {ns : List Str}
/-! statement 12 -/
theorem methE {x : Str} {p1 : Pos} {e : Expr} {apos pos : Pos} (he : notStar e = true) (hl : (apos.endLine == pos.line) = true) : MethOK env (.Name x p1) "extend" apos pos [e] := methX (by
  cases e with
  | Starred => cases he
  | _ => rfl) hl
theorem ext_eq {x : Option (V × Hp)} {hp hp1 : Hp} {i j : Nat} {xs ys zs : List V} {ρ : Rho} (h0 : hp[i]? = some (.list zs)) (hx : x = some (.ref j, hp1)) (hi : hp1[i]? = some (.list xs)) (hj : hp1[j]? = some (.list ys)) (hl : xs.length + ys.length ≤ 1000) :
    (bV (bL hp[i]? fun _ => bR x fun j hp => bL hp[i]? fun xs => bL hp[j]? fun ys => bG (xs.length + ys.length ≤ 1000) (some (V.val .none, hp.set i (.list (xs ++ ys))))) fun v hp => match v with | .val .none => some (Fl.next, ρ, hp) | _ => none) = some (.next, ρ, hp1.set i (.list (xs ++ ys))) := by
  rw [bL_eq h0, bR_eq hx, bL_eq hi, bL_eq hj, bG_eq hl]; rfl
theorem sg_len {d : Nat} (h : d < 4) : (sg d).length ≤ 1000 := by
  have : d = 0 ∨ d = 1 ∨ d = 2 ∨ d = 3 := by omega
  rcases this with rfl | rfl | rfl | rfl <;> decide +kernel
def co (ds : List Nat) (i k : Nat) : Int := cost (sg (ds.getD i 0)) (sg (ds.getD ((i + k) % 16) 0))
theorem SL_at {ds : List Nat} {j : Nat} (h : j < ds.length) : (SL ds)[j]? = some (.str (sg (ds.getD j 0))) := by
  rw [SL, List.getElem?_map, List.getElem?_eq_getElem h, List.getD_eq_getElem?_getD, List.getElem?_eq_getElem h]; rfl
def coE : FV := fun ρ hp => bVs (bVs' ρ hp) substF
  where bVs' (ρ : Rho) (hp : Hp) : Option (List V × Hp) := bV (atE 1 2 ρ hp) fun a hp => bVs (bV (bR ((getR ρ 1).map fun v => (v, hp)) fun i hp => bI (bI (bI ((getR ρ 2).map fun v => (v, hp)) fun a hp => bI ((getR ρ 0).map fun v => (v, hp)) fun b hp => (binI .Add a b).map fun c => (V.int c, hp)) fun a hp => bI (some (V.int 16, hp)) fun b hp => (binI .Mod a b).map fun c => (V.int c, hp)) fun k hp => bL hp[i]? fun xs => bG (0 ≤ k ∧ k ≤ 1000) (xs[k.toNat]?.map fun v => (v, hp))) fun a hp => bVs (some ([], hp)) fun b hp => some (a :: b, hp)) fun b hp => some (a :: b, hp)
theorem at_str {vs : List V} {j : Nat} {x : V} {hp : Hp} (hj : j ≤ 1000) (h : vs[j]? = some x) : bG (0 ≤ (j : Int) ∧ (j : Int) ≤ 1000) (vs[(j : Int).toNat]?.map fun v => (v, hp)) = some (x, hp) := by
  rw [bG_eq (by omega), Int.toNat_natCast, h]; rfl
theorem co_val {ds : List Nat} {hp : Hp} {li i k : Nat} (hli : hp[li]? = some (.list (SL ds))) (hl : ds.length = 16) (hd : ∀ d ∈ ds, d < 4) (hi : i < 16) : coE [some (.int k), some (.ref li), some (.int i)] hp = some (.int (co ds i k), hp) := by
  have lt : ∀ j, j < 16 → ds.getD j 0 < 4 := fun j hj => hd _ (by rw [List.getD_eq_getElem?_getD, List.getElem?_eq_getElem (hl ▸ hj)]; exact List.getElem_mem _)
  have m := Nat.mod_lt (i + k) (show 0 < 16 by decide)
  have e1 : atE 1 2 [some (.int k), some (.ref li), some (.int i)] hp = some (.str (sg (ds.getD i 0)), hp) := by
    show bL hp[li]? _ = _
    exact (bL_eq hli).trans (at_str (by omega) (SL_at (by omega)))
  have e0 : (bI (some (V.int ((i + k : Nat) : Int), hp)) fun a hp => bI (some (V.int 16, hp)) fun b hp => (binI .Mod a b).map fun c => (V.int c, hp)) = some (V.int ((i + k) % 16 : Nat), hp) := congrArg (Option.map fun c => (V.int c, hp)) (mod_nat (i + k) 16 (by decide))
  have e2 : (bI (bI (bI (some (V.int i, hp)) fun a hp => bI (some (V.int k, hp)) fun b hp => (binI .Add a b).map fun c => (V.int c, hp)) fun a hp => bI (some (V.int 16, hp)) fun b hp => (binI .Mod a b).map fun c => (V.int c, hp)) fun k hp => bL hp[li]? fun xs => bG (0 ≤ k ∧ k ≤ 1000) (xs[k.toNat]?.map fun v => (v, hp))) = some (.str (sg (ds.getD ((i + k) % 16) 0)), hp) :=
    (bI_eq e0).trans ((bL_eq hli).trans (at_str (by omega) (SL_at (by omega))))
  show bVs (bV (atE 1 2 _ hp) _) _ = _
  refine (bVs_eq (a := [.str (sg (ds.getD i 0)), .str (sg (ds.getD ((i + k) % 16) 0))]) (hp := hp) ((bV_eq e1).trans ((bVs_eq (a := [.str (sg (ds.getD ((i + k) % 16) 0))]) (hp := hp) ((bV_eq e2).trans rfl)).trans rfl))).trans ?_
  refine bG_eq (p := (sg (ds.getD i 0)).length ≤ 1000 ∧ (sg (ds.getD ((i + k) % 16) 0)).length ≤ 1000) ⟨sg_len (lt _ hi), sg_len (lt _ m)⟩
def tupE (ks : List Nat) : FV := fun ρ hp => some (.ref hp.length, hp ++ [.tuple (ks.map fun (k : Nat) => V.int k)])
theorem items_tuple {hp : Hp} {k : Nat} {vs : List V} (h : hp[k]? = some (.tuple vs)) (m : Nat) : itemAt .tuple hp k m = some vs[m]? := by
  show bT _ _ = _
  rw [h]; rfl
theorem co_comp {fi : FV} {ρ : Rho} {x y : Nat} {ds ks : List Nat} {hp : Hp} {li i : Nat} (hf : fi ρ hp = some (.ref hp.length, hp ++ [.tuple (ks.map fun (k : Nat) => V.int k)])) (hx : getR ρ x = some (.ref li)) (hy : getR ρ y = some (.int i)) (hli : hp[li]? = some (.list (SL ds))) (hl : ds.length = 16) (hd : ∀ d ∈ ds, d < 4) (hi : i < 16) (h9 : ks.length < 9) :
    compF fi coE [x, y] ρ hp = some (.ref (hp.length + 1), hp ++ [.tuple (ks.map fun (k : Nat) => V.int k), .list (IL (ks.map (co ds i)))]) := by
  have hk : (hp ++ [O.tuple (ks.map fun (k : Nat) => V.int k)])[hp.length]? = some (.tuple (ks.map fun (k : Nat) => V.int k)) := look_new hp _ 0
  have h := compF_eq (fi := fi) (elt := coE) (ρ := ρ) (caps := [x, y]) (hp := hp) (kd := .tuple) (us := IL (ks.map (co ds i))) hf (by rw [hk]; rfl) (all2_of (by rw [map_len, List.length_map, List.length_map]) fun m v u e1 e2 => by
    rw [List.getElem?_map] at e1
    obtain ⟨k, hk, rfl⟩ := Option.map_eq_some_iff.mp e1
    rw [List.getElem?_map, List.getElem?_map, hk] at e2
    cases e2
    show coE [some (.int k), getR ρ x, getR ρ y] _ = _
    rw [hx, hy]
    exact co_val (look_at hli) hl hd hi) (items_tuple hk) (by rw [List.length_map]; omega)
  rw [h, List.length_append, List.append_assoc]; rfl
theorem co_turn (B : Bs C) {L : Addr} {cdv : Value} {a0 a1 wr pl x s hour side goal q r cs : Option V} {si fi li hi' i w : Nat} {lo up : List Nat} {hp : Hp} (hli : hp[li]? = some (.list (SL lo))) (hhi : hp[hi']? = some (.list (SL up))) (h1 : lo.length = 16) (h2 : up.length = 16) (d1 : ∀ d ∈ lo, d < 4) (d2 : ∀ d ∈ up, d < 4) (hi : i < 16)
    (he : [co lo i 1, co lo i 2, co lo i 4, co up i 4, co up i 8] = [2, 1, 0, 2, 1]) (hw : w ≤ hp.length) :
    ∃ co' e, Tri C (n + 8) (lwE L cdv) lwN w (stB ((fdB (bd 80))[12]?.getD default)) (flR a0 a1 wr pl x si s hour side goal q r fi (some (.ref li)) (some (.ref hi')) (some (.int i)) cs) hp .next (flR a0 a1 wr pl x si s hour side goal q r fi (some (.ref li)) (some (.ref hi')) (some (.int i)) co') (hp ++ e) := by
  have h_substitution_cost := h_substitution_cost (n := n + 7) B
  obtain ⟨hp1, e1⟩ : ∃ hp1, hp1 = hp ++ [O.tuple ([1, 2, 4].map fun (k : Nat) => V.int k), .list (IL ([1, 2, 4].map (co lo i)))] := ⟨_, rfl⟩
  have w1 : w ≤ hp1.length := by rw [e1, List.length_append]; omega
  have hhi1 : hp1[hi']? = some (.list (SL up)) := by rw [e1]; exact look_at hhi
  have c1 : hp1[hp.length + 1]? = some (.list (IL ([1, 2, 4].map (co lo i)))) := by rw [e1]; exact look_new hp _ 1
  have t0 : Tri1 C (n + 8) (lwE L cdv) lwN w ((stB ((fdB (bd 80))[12]?.getD default))[0]?.getD default) (flR a0 a1 wr pl x si s hour side goal q r fi (some (.ref li)) (some (.ref hi')) (some (.int i)) cs) hp .next (flR a0 a1 wr pl x si s hour side goal q r fi (some (.ref li)) (some (.ref hi')) (some (.int i)) (some (.ref (hp.length + 1)))) hp1 :=
    T_ex (Ex_assignC 16 rfl rfl (caps := [13, 15]) (cns := ["lower", "i"]) ⟨rfl, by decide, by decide, rfl, by decide, by decide, rfl, by decide, (List.forall_mem_cons.mpr ⟨rfl, (List.forall_mem_cons.mpr ⟨rfl, (fun _ h => nomatch h)⟩)⟩), by decide, by decide⟩ (fun _ => rfl) (Ev_tuple (Evs_cons rfl Ev_int (Evs_cons rfl Ev_int (Evs_cons rfl Ev_int Evs_nil)))) (fun _ => (Ev_call ⟨rfl, by decide⟩ B.n_substitution_cost B.k_substitution_cost (Evs_cons rfl (Ev_idx (Ev_var 1 rfl) (Ev_var 2 rfl) fun _ _ => ⟨_, rfl⟩) (Evs_cons rfl (Ev_idx (Ev_var 1 rfl) (Ev_bin (Ev_bin (Ev_var 2 rfl) (Ev_var 0 rfl)) Ev_int) fun _ _ => ⟨_, rfl⟩) Evs_nil)) rfl h_substitution_cost))) (asg_eq (i := 16) (e1 ▸ co_comp (ks := [1, 2, 4]) rfl rfl rfl hli h1 d1 hi (by decide))) hw
  have e2 := co_comp (fi := tupE [4, 8]) (ρ := flR a0 a1 wr pl x si s hour side goal q r fi (some (.ref li)) (some (.ref hi')) (some (.int i)) (some (.ref (hp.length + 1)))) (x := 14) (y := 15) (ks := [4, 8]) rfl rfl rfl hhi1 h2 d2 hi (by decide)
  obtain ⟨hp2, e3⟩ : ∃ hp2, hp2 = hp1 ++ [O.tuple ([4, 8].map fun (k : Nat) => V.int k), .list (IL ([4, 8].map (co up i)))] := ⟨_, rfl⟩
  rw [← e3] at e2
  have c2 : hp2[hp.length + 1]? = some (.list (IL ([1, 2, 4].map (co lo i)))) := by rw [e3]; exact look_at c1
  have c3 : hp2[hp1.length + 1]? = some (.list (IL ([4, 8].map (co up i)))) := by rw [e3]; exact look_new hp1 _ 1
  obtain ⟨hp3, e4⟩ : ∃ hp3, hp3 = hp2.set (hp.length + 1) (.list (IL ([1, 2, 4].map (co lo i)) ++ IL ([4, 8].map (co up i)))) := ⟨_, rfl⟩
  have t1 : Tri1 C (n + 8) (lwE L cdv) lwN w ((stB ((fdB (bd 80))[12]?.getD default))[1]?.getD default) (flR a0 a1 wr pl x si s hour side goal q r fi (some (.ref li)) (some (.ref hi')) (some (.int i)) (some (.ref (hp.length + 1)))) hp1 .next (flR a0 a1 wr pl x si s hour side goal q r fi (some (.ref li)) (some (.ref hi')) (some (.int i)) (some (.ref (hp.length + 1)))) hp3 :=
    T_ex (Ex_expr (Ev_extend (methE rfl rfl) (Ev_var 16 rfl) (Ev_comp (caps := [14, 15]) (cns := ["higher", "i"]) ⟨rfl, by decide, by decide, rfl, by decide, by decide, rfl, by decide, (List.forall_mem_cons.mpr ⟨rfl, (List.forall_mem_cons.mpr ⟨rfl, (fun _ h => nomatch h)⟩)⟩), by decide, by decide⟩ (fun _ => rfl) (Ev_tuple (Evs_cons rfl Ev_int (Evs_cons rfl Ev_int Evs_nil))) (fun _ => (Ev_call ⟨rfl, by decide⟩ B.n_substitution_cost B.k_substitution_cost (Evs_cons rfl (Ev_idx (Ev_var 1 rfl) (Ev_var 2 rfl) fun _ _ => ⟨_, rfl⟩) (Evs_cons rfl (Ev_idx (Ev_var 1 rfl) (Ev_bin (Ev_bin (Ev_var 2 rfl) (Ev_var 0 rfl)) Ev_int) fun _ _ => ⟨_, rfl⟩) Evs_nil)) rfl h_substitution_cost))) rfl) rfl rfl) (e4 ▸ ext_eq c1 e2 c2 c3 (Nat.le_of_ble_eq_true rfl)) w1
  have c4 : hp3[hp.length + 1]? = some (.list (IL [2, 1, 0, 2, 1])) := by
    rw [e4, List.getElem?_set_self (List.getElem?_eq_some_iff.mp c2).1, ← he]; rfl
  have w3 : w ≤ hp3.length := by rw [e4, e3, List.length_set, List.length_append]; omega
  have t2 : Tri1 C (n + 8) (lwE L cdv) lwN w ((stB ((fdB (bd 80))[12]?.getD default))[2]?.getD default) (flR a0 a1 wr pl x si s hour side goal q r fi (some (.ref li)) (some (.ref hi')) (some (.int i)) (some (.ref (hp.length + 1)))) hp3 .next (flR a0 a1 wr pl x si s hour side goal q r fi (some (.ref li)) (some (.ref hi')) (some (.int i)) (some (.ref (hp.length + 1)))) (hp3 ++ [.list (IL [2, 1, 0, 2, 1])]) := by
    refine T_ifF (Tr_cmp rfl (Cmp_ne (Ev_var 16 rfl) (Ev_list (Evs_cons rfl Ev_int (Evs_cons rfl Ev_int (Evs_cons rfl Ev_int (Evs_cons rfl Ev_int (Evs_cons rfl Ev_int Evs_nil)))))))) (b := false) (hp₁ := hp3 ++ [.list (IL [2, 1, 0, 2, 1])]) ?_ rfl w3 T_nil
    refine (bR_eq (i := hp.length + 1) (hp := hp3) rfl).trans ?_
    show bR (some (V.ref hp3.length, hp3 ++ [O.list (IL [2, 1, 0, 2, 1])])) _ = _
    refine (bR_eq (i := hp3.length) (hp := hp3 ++ [.list (IL [2, 1, 0, 2, 1])]) rfl).trans ?_
    refine (bIs_eq (look_at c4)).trans ((bIs_eq (look_new hp3 [.list (IL [2, 1, 0, 2, 1])] 0)).trans rfl)
  refine ⟨some (.ref (hp.length + 1)), [O.tuple ([1, 2, 4].map fun (k : Nat) => V.int k), .list (IL ([1, 2, 4].map (co lo i)) ++ IL ([4, 8].map (co up i))), O.tuple ([4, 8].map fun (k : Nat) => V.int k), .list (IL ([4, 8].map (co up i))), .list (IL [2, 1, 0, 2, 1])], ?_⟩
  have e5 : hp3 ++ [.list (IL [2, 1, 0, 2, 1])] = hp ++ [O.tuple ([1, 2, 4].map fun (k : Nat) => V.int k), .list (IL ([1, 2, 4].map (co lo i)) ++ IL ([4, 8].map (co up i))), O.tuple ([4, 8].map fun (k : Nat) => V.int k), .list (IL ([4, 8].map (co up i))), .list (IL [2, 1, 0, 2, 1])] := by
    rw [e4, e3, e1, List.append_assoc hp, set_new, List.append_assoc]; rfl
  exact e5 ▸ T_cons t0 (T_cons t1 (T_cons t2 T_nil))
theorem co_loop (B : Bs C) {L : Addr} {cdv : Value} {a0 a1 wr pl x s hour side goal q r : Option V} {si fi li hi' w kk : Nat} {lo up : List Nat} (h1 : lo.length = 16) (h2 : up.length = 16) (d1 : ∀ d ∈ lo, d < 4) (d2 : ∀ d ∈ up, d < 4)
    (he : ∀ i, i < 16 → [co lo i 1, co lo i 2, co lo i 4, co up i 4, co up i 8] = [2, 1, 0, 2, 1]) : ∀ (cnt i : Nat) (hp : Hp) (iv cs : Option V), i + cnt = 16 → hp[li]? = some (.list (SL lo)) → hp[hi']? = some (.list (SL up)) → w ≤ hp.length →
    ∃ iv' cs' e, FoR (fun hp j => itemAt (.range 16) hp kk j) (fun _ v ρ => ρ.set 15 (some v)) (fun _ ρ h ρ' h' => Tri C (n + 8) (lwE L cdv) lwN w (stB ((fdB (bd 80))[12]?.getD default)) ρ h .next ρ' h') cnt i (flR a0 a1 wr pl x si s hour side goal q r fi (some (.ref li)) (some (.ref hi')) iv cs) hp (flR a0 a1 wr pl x si s hour side goal q r fi (some (.ref li)) (some (.ref hi')) iv' cs') (hp ++ e)
  | 0, i, hp, iv, cs, hc, hli, hhi, hw => ⟨iv, cs, [], by
      show some (if i < 16 then _ else _) = _ ∧ _
      rw [if_neg (by omega), List.append_nil]; exact ⟨rfl, rfl, rfl⟩⟩
  | cnt + 1, i, hp, iv, cs, hc, hli, hhi, hw => by
    obtain ⟨c', e0, t⟩ := co_turn (n := n) (L := L) (cdv := cdv) (a0 := a0) (a1 := a1) (wr := wr) (pl := pl) (x := x) (s := s) (hour := hour) (side := side) (goal := goal) (q := q) (r := r) (cs := cs) (si := si) (fi := fi) B hli hhi h1 h2 d1 d2 (show i < 16 by omega) (he i (by omega)) hw
    obtain ⟨iv', cs', e, hh⟩ := co_loop B (L := L) (cdv := cdv) (a0 := a0) (a1 := a1) (wr := wr) (pl := pl) (x := x) (s := s) (hour := hour) (side := side) (goal := goal) (q := q) (r := r) (si := si) (fi := fi) (kk := kk) (w := w) h1 h2 d1 d2 he cnt (i + 1) (hp ++ e0) (some (.int i)) c' (by omega) (look_at hli) (look_at hhi) (by rw [List.length_append]; exact Nat.le_trans hw (Nat.le_add_right _ _))
    rw [List.append_assoc] at hh
    exact ⟨iv', cs', _, .int i, _, _, by show some (if i < 16 then _ else _) = _; rw [if_pos (by omega)], t, hh⟩
end
end Mine

open PySem PySem.Calls PySem.W PySem.Spec PyProof.Rows
set_option Elab.async false
set_option autoImplicit false
set_option maxRecDepth 100000
set_option genSizeOf false
set_option genInjectivity false
set_option linter.unusedVariables false
namespace Mine
noncomputable section
variable {C C' : Cx} {n : Nat} {env : Env} {ns : List Str}
/-! law, joined -/
theorem T_forS {w k m : Nat} {kd : KI} {ρ ρ' : Rho} {hp hp1 hp' : Hp} {f : FV} {B : Nat → Rho → Hp → Rho → Hp → Prop} {st : Stmt} {x : Str} {p pos : Pos} {iter : Expr} (hst : st = .For (.Name x p) iter (stB st) [] pos) (i : Nat) (hx : ns[i]? = some x) (hfold : ∀ v, foldedSetIterable iter env v = pure v) (hf : Ev C n env ns iter f) (w' : Nat) (hB : ∀ j ρ hp ρ' hp', B j ρ hp ρ' hp' → Tri C n env ns w' (stB st) ρ hp .next ρ' hp') (e1 : f ρ hp = some (.ref k, hp1)) (ek : kdOf hp1[k]? = some kd) (hw : w ≤ hp.length) (hww : w ≤ w') (hw' : w' ≤ hp1.length) (hk : k < w')
    (e : FoR (fun hp j => itemAt kd hp k j) (fun _ v ρ => ρ.set i (some v)) B m 0 ρ hp1 ρ' hp') : Tri1 C n env ns w st ρ hp .next ρ' hp' := by
  rw [hst]
  exact T_for i hx hfold hf w' hB e1 ek hw hww hw' hk e
def stN (w : List Int) : List Nat := (List.range 16).map (stS w)
/-- what the plain law must tell -/
structure LawOK (l w : List Int) : Prop where
  run : runW ((cells l).foldl symStep [1] ++ [0]) [] = some w
  sym : ((cells l).foldl symStep [1] ++ [0]).length ≤ 100
  len : w.length = 17
  bnd : ∀ k, (w.getD k 0).natAbs < 2 ^ 60
  lan : ∀ x, x < 17 → (w.getD x 0).fmod 32 = ((List.range 5).map (laneV ((cells l).foldl stepP axisL) x)).sum
  ret : stS w 16 = 0
  srt : sortI (statesL w 16) = ints16
  cos : ∀ i, i < 16 → [co ((stN w).map fun d => d % 4) i 1, co ((stN w).map fun d => d % 4) i 2, co ((stN w).map fun d => d % 4) i 4, co ((stN w).map fun d => d / 4) i 4, co ((stN w).map fun d => d / 4) i 8] = [2, 1, 0, 2, 1]
abbrev r17 (sc c wr pl x : Option V) : Rho := [sc, c, wr, pl, x, none, none, none, none, none, none, none, none, none, none, none, none]
theorem T1_forget {st : Stmt} {w : Nat} {ρ r : Rho} {x : Option V} {hp hp' : Hp} {fl : Fl} (h : Tri1 C n env ns w st ρ hp fl (x :: r) hp') : Tri1 C n env ns w st ρ hp fl (none :: r) hp' := fun A s φ hr R H =>
  wpF (h A s φ hr R H) fun _ _ ⟨φ', X, r1⟩ => ⟨φ', ⟨X.S, X.P, X.R.view (fun _ h => h) fun i v hv => by
    cases i with
    | zero => cases hv
    | succ i => exact ⟨v, hv, fun _ h => h⟩, X.H⟩, r1⟩
theorem law_0 (B : Bs C) {L : Addr} {cdv : Value} {a : Addr} {l : List Int} (Sc : Scr C a l) : Tri1 C (n + 1) (lwE L cdv) lwN 0 ((fdB (bd 80))[0]?.getD default) (r17 (some (.val (.ref a))) none none none none) [] .next (r17 none (some (.ref 0)) none none none) [.list (IL (cells l)), .list (IL (pick20 l))] := by
  have h_law_cells := h_law_cells (n := n) B Sc
  have e : cellsF a l [.val (.ref a)] [] = some (.ref 0, [.list (IL (cells l)), .list (IL (pick20 l))]) := onA_eq
  exact T1_forget (x := some (.val (.ref a))) (T_ex (Ex_assign 1 rfl rfl (Ev_call ⟨rfl, by decide⟩ B.n_law_cells B.k_law_cells (Evs_cons rfl (Ev_var 0 rfl) Evs_nil) rfl h_law_cells)) (asg_eq (i := 1) ((bVs_eq (a := [.val (.ref a)]) (hp := []) rfl).trans e)) (Nat.le_of_ble_eq_true rfl))
theorem law_1 (B : Bs C) {L : Addr} {cdv : Value} {q cs w : List Int} (h4 : cs.length = 4) (hl : (cs.foldl symStep [1] ++ [0]).length ≤ 100) (hw : runW (cs.foldl symStep [1] ++ [0]) [] = some w) : Tri1 C (n + 2) (lwE L cdv) lwN 0 ((fdB (bd 80))[1]?.getD default) (r17 none (some (.ref 0)) none none none) [.list (IL cs), .list (IL q)] .next (r17 none (some (.ref 0)) (some (.ref 3)) none none) [.list (IL cs), .list (IL q), .list (IL (cs.foldl symStep [1] ++ [0])), .list (IL w)] := by
  have h_law_symbols := h_law_symbols (n := n + 1) B
  have h_law_worths := h_law_worths (n := n) B
  have e1 : symF [.ref 0] [.list (IL cs), .list (IL q)] = some (.ref 2, [.list (IL cs), .list (IL q), .list (IL (cs.foldl symStep [1] ++ [0]))]) := (bIs_eq (l := cs) rfl).trans (bG_eq h4)
  have e2 : worthsF [.ref 2] [.list (IL cs), .list (IL q), .list (IL (cs.foldl symStep [1] ++ [0]))] = some (.ref 3, [.list (IL cs), .list (IL q), .list (IL (cs.foldl symStep [1] ++ [0])), .list (IL w)]) := (bIs_eq (l := cs.foldl symStep [1] ++ [0]) rfl).trans ((bG_eq hl).trans (by rw [hw]; rfl))
  exact T_ex (Ex_assign 2 rfl rfl (Ev_call ⟨rfl, by decide⟩ B.n_law_worths B.k_law_worths (Evs_cons rfl (Ev_call ⟨rfl, by decide⟩ B.n_law_symbols B.k_law_symbols (Evs_cons rfl (Ev_var 1 rfl) Evs_nil) rfl h_law_symbols) Evs_nil) rfl h_law_worths)) (asg_eq (i := 2) ((bVs_eq (a := [.ref 2]) (hp := [.list (IL cs), .list (IL q), .list (IL (cs.foldl symStep [1] ++ [0]))]) ((bV_eq ((bVs_eq (a := [.ref 0]) (hp := [.list (IL cs), .list (IL q)]) rfl).trans e1)).trans rfl)).trans e2)) (Nat.le_of_ble_eq_true rfl)
theorem law_2 (B : Bs C) {L : Addr} {cdv : Value} {q cs sy w : List Int} (h4 : cs.length = 4) : Tri1 C (n + 2) (lwE L cdv) lwN 0 ((fdB (bd 80))[2]?.getD default) (r17 none (some (.ref 0)) (some (.ref 3)) none none) [.list (IL cs), .list (IL q), .list (IL sy), .list (IL w)] .next (lnR 3 4 none) [.list (IL cs), .list (IL q), .list (IL sy), .list (IL w), .list (IL (cs.foldl stepP axisL))] := by
  have h_law_planes := h_law_planes (n := n) B
  have e1 : planesF [.ref 0] [.list (IL cs), .list (IL q), .list (IL sy), .list (IL w)] = some (.ref 4, [.list (IL cs), .list (IL q), .list (IL sy), .list (IL w), .list (IL (cs.foldl stepP axisL))]) := (bIs_eq (l := cs) rfl).trans (bG_eq h4)
  exact T_ex (Ex_assign 3 rfl rfl (Ev_call ⟨rfl, by decide⟩ B.n_law_planes B.k_law_planes (Evs_cons rfl (Ev_var 1 rfl) Evs_nil) rfl h_law_planes)) (asg_eq (i := 3) ((bVs_eq (a := [.ref 0]) (hp := [.list (IL cs), .list (IL q), .list (IL sy), .list (IL w)]) rfl).trans e1)) (Nat.le_of_ble_eq_true rfl)
theorem law_3 (B : Bs C) {L : Addr} {cdv : Value} {w : Nat} {ws P : List Int} {hp : Hp} (h17 : ws.length = 17) (h5 : P.length = 5) (he : ∀ x, x < 17 → (ws.getD x 0).fmod 32 = ((List.range 5).map (laneV P x)).sum) (h1 : hp[3]? = some (.list (IL ws))) (h2 : hp[4]? = some (.list (IL P))) (hw : w ≤ hp.length) :
    ∃ xv e, Tri1 C n (lwE L cdv) lwN w ((fdB (bd 80))[3]?.getD default) (lnR 3 4 none) hp .next (lnR 3 4 xv) (hp ++ e) := by
  obtain ⟨xv, e, hh⟩ := lane_loop (n := n) (L := L) (cdv := cdv) (kk := hp.length) (w := hp.length + 1) B h17 h5 he 17 0 (hp ++ [.range 17]) none rfl (look_at h1) (look_at h2) (by rw [List.length_append]; exact Nat.le_refl _)
  rw [List.append_assoc] at hh
  refine ⟨xv, _, T_forS (st := ((fdB (bd 80))[3]?.getD default)) (kd := .range 17) (k := hp.length) rfl 4 rfl (fun _ => rfl) (Ev_callT ⟨rfl, by decide⟩ B.n_range boot_range (by decide) (Evs_cons rfl Ev_int Evs_nil) rfl T_range) (hp.length + 1) (B := fun _ ρ h ρ' h' => Tri C n (lwE L cdv) lwN (hp.length + 1) (stB ((fdB (bd 80))[3]?.getD default)) ρ h .next ρ' h') (fun _ _ _ _ _ h => h) (hp1 := hp ++ [.range 17]) rfl ?_ hw (Nat.le_succ_of_le hw) (by rw [List.length_append]; exact Nat.le_refl _) (Nat.lt_succ_self _) hh⟩
  rw [show (hp ++ [O.range 17])[hp.length]? = _ from look_new hp _ 0]; rfl
theorem law_6 (B : Bs C) {L : Addr} {cdv : Value} {w si : Nat} {x : Option V} {ws : List Int} {hp : Hp} (h17 : ws.length = 17) (hb : ∀ k, (ws.getD k 0).natAbs < 2 ^ 60) (h1 : hp[3]? = some (.list (IL ws))) (h2 : hp[si]? = some (.list [])) (hne : 3 ≠ si) (hw : w ≤ hp.length) :
    ∃ hour side goal q r hp', Tri1 C (n + 13) (lwE L cdv) lwN w ((fdB (bd 80))[6]?.getD default) (hrR (some (.ref 3)) (some (.ref 4)) x si 0 none none none none none) hp .next (hrR (some (.ref 3)) (some (.ref 4)) x si (stS ws 16 : Nat) hour side goal q r) hp' ∧ hp'[si]? = some (.list (IL (statesL ws 16))) ∧ w ≤ hp'.length := by
  obtain ⟨hour, side, goal, q, r, hp', hh, a1, a2, a3⟩ := hr_loop (n := n) (L := L) (cdv := cdv) (pl := some (.ref 4)) (x := x) (kk := hp.length) (w := hp.length + 1) B hne h17 hb 16 0 (hp ++ [.range 16]) none none none none none rfl (look_at h1) (look_at h2) (by rw [List.length_append]; exact Nat.le_refl _)
  have hk : (hp ++ [O.range 16])[hp.length]? = some (.range 16) := look_new hp _ 0
  have hlen := (List.getElem?_eq_some_iff.mp (a3 hp.length _ (fun q => by rw [← q, List.getElem?_eq_none_iff.mpr (Nat.le_refl _)] at h2; cases h2) hk)).1
  refine ⟨hour, side, goal, q, r, hp', T_forS (st := ((fdB (bd 80))[6]?.getD default)) (kd := .range 16) (k := hp.length) rfl 7 rfl (fun _ => rfl) (Ev_callT ⟨rfl, by decide⟩ B.n_range boot_range (by decide) (Evs_cons rfl Ev_int Evs_nil) rfl T_range) (hp.length + 1) (B := fun _ ρ h ρ' h' => Tri C (n + 13) (lwE L cdv) lwN (hp.length + 1) (stB ((fdB (bd 80))[6]?.getD default)) ρ h .next ρ' h') (fun _ _ _ _ _ h => h) (hp1 := hp ++ [.range 16]) rfl ?_ hw (Nat.le_succ_of_le hw) (by rw [List.length_append]; exact Nat.le_refl _) (Nat.lt_succ_self _) hh, a2, Nat.le_trans hw (Nat.le_of_lt hlen)⟩
  rw [hk]; rfl
theorem law_12 (B : Bs C) {L : Addr} {cdv : Value} {a0 a1 wr pl x s hour side goal q r : Option V} {si fi li hi' w : Nat} {lo up : List Nat} {hp : Hp} (h1 : lo.length = 16) (h2 : up.length = 16) (d1 : ∀ d ∈ lo, d < 4) (d2 : ∀ d ∈ up, d < 4)
    (he : ∀ i, i < 16 → [co lo i 1, co lo i 2, co lo i 4, co up i 4, co up i 8] = [2, 1, 0, 2, 1]) (hli : hp[li]? = some (.list (SL lo))) (hhi : hp[hi']? = some (.list (SL up))) (hw : w ≤ hp.length) :
    ∃ iv cs e, Tri1 C (n + 8) (lwE L cdv) lwN w ((fdB (bd 80))[12]?.getD default) (flR a0 a1 wr pl x si s hour side goal q r fi (some (.ref li)) (some (.ref hi')) none none) hp .next (flR a0 a1 wr pl x si s hour side goal q r fi (some (.ref li)) (some (.ref hi')) iv cs) (hp ++ e) := by
  obtain ⟨iv, cs, e, hh⟩ := co_loop (n := n) (L := L) (cdv := cdv) (a0 := a0) (a1 := a1) (wr := wr) (pl := pl) (x := x) (s := s) (hour := hour) (side := side) (goal := goal) (q := q) (r := r) (si := si) (fi := fi) (kk := hp.length) (w := hp.length + 1) B h1 h2 d1 d2 he 16 0 (hp ++ [.range 16]) none none rfl (look_at hli) (look_at hhi) (by rw [List.length_append]; exact Nat.le_refl _)
  rw [List.append_assoc] at hh
  have hk : (hp ++ [O.range 16])[hp.length]? = some (.range 16) := look_new hp _ 0
  refine ⟨iv, cs, _, T_forS (st := ((fdB (bd 80))[12]?.getD default)) (kd := .range 16) (k := hp.length) rfl 15 rfl (fun _ => rfl) (Ev_callT ⟨rfl, by decide⟩ B.n_range boot_range (by decide) (Evs_cons rfl Ev_int Evs_nil) rfl T_range) (hp.length + 1) (B := fun _ ρ h ρ' h' => Tri C (n + 8) (lwE L cdv) lwN (hp.length + 1) (stB ((fdB (bd 80))[12]?.getD default)) ρ h .next ρ' h') (fun _ _ _ _ _ h => h) (hp1 := hp ++ [.range 16]) rfl ?_ hw (Nat.le_succ_of_le hw) (by rw [List.length_append]; exact Nat.le_refl _) (Nat.lt_succ_self _) hh⟩
  rw [hk]; rfl
end
end Mine

open PySem PySem.Calls PySem.W PySem.Spec PyProof.Rows
set_option Elab.async false
set_option autoImplicit false
set_option maxRecDepth 100000
set_option genSizeOf false
set_option genInjectivity false
set_option linter.unusedVariables false
namespace Mine
noncomputable section
variable {C C' : Cx} {n : Nat} {env : Env} {ns : List Str}
theorem le_app {w : Nat} {hp e : Hp} (h : w ≤ hp.length) : w ≤ (hp ++ e).length := by rw [List.length_append]; exact Nat.le_trans h (Nat.le_add_right _ _)
theorem stN_lt {w : List Int} : ∀ d ∈ stN w, d < 16 := fun d hd => by obtain ⟨a, _, rfl⟩ := List.mem_map.mp hd; exact stS_lt w a
theorem stN_len {w : List Int} : (stN w).length = 16 := by rw [stN, List.length_map, List.length_range]
theorem law_bd (B : Bs C) {L : Addr} {cdv : Value} {a : Addr} {l w : List Int} (Sc : Scr C a l) (K : LawOK l w) : ∃ hp', Bd C (n + 13) (lwE L cdv) lwN (fdB (bd 80)) (argR lwN ["script"] [.val (.ref a)]) [] (.bool true) hp' := by
  obtain ⟨hp4, e4⟩ : ∃ hp4, hp4 = [O.list (IL (cells l)), .list (IL (pick20 l)), .list (IL ((cells l).foldl symStep [1] ++ [0])), .list (IL w), .list (IL ((cells l).foldl stepP axisL))] := ⟨_, rfl⟩
  have t0 := law_0 (n := n + 12) (L := L) (cdv := cdv) B Sc
  have t1 := law_1 (n := n + 11) (L := L) (cdv := cdv) (q := pick20 l) B (cells_len l) K.sym K.run
  have t2 := law_2 (n := n + 11) (L := L) (cdv := cdv) (q := pick20 l) (sy := (cells l).foldl symStep [1] ++ [0]) (w := w) B (cells_len l)
  rw [← e4] at t2
  have w4 : 5 ≤ hp4.length := by rw [e4]; exact Nat.le_refl _
  obtain ⟨xv, e3, t3⟩ := law_3 (n := n + 13) (L := L) (cdv := cdv) (w := 0) (hp := hp4) B K.len (foldP_len _ _ rfl) K.lan (by rw [e4]; rfl) (by rw [e4]; rfl) (by omega)
  obtain ⟨hp5, e5⟩ : ∃ hp5, hp5 = hp4 ++ e3 := ⟨_, rfl⟩
  rw [← e5] at t3
  have w5 : 5 ≤ hp5.length := by rw [e5]; exact le_app w4
  have t4 : Tri1 C (n + 13) (lwE L cdv) lwN 0 ((fdB (bd 80))[4]?.getD default) (lnR 3 4 xv) hp5 .next ((lnR 3 4 xv).set 5 (some (.ref hp5.length))) (hp5 ++ [.list []]) := T_ex (Ex_assign 5 rfl rfl (Ev_list Evs_nil)) (asg_eq (i := 5) rfl) (by omega)
  have t5 : Tri1 C (n + 13) (lwE L cdv) lwN 0 ((fdB (bd 80))[5]?.getD default) ((lnR 3 4 xv).set 5 (some (.ref hp5.length))) (hp5 ++ [.list []]) .next (hrR (some (.ref 3)) (some (.ref 4)) xv hp5.length 0 none none none none none) (hp5 ++ [.list []]) := T_ex (Ex_assign 6 rfl rfl Ev_int) (asg_eq (i := 6) rfl) (le_app (by omega))
  obtain ⟨hour, side, goal, q, r, hp6, t6, a6, w6⟩ := law_6 (n := n) (L := L) (cdv := cdv) (w := 0) (si := hp5.length) (x := xv) (hp := hp5 ++ [.list []]) B K.len K.bnd (by rw [e5, e4]; rfl) (look_new hp5 [.list []] 0) (by omega) (le_app (by omega))
  rw [show ((stS w 16 : Nat) : Int) = 0 by rw [K.ret]; rfl] at t6
  have t7 := law_7 (n := n + 5) (L := L) (cdv := cdv) (wr := some (.ref 3)) (pl := some (.ref 4)) (x := xv) (hour := hour) (side := side) (goal := goal) (q := q) (r := r) B a6 (by rw [statesL, List.length_map, List.length_range]) K.srt w6
  obtain ⟨hp7, e7⟩ : ∃ hp7, hp7 = hp6 ++ [O.list (IL ints16), .range 16, .list (IL ints16)] := ⟨_, rfl⟩
  rw [← e7] at t7
  have w7 : 0 ≤ hp7.length := by rw [e7]; exact le_app w6
  have es : statesL w 16 = (stN w).map fun (d : Nat) => (d : Int) := by rw [statesL, stN, List.map_map]; rfl
  have a7 : hp7[hp5.length]? = some (.list (IL ((stN w).map fun (d : Nat) => (d : Int)))) := by rw [e7, ← es]; exact look_at a6
  have t8 := law_8 (n := n + 4) (L := L) (cdv := cdv) (wr := some (.ref 3)) (pl := some (.ref 4)) (x := xv) (hour := hour) (side := side) (goal := goal) (q := q) (r := r) (s := 0) B a7 stN_len stN_lt w7
  obtain ⟨hp8, e8⟩ : ∃ hp8, hp8 = hp7 ++ [O.list [.int 1], .list (IL ((stN w).map (fun (d : Nat) => (d : Int)) ++ [1])), .list (IL (figN (stN w)))] := ⟨_, rfl⟩
  rw [← e8] at t8
  have w8 : 0 ≤ hp8.length := by rw [e8]; exact le_app w7
  have f8 : hp8[hp7.length + 2]? = some (.list (IL (figN (stN w)))) := by rw [e8]; exact look_new hp7 _ 2
  have a8 : hp8[hp5.length]? = some (.list (IL ((stN w).map fun (d : Nat) => (d : Int)))) := by rw [e8]; exact look_at a7
  obtain ⟨z9, t9⟩ := law_9 (n := n + 5) (L := L) (cdv := cdv) (a0 := none) (a1 := some (.ref 0)) (wr := some (.ref 3)) (pl := some (.ref 4)) (x := xv) (s := some (.int 0)) (hour := hour) (side := side) (goal := goal) (q := q) (r := r) (lo := none) (hi := none) (i := none) (co := none) B a8 stN_len f8 w8
  obtain ⟨hp9, e9⟩ : ∃ hp9, hp9 = hp8 ++ z9 := ⟨_, rfl⟩
  rw [← e9] at t9
  have w9 : 0 ≤ hp9.length := by rw [e9]; exact le_app w8
  have f9 : hp9[hp7.length + 2]? = some (.list (IL (figN (stN w)))) := by rw [e9]; exact look_at f8
  have t10 := law_10 (n := n + 13) (L := L) (cdv := cdv) (a0 := none) (a1 := some (.ref 0)) (wr := some (.ref 3)) (pl := some (.ref 4)) (x := xv) (s := some (.int 0)) (hour := hour) (side := side) (goal := goal) (q := q) (r := r) (si := hp5.length) (lo := none) (hi := none) (i := none) (co := none) B stN_len f9 w9
  obtain ⟨hp10, e10⟩ : ∃ hp10, hp10 = hp9 ++ [O.list (IL (((stN w).map fun d : Nat => d % 4).map fun (d : Nat) => (d : Int))), .list (SL ((stN w).map fun d : Nat => d % 4))] := ⟨_, rfl⟩
  rw [← e10] at t10
  have w10 : 0 ≤ hp10.length := by rw [e10]; exact le_app w9
  have f10 : hp10[hp7.length + 2]? = some (.list (IL (figN (stN w)))) := by rw [e10]; exact look_at f9
  have l10 : hp10[hp9.length + 1]? = some (.list (SL ((stN w).map fun d : Nat => d % 4))) := by rw [e10]; exact look_new hp9 _ 1
  have t11 := law_11 (n := n + 13) (L := L) (cdv := cdv) (a0 := none) (a1 := some (.ref 0)) (wr := some (.ref 3)) (pl := some (.ref 4)) (x := xv) (s := some (.int 0)) (hour := hour) (side := side) (goal := goal) (q := q) (r := r) (si := hp5.length) (lo := some (.ref (hp9.length + 1))) (hi := none) (i := none) (co := none) B stN_len stN_lt f10 w10
  obtain ⟨hp11, e11⟩ : ∃ hp11, hp11 = hp10 ++ [O.list (IL (((stN w).map fun d : Nat => d / 4).map fun (d : Nat) => (d : Int))), .list (SL ((stN w).map fun d : Nat => d / 4))] := ⟨_, rfl⟩
  rw [← e11] at t11
  have w11 : 0 ≤ hp11.length := by rw [e11]; exact le_app w10
  have l11 : hp11[hp9.length + 1]? = some (.list (SL ((stN w).map fun d : Nat => d % 4))) := by rw [e11]; exact look_at l10
  have u11 : hp11[hp10.length + 1]? = some (.list (SL ((stN w).map fun d : Nat => d / 4))) := by rw [e11]; exact look_new hp10 _ 1
  obtain ⟨iv, cs, z12, t12⟩ := law_12 (n := n + 5) (L := L) (cdv := cdv) (a0 := none) (a1 := some (.ref 0)) (wr := some (.ref 3)) (pl := some (.ref 4)) (x := xv) (s := some (.int 0)) (hour := hour) (side := side) (goal := goal) (q := q) (r := r) (si := hp5.length) (fi := hp7.length + 2) B (by rw [List.length_map, stN_len]) (by rw [List.length_map, stN_len]) (fun d hd => by obtain ⟨a, _, rfl⟩ := List.mem_map.mp hd; omega) (fun d hd => by obtain ⟨a, ha, rfl⟩ := List.mem_map.mp hd; have := stN_lt a ha; omega) K.cos l11 u11 w11
  have w12 : 0 ≤ (hp11 ++ z12).length := le_app w11
  exact ⟨hp11 ++ z12, .ret (.bool true), _, T_cons t0 (T_cons t1 (T_cons t2 (T_cons t3 (T_cons t4 (T_cons t5 (T_cons t6 (T_cons t7 (T_cons t8 (T_cons t9 (T_cons t10 (T_cons t11 (T_cons t12 (T_consR (T_ex (Ex_ret Ev_bool) rfl w12)))))))))))))), FlR.ret⟩
theorem cl_law (B : Bs C) {a : Addr} {l w : List Int} (Sc : Scr C a l) (K : LawOK l w) (s : Shared) : ∃ hp', ClAt C (n + 14) (.ref 165) [.val (.ref a)] [] (.bool true) hp' s := by
  obtain ⟨cdv, h⟩ := B.b_law
  obtain ⟨hp', hb⟩ := law_bd (n := n) (L := s.heap.objs.size) (cdv := cdv) B Sc K
  exact ⟨hp', ClAt_def (ns := ["script", "cells", "worths", "planes", "x", "states", "state", "hour", "side", "goal", "quotient", "rest", "figures", "lower", "higher", "i", "costs"]) h ⟨rfl, rfl, rfl, by decide, rfl, by decide, by decide, by decide⟩ rfl hb⟩
end
end Mine

open PySem PySem.Calls PySem.W PySem.Spec PyProof.Rows
set_option Elab.async false
set_option autoImplicit false
set_option maxRecDepth 100000
set_option linter.unusedVariables false
namespace Mine
noncomputable section
/-! the plain law: bits -/
def bits : Nat → Int → List Bool
  | 0, _ => []
  | n + 1, a => (a % 2 == 1) :: bits n (a / 2)
theorem bits_len : ∀ (n : Nat) (a : Int), (bits n a).length = n
  | 0, _ => rfl
  | n + 1, a => congrArg Nat.succ (bits_len n _)
theorem one_cases (a : Int) : (a % 2 = 0 ∧ (a % 2 == 1) = false) ∨ (a % 2 = 1 ∧ (a % 2 == 1) = true) := by
  rcases Int.emod_two_eq a with h | h <;> rw [h]
  · exact .inl ⟨rfl, rfl⟩
  · exact .inr ⟨rfl, rfl⟩
theorem and_half (a b : Int) : Builtin.bitAnd a b / 2 = Builtin.bitAnd (a / 2) (b / 2) ∧ (Builtin.bitAnd a b % 2 == 1) = ((a % 2 == 1) && (b % 2 == 1)) := by
  have h := kbt_halves a b
  rcases one_cases a with ⟨h1, e1⟩ | ⟨h1, e1⟩ <;> rcases one_cases b with ⟨h2, e2⟩ | ⟨h2, e2⟩ <;> rw [e1, e2] <;> rw [h1, h2] at h
  · rw [if_neg (by decide)] at h; exact ⟨by omega, by rw [show Builtin.bitAnd a b % 2 = 0 by omega]; rfl⟩
  · rw [if_neg (by decide)] at h; exact ⟨by omega, by rw [show Builtin.bitAnd a b % 2 = 0 by omega]; rfl⟩
  · rw [if_neg (by decide)] at h; exact ⟨by omega, by rw [show Builtin.bitAnd a b % 2 = 0 by omega]; rfl⟩
  · rw [if_pos (by decide)] at h; exact ⟨by omega, by rw [show Builtin.bitAnd a b % 2 = 1 by omega]; rfl⟩
theorem or_half (a b : Int) : Builtin.bitOr a b / 2 = Builtin.bitOr (a / 2) (b / 2) ∧ (Builtin.bitOr a b % 2 == 1) = ((a % 2 == 1) || (b % 2 == 1)) := by
  have h := kbt_halves a b
  rw [bitOr_and a b, bitOr_and (a / 2) (b / 2)]
  rcases one_cases a with ⟨h1, e1⟩ | ⟨h1, e1⟩ <;> rcases one_cases b with ⟨h2, e2⟩ | ⟨h2, e2⟩ <;> rw [e1, e2] <;> rw [h1, h2] at h
  · rw [if_neg (by decide)] at h; exact ⟨by omega, by rw [show (a + b - Builtin.bitAnd a b) % 2 = 0 by omega]; rfl⟩
  · rw [if_neg (by decide)] at h; exact ⟨by omega, by rw [show (a + b - Builtin.bitAnd a b) % 2 = 1 by omega]; rfl⟩
  · rw [if_neg (by decide)] at h; exact ⟨by omega, by rw [show (a + b - Builtin.bitAnd a b) % 2 = 1 by omega]; rfl⟩
  · rw [if_pos (by decide)] at h; exact ⟨by omega, by rw [show (a + b - Builtin.bitAnd a b) % 2 = 1 by omega]; rfl⟩
theorem xor_half (a b : Int) : Builtin.bitXor a b / 2 = Builtin.bitXor (a / 2) (b / 2) ∧ (Builtin.bitXor a b % 2 == 1) = ((a % 2 == 1) ^^ (b % 2 == 1)) := by
  have h := kbt_halves a b
  rw [bitXor_and a b, bitXor_and (a / 2) (b / 2)]
  rcases one_cases a with ⟨h1, e1⟩ | ⟨h1, e1⟩ <;> rcases one_cases b with ⟨h2, e2⟩ | ⟨h2, e2⟩ <;> rw [e1, e2] <;> rw [h1, h2] at h
  · rw [if_neg (by decide)] at h; exact ⟨by omega, by rw [show (a + b - 2 * Builtin.bitAnd a b) % 2 = 0 by omega]; rfl⟩
  · rw [if_neg (by decide)] at h; exact ⟨by omega, by rw [show (a + b - 2 * Builtin.bitAnd a b) % 2 = 1 by omega]; rfl⟩
  · rw [if_neg (by decide)] at h; exact ⟨by omega, by rw [show (a + b - 2 * Builtin.bitAnd a b) % 2 = 1 by omega]; rfl⟩
  · rw [if_pos (by decide)] at h; exact ⟨by omega, by rw [show (a + b - 2 * Builtin.bitAnd a b) % 2 = 0 by omega]; rfl⟩
theorem not_half (a : Int) : Builtin.bitNot a / 2 = Builtin.bitNot (a / 2) ∧ (Builtin.bitNot a % 2 == 1) = !(a % 2 == 1) := by
  unfold Builtin.bitNot
  rcases one_cases a with ⟨h1, e1⟩ | ⟨h1, e1⟩ <;> rw [e1]
  · exact ⟨by omega, by rw [show (-a - 1) % 2 = 1 by omega]; rfl⟩
  · exact ⟨by omega, by rw [show (-a - 1) % 2 = 0 by omega]; rfl⟩
theorem bits_and : ∀ (n : Nat) (a b : Int), bits n (Builtin.bitAnd a b) = List.zipWith and (bits n a) (bits n b)
  | 0, _, _ => rfl
  | n + 1, a, b => by rw [bits, (and_half a b).1, (and_half a b).2, bits_and n]; rfl
theorem bits_or : ∀ (n : Nat) (a b : Int), bits n (Builtin.bitOr a b) = List.zipWith or (bits n a) (bits n b)
  | 0, _, _ => rfl
  | n + 1, a, b => by rw [bits, (or_half a b).1, (or_half a b).2, bits_or n]; rfl
theorem bits_xor : ∀ (n : Nat) (a b : Int), bits n (Builtin.bitXor a b) = List.zipWith xor (bits n a) (bits n b)
  | 0, _, _ => rfl
  | n + 1, a, b => by rw [bits, (xor_half a b).1, (xor_half a b).2, bits_xor n]; rfl
theorem bits_not : ∀ (n : Nat) (a : Int), bits n (Builtin.bitNot a) = (bits n a).map not
  | 0, _ => rfl
  | n + 1, a => by rw [bits, (not_half a).1, (not_half a).2, bits_not n]; rfl
/-- adding by hand, with carries -/
def addB (c : Bool) : List Bool → List Bool → List Bool
  | p :: l, q :: r => ((p ^^ q) ^^ c) :: addB ((p && q) || (c && (p ^^ q))) l r
  | _, _ => []
def b2i (b : Bool) : Int := if b then 1 else 0
theorem bits_add : ∀ (n : Nat) (a b : Int) (c : Bool), bits n (a + b + b2i c) = addB c (bits n a) (bits n b)
  | 0, _, _, _ => rfl
  | n + 1, a, b, c => by
    rw [bits, bits, bits, addB, ← bits_add n]
    rcases one_cases a with ⟨h1, e1⟩ | ⟨h1, e1⟩ <;> rcases one_cases b with ⟨h2, e2⟩ | ⟨h2, e2⟩ <;> cases c <;> rw [e1, e2] <;> simp only [b2i, Bool.false_eq_true, if_false, if_true, Bool.xor_false, Bool.xor_true, Bool.and_false, Bool.and_true, Bool.false_and, Bool.true_and, Bool.or_false, Bool.or_true, Bool.not_true, Bool.not_false] <;> congr 1 <;> first | (congr 1; omega) | (rw [beq_eq_false_iff_ne]; omega) | (rw [beq_iff_eq]; omega)
theorem bits_add0 (n : Nat) (a b : Int) : bits n (a + b) = addB false (bits n a) (bits n b) := by
  have := bits_add n a b false
  rw [b2i, if_neg (by decide), Int.add_zero] at this
  exact this
theorem bits_sub (n : Nat) (a b : Int) : bits n (a - b) = (addB false ((bits n a).map not) (bits n b)).map not := by
  rw [← bits_not, ← bits_add0, ← bits_not]
  congr 1
  unfold Builtin.bitNot
  omega
theorem two_pow_succ (n : Nat) : (2 : Int) ^ (n + 1) = 2 * 2 ^ n := by rw [Int.pow_succ]; omega
theorem two_pow_pos (n : Nat) : 0 < (2 : Int) ^ n := by
  induction n with
  | zero => decide
  | succ n ih => rw [two_pow_succ]; omega
theorem emod_step (a M : Int) (hM : 0 < M) : a % (2 * M) = 2 * (a / 2 % M) + a % 2 := by
  have h1 : a / 2 = M * (a / 2 / M) + a / 2 % M := (Int.mul_ediv_add_emod _ _).symm
  have h2 := Int.emod_nonneg (a / 2) (Int.ne_of_gt hM)
  have h3 := Int.emod_lt_of_pos (a / 2) hM
  have h4 : a = 2 * (a / 2 % M) + a % 2 + 2 * M * (a / 2 / M) := by rw [Int.mul_assoc]; omega
  have h5 := congrArg (· % (2 * M)) h4
  simp only [Int.add_mul_emod_self_left] at h5
  rw [h5]
  exact Int.emod_eq_of_lt (by omega) (by omega)
theorem bits_iff : ∀ (n : Nat) (a b : Int), bits n a = bits n b ↔ a % 2 ^ n = b % 2 ^ n
  | 0, a, b => by simp [bits, Int.emod_one]
  | n + 1, a, b => by
    rw [two_pow_succ, emod_step a _ (two_pow_pos n), emod_step b _ (two_pow_pos n), bits, bits, List.cons.injEq, bits_iff n]
    rcases one_cases a with ⟨h1, e1⟩ | ⟨h1, e1⟩ <;> rcases one_cases b with ⟨h2, e2⟩ | ⟨h2, e2⟩ <;> rw [e1, e2, h1, h2] <;> simp <;> omega
theorem bits_mul (n : Nat) {a a' b b' : Int} (h1 : bits n a = bits n a') (h2 : bits n b = bits n b') : bits n (a * b) = bits n (a' * b') := by
  rw [bits_iff] at *
  rw [Int.mul_emod, h1, h2, ← Int.mul_emod]
end
end Mine

open PySem PySem.Calls PySem.W PySem.Spec PyProof.Rows
set_option Elab.async false
set_option autoImplicit false
set_option maxRecDepth 100000
set_option linter.unusedVariables false
namespace Mine
noncomputable section
/-! the plain law: the formula, on ints, and its lanes -/
def opnd (c x : Int) : Int := match (c.fdiv 6).fmod 3 != 0 with
  | true => (c.fdiv 72).fmod 32
  | false => x
def opI (k a b : Int) : Int := match k with
  | .ofNat 0 => a + b
  | .ofNat 1 => a - b
  | .ofNat 2 => a * b
  | .ofNat 3 => Builtin.bitAnd a b
  | .ofNat 4 => Builtin.bitOr a b
  | _ => Builtin.bitXor a b
def tilI (c a : Int) : Int := match (c.fdiv 36).fmod 2 == 1 with
  | true => Builtin.bitNot a
  | false => a
def sidI (c g p : Int) : Int := if (c.fdiv 18).fmod 2 == 1 then p else g
def stepI (x g c : Int) : Int := tilI c (opI (c.fmod 6) (sidI c g (opnd c x)) (sidI c (opnd c x) g))
def mulSB (l r acc : List Bool) (k : Nat) : List Bool := addB false acc (List.replicate k false ++ (l.take (5 - k)).map fun p => p && r.getD k false)
def mulB (l r : List Bool) : List Bool := (List.range 5).foldl (mulSB l r) (List.replicate 5 false)
def opB (k : Int) (l r : List Bool) : List Bool := match k with
  | .ofNat 0 => addB false l r
  | .ofNat 1 => (addB false (l.map not) r).map not
  | .ofNat 2 => mulB l r
  | .ofNat 3 => List.zipWith and l r
  | .ofNat 4 => List.zipWith or l r
  | _ => List.zipWith xor l r
def tilB (c : Int) (l : List Bool) : List Bool := match (c.fdiv 36).fmod 2 == 1 with
  | true => l.map not
  | false => l
/-! a lane of the planes -/
def bb (p : Int) (x : Nat) : Bool := p / 2 ^ x % 2 == 1
theorem bb_zero (p : Int) : bb p 0 = (p % 2 == 1) := by rw [bb, Int.pow_zero, Int.ediv_one]
theorem bb_succ (p : Int) (x : Nat) : bb p (x + 1) = bb (p / 2) x := by rw [bb, bb, two_pow_succ, Int.ediv_ediv, if_neg (by omega), Int.sub_zero]
theorem bb_and : ∀ (x : Nat) (p q : Int), bb (Builtin.bitAnd p q) x = (bb p x && bb q x)
  | 0, p, q => by rw [bb_zero, bb_zero, bb_zero, (and_half p q).2]
  | x + 1, p, q => by rw [bb_succ, bb_succ, bb_succ, (and_half p q).1, bb_and x]
theorem bb_or : ∀ (x : Nat) (p q : Int), bb (Builtin.bitOr p q) x = (bb p x || bb q x)
  | 0, p, q => by rw [bb_zero, bb_zero, bb_zero, (or_half p q).2]
  | x + 1, p, q => by rw [bb_succ, bb_succ, bb_succ, (or_half p q).1, bb_or x]
theorem bb_xor : ∀ (x : Nat) (p q : Int), bb (Builtin.bitXor p q) x = (bb p x ^^ bb q x)
  | 0, p, q => by rw [bb_zero, bb_zero, bb_zero, (xor_half p q).2]
  | x + 1, p, q => by rw [bb_succ, bb_succ, bb_succ, (xor_half p q).1, bb_xor x]
theorem bb_not : ∀ (x : Nat) (p : Int), bb (Builtin.bitNot p) x = !bb p x
  | 0, p => by rw [bb_zero, bb_zero, (not_half p).2]
  | x + 1, p => by rw [bb_succ, bb_succ, (not_half p).1, bb_not x]
theorem bb_high : ∀ (x m : Nat) (q : Int), bb (2 ^ (x + m + 1) + q) x = bb q x
  | 0, m, q => by rw [bb_zero, bb_zero, two_pow_succ, show (2 * 2 ^ (0 + m) + q) % 2 = q % 2 by omega]
  | x + 1, m, q => by rw [bb_succ, bb_succ, show x + 1 + m + 1 = (x + m + 1) + 1 by omega, two_pow_succ, show (2 * 2 ^ (x + m + 1) + q) / 2 = 2 ^ (x + m + 1) + q / 2 by omega, bb_high x]
theorem bb_full {x : Nat} (h : x < 17) (p : Int) : bb (131071 - p) x = !bb p x := by
  rw [← bb_not, ← bb_high x (16 - x) (Builtin.bitNot p), show x + (16 - x) + 1 = 17 by omega]
  congr 1
  unfold Builtin.bitNot
  omega
def lb (l : List Int) (x : Nat) : List Bool := l.map fun p => bb p x
theorem bb_0 (x : Nat) : bb 0 x = false := by rw [bb, Int.zero_ediv]; rfl
theorem lb_add (x : Nat) : ∀ (l r : List Int) (c : Int), lb (addL c l r) x = addB (bb c x) (lb l x) (lb r x)
  | p :: l, q :: r, c => by
    rw [addL]
    show bb _ x :: lb (addL _ l r) x = (bb p x ^^ bb q x ^^ bb c x) :: addB _ _ _
    rw [lb_add x l r, bb_xor, bb_xor, bb_or, bb_and, bb_and, bb_xor]; rfl
  | [], _, _ => rfl
  | _ :: _, [], _ => rfl
theorem lb_not {x : Nat} (h : x < 17) (l : List Int) : lb (notL l) x = (lb l x).map not := by
  rw [notL, lb, lb, List.map_map, List.map_map]
  exact List.map_congr_left fun p _ => bb_full h p
theorem lb_zip {f : Int → Int → Int} {g : Bool → Bool → Bool} {x : Nat} (h : ∀ p q, bb (f p q) x = g (bb p x) (bb q x)) : ∀ l r : List Int, lb (List.zipWith f l r) x = List.zipWith g (lb l x) (lb r x)
  | p :: l, q :: r => by
    show bb (f p q) x :: lb (List.zipWith f l r) x = _
    rw [h, lb_zip h l r]; rfl
  | [], _ => rfl
  | _ :: _, [] => rfl
theorem lb_getD (r : List Int) (k x : Nat) : (lb r x).getD k false = bb (r.getD k 0) x := by
  rw [List.getD_eq_getElem?_getD, List.getD_eq_getElem?_getD, lb, List.getElem?_map]
  cases r[k]? with
  | none => exact (bb_0 x).symm
  | some p => rfl
theorem lb_mulS (x : Nat) (l r acc : List Int) (k : Nat) : lb (mulS l r acc k) x = mulSB (lb l x) (lb r x) (lb acc x) k := by
  rw [mulS, lb_add, mulSB, bb_0, lb_getD]
  congr 1
  rw [lb, List.map_append, List.map_replicate, bb_0, lb, ← List.map_take, List.map_map, List.map_map]
  congr 1
  exact List.map_congr_left fun p _ => bb_and x p _
theorem lb_fold (x : Nat) (l r : List Int) : ∀ (ks : List Nat) (acc : List Int), lb (ks.foldl (mulS l r) acc) x = ks.foldl (mulSB (lb l x) (lb r x)) (lb acc x)
  | [], _ => rfl
  | k :: ks, acc => by rw [List.foldl_cons, List.foldl_cons, lb_fold x l r ks, lb_mulS]
theorem lb_mul (x : Nat) (l r : List Int) : lb (mulP l r) x = mulB (lb l x) (lb r x) := by
  rw [mulP, lb_fold, mulB]
  congr 1
  rw [lb, List.map_replicate, bb_0]
theorem lb_op {x : Nat} (h : x < 17) : ∀ (k : Int) (l r : List Int), lb (opP k l r) x = opB k (lb l x) (lb r x)
  | .ofNat 0, l, r => by show lb (addL 0 l r) x = addB false _ _; rw [lb_add, bb_0]
  | .ofNat 1, l, r => by show lb (notL (addL 0 (notL l) r)) x = (addB false (List.map not _) _).map not; rw [lb_not h, lb_add, bb_0, lb_not h]
  | .ofNat 2, l, r => lb_mul x l r
  | .ofNat 3, l, r => lb_zip (bb_and x) l r
  | .ofNat 4, l, r => lb_zip (bb_or x) l r
  | .ofNat (n + 5), l, r => lb_zip (bb_xor x) l r
  | .negSucc _, l, r => lb_zip (bb_xor x) l r
theorem lb_til {x : Nat} (h : x < 17) (c : Int) (l : List Int) : lb (tilP c l) x = tilB c (lb l x) := by
  unfold tilP tilB
  generalize ((c.fdiv 36).fmod 2 == 1) = t
  cases t with
  | true => exact lb_not h l
  | false => rfl
/-! the formula's low bits -/
theorem bits_take : ∀ (n m : Nat) (a : Int), (bits (n + m) a).take n = bits n a
  | 0, _, _ => rfl
  | n + 1, m, a => by rw [Nat.add_right_comm, bits, bits, List.take_succ_cons, bits_take n]
theorem bits_shift : ∀ (k m : Nat) (a : Int), bits (k + m) (2 ^ k * a) = List.replicate k false ++ bits m a
  | 0, m, a => by rw [Nat.zero_add, Int.pow_zero, Int.one_mul]; rfl
  | k + 1, m, a => by
    have e : (2 : Int) ^ (k + 1) * a = 2 * (2 ^ k * a) := by rw [two_pow_succ, Int.mul_assoc]
    rw [Nat.add_right_comm, bits, e, show (2 * (2 ^ k * a)) / 2 = 2 ^ k * a by omega, show (2 * (2 ^ k * a)) % 2 = 0 by omega, bits_shift k, List.replicate_succ]; rfl
theorem bits_0 : ∀ n : Nat, bits n 0 = List.replicate n false
  | 0 => rfl
  | n + 1 => by rw [bits, List.replicate_succ, show (0 : Int) / 2 = 0 from rfl, bits_0 n]; rfl
theorem bits_and1 (n : Nat) (a : Int) (t : Bool) : (bits n a).map (fun p => p && t) = bits n (a * b2i t) := by
  cases t with
  | true => rw [show a * b2i true = a from Int.mul_one a]; simp
  | false =>
    rw [show a * b2i false = 0 from Int.mul_zero a, bits_0]
    apply List.ext_getElem?
    intro i
    rw [List.getElem?_map, List.getElem?_replicate]
    by_cases h : i < n
    · rw [if_pos h, List.getElem?_eq_getElem (by rw [bits_len]; exact h)]; simp
    · rw [if_neg h, List.getElem?_eq_none_iff.mpr (by rw [bits_len]; omega)]; rfl
theorem mulS_bits (a acc : Int) (r : List Bool) {k : Nat} (hk : k < 5) : mulSB (bits 5 a) r (bits 5 acc) k = bits 5 (acc + a * (2 ^ k * b2i (r.getD k false))) := by
  rw [mulSB, bits_add0]
  congr 1
  have e : a * (2 ^ k * b2i (r.getD k false)) = 2 ^ k * (a * b2i (r.getD k false)) := Int.mul_left_comm ..
  have h5 : bits 5 a = bits (5 - k + k) a := by rw [Nat.sub_add_cancel (Nat.le_of_lt hk)]
  have h6 : bits 5 (2 ^ k * (a * b2i (r.getD k false))) = bits (k + (5 - k)) (2 ^ k * (a * b2i (r.getD k false))) := by rw [Nat.add_sub_cancel' (Nat.le_of_lt hk)]
  rw [e, h5, bits_take, h6, bits_shift, bits_and1]
theorem b2i_bit (a : Int) : b2i (a % 2 == 1) = a % 2 := by
  rcases one_cases a with ⟨h, e⟩ | ⟨h, e⟩ <;> rw [e, h] <;> rfl
theorem mul_bits (a b : Int) : bits 5 (a * b) = mulB (bits 5 a) (bits 5 b) := by
  have e : mulB (bits 5 a) (bits 5 b) = mulSB (bits 5 a) (bits 5 b) (mulSB (bits 5 a) (bits 5 b) (mulSB (bits 5 a) (bits 5 b) (mulSB (bits 5 a) (bits 5 b) (mulSB (bits 5 a) (bits 5 b) (bits 5 0) 0) 1) 2) 3) 4 := rfl
  rw [e, mulS_bits _ _ _ (by decide), mulS_bits _ _ _ (by decide), mulS_bits _ _ _ (by decide), mulS_bits _ _ _ (by decide), mulS_bits _ _ _ (by decide), Int.zero_add, ← Int.mul_add, ← Int.mul_add, ← Int.mul_add, ← Int.mul_add]
  refine bits_mul 5 rfl ((bits_iff 5 _ _).mpr ?_)
  show _ = (2 ^ 0 * b2i (b % 2 == 1) + 2 ^ 1 * b2i (b / 2 % 2 == 1) + 2 ^ 2 * b2i (b / 2 / 2 % 2 == 1) + 2 ^ 3 * b2i (b / 2 / 2 / 2 % 2 == 1) + 2 ^ 4 * b2i (b / 2 / 2 / 2 / 2 % 2 == 1)) % 2 ^ 5
  rw [b2i_bit, b2i_bit, b2i_bit, b2i_bit, b2i_bit]
  omega
theorem bits_op : ∀ k a b : Int, bits 5 (opI k a b) = opB k (bits 5 a) (bits 5 b)
  | .ofNat 0, a, b => bits_add0 5 a b
  | .ofNat 1, a, b => bits_sub 5 a b
  | .ofNat 2, a, b => mul_bits a b
  | .ofNat 3, a, b => bits_and 5 a b
  | .ofNat 4, a, b => bits_or 5 a b
  | .ofNat (n + 5), a, b => bits_xor 5 a b
  | .negSucc _, a, b => bits_xor 5 a b
theorem bits_til (c a : Int) : bits 5 (tilI c a) = tilB c (bits 5 a) := by
  unfold tilI tilB
  generalize ((c.fdiv 36).fmod 2 == 1) = t
  cases t with
  | true => exact bits_not 5 a
  | false => rfl
theorem axis_lane : ∀ x : Nat, x < 17 → bits 5 (x : Int) = lb axisL x := by decide +kernel
theorem bb_plane {x : Nat} (h : x < 17) (v : Int) : bb (v % 2 * 131071) x = (v % 2 == 1) := by
  have hx : ∀ x : Nat, x < 17 → bb (0 * 131071) x = false ∧ bb (1 * 131071) x = true := by decide +kernel
  rcases one_cases v with ⟨h1, e1⟩ | ⟨h1, e1⟩ <;> rw [h1]
  · exact (hx x h).1
  · exact (hx x h).2
theorem part_lane (c : Int) {x : Nat} (h : x < 17) : bits 5 (opnd c (x : Int)) = lb (partP c) x := by
  unfold opnd partP
  generalize ((c.fdiv 6).fmod 3 != 0) = t
  cases t with
  | true =>
    have e : ∀ k, bb (bitP c k) x = bb ((c.fdiv 72).fmod 32) k := fun k => by
      rw [bitP, Int.fmod_eq_emod_of_nonneg _ (show (0 : Int) ≤ 2 by decide), Int.fdiv_eq_ediv_of_nonneg _ (Int.le_of_lt (two_pow_pos k)), bb_plane h, bb]
    show bits 5 ((c.fdiv 72).fmod 32) = [bb (bitP c 0) x, bb (bitP c 1) x, bb (bitP c 2) x, bb (bitP c 3) x, bb (bitP c 4) x]
    rw [e, e, e, e, e, bb_zero, bb_succ, bb_zero, bb_succ, bb_succ, bb_zero, bb_succ, bb_succ, bb_succ, bb_zero, bb_succ, bb_succ, bb_succ, bb_succ, bb_zero]; rfl
  | false => exact axis_lane x h
theorem step_lane {x : Nat} (h : x < 17) (g c : Int) (P : List Int) (hg : bits 5 g = lb P x) : bits 5 (stepI x g c) = lb (stepP P c) x := by
  rw [stepI, stepP, bits_til, lb_til h, bits_op, lb_op h]
  congr 1
  unfold sidI sidL
  split
  · rw [hg, part_lane c h]
  · rw [hg, part_lane c h]
theorem lanes {x : Nat} (h : x < 17) : ∀ (cs : List Int) (g : Int) (P : List Int), bits 5 g = lb P x → bits 5 (cs.foldl (stepI x) g) = lb (cs.foldl stepP P) x
  | [], _, _, e => e
  | c :: cs, g, P, e => lanes h cs _ _ (step_lane h g c P e)
theorem laneV_eq (P : List Int) (x k : Nat) : laneV P x k = b2i ((lb P x).getD k false) * 2 ^ k := by
  rw [laneV, lb_getD, bb, b2i_bit, Int.fmod_eq_emod_of_nonneg _ (show (0 : Int) ≤ 2 by decide), Int.fdiv_eq_ediv_of_nonneg _ (Int.le_of_lt (two_pow_pos x))]
/-- what the planes say of a worth -/
theorem lane_sum {x : Nat} {g : Int} {P : List Int} (e : bits 5 g = lb P x) : g.fmod 32 = ((List.range 5).map (laneV P x)).sum := by
  show _ = laneV P x 0 + (laneV P x 1 + (laneV P x 2 + (laneV P x 3 + (laneV P x 4 + 0))))
  rw [laneV_eq, laneV_eq, laneV_eq, laneV_eq, laneV_eq, ← e]
  show _ = b2i (g % 2 == 1) * 2 ^ 0 + (b2i (g / 2 % 2 == 1) * 2 ^ 1 + (b2i (g / 2 / 2 % 2 == 1) * 2 ^ 2 + (b2i (g / 2 / 2 / 2 % 2 == 1) * 2 ^ 3 + (b2i (g / 2 / 2 / 2 / 2 % 2 == 1) * 2 ^ 4 + 0))))
  rw [b2i_bit, b2i_bit, b2i_bit, b2i_bit, b2i_bit, Int.fmod_eq_emod_of_nonneg _ (by decide)]
  omega
end
end Mine

open PySem PySem.Calls PySem.W PySem.Spec PyProof.Rows
set_option Elab.async false
set_option autoImplicit false
set_option maxRecDepth 100000
set_option linter.unusedVariables false
namespace Mine
noncomputable section
/-! the plain law: the row, read on a pile -/
def wv (f : Nat → Int) : List Int := (List.range 17).map f
theorem wv_len (f : Nat → Int) : (wv f).length = 17 := by rw [wv, List.length_map, List.length_range]
theorem wv_at (f : Nat → Int) {x : Nat} (h : x < 17) : (wv f).getD x 0 = f x := by
  rw [List.getD_eq_getElem?_getD, wv, List.getElem?_map, List.getElem?_range h]; rfl
def Runs (m : Nat) (s : List Int) (f : Nat → Int) : Prop := ∀ (rest : List Int) (S : List (List Int)), S.length < m → runW (s ++ rest) S = runW rest (wv f :: S)
theorem runW_cons {s : Int} {rest : List Int} {S S' : List (List Int)} (h0 : s ≠ 0) (h : stepW s S = some S') : runW (s :: rest) S = runW rest S' := by
  rw [runW, if_neg h0, h]; rfl
theorem runs_1 : Runs 48 [1] (fun x => (x : Int)) := fun rest S h => runW_cons (by decide) (by
  unfold stepW; rw [bG_eq (by omega), if_neg (by decide), if_pos rfl]; rfl)
theorem run_part (c : Int) (rest : List Int) (S : List (List Int)) (h : S.length < 50) : runW (prt c ++ rest) S = runW rest (wv (fun x => opnd c (x : Int)) :: S) := by
  unfold prt opnd
  generalize ((c.fdiv 6).fmod 3 != 0) = t
  cases t with
  | true =>
    have h0 : 0 ≤ (c.fdiv 72).fmod 32 := Int.fmod_nonneg_of_pos _ (by decide)
    refine runW_cons (by omega) ?_
    unfold stepW; rw [bG_eq h, if_pos (by omega), show 256 + (c.fdiv 72).fmod 32 - 256 = (c.fdiv 72).fmod 32 by omega]
    congr 1
  | false =>
    refine runW_cons (by decide) ?_
    unfold stepW; rw [bG_eq h, if_neg (by decide), if_pos rfl]; rfl
def opK (k : Int) : Operator := match k with
  | .ofNat 0 => .Add
  | .ofNat 1 => .Sub
  | .ofNat 2 => .Mult
  | .ofNat 3 => .BitAnd
  | .ofNat 4 => .BitOr
  | _ => .BitXor
theorem opK_bin : ∀ (k a b : Int), (small b || small a) = true → binI (opK k) a b = some (opI k a b)
  | .ofNat 0, _, _, _ => rfl
  | .ofNat 1, _, _, _ => rfl
  | .ofNat 2, a, b, h => bG_eq h
  | .ofNat 3, _, _, _ => rfl
  | .ofNat 4, _, _, _ => rfl
  | .ofNat (n + 5), _, _, _ => rfl
  | .negSucc _, _, _, _ => rfl
theorem sign_ok : ∀ k : Int, signK k ≠ 0 ∧ ¬ 256 ≤ signK k ∧ signK k ≠ 1 ∧ signK k ≠ 31 ∧ opOf (signK k) = some (opK k)
  | .ofNat 0 => by decide
  | .ofNat 1 => by decide
  | .ofNat 2 => by decide
  | .ofNat 3 => by decide
  | .ofNat 4 => by decide
  | .ofNat (n + 5) => ⟨show (32 : Int) ≠ 0 by decide, show ¬ (256 : Int) ≤ 32 by decide, show (32 : Int) ≠ 1 by decide, show (32 : Int) ≠ 31 by decide, rfl⟩
  | .negSucc _ => ⟨show (32 : Int) ≠ 0 by decide, show ¬ (256 : Int) ≤ 32 by decide, show (32 : Int) ≠ 1 by decide, show (32 : Int) ≠ 31 by decide, rfl⟩
theorem zipW_map {op : Operator} {fl fr h : Nat → Int} : ∀ xs : List Nat, (∀ x ∈ xs, binI op (fl x) (fr x) = some (h x)) → zipW op (xs.map fl) (xs.map fr) = some (xs.map h)
  | [], _ => rfl
  | x :: xs, hh => by
    rw [List.map_cons, List.map_cons, zipW, hh x List.mem_cons_self, zipW_map xs fun y hy => hh y (List.mem_cons_of_mem _ hy)]; rfl
theorem run_sign (k : Int) {fl fr : Nat → Int} (rest : List Int) (S : List (List Int)) (h : S.length + 2 < 50) (hs : ∀ x, x < 17 → (small (fr x) || small (fl x)) = true) : runW (signK k :: rest) (wv fr :: wv fl :: S) = runW rest (wv (fun x => opI k (fl x) (fr x)) :: S) := by
  obtain ⟨h0, h1, h2, h3, h4⟩ := sign_ok k
  refine runW_cons h0 ?_
  unfold stepW; rw [bG_eq (show (wv fr :: wv fl :: S).length < 50 from h), if_neg h1, if_neg h2, if_neg h3]
  show (opOf (signK k)).bind _ = _
  rw [h4]
  show bG ((wv fl).length = 17 ∧ (wv fr).length = 17) ((zipW (opK k) (wv fl) (wv fr)).map (· :: S)) = _
  rw [bG_eq ⟨wv_len _, wv_len _⟩, wv, wv, zipW_map (h := fun x => opI k (fl x) (fr x)) (List.range 17) fun x hx => opK_bin k _ _ (hs x (List.mem_range.mp hx))]; rfl
theorem run_til (c : Int) {f : Nat → Int} (s rest : List Int) (S S' : List (List Int)) (h : S.length + 1 < 50) (hs : ∀ rest, runW (s ++ rest) S' = runW rest (wv f :: S)) : runW (tildL c s ++ rest) S' = runW rest (wv (fun x => tilI c (f x)) :: S) := by
  unfold tildL tilI
  generalize ((c.fdiv 36).fmod 2 == 1) = t
  cases t with
  | true =>
    show runW ((s ++ [31]) ++ rest) S' = _
    rw [List.append_assoc, hs]
    refine runW_cons (by decide) ?_
    unfold stepW; rw [bG_eq (show (wv f :: S).length < 50 from h), if_neg (by decide), if_neg (by decide), if_pos rfl]
    show bG ((wv f).length = 17) (some ((wv f).map Builtin.bitNot :: S)) = _
    rw [bG_eq (wv_len f), wv, List.map_map]; rfl
  | false => exact hs rest
theorem opnd_small (c : Int) {x : Nat} (h : x < 17) : 0 ≤ opnd c (x : Int) ∧ opnd c (x : Int) < 32 := by
  unfold opnd
  generalize ((c.fdiv 6).fmod 3 != 0) = t
  cases t with
  | true => exact ⟨Int.fmod_nonneg_of_pos _ (by decide), Int.fmod_lt_of_pos _ (by decide)⟩
  | false => show 0 ≤ (x : Int) ∧ (x : Int) < 32; omega
theorem opnd_sm (c : Int) {x : Nat} (h : x < 17) : small (opnd c (x : Int)) = true := by
  have := opnd_small c h
  exact decide_eq_true (by omega)
theorem runs_step {m : Nat} {s : List Int} {f : Nat → Int} (c : Int) (hm : m + 1 ≤ 48) (h : Runs (m + 1) s f) : Runs m (symStep s c) (fun x => stepI (x : Int) (f x) c) := fun rest S hS => by
  unfold symStep
  refine run_til c (f := fun x => opI (c.fmod 6) (sidI c (f x) (opnd c (x : Int))) (sidI c (opnd c (x : Int)) (f x))) _ rest S S (by omega) fun rest => ?_
  unfold sideL sidI
  generalize ((c.fdiv 18).fmod 2 == 1) = t
  cases t with
  | true =>
    show runW ((prt c ++ s) ++ [signK (c.fmod 6)] ++ rest) S = _
    rw [List.append_assoc, List.append_assoc, run_part c _ S (by omega), h _ _ (by rw [List.length_cons]; omega)]
    exact run_sign (c.fmod 6) (fl := fun x => opnd c (x : Int)) (fr := f) rest S (by omega) fun x hx => by rw [opnd_sm c hx, Bool.or_true]
  | false =>
    show runW ((s ++ prt c) ++ [signK (c.fmod 6)] ++ rest) S = _
    rw [List.append_assoc, List.append_assoc, h _ _ (by omega), run_part c _ _ (by rw [List.length_cons]; omega)]
    exact run_sign (c.fmod 6) (fl := f) (fr := fun x => opnd c (x : Int)) rest S (by omega) fun x hx => by rw [opnd_sm c hx, Bool.true_or]
theorem runs_fold : ∀ (cs : List Int) (m : Nat) (s : List Int) (f : Nat → Int), m + cs.length ≤ 48 → Runs (m + cs.length) s f → Runs m (cs.foldl symStep s) (fun x => cs.foldl (stepI (x : Int)) (f x))
  | [], _, _, _, _, h => h
  | c :: cs, m, s, f, hm, h => runs_fold cs m (symStep s c) (fun x => stepI (x : Int) (f x) c) (by rw [List.length_cons] at hm; omega) (runs_step c (by rw [List.length_cons] at hm; omega) h)
/-! how large a worth is -/
def Rg (k : Nat) (a : Int) : Prop := -2 ^ k ≤ a ∧ a < 2 ^ k
theorem rg_half {k : Nat} {a : Int} : Rg (k + 1) a ↔ Rg k (a / 2) := by
  unfold Rg
  rw [two_pow_succ]
  omega
theorem rg_0 {a : Int} (h : Rg 0 a) : a = 0 ∨ a = -1 := by
  have h1 : -1 ≤ a := h.1
  have h2 : a < 1 := h.2
  omega
theorem rg_up {k j : Nat} {a : Int} (h : Rg k a) : Rg (k + j) a := by
  induction j with
  | zero => exact h
  | succ j ih =>
    have := two_pow_pos (k + j)
    have e := two_pow_succ (k + j)
    obtain ⟨h1, h2⟩ := ih
    show -2 ^ (k + j + 1) ≤ a ∧ a < 2 ^ (k + j + 1)
    omega
theorem rg_and : ∀ (k : Nat) (a b : Int), Rg k a → Rg k b → Rg k (Builtin.bitAnd a b)
  | 0, a, b, h1, h2 => by
    rcases rg_0 h1 with rfl | rfl <;> rcases rg_0 h2 with rfl | rfl <;> (unfold Rg; decide)
  | k + 1, a, b, h1, h2 => by rw [rg_half, (and_half a b).1]; exact rg_and k _ _ (rg_half.mp h1) (rg_half.mp h2)
theorem rg_or : ∀ (k : Nat) (a b : Int), Rg k a → Rg k b → Rg k (Builtin.bitOr a b)
  | 0, a, b, h1, h2 => by
    rcases rg_0 h1 with rfl | rfl <;> rcases rg_0 h2 with rfl | rfl <;> (unfold Rg; decide)
  | k + 1, a, b, h1, h2 => by rw [rg_half, (or_half a b).1]; exact rg_or k _ _ (rg_half.mp h1) (rg_half.mp h2)
theorem rg_xor : ∀ (k : Nat) (a b : Int), Rg k a → Rg k b → Rg k (Builtin.bitXor a b)
  | 0, a, b, h1, h2 => by
    rcases rg_0 h1 with rfl | rfl <;> rcases rg_0 h2 with rfl | rfl <;> (unfold Rg; decide)
  | k + 1, a, b, h1, h2 => by rw [rg_half, (xor_half a b).1]; exact rg_xor k _ _ (rg_half.mp h1) (rg_half.mp h2)
theorem rg_mul {k j : Nat} {a b : Int} (h1 : Rg k a) (h2 : Rg j b) : Rg (k + j + 1) (a * b) := by
  have p1 := two_pow_pos k
  have p2 := two_pow_pos j
  have a1 : a.natAbs ≤ (2 ^ k : Int).natAbs := by unfold Rg at h1; omega
  have a2 : b.natAbs ≤ (2 ^ j : Int).natAbs := by unfold Rg at h2; omega
  have a3 := Nat.mul_le_mul a1 a2
  rw [← Int.natAbs_mul, ← Int.natAbs_mul, ← Int.pow_add] at a3
  have p3 := two_pow_pos (k + j)
  have e := two_pow_succ (k + j)
  unfold Rg
  omega
theorem rg_op {k : Nat} (hk : 5 ≤ k) {a b : Int} (h : (Rg k a ∧ Rg 5 b) ∨ (Rg 5 a ∧ Rg k b)) : ∀ s : Int, Rg (k + 6) (opI s a b) := by
  obtain ⟨j, rfl⟩ : ∃ j, k = 5 + j := ⟨k - 5, by omega⟩
  have ha : Rg (5 + j) a := h.elim (fun h => h.1) fun h => rg_up h.1
  have hb : Rg (5 + j) b := h.elim (fun h => rg_up h.2) fun h => h.2
  have hab : Rg (5 + j + 6) (a * b) := h.elim (fun h => rg_mul h.1 h.2) fun h => by rw [Int.mul_comm]; exact rg_mul h.2 h.1
  have p := two_pow_pos (5 + j)
  have e6 : (2 : Int) ^ (5 + j + 6) = 64 * 2 ^ (5 + j) := by rw [Int.pow_add]; omega
  have hsum : Rg (5 + j + 6) (a + b) ∧ Rg (5 + j + 6) (a - b) := by
    unfold Rg at *
    rw [e6]
    omega
  intro s
  match s with
  | .ofNat 0 => exact hsum.1
  | .ofNat 1 => exact hsum.2
  | .ofNat 2 => exact hab
  | .ofNat 3 => exact rg_up (rg_and _ _ _ ha hb)
  | .ofNat 4 => exact rg_up (rg_or _ _ _ ha hb)
  | .ofNat (n + 5) => exact rg_up (rg_xor _ _ _ ha hb)
  | .negSucc _ => exact rg_up (rg_xor _ _ _ ha hb)
theorem rg_step {k x : Nat} (hk : 5 ≤ k) (hx : x < 17) {g : Int} (hg : Rg k g) (c : Int) : Rg (k + 6) (stepI (x : Int) g c) := by
  have hp : Rg 5 (opnd c (x : Int)) := by have := opnd_small c hx; exact ⟨by show -32 ≤ _; omega, this.2⟩
  have ho : Rg (k + 6) (opI (c.fmod 6) (sidI c g (opnd c (x : Int))) (sidI c (opnd c (x : Int)) g)) := by
    refine rg_op hk ?_ _
    unfold sidI
    split
    · exact .inr ⟨hp, hg⟩
    · exact .inl ⟨hg, hp⟩
  unfold stepI tilI
  generalize opI (c.fmod 6) (sidI c g (opnd c (x : Int))) (sidI c (opnd c (x : Int)) g) = o at ho
  generalize ((c.fdiv 36).fmod 2 == 1) = t
  cases t with
  | true => show Rg (k + 6) (Builtin.bitNot o); unfold Rg Builtin.bitNot at *; omega
  | false => exact ho
theorem rg_fold {x : Nat} (hx : x < 17) : ∀ (cs : List Int) (k : Nat) (g : Int), 5 ≤ k → Rg k g → Rg (k + 6 * cs.length) (cs.foldl (stepI (x : Int)) g)
  | [], _, _, _, h => h
  | c :: cs, k, g, hk, h => by
    rw [List.length_cons, show k + 6 * (cs.length + 1) = k + 6 + 6 * cs.length by omega]
    exact rg_fold hx cs (k + 6) _ (by omega) (rg_step hk hx h c)
/-- the formula at x -/
def gI (cs : List Int) (x : Nat) : Int := cs.foldl (stepI (x : Int)) (x : Int)
theorem gI_small {cs : List Int} (h4 : cs.length = 4) {x : Nat} (hx : x < 17) : (gI cs x).natAbs < 2 ^ 60 := by
  have h := rg_fold hx cs 5 (x : Int) (by decide) ⟨by show -32 ≤ _; omega, by show _ < (32 : Int); omega⟩
  rw [h4] at h
  have h1 : -536870912 ≤ gI cs x := h.1
  have h2 : gI cs x < 536870912 := h.2
  omega
theorem run_all {cs : List Int} (h4 : cs.length = 4) : runW (cs.foldl symStep [1] ++ [0]) [] = some (wv (gI cs)) := by
  have h := runs_fold cs 44 [1] (fun x => (x : Int)) (by omega) (by rw [h4]; exact runs_1) [0] [] (by decide)
  rw [h]; rfl
theorem sym_len {cs : List Int} (h4 : cs.length = 4) : (cs.foldl symStep [1] ++ [0]).length ≤ 100 := by
  have : ∀ (cs s : List Int), (cs.foldl symStep s).length ≤ s.length + 3 * cs.length := fun cs => by
    induction cs with
    | nil => intro s; exact Nat.le_refl _
    | cons c cs ih =>
      intro s
      have h1 := ih (symStep s c)
      have h2 := symStep_len c s
      rw [List.foldl_cons, List.length_cons]
      omega
  have h := this cs [1]
  rw [List.length_append]
  simp only [List.length_singleton] at *
  omega
end
end Mine

open PySem PySem.Calls PySem.W PySem.Spec PyProof.Rows
set_option Elab.async false
set_option autoImplicit false
set_option maxRecDepth 100000
set_option linter.unusedVariables false
namespace Mine
noncomputable section
/-! the plain law: sixteen hours -/
def Sg (f : Nat → Int) : Nat → Int
  | 0 => 0
  | n + 1 => Sg f n + f n
theorem Sg_app (f : Nat → Int) (a : Nat) : ∀ b, Sg f (a + b) = Sg f a + Sg (fun i => f (a + i)) b
  | 0 => (Int.add_zero _).symm
  | b + 1 => by rw [← Nat.add_assoc, Sg, Sg_app f a b, Sg, Int.add_assoc]
theorem Sg_add (f g : Nat → Int) : ∀ n, Sg (fun i => f i + g i) n = Sg f n + Sg g n
  | 0 => rfl
  | n + 1 => by rw [Sg, Sg, Sg, Sg_add f g n]; omega
theorem Sg_sub (f g : Nat → Int) : ∀ n, Sg (fun i => f i - g i) n = Sg f n - Sg g n
  | 0 => rfl
  | n + 1 => by rw [Sg, Sg, Sg, Sg_sub f g n]; omega
theorem Sg_mod {f g : Nat → Int} {m : Int} (h : ∀ i, f i % m = g i % m) : ∀ n, Sg f n % m = Sg g n % m
  | 0 => rfl
  | n + 1 => by rw [Sg, Sg, Int.add_emod, Sg_mod h n, h n, ← Int.add_emod]
theorem Sg_tel (f : Nat → Int) : ∀ n, Sg (fun i => f (i + 1)) n = Sg f n + f n - f 0
  | 0 => by show (0 : Int) = 0 + f 0 - f 0; omega
  | n + 1 => by rw [Sg, Sg_tel f n, Sg]; omega
theorem mod_two (k x : Nat) : x % 2 ^ (k + 1) = x % 2 ^ k + 2 ^ k * (x / 2 ^ k % 2) := by rw [Nat.pow_succ, Nat.mod_mul]
theorem mod_two' (k x : Nat) : (x + 2 ^ k) % 2 ^ (k + 1) = x % 2 ^ k + 2 ^ k * ((x / 2 ^ k + 1) % 2) := by
  rw [mod_two, Nat.add_mod_right, Nat.add_div_right _ (Nat.two_pow_pos k)]
section
variable {t : Nat → Nat}
/-- so far the ring is one at k bits -/
def Ring (t : Nat → Nat) (k : Nat) : Prop := ∀ h, t (h + 2 ^ k) % 2 ^ (k + 1) = (t h + 2 ^ k) % 2 ^ (k + 1)
theorem ring_sum : ∀ (k : Nat), (∀ j, j < k → Ring t j) → ∀ (φ : Nat → Int) (m : Int), (∀ x y, x % 2 ^ k = y % 2 ^ k → φ x % m = φ y % m) → ∀ h, Sg (fun i => φ (t (h + i))) (2 ^ k) % m = Sg φ (2 ^ k) % m
  | 0, _, φ, m, hφ, h => by
    show (0 + φ (t (h + 0))) % m = (0 + φ 0) % m
    rw [Int.zero_add, Int.zero_add]
    exact hφ _ _ (by rw [Nat.pow_zero, Nat.mod_one, Nat.mod_one])
  | k + 1, R, φ, m, hφ, h => by
    have ih := ring_sum k (fun j hj => R j (Nat.lt_succ_of_lt hj)) (fun x => φ x + φ (x + 2 ^ k)) m (fun x y hxy => by
      have ex := mod_two k x
      have ey := mod_two k y
      have ex' := mod_two' k x
      have ey' := mod_two' k y
      show (φ x + φ (x + 2 ^ k)) % m = (φ y + φ (y + 2 ^ k)) % m
      by_cases hc : x / 2 ^ k % 2 = y / 2 ^ k % 2
      · rw [Int.add_emod, hφ x y (by rw [ex, ey, hxy, hc]), hφ (x + 2 ^ k) (y + 2 ^ k) (by rw [ex', ey', hxy, show (x / 2 ^ k + 1) % 2 = (y / 2 ^ k + 1) % 2 by omega]), ← Int.add_emod]
      · rw [Int.add_comm (φ x), Int.add_emod, hφ x (y + 2 ^ k) (by rw [ex, ey', hxy, show x / 2 ^ k % 2 = (y / 2 ^ k + 1) % 2 by omega]), hφ (x + 2 ^ k) y (by rw [ex', ey, hxy, show (x / 2 ^ k + 1) % 2 = y / 2 ^ k % 2 by omega]), ← Int.add_emod]) h
    rw [Nat.pow_succ, Nat.mul_two, Sg_app, Sg_app]
    rw [Sg_add, Sg_add] at ih
    have e1 : Sg (fun i => φ (t (h + (2 ^ k + i)))) (2 ^ k) % m = Sg (fun i => φ (t (h + i) + 2 ^ k)) (2 ^ k) % m := Sg_mod (fun i => hφ _ _ (by
      rw [show h + (2 ^ k + i) = h + i + 2 ^ k by omega]; exact R k (Nat.lt_succ_self k) (h + i))) _
    have e2 : (fun i => φ (2 ^ k + i)) = fun x => φ (x + 2 ^ k) := funext fun i => by rw [Nat.add_comm]
    rw [e2, ← ih, Int.add_emod, e1, ← Int.add_emod]
variable {g : Nat → Int}
theorem ring_walk (E : ∀ h, (t (h + 1) : Int) = ((t h : Int) + 1 + 2 * (g (t h + 1) - g (t h))) % 16) : ∀ (n h : Nat), (t (h + n) : Int) % 16 = ((t h : Int) + n + 2 * Sg (fun i => g (t (h + i) + 1) - g (t (h + i))) n) % 16
  | 0, h => by rw [Sg, Nat.add_zero]; omega
  | n + 1, h => by
    have ih := ring_walk E n h
    have e := E (h + n)
    rw [← Nat.add_assoc, Sg, e]
    omega
theorem ring_next (E : ∀ h, (t (h + 1) : Int) = ((t h : Int) + 1 + 2 * (g (t h + 1) - g (t h))) % 16) (H : ∀ (k x y : Nat), x % 2 ^ k = y % 2 ^ k → g x % 2 ^ k = g y % 2 ^ k) (k : Nat) (hk : k < 4) (R : ∀ j, j < k → Ring t j) : Ring t k := fun h => by
  have z := ring_walk E (2 ^ k) h
  have s1 := ring_sum k R g (2 ^ k) (H k) h
  have s2 := ring_sum k R (fun x => g (x + 1)) (2 ^ k) (fun x y hxy => H k _ _ (by rw [Nat.add_mod, hxy, ← Nat.add_mod])) h
  rw [Sg_tel] at s2
  have s3 := H k (2 ^ k) 0 (by rw [Nat.mod_self, Nat.zero_mod])
  rw [Sg_sub] at z
  generalize Sg (fun i => g (t (h + i) + 1)) (2 ^ k) = A at *
  generalize Sg (fun i => g (t (h + i))) (2 ^ k) = B at *
  generalize Sg g (2 ^ k) = D at *
  generalize g (2 ^ k) = u at *
  generalize g 0 = v at *
  generalize t (h + 2 ^ k) = T at *
  generalize t h = s at *
  match k, hk with
  | 0, _ => simp only [Nat.pow_zero, Nat.zero_add, Int.pow_zero] at *; omega
  | 1, _ => simp only [Nat.pow_one, Int.pow_succ, Int.pow_zero] at *; omega
  | 2, _ => simp only [Int.pow_succ, Int.pow_zero] at *; omega
  | 3, _ => simp only [Int.pow_succ, Int.pow_zero] at *; omega
theorem ring_all (E : ∀ h, (t (h + 1) : Int) = ((t h : Int) + 1 + 2 * (g (t h + 1) - g (t h))) % 16) (H : ∀ (k x y : Nat), x % 2 ^ k = y % 2 ^ k → g x % 2 ^ k = g y % 2 ^ k) : ∀ k, k < 4 → Ring t k := fun k => by
  induction k using Nat.strongRecOn with
  | ind k ih => exact fun hk => ring_next E H k hk fun j hj => ih j hj (Nat.lt_trans hj hk)
/-- the ring, in numbers -/
structure Rng (t : Nat → Nat) : Prop where
  z : t 0 = 0
  lt : ∀ h, t h < 16
  r0 : ∀ h, t (h + 1) % 2 = (t h + 1) % 2
  r1 : ∀ h, t (h + 2) % 4 = (t h + 2) % 4
  r2 : ∀ h, t (h + 4) % 8 = (t h + 4) % 8
  r3 : ∀ h, t (h + 8) % 16 = (t h + 8) % 16
theorem Rng.ret (R : Rng t) : t 16 = 0 := by
  have h1 := R.r3 8
  have h2 := R.r3 0
  have h3 := R.lt 16
  have h4 := R.z
  simp only [Nat.zero_add, Nat.reduceAdd] at *
  omega
theorem Rng.per (R : Rng t) (h : Nat) : t (h + 16) = t h := by
  have h1 := R.r3 (h + 8)
  have h2 := R.r3 h
  have h3 := R.lt (h + 16)
  have h4 := R.lt h
  simp only [Nat.add_assoc, Nat.reduceAdd] at *
  omega
theorem Rng.wrap (R : Rng t) {i k : Nat} (hi : i < 16) (hk : k < 16) : t ((i + k) % 16) = t (i + k) := by
  by_cases h : i + k < 16
  · rw [Nat.mod_eq_of_lt h]
  · have := R.per (i + k - 16)
    rw [show i + k - 16 + 16 = i + k by omega] at this
    rw [this, show (i + k) % 16 = i + k - 16 by omega]
theorem step_iter {a N : Nat} (h : ∀ h, t (h + N) % (2 * N) = (t h + N) % (2 * N)) : ∀ q, t (a + N * q) % (2 * N) = (t a + N * q) % (2 * N)
  | 0 => rfl
  | q + 1 => by rw [Nat.mul_succ, ← Nat.add_assoc, ← Nat.add_assoc, h, Nat.add_mod, step_iter h q, ← Nat.add_mod]
theorem Rng.inj (R : Rng t) {i j : Nat} (hi : i < 16) (hj : j < 16) (h : t i = t j) : i = j := by
  have dec : ∀ (N i : Nat), 0 < N → (∀ h, t (h + N) % (2 * N) = (t h + N) % (2 * N)) → t i % (2 * N) = (t (i % N) + N * (i / N)) % (2 * N) := fun N i _ hN => by
    have := step_iter (a := i % N) hN (i / N)
    rwa [Nat.mod_add_div] at this
  have a0 := dec 1 i (by decide) R.r0
  have b0 := dec 1 j (by decide) R.r0
  rw [Nat.mod_one] at a0 b0
  have e2 : i % 2 = j % 2 := by omega
  have a1 := dec 2 i (by decide) R.r1
  have b1 := dec 2 j (by decide) R.r1
  rw [e2] at a1
  have e4 : i % 4 = j % 4 := by omega
  have a2 := dec 4 i (by decide) R.r2
  have b2 := dec 4 j (by decide) R.r2
  rw [e4] at a2
  have e8 : i % 8 = j % 8 := by omega
  have a3 := dec 8 i (by decide) R.r3
  have b3 := dec 8 j (by decide) R.r3
  rw [e8] at a3
  omega
end
theorem perm_sub : ∀ (r l : List Nat), r.Nodup → (∀ x ∈ r, x ∈ l) → r.length = l.length → r.Perm l
  | [], l, _, _, h => by rw [List.eq_nil_of_length_eq_zero h.symm]
  | x :: r, l, nd, hs, hl => by
    have nd := List.nodup_cons.mp nd
    have hx := hs x List.mem_cons_self
    have p := perm_sub r (l.erase x) nd.2 (fun y hy => (List.mem_erase_of_ne (fun (q : y = x) => nd.1 (q ▸ hy))).mpr (hs y (List.mem_cons_of_mem _ hy))) (by
      rw [List.length_erase_of_mem hx, ← hl, List.length_cons, Nat.add_sub_cancel])
    exact (List.Perm.cons x p).trans (List.perm_cons_erase hx).symm
theorem map_nd {t : Nat → Nat} : ∀ l : List Nat, l.Nodup → (∀ i ∈ l, ∀ j ∈ l, t i = t j → i = j) → (l.map t).Nodup
  | [], _, _ => List.nodup_nil
  | x :: l, nd, h => by
    have nd := List.nodup_cons.mp nd
    refine List.nodup_cons.mpr ⟨fun hm => ?_, map_nd l nd.2 fun i hi j hj => h i (List.mem_cons_of_mem _ hi) j (List.mem_cons_of_mem _ hj)⟩
    obtain ⟨y, hy, e⟩ := List.mem_map.mp hm
    exact nd.1 (h y (List.mem_cons_of_mem _ hy) x List.mem_cons_self e ▸ hy)
theorem Rng.srt {t : Nat → Nat} (R : Rng t) : sortI ((List.range 16).map fun h => (t h : Int)) = ints16 := by
  refine (sortI_eq ?_ (by decide +kernel)).symm
  have p := perm_sub ((List.range 16).map t) (List.range 16) (map_nd _ List.nodup_range fun i hi j hj e => R.inj (List.mem_range.mp hi) (List.mem_range.mp hj) e) (fun x hx => by
    obtain ⟨a, _, rfl⟩ := List.mem_map.mp hx
    exact List.mem_range.mpr (R.lt a)) (List.length_map ..)
  have q := (p.map fun (i : Nat) => (i : Int)).symm
  rw [List.map_map] at q
  exact q
theorem cost_tab : ∀ a, a < 4 → ∀ b, b < 4 → cost (sg a) (sg b) = if a = b then 0 else if a % 2 = b % 2 then 1 else 2 := by decide +kernel
theorem Rng.cos {t : Nat → Nat} (R : Rng t) {lo up : List Nat} (hlo : ∀ j, j < 16 → lo.getD j 0 = t j % 4) (hup : ∀ j, j < 16 → up.getD j 0 = t j / 4) (i : Nat) (hi : i < 16) : [co lo i 1, co lo i 2, co lo i 4, co up i 4, co up i 8] = [2, 1, 0, 2, 1] := by
  have m : ∀ k, (i + k) % 16 < 16 := fun k => Nat.mod_lt _ (by decide)
  have l := R.lt
  have c1 : ∀ k, k < 16 → co lo i k = if t i % 4 = t (i + k) % 4 then 0 else if t i % 4 % 2 = t (i + k) % 4 % 2 then 1 else 2 := fun k hk => by
    rw [co, hlo i hi, hlo _ (m k), R.wrap hi hk]
    exact cost_tab _ (Nat.mod_lt _ (by decide)) _ (Nat.mod_lt _ (by decide))
  have c2 : ∀ k, k < 16 → co up i k = if t i / 4 = t (i + k) / 4 then 0 else if t i / 4 % 2 = t (i + k) / 4 % 2 then 1 else 2 := fun k hk => by
    rw [co, hup i hi, hup _ (m k), R.wrap hi hk]
    exact cost_tab _ (by have := l i; omega) _ (by have := l (i + k); omega)
  have h0 := R.r0 i
  have h1 := R.r1 i
  have h2 := R.r2 i
  have h3 := R.r3 i
  have l0 := l i
  have l4 := l (i + 4)
  have l8 := l (i + 8)
  rw [c1 1 (by decide), c1 2 (by decide), c1 4 (by decide), c2 4 (by decide), c2 8 (by decide)]
  rw [if_neg (show ¬ t i % 4 = t (i + 1) % 4 by omega), if_neg (show ¬ t i % 4 % 2 = t (i + 1) % 4 % 2 by omega),
    if_neg (show ¬ t i % 4 = t (i + 2) % 4 by omega), if_pos (show t i % 4 % 2 = t (i + 2) % 4 % 2 by omega),
    if_pos (show t i % 4 = t (i + 4) % 4 by omega),
    if_neg (show ¬ t i / 4 = t (i + 4) / 4 by omega), if_neg (show ¬ t i / 4 % 2 = t (i + 4) / 4 % 2 by omega),
    if_neg (show ¬ t i / 4 = t (i + 8) / 4 by omega), if_pos (show t i / 4 % 2 = t (i + 8) / 4 % 2 by omega)]
end
end Mine

open PySem PySem.Calls PySem.W PySem.Spec PyProof.Rows
set_option Elab.async false
set_option autoImplicit false
set_option maxRecDepth 100000
set_option linter.unusedVariables false
namespace Mine
noncomputable section
/-! the plain law, joined -/
theorem opI_congr {k : Nat} {a a' b b' : Int} (h1 : bits k a = bits k a') (h2 : bits k b = bits k b') : ∀ s : Int, bits k (opI s a b) = bits k (opI s a' b')
  | .ofNat 0 => by show bits k (a + b) = bits k (a' + b'); rw [bits_add0, bits_add0, h1, h2]
  | .ofNat 1 => by show bits k (a - b) = bits k (a' - b'); rw [bits_sub, bits_sub, h1, h2]
  | .ofNat 2 => bits_mul k h1 h2
  | .ofNat 3 => by show bits k (Builtin.bitAnd a b) = bits k (Builtin.bitAnd a' b'); rw [bits_and, bits_and, h1, h2]
  | .ofNat 4 => by show bits k (Builtin.bitOr a b) = bits k (Builtin.bitOr a' b'); rw [bits_or, bits_or, h1, h2]
  | .ofNat (n + 5) => by show bits k (Builtin.bitXor a b) = bits k (Builtin.bitXor a' b'); rw [bits_xor, bits_xor, h1, h2]
  | .negSucc _ => by show bits k (Builtin.bitXor a b) = bits k (Builtin.bitXor a' b'); rw [bits_xor, bits_xor, h1, h2]
theorem stepI_congr {k : Nat} {x y g g' : Int} (hx : bits k x = bits k y) (hg : bits k g = bits k g') (c : Int) : bits k (stepI x g c) = bits k (stepI y g' c) := by
  have ho : bits k (opnd c x) = bits k (opnd c y) := by
    unfold opnd
    generalize ((c.fdiv 6).fmod 3 != 0) = t
    cases t with
    | true => rfl
    | false => exact hx
  have hs : bits k (opI (c.fmod 6) (sidI c g (opnd c x)) (sidI c (opnd c x) g)) = bits k (opI (c.fmod 6) (sidI c g' (opnd c y)) (sidI c (opnd c y) g')) := by
    unfold sidI
    split
    · exact opI_congr ho hg _
    · exact opI_congr hg ho _
  unfold stepI tilI
  generalize ((c.fdiv 36).fmod 2 == 1) = t
  cases t with
  | true => show bits k (Builtin.bitNot _) = bits k (Builtin.bitNot _); rw [bits_not, bits_not, hs]
  | false => exact hs
theorem fold_congr {k : Nat} {x y : Int} (hx : bits k x = bits k y) : ∀ (cs : List Int) (g g' : Int), bits k g = bits k g' → bits k (cs.foldl (stepI x) g) = bits k (cs.foldl (stepI y) g')
  | [], _, _, h => h
  | c :: cs, _, _, h => fold_congr hx cs _ _ (stepI_congr hx h c)
theorem gI_congr (cs : List Int) (k x y : Nat) (h : x % 2 ^ k = y % 2 ^ k) : gI cs x % 2 ^ k = gI cs y % 2 ^ k := by
  have hx : bits k (x : Int) = bits k (y : Int) := by
    rw [bits_iff, ← kbt_cast]
    have := congrArg (fun (n : Nat) => (n : Int)) h
    simpa using this
  exact (bits_iff k _ _).mp (fold_congr hx cs _ _ hx)
theorem ring_gI (cs : List Int) : Rng (stS (wv (gI cs))) := by
  have E : ∀ h, (stS (wv (gI cs)) (h + 1) : Int) = ((stS (wv (gI cs)) h : Int) + 1 + 2 * (gI cs (stS (wv (gI cs)) h + 1) - gI cs (stS (wv (gI cs)) h))) % 16 := fun h => by
    have l := stS_lt (wv (gI cs)) h
    show ((nextS (wv (gI cs)) (stS (wv (gI cs)) h) : Nat) : Int) = _
    rw [nextS, wv_at _ (show stS (wv (gI cs)) h + 1 < 17 by omega), wv_at _ (show stS (wv (gI cs)) h < 17 by omega), Int.toNat_of_nonneg (by omega)]
  have R := ring_all E (gI_congr cs)
  exact ⟨rfl, stS_lt _, R 0 (by decide), R 1 (by decide), R 2 (by decide), R 3 (by decide)⟩
theorem stN_at {w : List Int} {f : Nat → Nat} {j : Nat} (h : j < 16) : ((stN w).map f).getD j 0 = f (stS w j) := by
  rw [List.getD_eq_getElem?_getD, stN, List.map_map, List.getElem?_map, List.getElem?_range h]; rfl
theorem law_plain (l : List Int) : LawOK l (wv (gI (cells l))) where
  run := run_all (cells_len l)
  sym := sym_len (cells_len l)
  len := wv_len _
  bnd k := by
    by_cases h : k < 17
    · rw [wv_at _ h]; exact gI_small (cells_len l) h
    · rw [List.getD_eq_getElem?_getD, List.getElem?_eq_none_iff.mpr (by rw [wv_len]; omega)]; decide
  lan x hx := by
    rw [wv_at _ hx]
    exact lane_sum (lanes hx (cells l) (x : Int) axisL (axis_lane x hx))
  ret := (ring_gI (cells l)).ret
  srt := (ring_gI (cells l)).srt
  cos := (ring_gI (cells l)).cos (fun j hj => stN_at hj) (fun j hj => stN_at hj)
end
end Mine

open PySem PySem.Calls PySem.W PySem.Spec PyProof.Rows
set_option Elab.async false
set_option autoImplicit false
set_option maxRecDepth 100000
set_option genSizeOf false
set_option genInjectivity false
set_option linter.unusedVariables false
namespace Mine
noncomputable section
/-! what the top left standing -/
theorem wK_at (h : Heap) (a : Addr) : ∀ l : List Nat, (l.filterMap fun b => (h.get? b).map fun o => (b, o)).lookup a = if a ∈ l then h.get? a else none
  | [] => by rw [if_neg List.not_mem_nil]; rfl
  | b :: l => by
    have ih := wK_at h a l
    by_cases e : a = b
    · subst e
      rw [if_pos List.mem_cons_self]
      cases hb : h.get? a with
      | none =>
        rw [List.filterMap_cons_none (by rw [hb]; rfl), ih, hb]
        split <;> rfl
      | some o =>
        rw [List.filterMap_cons_some (by rw [hb]; rfl), List.lookup_cons, beq_self_eq_true]
    · have em : (a ∈ b :: l) = (a ∈ l) := by rw [List.mem_cons]; exact propext ⟨fun h => h.resolve_left e, .inr⟩
      simp only [em]
      rw [← ih]
      cases hb : h.get? b with
      | none => rw [List.filterMap_cons_none (by rw [hb]; rfl)]
      | some o => rw [List.filterMap_cons_some (by rw [hb]; rfl), List.lookup_cons, beq_eq_false_iff_ne.mpr e]
/-- all of a heap, as a part written out -/
def wK (h : Heap) : Frag := (List.range h.objs.size).filterMap fun b => (h.get? b).map fun o => (b, o)
theorem wK_look (h : Heap) (a : Addr) : (wK h).lookup a = h.get? a := by
  rw [wK, wK_at]
  split
  · rfl
  · rename_i e
    exact (Heap.get?_none_of_le (Nat.le_of_not_lt fun q => e (List.mem_range.mpr q))).symm
theorem wK_in (h : Heap) : (wK h).In h := fun a o e => (wK_look h a).symm.trans e
theorem wK_ns {h : Heap} {a : Addr} {m : Str → Option Value} (x : h.Ns a m) (name : Str) : nsIn (wK h) a name = some (m name) := by
  obtain ⟨⟨oc, od, oda, osl⟩, es, ep, ho, hd, hk, hf⟩ := x
  cases hd
  unfold nsIn
  rw [wK_look, ho]
  dsimp only
  have hf := hf name
  obtain ⟨l⟩ := es
  unfold nsFind findBy at hf
  rw [List.find?_toArray] at hf
  cases q : l.find? (fun e => e.key.isStr name) with
  | some e => rw [q] at hf; rw [← hf]; rfl
  | none =>
    rw [q] at hf
    have hr : l.any (fun e => e.refKey) = false := by
      rw [List.any_eq_false]
      intro e he
      obtain ⟨n, t, hn⟩ := hk e (by simpa using he)
      unfold DictEntry.refKey
      rw [hn]; exact Bool.false_ne_true
    show (if l.any (fun e => e.refKey) = true then none else some none) = _
    rw [hr, if_neg Bool.false_ne_true, ← hf]; rfl
/-! the table of signs -/
def entV (e : DictEntry) : Option (Str × Int × Int) := match e.key, e.val with
  | .str x _, .int v _ => some (x, e.hash, v)
  | _, _ => none
def tokV (h : Heap) (a : Addr) : Option (List (Option (Str × Int × Int))) := match h.get? a with
  | some ⟨.type n, none, .dict es _, sl⟩ => if n == "dict" && sl.size == 0 then some (es.toList.map entV) else none
  | _ => none
theorem tokV_of {h : Heap} {a : Addr} {r : List (Option (Str × Int × Int))} (e : tokV h a = some r) : ∃ es k, h.get? a = some ⟨.type "dict", none, .dict es k, #[]⟩ ∧ es.toList.map entV = r := by
  unfold tokV at e
  split at e
  · rename_i n es k sl ho
    split at e
    · rename_i q
      obtain ⟨q1, q2⟩ := Bool.and_eq_true_iff.mp q
      cases e
      have hs : sl = #[] := Array.eq_empty_of_size_eq_zero (beq_iff_eq.mp q2)
      exact ⟨es, k, by rw [ho, beq_iff_eq.mp q1, hs], rfl⟩
    · cases e
  · cases e
theorem ent_of {e : DictEntry} {x : Str} {hh v : Int} (h : entV e = some (x, hh, v)) : ∃ t u, e.key = .str x t ∧ e.val = .int v u ∧ e.hash = hh := by
  unfold entV at h
  split at h
  · rename_i y t w u h1 h2
    cases h
    exact ⟨t, u, h1, h2, rfl⟩
  · cases h
abbrev tabE (P : Params) (tab : List (Str × Int)) : List (Option (Str × Int × Int)) := tab.map fun p => some (p.1, PyData.keyHash P p.1, p.2)
theorem keys_of {P : Params} : ∀ {es : List DictEntry} {tab : List (Str × Int)}, es.map entV = tabE P tab → KeysLit P es
  | [], _, _ => trivial
  | e :: es, [], h => nomatch h
  | e :: es, p :: tab, h => by
    have h1 := (List.cons.injEq .. ▸ h : entV e = some (p.1, PyData.keyHash P p.1, p.2) ∧ es.map entV = tabE P tab)
    obtain ⟨t, u, k1, k2, k3⟩ := ent_of h1.1
    exact ⟨⟨p.1, t, k1, k3⟩, keys_of h1.2⟩
theorem find_of {P : Params} {x : Str} {v : Int} : ∀ {es : List DictEntry} {tab : List (Str × Int)}, es.map entV = tabE P tab → tab.lookup x = some v → ∃ e t, es.find? (fun e => e.key.isStr x) = some e ∧ e.val = .int v t
  | [], [], _, h => nomatch h
  | [], p :: tab, h, _ => nomatch h
  | e :: es, [], h, _ => nomatch h
  | e :: es, p :: tab, h, hl => by
    have h1 := (List.cons.injEq .. ▸ h : entV e = some (p.1, PyData.keyHash P p.1, p.2) ∧ es.map entV = tabE P tab)
    obtain ⟨t, u, k1, k2, k3⟩ := ent_of h1.1
    rw [List.lookup_cons] at hl
    have hi : e.key.isStr x = (x == p.1) := by
      rw [k1]
      show (p.1 == x) = (x == p.1)
      by_cases q : p.1 = x
      · rw [q]
      · rw [beq_eq_false_iff_ne.mpr q, beq_eq_false_iff_ne.mpr (Ne.symm q)]
    rw [List.find?_cons, hi]
    cases q : x == p.1 with
    | true => rw [q] at hl; cases hl; exact ⟨e, u, rfl, k2⟩
    | false => rw [q] at hl; exact find_of h1.2 hl
end
end Mine

open PySem PySem.Calls PySem.W PySem.Spec PyProof.Rows
set_option Elab.async false
set_option autoImplicit false
set_option maxRecDepth 100000
set_option genSizeOf false
set_option genInjectivity false
set_option linter.unusedVariables false
namespace Mine
noncomputable section
/-! the program, less the rows of the module's name -/
def vm : Module := { PySem.Challenge.pw_wf0066_01.main with body := [bd 1, bd 2, bd 4, bd 5, bd 6, bd 7, bd 9, bd 10, bd 11, bd 12, bd 13, bd 14, bd 15, bd 17, bd 66, bd 68, bd 69, bd 71, bd 72, bd 73, bd 75, bd 76, bd 77, bd 78, bd 79, bd 80] }
def vw : Program := { PySem.Challenge.pw_wf0066_01 with main := vm }
def lo : List Str := [Str.ofString "_div3n2n", Str.ofString "LPAR", Str.ofString "RPAR", Str.ofString "LSQB", Str.ofString "RSQB", Str.ofString "COLON", Str.ofString "COMMA", Str.ofString "SEMI", Str.ofString "PLUS", Str.ofString "MINUS", Str.ofString "STAR", Str.ofString "SLASH", Str.ofString "VBAR", Str.ofString "AMPER", Str.ofString "LESS", Str.ofString "GREATER", Str.ofString "EQUAL", Str.ofString "DOT", Str.ofString "PERCENT", Str.ofString "LBRACE", Str.ofString "RBRACE", Str.ofString "EQEQUAL", Str.ofString "NOTEQUAL", Str.ofString "LESSEQUAL", Str.ofString "GREATEREQUAL", Str.ofString "TILDE", Str.ofString "CIRCUMFLEX", Str.ofString "LEFTSHIFT", Str.ofString "RIGHTSHIFT", Str.ofString "DOUBLESTAR", Str.ofString "PLUSEQUAL", Str.ofString "MINEQUAL", Str.ofString "STAREQUAL", Str.ofString "SLASHEQUAL", Str.ofString "PERCENTEQUAL", Str.ofString "AMPEREQUAL", Str.ofString "VBAREQUAL", Str.ofString "CIRCUMFLEXEQUAL", Str.ofString "LEFTSHIFTEQUAL", Str.ofString "RIGHTSHIFTEQUAL", Str.ofString "DOUBLESTAREQUAL", Str.ofString "DOUBLESLASH", Str.ofString "DOUBLESLASHEQUAL", Str.ofString "AT", Str.ofString "ATEQUAL", Str.ofString "RARROW", Str.ofString "ELLIPSIS", Str.ofString "COLONEQUAL", Str.ofString "EXCLAMATION", Str.ofString "EXACT_TOKEN_TYPES"]
def dD (st : Stmt) : DefRec := match st with
  | .FunctionDef name params body _ _ _ scope _ _ pos => ⟨name, params, body, scope, pos⟩
  | _ => ⟨default, default, [], default, default⟩
def isDef (st : Stmt) : Bool := match st with
  | .FunctionDef .. => true
  | _ => false
def dL : List DefRec := [dD (bd 2), dD (bd 4), dD (bd 5), dD (bd 6), dD (bd 7), dD (bd 9), dD (bd 10), dD (bd 11), dD (bd 12), dD (bd 13), dD (bd 14), dD (bd 15), dD (bd 68), dD (bd 69), dD (bd 73), dD (bd 75), dD (bd 76), dD (bd 77), dD (bd 78), dD (bd 79), dD (bd 80)]
theorem recs_eq : recsOf vw = dL := by kernel_rfl
def nmL : List Str := [Str.ofString "_div2n1n", Str.ofString "_int2digits", Str.ofString "_digits2int", Str.ofString "_divmod_pos", Str.ofString "int_divmod", Str.ofString "add", Str.ofString "and_", Str.ofString "inv", Str.ofString "mul", Str.ofString "or_", Str.ofString "sub", Str.ofString "xor", Str.ofString "ISNONTERMINAL", Str.ofString "ISEOF", Str.ofString "_substitution_cost", Str.ofString "_law_cells", Str.ofString "_law_symbols", Str.ofString "_law_worths", Str.ofString "_law_added", Str.ofString "_law_planes", Str.ofString "law", Str.ofString "EXACT_TOKEN_TYPES"]
def adL : List Addr := [21, 35, 42, 49, 56, 63, 70, 77, 84, 91, 98, 105, 115, 122, 129, 136, 143, 148, 155, 160, 165, 106]
def tokT : List (Str × Int) := [(Str.ofString "!", 54), (Str.ofString "!=", 28), (Str.ofString "%", 24), (Str.ofString "%=", 40), (Str.ofString "&", 19), (Str.ofString "&=", 41), (Str.ofString "(", 7), (Str.ofString ")", 8), (Str.ofString "*", 16), (Str.ofString "**", 35), (Str.ofString "**=", 46), (Str.ofString "*=", 38), (Str.ofString "+", 14), (Str.ofString "+=", 36), (Str.ofString ",", 12), (Str.ofString "-", 15), (Str.ofString "-=", 37), (Str.ofString "->", 51), (Str.ofString ".", 23), (Str.ofString "...", 52), (Str.ofString "/", 17), (Str.ofString "//", 47), (Str.ofString "//=", 48), (Str.ofString "/=", 39), (Str.ofString ":", 11), (Str.ofString ":=", 53), (Str.ofString ";", 13), (Str.ofString "<", 20), (Str.ofString "<<", 33), (Str.ofString "<<=", 44), (Str.ofString "<=", 29), (Str.ofString "=", 22), (Str.ofString "==", 27), (Str.ofString ">", 21), (Str.ofString ">=", 30), (Str.ofString ">>", 34), (Str.ofString ">>=", 45), (Str.ofString "@", 49), (Str.ofString "@=", 50), (Str.ofString "[", 9), (Str.ofString "]", 10), (Str.ofString "^", 32), (Str.ofString "^=", 43), (Str.ofString "{", 25), (Str.ofString "|", 18), (Str.ofString "|=", 42), (Str.ofString "}", 26), (Str.ofString "~", 31)]
def tabsL : List (Addr × Addr) := [(34, 30), (41, 37)]
def Yff (s : Shared) : List (Option Addr) × Option (Addr × Addr) × Option (Addr × Addr) × Option (List (Option (Str × Int × Int))) := (nmL.map (classAt s.heap), tabIn (wK s.heap) "_int2digits", tabIn (wK s.heap) "_digits2int", tokV s.heap 106)
def Yaa (w : World) : List (Option Addr) × Option (Addr × Addr) × Option (Addr × Addr) × Option (List (Option (Str × Int × Int))) := (adL.map some, some (34, 30), some (41, 37), some (tabE w.params tokT))
end
end Mine

open PySem PySem.Calls PySem.W PySem.Spec PyProof.Rows
set_option Elab.async false
set_option autoImplicit false
set_option maxRecDepth 100000
set_option genSizeOf false
set_option genInjectivity false
set_option linter.unusedVariables false
namespace Mine
noncomputable section
/-! the facts of the top -/
theorem tab_ne {o : Obj} {vs : Array Value} {i : Nat} {v : Value} (hd : o.data = .fields vs) (hv : vs[i]? = some v) : o ≠ tabObj #[] := fun q => by
  subst q; cases hd; cases hv
section
variable {h : Heap} {tabs : List (Addr × Addr)} {p : Program} {loose : List Str} {mean : ExcName → Option Value} {mg mb : Str → Option Value}
theorem fn_at (T : Top p loose mean mg mb h) (hT : TabsAt tabs h) {d : DefRec} (hd : d ∈ recsOf p) {a : Addr} (hm : mg d.name = some (.ref a)) : ∃ o pm cdv doc, (wK (ghostOf h tabs)).lookup a = some o ∧ o.data = .func (docDef d.name d.params d.body d.scope pm cdv doc) ∧ codeIn (wK (ghostOf h tabs)) cdv d.name = true := by
  obtain ⟨a', o, pm, cdv, doc, h1, h2, h3, c, oc, vs, t, h4, h5, h6, h7⟩ := T.fn d hd
  cases h1.symm.trans hm
  refine ⟨o, pm, cdv, doc, (wK_look _ _).trans (ghost_get hT h2 fun q => by rw [q] at h3; cases h3), h3, ?_⟩
  subst h4
  unfold codeIn
  obtain ⟨cc, cd, cda, csl⟩ := oc
  cases h6
  dsimp only
  rw [wK_look, ghost_get hT h5 (tab_ne rfl h7)]
  obtain ⟨l⟩ := vs
  match l, h7 with
  | _ :: .str n u :: _, h7 => cases h7; exact beq_self_eq_true _
theorem fnS_of {K : Frag} {f : Addr} {st : Stmt} {ps : List Str} {o : Obj} {cdv doc pm : Value} (hs : isDef st = true) (ho : K.lookup f = some o) (hda : o.data = .func (docDef (dD st).name (dD st).params (dD st).body (dD st).scope pm cdv doc)) (hc : codeIn K cdv (dD st).name = true)
    (hb : ∀ cs, cs.length = ps.length → bindArgs (docDef (dD st).name (dD st).params (dD st).body (dD st).scope pm cdv doc) ⟨cs, []⟩ = pure (ps.zip cs)) : FnS K f st cdv ps := by
  obtain ⟨oc, od, oda, osl⟩ := o
  cases hda
  cases st with
  | FunctionDef => exact ⟨oc, od, osl, _, _, _, _, _, _, ho, hc, hb⟩
  | _ => cases hs
theorem keep_of {K : Frag} {f : Addr} {o : Obj} {fd : FuncData} (ho : K.lookup f = some o) (hd : o.data = .func fd) : keepIn K (.ref f) = true := by
  obtain ⟨oc, od, oda, osl⟩ := o
  cases hd
  unfold keepIn
  dsimp only
  rw [ho]
end
theorem bind_div2n1n (pm cdv doc : Value) (cs : List Value) (h : cs.length = 3) : bindArgs (docDef (dD (bd 2)).name (dD (bd 2)).params (dD (bd 2)).body (dD (bd 2)).scope pm cdv doc) ⟨cs, []⟩ = pure ((["a", "b", "n"] : List Str).zip cs) := match cs, h with
  | [_, _, _], _ => rfl
theorem bind_int2digits (pm cdv doc : Value) (cs : List Value) (h : cs.length = 2) : bindArgs (docDef (dD (bd 4)).name (dD (bd 4)).params (dD (bd 4)).body (dD (bd 4)).scope pm cdv doc) ⟨cs, []⟩ = pure ((["a", "n"] : List Str).zip cs) := match cs, h with
  | [_, _], _ => rfl
theorem bind_digits2int (pm cdv doc : Value) (cs : List Value) (h : cs.length = 2) : bindArgs (docDef (dD (bd 5)).name (dD (bd 5)).params (dD (bd 5)).body (dD (bd 5)).scope pm cdv doc) ⟨cs, []⟩ = pure ((["digits", "n"] : List Str).zip cs) := match cs, h with
  | [_, _], _ => rfl
theorem bind_divmod_pos (pm cdv doc : Value) (cs : List Value) (h : cs.length = 2) : bindArgs (docDef (dD (bd 6)).name (dD (bd 6)).params (dD (bd 6)).body (dD (bd 6)).scope pm cdv doc) ⟨cs, []⟩ = pure ((["a", "b"] : List Str).zip cs) := match cs, h with
  | [_, _], _ => rfl
theorem bind_int_divmod (pm cdv doc : Value) (cs : List Value) (h : cs.length = 2) : bindArgs (docDef (dD (bd 7)).name (dD (bd 7)).params (dD (bd 7)).body (dD (bd 7)).scope pm cdv doc) ⟨cs, []⟩ = pure ((["a", "b"] : List Str).zip cs) := match cs, h with
  | [_, _], _ => rfl
theorem bind_add (pm cdv doc : Value) (cs : List Value) (h : cs.length = 2) : bindArgs (docDef (dD (bd 9)).name (dD (bd 9)).params (dD (bd 9)).body (dD (bd 9)).scope pm cdv doc) ⟨cs, []⟩ = pure ((["a", "b"] : List Str).zip cs) := match cs, h with
  | [_, _], _ => rfl
theorem bind_and_ (pm cdv doc : Value) (cs : List Value) (h : cs.length = 2) : bindArgs (docDef (dD (bd 10)).name (dD (bd 10)).params (dD (bd 10)).body (dD (bd 10)).scope pm cdv doc) ⟨cs, []⟩ = pure ((["a", "b"] : List Str).zip cs) := match cs, h with
  | [_, _], _ => rfl
theorem bind_inv (pm cdv doc : Value) (cs : List Value) (h : cs.length = 1) : bindArgs (docDef (dD (bd 11)).name (dD (bd 11)).params (dD (bd 11)).body (dD (bd 11)).scope pm cdv doc) ⟨cs, []⟩ = pure ((["a"] : List Str).zip cs) := match cs, h with
  | [_], _ => rfl
theorem bind_mul (pm cdv doc : Value) (cs : List Value) (h : cs.length = 2) : bindArgs (docDef (dD (bd 12)).name (dD (bd 12)).params (dD (bd 12)).body (dD (bd 12)).scope pm cdv doc) ⟨cs, []⟩ = pure ((["a", "b"] : List Str).zip cs) := match cs, h with
  | [_, _], _ => rfl
theorem bind_or_ (pm cdv doc : Value) (cs : List Value) (h : cs.length = 2) : bindArgs (docDef (dD (bd 13)).name (dD (bd 13)).params (dD (bd 13)).body (dD (bd 13)).scope pm cdv doc) ⟨cs, []⟩ = pure ((["a", "b"] : List Str).zip cs) := match cs, h with
  | [_, _], _ => rfl
theorem bind_sub (pm cdv doc : Value) (cs : List Value) (h : cs.length = 2) : bindArgs (docDef (dD (bd 14)).name (dD (bd 14)).params (dD (bd 14)).body (dD (bd 14)).scope pm cdv doc) ⟨cs, []⟩ = pure ((["a", "b"] : List Str).zip cs) := match cs, h with
  | [_, _], _ => rfl
theorem bind_xor (pm cdv doc : Value) (cs : List Value) (h : cs.length = 2) : bindArgs (docDef (dD (bd 15)).name (dD (bd 15)).params (dD (bd 15)).body (dD (bd 15)).scope pm cdv doc) ⟨cs, []⟩ = pure ((["a", "b"] : List Str).zip cs) := match cs, h with
  | [_, _], _ => rfl
theorem bind_ISNONTERMINAL (pm cdv doc : Value) (cs : List Value) (h : cs.length = 1) : bindArgs (docDef (dD (bd 68)).name (dD (bd 68)).params (dD (bd 68)).body (dD (bd 68)).scope pm cdv doc) ⟨cs, []⟩ = pure ((["x"] : List Str).zip cs) := match cs, h with
  | [_], _ => rfl
theorem bind_ISEOF (pm cdv doc : Value) (cs : List Value) (h : cs.length = 1) : bindArgs (docDef (dD (bd 69)).name (dD (bd 69)).params (dD (bd 69)).body (dD (bd 69)).scope pm cdv doc) ⟨cs, []⟩ = pure ((["x"] : List Str).zip cs) := match cs, h with
  | [_], _ => rfl
theorem bind_substitution_cost (pm cdv doc : Value) (cs : List Value) (h : cs.length = 2) : bindArgs (docDef (dD (bd 73)).name (dD (bd 73)).params (dD (bd 73)).body (dD (bd 73)).scope pm cdv doc) ⟨cs, []⟩ = pure ((["ch_a", "ch_b"] : List Str).zip cs) := match cs, h with
  | [_, _], _ => rfl
theorem bind_law_cells (pm cdv doc : Value) (cs : List Value) (h : cs.length = 1) : bindArgs (docDef (dD (bd 75)).name (dD (bd 75)).params (dD (bd 75)).body (dD (bd 75)).scope pm cdv doc) ⟨cs, []⟩ = pure ((["script"] : List Str).zip cs) := match cs, h with
  | [_], _ => rfl
theorem bind_law_symbols (pm cdv doc : Value) (cs : List Value) (h : cs.length = 1) : bindArgs (docDef (dD (bd 76)).name (dD (bd 76)).params (dD (bd 76)).body (dD (bd 76)).scope pm cdv doc) ⟨cs, []⟩ = pure ((["cells"] : List Str).zip cs) := match cs, h with
  | [_], _ => rfl
theorem bind_law_worths (pm cdv doc : Value) (cs : List Value) (h : cs.length = 1) : bindArgs (docDef (dD (bd 77)).name (dD (bd 77)).params (dD (bd 77)).body (dD (bd 77)).scope pm cdv doc) ⟨cs, []⟩ = pure ((["symbols"] : List Str).zip cs) := match cs, h with
  | [_], _ => rfl
theorem bind_law_added (pm cdv doc : Value) (cs : List Value) (h : cs.length = 2) : bindArgs (docDef (dD (bd 78)).name (dD (bd 78)).params (dD (bd 78)).body (dD (bd 78)).scope pm cdv doc) ⟨cs, []⟩ = pure ((["left", "right"] : List Str).zip cs) := match cs, h with
  | [_, _], _ => rfl
theorem bind_law_planes (pm cdv doc : Value) (cs : List Value) (h : cs.length = 1) : bindArgs (docDef (dD (bd 79)).name (dD (bd 79)).params (dD (bd 79)).body (dD (bd 79)).scope pm cdv doc) ⟨cs, []⟩ = pure ((["cells"] : List Str).zip cs) := match cs, h with
  | [_], _ => rfl
theorem bind_law (pm cdv doc : Value) (cs : List Value) (h : cs.length = 1) : bindArgs (docDef (dD (bd 80)).name (dD (bd 80)).params (dD (bd 80)).body (dD (bd 80)).scope pm cdv doc) ⟨cs, []⟩ = pure ((["script"] : List Str).zip cs) := match cs, h with
  | [_], _ => rfl
theorem mem_dL {d : DefRec} (h : d ∈ dL) : d ∈ recsOf vw := recs_eq ▸ h
theorem map_at {α β : Type} {f : α → β} {l : List α} {r : List β} (h : l.map f = r) {i : Nat} {a : α} (ha : l[i]? = some a) : r[i]? = some (f a) := by rw [← h, List.getElem?_map, ha]; rfl
end
end Mine

open PySem PySem.Calls PySem.W PySem.Spec PyProof.Rows
set_option Elab.async false
set_option autoImplicit false
set_option maxRecDepth 100000
set_option genSizeOf false
set_option genInjectivity false
set_option linter.unusedVariables false
namespace Mine
noncomputable section
def biL : List Str := ["range", "len", "sum", "sorted", "divmod", "list", "reversed", "enumerate"]
theorem bi_free : ∀ x ∈ biL, x ∉ startupNames ∧ x ∉ looseW vw lo ∧ x ∉ (recsOf vw).map (·.name) ∧ x ∉ (litsOf vw).map (·.1) ∧ x ∉ (clssOf vw (looseW vw lo)).map (·.name) := by decide +kernel
theorem const_of {p : Program} {loose : List Str} {mean : ExcName → Option Value} {mg mb : Str → Option Value} {h : Heap} (T : Top p loose mean mg mb h) {x : Str} {i : Int} (hv : valOf p x = some (.int i)) : ∃ t, mg x = some (.int i t) := by
  obtain ⟨v, h1, h2⟩ := T.const x _ hv
  have h2 := h2 h
  cases h2 with
  | int i t => exact ⟨t, h1⟩
section
variable {h : Heap} {tabs : List (Addr × Addr)} {loose : List Str} {mean : ExcName → Option Value} {mg mb : Str → Option Value}
theorem fS (T : Top vw loose mean mg mb h) (hT : TabsAt tabs h) (i : Nat) {st : Stmt} {a : Addr} {ps : List Str} (hs : isDef st = true) (hd : dL[i]? = some (dD st)) (hm : mg (dD st).name = some (.ref a))
    (hb : ∀ (pm cdv doc : Value) (cs : List Value), cs.length = ps.length → bindArgs (docDef (dD st).name (dD st).params (dD st).body (dD st).scope pm cdv doc) ⟨cs, []⟩ = pure (ps.zip cs)) : keepIn (wK (ghostOf h tabs)) (.ref a) = true ∧ ∃ cdv, FnS (wK (ghostOf h tabs)) a st cdv ps := by
  obtain ⟨o, pm, cdv, doc, h1, h2, h3⟩ := fn_at T hT (mem_dL (List.mem_of_getElem? hd)) hm
  exact ⟨keep_of h1 h2, cdv, fnS_of hs h1 h2 h3 (hb pm cdv doc)⟩
/-- and the code is the one whose table is known -/
theorem fSc (T : Top vw loose mean mg mb h) (hT : TabsAt tabs h) (i : Nat) {st : Stmt} {a : Addr} {ps : List Str} {K : Frag} {c P : Addr} (X : K.In h) (ht : tabIn K (dD st).name = some (c, P)) (hs : isDef st = true) (hd : dL[i]? = some (dD st)) (hm : mg (dD st).name = some (.ref a))
    (hb : ∀ (pm cdv doc : Value) (cs : List Value), cs.length = ps.length → bindArgs (docDef (dD st).name (dD st).params (dD st).body (dD st).scope pm cdv doc) ⟨cs, []⟩ = pure (ps.zip cs)) : FnS (wK (ghostOf h tabs)) a st (.ref c) ps := by
  obtain ⟨o, pm, cdv, doc, h1, h2, h3⟩ := fn_at T hT (mem_dL (List.mem_of_getElem? hd)) hm
  have e : cdv = .ref c := law_code X T.g ht hm (of_hideAll _ ((wK_look _ _).symm.trans h1)) h2
  subst e
  exact fnS_of hs h1 h2 h3 (hb pm _ doc)
end
theorem bs_of {w : World} {s₀ s₁ : Shared} {mg mb : Str → Option Value} {R : WRecords} {XP : (Str → Option Value) → Heap → Prop} (G : Ground vw lo R XP w s₀ mg mb s₁.heap) (Y : Yff s₀ = Yaa w) (keeps : ∀ b o, s₀.heap.get? b = some o → s₁.heap.get? b = some o) :
    ∃ C : Cx, Bs C ∧ C.prog = PySem.Challenge.pw_wf0066_01 ∧ C.w = w ∧ C.h₀ = ghostOf s₁.heap tabsL ∧ C.tabs = [30, 37] ∧ TabsAt tabsL s₁.heap ∧ mg "law" = some (.ref 165) := by
  have Y1 : nmL.map (classAt s₀.heap) = adL.map some := congrArg (fun x => x.1) Y
  have Y2 : tabIn (wK s₀.heap) "_int2digits" = some (34, 30) := congrArg (fun x => x.2.1) Y
  have Y3 : tabIn (wK s₀.heap) "_digits2int" = some (41, 37) := congrArg (fun x => x.2.2.1) Y
  have Y4 : tokV s₀.heap 106 = some (tabE w.params tokT) := congrArg (fun x => x.2.2.2) Y
  have T := G.T
  have X0 : (wK s₀.heap).In s₁.heap := (wK_in _).keeps keeps
  have c1 := tab_of (x := "_int2digits") (d := dD (bd 4)) T X0 (by rw [recs_eq]; rfl) Y2
  have c2 := tab_of (x := "_digits2int") (d := dD (bd 5)) T X0 (by rw [recs_eq]; rfl) Y3
  have hT : TabsAt tabsL s₁.heap := fun q hq => by
    rcases List.mem_cons.mp hq with rfl | hq
    · exact c1
    · cases List.mem_singleton.mp hq; exact c2
  have mgA : ∀ (i : Nat) (x : Str) (a : Addr), nmL[i]? = some x → adL[i]? = some a → mg x = some (.ref a) := fun i x a h1 h2 => by
    have h3 := map_at Y1 h1
    rw [List.getElem?_map, h2] at h3
    exact (G.cls x a).mp (Option.some.inj h3).symm
  have T' := ghost_top hT T
  have ns : ∀ x, nsIn (wK (ghostOf s₁.heap tabsL)) mainGlobals x = some (mg x) := wK_ns T'.g
  have nb : ∀ x ∈ biL, nsIn (wK (ghostOf s₁.heap tabsL)) mainGlobals x = some none := fun x hx => by
    obtain ⟨f1, f2, f3, f4, f5⟩ := bi_free x hx
    rw [ns, T.free x f1 f2 f3 f4 f5]
  have nc : ∀ (x : Str) (i : Int), valOf vw x = some (.int i) → ∃ t, nsIn (wK (ghostOf s₁.heap tabsL)) mainGlobals x = some (some (.int i t)) := fun x i h => (const_of T h).imp fun t h => by rw [ns, h]
  have nf : ∀ (i : Nat) (x : Str) (a : Addr), nmL[i]? = some x → adL[i]? = some a → nsIn (wK (ghostOf s₁.heap tabsL)) mainGlobals x = some (some (.ref a)) := fun i x a h1 h2 => by rw [ns, mgA i x a h1 h2]
  have gc := ghost_code hT
  obtain ⟨es, k, t1, t2⟩ := tokV_of Y4
  have f_div2n1n := fS T hT 0 (st := bd 2) (a := 21) (ps := ["a", "b", "n"]) rfl rfl (mgA 0 _ _ rfl rfl) bind_div2n1n
  have f_int2digits := fS T hT 1 (st := bd 4) (a := 35) (ps := ["a", "n"]) rfl rfl (mgA 1 _ _ rfl rfl) bind_int2digits
  have f_digits2int := fS T hT 2 (st := bd 5) (a := 42) (ps := ["digits", "n"]) rfl rfl (mgA 2 _ _ rfl rfl) bind_digits2int
  have f_divmod_pos := fS T hT 3 (st := bd 6) (a := 49) (ps := ["a", "b"]) rfl rfl (mgA 3 _ _ rfl rfl) bind_divmod_pos
  have f_int_divmod := fS T hT 4 (st := bd 7) (a := 56) (ps := ["a", "b"]) rfl rfl (mgA 4 _ _ rfl rfl) bind_int_divmod
  have f_add := fS T hT 5 (st := bd 9) (a := 63) (ps := ["a", "b"]) rfl rfl (mgA 5 _ _ rfl rfl) bind_add
  have f_and_ := fS T hT 6 (st := bd 10) (a := 70) (ps := ["a", "b"]) rfl rfl (mgA 6 _ _ rfl rfl) bind_and_
  have f_inv := fS T hT 7 (st := bd 11) (a := 77) (ps := ["a"]) rfl rfl (mgA 7 _ _ rfl rfl) bind_inv
  have f_mul := fS T hT 8 (st := bd 12) (a := 84) (ps := ["a", "b"]) rfl rfl (mgA 8 _ _ rfl rfl) bind_mul
  have f_or_ := fS T hT 9 (st := bd 13) (a := 91) (ps := ["a", "b"]) rfl rfl (mgA 9 _ _ rfl rfl) bind_or_
  have f_sub := fS T hT 10 (st := bd 14) (a := 98) (ps := ["a", "b"]) rfl rfl (mgA 10 _ _ rfl rfl) bind_sub
  have f_xor := fS T hT 11 (st := bd 15) (a := 105) (ps := ["a", "b"]) rfl rfl (mgA 11 _ _ rfl rfl) bind_xor
  have f_ISNONTERMINAL := fS T hT 12 (st := bd 68) (a := 115) (ps := ["x"]) rfl rfl (mgA 12 _ _ rfl rfl) bind_ISNONTERMINAL
  have f_ISEOF := fS T hT 13 (st := bd 69) (a := 122) (ps := ["x"]) rfl rfl (mgA 13 _ _ rfl rfl) bind_ISEOF
  have f_substitution_cost := fS T hT 14 (st := bd 73) (a := 129) (ps := ["ch_a", "ch_b"]) rfl rfl (mgA 14 _ _ rfl rfl) bind_substitution_cost
  have f_law_cells := fS T hT 15 (st := bd 75) (a := 136) (ps := ["script"]) rfl rfl (mgA 15 _ _ rfl rfl) bind_law_cells
  have f_law_symbols := fS T hT 16 (st := bd 76) (a := 143) (ps := ["cells"]) rfl rfl (mgA 16 _ _ rfl rfl) bind_law_symbols
  have f_law_worths := fS T hT 17 (st := bd 77) (a := 148) (ps := ["symbols"]) rfl rfl (mgA 17 _ _ rfl rfl) bind_law_worths
  have f_law_added := fS T hT 18 (st := bd 78) (a := 155) (ps := ["left", "right"]) rfl rfl (mgA 18 _ _ rfl rfl) bind_law_added
  have f_law_planes := fS T hT 19 (st := bd 79) (a := 160) (ps := ["cells"]) rfl rfl (mgA 19 _ _ rfl rfl) bind_law_planes
  have f_law := fS T hT 20 (st := bd 80) (a := 165) (ps := ["script"]) rfl rfl (mgA 20 _ _ rfl rfl) bind_law
  refine ⟨{ prog := PySem.Challenge.pw_wf0066_01, w := w, K := wK (ghostOf s₁.heap tabsL), h₀ := ghostOf s₁.heap tabsL, p := topProg, loose := _, mean := _, mg := mg, mb := mb, X := wK_in _, T := T', tabs := [30, 37], tq := fun P => if P = 30 then "_int2digits.<locals>.inner" else "_digits2int.<locals>.inner", fz := [] }, ?_, rfl, rfl, rfl, rfl, hT, mgA 20 _ _ rfl rfl⟩
  refine {
    hz := rfl
    n_range := nb _ (List.mem_of_getElem? (i := 0) rfl)
    n_len := nb _ (List.mem_of_getElem? (i := 1) rfl)
    n_sum := nb _ (List.mem_of_getElem? (i := 2) rfl)
    n_sorted := nb _ (List.mem_of_getElem? (i := 3) rfl)
    n_divmod := nb _ (List.mem_of_getElem? (i := 4) rfl)
    n_list := nb _ (List.mem_of_getElem? (i := 5) rfl)
    n_reversed := nb _ (List.mem_of_getElem? (i := 6) rfl)
    n_enumerate := nb _ (List.mem_of_getElem? (i := 7) rfl)
    n_NT_OFFSET := nc _ _ (by kernel_rfl)
    n_ENDMARKER := nc _ _ (by kernel_rfl)
    n_CASE_COST := nc _ _ (by kernel_rfl)
    n_MOVE_COST := nc _ _ (by kernel_rfl)
    n_DIV_LIMIT := nc _ _ (by kernel_rfl)
    n_div2n1n := nf 0 _ _ rfl rfl
    k_div2n1n := f_div2n1n.1
    b_div2n1n := f_div2n1n.2
    n_int2digits := nf 1 _ _ rfl rfl
    k_int2digits := f_int2digits.1
    b_int2digits := ⟨34, 30, fSc T hT 1 (st := bd 4) (a := 35) (ps := ["a", "n"]) X0 Y2 rfl rfl (mgA 1 _ _ rfl rfl) bind_int2digits, gc.1, List.mem_cons_self, rfl⟩
    n_digits2int := nf 2 _ _ rfl rfl
    k_digits2int := f_digits2int.1
    b_digits2int := ⟨41, 37, fSc T hT 2 (st := bd 5) (a := 42) (ps := ["digits", "n"]) X0 Y3 rfl rfl (mgA 2 _ _ rfl rfl) bind_digits2int, gc.2.1, List.mem_cons_of_mem _ List.mem_cons_self, rfl⟩
    n_divmod_pos := nf 3 _ _ rfl rfl
    k_divmod_pos := f_divmod_pos.1
    b_divmod_pos := f_divmod_pos.2
    n_int_divmod := nf 4 _ _ rfl rfl
    k_int_divmod := f_int_divmod.1
    b_int_divmod := f_int_divmod.2
    n_add := nf 5 _ _ rfl rfl
    k_add := f_add.1
    b_add := f_add.2
    n_and_ := nf 6 _ _ rfl rfl
    k_and_ := f_and_.1
    b_and_ := f_and_.2
    n_inv := nf 7 _ _ rfl rfl
    k_inv := f_inv.1
    b_inv := f_inv.2
    n_mul := nf 8 _ _ rfl rfl
    k_mul := f_mul.1
    b_mul := f_mul.2
    n_or_ := nf 9 _ _ rfl rfl
    k_or_ := f_or_.1
    b_or_ := f_or_.2
    n_sub := nf 10 _ _ rfl rfl
    k_sub := f_sub.1
    b_sub := f_sub.2
    n_xor := nf 11 _ _ rfl rfl
    k_xor := f_xor.1
    b_xor := f_xor.2
    n_ISNONTERMINAL := nf 12 _ _ rfl rfl
    k_ISNONTERMINAL := f_ISNONTERMINAL.1
    b_ISNONTERMINAL := f_ISNONTERMINAL.2
    n_ISEOF := nf 13 _ _ rfl rfl
    k_ISEOF := f_ISEOF.1
    b_ISEOF := f_ISEOF.2
    n_substitution_cost := nf 14 _ _ rfl rfl
    k_substitution_cost := f_substitution_cost.1
    b_substitution_cost := f_substitution_cost.2
    n_law_cells := nf 15 _ _ rfl rfl
    k_law_cells := f_law_cells.1
    b_law_cells := f_law_cells.2
    n_law_symbols := nf 16 _ _ rfl rfl
    k_law_symbols := f_law_symbols.1
    b_law_symbols := f_law_symbols.2
    n_law_worths := nf 17 _ _ rfl rfl
    k_law_worths := f_law_worths.1
    b_law_worths := f_law_worths.2
    n_law_added := nf 18 _ _ rfl rfl
    k_law_added := f_law_added.1
    b_law_added := f_law_added.2
    n_law_planes := nf 19 _ _ rfl rfl
    k_law_planes := f_law_planes.1
    b_law_planes := f_law_planes.2
    b_law := f_law.2
    tok := ⟨106, es, k, nf 21 _ _ rfl rfl, (wK_look _ _).trans (ghost_get hT (keeps _ _ t1) nofun), keys_of t2, fun p hp => ?_⟩ }
  have hl : tokT.lookup p.1 = some p.2 := (show ∀ p ∈ tokTab, tokT.lookup p.1 = some p.2 by decide +kernel) p hp
  obtain ⟨e, t, q1, q2⟩ := find_of t2 hl
  refine ⟨t, ?_⟩
  show nsIn (wK (ghostOf s₁.heap tabsL)) 106 p.1 = _
  unfold nsIn
  rw [wK_look, ghost_get hT (keeps _ _ t1) nofun]
  dsimp only
  rw [q1]
  dsimp only
  rw [q2]
end
end Mine

open PySem PySem.Calls PySem.W PySem.Spec PyProof.Rows PySem.W.X
set_option Elab.async false
set_option autoImplicit false
set_option maxRecDepth 100000
set_option maxHeartbeats 4000000
set_option genSizeOf false
set_option genInjectivity false
set_option linter.unusedVariables false
namespace Mine
noncomputable section
theorem tabs_mem {C : Cx} (e : C.tabs = [30, 37]) {P : Addr} (h : P ∈ C.tabs) : ∃ c, (c, P) ∈ tabsL := by
  rw [e] at h
  rcases List.mem_cons.mp h with rfl | h
  · exact ⟨34, List.mem_cons_self⟩
  · cases List.mem_singleton.mp h; exact ⟨41, List.mem_cons_of_mem _ List.mem_cons_self⟩
theorem hr_start {C : Cx} (hz : C.fz = []) {s₁ : Shared} (e3 : C.h₀ = ghostOf s₁.heap tabsL) (e4 : C.tabs = [30, 37]) (hT : TabsAt tabsL s₁.heap) : HR C [] [] s₁ where
  len := rfl
  obj i o a h := by cases h
  nodup := List.nodup_nil
  base b o e := of_hideAll _ (e3 ▸ e)
  fresh a h := nomatch h
  tab P hP := by
    obtain ⟨c, hc⟩ := tabs_mem e4 hP
    exact ⟨List.not_mem_nil, by rw [e3]; exact hideAll_none _ (List.mem_map_of_mem hc), #[], (hT _ hc).2, trivial, fun pos cv e => by cases e⟩
  frz p hp := by rw [hz] at hp; cases hp
theorem law_old {C : Cx} {s₁ s' : Shared} {φ' : List Addr} {hp' : Hp} (e3 : C.h₀ = ghostOf s₁.heap tabsL) (e4 : C.tabs = [30, 37]) (hT : TabsAt tabsL s₁.heap) (S : Step C [] [] s₁ φ' s') (H : HR C hp' φ' s') : OldK s₁.heap s'.heap := by
  have tb : ∀ b, b ∈ C.tabs ∨ ∀ o, s₁.heap.get? b = some o → s'.heap.get? b = some o := fun b => by
    by_cases h : b ∈ C.tabs
    · exact .inl h
    · exact .inr fun o e => S.keep b o List.not_mem_nil List.not_mem_nil h e
  have grown : ∀ b o, b ∈ C.tabs → s₁.heap.get? b = some o → isCodeTable s₁.heap b ∧ o = tabObj #[] ∧ ∃ ps, s'.heap.get? b = some (tabObj ps) := fun b o hb e => by
    obtain ⟨c, hc⟩ := tabs_mem e4 hb
    have e2 := (hT _ hc).2
    rw [e] at e2
    obtain ⟨ps, hps, _⟩ := (H.tab b hb).2.2
    exact ⟨((hT _ hc).1.tab (hT _ hc).2).isCodeTable, Option.some.inj e2, ps, hps⟩
  refine ⟨fun b o e => ?_, fun b o e => ?_⟩
  · rcases tb b with hb | hb
    · obtain ⟨ht, rfl, ps, hP⟩ := grown b o hb e
      exact .inr (.inl ⟨ht, rfl, #[], ps, rfl, by rw [Array.empty_append]; exact hP⟩)
    · exact .inl (hb o e)
  · rcases tb b with hb | hb
    · obtain ⟨_, _, ps, hP⟩ := grown b o hb e
      exact ⟨_, hP⟩
    · exact ⟨o, hb o e⟩
theorem law_run {C : Cx} (B : Bs C) {s₁ : Shared} (e3 : C.h₀ = ghostOf s₁.heap tabsL) (e4 : C.tabs = [30, 37]) (hT : TabsAt tabsL s₁.heap) {a : Addr} {cs : List Value} {l : List Int} (hL : s₁.heap.IsList a cs.toArray) (hI : IntsAre cs l) (h63 : l.length ≤ 63) :
    wpAny (model C.prog C.w) callerA (call (.ref 165) [.ref a]) (fun v s' => v = .bool true ∧ OldK s₁.heap s'.heap ∧ s'.os = s₁.os ∧ s'.gens = s₁.gens) noE s₁ := by
  have Sc : Scr C a l := ⟨⟨cs, by rw [e3]; exact ghost_list hT hL, hI⟩, by omega⟩
  obtain ⟨hp', K⟩ := cl_law (n := 0) B Sc (law_plain l) s₁
  have R : Room callerA 14 := ⟨rfl, by decide +kernel, by decide +kernel⟩
  refine wpF (K callerA [] [.ref a] R (hr_start B.hz e3 e4 hT) (.cons rfl .nil)) fun c s' ⟨φ', S, H, r⟩ => ⟨r, law_old e3 e4 hT S H, ?_⟩
  obtain ⟨h', tk', rfl⟩ := S.same
  exact ⟨rfl, rfl⟩
theorem law_walk {d : DefRec} {kwd : List (Str × Expr)} (hn : d.name = "law") : WalkX vw lo (XL vw []) Yff Yaa (OpenRow.toRowW PySem.Challenge.rw_wf0066_01.row) d kwd fun f vs => PySem.call f vs := by
  intro w s₀ s₁ mg mb G Y fa o pm cd doc dV kV ho hd hcd hD hmg hg args vals as hL hpre hlay hrd hwl hlo
  obtain ⟨C, B, eC1, eC2, eC3, eC4, hT, hm⟩ := bs_of G Y hL.keeps
  rw [hn, hm] at hmg
  cases hmg
  wrow_args hpre hlay hrd hwl hlo
  rename_i l _ _ _ _ _ _ _ a cs _ hLs _ _ _ hI _ hlen _
  have h63 : l.length ≤ 63 := by omega
  have K := law_run B eC3 eC4 hT hLs hI h63
  rw [eC1, eC2] at K
  refine wpAny_mono K (fun v s' h => ?_) fun _ _ e => e.elim
  obtain ⟨rfl, h2, h3, h4⟩ := h
  refine ⟨.inl ⟨.bool true, .bool true, [], rfl, fun _ => rfl, .bool true, ?_, fun _ => ⟨List.nodup_nil, fun _ h => nomatch h⟩⟩, h2, h3, .of_eq (h4.trans hg)⟩
  wrow_post
end
end Mine

open PySem PySem.Calls PySem.W PySem.Spec PyProof.Rows PySem.W.X
set_option Elab.async false
set_option autoImplicit false
set_option maxRecDepth 100000
set_option maxHeartbeats 8000000
set_option genSizeOf false
set_option genInjectivity false
set_option linter.unusedVariables false
namespace Mine
noncomputable section
def Xtt (s : Shared) : Bool := xlAt vw [] s && recOk (RowW.records (OpenRow.toRowW PySem.Challenge.rw_wf0066_01.row)) s
def LO (w : World) : Prop := (openEnds treeTable PySem.Challenge.pw_wf0066_01 w 2300).map (fun s => (openSeen vw lo (importedModules PySem.Challenge.pw_wf0066_01.main.body) Xtt true s, Yff s)) = some (openGood vw lo, Yaa w)
theorem hlF : ∀ w : World, LO (w.withFollow "special-get-raises" false) := fun w => by
  unfold LO openEnds fencedOpening topFrom
  rw [PySem.W.Fast.te14364793385576792824, PySem.W.Fast.te14082659384304107361, PySem.W.Fast.te10274390034422433532, PySem.W.Fast.te4187177175401517315, PySem.W.Fast.te5923862056798008813]
  kernel_rfl
theorem hlT : ∀ w : World, LO (w.withFollow "special-get-raises" true) := fun w => by
  unfold LO openEnds fencedOpening topFrom
  rw [PySem.W.Fast.te14364793385576792824, PySem.W.Fast.te14082659384304107361, PySem.W.Fast.te10274390034422433532, PySem.W.Fast.te4187177175401517315, PySem.W.Fast.te5923862056798008813]
  kernel_rfl
theorem hl (w : World) : LO w := byRow2 "special-get-raises" hlF hlT w
end
end Mine

open PySem PySem.Calls PySem.W PySem.Spec PyProof.Rows PySem.W.X
set_option Elab.async false
set_option autoImplicit false
set_option maxRecDepth 100000
set_option maxHeartbeats 8000000 in
theorem PySem.Challenge.cw_wf0066_01_holds : PySem.Challenge.rw_wf0066_01.Holds := by
  w_on
  refine holds_law (by decide +kernel) fun said => ?_
  refine holds_openX (q := Mine.vw) (loose := Mine.lo) (Xt := Mine.Xtt) (XP := XL Mine.vw []) (Yf := Mine.Yff) (Ya := Mine.Yaa) (N := 2300) Mine.hl (fun s e => xl_of s (Bool.and_eq_true_iff.mp e).1) XL.keeps (by rfl) (by rfl) (by rfl) (fun s e => recFacts_of (Bool.and_eq_true_iff.mp e).2) (by rfl) (by first | assumption | decide +kernel) (by decide +kernel) ⟨rfl, rfl, rfl, rfl, rfl, by decide +kernel⟩ ?hw (Mine.law_walk rfl)
  case hw => w_witness2
