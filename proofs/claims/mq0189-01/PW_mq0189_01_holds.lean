import PyProof.Rows.All
import Wide.All
import OpenK.AllK
import Wide.FinOn
import PySem.Challenge.RW_mq0189_01
set_option Elab.async false

/-! # C1 -/
section
open PySem PySem.W PyProof.Rows
set_option Elab.async false
namespace Mine

/-! ## The state: a frozen part z that only grows, and a list of own (mutable) objects -/
abbrev Fz := Addr → Option Obj
abbrev Ass := Addr × (Obj → Prop)
noncomputable def Kp (h h' : Heap) : Prop := ∀ b o, h.get? b = some o → h'.get? b = some o
theorem Kp.refl (h : Heap) : Kp h h := fun _ _ e => e
theorem Kp.trans {h h' h'' : Heap} (x : Kp h h') (y : Kp h' h'') : Kp h h'' := fun b o e => y b o (x b o e)
noncomputable def FzIn (z : Fz) (h : Heap) : Prop := ∀ a o, z a = some o → h.get? a = some o
noncomputable def zset (z : Fz) (a : Addr) (o : Obj) : Fz := fun b => if b = a then some o else z b
theorem zset_same (z : Fz) (a : Addr) (o : Obj) : zset z a o a = some o := if_pos rfl
theorem zset_ne {z : Fz} {a b : Addr} {o : Obj} (h : b ≠ a) : zset z a o b = z b := if_neg h

structure Grow (z z' : Fz) (s s' : Shared) : Prop where
  same : ∃ h tk, s' = { s with heap := h, toks := tk }
  keep : Kp s.heap s'.heap
  frz : FzIn z' s'.heap
  le : ∀ a o, z a = some o → z' a = some o
  new : ∀ a, z a = none → s.heap.get? a ≠ none → z' a = none

structure MSt (s₀ : Shared) (z₀ z : Fz) (own : List Ass) (s : Shared) : Prop where
  gr : Grow z₀ z s₀ s
  ow : ∀ p ∈ own, (∃ o, s.heap.get? p.1 = some o ∧ p.2 o) ∧ z p.1 = none ∧ s₀.heap.get? p.1 = none
  nd : own.Pairwise fun p q => p.1 ≠ q.1

section
variable {s₀ s : Shared} {z₀ z z' : Fz} {own : List Ass} {a : Addr} {φ φ' : Obj → Prop}

theorem Grow.refl {z : Fz} {s : Shared} (h : FzIn z s.heap) : Grow z z s s := ⟨⟨s.heap, s.toks, rfl⟩, Kp.refl _, h, fun _ _ e => e, fun _ e _ => e⟩

theorem lt_of_get {h : Heap} {a : Addr} {o : Obj} (e : h.get? a = some o) : a < h.objs.size := Heap.lt_size e
theorem get_size (h : Heap) : h.get? h.objs.size = none := by
  cases e : h.get? h.objs.size with
  | none => rfl
  | some o => exact absurd (Heap.lt_size e) (Nat.lt_irrefl _)

theorem MSt.tok (S : MSt s₀ z₀ z own s) (tk : Nat) : MSt s₀ z₀ z own { s with toks := tk } :=
  ⟨⟨let ⟨h, _, e⟩ := S.gr.same; ⟨h, tk, by rw [e]⟩, S.gr.keep, S.gr.frz, S.gr.le, S.gr.new⟩, S.ow, S.nd⟩

theorem MSt.zIn (S : MSt s₀ z₀ z own s) : FzIn z s.heap := S.gr.frz

theorem MSt.get0 (S : MSt s₀ z₀ z ((a, φ) :: own) s) : ∃ o, s.heap.get? a = some o ∧ φ o := (S.ow _ List.mem_cons_self).1
theorem MSt.get1 {p : Ass} (S : MSt s₀ z₀ z (p :: (a, φ) :: own) s) : ∃ o, s.heap.get? a = some o ∧ φ o := (S.ow (a, φ) (by simp)).1
theorem MSt.get2 {p q : Ass} (S : MSt s₀ z₀ z (p :: q :: (a, φ) :: own) s) : ∃ o, s.heap.get? a = some o ∧ φ o := (S.ow (a, φ) (by simp)).1
theorem MSt.get (S : MSt s₀ z₀ z own s) (hm : (a, φ) ∈ own) : ∃ o, s.heap.get? a = some o ∧ φ o := (S.ow _ hm).1

theorem MSt.size_z (S : MSt s₀ z₀ z own s) : z s.heap.objs.size = none := by
  cases e : z s.heap.objs.size with
  | none => rfl
  | some o => have := S.gr.frz _ _ e; rw [get_size] at this; cases this
theorem MSt.size_s₀ (S : MSt s₀ z₀ z own s) : s₀.heap.get? s.heap.objs.size = none := by
  cases e : s₀.heap.get? s.heap.objs.size with
  | none => rfl
  | some o => have := S.gr.keep _ _ e; rw [get_size] at this; cases this
theorem MSt.size_own (S : MSt s₀ z₀ z own s) : ∀ p ∈ own, p.1 ≠ s.heap.objs.size := fun p hp e => by
  obtain ⟨⟨o, ho, _⟩, _⟩ := S.ow p hp
  rw [e, get_size] at ho; cases ho

theorem MSt.pushZ (S : MSt s₀ z₀ z own s) (o : Obj) (hf : o.isFreed = false := by rfl) : MSt s₀ z₀ (zset z s.heap.objs.size o) own { s with heap := s.heap.push o } := by
  refine ⟨⟨?_, ?_, ?_, ?_, ?_⟩, ?_, S.nd⟩
  · obtain ⟨h, tk, e⟩ := S.gr.same; exact ⟨s.heap.push o, tk, by rw [e]⟩
  · exact fun b o' e => Heap.get?_push_of_some _ (S.gr.keep b o' e)
  · intro b o' e
    by_cases hb : b = s.heap.objs.size
    · subst hb; rw [zset_same] at e; cases e; exact Heap.get?_push_size _ hf
    · rw [zset_ne hb] at e; exact Heap.get?_push_of_some _ (S.gr.frz b o' e)
  · intro b o' e
    have := S.gr.le b o' e
    rw [zset_ne ?_]; exact this
    intro hb; rw [hb, S.size_z] at this; cases this
  · intro b e hb
    rw [zset_ne ?_]; exact S.gr.new b e hb
    intro hbs; rw [hbs, S.size_s₀] at hb; exact hb rfl
  · intro p hp
    obtain ⟨⟨o', ho, hφ⟩, h2, h3⟩ := S.ow p hp
    exact ⟨⟨o', Heap.get?_push_of_some _ ho, hφ⟩, by rw [zset_ne (S.size_own p hp)]; exact h2, h3⟩

theorem MSt.keepOwn (S : MSt s₀ z₀ z own s) {s' : Shared} {h' : Heap} {tk : Nat} (e : s' = { s with heap := h', toks := tk }) (hk : Kp s.heap h') : MSt s₀ z₀ z own s' := by
  subst e
  refine ⟨⟨?_, S.gr.keep.trans hk, fun b o e => hk b o (S.gr.frz b o e), S.gr.le, S.gr.new⟩, ?_, S.nd⟩
  · obtain ⟨h, tk', e⟩ := S.gr.same; exact ⟨h', tk, by rw [e]⟩
  · intro p hp
    obtain ⟨⟨o, ho, hφ⟩, h2⟩ := S.ow p hp
    exact ⟨⟨o, hk _ _ ho, hφ⟩, h2⟩

theorem MSt.cons (S : MSt s₀ z₀ z own s) {o : Obj} (ho : s.heap.get? a = some o) (hφ : φ o) (hz : z a = none) (h0 : s₀.heap.get? a = none) (hn : ∀ p ∈ own, p.1 ≠ a) : MSt s₀ z₀ z ((a, φ) :: own) s := by
  refine ⟨S.gr, ?_, List.pairwise_cons.mpr ⟨fun p hp e => hn p hp e.symm, S.nd⟩⟩
  intro p hp
  rcases List.mem_cons.mp hp with rfl | hp
  · exact ⟨⟨o, ho, hφ⟩, hz, h0⟩
  · exact S.ow p hp

theorem MSt.pushO (S : MSt s₀ z₀ z own s) (o : Obj) (hφ : φ o) (hf : o.isFreed = false := by rfl) : MSt s₀ z₀ z ((s.heap.objs.size, φ) :: own) { s with heap := s.heap.push o } := by
  have S' : MSt s₀ z₀ z own { s with heap := s.heap.push o } := S.keepOwn (h' := s.heap.push o) (tk := s.toks) rfl fun b o' e => Heap.get?_push_of_some _ e
  exact S'.cons (Heap.get?_push_size _ hf) hφ S.size_z S.size_s₀ S.size_own

/-- only the object at a has changed (others may have come) -/
theorem MSt.dropAt (l₁ l₂ : List Ass) (S : MSt s₀ z₀ z (l₁ ++ (a, φ) :: l₂) s) {h' : Heap} {tk : Nat} (hx : Heap.ExtBut a s.heap h') : MSt s₀ z₀ z (l₁ ++ l₂) { s with heap := h', toks := tk } := by
  have hmem : (a, φ) ∈ l₁ ++ (a, φ) :: l₂ := by simp
  obtain ⟨⟨o, ho, _⟩, hz, h0⟩ := S.ow _ hmem
  have hsub : ∀ p ∈ l₁ ++ l₂, p ∈ l₁ ++ (a, φ) :: l₂ := fun p hp => by
    rcases List.mem_append.mp hp with h | h
    · exact List.mem_append_left _ h
    · exact List.mem_append_right _ (List.mem_cons_of_mem _ h)
  have hne : ∀ p ∈ l₁ ++ l₂, p.1 ≠ a := fun p hp => by
    obtain ⟨h1, h2, h3⟩ := List.pairwise_append.mp S.nd
    rcases List.mem_append.mp hp with h | h
    · exact h3 p h _ List.mem_cons_self
    · exact fun e => (List.pairwise_cons.mp h2).1 p h e.symm
  refine ⟨⟨?_, ?_, ?_, S.gr.le, S.gr.new⟩, ?_, ?_⟩
  · obtain ⟨h, tk', e⟩ := S.gr.same; exact ⟨h', tk, by rw [e]⟩
  · intro b o' e
    exact hx b o' (by rintro rfl; rw [h0] at e; cases e) (S.gr.keep b o' e)
  · intro b o' e
    exact hx b o' (by rintro rfl; rw [hz] at e; cases e) (S.gr.frz b o' e)
  · intro p hp
    obtain ⟨⟨o', ho', hφ⟩, h2⟩ := S.ow p (hsub p hp)
    exact ⟨⟨o', hx _ _ (hne p hp) ho', hφ⟩, h2⟩
  · exact S.nd.sublist (List.Sublist.append_left (List.sublist_cons_self _ _) _)

theorem MSt.updAt (l₁ l₂ : List Ass) (S : MSt s₀ z₀ z (l₁ ++ (a, φ) :: l₂) s) {h' : Heap} {tk : Nat} (hx : Heap.ExtBut a s.heap h') {o : Obj} (ho : h'.get? a = some o) (hφ : φ' o) :
    MSt s₀ z₀ z (l₁ ++ (a, φ') :: l₂) { s with heap := h', toks := tk } := by
  have D := S.dropAt l₁ l₂ (tk := tk) hx
  have hmem : (a, φ) ∈ l₁ ++ (a, φ) :: l₂ := by simp
  obtain ⟨_, hz, h0⟩ := S.ow _ hmem
  obtain ⟨h1, h2, h3⟩ := List.pairwise_append.mp S.nd
  refine ⟨D.gr, ?_, ?_⟩
  · intro p hp
    rcases List.mem_append.mp hp with h | h
    · exact D.ow p (List.mem_append_left _ h)
    · rcases List.mem_cons.mp h with rfl | h
      · exact ⟨⟨o, ho, hφ⟩, hz, h0⟩
      · exact D.ow p (List.mem_append_right _ h)
  · refine List.pairwise_append.mpr ⟨h1, ?_, ?_⟩
    · exact List.pairwise_cons.mpr ⟨(List.pairwise_cons.mp h2).1, (List.pairwise_cons.mp h2).2⟩
    · intro p hp q hq
      rcases List.mem_cons.mp hq with rfl | hq
      · exact h3 p hp (a, φ) List.mem_cons_self
      · exact h3 p hp q (List.mem_cons_of_mem _ hq)

theorem MSt.upd0 (S : MSt s₀ z₀ z ((a, φ) :: own) s) {h' : Heap} {tk : Nat} (hx : Heap.ExtBut a s.heap h') {o : Obj} (ho : h'.get? a = some o) (hφ : φ' o) :
    MSt s₀ z₀ z ((a, φ') :: own) { s with heap := h', toks := tk } := MSt.updAt [] own S hx ho hφ
theorem MSt.upd1 {p : Ass} (S : MSt s₀ z₀ z (p :: (a, φ) :: own) s) {h' : Heap} {tk : Nat} (hx : Heap.ExtBut a s.heap h') {o : Obj} (ho : h'.get? a = some o) (hφ : φ' o) :
    MSt s₀ z₀ z (p :: (a, φ') :: own) { s with heap := h', toks := tk } := MSt.updAt [p] own S hx ho hφ
theorem MSt.upd2 {p q : Ass} (S : MSt s₀ z₀ z (p :: q :: (a, φ) :: own) s) {h' : Heap} {tk : Nat} (hx : Heap.ExtBut a s.heap h') {o : Obj} (ho : h'.get? a = some o) (hφ : φ' o) :
    MSt s₀ z₀ z (p :: q :: (a, φ') :: own) { s with heap := h', toks := tk } := MSt.updAt [p, q] own S hx ho hφ
theorem MSt.drop0 (S : MSt s₀ z₀ z ((a, φ) :: own) s) {h' : Heap} {tk : Nat} (hx : Heap.ExtBut a s.heap h') : MSt s₀ z₀ z own { s with heap := h', toks := tk } := MSt.dropAt [] own S hx
theorem MSt.drop1 {p : Ass} (S : MSt s₀ z₀ z (p :: (a, φ) :: own) s) {h' : Heap} {tk : Nat} (hx : Heap.ExtBut a s.heap h') : MSt s₀ z₀ z (p :: own) { s with heap := h', toks := tk } := MSt.dropAt [p] own S hx

theorem MSt.sub {own' : List Ass} (S : MSt s₀ z₀ z own s) (h : own'.Sublist own) : MSt s₀ z₀ z own' s := ⟨S.gr, fun p hp => S.ow p (h.subset hp), S.nd.sublist h⟩
theorem MSt.forget0 {p : Ass} (S : MSt s₀ z₀ z (p :: own) s) : MSt s₀ z₀ z own s := S.sub (List.sublist_cons_self _ _)
theorem MSt.forget1 {p q : Ass} (S : MSt s₀ z₀ z (p :: q :: own) s) : MSt s₀ z₀ z (p :: own) s := S.sub (.cons_cons _ (List.sublist_cons_self _ _))

theorem MSt.mono0 (S : MSt s₀ z₀ z ((a, φ) :: own) s) (h : ∀ o, φ o → φ' o) : MSt s₀ z₀ z ((a, φ') :: own) s := by
  obtain ⟨o, ho, hφ⟩ := S.get0
  obtain ⟨_, hz, h0⟩ := S.ow _ List.mem_cons_self
  exact S.forget0.cons ho (h o hφ) hz h0 fun p hp e => (List.pairwise_cons.mp S.nd).1 p hp e.symm

/-- two front entries change places -/
theorem MSt.swap {p q : Ass} (S : MSt s₀ z₀ z (p :: q :: own) s) : MSt s₀ z₀ z (q :: p :: own) s := by
  refine ⟨S.gr, fun x hx => S.ow x ?_, ?_⟩
  · simp only [List.mem_cons] at hx ⊢
    rcases hx with h | h | h
    · exact .inr (.inl h)
    · exact .inl h
    · exact .inr (.inr h)
  · have h := S.nd
    simp only [List.pairwise_cons, List.mem_cons, forall_eq_or_imp] at h ⊢
    exact ⟨⟨Ne.symm h.1.1, h.2.1⟩, h.1.2, h.2.2⟩

theorem MSt.freeze0 (S : MSt s₀ z₀ z ((a, φ) :: own) s) : ∃ o, s.heap.get? a = some o ∧ φ o ∧ MSt s₀ z₀ (zset z a o) own s := by
  obtain ⟨⟨o, ho, hφ⟩, hz, h0⟩ := S.ow _ List.mem_cons_self
  refine ⟨o, ho, hφ, ⟨S.gr.same, S.gr.keep, ?_, ?_, ?_⟩, ?_, (List.pairwise_cons.mp S.nd).2⟩
  · intro b o' e
    by_cases hb : b = a
    · subst hb; rw [zset_same] at e; cases e; exact ho
    · rw [zset_ne hb] at e; exact S.gr.frz b o' e
  · intro b o' e
    have := S.gr.le b o' e
    rw [zset_ne ?_]; exact this
    intro hb; subst hb; rw [hz] at this; cases this
  · intro b e hb
    rw [zset_ne ?_]; exact S.gr.new b e hb
    intro hbs; subst hbs; exact hb h0
  · intro p hp
    obtain ⟨h1, h2, h3⟩ := S.ow p (List.mem_cons_of_mem _ hp)
    exact ⟨h1, by rw [zset_ne fun e => (List.pairwise_cons.mp S.nd).1 p hp e.symm]; exact h2, h3⟩

theorem zle_zset {z : Fz} {a : Addr} {o : Obj} (hz : z a = none) : ∀ b o', z b = some o' → zset z a o b = some o' := fun b o' e => by
  rw [zset_ne ?_]; exact e
  intro hb; subst hb; rw [hz] at e; cases e

/-- a call's end at the caller -/
theorem MSt.call {z' : Fz} {s' : Shared} (S : MSt s₀ z₀ z own s) (g : Grow z z' s s') : MSt s₀ z₀ z' own s' := by
  refine ⟨⟨?_, S.gr.keep.trans g.keep, g.frz, fun a o e => g.le a o (S.gr.le a o e), ?_⟩, ?_, S.nd⟩
  · obtain ⟨h, tk, e⟩ := S.gr.same
    obtain ⟨h', tk', e'⟩ := g.same
    exact ⟨h', tk', by rw [e', e]⟩
  · intro a e hb
    refine g.new a (S.gr.new a e hb) ?_
    cases q : s₀.heap.get? a with
    | none => exact absurd q hb
    | some o => rw [S.gr.keep a o q]; exact fun x => by cases x
  · intro p hp
    obtain ⟨⟨o, ho, hφ⟩, h2, h3⟩ := S.ow p hp
    exact ⟨⟨o, g.keep _ _ ho, hφ⟩, g.new _ h2 (by rw [ho]; exact fun x => by cases x), h3⟩
end

/-! ## Locals and cells -/
noncomputable def Loc (l : List (Str × Value)) : Obj → Prop := fun o => ∃ (es : Array DictEntry) (ep : Nat) (m : Str → Option Value), o.data = .dict es ep ∧ StrKeys es ∧ (∀ name, nsFind es name = m name) ∧ ∀ n v, l.lookup n = some v → m n = some v
noncomputable def CellA (v : Option Value) : Obj → Prop := fun o => o.data = .cell v

theorem Loc.ns {h : Heap} {L : Addr} {l : List (Str × Value)} (x : ∃ o, h.get? L = some o ∧ Loc l o) : ∃ m, h.Ns L m ∧ ∀ n v, l.lookup n = some v → m n = some v := by
  obtain ⟨o, ho, es, ep, m, h1, h2, h3, h4⟩ := x
  exact ⟨m, ⟨o, es, ep, ho, h1, h2, h3⟩, h4⟩
theorem Loc.of_ns {h : Heap} {L : Addr} {m : Str → Option Value} {l : List (Str × Value)} (x : h.Ns L m) (hl : ∀ n v, l.lookup n = some v → m n = some v) : ∃ o, h.get? L = some o ∧ Loc l o := by
  obtain ⟨o, es, ep, ho, h1, h2, h3⟩ := x
  exact ⟨o, ho, es, ep, m, h1, h2, h3, hl⟩
noncomputable def LSub : List (Str × Value) → List (Str × Value) → Prop
  | [], _ => True
  | p :: r, l => l.lookup p.1 = some p.2 ∧ LSub r l
theorem LSub.out : ∀ {l' l : List (Str × Value)}, LSub l' l → ∀ n v, l'.lookup n = some v → l.lookup n = some v
  | [], _, _, _, _, h => by cases h
  | (k, x) :: r, l, ⟨h1, h2⟩, n, v, h => by
    rw [List.lookup_cons] at h
    cases hb : n == k with
    | true => rw [hb] at h; cases h; rw [beq_iff_eq.mp hb]; exact h1
    | false => rw [hb] at h; exact h2.out n v h
theorem Loc.weaken {l l' : List (Str × Value)} (h : LSub l' l) : ∀ o, Loc l o → Loc l' o := fun _ ⟨es, ep, m, h1, h2, h3, h4⟩ => ⟨es, ep, m, h1, h2, h3, fun n v e => h4 n v (h.out n v e)⟩

section
variable {M : Model} {A : Around} {E : Value → Shared → Prop} {s₀ s : Shared} {z₀ z : Fz} {own : List Ass} {env : Env} {l : List (Str × Value)} {x : Str} {v : Value}

theorem nameL {pos : Pos} {Q : Value → Shared → Prop} (S : MSt s₀ z₀ z ((env.locals, Loc l) :: own) s) (hv : l.lookup x = some v) (h : Q v s)
    (hk : env.scope.kind = .function := by rfl) (hl : env.kindOf x = some .local := by rfl) (hd : (x == ("__debug__" : Str)) = false := by rfl) : wpAny M A (eval (.Name x pos) env) Q E s := by
  obtain ⟨m, hn, hm⟩ := Loc.ns S.get0
  exact wpAny_Name (wpAny_loadName_local hk hl hn (hm _ _ hv) h) hd
theorem loadL {Q : Value → Shared → Prop} (S : MSt s₀ z₀ z ((env.locals, Loc l) :: own) s) (hv : l.lookup x = some v) (h : Q v s)
    (hk : env.scope.kind = .function := by rfl) (hl : env.kindOf x = some .local := by rfl) : wpAny M A (loadName env x) Q E s := by
  obtain ⟨m, hn, hm⟩ := Loc.ns S.get0
  exact wpAny_loadName_local hk hl hn (hm _ _ hv) h

theorem storeL {Q : Unit → Shared → Prop} (S : MSt s₀ z₀ z ((env.locals, Loc l) :: own) s) (h : ∀ s', MSt s₀ z₀ z ((env.locals, Loc ((x, v) :: l)) :: own) s' → Q () s')
    (hk : env.scope.kind = .function := by rfl) (hl : env.kindOf x = some .local := by rfl) : wpAny M A (storeName env x v) Q E s := by
  obtain ⟨m, hn, hm⟩ := Loc.ns S.get0
  refine wpAny_storeName_local hl hn (fun h' hn' hs' => ?_) (by rw [hk]; rfl)
  obtain ⟨o, ho, hL⟩ := Loc.of_ns (l := (x, v) :: l) hn' fun n w e => by
    rw [List.lookup_cons] at e
    cases hb : n == x with
    | true => rw [hb] at e; rw [if_pos (beq_iff_eq.mp hb)]; exact e
    | false => rw [hb] at e; rw [if_neg (beq_eq_false_iff_ne.mp hb)]; exact hm n w e
  exact h _ (S.upd0 hs'.extBut ho hL)

theorem assignL {pos : Pos} {Q : Unit → Shared → Prop} (S : MSt s₀ z₀ z ((env.locals, Loc l) :: own) s) (h : ∀ s', MSt s₀ z₀ z ((env.locals, Loc ((x, v) :: l)) :: own) s' → Q () s')
    (hk : env.scope.kind = .function := by rfl) (hl : env.kindOf x = some .local := by rfl) : wpAny M A (assign (.Name x pos) env v) Q E s := wpAny_assign_Name (storeL S h hk hl)

theorem cell_of (S : MSt s₀ z₀ z own s) {c : Addr} {v : Option Value} (hm : (c, CellA v) ∈ own) : s.heap.IsCell c v := let ⟨o, ho, hd⟩ := S.get hm; ⟨o, ho, hd⟩

theorem nameC {c : Addr} {pos : Pos} {Q : Value → Shared → Prop} (S : MSt s₀ z₀ z own s) (hc : env.cells.lookup x = some c) (hm : (c, CellA (some v)) ∈ own) (h : Q v s)
    (hk : env.scope.kind = .function := by rfl) (hl : env.kindOf x = some .cell := by rfl) (hd : (x == ("__debug__" : Str)) = false := by rfl) : wpAny M A (eval (.Name x pos) env) Q E s :=
  wpAny_Name (wpAny_loadName_cell hk hl hc (cell_of S hm) h) hd
theorem loadC {c : Addr} {Q : Value → Shared → Prop} (S : MSt s₀ z₀ z own s) (hc : env.cells.lookup x = some c) (hm : (c, CellA (some v)) ∈ own) (h : Q v s)
    (hk : env.scope.kind = .function := by rfl) (hl : env.kindOf x = some .cell := by rfl) : wpAny M A (loadName env x) Q E s :=
  wpAny_loadName_cell hk hl hc (cell_of S hm) h

theorem storeC {c : Addr} {v₀ : Option Value} (l₁ l₂ : List Ass) {Q : Unit → Shared → Prop} (S : MSt s₀ z₀ z (l₁ ++ (c, CellA v₀) :: l₂) s) (hc : env.cells.lookup x = some c)
    (h : ∀ s', MSt s₀ z₀ z (l₁ ++ (c, CellA (some v)) :: l₂) s' → Q () s')
    (hk : env.scope.kind = .function := by rfl) (hl : env.kindOf x = some .cell := by rfl) : wpAny M A (storeName env x v) Q E s :=
  wpAny_storeName_cell hk hl hc (cell_of S (v := v₀) (by simp)) fun h' hc' hs' => h _ (let ⟨_, ho, hd⟩ := hc'; MSt.updAt (tk := s.toks) l₁ l₂ S hs'.extBut ho hd)
end

/-- the aim behind a step as a name: the terms stay small -/
theorem gen {M : Model} {α : Type} {A : Around} {t : Sem α} {Q : α → Shared → Prop} {E : Value → Shared → Prop} {s : Shared} (h : ∀ Q' : α → Shared → Prop, (∀ v s', Q v s' → Q' v s') → wpAny M A t Q' E s) : wpAny M A t Q E s := h Q fun _ _ x => x

end Mine
end

/-! # C2 -/
section
set_option autoImplicit false
open PySem PySem.W PyProof.Rows
set_option Elab.async false
namespace Mine

/-! ## The program's functions by their place -/
noncomputable def stAt (i : Nat) : Stmt := PySem.Challenge.pw_mq0189_01.main.body.getD i (.Pass ⟨0, 0, 0, 0⟩)
noncomputable def bodyOf : Stmt → List Stmt | .FunctionDef _ _ b _ _ _ _ _ _ _ => b | _ => []
noncomputable def scopeOf : Stmt → Scope | .FunctionDef _ _ _ _ _ _ sc _ _ _ => sc | _ => default
noncomputable def argsOf : Stmt → Arguments | .FunctionDef _ a _ _ _ _ _ _ _ _ => a | _ => default
noncomputable def nmOf : Stmt → Str | .FunctionDef n _ _ _ _ _ _ _ _ _ => n | _ => default
noncomputable abbrev fdAt (i : Nat) (pm cd doc : Value) : FuncData := Calls.docDef (nmOf (stAt i)) (argsOf (stAt i)) (bodyOf (stAt i)) (scopeOf (stAt i)) pm cd doc
noncomputable abbrev envAt (i : Nat) (L f : Addr) (pm cd doc : Value) : Env := callEnvC (fdAt i pm cd doc) L f

noncomputable def FnIn (g : Heap) (mg : Str → Option Value) (i : Nat) (a : Addr) : Prop :=
  ∃ o pm cd doc, mg (nmOf (stAt i)) = some (.ref a) ∧ g.get? a = some o ∧ o.data = .func (fdAt i pm cd doc) ∧ g.CodeRec cd (nmOf (stAt i))

structure Gd (g : Heap) (mg mb : Str → Option Value) : Prop where
  gl : g.Ns mainGlobals mg
  bu : g.Ns builtinsNs mb
  nolimit : g.NoLimit
  fn : ∀ i ∈ [1, 2, 3, 5, 26, 28, 29, 30, 31, 32, 33, 34], ∃ a, FnIn g mg i a
  free : ∀ x ∈ ([(Str.ofString "range"), (Str.ofString "len"), (Str.ofString "list"), (Str.ofString "sum"), (Str.ofString "isinstance"), (Str.ofString "tuple"), (Str.ofString "enumerate")] : List Str), mg x = none
  built : ∀ x : Str, x ≠ "__name__" → mb x = bootBuiltins x

noncomputable def Room (A : Around) (n : Nat) : Prop := A.handled = none ∧ A.depth + n < recursionLimit ∧ A.units + 10 * n + 200 < cLine
theorem Room.deeper {A : Around} {n : Nat} (h : Room A (n + 1)) (env : Env) : Room (A.deeper env) n :=
  ⟨h.1, by have := h.2.1; show A.depth + 1 + n < _; omega, by have := h.2.2; show A.units + 3 + 10 * n + 200 < _; omega⟩
theorem Room.mono {A : Around} {n m : Nat} (h : Room A n) (hm : m ≤ n) : Room A m := ⟨h.1, by have := h.2.1; omega, by have := h.2.2; omega⟩
theorem Room.depth {A : Around} {n : Nat} (h : Room A n) : A.depth < recursionLimit := by have := h.2.1; omega
theorem Room.units {A : Around} {n : Nat} (h : Room A n) : A.units + 100 < cLine := by have := h.2.2; omega

section
variable {prog : Program} {w : World} {g : Heap} {mg mb : Str → Option Value}

/-- a function's contract: from any caller, with the frozen part z -/
noncomputable def Fn (prog : Program) (w : World) (g : Heap) (f : Addr) (vs : List Value) (n : Nat) (z : Fz) (Post : Fz → Value → Prop) : Prop :=
  ∀ (A : Around) (s : Shared) (Q E : Value → Shared → Prop), Room A n → Kp g s.heap → FzIn z s.heap →
    (∀ r z' s', Grow z z' s s' → Post z' r → Q r s') → wpAny (model prog w) A (call (.ref f) vs) Q E s

theorem Fn.use {f : Addr} {vs : List Value} {n : Nat} {z : Fz} {Post : Fz → Value → Prop} (F : Fn prog w g f vs n z Post) {A : Around} {s₀ s : Shared} {z₀ : Fz} {own : List Ass} {Q E : Value → Shared → Prop}
    (hr : Room A n) (hk : Kp g s₀.heap) (S : MSt s₀ z₀ z own s) (h : ∀ r z' s', (∀ a o, z a = some o → z' a = some o) → MSt s₀ z₀ z' own s' → Post z' r → Q r s') : wpAny (model prog w) A (call (.ref f) vs) Q E s :=
  F A s Q E hr (hk.trans S.gr.keep) S.gr.frz fun r z' s' gr hp => h r z' s' gr.le (S.call gr) hp

noncomputable def ownCells (cs : List (Str × Addr)) (cm : Str → Option Value) : List Ass := cs.map fun p => (p.2, CellA (cm p.1))
noncomputable def MSub (m : Str → Option Value) : List (Str × Value) → Prop
  | [] => True
  | p :: r => m p.1 = some p.2 ∧ MSub m r
theorem MSub.out {m : Str → Option Value} : ∀ {l : List (Str × Value)}, MSub m l → ∀ n v, l.lookup n = some v → m n = some v
  | [], _, _, _, h => by cases h
  | (k, x) :: r, ⟨h1, h2⟩, n, v, h => by
    rw [List.lookup_cons] at h
    cases hb : n == k with
    | true => rw [hb] at h; cases h; rw [beq_iff_eq.mp hb]; exact h1
    | false => rw [hb] at h; exact h2.out n v h

theorem enter {i : Nat} {f : Addr} {vals : List Value} {n : Nat} {z : Fz} {Post : Fz → Value → Prop} (binds : List (Str × Value)) (l : List (Str × Value))
    (G : Gd g mg mb) (hf : FnIn g mg i f)
    (hbind : ∀ pm cd doc, bindArgs (fdAt i pm cd doc) ⟨vals, []⟩ = pure binds)
    (hkind : ∀ L : Nat, ∀ x ∈ binds, (scopeOf (stAt i)).names.lookup x.1 = some .local ∨ ((scopeOf (stAt i)).names.lookup x.1 = some .cell ∧ ((cellsFrom (L + 1) (scopeOf (stAt i)).names []).lookup x.1).isSome = true))
    (hnd : ((cellsFrom 0 (scopeOf (stAt i)).names []).map (·.1)).Nodup)
    (hl : ∀ L pm cd doc, MSub (bindL (envAt i L f pm cd doc).kindOf binds fun _ => none) l)
    (h : ∀ (A : Around) (s : Shared) (pm cd doc : Value) (L : Addr) (s₁ : Shared) (E : Value → Shared → Prop), Room A n → Kp g s.heap →
      MSt s z z ((L, Loc l) :: ownCells (cellsFrom (L + 1) (scopeOf (stAt i)).names []) (bindC (envAt i L f pm cd doc).kindOf binds fun _ => none)) s₁ →
      wpAny (model prog w) A (execs (bodyOf (stAt i)) (envAt i L f pm cd doc)) (fun fl s' => ∃ r z' own', fl = .ret r ∧ MSt s z z' own' s' ∧ Post z' r) E s₁)
    (hco : (scopeOf (stAt i)).isCoroutine = false := by rfl) (hgen : (scopeOf (stAt i)).isGenerator = false := by rfl) (hk : (scopeOf (stAt i)).kind = .function := by rfl) :
    Fn prog w g f vals (n + 1) z Post := by
  intro A s Q E hr hK hz hQ
  obtain ⟨o, pm, cd, doc, hmg, ho, hd, hcd⟩ := hf
  refine wpAny_call (codeAny_call_cells (fd := fdAt i pm cd doc) (body := bodyOf (stAt i)) (binds := binds) hr.depth (hK _ _ ho) hd (G.nolimit.keeps hK) (hcd.keeps hK) rfl (hbind pm cd doc) rfl (hkind _) (fun s₁ x => ?_) hco hgen hk)
  have hnd' : ((cellsFrom (s.heap.objs.size + 1) (scopeOf (stAt i)).names []).map (·.1)).Nodup := (cellsFrom_names (scopeOf (stAt i)).names 0 (s.heap.objs.size + 1) [] [] rfl) ▸ hnd
  have S : MSt s z z ((s.heap.objs.size, Loc l) :: ownCells (cellsFrom (s.heap.objs.size + 1) (scopeOf (stAt i)).names []) (bindC (envAt i s.heap.objs.size f pm cd doc).kindOf binds fun _ => none)) s₁ := by
    obtain ⟨oL, hoL, hLL⟩ := Loc.of_ns (l := l) x.toInCall.ns (hl _ pm cd doc).out
    have fresh : ∀ a, s.heap.objs.size ≤ a → s.heap.get? a = none := fun a ha => by
      cases e : s.heap.get? a with
      | none => rfl
      | some o' => exact absurd (Heap.lt_size e) (Nat.not_lt.mpr ha)
    have zfresh : ∀ a, s.heap.objs.size ≤ a → z a = none := fun a ha => by
      cases e : z a with
      | none => rfl
      | some o' => have := hz a o' e; rw [fresh a ha] at this; cases this
    refine ⟨⟨x.toInCall.same, x.toInCall.keep, fun a o' e => x.toInCall.keep a o' (hz a o' e), fun _ _ e => e, fun _ e _ => e⟩, ?_, ?_⟩
    · intro p hp
      rcases List.mem_cons.mp hp with rfl | hp
      · exact ⟨⟨oL, hoL, hLL⟩, zfresh _ (Nat.le_refl _), fresh _ (Nat.le_refl _)⟩
      · obtain ⟨⟨nm, c⟩, hm, rfl⟩ := List.mem_map.mp hp
        have hlt := x.above nm c hm
        obtain ⟨oc, hoc, hdc⟩ := x.cell nm c (lookup_of_mem_nodup hnd' hm)
        exact ⟨⟨oc, hoc, hdc⟩, zfresh _ (Nat.le_of_lt hlt), fresh _ (Nat.le_of_lt hlt)⟩
    · refine List.pairwise_cons.mpr ⟨?_, ?_⟩
      · intro p hp
        obtain ⟨⟨nm, c⟩, hm, rfl⟩ := List.mem_map.mp hp
        exact Nat.ne_of_lt (x.above nm c hm)
      · exact List.pairwise_map.mpr x.apart
  refine wpAny_mono (h (A.deeper (envAt i s.heap.objs.size f pm cd doc)) s pm cd doc s.heap.objs.size s₁ _ (hr.deeper _) hK S) (fun fl s' hx => ?_) fun _ _ e => e
  obtain ⟨r, z', own', rfl, S', hp⟩ := hx
  exact hQ r z' s' S'.gr hp
end

/-! ## Names of the top, calls -/
section
variable {prog : Program} {w : World} {A : Around} {E : Value → Shared → Prop} {s₀ s : Shared} {z₀ z : Fz} {own : List Ass} {env : Env} {g : Heap} {mg mb : Str → Option Value} {x : Str} {v : Value} {Q : Value → Shared → Prop}

theorem nameG {pos : Pos} (G : Gd g mg mb) (hK : Kp g s₀.heap) (S : MSt s₀ z₀ z own s) (hv : mg x = some v) (h : Q v s)
    (hg : env.globals = mainGlobals := by rfl) (hk : env.scope.kind = .function := by rfl) (hl : env.kindOf x = some .globalImplicit := by rfl) (hd : (x == ("__debug__" : Str)) = false := by rfl) :
    wpAny (model prog w) A (eval (.Name x pos) env) Q E s :=
  Calls.Name_function_global hk hl (Calls.loadGlobal_global (by rw [hg]; exact G.gl.keeps (hK.trans S.gr.keep)) hv h) hd
theorem nameB {pos : Pos} (G : Gd g mg mb) (hK : Kp g s₀.heap) (S : MSt s₀ z₀ z own s) (hf : mg x = none) (hv : bootBuiltins x = some v) (h : Q v s) (hx : x ≠ "__name__" := by decide)
    (hg : env.globals = mainGlobals := by rfl) (hb : env.builtins = builtinsNs := by rfl) (hk : env.scope.kind = .function := by rfl) (hl : env.kindOf x = some .globalImplicit := by rfl) (hd : (x == ("__debug__" : Str)) = false := by rfl) :
    wpAny (model prog w) A (eval (.Name x pos) env) Q E s :=
  Calls.Name_function_global hk hl (Calls.loadGlobal_builtin (by rw [hg]; exact G.gl.keeps (hK.trans S.gr.keep)) hf (by rw [hb]; exact G.bu.keeps (hK.trans S.gr.keep)) ((G.built x hx).trans hv) h) hd

theorem cwF {i : Nat} {f : Addr} {pos : Pos} {e : Expr} {rest : List Expr} (hf : FnIn g mg i f)
    (h : wpAny (model prog w) A (spliced (backTo pos (starEach (e :: rest) env))) (fun vs s₁ => Kp g s₁.heap ∧ wpAny (model prog w) A (call (.ref f) vs) Q E s₁) E s)
    (he : starEach (e :: rest) env = (false, eval e env) :: starEach rest env := by rfl) :
    wpAny (model prog w) A (callWith pos (.ref f) [] (backTo pos (starEach (e :: rest) env)) []) Q E s := by
  obtain ⟨o, pm, cd, doc, _, ho, hd, _⟩ := hf
  rw [he] at h ⊢
  refine Calls.callWith_function (o := o) (fd := fdAt i pm cd doc) (Calls.evalArgs_plain (wpAny_mono h (fun vs s₁ h₁ => ⟨⟨h₁.1 _ _ ho, hd⟩, h₁.2⟩) fun _ _ e => e))
theorem cwB {id : String} {pos : Pos} {e : Expr} {rest : List Expr}
    (h : wpAny (model prog w) A (spliced (backTo pos (starEach (e :: rest) env))) (fun vs s₁ => wpAny (model prog w) A (call (.builtin id) vs) Q E s₁) E s)
    (he : starEach (e :: rest) env = (false, eval e env) :: starEach rest env := by rfl) (hplain : (backTo pos (starEach rest env)).any (·.1) = false := by rfl) :
    wpAny (model prog w) A (callWith pos (.builtin id) [] (backTo pos (starEach (e :: rest) env)) []) Q E s := by
  rw [he] at h ⊢
  exact Calls.callWith_builtin (by show (false || (backTo pos (starEach rest env)).any (·.1)) = false; rw [hplain]; rfl) (Calls.evalArgs_plain h)
theorem cwT {T : String} {pos : Pos} {e : Expr} {rest : List Expr}
    (h : wpAny (model prog w) A (spliced (backTo pos (starEach (e :: rest) env))) (fun vs s₁ => wpAny (model prog w) A (call (.type T) vs) Q E s₁) E s)
    (he : starEach (e :: rest) env = (false, eval e env) :: starEach rest env := by rfl) (hplain : (backTo pos (starEach rest env)).any (·.1) = false := by rfl) :
    wpAny (model prog w) A (callWith pos (.type T) [] (backTo pos (starEach (e :: rest) env)) []) Q E s := by
  rw [he] at h ⊢
  exact PySem.callWith_type (by show (false || (backTo pos (starEach rest env)).any (·.1)) = false; rw [hplain]; rfl) (Calls.evalArgs_plain h)
end

/-! ## Ints -/
section
variable {prog : Program} {w : World} {A : Around} {E : Value → Shared → Prop} {s₀ s : Shared} {z₀ z : Fz} {own : List Ass} {env : Env} {a b : Int} {t u : Tok} {Q : Value → Shared → Prop}

theorem constI {i : Int} {k : Nat} {pos : Pos} (S : MSt s₀ z₀ z own s) (h : ∀ t s', MSt s₀ z₀ z own s' → Q (.int i t) s') : wpAny (model prog w) A (eval (.Constant (.int i) k pos) env) Q E s := wpAny_Constant_int (h _ _ (S.tok _))
theorem constS {x : Str} {k : Nat} {pos : Pos} (S : MSt s₀ z₀ z own s) (h : ∀ t s', MSt s₀ z₀ z own s' → Q (.str x t) s') : wpAny (model prog w) A (eval (.Constant (.str x) k pos) env) Q E s := wpAny_Constant_str (h _ _ (S.tok _))
theorem addI (S : MSt s₀ z₀ z own s) (h : ∀ t s', MSt s₀ z₀ z own s' → Q (.int (a + b) t) s') : wpAny (model prog w) A (binaryOp .Add (.int a t) (.int b u)) Q E s := add_int (h _ _ (S.tok _))
theorem iaddI (S : MSt s₀ z₀ z own s) (h : ∀ t s', MSt s₀ z₀ z own s' → Q (.int (a + b) t) s') : wpAny (model prog w) A (inplaceOp .Add (.int a t) (.int b u)) Q E s := iadd_int (h _ _ (S.tok _))
theorem subI (S : MSt s₀ z₀ z own s) (h : ∀ t s', MSt s₀ z₀ z own s' → Q (.int (a - b) t) s') : wpAny (model prog w) A (binaryOp .Sub (.int a t) (.int b u)) Q E s := sub_int (h _ _ (S.tok _))
theorem isubI (S : MSt s₀ z₀ z own s) (h : ∀ t s', MSt s₀ z₀ z own s' → Q (.int (a - b) t) s') : wpAny (model prog w) A (inplaceOp .Sub (.int a t) (.int b u)) Q E s := isub_int (h _ _ (S.tok _))
theorem andI (S : MSt s₀ z₀ z own s) (h : ∀ t s', MSt s₀ z₀ z own s' → Q (.int (Builtin.bitAnd a b) t) s') : wpAny (model prog w) A (binaryOp .BitAnd (.int a t) (.int b u)) Q E s := and_int (h _ _ (S.tok _))
theorem mulI (S : MSt s₀ z₀ z own s) (hm : IntMulOk a b) (h : ∀ t s', MSt s₀ z₀ z own s' → Q (.int (a * b) t) s') : wpAny (model prog w) A (binaryOp .Mult (.int a t) (.int b u)) Q E s := mul_int (h _ _ (S.tok _)) hm
theorem imulI (S : MSt s₀ z₀ z own s) (hm : IntMulOk a b) (h : ∀ t s', MSt s₀ z₀ z own s' → Q (.int (a * b) t) s') : wpAny (model prog w) A (inplaceOp .Mult (.int a t) (.int b u)) Q E s := imul_int (h _ _ (S.tok _)) hm
theorem modI (S : MSt s₀ z₀ z own s) (hb : b ≠ 0) (h : ∀ t s', MSt s₀ z₀ z own s' → Q (.int (a.fmod b) t) s') : wpAny (model prog w) A (binaryOp .Mod (.int a t) (.int b u)) Q E s := mod_int' hb (h _ _ (S.tok _))
theorem divI (S : MSt s₀ z₀ z own s) (hb : b ≠ 0) (hs : b.natAbs < 1073741824) (h : ∀ t s', MSt s₀ z₀ z own s' → Q (.int (a.fdiv b) t) s') : wpAny (model prog w) A (binaryOp .FloorDiv (.int a t) (.int b u)) Q E s :=
  floordiv_int hb (h _ _ (S.tok _)) (.inl (PyProof.noPylong_small hs))
theorem idivI (S : MSt s₀ z₀ z own s) (hb : b ≠ 0) (hs : b.natAbs < 1073741824) (h : ∀ t s', MSt s₀ z₀ z own s' → Q (.int (a.fdiv b) t) s') : wpAny (model prog w) A (inplaceOp .FloorDiv (.int a t) (.int b u)) Q E s :=
  ifloordiv_int hb (h _ _ (S.tok _)) (.inl (PyProof.noPylong_small hs))
theorem powI (S : MSt s₀ z₀ z own s) (hn : 0 ≤ b) (hsz : (Builtin.Int.intBits a : Int) * b ≤ 2 ^ 27) (h : ∀ t s', MSt s₀ z₀ z own s' → Q (.int (a ^ b.toNat) t) s') : wpAny (model prog w) A (binaryOp .Pow (.int a t) (.int b u)) Q E s :=
  pow_int hn hsz (h _ _ (S.tok _))
theorem pow2I (S : MSt s₀ z₀ z own s) (hn : 0 ≤ b) (hb : b ≤ 100) (h : ∀ t s', MSt s₀ z₀ z own s' → Q (.int (2 ^ b.toNat) t) s') : wpAny (model prog w) A (binaryOp .Pow (.int 2 t) (.int b u)) Q E s :=
  powI S hn (by rw [show Builtin.Int.intBits 2 = 2 from by decide]; omega) h
theorem itemsN {pos : Pos} {Q : List Value → Shared → Prop} (h : Q [] s) : wpAny (model prog w) A (spliced (backTo pos (starEach [] env))) Q E s := wpAny_items_nil h
end
end Mine
end

/-! # C3 -/
section
set_option autoImplicit false
open PySem PySem.W PyProof.Rows
set_option Elab.async false
namespace Mine

/-! ## Frozen data -/
noncomputable def ZL (z : Fz) (a : Addr) (vs : List Value) : Prop := ∃ o, z a = some o ∧ o.cls = .type "list" ∧ ∃ n, o.data = .seq vs.toArray n
noncomputable def ZT (z : Fz) (a : Addr) (vs : List Value) : Prop := ∃ o, z a = some o ∧ o.cls = .type "tuple" ∧ ∃ n, o.data = .seq vs.toArray n
noncomputable def Zle (z z' : Fz) : Prop := ∀ a o, z a = some o → z' a = some o
theorem Zle.refl (z : Fz) : Zle z z := fun _ _ e => e
theorem Zle.trans {z z' z'' : Fz} (h : Zle z z') (h' : Zle z' z'') : Zle z z'' := fun a o e => h' a o (h a o e)
theorem ZL.mono {z z' : Fz} {a : Addr} {vs : List Value} (h : ZL z a vs) (hz : Zle z z') : ZL z' a vs := let ⟨o, ho, r⟩ := h; ⟨o, hz _ _ ho, r⟩
theorem ZT.mono {z z' : Fz} {a : Addr} {vs : List Value} (h : ZT z a vs) (hz : Zle z z') : ZT z' a vs := let ⟨o, ho, r⟩ := h; ⟨o, hz _ _ ho, r⟩
theorem ZL.at {z : Fz} {a : Addr} {vs : List Value} {h : Heap} (x : ZL z a vs) (hz : FzIn z h) : h.IsList a vs.toArray := let ⟨o, ho, r⟩ := x; ⟨o, hz _ _ ho, r⟩
theorem ZT.at {z : Fz} {a : Addr} {vs : List Value} {h : Heap} (x : ZT z a vs) (hz : FzIn z h) : h.IsTuple a vs.toArray := let ⟨o, ho, r⟩ := x; ⟨o, hz _ _ ho, r⟩

/-! ## Iterators -/
structure It (prog : Program) (w : World) (A : Around) (I : Addr) (n : Nat) (φ : Nat → Obj → Prop) (item : Nat → Value → Prop) (need : Fz → Prop) : Prop where
  next : ∀ (s₀ : Shared) (z₀ z : Fz) (p : Ass) (own : List Ass) (s : Shared) (Q : Option Value → Shared → Prop) (E : Value → Shared → Prop) (i : Nat), i < n → need z → MSt s₀ z₀ z (p :: (I, φ i) :: own) s →
    (∀ v s', item i v → MSt s₀ z₀ z (p :: (I, φ (i + 1)) :: own) s' → Q (some v) s') → wpAny (model prog w) A (pyNext (.ref I)) Q E s
  done : ∀ (s₀ : Shared) (z₀ z : Fz) (p : Ass) (own : List Ass) (s : Shared) (Q : Option Value → Shared → Prop) (E : Value → Shared → Prop), need z → MSt s₀ z₀ z (p :: (I, φ n) :: own) s →
    (∀ s', MSt s₀ z₀ z (p :: own) s' → Q none s') → wpAny (model prog w) A (pyNext (.ref I)) Q E s

section
variable {prog : Program} {w : World} {A : Around} {E : Value → Shared → Prop} {s₀ s : Shared} {z₀ z : Fz} {own : List Ass} {env : Env} {l : List (Str × Value)}

noncomputable def RIt (x left : Int) : Obj → Prop := fun o => o = { cls := .type "range_iterator", dict := none, data := .fields #[rawInt x, rawInt left, rawInt 1], slots := #[] }
noncomputable def LIt (la : Addr) (i : Nat) : Obj → Prop := fun o => o.cls = .type "list_iterator" ∧ o.data = .fields #[.ref la, .int i 0]
noncomputable def TIt (la : Addr) (i : Nat) : Obj → Prop := fun o => o.cls = .type "tuple_iterator" ∧ o.data = .fields #[.ref la, .int i 0]
noncomputable def rangeItem (lo : Int) : Nat → Value → Prop := fun i v => ∃ t, v = .int (lo + i) t

theorem It.range (hh : A.handled = none) (I : Addr) (lo : Int) (n : Nat) : It prog w A I n (fun i => RIt (lo + i) ((n : Int) - i)) (rangeItem lo) (fun _ => True) where
  next := fun s₀ z₀ z p own s Q E i hi _ S hQ => by
    obtain ⟨o, ho, rfl⟩ := S.get1
    refine wpAny_pyNext_range_item ho (by omega) fun h' hit hs => ?_
    refine hQ _ _ ⟨_, rfl⟩ (S.upd1 hs.extBut hit ?_)
    show _ = _
    rw [show lo + ((i + 1 : Nat) : Int) = lo + i + 1 by omega, show (n : Int) - ((i + 1 : Nat) : Int) = (n : Int) - i - 1 by omega]
  done := fun s₀ z₀ z p own s Q E _ S hQ => by
    obtain ⟨o, ho, rfl⟩ := S.get1
    exact wpAny_pyNext_range_end hh ho (by omega) fun h' hx => hQ _ (S.drop1 (tk := s.toks) hx)

theorem It.list (hh : A.handled = none) (I la : Addr) (vs : List Value) : It prog w A I vs.length (LIt la) (fun i v => vs[i]? = some v) (fun z => ZL z la vs) where
  next := fun s₀ z₀ z p own s Q E i hi hz S hQ => by
    refine wpAny_pyNext_list_item (x := vs[i]) S.get1 (hz.at S.gr.frz) (by simp [hi]) fun h' hit hs => ?_
    obtain ⟨o', ho', hc', hd'⟩ := hit
    exact hQ _ _ (by simp [hi]) (S.upd1 (tk := s.toks) hs.extBut ho' ⟨hc', hd'⟩)
  done := fun s₀ z₀ z p own s Q E hz S hQ => by
    exact wpAny_pyNext_list_end hh S.get1 (hz.at S.gr.frz) (by simp) fun h' hx => hQ _ (S.drop1 (tk := s.toks) hx)

theorem It.tuple (hh : A.handled = none) (I la : Addr) (vs : List Value) : It prog w A I vs.length (TIt la) (fun i v => vs[i]? = some v) (fun z => ZT z la vs) where
  next := fun s₀ z₀ z p own s Q E i hi hz S hQ => by
    refine wpAny_pyNext_tuple_item (x := vs[i]) S.get1 (hz.at S.gr.frz) (by simp [hi]) fun h' hit hs => ?_
    obtain ⟨o', ho', hc', hd'⟩ := hit
    exact hQ _ _ (by simp [hi]) (S.upd1 (tk := s.toks) hs.extBut ho' ⟨hc', hd'⟩)
  done := fun s₀ z₀ z p own s Q E hz S hQ => by
    exact wpAny_pyNext_tuple_end hh S.get1 (hz.at S.gr.frz) (by simp) fun h' hx => hQ _ (S.drop1 (tk := s.toks) hx)

theorem rangeIt1 {n : Int} {t : Tok} {Q : Value → Shared → Prop} (S : MSt s₀ z₀ z own s) (h0 : 0 ≤ n) (h1 : n < 2 ^ 62) (h : ∀ I s', MSt s₀ z₀ z ((I, RIt (0 + ((0 : Nat) : Int)) ((n.toNat : Int) - ((0 : Nat) : Int))) :: own) s' → Q (.ref I) s') :
    wpAny (model prog w) A (call (.type "range") [.int n t]) (fun xv s₁ => wpAny (model prog w) A (pyIter xv) Q E s₁) E s := by
  refine call_range_1 ?_
  refine wpAny_pyIter_range (IsRange.new ..) (small_one (by decide) (by decide) (by omega) h1) ?_
  have S' := S.keepOwn (s' := { s with heap := s.heap.push { cls := .type "range", data := .fields #[.int 0 s.toks, .int n t, .int 1 (s.toks + 1)] }, toks := s.toks + 1 + 1 }) rfl fun b o e => Heap.get?_push_of_some _ e
  refine h _ _ (S'.pushO _ ?_)
  show _ = _
  have e : Builtin.Range.rangeSize 0 n 1 = (n.toNat : Int) - ((0 : Nat) : Int) := by rw [rangeSize_one]; split <;> omega
  rw [e]; simp
theorem rangeIt2 {a b : Int} {t u : Tok} {Q : Value → Shared → Prop} (S : MSt s₀ z₀ z own s) (h0 : -(2 ^ 62) ≤ a) (h1 : a < 2 ^ 62) (h2 : -(2 ^ 62) ≤ b) (h3 : b < 2 ^ 62)
    (h : ∀ I s', MSt s₀ z₀ z ((I, RIt (a + ((0 : Nat) : Int)) (((b - a).toNat : Int) - ((0 : Nat) : Int))) :: own) s' → Q (.ref I) s') :
    wpAny (model prog w) A (call (.type "range") [.int a t, .int b u]) (fun xv s₁ => wpAny (model prog w) A (pyIter xv) Q E s₁) E s := by
  refine call_range_2 ?_
  refine wpAny_pyIter_range (IsRange.new ..) (small_one h0 h1 h2 h3) ?_
  have S' := S.keepOwn (s' := { s with heap := s.heap.push { cls := .type "range", data := .fields #[.int a t, .int b u, .int 1 s.toks] }, toks := s.toks + 1 }) rfl fun b o e => Heap.get?_push_of_some _ e
  refine h _ _ (S'.pushO _ ?_)
  show _ = _
  have e : Builtin.Range.rangeSize a b 1 = ((b - a).toNat : Int) - ((0 : Nat) : Int) := by rw [rangeSize_one]; split <;> omega
  rw [e]; simp
theorem listIt {la : Addr} {vs : List Value} {Q : Value → Shared → Prop} (S : MSt s₀ z₀ z own s) (hl : ZL z la vs) (h : ∀ I s', MSt s₀ z₀ z ((I, LIt la 0) :: own) s' → Q (.ref I) s') : wpAny (model prog w) A (pyIter (.ref la)) Q E s :=
  wpAny_pyIter_list (hl.at S.gr.frz) (h _ _ (S.pushO _ ⟨rfl, rfl⟩))
theorem tupleIt {la : Addr} {vs : List Value} {Q : Value → Shared → Prop} (S : MSt s₀ z₀ z own s) (hl : ZT z la vs) (h : ∀ I s', MSt s₀ z₀ z ((I, TIt la 0) :: own) s' → Q (.ref I) s') : wpAny (model prog w) A (pyIter (.ref la)) Q E s :=
  wpAny_pyIter_tuple (hl.at S.gr.frz) (h _ _ (S.pushO _ ⟨rfl, rfl⟩))

/-- a loop with a plain name as its target -/
theorem forIt {R : Result → Shared → Prop} {I : Addr} {n : Nat} {φ : Nat → Obj → Prop} {item : Nat → Value → Prop} {need : Fz → Prop} {x : Str} {px : Pos} {body orelse : List Stmt}
    (IT : It prog w A I n φ item need) (P : Nat → Fz → List Ass → List (Str × Value) → Prop) (hneed : ∀ i z own l, P i z own l → need z)
    (S : MSt s₀ z₀ z ((env.locals, Loc l) :: (I, φ 0) :: own) s) (h0 : P 0 z own l)
    (turn : ∀ i v z own l s E, i < n → item i v → P i z own l → MSt s₀ z₀ z ((env.locals, Loc ((x, v) :: l)) :: (I, φ (i + 1)) :: own) s →
      wpAny (model prog w) A (execs body env) (fun f s' => match f with
        | .next | .cont => ∃ z' own' l', MSt s₀ z₀ z' ((env.locals, Loc l') :: (I, φ (i + 1)) :: own') s' ∧ P (i + 1) z' own' l'
        | .brk => R (.ok .next) s'
        | .ret v => R (.ok (.ret v)) s') E s)
    (fin : ∀ z own l s E, P n z own l → MSt s₀ z₀ z ((env.locals, Loc l) :: own) s → wpAny (model prog w) A (execs orelse env) (fun f s' => R (.ok f) s') E s)
    (hk : env.scope.kind = .function := by rfl) (hl : env.kindOf x = some .local := by rfl) :
    codeAny (model prog w) A (.forLoop (.Name x px) (.ref I) body orelse env) R s := by
  refine codeAny_forLoop (fun k s => ∃ i z own l, k = n - i ∧ i ≤ n ∧ MSt s₀ z₀ z ((env.locals, Loc l) :: (I, φ i) :: own) s ∧ P i z own l) ?_ n ⟨0, z, own, l, rfl, Nat.zero_le _, S, h0⟩
  rintro k s ⟨i, z, own, l, rfl, hi, S, hP⟩
  by_cases hlt : i < n
  · refine IT.next s₀ z₀ z _ own s _ _ i hlt (hneed _ _ _ _ hP) S fun v s' hv S' => ?_
    refine assignL S' (fun s'' S'' => ?_) hk hl
    refine wpAny_mono (turn i v z own l s'' _ hlt hv hP S'') (fun f s₃ h₃ => ?_) fun _ _ e => e
    cases f with
    | next => obtain ⟨z', own', l', S₃, hP'⟩ := h₃; exact ⟨n - (i + 1), by omega, i + 1, z', own', l', rfl, hlt, S₃, hP'⟩
    | cont => obtain ⟨z', own', l', S₃, hP'⟩ := h₃; exact ⟨n - (i + 1), by omega, i + 1, z', own', l', rfl, hlt, S₃, hP'⟩
    | brk => exact h₃
    | ret v => exact h₃
  · obtain rfl : i = n := by omega
    exact IT.done s₀ z₀ z _ own s _ _ (hneed _ _ _ _ hP) S fun s' S' => fin z own l s' _ hP S'
end
end Mine
end

/-! # D1 -/
section
set_option autoImplicit false
open PySem PySem.W PyProof.Rows
set_option Elab.async false
namespace Mine
section
variable {prog : Program} {w : World} {g : Heap} {mg mb : Str → Option Value} {z : Fz} {f : Addr}

theorem fn_ifmt {m : Int} {t : Tok} (G : Gd g mg mb) (hf : FnIn g mg 5 f) : Fn prog w g f [.int m t] 1 z (fun _ r => ∃ t, r = .int (Builtin.bitAnd m 61440) t) := by
  refine enter (n := 0) [(Str.ofString "mode", .int m t)] [(Str.ofString "mode", .int m t)] G hf (fun _ _ _ => rfl) (fun L x hx => ?_) (by decide) (fun _ _ _ _ => ⟨rfl, trivial⟩) ?_
  · rcases List.mem_singleton.mp hx with rfl; exact .inl rfl
  intro A s pm cd doc L s₁ E hr hK S
  refine wpAny_execs_cons ?_
  refine wpAny_Return_some ?_
  refine wpAny_BinOp ?_
  refine nameL S rfl ?_
  refine constI S fun t s S => ?_
  refine andI S fun t s S => ?_
  exact ⟨_, _, _, rfl, S, ⟨_, rfl⟩⟩
end
end Mine
end

/-! # D2 -/
section
set_option autoImplicit false
open PySem PySem.W PyProof.Rows
set_option Elab.async false
namespace Mine
noncomputable def fct : Nat → Int | 0 => 1 | n + 1 => ((n : Int) + 1) * fct n
section
variable {prog : Program} {w : World} {g : Heap} {mg mb : Str → Option Value} {z : Fz} {f : Addr}

theorem fn_ways {m : Int} {t : Tok} (h0 : 0 ≤ m) (h1 : m ≤ 20) (G : Gd g mg mb) (hf : FnIn g mg 32 f) : Fn prog w g f [.int m t] 1 z (fun _ r => ∃ t, r = .int (fct m.toNat) t) := by
  refine enter (n := 0) [(Str.ofString "number", .int m t)] [(Str.ofString "number", .int m t)] G hf (fun _ _ _ => rfl) (fun L x hx => ?_) (by decide) (fun _ _ _ _ => ⟨rfl, trivial⟩) ?_
  · rcases List.mem_singleton.mp hx with rfl; exact .inl rfl
  intro A s pm cd doc L s₁ E hr hK S
  refine gen fun Q0 hQ0 => ?_
  refine wpAny_execs_cons (wpAny_Assign_Name ?_)
  refine constI S fun t₁ s S => ?_
  refine storeL S fun s S => ?_
  refine wpAny_execs_cons (wpAny_For ?_)
  refine wpAny_Call_NameR (nameB G hK S (G.free _ (by decide)) rfl (cwT ?_))
  refine wpAny_items_cons (constI S fun t₂ s S => ?_)
  refine wpAny_items_cons (wpAny_BinOp (nameL S rfl (constI S fun t₃ s S => addI S fun t₄ s S => ?_)))
  refine wpAny_items_nil ?_
  refine rangeIt2 S (by omega) (by omega) (by omega) (by omega) fun I s S => ?_
  refine forIt (It.range hr.1 I 2 (m + 1 - 2).toNat) (fun i z' own' l => z' = z ∧ own' = [] ∧ ∃ t, LSub [(Str.ofString "ways", .int (fct (i + 1)) t)] l) (fun _ _ _ _ _ => trivial) S.swap
    ⟨rfl, rfl, t₁, rfl, trivial⟩ ?_ ?_
  · rintro i v _ _ l s E hi ⟨tk, rfl⟩ ⟨rfl, rfl, tw, hl, -⟩ S
    refine gen fun Q1 hQ1 => ?_
    refine wpAny_execs_cons (wpAny_AugAssign_Name ?_)
    refine loadL S hl (nameL S rfl ?_)
    refine imulI S (.of_right (intBits_le_64 (by omega) (by omega))) fun t₅ s S => ?_
    refine storeL S fun s S => wpAny_execs_nil <| hQ1 _ _ ⟨_, _, _, S, rfl, rfl, t₅, ?_, trivial⟩
    show some (Value.int (fct (i + 1) * (2 + i)) t₅) = _
    rw [show fct (i + 1) * (2 + (i : Int)) = fct (i + 1 + 1) from by
      show _ = (((i + 1 : Nat) : Int) + 1) * fct (i + 1)
      rw [Int.mul_comm]; congr 1; omega]
  · rintro _ _ l s E ⟨rfl, rfl, tw, hl, -⟩ S
    refine wpAny_execs_nil (wpAny_execs_cons (wpAny_Return_some (nameL S hl ?_)))
    refine hQ0 _ _ ⟨_, _, _, rfl, S, tw, ?_⟩
    by_cases hm : m = 0
    · subst hm; rfl
    · rw [show (m + 1 - 2).toNat + 1 = m.toNat by omega]
end
end Mine
end

/-! # C4 -/
section
set_option autoImplicit false
open PySem PySem.W PyProof.Rows
set_option Elab.async false
namespace Mine
section
variable {prog : Program} {w : World} {A : Around} {E : Value → Shared → Prop} {s₀ s : Shared} {z₀ z : Fz} {own : List Ass} {env : Env} {value slice : Expr} {Q : Value → Shared → Prop}

theorem seqIndex_pos {i : Int} {n : Nat} (h0 : 0 ≤ i) (h1 : i < n) : seqIndex? i n = some i.toNat := by
  unfold seqIndex?
  simp only [show ¬ i < 0 by omega, if_false]
  try (rw [if_neg (by omega)])
  try (simp; omega)

theorem strItem {x : Str} {t u : Tok} {i : Int} {c : Nat} (S : MSt s₀ z₀ z own s) (h0 : 0 ≤ i) (h1 : i < x.length) (hx : x.length ≤ 1000000) (hc : x.cps[i.toNat]? = some c) (h : ∀ t s', MSt s₀ z₀ z own s' → Q (.str ⟨#[c]⟩ t) s')
    (hs : subscripted slice false (.str x t) (.int i u) = operate [.str x t, .int i u] (getItem (.str x t) (.int i u)) := by with_unfolding_all rfl) :
    wpAny (model prog w) A (subscriptTail value slice (.str x t) (.int i u)) Q E s :=
  tail_any (typeIs_str s x t) slot_str_getitem.lookup (getItem_str (c := c) (by
    have h2 : ¬ (i < -(2 ^ 63 : Int)) := by omega
    have h3 : ¬ (i ≥ 2 ^ 63) := by omega
    rw [decide_eq_false h2, decide_eq_false h3]; rfl) (by rw [seqIndex_pos h0 h1]; exact hc) (h _ _ (S.tok _))) hs

theorem listItem {a : Addr} {vs : List Value} {u : Tok} {i : Int} {v : Value} (hl : s.heap.IsList a vs.toArray) (h0 : 0 ≤ i) (h1 : i < 2 ^ 63) (hv : vs[i.toNat]? = some v) (h : Q v s)
    (hs : subscripted slice false (.ref a) (.int i u) = operate [.ref a, .int i u] (getItem (.ref a) (.int i u)) := by with_unfolding_all rfl) :
    wpAny (model prog w) A (subscriptTail value slice (.ref a) (.int i u)) Q E s :=
  tail_any hl.typeIs slot_list_getitem.lookup (wpAny_getItem_list hl h0 h1 (by simpa using hv) h) hs

theorem tupItem {a : Addr} {vs : List Value} {u : Tok} {i : Int} {v : Value} (hl : s.heap.IsTuple a vs.toArray) (h0 : 0 ≤ i) (h1 : i < 2 ^ 63) (hv : vs[i.toNat]? = some v) (h : Q v s)
    (hs : subscripted slice false (.ref a) (.int i u) = operate [.ref a, .int i u] (getItem (.ref a) (.int i u)) := by with_unfolding_all rfl) :
    wpAny (model prog w) A (subscriptTail value slice (.ref a) (.int i u)) Q E s :=
  item_tupleT hl (by omega) h1 (seqIndex_pos h0 (by
    have : i.toNat < vs.length := (List.getElem?_eq_some_iff.mp hv).1
    omega)) hv h hs

theorem addS {x y : Str} {t u : Tok} (S : MSt s₀ z₀ z own s) (hx : x.length + y.length ≤ 1000000) (h : ∀ t s', MSt s₀ z₀ z own s' → Q (.str (x ++ y) t) s') : wpAny (model prog w) A (binaryOp .Add (.str x t) (.str y u)) Q E s :=
  PyProof.Rows.add_str (fun t' tk => h t' _ (S.tok _)) (by rw [sizeLine_eq]; omega)
theorem iaddS {x y : Str} {t u : Tok} (S : MSt s₀ z₀ z own s) (hx : x.length + y.length ≤ 1000000) (h : ∀ t s', MSt s₀ z₀ z own s' → Q (.str (x ++ y) t) s') : wpAny (model prog w) A (inplaceOp .Add (.str x t) (.str y u)) Q E s :=
  PyProof.Rows.iadd_str (fun t' tk => h t' _ (S.tok _)) (by rw [sizeLine_eq]; omega)

/-- a list display, frozen at once -/
theorem listZ {elts : List Expr} {pos : Pos} (h : wpAny (model prog w) A (spliced (backTo pos (starEach elts env))) (fun vs s₁ => vs.length ≤ 1000 ∧ ∃ s₀ z₀ z own, MSt s₀ z₀ z own s₁ ∧ ∀ a z' s', Zle z z' → MSt s₀ z₀ z' own s' → ZL z' a vs → Q (.ref a) s') E s) :
    wpAny (model prog w) A (eval (.List elts pos) env) Q E s :=
  wpAny_List (wpAny_mono h (fun vs s₁ ⟨hl, s₀, z₀, z, own, S, hQ⟩ => ⟨by rw [sizeLine_eq]; omega, hQ _ _ _ (zle_zset S.size_z) (S.pushZ _) ⟨_, zset_same _ _ _, rfl, 0, rfl⟩⟩) fun _ _ e => e)
theorem tupleZ {elts : List Expr} {k : Nat} {pos : Pos} (h : wpAny (model prog w) A (spliced (backTo pos (starEach elts env))) (fun vs s₁ => vs.length ≤ 1000 ∧ ∃ s₀ z₀ z own, MSt s₀ z₀ z own s₁ ∧ ∀ a z' s', Zle z z' → MSt s₀ z₀ z' own s' → ZT z' a vs → Q (.ref a) s') E s) :
    wpAny (model prog w) A (eval (.Tuple elts k pos) env) Q E s :=
  wpAny_Tuple (wpAny_mono h (fun vs s₁ ⟨hl, s₀, z₀, z, own, S, hQ⟩ => ⟨by rw [sizeLine_eq]; omega, hQ _ _ _ (zle_zset S.size_z) (S.pushZ _) ⟨_, zset_same _ _ _, rfl, 0, rfl⟩⟩) fun _ _ e => e)
end
end Mine
end

/-! # D3 -/
section
set_option autoImplicit false
open PySem PySem.W PyProof.Rows
set_option Elab.async false
namespace Mine
noncomputable def sat (x : Str) (i : Int) : Str := ⟨#[x.cps.getD i.toNat 0]⟩
noncomputable def th (m k : Int) : Int := (m.fdiv (8 ^ (2 - k).toNat)).fmod 8
noncomputable def tab3 (k : Int) : Str := [Str.ofString "-xSs", Str.ofString "-xSs", Str.ofString "-xTt"].getD k.toNat Str.empty
noncomputable def tstep (m k : Int) (acc : Str) : Str := (acc ++ (sat (Str.ofString "-r") ((th m k).fdiv 4) ++ sat (Str.ofString "-w") (((th m k).fdiv 2).fmod 2))) ++ sat (tab3 k) ((m.fdiv (2 ^ (11 - k).toNat)).fmod 2 * 2 + (th m k).fmod 2)
noncomputable def tenI (m : Int) : Nat → Str
  | 0 => sat (Str.ofString "?pc?d?b?-?l?s???") ((m.fdiv 4096).fmod 16)
  | i + 1 => tstep m (0 + i) (tenI m i)
noncomputable def ten (m : Int) : Str := tenI m 3
theorem sat_len (x : Str) (i : Int) : (sat x i).length = 1 := rfl
theorem tenI_len (m : Int) (i : Nat) : (tenI m i).length = 1 + 3 * i := by
  induction i with
  | zero => rfl
  | succ i ih => simp only [tenI, tstep, strLen_append, ih, sat_len]; omega
theorem fmod_bd (a : Int) {b : Int} (h : 0 < b) : 0 ≤ a.fmod b ∧ a.fmod b < b := ⟨Int.fmod_nonneg_of_pos _ h, Int.fmod_lt_of_pos _ h⟩
theorem sat_get {x : Str} {i : Int} (h0 : 0 ≤ i) (h1 : i < x.length) : x.cps[i.toNat]? = some (x.cps.getD i.toNat 0) := by
  have : i.toNat < x.cps.size := by
    have : x.length = x.cps.size := rfl
    omega
  simp [this]

section
variable {prog : Program} {w : World} {g : Heap} {mg mb : Str → Option Value} {z : Fz} {f : Addr}

theorem fn_ten {m : Int} {t : Tok} (G : Gd g mg mb) (hf : FnIn g mg 31 f) : Fn prog w g f [.int m t] 1 z (fun _ r => ∃ t, r = .str (ten m) t) := by
  refine enter (n := 0) [(Str.ofString "mode", .int m t)] [(Str.ofString "mode", .int m t)] G hf (fun _ _ _ => rfl) (fun L x hx => ?_) (by decide) (fun _ _ _ _ => ⟨rfl, trivial⟩) ?_
  · rcases List.mem_singleton.mp hx with rfl; exact .inl rfl
  intro A s pm cd doc L s₁ E hr hK S
  refine gen fun Q0 hQ0 => ?_
  have b16 := fmod_bd (m.fdiv 4096) (b := 16) (by decide)
  refine wpAny_execs_cons (wpAny_Assign_Name (Subscript_ (constS S fun t1 s S => wpAny_BinOp (wpAny_BinOp (nameL S rfl (constI S fun _ s S => divI S (by decide) (by decide) fun _ s S => constI S fun _ s S =>
    modI S (by decide) fun _ s S => strItem S b16.1 (by rw [show (Str.ofString "?pc?d?b?-?l?s???").length = 16 from by decide]; exact b16.2) (by decide) (sat_get b16.1 (by rw [show (Str.ofString "?pc?d?b?-?l?s???").length = 16 from by decide]; exact b16.2)) fun t₁ s S => storeL S fun s S => ?_))))))
  refine wpAny_execs_cons (wpAny_For (wpAny_Call_NameR (nameB G hK S (G.free _ (by decide)) rfl (cwT ?_))))
  refine wpAny_items_cons (constI S fun t₂ s S => wpAny_items_nil (rangeIt1 S (by decide) (by decide) fun I s S => ?_))
  refine forIt (It.range hr.1 I 0 3) (fun i z' own' l => ∃ t₃, LSub [(Str.ofString "mode", .int m t), (Str.ofString "signs", .str (tenI m i) t₃)] l) (fun _ _ _ _ _ => trivial) S.swap
    ⟨t₁, rfl, rfl, trivial⟩ ?_ ?_
  · rintro i v z' own' l s E hi ⟨tk, rfl⟩ ⟨t₃, hm, hs, -⟩ S
    refine gen fun Q1 hQ1 => ?_
    have hk : (0 : Int) + (i : Int) = 0 ∨ (0 : Int) + (i : Int) = 1 ∨ (0 : Int) + (i : Int) = 2 := by omega
    generalize hkk : (0 : Int) + (i : Int) = k at hk S
    have k0 : 0 ≤ k := by omega
    have k2 : k ≤ 2 := by omega
    have p8 : (8 : Int) ^ (2 - k).toNat ≠ 0 ∧ ((8 : Int) ^ (2 - k).toNat).natAbs < 1073741824 := by rcases hk with rfl | rfl | rfl <;> decide
    have p2 : (2 : Int) ^ (11 - k).toNat ≠ 0 ∧ ((2 : Int) ^ (11 - k).toNat).natAbs < 1073741824 := by rcases hk with rfl | rfl | rfl <;> decide
    have b8 := fmod_bd (m.fdiv (8 ^ (2 - k).toNat)) (b := 8) (by decide)
    have d4 : 0 ≤ (th m k).fdiv 4 ∧ (th m k).fdiv 4 < 2 := by
      have e : (th m k).fdiv 4 = th m k / 4 := Int.fdiv_eq_ediv_of_nonneg _ (by decide)
      have b8' : 0 ≤ th m k ∧ th m k < 8 := b8
      rw [e]; omega
    have d2 := fmod_bd ((th m k).fdiv 2) (b := 2) (by decide)
    have e2 := fmod_bd (th m k) (b := 2) (by decide)
    have f2 := fmod_bd (m.fdiv (2 ^ (11 - k).toNat)) (b := 2) (by decide)
    have hlen := tenI_len m i
    have r2 : (Str.ofString "-r").length = 2 := by decide
    have w2 : (Str.ofString "-w").length = 2 := by decide
    have t4 : (tab3 k).length = 4 := by rcases hk with rfl | rfl | rfl <;> decide
    refine wpAny_execs_cons <| wpAny_Assign_Name <| wpAny_BinOp <| wpAny_BinOp <| nameL S hm <| wpAny_BinOp <| constI S fun _ s S => wpAny_BinOp <| constI S fun _ s S => nameL S rfl <| subI S fun _ s S =>
      powI S (by omega) (by rw [show Builtin.Int.intBits 8 = 4 from by decide]; omega) fun _ s S => divI S p8.1 p8.2 fun _ s S => constI S fun _ s S => modI S (by decide) fun _ s S => storeL S fun s S => ?_
    refine wpAny_execs_cons <| wpAny_AugAssign_Name <| loadL S hs <| wpAny_BinOp <| Subscript_ <| constS S fun _ s S => wpAny_BinOp <| nameL S rfl <| constI S fun _ s S => divI S (by decide) (by decide) fun _ s S =>
      strItem S d4.1 (by rw [r2]; exact d4.2) (by decide) (sat_get d4.1 (by rw [r2]; exact d4.2)) fun _ s S => ?_
    refine Subscript_ <| constS S fun _ s S => wpAny_BinOp <| wpAny_BinOp <| nameL S rfl <| constI S fun _ s S => divI S (by decide) (by decide) fun _ s S => constI S fun _ s S => modI S (by decide) fun _ s S =>
      strItem S d2.1 (by rw [w2]; exact d2.2) (by decide) (sat_get d2.1 (by rw [w2]; exact d2.2)) fun _ s S => ?_
    refine addS S (by show (1 + 1 : Nat) ≤ _; decide) fun _ s S => iaddS S (by rw [strLen_append]; show (tenI m i).length + (1 + 1) ≤ _; omega) fun _ s S => storeL S fun s S => ?_
    refine wpAny_execs_cons <| wpAny_AugAssign_Name <| loadL S rfl <| Subscript_ <| Subscript_ <| listZ ?_
    refine wpAny_items_cons (constS S fun ta s S => wpAny_items_cons (constS S fun tb s S => wpAny_items_cons (constS S fun tc s S => wpAny_items_nil ⟨by simp, _, _, _, _, S, fun a z' s hz S hl => ?_⟩)))
    refine nameL S rfl ?_
    have hget : ∃ tt, ([Value.str (Str.ofString "-xSs") ta, Value.str (Str.ofString "-xSs") tb, Value.str (Str.ofString "-xTt") tc] : List Value)[k.toNat]? = some (.str (tab3 k) tt) := by
      rcases hk with rfl | rfl | rfl <;> exact ⟨_, rfl⟩
    obtain ⟨tt, hget⟩ := hget
    refine listItem (hl.at S.gr.frz) k0 (by omega) hget ?_
    refine wpAny_BinOp <| wpAny_BinOp <| wpAny_BinOp <| wpAny_BinOp <| nameL S hm <| wpAny_BinOp <| constI S fun _ s S => wpAny_BinOp <| constI S fun _ s S => nameL S rfl <| subI S fun _ s S =>
      pow2I S (by omega) (by omega) fun _ s S => divI S p2.1 p2.2 fun _ s S => constI S fun _ s S => modI S (by decide) fun _ s S => constI S fun _ s S => mulI S (.of_right (by decide)) fun _ s S => ?_
    refine wpAny_BinOp (nameL S rfl (constI S fun _ s S => modI S (by decide) fun _ s S => addI S fun _ s S => ?_))
    have j0 : 0 ≤ (m.fdiv (2 ^ (11 - k).toNat)).fmod 2 * 2 + (th m k).fmod 2 := by omega
    have j1 : (m.fdiv (2 ^ (11 - k).toNat)).fmod 2 * 2 + (th m k).fmod 2 < (tab3 k).length := by rw [t4]; omega
    refine strItem S j0 j1 (by rw [t4]; decide) (sat_get j0 j1) fun _ s S => iaddS S ?_ fun t₉ s S => storeL S fun s S => wpAny_execs_nil <| hQ1 _ _ ⟨_, _, _, S, t₉, hm, ?_, trivial⟩
    · simp only [strLen_append, hlen]
      show _ + (1 + 1) + 1 ≤ _
      omega
    · show some (Value.str (tstep m k (tenI m i)) t₉) = some (Value.str (tenI m (i + 1)) t₉)
      rw [← hkk]; rfl
  · rintro z' own' l s E ⟨t₃, hm, hs, -⟩ S
    exact wpAny_execs_nil (wpAny_execs_cons (wpAny_Return_some (nameL S hs (hQ0 _ _ ⟨_, _, _, rfl, S, t₃, rfl⟩))))
end
end Mine
end

/-! # C5 -/
section
set_option autoImplicit false
open PySem PySem.W PyProof.Rows
set_option Elab.async false
namespace Mine
section
variable {prog : Program} {w : World} {K : Type} [DecidableEq K] {knd : KeyKind prog w K} {A : Around} {E : Value → Shared → Prop} {s₀ s : Shared} {z₀ z : Fz} {own : List Ass} {env : Env} {value slice : Expr} {Q : Value → Shared → Prop}
  {g : Heap} {mg mb : Str → Option Value} {kvs : List (K × Value)} {d : Addr} {k : K} {key v : Value}

noncomputable def DO (knd : KeyKind prog w K) (kvs : List (K × Value)) : Obj → Prop := fun o => o.IsDictOf knd kvs
noncomputable def ZDict (knd : KeyKind prog w K) (z : Fz) (a : Addr) (kvs : List (K × Value)) : Prop := (a == sysModules) = false ∧ ∃ o, z a = some o ∧ o.IsDictOf knd kvs
theorem ZDict.mono {z z' : Fz} (h : ZDict knd z d kvs) (hz : Zle z z') : ZDict knd z' d kvs := ⟨h.1, let ⟨o, ho, r⟩ := h.2; ⟨o, hz _ _ ho, r⟩⟩
theorem ZDict.at {h : Heap} (x : ZDict knd z d kvs) (hz : FzIn z h) : h.DictOf knd d kvs := let ⟨o, ho, r⟩ := x.2; Heap.dictOf_iff.mpr ⟨o, hz _ _ ho, r⟩
theorem dictOf_own {h : Heap} (x : ∃ o, h.get? d = some o ∧ DO knd kvs o) : h.DictOf knd d kvs := Heap.dictOf_iff.mpr x

theorem size_big (G : Gd g mg mb) (hK : Kp g s.heap) : 3 < s.heap.objs.size := (G.gl.keeps hK).lt
theorem not_mods {a : Addr} (h : 3 < a) : (a == sysModules) = false := by
  cases e : a == sysModules with
  | false => rfl
  | true => rw [beq_iff_eq.mp e] at h; exact absurd h (by decide)

theorem newObj_ne (G : Gd g mg mb) (hK : Kp g s₀.heap) (S : MSt s₀ z₀ z own s) : (s.heap.objs.size == sysModules) = false := not_mods (size_big G (hK.trans S.gr.keep))

theorem dictNew {pos : Pos} (knd : KeyKind prog w K) (G : Gd g mg mb) (hK : Kp g s₀.heap) (S : MSt s₀ z₀ z own s) (h : ∀ D s', (D == sysModules) = false → MSt s₀ z₀ z ((D, DO knd []) :: own) s' → Q (.ref D) s') :
    wpAny (model prog w) A (eval (.Dict [] [] pos) env) Q E s :=
  wpAny_Dict_empty (h _ _ (newObj_ne G hK S) (S.pushO _ (by
    obtain ⟨o, ho, hd⟩ := Heap.dictOf_iff.mp (Heap.DictOf.new (knd := knd) s.heap)
    rw [Heap.get?_push_size _ rfl] at ho; cases ho; exact hd)))

theorem inD (hkey : knd.is k key = true) (hd : (d == sysModules) = false) (hm : s.heap.DictOf knd d kvs) (S : MSt s₀ z₀ z own s) (h : ∀ s', MSt s₀ z₀ z own s' → Q (.bool (valueAt kvs k).isSome) s') :
    wpAny (model prog w) A (compareOp .In key (.ref d)) Q E s := wpAny_in_of hkey hd hm.mapOf (h _ (S.tok _))
theorem notInD (hkey : knd.is k key = true) (hd : (d == sysModules) = false) (hm : s.heap.DictOf knd d kvs) (S : MSt s₀ z₀ z own s) (h : ∀ s', MSt s₀ z₀ z own s' → Q (.bool (!(valueAt kvs k).isSome)) s') :
    wpAny (model prog w) A (compareOp .NotIn key (.ref d)) Q E s := wpAny_notIn_of hkey hd hm.mapOf (h _ (S.tok _))
theorem getD (hkey : knd.is k key = true) (hm : s.heap.DictOf knd d kvs) (hv : valueAt kvs k = some v) (S : MSt s₀ z₀ z own s) (h : ∀ s', MSt s₀ z₀ z own s' → Q v s') :
    wpAny (model prog w) A (getItem (.ref d) key) Q E s := wpAny_getItem_of hkey hm.mapOf hv (h _ (S.tok _))
theorem subD (hkey : knd.is k key = true) (hm : s.heap.DictOf knd d kvs) (hv : valueAt kvs k = some v) (S : MSt s₀ z₀ z own s) (h : ∀ s', MSt s₀ z₀ z own s' → Q v s')
    (hs : subscripted slice false (.ref d) key = operate [.ref d, key] (getItem (.ref d) key) := by with_unfolding_all rfl) :
    wpAny (model prog w) A (subscriptTail value slice (.ref d) key) Q E s := tail_any hm.typeIs slot_dict_getitem.lookup (getD hkey hm hv S h) hs
theorem setD {Q : Unit → Shared → Prop} (l₁ l₂ : List Ass) (hkey : knd.is k key = true) (S : MSt s₀ z₀ z (l₁ ++ (d, DO knd kvs) :: l₂) s) (hsz : kvs.length ≤ 1000000)
    (h : ∀ s', MSt s₀ z₀ z (l₁ ++ (d, DO knd (stored kvs k v)) :: l₂) s' → Q () s') : wpAny (model prog w) A (setItem (.ref d) key v) Q E s :=
  wpAny_setItem_pairs hkey (dictOf_own (kvs := kvs) (S.get (by simp))) (fun h' hm' hs' => by
    obtain ⟨o, ho, hd⟩ := Heap.dictOf_iff.mp hm'
    exact h _ (S.updAt l₁ l₂ hs'.extBut ho hd)) (by rw [sizeLine_eq]; omega)

/-- d.get(key, dflt) -/
theorem getMD {o e f : Expr} {apos pos : Pos} (knd : KeyKind prog w K) (hd : (d == sysModules) = false)
    (h : wpAny (model prog w) A (eval o env) (fun ov s₁ => ov = .ref d ∧ (∃ kvs, s₁.heap.DictOf knd d kvs) ∧ wpAny (model prog w) A (eval e env) (fun key s₂ => wpAny (model prog w) A (eval f env) (fun dflt s₃ =>
      ∃ k kvs s₀ z₀ z own, knd.is k key = true ∧ s₃.heap.DictOf knd d kvs ∧ MSt s₀ z₀ z own s₃ ∧ ∀ s', MSt s₀ z₀ z own s' → Q ((valueAt kvs k).getD dflt) s') E s₂) E s₁) E s)
    (hbase : attributeBase o "get" env (eval o env) = eval o env := by rfl) (hline : (apos.endLine == pos.line) = true := by rfl)
    (htrees : backTo pos (starEach [e, f] env) = [(false, eval e env), (false, eval f env)] := by rfl) :
    wpAny (model prog w) A (eval (.Call (.Attribute o "get" apos) [e, f] [] pos) env) Q E s := by
  refine wpAny_Call_method2_late hbase hline htrees (wpAny_mono h (fun ov s₁ h₁ => ?_) fun _ _ e => e)
  obtain ⟨rfl, ⟨kvs₀, hm₀⟩, h₁⟩ := h₁
  refine ⟨"dict", "dict.get", F.plainAttrs_dict, F.slot_dict_get, F.type_dict_get, hm₀.typeIs, hm₀.mapOf.noDict, ?_⟩
  refine wpAny_dict_get2 (knd := knd) hd (wpAny_mono h₁ (fun key s₂ h₂ => wpAny_mono h₂ (fun dflt s₃ h₃ => ?_) fun _ _ e => e) fun _ _ e => e)
  obtain ⟨k, kvs, s₀, z₀, z, own, hkey, hm, S, hQ⟩ := h₃
  exact ⟨k, _, hkey, hm.mapOf, hQ _ (S.tok _)⟩
end

/-! ## Unpacking -/
section
variable {prog : Program} {w : World} {A : Around} {E : Value → Shared → Prop} {s₀ s : Shared} {z₀ z : Fz} {own : List Ass} {env : Env} {Q : Unit → Shared → Prop}
theorem inOrder_cons {t : Value → Sem Unit} {ts : List (Value → Sem Unit)} {v : Value} {vs : List Value} (h : wpAny (model prog w) A (t v) (fun _ s' => wpAny (model prog w) A (assignInOrder ts vs) Q E s') E s) :
    wpAny (model prog w) A (assignInOrder (t :: ts) (v :: vs)) Q E s := wpAny_bind (wpAny_holding h)
theorem inOrder_nil (h : Q () s) : wpAny (model prog w) A (assignInOrder [] []) Q E s := wpAny_pure h
theorem unpackT {elts : List Expr} {k : Nat} {pos : Pos} {t : Addr} {vs : List Value} (hh : A.handled = none) (S : MSt s₀ z₀ z own s) (ht : s.heap.IsTuple t vs.toArray)
    (h : ∀ s', MSt s₀ z₀ z own s' → wpAny (model prog w) A (assignInOrder ((assignEach elts env).map (·.2)) vs) Q E s')
    (hn : (assignEach elts env).length = vs.length := by rfl) (hstar : (assignEach elts env).findIdx? (·.1) = none := by rfl) :
    wpAny (model prog w) A (assign (.Tuple elts k pos) env (.ref t)) Q E s :=
  wpAny_assign_Tuple hh ht (by simpa using hn) hstar fun h' hx => h _ (S.keepOwn (tk := s.toks) rfl fun b o e => hx b o (Nat.ne_of_lt (Heap.lt_size e)) e)
end

/-! ## for k, v in d.items() -/
section
variable {prog : Program} {w : World} {K : Type} [DecidableEq K] {knd : KeyKind prog w K} {A : Around} {E : Value → Shared → Prop} {s₀ s : Shared} {z₀ z : Fz} {own : List Ass} {env : Env} {l : List (Str × Value)}
  {kvs : List (K × Value)} {d : Addr}

noncomputable def KIt (d : Addr) (i n ep : Nat) : Obj → Prop := fun o => ∃ ok ov, o = { cls := .type "dict_itemiterator", dict := none, data := .fields #[.none, .bool false, .ref d, .int i 0, .int n 0, .int ep 0, ok, ov], slots := #[] }
noncomputable def ZDictAt (knd : KeyKind prog w K) (z : Fz) (d : Addr) (kvs : List (K × Value)) (ep : Nat) : Prop := ∃ o es, z d = some o ∧ o.ExactDict ∧ o.data = .dict es ep ∧ KeysOf knd es ∧ Pairs knd es.toList kvs ∧ (kvs.map (·.1)).Nodup
theorem ZDictAt.at {h : Heap} {ep : Nat} (x : ZDictAt knd z d kvs ep) (hz : FzIn z h) : h.DictAt knd d kvs ep := let ⟨o, es, ho, r⟩ := x; ⟨o, es, hz _ _ ho, r⟩
theorem ZDictAt.mono {z z' : Fz} {ep : Nat} (x : ZDictAt knd z d kvs ep) (hz : Zle z z') : ZDictAt knd z' d kvs ep := let ⟨o, es, ho, r⟩ := x; ⟨o, es, hz _ _ ho, r⟩
theorem ZDict.dictAt (x : ZDict knd z d kvs) : ∃ ep, ZDictAt knd z d kvs ep := let ⟨o, ho, es, ep, r⟩ := x.2; ⟨ep, o, es, ho, r⟩

theorem itemsIt {o : Expr} {apos pos : Pos} {Q : Value → Shared → Prop} (S : MSt s₀ z₀ z own s) (hd : ZDict knd z d kvs) (ho : ∀ Q' : Value → Shared → Prop, Q' (.ref d) s → wpAny (model prog w) A (eval o env) Q' E s)
    (h : ∀ I s' ep, ZDictAt knd z d kvs ep → MSt s₀ z₀ z ((I, KIt d 0 kvs.length ep) :: own) s' → Q (.ref I) s')
    (hbase : attributeBase o "items" env (eval o env) = eval o env := by rfl) (hline : (apos.endLine == pos.line) = true := by rfl) :
    wpAny (model prog w) A (eval (.Call (.Attribute o "items" apos) [] [] pos) env) (fun x s₁ => wpAny (model prog w) A (pyIter x) Q E s₁) E s := by
  obtain ⟨ep, hat⟩ := hd.dictAt
  refine wpAny_Call_items hd.1 (hd.at S.gr.frz) hbase hline ho ?_
  have S' := S.keepOwn (s' := { s with heap := s.heap.push { cls := .type "dict_items", data := .fields #[.ref d] } }) (tk := s.toks) rfl fun b o e => Heap.get?_push_of_some _ e
  refine wpAny_pyIter_items (knd := knd) (d := d) (kvs := kvs) (ep := ep) ⟨_, Heap.get?_push_size _ rfl, rfl, rfl⟩ (hat.at S'.gr.frz) ?_
  exact h _ _ ep hat (S'.pushO _ ⟨.none, .none, rfl⟩)

theorem forItems {R : Result → Shared → Prop} {I : Addr} {ep : Nat} {xk xv : Str} {pk pv pt : Pos} {x1 : Nat} {body orelse : List Stmt} (hh : A.handled = none)
    (P : Nat → Fz → List Ass → List (Str × Value) → Prop) (hneed : ∀ i z own l, P i z own l → ZDictAt knd z d kvs ep)
    (S : MSt s₀ z₀ z ((env.locals, Loc l) :: (I, KIt d 0 kvs.length ep) :: own) s) (h0 : P 0 z own l)
    (turn : ∀ i k v key z own l s E, kvs[i]? = some (k, v) → knd.is k key = true → P i z own l → MSt s₀ z₀ z ((env.locals, Loc ((xv, v) :: (xk, key) :: l)) :: (I, KIt d (i + 1) kvs.length ep) :: own) s →
      wpAny (model prog w) A (execs body env) (fun f s' => match f with
        | .next | .cont => ∃ z' own' l', MSt s₀ z₀ z' ((env.locals, Loc l') :: (I, KIt d (i + 1) kvs.length ep) :: own') s' ∧ P (i + 1) z' own' l'
        | .brk => R (.ok .next) s'
        | .ret v => R (.ok (.ret v)) s') E s)
    (fin : ∀ z own l s E, P kvs.length z own l → MSt s₀ z₀ z ((env.locals, Loc l) :: own) s → wpAny (model prog w) A (execs orelse env) (fun f s' => R (.ok f) s') E s)
    (hk : env.scope.kind = .function := by rfl) (hlk : env.kindOf xk = some .local := by rfl) (hlv : env.kindOf xv = some .local := by rfl) :
    codeAny (model prog w) A (.forLoop (.Tuple [.Name xk pk, .Name xv pv] x1 pt) (.ref I) body orelse env) R s := by
  refine codeAny_forLoop_any (fun n s => ∃ i z own l, n = kvs.length - i ∧ i ≤ kvs.length ∧ MSt s₀ z₀ z ((env.locals, Loc l) :: (I, KIt d i kvs.length ep) :: own) s ∧ P i z own l) ?_ kvs.length ⟨0, z, own, l, rfl, Nat.zero_le _, S, h0⟩
  rintro n s ⟨i, z, own, l, rfl, hi, S, hP⟩
  have hm := (hneed _ _ _ _ hP).at S.gr.frz
  obtain ⟨oI, hoI, ok, ov, rfl⟩ := S.get1
  cases hv : kvs[i]? with
  | none =>
    have hsz : i = kvs.length := Nat.le_antisymm hi (by simpa using hv)
    subst hsz
    exact wpAny_pyNext_items_end hh hoI hm hv fun h' hx => fin z own l _ _ hP (S.drop1 (tk := s.toks) hx)
  | some kv =>
    obtain ⟨k, v⟩ := kv
    have hlt : i < kvs.length := (List.getElem?_eq_some_iff.mp hv).1
    have hiI : I < s.heap.objs.size := Heap.lt_size hoI
    refine wpAny_pyNext_items_item hoI hm hv fun key h₁ hkey heo ht₁ hz₁ hk₁ => ?_
    have S₁ := S.upd1 (tk := s.toks) (φ' := fun _ => True) hk₁ heo trivial
    refine wpAny_letOwnedTupleGo_items heo fun h₂ he₂ hs₂ => ?_
    have S₂ := S₁.upd1 (tk := s.toks) (φ' := KIt d (i + 1) kvs.length ep) hs₂.extBut he₂ ⟨key, v, rfl⟩
    have ht₂ : h₂.IsTuple s.heap.objs.size #[key, v] := ⟨_, (hs₂.2 _ (Nat.ne_of_gt hiI)).trans ht₁, rfl, _, rfl⟩
    refine unpackT (vs := [key, v]) hh S₂ ht₂ (fun s₃ S₃ => ?_) rfl rfl
    refine inOrder_cons (assignL S₃ (fun s₄ S₄ => inOrder_cons (assignL S₄ (fun s₅ S₅ => inOrder_nil ?_) hk hlv)) hk hlk)
    refine wpAny_mono (turn i k v key z own l s₅ _ hv hkey hP S₅) (fun f s₆ h₆ => ?_) fun _ _ e => e
    cases f with
    | next => obtain ⟨z', own', l', S₆, hP'⟩ := h₆; exact ⟨kvs.length - (i + 1), by omega, i + 1, z', own', l', rfl, hlt, S₆, hP'⟩
    | cont => obtain ⟨z', own', l', S₆, hP'⟩ := h₆; exact ⟨kvs.length - (i + 1), by omega, i + 1, z', own', l', rfl, hlt, S₆, hP'⟩
    | brk => exact h₆
    | ret v => exact h₆
end
end Mine
end

/-! # D4 -/
section
set_option autoImplicit false
set_option linter.unusedSectionVars false
set_option linter.unusedVariables false
open PySem PySem.W PyProof.Rows
set_option Elab.async false
namespace Mine

/-! ## dicts as lists of pairs, plainly -/
section
variable {K α β : Type} [DecidableEq K]
noncomputable def put (l : List (K × α)) (k : K) (v : α) : List (K × α) := if l.any (fun p => p.1 = k) then l.map (fun p => if p.1 = k then (p.1, v) else p) else l ++ [(k, v)]
noncomputable def look (l : List (K × α)) (k : K) : Option α := (l.find? fun p => p.1 = k).map (·.2)
inductive Rel2 (R : α → β → Prop) : List (K × α) → List (K × β) → Prop
  | nil : Rel2 R [] []
  | cons {k : K} {v : α} {d : β} {r : List (K × α)} {r' : List (K × β)} : R v d → Rel2 R r r' → Rel2 R ((k, v) :: r) ((k, d) :: r')
variable {R R' : α → β → Prop} {l : List (K × α)} {c : List (K × β)} {k : K} {v : α} {d : β}
theorem Rel2.mono (h : Rel2 R l c) (hR : ∀ a b, R a b → R' a b) : Rel2 R' l c := by
  induction h with
  | nil => exact .nil
  | cons h _ ih => exact .cons (hR _ _ h) ih
theorem Rel2.length (h : Rel2 R l c) : l.length = c.length := by
  induction h with
  | nil => rfl
  | cons _ _ ih => simp [ih]
theorem Rel2.any (h : Rel2 R l c) (k : K) : l.any (fun p => p.1 = k) = c.any (fun p => p.1 = k) := by
  induction h with
  | nil => rfl
  | cons _ _ ih => simp [List.any_cons, ih]
theorem Rel2.map (h : Rel2 R l c) (hd : R v d) : Rel2 R (l.map fun p => if p.1 = k then (p.1, v) else p) (c.map fun p => if p.1 = k then (p.1, d) else p) := by
  induction h with
  | nil => exact .nil
  | @cons k' v' d' r r' h _ ih =>
    simp only [List.map_cons]
    by_cases hk : k' = k
    · simp only [hk, if_true]; exact .cons hd (by simpa [hk] using ih)
    · simp only [hk, if_false]; exact .cons h ih
theorem Rel2.snoc (h : Rel2 R l c) (hd : R v d) : Rel2 R (l ++ [(k, v)]) (c ++ [(k, d)]) := by
  induction h with
  | nil => exact .cons hd .nil
  | cons h _ ih => exact .cons h ih
theorem Rel2.put (h : Rel2 R l c) (hd : R v d) : Rel2 R (put l k v) (Mine.put c k d) := by
  unfold Mine.put
  rw [h.any k]
  split
  · exact h.map hd
  · exact h.snoc hd
theorem Rel2.look (h : Rel2 R l c) (k : K) : (Mine.look l k = none ∧ Mine.look c k = none) ∨ ∃ v d, Mine.look l k = some v ∧ Mine.look c k = some d ∧ R v d := by
  induction h with
  | nil => exact .inl ⟨rfl, rfl⟩
  | @cons k' v' d' r r' h _ ih =>
    by_cases hk : k' = k
    · exact .inr ⟨v', d', by simp [Mine.look, hk], by simp [Mine.look, hk], h⟩
    · simpa [Mine.look, hk] using ih
theorem Rel2.get {i : Nat} (h : Rel2 R l c) (hi : l[i]? = some (k, v)) : ∃ d, c[i]? = some (k, d) ∧ R v d := by
  induction h generalizing i with
  | nil => simp at hi
  | @cons k' v' d' r r' h _ ih =>
    cases i with
    | zero => simp at hi; obtain ⟨rfl, rfl⟩ := hi; exact ⟨d', by simp, h⟩
    | succ i => simpa using ih (by simpa using hi)
theorem put_length (l : List (K × α)) (k : K) (v : α) : (put l k v).length ≤ l.length + 1 := by
  unfold put; split <;> simp
end
theorem stored_put {K : Type} [DecidableEq K] (l : List (K × Value)) (k : K) (v : Value) : stored l k v = put l k v := rfl
theorem valueAt_look {K : Type} [DecidableEq K] (l : List (K × Value)) (k : K) : valueAt l k = look l k := rfl

noncomputable def IntR : Value → Int → Prop := fun v i => ∃ t, v = .int i t
noncomputable def copyC (t : List (Str × Int)) : List (Str × Int) := t.foldl (fun n p => put n p.1 p.2) []
noncomputable def addTo (n : List (Str × Int)) (p : Str × Int) : List (Str × Int) := put n p.1 (match look n p.1 with | some x => x + p.2 | none => p.2)
theorem addTo_none {n : List (Str × Int)} {k : Str} {c : Int} (h : look n k = none) : addTo n (k, c) = put n k c := by simp [addTo, h]
theorem addTo_some {n : List (Str × Int)} {k : Str} {c x : Int} (h : look n k = some x) : addTo n (k, c) = put n k (x + c) := by simp [addTo, h]
noncomputable def addC (t s : List (Str × Int)) : List (Str × Int) := s.foldl addTo (copyC t)

section
variable {prog : Program} {w : World}
/-- a value that is a frozen dict of texts to ints -/
noncomputable def ZC (prog : Program) (w : World) (z : Fz) (v : Value) (c : List (Str × Int)) : Prop := ∃ a kvs, v = .ref a ∧ ZDict (PySem.strKind prog w) z a kvs ∧ Rel2 IntR kvs c
theorem ZC.mono {z z' : Fz} {v : Value} {c : List (Str × Int)} (h : ZC prog w z v c) (hz : Zle z z') : ZC prog w z' v c := let ⟨a, kvs, e, hd, hr⟩ := h; ⟨a, kvs, e, hd.mono hz, hr⟩

variable {g : Heap} {mg mb : Str → Option Value} {z : Fz} {f : Addr}

theorem strKey {key : Value} {k : Str} (h : (PySem.strKind prog w).is k key = true) : ∃ t, key = .str k t := by
  cases key with
  | str x t => exact ⟨t, by simp [PySem.strKind, Value.isStrOf] at h; rw [h]⟩
  | _ => simp [PySem.strKind, Value.isStrOf] at h
theorem foldl_take {α β : Type} (f : β → α → β) (b : β) (l : List α) {i : Nat} {x : α} (h : l[i]? = some x) : (l.take (i + 1)).foldl f b = f ((l.take i).foldl f b) x := by
  rw [List.take_add_one, h]; simp

theorem fn_callers {tv sv : Value} {ct cs : List (Str × Int)} (ht : ZC prog w z tv ct) (hs : ZC prog w z sv cs) (hlen : ct.length + cs.length ≤ 1000) (G : Gd g mg mb) (hf : FnIn g mg 2 f) :
    Fn prog w g f [tv, sv] 1 z (fun z' r => ZC prog w z' r (addC ct cs)) := by
  obtain ⟨ta, tk, rfl, hT, hTr⟩ := ht
  obtain ⟨sa, sk, rfl, hS, hSr⟩ := hs
  refine enter (n := 0) [(Str.ofString "target", .ref ta), (Str.ofString "source", .ref sa)] [(Str.ofString "target", .ref ta), (Str.ofString "source", .ref sa)] G hf (fun _ _ _ => rfl) (fun L x hx => ?_) (by decide) (fun _ _ _ _ => ⟨rfl, rfl, trivial⟩) ?_
  · rcases List.mem_cons.mp hx with rfl | hx
    · exact .inl rfl
    · rcases List.mem_singleton.mp hx with rfl; exact .inl rfl
  intro A s pm cd doc L s₁ E hr hK S
  refine gen fun Q0 hQ0 => ?_
  refine wpAny_execs_cons <| wpAny_Assign_Name <| dictNew (PySem.strKind prog w) G hK S fun D s hD S => storeL S.swap fun s S => ?_
  -- the first loop
  refine wpAny_execs_cons <| wpAny_For <| itemsIt S hT (fun Q' h => nameL S rfl h) fun I s ep hat S => ?_
  refine forItems (knd := PySem.strKind prog w) hr.1
    (fun i z' own' l => z = z' ∧ LSub [(Str.ofString "source", .ref sa), (Str.ofString "new_callers", .ref D)] l ∧ ∃ kn, own' = [(D, DO (PySem.strKind prog w) kn)] ∧ Rel2 IntR kn ((ct.take i).foldl (fun n p => put n p.1 p.2) []) ∧ kn.length ≤ i)
    (fun i z' own' l h => by rw [← h.1]; exact hat) S.swap ⟨rfl, ⟨rfl, rfl, trivial⟩, [], rfl, .nil, Nat.le_refl _⟩ ?_ ?_
  · rintro i k v key _ _ l s E hi hkey ⟨rfl, ⟨hl1, hl2, -⟩, kn, rfl, hrel, hkl⟩ S
    refine gen fun Q1 hQ1 => ?_
    obtain ⟨c, hc, tc, rfl⟩ := hTr.get hi
    obtain ⟨tk, rfl⟩ := strKey hkey
    have hti : i < ct.length := (List.getElem?_eq_some_iff.mp hc).1
    refine wpAny_execs_cons <| wpAny_Assign_Subscript <| nameL S rfl <| nameL S hl2 <| nameL S rfl <| setD [_, _] [] hkey S (by omega) fun s S => wpAny_execs_nil <| hQ1 _ _ ⟨_, _, _, S, rfl, ⟨hl1, hl2, trivial⟩, _, rfl, ?_, ?_⟩
    · rw [foldl_take _ _ _ hc]; exact hrel.put ⟨_, rfl⟩
    · rw [stored_put]; have := put_length kn k (Value.int c tc); omega
  rintro _ _ l s E ⟨rfl, ⟨hl1, hl2, -⟩, kn, rfl, hrel, hkl⟩ S
  refine wpAny_execs_nil ?_
  rw [show tk.length = ct.length from hTr.length, List.take_length] at hrel
  have hkl' : kn.length ≤ ct.length := by rw [← hTr.length]; exact hkl
  -- the second loop
  refine wpAny_execs_cons <| wpAny_For <| itemsIt S hS (fun Q' h => nameL S hl1 h) fun I s ep hat S => ?_
  refine forItems (knd := PySem.strKind prog w) hr.1
    (fun i z' own' l => z = z' ∧ LSub [(Str.ofString "new_callers", .ref D)] l ∧ ∃ kn, own' = [(D, DO (PySem.strKind prog w) kn)] ∧ Rel2 IntR kn ((cs.take i).foldl addTo (copyC ct)) ∧ kn.length ≤ ct.length + i)
    (fun i z' own' l h => by rw [← h.1]; exact hat) S.swap ⟨rfl, ⟨hl2, trivial⟩, kn, rfl, hrel, hkl'⟩ ?_ ?_
  · rintro i k v key _ _ l s E hi hkey ⟨rfl, ⟨hl2, -⟩, kn, rfl, hrel, hkl⟩ S
    refine gen fun Q2 hQ2 => ?_
    obtain ⟨c, hc, tc, rfl⟩ := hSr.get hi
    obtain ⟨tk, rfl⟩ := strKey hkey
    have hti : i < cs.length := (List.getElem?_eq_some_iff.mp hc).1
    refine wpAny_execs_cons <| wpAny_If <| wpAny_isTrue_Compare1 <| nameL S rfl <| nameL S hl2 <| inD hkey hD (dictOf_own S.get2) S fun s S => wpAny_truthy_bool ?_
    rcases hrel.look k with ⟨h1, h2⟩ | ⟨v', d', h1, h2, tv, rfl⟩
    · rw [valueAt_look, h1]
      refine wpAny_execs_cons <| wpAny_Assign_Subscript <| nameL S rfl <| nameL S hl2 <| nameL S rfl <| setD [_, _] [] hkey S (by omega) fun s S => wpAny_execs_nil <| wpAny_execs_nil <| hQ2 _ _ ⟨_, _, _, S, rfl, ⟨hl2, trivial⟩, _, rfl, ?_, ?_⟩
      · rw [foldl_take _ _ _ hc, addTo_none h2]; exact hrel.put ⟨_, rfl⟩
      · rw [stored_put]; have := put_length kn k (Value.int c tc); omega
    · rw [valueAt_look, h1]
      refine wpAny_execs_cons <| wpAny_If <| wpAny_isTrue_value <| wpAny_Call_NameR <| nameB G hK S (G.free _ (by decide)) rfl <| cwB <| wpAny_items_cons <| nameL S rfl <| wpAny_items_cons <| nameB G hK S (G.free _ (by decide)) rfl <|
        wpAny_items_nil <| IsiPair.int_tuple <| wpAny_truthy_bool ?_
      have S := S.tok (s.toks + 1)
      refine wpAny_execs_cons <| wpAny_AugAssign_Subscript <| nameL S hl2 <| nameL S rfl <| getD hkey (dictOf_own S.get2) h1 S fun s S => nameL S rfl <| iaddI S fun t₃ s S => setD [_, _] [] hkey S (by omega) fun s S =>
        wpAny_execs_nil <| wpAny_execs_nil <| wpAny_execs_nil <| hQ2 _ _ ⟨_, _, _, S, rfl, ⟨hl2, trivial⟩, _, rfl, ?_, ?_⟩
      · rw [foldl_take _ _ _ hc, addTo_some h2]; exact hrel.put ⟨_, rfl⟩
      · rw [stored_put]; have := put_length kn k (Value.int (d' + c) t₃); omega
  rintro _ _ l s E ⟨rfl, ⟨hl2, -⟩, kn, rfl, hrel, hkl⟩ S
  refine wpAny_execs_nil <| wpAny_execs_cons <| wpAny_Return_some <| nameL S hl2 ?_
  rw [show sk.length = cs.length from hSr.length, List.take_length] at hrel
  obtain ⟨o, ho, hdo, S'⟩ := S.swap.freeze0
  exact hQ0 _ _ ⟨_, _, _, rfl, S', D, kn, rfl, ⟨hD, o, zset_same _ _ _, hdo⟩, hrel⟩
end
end Mine
end

/-! # D5 -/
section
set_option autoImplicit false
set_option linter.unusedSectionVars false
set_option linter.unusedVariables false
open PySem PySem.W PyProof.Rows
set_option Elab.async false
namespace Mine

structure Ent where
  cc : Int
  nc : Int
  tt : Int
  ct : Int
  cal : List (Str × Int)
noncomputable def addE (t s : Ent) : Ent := ⟨s.cc + t.cc, s.nc + t.nc, s.tt + t.tt, s.ct + t.ct, addC t.cal s.cal⟩

section
variable {prog : Program} {w : World}
noncomputable def ZE (prog : Program) (w : World) (z : Fz) (v : Value) (e : Ent) : Prop :=
  ∃ a t1 t2 t3 t4 v5, v = .ref a ∧ ZT z a [.int e.cc t1, .int e.nc t2, .int e.tt t3, .int e.ct t4, v5] ∧ ZC prog w z v5 e.cal
theorem ZE.mono {z z' : Fz} {v : Value} {e : Ent} (h : ZE prog w z v e) (hz : Zle z z') : ZE prog w z' v e :=
  let ⟨a, t1, t2, t3, t4, v5, ev, ht, hc⟩ := h; ⟨a, t1, t2, t3, t4, v5, ev, ht.mono hz, hc.mono hz⟩

variable {g : Heap} {mg mb : Str → Option Value} {z : Fz} {f : Addr}

theorem fn_stats {tv sv : Value} {te se : Ent} (ht : ZE prog w z tv te) (hs : ZE prog w z sv se) (hlen : te.cal.length + se.cal.length ≤ 1000) (G : Gd g mg mb) (hf : FnIn g mg 1 f) :
    Fn prog w g f [tv, sv] 2 z (fun z' r => ZE prog w z' r (addE te se)) := by
  obtain ⟨ta, a1, a2, a3, a4, a5, rfl, hT, hTc⟩ := ht
  obtain ⟨sa, b1, b2, b3, b4, b5, rfl, hS, hSc⟩ := hs
  refine enter (n := 1) [(Str.ofString "target", .ref ta), (Str.ofString "source", .ref sa)] [(Str.ofString "target", .ref ta), (Str.ofString "source", .ref sa)] G hf (fun _ _ _ => rfl) (fun L x hx => ?_) (by decide) (fun _ _ _ _ => ⟨rfl, rfl, trivial⟩) ?_
  · rcases List.mem_cons.mp hx with rfl | hx
    · exact .inl rfl
    · rcases List.mem_singleton.mp hx with rfl; exact .inl rfl
  intro A s pm cd doc L s₁ E hr hK S
  refine gen fun Q0 hQ0 => ?_
  obtain ⟨fc, hfc⟩ := G.fn 2 (by decide)
  refine wpAny_execs_cons <| Assign_Tuple <| nameL S rfl <| unpackT hr.1 S (hS.at S.gr.frz) fun s S => ?_
  refine inOrder_cons <| assignL S fun s S => inOrder_cons <| assignL S fun s S => inOrder_cons <| assignL S fun s S => inOrder_cons <| assignL S fun s S => inOrder_cons <| assignL S fun s S => inOrder_nil ?_
  refine wpAny_execs_cons <| Assign_Tuple <| nameL S rfl <| unpackT hr.1 S (hT.at S.gr.frz) fun s S => ?_
  refine inOrder_cons <| assignL S fun s S => inOrder_cons <| assignL S fun s S => inOrder_cons <| assignL S fun s S => inOrder_cons <| assignL S fun s S => inOrder_cons <| assignL S fun s S => inOrder_nil ?_
  refine wpAny_execs_cons <| wpAny_Return_some <| tupleZ ?_
  refine wpAny_items_cons <| wpAny_BinOp <| nameL S rfl <| nameL S rfl <| addI S fun c1 s S => ?_
  refine wpAny_items_cons <| wpAny_BinOp <| nameL S rfl <| nameL S rfl <| addI S fun c2 s S => ?_
  refine wpAny_items_cons <| wpAny_BinOp <| nameL S rfl <| nameL S rfl <| addI S fun c3 s S => ?_
  refine wpAny_items_cons <| wpAny_BinOp <| nameL S rfl <| nameL S rfl <| addI S fun c4 s S => ?_
  obtain ⟨o, pm', cd', doc', hmg, _⟩ := id hfc
  refine wpAny_items_cons <| wpAny_Call_NameR <| nameG G hK S hmg <| cwF hfc <| wpAny_items_cons <| nameL S rfl <| wpAny_items_cons <| nameL S rfl <| wpAny_items_nil ⟨hK.trans S.gr.keep, ?_⟩
  refine (fn_callers hTc hSc hlen G hfc).use hr hK S fun r z' s hz S hr => wpAny_items_nil ⟨by simp, _, _, _, _, S, fun a z'' s hz' S ha => ?_⟩
  exact hQ0 _ _ ⟨_, _, _, rfl, S, a, _, _, _, _, _, rfl, ha, hr.mono hz'⟩

/-! ## values() -/
section
variable {K : Type} [DecidableEq K] {knd : PySem.KeyKind prog w K} {A : Around} {E : Value → Shared → Prop} {s₀ s : Shared} {z₀ z : Fz} {own : List Ass} {env : Env} {kvs : List (K × Value)} {d : Addr}
noncomputable def VIt (d : Addr) (n ep : Nat) (i : Nat) : Obj → Prop := fun o => o.cls = .type "dict_valueiterator" ∧ o.data = .fields #[.ref d, .int i 0, .int n 0, .int ep 0]
theorem It.values (hh : A.handled = none) (I d : Addr) (kvs : List (K × Value)) (ep : Nat) : It prog w A I kvs.length (VIt d kvs.length ep) (fun i v => ∃ k, kvs[i]? = some (k, v)) (fun z => ZDictAt knd z d kvs ep) where
  next := fun s₀ z₀ z p own s Q E i hi hz S hQ => by
    refine wpAny_pyNext_values_item (k := kvs[i].1) (v := kvs[i].2) S.get1 (hz.at S.gr.frz) (by simp [hi]) fun h' hit hs => ?_
    obtain ⟨o', ho', hc', hd'⟩ := hit
    exact hQ _ _ ⟨kvs[i].1, by simp [hi]⟩ (S.upd1 (tk := s.toks) hs.extBut ho' ⟨hc', hd'⟩)
  done := fun s₀ z₀ z p own s Q E hz S hQ => by
    exact wpAny_pyNext_values_end hh S.get1 (hz.at S.gr.frz) (by simp) fun h' hx => hQ _ (S.drop1 (tk := s.toks) hx)
theorem valuesIt {o : Expr} {apos pos : Pos} {Q : Value → Shared → Prop} (S : MSt s₀ z₀ z own s) (hd : ZDict knd z d kvs) (ho : ∀ Q' : Value → Shared → Prop, Q' (.ref d) s → wpAny (model prog w) A (eval o env) Q' E s)
    (h : ∀ I s' ep, ZDictAt knd z d kvs ep → MSt s₀ z₀ z ((I, VIt d kvs.length ep 0) :: own) s' → Q (.ref I) s')
    (hbase : attributeBase o "values" env (eval o env) = eval o env := by rfl) (hline : (apos.endLine == pos.line) = true := by rfl) :
    wpAny (model prog w) A (eval (.Call (.Attribute o "values" apos) [] [] pos) env) (fun x s₁ => wpAny (model prog w) A (pyIter x) Q E s₁) E s := by
  obtain ⟨ep, hat⟩ := hd.dictAt
  have hm := hd.at S.gr.frz
  refine wpAny_Call_method (T := "dict") (id := "dict.values") hbase rfl hline F.plainAttrs_dict F.slot_dict_values F.type_dict_values (ho _ ⟨hm.typeIs, hm.mapOf.noDict, ?_⟩)
  show wpAny _ _ (callWith pos (.builtin "dict.values") [.ref d] [] []) _ E s
  refine method_meetsIn F.slot_dict_values F.entry_dict_values rfl (PySem.evalArgs_none ⟨rfl, hm.typeIs, F.args_dict_values_1 _, _, meets_dict_values knd d hd.1, ⟨kvs, hm⟩, ?_⟩)
  have S' := S.keepOwn (s' := { s with heap := s.heap.push { cls := .type "dict_values", data := .fields #[.ref d] } }) (tk := s.toks) rfl fun b o e => Heap.get?_push_of_some _ e
  refine wpAny_pyIter_values (knd := knd) (d := d) (kvs := kvs) (ep := ep) ⟨_, Heap.get?_push_size _ rfl, rfl, rfl⟩ (hat.at S'.gr.frz) ?_
  exact h _ _ ep hat (S'.pushO _ ⟨rfl, rfl⟩)
end

noncomputable def sumC (c : List (Str × Int)) : Int := c.foldl (fun n p => n + p.2) 0

theorem fn_count {cv : Value} {c : List (Str × Int)} (hc : ZC prog w z cv c) (G : Gd g mg mb) (hf : FnIn g mg 3 f) : Fn prog w g f [cv] 1 z (fun _ r => ∃ t, r = .int (sumC c) t) := by
  obtain ⟨ca, ck, rfl, hC, hCr⟩ := hc
  refine enter (n := 0) [(Str.ofString "callers", .ref ca)] [(Str.ofString "callers", .ref ca)] G hf (fun _ _ _ => rfl) (fun L x hx => ?_) (by decide) (fun _ _ _ _ => ⟨rfl, trivial⟩) ?_
  · rcases List.mem_singleton.mp hx with rfl; exact .inl rfl
  intro A s pm cd doc L s₁ E hr hK S
  refine gen fun Q0 hQ0 => ?_
  refine wpAny_execs_cons <| wpAny_Assign_Name <| constI S fun t₁ s S => storeL S fun s S => ?_
  refine wpAny_execs_cons <| wpAny_For <| valuesIt S hC (fun Q' h => nameL S rfl h) fun I s ep hat S => ?_
  refine forIt (It.values hr.1 I ca ck ep) (fun i z' own' l => z = z' ∧ ∃ t, LSub [(Str.ofString "nc", .int ((c.take i).foldl (fun n p => n + p.2) 0) t)] l) (fun _ _ _ _ h => by rw [← h.1]; exact hat) S.swap
    ⟨rfl, t₁, rfl, trivial⟩ ?_ ?_
  · rintro i v _ _ l s E hi ⟨k, hk⟩ ⟨rfl, tw, hl, -⟩ S
    refine gen fun Q1 hQ1 => ?_
    obtain ⟨x, hx, tx, rfl⟩ := hCr.get hk
    refine wpAny_execs_cons <| wpAny_AugAssign_Name <| loadL S hl <| nameL S rfl <| iaddI S fun t₅ s S => storeL S fun s S => wpAny_execs_nil <| hQ1 _ _ ⟨_, _, _, S, rfl, t₅, ?_, trivial⟩
    rw [foldl_take _ _ _ hx]; rfl
  · rintro _ _ l s E ⟨rfl, tw, hl, -⟩ S
    rw [hCr.length, List.take_length] at hl
    exact wpAny_execs_nil <| wpAny_execs_cons <| wpAny_Return_some <| nameL S hl <| hQ0 _ _ ⟨_, _, _, rfl, S, tw, rfl⟩
end
end Mine
end

/-! # C6 -/
section
set_option autoImplicit false
set_option linter.unusedSectionVars false
set_option linter.unusedVariables false
open PySem PySem.W PyProof.Rows
set_option Elab.async false
set_option maxRecDepth 100000
namespace Mine

/-! ## enumerate over a tuple -/
theorem enumNewT (t : Addr) (items : Array Value) (n : Nat) (dct : Option Addr) (sl : Array (Option Value)) :
    Meets (Builtin.«enumerate.__new__» ⟨[.type "enumerate", .ref t], []⟩) (fun _ R s => s.heap.get? t = some { cls := .type "tuple", dict := dct, data := .seq items n, slots := sl } ∧
      R (.ok (.ret (.ref (s.heap.push { cls := .type "tuple_iterator", data := .fields #[.ref t, .int 0 0] }).objs.size)))
        { s with heap := (s.heap.push { cls := .type "tuple_iterator", data := .fields #[.ref t, .int 0 0] }).push { cls := .type "enumerate", data := .fields #[.none, .bool false, .ref s.heap.objs.size, rawInt 0, .none, .none] } }) :=
  .of_wp fun prog w A R s h => by
    obtain ⟨hp, g, d, tk, os⟩ := s; obtain ⟨hl, h⟩ := h
    have hsub := sub_enumerate
    have hL : Heap.IsTuple (Shared.heap ⟨hp, g, d, tk, os⟩) t items := ⟨_, hl, rfl, n, rfl⟩
    wp_walk using AutoSeq1.wpAny_loadPart' hl
    refine wpAny_stack_any fun st => wpAny_pure ?_
    split
    · rename_i c _ _ _ _ _
      cases (c == Value.type "enumerate") <;> (wp_walk using AutoSeq1.wpAny_loadPart' hl, wpAny_pyIter_tuple hL; exact ⟨_, rfl, h⟩)
    · wp_walk using AutoSeq1.wpAny_loadPart' hl, wpAny_pyIter_tuple hL
      exact ⟨_, rfl, h⟩

section
variable {prog : Program} {w : World} {A : Around} {E : Value → Shared → Prop} {s₀ s : Shared} {z₀ z : Fz} {own : List Ass} {env : Env} {l : List (Str × Value)}

noncomputable def EIt (it : Addr) (i : Nat) : Obj → Prop := fun o => ∃ old, o = { cls := .type "enumerate", dict := none, data := .fields #[.none, .bool false, .ref it, rawInt i, .none, old], slots := #[] }

theorem enumIt {t : Addr} {vs : List Value} {Q : Value → Shared → Prop} (S : MSt s₀ z₀ z own s) (ht : ZT z t vs)
    (h : ∀ e it s', MSt s₀ z₀ z ((e, EIt it 0) :: (it, TIt t 0) :: own) s' → Q (.ref e) s') :
    wpAny (model prog w) A (call (.type "enumerate") [.ref t]) (fun x s₁ => wpAny (model prog w) A (pyIter x) Q E s₁) E s := by
  obtain ⟨⟨c, dct, dt, sl⟩, hl, hc, n, hd⟩ := ht.at S.gr.frz
  replace hc : c = .type "tuple" := hc
  replace hd : dt = .seq vs.toArray n := hd
  subst hc hd
  refine callType_new F.called_enumerate (by decide) (F.typeCall_enumerate_1 _) (F.newCall_enumerate_1 _) (fun obj => F.args_object_init_2 obj _) F.entry_enumerate_new (enumNewT t vs.toArray n dct sl) ⟨hl, ?_⟩
  have S₁ := S.pushO (φ := TIt t 0) { cls := .type "tuple_iterator", data := .fields #[.ref t, .int 0 0] } ⟨rfl, rfl⟩
  have S₂ := S₁.pushO (φ := EIt s.heap.objs.size 0) { cls := .type "enumerate", data := .fields #[.none, .bool false, .ref s.heap.objs.size, rawInt 0, .none, .none] } ⟨.none, rfl⟩
  refine ⟨⟨_, Heap.get?_push_size _ rfl, rfl⟩, ?_⟩
  exact wpAny_pyIter_enum (it := s.heap.objs.size) (i := 0) (old := .none) (Heap.get?_push_size _ rfl) (h _ _ _ S₂)

theorem nextOfT {it t : Addr} {i : Nat} {vs : List Value} {x : Value} {Q : Value → Shared → Prop} (hit : s.heap.IsTupleIter it t i) (hl : s.heap.IsTuple t vs.toArray) (hx : vs[i]? = some x)
    (hQ : ∀ h', h'.IsTupleIter it t (i + 1) → Heap.SameBut it s.heap h' → Q x { s with heap := h' }) : wpAny (model prog w) A (Builtin.SmallTypes.nextOf (.ref it)) Q E s := by
  obtain ⟨o, ho, hc, hd⟩ := id hit
  obtain ⟨ol, hol, _, nl, hdl⟩ := hl
  unfold Builtin.SmallTypes.nextOf
  refine wpAny_bind (wpAny_callSpecial?_slot (name := Str.ofString "__next__") hit.typeIs F.slot_tuple_iterator_next (wpAny_call_entry F.slot_tuple_iterator_next hit.typeIs F.entry_tuple_iterator_next ?_ (F.args_tuple_iterator_next_1 _)))
  show wpAny _ _ (field (.ref it) 0 >>= _) _ _ s
  refine wpAny_bind (wpAny_field ho hd (x := .ref t) rfl ?_)
  show wpAny _ _ (if (Value.ref t == Value.none) = true then _ else _) _ _ s
  rw [if_neg (show ¬ ((Value.ref t == Value.none) = true) from Bool.false_ne_true)]
  show wpAny _ _ (field (.ref it) 1 >>= _) _ _ s
  refine wpAny_bind (wpAny_field ho hd (x := .int i 0) rfl ?_)
  show wpAny _ _ (seqItems? (.ref t) >>= _) _ _ s
  refine wpAny_bind (wpAny_seqItems hol hdl ?_)
  simp only [Int.toNat_natCast, List.getElem?_toArray, hx]
  refine wpAny_bind (wpAny_setField ho hd (by simp) (wpAny_pure ⟨x, rfl, wpAny_pure (hQ _ ?_ (Heap.SameBut.update ..))⟩))
  exact ⟨_, Heap.get?_update_self _ ho (Obj.isFreed_of_fields (Obj.data_mapFields hd _)), (Obj.cls_mapFields ..).trans hc, by rw [Obj.data_mapFields hd]; simp [rawInt]⟩

theorem nextOfT_end {it t : Addr} {i : Nat} {vs : List Value} {Q : Value → Shared → Prop} (hh : A.handled = none) (hit : s.heap.IsTupleIter it t i) (hl : s.heap.IsTuple t vs.toArray) (hx : vs[i]? = none)
    (hE : ∀ h' e, Heap.ExtBut it s.heap h' → (∃ o, h'.get? e = some o ∧ o.cls = .type "StopIteration") → E (.ref e) { s with heap := h' }) : wpAny (model prog w) A (Builtin.SmallTypes.nextOf (.ref it)) Q E s := by
  obtain ⟨o, ho, hc, hd⟩ := id hit
  obtain ⟨ol, hol, _, nl, hdl⟩ := hl
  unfold Builtin.SmallTypes.nextOf
  refine wpAny_bind (wpAny_callSpecial?_slot (name := Str.ofString "__next__") hit.typeIs F.slot_tuple_iterator_next (wpAny_call_entry F.slot_tuple_iterator_next hit.typeIs F.entry_tuple_iterator_next ?_ (F.args_tuple_iterator_next_1 _)))
  show wpAny _ _ (field (.ref it) 0 >>= _) _ _ s
  refine wpAny_bind (wpAny_field ho hd (x := .ref t) rfl ?_)
  show wpAny _ _ (if (Value.ref t == Value.none) = true then _ else _) _ _ s
  rw [if_neg (show ¬ ((Value.ref t == Value.none) = true) from Bool.false_ne_true)]
  show wpAny _ _ (field (.ref it) 1 >>= _) _ _ s
  refine wpAny_bind (wpAny_field ho hd (x := .int i 0) rfl ?_)
  show wpAny _ _ (seqItems? (.ref t) >>= _) _ _ s
  refine wpAny_bind (wpAny_seqItems hol hdl ?_)
  simp only [Int.toNat_natCast, List.getElem?_toArray, hx]
  refine wpAny_bind (wpAny_rule (wpAny_bind (wpAny_setField ho hd (by simp) ?_)))
  show wpAny _ _ (newExc (.type "StopIteration") [] >>= _) _ _ _
  refine wpAny_bind ?_
  simp only [newExc, newTuple]
  refine wpAny_bind (wpAny_newObj_type ?_ (by size_fits))
  refine wpAny_bind (m := firstArgMember _ _) (wpAny_of_eq (a := Value.none) (by first | rfl | (simp only [firstArgMember]; rfl)) ?_)
  refine wpAny_newObj_type ?_ (by size_fits)
  simp only [raiseNew]
  refine wpAny_bind (wpAny_handled ?_)
  first | rw [show A.in1.handled = none from hh] | rw [hh]
  refine wpAny_bind (wpAny_pure (wpAny_throw ?_))
  exact hE _ _ (((Heap.SameBut.update ..).extBut.push _).push _) ⟨_, Heap.get?_push_size _ rfl, rfl⟩

/-- one item of the enumeration: the tuple handed out lies at a -/
theorem enumNext {p : Ass} {e it t : Addr} {i : Nat} {vs : List Value} {x : Value} {Q : Option Value → Shared → Prop} (S : MSt s₀ z₀ z (p :: (e, EIt it i) :: (it, TIt t i) :: own) s) (ht : ZT z t vs) (hx : vs[i]? = some x)
    (hQ : ∀ a tk item s', IsEnumOut s'.heap e it ((i : Int) + 1) item a → s'.heap.IsTuple a #[.int i tk, x] → a ≠ e → MSt s₀ z₀ z (p :: (e, fun _ => True) :: (it, TIt t (i + 1)) :: own) s' → Q (some (.ref a)) s') :
    wpAny (model prog w) A (pyNext (.ref e)) Q E s := by
  obtain ⟨oe, he, old, rfl⟩ := S.get1
  have hT : s.TypeIs (.ref e) "enumerate" := ⟨_, he, rfl⟩
  unfold pyNext
  refine wpAny_bind (wpAny_attempt (wpAny_callSpecial?_slot (name := Str.ofString "__next__") hT F.slot_enumerate_next (wpAny_call_entry F.slot_enumerate_next hT F.entry_enumerate_next ?_ (F.args_enumerate_next_1 _))))
  show wpAny _ _ (field (.ref e) 2 >>= _) _ _ _
  refine wpAny_bind (wpAny_field he rfl (x := .ref it) rfl ?_)
  refine wpAny_bind (nextOfT S.get2 (ht.at S.gr.frz) hx fun h₁ hit₁ hs₁ => ?_)
  obtain ⟨oi, hoi, hci, hdi⟩ := hit₁
  have S := S.upd2 (tk := s.toks) (φ' := TIt t (i + 1)) hs₁.extBut hoi ⟨hci, hdi⟩
  obtain ⟨oe, he, old, rfl⟩ := S.get1
  generalize hs₁' : ({ s with heap := h₁ } : Shared) = s₁
  have S : MSt s₀ z₀ z (p :: (e, EIt it i) :: (it, TIt t (i + 1)) :: own) s₁ := hs₁' ▸ S
  have he : IsEnum s₁.heap e it i old := hs₁' ▸ he
  clear hs₁' hoi hs₁
  show wpAny _ _ (field (.ref e) 3 >>= _) _ _ s₁
  refine wpAny_bind (wpAny_field he rfl (x := rawInt i) rfl ?_)
  show wpAny _ _ (field (.ref e) 4 >>= _) _ _ s₁
  refine wpAny_bind (wpAny_field he rfl (x := .none) rfl ?_)
  show wpAny _ _ (mkInt i >>= _) _ _ s₁
  refine wpAny_bind (wpAny_mkInt ?_)
  refine wpAny_bind (wpAny_setField_rec (s := { s₁ with toks := s₁.toks + 1 }) he (by simp) fun h₂ he₂ hs₂ => ?_)
  have S := (S.tok (s₁.toks + 1)).upd1 (tk := s₁.toks + 1) (φ' := fun _ => True) hs₂.extBut he₂ trivial
  refine wpAny_bind (wpAny_setField_rec (s := { s₁ with heap := h₂, toks := s₁.toks + 1 }) he₂ (by simp) fun h₃ he₃ hs₃ => ?_)
  have S := S.upd1 (tk := s₁.toks + 1) (φ' := fun _ => True) hs₃.extBut he₃ trivial
  refine wpAny_bind (m := newTuple [Value.int i s₁.toks, x]) (wpAny_newTuple ?_)
  have hne : h₃.objs.size ≠ e := Nat.ne_of_gt (Heap.lt_size he₃)
  have S := S.keepOwn (s' := { s₁ with heap := h₃.push { cls := .type "tuple", data := .seq #[.int i s₁.toks, x] }, toks := s₁.toks + 1 }) rfl fun b o e => Heap.get?_push_of_some _ e
  have he₄ := Heap.get?_push_of_some { cls := .type "tuple", data := .seq #[.int i s₁.toks, x] } he₃
  have ht₄ : (h₃.push { cls := .type "tuple", data := .seq #[.int i s₁.toks, x] }).get? h₃.objs.size = some { cls := .type "tuple", data := .seq #[.int i s₁.toks, x] } := Heap.get?_push_size _ rfl
  generalize h₃.push { cls := .type "tuple", data := .seq #[.int i s₁.toks, x] } = h₄ at S he₄ ht₄
  generalize h₃.objs.size = a at ht₄ hne
  show wpAny _ _ (Builtin.SmallTypes.ownedTupleIsFree (.ref e) >>= _) _ _ { s₁ with heap := h₄, toks := s₁.toks + 1 }
  refine wpAny_bind ?_
  unfold Builtin.SmallTypes.ownedTupleIsFree
  refine wpAny_bind (wpAny_field he₄ rfl (x := .none) rfl (wpAny_pure ?_))
  simp only [if_true]
  refine wpAny_bind (wpAny_rule ?_)
  refine wpAny_bind (wpAny_field he₄ rfl (x := old) rfl ?_)
  refine wpAny_bind (wpAny_setField_rec (s := { s₁ with heap := h₄, toks := s₁.toks + 1 }) he₄ (by simp) fun h₅ he₅ hs₅ => ?_)
  have S := S.upd1 (tk := s₁.toks + 1) (φ' := fun _ => True) hs₅.extBut he₅ trivial
  show wpAny _ _ (Builtin.SmallTypes.ownedTupleHandOut (.ref e) (.ref a) >>= _) _ _ { s₁ with heap := h₅, toks := s₁.toks + 1 }
  refine wpAny_bind ?_
  unfold Builtin.SmallTypes.ownedTupleHandOut
  refine wpAny_bind (wpAny_setField_rec (s := { s₁ with heap := h₅, toks := s₁.toks + 1 }) he₅ (by simp) fun h₆ he₆ hs₆ => ?_)
  have S := S.upd1 (tk := s₁.toks + 1) (φ' := fun _ => True) hs₆.extBut he₆ trivial
  refine wpAny_setField_rec (s := { s₁ with heap := h₆, toks := s₁.toks + 1 }) he₆ (by simp) fun h₇ he₇ hs₇ => ?_
  have S := S.upd1 (tk := s₁.toks + 1) (φ' := fun _ => True) hs₇.extBut he₇ trivial
  refine wpAny_bind (wpAny_letGo (wpAny_pure ⟨_, rfl, wpAny_pure (hQ a s₁.toks x _ he₇ ?_ hne S)⟩))
  exact ⟨_, hs₇.extBut _ _ hne (hs₆.extBut _ _ hne (hs₅.extBut _ _ hne ht₄)), rfl, _, rfl⟩

theorem enumDone {p : Ass} {e it t : Addr} {i : Nat} {vs : List Value} {Q : Option Value → Shared → Prop} (hh : A.handled = none) (S : MSt s₀ z₀ z (p :: (e, EIt it i) :: (it, TIt t i) :: own) s) (ht : ZT z t vs) (hx : vs[i]? = none)
    (hQ : ∀ s', MSt s₀ z₀ z (p :: own) s' → Q none s') : wpAny (model prog w) A (pyNext (.ref e)) Q E s := by
  obtain ⟨oe, he, old, rfl⟩ := S.get1
  have hT : s.TypeIs (.ref e) "enumerate" := ⟨_, he, rfl⟩
  unfold pyNext
  refine wpAny_bind (wpAny_attempt (wpAny_callSpecial?_slot (name := Str.ofString "__next__") hT F.slot_enumerate_next (wpAny_call_entry F.slot_enumerate_next hT F.entry_enumerate_next ?_ (F.args_enumerate_next_1 _))))
  show wpAny _ _ (field (.ref e) 2 >>= _) _ _ _
  refine wpAny_bind (wpAny_field he rfl (x := .ref it) rfl ?_)
  refine wpAny_bind (nextOfT_end hh S.get2 (ht.at S.gr.frz) hx fun h' x he' hx' => ?_)
  obtain ⟨o, ho, hc⟩ := hx'
  refine wpAny_bind (wpAny_isInstance (T := "StopIteration") (b := true) ⟨o, ho, hc⟩ isSubtype_stop ?_)
  exact wpAny_pure (hQ _ ((S.dropAt [p, _] own (tk := s.toks) he').forget1))
end
end Mine
end

/-! # C7 -/
section
set_option autoImplicit false
set_option linter.unusedSectionVars false
set_option linter.unusedVariables false
open PySem PySem.W PyProof.Rows
set_option Elab.async false
namespace Mine
section
variable {prog : Program} {w : World} {A : Around} {E : Value → Shared → Prop} {s₀ s : Shared} {z₀ z : Fz} {own : List Ass} {env : Env} {l : List (Str × Value)}

theorem MSt.perm {own' : List Ass} (S : MSt s₀ z₀ z own s) (h : own'.Perm own) : MSt s₀ z₀ z own' s :=
  ⟨S.gr, fun p hp => S.ow p (h.subset hp), (List.Perm.pairwise_iff (fun {a b} (h : a.1 ≠ b.1) => Ne.symm h) h).mpr S.nd⟩
theorem MSt.rot3 {p q r : Ass} (S : MSt s₀ z₀ z (p :: q :: r :: own) s) : MSt s₀ z₀ z (r :: p :: q :: own) s :=
  S.perm ((List.Perm.swap p r _).trans ((List.Perm.swap q r _).cons p))

/-- an own list, plain -/
noncomputable def PL (vs : List Value) : Obj → Prop := fun o => ∃ n, o = { cls := .type "list", data := .seq vs.toArray n }
theorem PL.plain {a : Addr} {vs : List Value} {h : Heap} (x : ∃ o, h.get? a = some o ∧ PL vs o) : h.PlainList a vs.toArray := let ⟨o, ho, n, e⟩ := x; ⟨n, e ▸ ho⟩
theorem listNew {pos : Pos} {Q : Value → Shared → Prop} (S : MSt s₀ z₀ z own s) (h : ∀ a s', MSt s₀ z₀ z ((a, PL []) :: own) s' → Q (.ref a) s') : wpAny (model prog w) A (eval (.List [] pos) env) Q E s :=
  wpAny_List (wpAny_items_nil ⟨Nat.zero_le _, h _ _ (S.pushO _ ⟨0, rfl⟩)⟩)

/-- a.append(e), as a value -/
theorem appendM {o e : Expr} {apos pos : Pos} {a : Addr} {Q : Value → Shared → Prop}
    (h : wpAny (model prog w) A (eval o env) (fun ov s₁ => ov = .ref a ∧ (∃ vs, s₁.heap.PlainList a vs) ∧ wpAny (model prog w) A (eval e env) (fun v s₂ =>
      ∃ vs s₀ z₀ z l₁ l₂, MSt s₀ z₀ z (l₁ ++ (a, PL vs) :: l₂) s₂ ∧ vs.length ≤ 1000000 ∧ ∀ s', MSt s₀ z₀ z (l₁ ++ (a, PL (vs ++ [v])) :: l₂) s' → Q .none s') E s₁) E s)
    (hbase : attributeBase o "append" env (eval o env) = eval o env := by rfl) (hline : (apos.endLine == pos.line) = true := by rfl)
    (htrees : backTo pos (starEach [e] env) = [(false, eval e env)] := by rfl) :
    wpAny (model prog w) A (eval (.Call (.Attribute o "append" apos) [e] [] pos) env) Q E s := by
  refine wpAny_Call_method1_late hbase hline htrees (wpAny_mono h (fun ov s₁ h₁ => ?_) fun _ _ e => e)
  obtain ⟨rfl, ⟨vs₀, n₀, hm₀⟩, h₁⟩ := h₁
  refine ⟨"list", "list.append", F.plainAttrs_list, F.slot_list_append, F.type_list_append, ⟨_, hm₀, rfl⟩, (fun b e => by cases e; exact ⟨_, hm₀, rfl⟩), ?_⟩
  refine Calls.callWith_builtin rfl (Calls.evalArgs_plain (Calls.spliced_cons (wpAny_mono h₁ (fun v s₂ h₂ => Calls.spliced_nil ?_) fun _ _ e => e)))
  obtain ⟨vs, s₀, z₀, z, l₁, l₂, S, hsz, hQ⟩ := h₂
  refine wpAny_list_append_plain (PL.plain (vs := vs) (S.get (by simp))) (fun h' hl' hs' => ?_) (by rw [sizeLine_eq]; simp; omega)
  obtain ⟨n', hn'⟩ := hl'
  exact hQ _ (S.updAt l₁ l₂ (tk := s₂.toks) hs'.extBut hn' ⟨n', by simp⟩)

theorem appendE {o e : Expr} {apos pos spos : Pos} {a : Addr} {Q : Flow → Shared → Prop}
    (h : wpAny (model prog w) A (eval o env) (fun ov s₁ => ov = .ref a ∧ (∃ vs, s₁.heap.PlainList a vs) ∧ wpAny (model prog w) A (eval e env) (fun v s₂ =>
      ∃ vs s₀ z₀ z l₁ l₂, MSt s₀ z₀ z (l₁ ++ (a, PL vs) :: l₂) s₂ ∧ vs.length ≤ 1000000 ∧ ∀ s', MSt s₀ z₀ z (l₁ ++ (a, PL (vs ++ [v])) :: l₂) s' → Q .next s') E s₁) E s)
    (hbase : attributeBase o "append" env (eval o env) = eval o env := by rfl) (hline : (apos.endLine == pos.line) = true := by rfl)
    (htrees : backTo pos (starEach [e] env) = [(false, eval e env)] := by rfl)
    (hi : interactive env = false := by rfl) (hs : swapsWith (.Call (.Attribute o "append" apos) [e] [] pos) none spos.line env = pure false := by rfl) :
    wpAny (model prog w) A (exec (.Expr (.Call (.Attribute o "append" apos) [e] [] pos) spos) env) Q E s :=
  wpAny_Expr (appendM h hbase hline htrees) hi hs

/-- for x1, x2 in a tuple of pairs -/
theorem forPairs {R : Result → Shared → Prop} {I ra : Addr} {vs : List Value} {x1 x2 : Str} {p1 p2 pt : Pos} {k1 : Nat} {body orelse : List Stmt} (hh : A.handled = none)
    (P : Nat → Fz → List Ass → List (Str × Value) → Prop) (hneed : ∀ i z own l, P i z own l → ZT z ra vs)
    (hpair : ∀ i v z own l, vs[i]? = some v → P i z own l → ∃ pa v1 v2, v = .ref pa ∧ ZT z pa [v1, v2])
    (S : MSt s₀ z₀ z ((env.locals, Loc l) :: (I, TIt ra 0) :: own) s) (h0 : P 0 z own l)
    (turn : ∀ i pa v1 v2 z own l s E, vs[i]? = some (.ref pa) → ZT z pa [v1, v2] → P i z own l → MSt s₀ z₀ z ((env.locals, Loc ((x2, v2) :: (x1, v1) :: l)) :: (I, TIt ra (i + 1)) :: own) s →
      wpAny (model prog w) A (execs body env) (fun f s' => match f with
        | .next | .cont => ∃ z' own' l', MSt s₀ z₀ z' ((env.locals, Loc l') :: (I, TIt ra (i + 1)) :: own') s' ∧ P (i + 1) z' own' l'
        | .brk => R (.ok .next) s'
        | .ret v => R (.ok (.ret v)) s') E s)
    (fin : ∀ z own l s E, P vs.length z own l → MSt s₀ z₀ z ((env.locals, Loc l) :: own) s → wpAny (model prog w) A (execs orelse env) (fun f s' => R (.ok f) s') E s)
    (hk : env.scope.kind = .function := by rfl) (hl1 : env.kindOf x1 = some .local := by rfl) (hl2 : env.kindOf x2 = some .local := by rfl) :
    codeAny (model prog w) A (.forLoop (.Tuple [.Name x1 p1, .Name x2 p2] k1 pt) (.ref I) body orelse env) R s := by
  refine codeAny_forLoop_any (fun n s => ∃ i z own l, n = vs.length - i ∧ i ≤ vs.length ∧ MSt s₀ z₀ z ((env.locals, Loc l) :: (I, TIt ra i) :: own) s ∧ P i z own l) ?_ vs.length ⟨0, z, own, l, rfl, Nat.zero_le _, S, h0⟩
  rintro n s ⟨i, z, own, l, rfl, hi, S, hP⟩
  by_cases hlt : i < vs.length
  · refine (It.tuple hh I ra vs).next s₀ z₀ z _ own s _ _ i hlt (hneed _ _ _ _ hP) S fun v s₁ hv S₁ => ?_
    obtain ⟨pa, v1, v2, rfl, hpa⟩ := hpair i v z own l hv hP
    obtain ⟨oI, hoI, hcI, hdI⟩ := S₁.get1
    have hgo : wpAny (model prog w) A (letOwnedTupleGo (.Tuple [.Name x1 p1, .Name x2 p2] k1 pt) (.ref I) (.ref pa)) (fun _ s₂ => s₂ = s₁) (fun _ _ => False) s₁ := by
      unfold letOwnedTupleGo
      refine wpAny_bind (wpAny_load hoI ?_)
      rw [hcI, hdI]
      dsimp only
      rw [if_neg (by simp)]
      exact wpAny_pure rfl
    refine wpAny_mono hgo (fun _ s₂ e₂ => ?_) fun _ _ e => e.elim
    subst e₂
    refine unpackT (vs := [v1, v2]) hh S₁ (hpa.at S₁.gr.frz) (fun s₃ S₃ => ?_) rfl rfl
    refine inOrder_cons (assignL S₃ (fun s₄ S₄ => inOrder_cons (assignL S₄ (fun s₅ S₅ => inOrder_nil ?_) hk hl2)) hk hl1)
    refine wpAny_mono (turn i pa v1 v2 z own l s₅ _ hv hpa hP S₅) (fun f s₆ h₆ => ?_) fun _ _ e => e
    cases f with
    | next => obtain ⟨z', own', l', S₆, hP'⟩ := h₆; exact ⟨vs.length - (i + 1), by omega, i + 1, z', own', l', rfl, hlt, S₆, hP'⟩
    | cont => obtain ⟨z', own', l', S₆, hP'⟩ := h₆; exact ⟨vs.length - (i + 1), by omega, i + 1, z', own', l', rfl, hlt, S₆, hP'⟩
    | brk => exact h₆
    | ret v => exact h₆
  · obtain rfl : i = vs.length := by omega
    exact (It.tuple hh I ra vs).done s₀ z₀ z _ own s _ _ (hneed _ _ _ _ hP) S fun s' S' => fin z own l s' _ hP S'

/-- for i, x in enumerate(a tuple) -/
theorem forEnum {R : Result → Shared → Prop} {e it t : Addr} {vs : List Value} {x1 x2 : Str} {p1 p2 pt : Pos} {k1 : Nat} {body orelse : List Stmt} (hh : A.handled = none)
    (P : Nat → Fz → List Ass → List (Str × Value) → Prop) (hneed : ∀ i z own l, P i z own l → ZT z t vs)
    (S : MSt s₀ z₀ z ((env.locals, Loc l) :: (e, EIt it 0) :: (it, TIt t 0) :: own) s) (h0 : P 0 z own l)
    (turn : ∀ i v tk z own l s E, vs[i]? = some v → P i z own l → MSt s₀ z₀ z ((env.locals, Loc ((x2, v) :: (x1, .int i tk) :: l)) :: (e, EIt it (i + 1)) :: (it, TIt t (i + 1)) :: own) s →
      wpAny (model prog w) A (execs body env) (fun f s' => match f with
        | .next | .cont => ∃ z' own' l', MSt s₀ z₀ z' ((env.locals, Loc l') :: (e, EIt it (i + 1)) :: (it, TIt t (i + 1)) :: own') s' ∧ P (i + 1) z' own' l'
        | .brk => R (.ok .next) s'
        | .ret v => R (.ok (.ret v)) s') E s)
    (fin : ∀ z own l s E, P vs.length z own l → MSt s₀ z₀ z ((env.locals, Loc l) :: own) s → wpAny (model prog w) A (execs orelse env) (fun f s' => R (.ok f) s') E s)
    (hk : env.scope.kind = .function := by rfl) (hl1 : env.kindOf x1 = some .local := by rfl) (hl2 : env.kindOf x2 = some .local := by rfl) :
    codeAny (model prog w) A (.forLoop (.Tuple [.Name x1 p1, .Name x2 p2] k1 pt) (.ref e) body orelse env) R s := by
  refine codeAny_forLoop_any (fun n s => ∃ i z own l, n = vs.length - i ∧ i ≤ vs.length ∧ MSt s₀ z₀ z ((env.locals, Loc l) :: (e, EIt it i) :: (it, TIt t i) :: own) s ∧ P i z own l) ?_ vs.length ⟨0, z, own, l, rfl, Nat.zero_le _, S, h0⟩
  rintro n s ⟨i, z, own, l, rfl, hi, S, hP⟩
  by_cases hlt : i < vs.length
  · have hv : vs[i]? = some vs[i] := by simp [hlt]
    refine enumNext S (hneed _ _ _ _ hP) hv fun a tk item s₁ he₁ ht₁ hne S₁ => ?_
    refine wpAny_letOwnedTupleGo_enum he₁ fun h₂ he₂ hs₂ => ?_
    have S₂ := S₁.upd1 (tk := s₁.toks) (φ' := EIt it (i + 1)) hs₂.extBut he₂ ⟨item, by simp⟩
    have ht₂ : h₂.IsTuple a #[.int i tk, vs[i]] := ht₁.extBut hs₂.extBut hne
    refine unpackT (vs := [.int i tk, vs[i]]) hh S₂ ht₂ (fun s₃ S₃ => ?_) rfl rfl
    refine inOrder_cons (assignL S₃ (fun s₄ S₄ => inOrder_cons (assignL S₄ (fun s₅ S₅ => inOrder_nil ?_) hk hl2)) hk hl1)
    refine wpAny_mono (turn i vs[i] tk z own l s₅ _ hv hP S₅) (fun f s₆ h₆ => ?_) fun _ _ e => e
    cases f with
    | next => obtain ⟨z', own', l', S₆, hP'⟩ := h₆; exact ⟨vs.length - (i + 1), by omega, i + 1, z', own', l', rfl, hlt, S₆, hP'⟩
    | cont => obtain ⟨z', own', l', S₆, hP'⟩ := h₆; exact ⟨vs.length - (i + 1), by omega, i + 1, z', own', l', rfl, hlt, S₆, hP'⟩
    | brk => exact h₆
    | ret v => exact h₆
  · obtain rfl : i = vs.length := by omega
    exact enumDone hh S (hneed _ _ _ _ hP) (by simp) fun s' S' => fin z own l s' _ hP S'
end
end Mine
end

/-! # D6 -/
section
set_option autoImplicit false
set_option linter.unusedSectionVars false
set_option linter.unusedVariables false
open PySem PySem.W PyProof.Rows
set_option Elab.async false
set_option maxRecDepth 100000
namespace Mine
inductive All2 {α β : Type} (R : α → β → Prop) : List α → List β → Prop
  | nil : All2 R [] []
  | cons {a : α} {b : β} {as : List α} {bs : List β} : R a b → All2 R as bs → All2 R (a :: as) (b :: bs)
theorem All2.length {α β : Type} {R : α → β → Prop} {as : List α} {bs : List β} (h : All2 R as bs) : as.length = bs.length := by
  induction h with
  | nil => rfl
  | cons _ _ ih => simp [ih]
theorem All2.get {α β : Type} {R : α → β → Prop} {as : List α} {bs : List β} (h : All2 R as bs) {i : Nat} {a : α} (hi : as[i]? = some a) : ∃ b, bs[i]? = some b ∧ R a b := by
  induction h generalizing i with
  | nil => simp at hi
  | cons h _ ih =>
    cases i with
    | zero => simp at hi; subst hi; exact ⟨_, by simp, h⟩
    | succ i => simpa using ih (by simpa using hi)
theorem All2.mono {α β : Type} {R R' : α → β → Prop} {as : List α} {bs : List β} (h : All2 R as bs) (hR : ∀ a b, R a b → R' a b) : All2 R' as bs := by
  induction h with
  | nil => exact .nil
  | cons h _ ih => exact .cons (hR _ _ h) ih

noncomputable def tabD : List (List (Int × Str)) := [
  [(40960, Str.ofString "l"), (49152, Str.ofString "s"), (32768, Str.ofString "-"), (24576, Str.ofString "b"), (16384, Str.ofString "d"), (8192, Str.ofString "c"), (4096, Str.ofString "p")],
  [(256, Str.ofString "r")], [(128, Str.ofString "w")], [(2112, Str.ofString "s"), (2048, Str.ofString "S"), (64, Str.ofString "x")],
  [(32, Str.ofString "r")], [(16, Str.ofString "w")], [(1032, Str.ofString "s"), (1024, Str.ofString "S"), (8, Str.ofString "x")],
  [(4, Str.ofString "r")], [(2, Str.ofString "w")], [(513, Str.ofString "t"), (512, Str.ofString "T"), (1, Str.ofString "x")]]
noncomputable def pick (p : Int → Bool) (d : Str) : List (Int × Str) → Str
  | [] => d
  | (b, c) :: r => if p b then c else pick p d r
noncomputable def fchar (m : Int) (i : Nat) (row : List (Int × Str)) : Str := if i = 0 then pick (fun b => Builtin.bitAnd m 61440 == b) (Str.ofString "?") row else pick (fun b => Builtin.bitAnd m b == b) (Str.ofString "-") row
noncomputable def fl (m : Int) (i : Nat) : List Str := (List.range i).map fun j => fchar m j (tabD.getD j [])
theorem fl_succ (m : Int) (i : Nat) : fl m (i + 1) = fl m i ++ [fchar m i (tabD.getD i [])] := by simp [fl, List.range_succ]
noncomputable def fmode (m : Int) : Str := Txt.join (Str.ofString "") (fl m 10)

noncomputable def PairZ (z : Fz) (v : Value) (p : Int × Str) : Prop := ∃ pa t u, v = .ref pa ∧ ZT z pa [.int p.1 t, .str p.2 u]
noncomputable def RowZ (z : Fz) (v : Value) (row : List (Int × Str)) : Prop := ∃ ra vs, v = .ref ra ∧ ZT z ra vs ∧ All2 (PairZ z) vs row
noncomputable def TabZ (z : Fz) (v : Value) : Prop := ∃ t vs, v = .ref t ∧ ZT z t vs ∧ All2 (RowZ z) vs tabD
theorem PairZ.mono {z z' : Fz} {v : Value} {p : Int × Str} (h : PairZ z v p) (hz : Zle z z') : PairZ z' v p := let ⟨pa, t, u, e, h⟩ := h; ⟨pa, t, u, e, h.mono hz⟩
theorem RowZ.mono {z z' : Fz} {v : Value} {p : List (Int × Str)} (h : RowZ z v p) (hz : Zle z z') : RowZ z' v p := let ⟨ra, vs, e, h, h2⟩ := h; ⟨ra, vs, e, h.mono hz, h2.mono fun _ _ h => h.mono hz⟩
theorem TabZ.mono {z z' : Fz} {v : Value} (h : TabZ z v) (hz : Zle z z') : TabZ z' v := let ⟨ra, vs, e, h, h2⟩ := h; ⟨ra, vs, e, h.mono hz, h2.mono fun _ _ h => h.mono hz⟩

theorem strsV_snoc (l : List (Str × Tok)) (x : Str) (t : Tok) : strValues l ++ [Value.str x t] = strValues (l ++ [(x, t)]) := by simp [strValues]
theorem fchar_drop {m : Int} {i : Nat} {row : List (Int × Str)} {j : Nat} {b : Int} {c : Str} (h : row[j]? = some (b, c)) :
    fchar m i (row.drop j) = if (if i = 0 then Builtin.bitAnd m 61440 == b else Builtin.bitAnd m b == b) then c else fchar m i (row.drop (j + 1)) := by
  have hlt : j < row.length := (List.getElem?_eq_some_iff.mp h).1
  have hd : row.drop j = (b, c) :: row.drop (j + 1) := by
    rw [List.drop_eq_getElem_cons hlt]
    congr 1
    exact (List.getElem?_eq_some_iff.mp h).2
  rw [hd]
  unfold fchar
  by_cases hi : i = 0
  · simp only [hi, if_true, pick]
  · simp only [hi, if_false, pick]
theorem fchar_nil (m : Int) (i : Nat) : fchar m i [] = if i = 0 then Str.ofString "?" else Str.ofString "-" := by
  unfold fchar; by_cases hi : i = 0 <;> simp [hi, pick]
theorem fchar_one (m : Int) (i : Nat) (hi : i < 10) : (fchar m i (tabD.getD i [])).length = 1 := by
  have key : ∀ (p : Int → Bool) (d : Str) (row : List (Int × Str)), d.length = 1 → (∀ x ∈ row, x.2.length = 1) → (pick p d row).length = 1 := by
    intro p d row hd hr
    induction row with
    | nil => exact hd
    | cons x r ih =>
      obtain ⟨b, c⟩ := x
      unfold pick
      split
      · exact hr (b, c) List.mem_cons_self
      · exact ih fun x hx => hr x (List.mem_cons_of_mem _ hx)
  have hall : ∀ row ∈ tabD, ∀ x ∈ row, x.2.length = 1 := by decide
  have hrow : ∀ x ∈ tabD.getD i [], x.2.length = 1 := by
    have hlt : i < tabD.length := hi
    have : tabD.getD i [] = tabD[i] := by simp [List.getD, hlt]
    rw [this]; exact hall _ (List.getElem_mem _)
  unfold fchar
  split
  · exact key _ _ _ (by decide) hrow
  · exact key _ _ _ (by decide) hrow

section
variable {prog : Program} {w : World} {g : Heap} {mg mb : Str → Option Value} {z : Fz} {f : Addr}

set_option maxHeartbeats 4000000 in
theorem fn_filemode {m : Int} {t : Tok} {tv : Value} (G : Gd g mg mb) (hmgT : mg (Str.ofString "_filemode_table") = some tv) (hT : TabZ z tv) (hf : FnIn g mg 26 f) : Fn prog w g f [.int m t] 2 z (fun _ r => ∃ t, r = .str (fmode m) t) := by
  obtain ⟨ta, tvs, rfl, hTt, hTr⟩ := hT
  refine enter (n := 1) [(Str.ofString "mode", .int m t)] [(Str.ofString "mode", .int m t)] G hf (fun _ _ _ => rfl) (fun L x hx => ?_) (by decide) (fun _ _ _ _ => ⟨rfl, trivial⟩) ?_
  · rcases List.mem_singleton.mp hx with rfl; exact .inl rfl
  intro A s pm cd doc L s₁ E hr hK S
  refine gen fun Q0 hQ0 => ?_
  obtain ⟨fi, hfi⟩ := G.fn 5 (by decide)
  refine wpAny_execs_cons <| wpAny_Assign_Name <| listNew S fun P s S => storeL S.swap fun s S => ?_
  refine wpAny_execs_cons <| wpAny_For <| wpAny_Call_NameR <| nameB G hK S (G.free _ (by decide)) rfl <| cwT <| wpAny_items_cons <| nameG G hK S hmgT <| wpAny_items_nil <| enumIt S hTt fun e it s S => ?_
  refine forEnum hr.1 (fun i z' own' l => Zle z z' ∧ LSub [(Str.ofString "mode", .int m t), (Str.ofString "perm", .ref P)] l ∧ ∃ ls, own' = [(P, PL (strValues ls))] ∧ ls.map (·.1) = fl m i)
    (fun _ _ _ _ h => hTt.mono h.1) S.rot3 ⟨Zle.refl _, ⟨rfl, rfl, trivial⟩, [], rfl, rfl⟩ ?_ ?_
  · rintro i v tk z₁ _ l s E hi ⟨hz₁, ⟨hl1, hl2, -⟩, ls, rfl, hls⟩ S
    refine gen fun Q1 hQ1 => ?_
    obtain ⟨row, hrow, ra, rvs, rfl, hR, hRr⟩ := hTr.get hi
    have hi10 : i < 10 := (List.getElem?_eq_some_iff.mp hrow).1
    have hgd : tabD.getD i [] = row := by simp [List.getD, hrow]
    have hlsl : ls.length = i := by have := congrArg List.length hls; simpa [fl] using this
    have hvl : (strValues ls).length ≤ 1000000 := by simp [strValues]; omega
    have hsn : ∀ (c : Str) (u : Tok), fchar m i row = c → (ls ++ [(c, u)]).map (·.1) = fl m (i + 1) := fun c u e => by rw [fl_succ, hgd, e, ← hls]; simp
    refine wpAny_execs_cons <| wpAny_For <| nameL S rfl <| tupleIt S (hR.mono hz₁) fun I s S => ?_
    refine forPairs hr.1 (fun j z' own' l => Zle z z' ∧ LSub [(Str.ofString "mode", .int m t), (Str.ofString "perm", .ref P), (Str.ofString "index", .int i tk)] l ∧
        own' = [(e, EIt it (i + 1)), (it, TIt ta (i + 1)), (P, PL (strValues ls))] ∧ fchar m i row = fchar m i (row.drop j))
      (fun _ _ _ _ h => hR.mono h.1) (fun j v z' own' l hv h => by
        obtain ⟨p, hp, pa, tt, uu, e, hz⟩ := hRr.get hv
        exact ⟨pa, _, _, e, hz.mono h.1⟩) S.swap ⟨hz₁, ⟨hl1, hl2, rfl, trivial⟩, rfl, rfl⟩ ?_ ?_
    · rintro j pa v1 v2 z₂ _ l s E hj hpa ⟨hz₂, ⟨hl1, hl2, hl3, -⟩, rfl, hfc⟩ S
      refine gen fun Q2 hQ2 => ?_
      obtain ⟨⟨b, c⟩, hp, pa', tt, uu, e', hz'⟩ := hRr.get hj
      cases e'
      obtain ⟨o1, ho1, _, n1, hd1⟩ := hpa
      obtain ⟨o2, ho2, _, n2, hd2⟩ := hz'.mono hz₂
      rw [ho1] at ho2; cases ho2
      rw [hd1] at hd2
      obtain ⟨rfl, rfl⟩ : v1 = .int b tt ∧ v2 = .str c uu := by
        simp only [Data.seq.injEq] at hd2
        simpa using hd2.1
      have hstep := fchar_drop (m := m) (i := i) hp
      refine wpAny_execs_cons <| wpAny_If <| wpAny_isTrue_Compare1 <| nameL S hl3 <| constI S fun _ s S => PyProof.Rows.eq_int <| wpAny_truthy_bool ?_
      by_cases hi0 : i = 0
      · rw [show (((i : Int) == 0) = true) from by simp [hi0]]
        obtain ⟨o, pm', cd', doc', hmg, _⟩ := id hfi
        refine wpAny_execs_cons <| wpAny_If <| wpAny_isTrue_Compare1 <| wpAny_Call_NameR <| nameG G hK S hmg <| cwF hfi <| wpAny_items_cons <| nameL S hl1 <| wpAny_items_nil ⟨hK.trans S.gr.keep, ?_⟩
        refine (fn_ifmt G hfi).use hr hK S fun r z' s hz S hr' => ?_
        obtain ⟨t', rfl⟩ := hr'
        refine nameL S rfl <| PyProof.Rows.eq_int <| wpAny_truthy_bool ?_
        rw [if_pos hi0] at hstep
        cases hb : Builtin.bitAnd m 61440 == b with
        | true =>
          rw [hb, if_pos rfl] at hstep
          refine wpAny_execs_cons <| appendE <| nameL S hl2 ⟨rfl, ⟨_, PL.plain (S.get (a := P) (φ := PL (strValues ls)) (by simp))⟩, nameL S rfl ⟨strValues ls, _, _, _, [_, _, _, _], [], S, hvl, fun s S => ?_⟩⟩
          refine wpAny_execs_cons <| wpAny_Break <| hQ2 _ _ <| wpAny_execs_nil <| hQ1 _ _ ⟨_, _, _, S.forget1, hz₂.trans hz, ⟨hl1, hl2, trivial⟩, _, by rw [strsV_snoc]; rfl, hsn _ _ (hfc.trans hstep)⟩
        | false =>
          rw [hb, if_neg Bool.false_ne_true] at hstep
          exact wpAny_execs_nil <| wpAny_execs_nil <| wpAny_execs_nil <| hQ2 _ _ ⟨_, _, _, S, hz₂.trans hz, ⟨hl1, hl2, hl3, trivial⟩, rfl, hfc.trans hstep⟩
      · rw [show (((i : Int) == 0) = false) from by simp [hi0]]
        refine wpAny_execs_cons <| wpAny_If <| wpAny_isTrue_Compare1 <| wpAny_BinOp <| nameL S hl1 <| nameL S rfl <| andI S fun _ s S => nameL S rfl <| PyProof.Rows.eq_int <| wpAny_truthy_bool ?_
        rw [if_neg hi0] at hstep
        cases hb : Builtin.bitAnd m b == b with
        | true =>
          rw [hb, if_pos rfl] at hstep
          refine wpAny_execs_cons <| appendE <| nameL S hl2 ⟨rfl, ⟨_, PL.plain (S.get (a := P) (φ := PL (strValues ls)) (by simp))⟩, nameL S rfl ⟨strValues ls, _, _, _, [_, _, _, _], [], S, hvl, fun s S => ?_⟩⟩
          refine wpAny_execs_cons <| wpAny_Break <| hQ2 _ _ <| wpAny_execs_nil <| hQ1 _ _ ⟨_, _, _, S.forget1, hz₂, ⟨hl1, hl2, trivial⟩, _, by rw [strsV_snoc]; rfl, hsn _ _ (hfc.trans hstep)⟩
        | false =>
          rw [hb, if_neg Bool.false_ne_true] at hstep
          exact wpAny_execs_nil <| wpAny_execs_nil <| wpAny_execs_nil <| hQ2 _ _ ⟨_, _, _, S, hz₂, ⟨hl1, hl2, hl3, trivial⟩, rfl, hfc.trans hstep⟩
    · rintro z₂ _ l s E ⟨hz₂, ⟨hl1, hl2, hl3, -⟩, rfl, hfc⟩ S
      rw [hRr.length, List.drop_length, fchar_nil] at hfc
      refine wpAny_execs_cons <| wpAny_If <| wpAny_isTrue_Compare1 <| nameL S hl3 <| constI S fun _ s S => PyProof.Rows.eq_int <| wpAny_truthy_bool ?_
      by_cases hi0 : i = 0
      · rw [show (((i : Int) == 0) = true) from by simp [hi0]]
        rw [if_pos hi0] at hfc
        refine wpAny_execs_cons <| appendE <| nameL S hl2 ⟨rfl, ⟨_, PL.plain (S.get (a := P) (φ := PL (strValues ls)) (by simp))⟩, constS S fun uu s S => ⟨strValues ls, _, _, _, [_, _, _], [], S, hvl, fun s S => ?_⟩⟩
        exact wpAny_execs_nil <| wpAny_execs_nil <| wpAny_execs_nil <| hQ1 _ _ ⟨_, _, _, S, hz₂, ⟨hl1, hl2, trivial⟩, _, by rw [strsV_snoc]; rfl, hsn _ _ hfc⟩
      · rw [show (((i : Int) == 0) = false) from by simp [hi0]]
        rw [if_neg hi0] at hfc
        refine wpAny_execs_cons <| appendE <| nameL S hl2 ⟨rfl, ⟨_, PL.plain (S.get (a := P) (φ := PL (strValues ls)) (by simp))⟩, constS S fun uu s S => ⟨strValues ls, _, _, _, [_, _, _], [], S, hvl, fun s S => ?_⟩⟩
        exact wpAny_execs_nil <| wpAny_execs_nil <| wpAny_execs_nil <| hQ1 _ _ ⟨_, _, _, S, hz₂, ⟨hl1, hl2, trivial⟩, _, by rw [strsV_snoc]; rfl, hsn _ _ hfc⟩
  · rintro z₁ _ l s E ⟨hz₁, ⟨hl1, hl2, -⟩, ls, rfl, hls⟩ S
    rw [hTr.length, show tabD.length = 10 from rfl] at hls
    refine wpAny_execs_nil <| wpAny_execs_cons <| wpAny_Return_some ?_
    refine wpAny_Call_method_lateS (by rfl) ?_ ?_ ?_
    · rfl
    · rfl
    refine constS S fun _ s S => ?_
    refine SB.join ?_
    refine nameL S hl2 ?_
    refine ⟨P, ls, rfl, (PL.plain (S.get (a := P) (φ := PL (strValues ls)) (by simp))).isList, _, hls, ?_, fun t' k => hQ0 _ _ ⟨_, _, _, rfl, S.tok k, t', rfl⟩⟩
    have hj : ∀ y ∈ fl m 10, y.length ≤ 1 := fun y hy => by
      obtain ⟨j, hj, rfl⟩ := List.mem_map.mp hy
      exact Nat.le_of_eq (fchar_one m j (List.mem_range.mp hj))
    unfold JoinOk
    rw [Bool.not_eq_true']
    exact StrLaws.joinFits (sep := Str.ofString "") hj (by rw [show (fl m 10).length = 10 from by simp [fl]]; decide)
end
end Mine
end

/-! # C8 -/
section
set_option autoImplicit false
set_option linter.unusedSectionVars false
set_option linter.unusedVariables false
open PySem PySem.W PyProof.Rows
set_option Elab.async false
namespace Mine
section
variable {prog : Program} {w : World} {A : Around} {E : Value → Shared → Prop} {s₀ s : Shared} {z₀ z : Fz} {own : List Ass} {env : Env} {l : List (Str × Value)}

noncomputable def Selfy (prog : Program) (w : World) (A : Around) (I : Addr) (φ : Obj → Prop) : Prop :=
  ∀ (s : Shared) (Q : Value → Shared → Prop) (E : Value → Shared → Prop), (∃ o, s.heap.get? I = some o ∧ φ o) → Q (.ref I) s → wpAny (model prog w) A (pyIter (.ref I)) Q E s
theorem Selfy.range (I : Addr) (x y : Int) : Selfy prog w A I (RIt x y) := fun s Q E ⟨o, ho, e⟩ h => by subst e; exact wpAny_pyIter_rangeiter ho h
theorem Selfy.list (I la : Addr) (i : Nat) : Selfy prog w A I (LIt la i) := fun s Q E ⟨o, ho, hc, hd⟩ h => wpAny_pyIter_listiter ⟨o, ho, hc, hd⟩ h
noncomputable def DKIt (d : Addr) (n ep : Nat) (i : Nat) : Obj → Prop := fun o => o.cls = .type "dict_keyiterator" ∧ o.data = .fields #[.ref d, .int i 0, .int n 0, .int ep 0]
theorem Selfy.keys (I d : Addr) (n ep i : Nat) : Selfy prog w A I (DKIt d n ep i) := fun s Q E ⟨o, ho, hc, hd⟩ h => wpAny_pyIter_keyiter ⟨o, ho, hc, hd⟩ h

/-- a block's namespace -/
theorem blockEnv {scope : Scope} {globals : Addr} {cl : List (Str × Addr)} {qual : Str} {Q : Env → Shared → Prop} (hcell : ∀ y ∈ scope.names, y.2 ≠ .cell) (hkind : scope.kind = .function) (S : MSt s₀ z₀ z own s)
    (h : ∀ C s', MSt s₀ z₀ z ((C, Loc []) :: own) s' → Q (newEnv scope C globals cl qual none .none (some env) builtinsNs) s') : wpAny (model prog w) A (newFunctionEnv scope globals cl [] qual none .none (some env)) Q E s := by
  refine wpAny_newFunctionEnv hcell (by intro y hy; simp at hy) (fun h₁ hns₁ hsb₁ => ?_) hkind
  have S₁ := S.pushO (φ := fun _ => True) { cls := .type "dict", data := .dict #[] } trivial
  obtain ⟨o, ho, hL⟩ := Loc.of_ns (l := []) hns₁ (fun n v e => by cases e)
  exact h _ _ (S₁.upd0 hsb₁.extBut ho hL)

theorem listComp_core {elt iter test : Expr} {x : Str} {px : Pos} {scope : Scope} {cl : List (Str × Addr)} {pos : Pos} {I : Addr} {n : Nat} {φ : Nat → Obj → Prop} {item : Nat → Value → Prop} {need : Fz → Prop}
    {RR : Value → Addr → Result → Shared → Prop}
    (hcell : ∀ y ∈ scope.names, y.2 ≠ .cell) (hkind : scope.kind = .function) (hx : scope.names.lookup x = some .local)
    (IT : It prog w A I n φ item need) (SF : Selfy prog w A I (φ 0)) (S : MSt s₀ z₀ z ((I, φ 0) :: own) s)
    (P : Nat → List Value → Fz → Prop) (hneed : ∀ i vs z, P i vs z → need z) (hlen : ∀ i vs z, P i vs z → vs.length ≤ 1000000) (h0 : P 0 [] z)
    (turn : ∀ C D i v vs z lc s E, i < n → item i v → P i vs z → MSt s₀ z₀ z ((C, Loc ((x, v) :: lc)) :: (I, φ (i + 1)) :: (D, PL vs) :: own) s →
      wpAny (model prog w) A (isTrue test (compEnvC scope cl C env) (eval test (compEnvC scope cl C env))) (fun b s₁ =>
        if b = true then wpAny (model prog w) A (eval elt (compEnvC scope cl C env)) (fun y s₂ => ∃ z', MSt s₀ z₀ z' ((C, Loc ((x, v) :: lc)) :: (I, φ (i + 1)) :: (D, PL vs) :: own) s₂ ∧ P (i + 1) (vs ++ [y]) z') E s₁
        else ∃ z', MSt s₀ z₀ z' ((C, Loc ((x, v) :: lc)) :: (I, φ (i + 1)) :: (D, PL vs) :: own) s₁ ∧ P (i + 1) vs z') E s)
    (fin : ∀ D C vs z' lc s', P n vs z' → MSt s₀ z₀ z' ((C, Loc lc) :: (D, PL vs) :: own) s' → RR (.ref D) C (.ok .next) s') :
    wpAny (model prog w) A (newList []) (fun acc s₃ => wpAny (model prog w) A (newFunctionEnv scope env.globals cl [] env.qual none .none (some env)) (fun cenv s₄ =>
      codeAny (model prog w) A (.compStart (.ListComp elt [⟨.Name x px, iter, [test], 0⟩] scope pos) 0 (.ref I) acc { cenv with scope := relabel scope env }) (RR acc cenv.locals) s₄) E s₃) E s := by
  refine wpAny_newObj_type ?_
  have S₁ := S.pushO (φ := PL []) { cls := .type "list", data := .seq ([] : List Value).toArray } ⟨0, rfl⟩
  generalize hD : s.heap.objs.size = D at S₁ ⊢
  refine blockEnv hcell hkind S₁ fun C s₂ S₂ => ?_
  have S₃ : MSt s₀ z₀ z ((C, Loc []) :: (I, φ 0) :: (D, PL []) :: own) s₂ := S₂.perm ((List.Perm.swap _ _ _).cons _)
  have loop : codeAny (model prog w) A (.compLoop (.ListComp elt [⟨.Name x px, iter, [test], 0⟩] scope pos) 0 (.ref I) (.ref D) (compEnvC scope cl C env)) (RR (.ref D) C) s₂ := by
    refine codeAny_compLoop_tests (fun k s' => ∃ i vs z lc, k = n + 1 - i ∧ i ≤ n ∧ MSt s₀ z₀ z ((C, Loc lc) :: (I, φ i) :: (D, PL vs) :: own) s' ∧ P i vs z) ?_ (n + 1) ⟨0, [], z, [], rfl, Nat.zero_le _, S₃, h0⟩
    rintro k s ⟨i, vs, z, lc, rfl, hi, S, hP⟩
    by_cases hlt : i < n
    · refine IT.next s₀ z₀ z _ _ s _ _ i hlt (hneed _ _ _ hP) S fun v s' hv S' => ?_
      refine assignL (env := compEnvC scope cl C env) S' (fun s'' S'' => ?_) (by simpa [compEnvC, relabel] using hkind) (lookup_relabel_local hx)
      refine wpAny_tests_one (wpAny_mono (turn C D i v vs z lc s'' _ hlt hv hP S'') (fun b s₃ h₃ => ?_) fun _ _ e => e)
      cases b with
      | false =>
        obtain ⟨z', S₄, hP'⟩ := h₃
        exact ⟨n + 1 - (i + 1), by omega, i + 1, vs, z', _, rfl, hlt, S₄, hP'⟩
      | true =>
        refine wpAny_mono h₃ (fun y s₄ h₄ => ?_) fun _ _ e => e
        obtain ⟨z', S₄, hP'⟩ := h₄
        refine wpAny_list_append_plain (PL.plain (S₄.get (a := D) (φ := PL vs) (by simp))) (fun h' hl' hs' => ?_) (by have := hlen _ _ _ hP; rw [sizeLine_eq]; simp; omega)
        obtain ⟨n', hn'⟩ := hl'
        exact ⟨n + 1 - (i + 1), by omega, i + 1, vs ++ [y], z', _, rfl, hlt, S₄.upd2 (tk := s₄.toks) hs'.extBut hn' ⟨n', by simp⟩, hP'⟩
    · obtain rfl : i = n := by omega
      exact IT.done s₀ z₀ z _ _ s _ _ (hneed _ _ _ hP) S fun s' S' => fin D C vs z lc s' hP S'
  exact codeAny_compStart_list loop (SF _ _ _ S₃.get1 loop)

/-- a list comprehension as a value -/
theorem listComp {elt iter test : Expr} {x : Str} {px : Pos} {scope : Scope} {cl : List (Str × Addr)} {pos : Pos} {Q : Value → Shared → Prop}
    (h : wpAny (model prog w) A (eval iter env) (fun xv s₁ => wpAny (model prog w) A (pyIter xv) (fun it s₂ => ∃ (s₀ : Shared) (z₀ z : Fz) (own : List Ass) (I : Addr) (n : Nat) (φ : Nat → Obj → Prop) (item : Nat → Value → Prop) (need : Fz → Prop) (P : Nat → List Value → Fz → Prop),
      it = .ref I ∧ It prog w A I n φ item need ∧ Selfy prog w A I (φ 0) ∧ MSt s₀ z₀ z ((I, φ 0) :: own) s₂ ∧ (∀ i vs z, P i vs z → need z) ∧ (∀ i vs z, P i vs z → vs.length ≤ 1000000) ∧ P 0 [] z ∧
      (∀ C D i v vs z lc s E, i < n → item i v → P i vs z → MSt s₀ z₀ z ((C, Loc ((x, v) :: lc)) :: (I, φ (i + 1)) :: (D, PL vs) :: own) s →
        wpAny (model prog w) A (isTrue test (compEnvC scope cl C env) (eval test (compEnvC scope cl C env))) (fun b s₁ =>
          if b = true then wpAny (model prog w) A (eval elt (compEnvC scope cl C env)) (fun y s₂ => ∃ z', MSt s₀ z₀ z' ((C, Loc ((x, v) :: lc)) :: (I, φ (i + 1)) :: (D, PL vs) :: own) s₂ ∧ P (i + 1) (vs ++ [y]) z') E s₁
          else ∃ z', MSt s₀ z₀ z' ((C, Loc ((x, v) :: lc)) :: (I, φ (i + 1)) :: (D, PL vs) :: own) s₁ ∧ P (i + 1) vs z') E s) ∧
      (∀ a vs z' s', P n vs z' → MSt s₀ z₀ z' ((a, PL vs) :: own) s' → Q (.ref a) s')) E s₁) E s)
    (hclos : closureFor scope env = pure cl := by rfl) (hcell : ∀ y ∈ scope.names, y.2 ≠ .cell := by decide) (hkind : scope.kind = .function := by rfl)
    (hnames : ∀ y ∈ scope.names, y.2 = .local → scope.names.lookup y.1 = some .local := by decide) (hx : scope.names.lookup x = some .local := by rfl)
    (hs : ∀ x, foldedSetIterable iter env x = pure x := by intro _; rfl) :
    wpAny (model prog w) A (eval (.ListComp elt [⟨.Name x px, iter, [test], 0⟩] scope pos) env) Q E s := by
  rw [eval_ListComp]
  refine wpAny_comprehension_free (use := none) rfl hs hclos hkind hnames (wpAny_mono h (fun xv s₁ h₁ => wpAny_mono h₁ (fun it s₂ h₂ => ?_) fun _ _ e => e) fun _ _ e => e)
  obtain ⟨s₀, z₀, z, own, I, n, φ, item, need, P, rfl, IT, SF, S, hneed, hlen, h0, turn, fin⟩ := h₂
  refine listComp_core (RR := fun acc C => compPost (model prog w) A E none Q acc C) hcell hkind hx IT SF S P hneed hlen h0 turn fun D C vs z' lc s' hP S' => ?_
  obtain ⟨m, hm, _⟩ := Loc.ns S'.get0
  exact ⟨m, hm, fun h' hs' => fin D vs z' _ hP (S'.drop0 (tk := s'.toks) hs'.extBut)⟩

/-- y = a list comprehension -/
theorem listCompA {elt iter test : Expr} {x y : Str} {px py : Pos} {scope : Scope} {cl : List (Str × Addr)} {pos spos : Pos} {Q : Flow → Shared → Prop}
    (h : wpAny (model prog w) A (eval iter env) (fun xv s₁ => wpAny (model prog w) A (pyIter xv) (fun it s₂ => ∃ (s₀ : Shared) (z₀ z : Fz) (own : List Ass) (l : List (Str × Value)) (I : Addr) (n : Nat) (φ : Nat → Obj → Prop) (item : Nat → Value → Prop) (need : Fz → Prop) (P : Nat → List Value → Fz → Prop),
      it = .ref I ∧ It prog w A I n φ item need ∧ Selfy prog w A I (φ 0) ∧ MSt s₀ z₀ z ((I, φ 0) :: (env.locals, Loc l) :: own) s₂ ∧ (∀ i vs z, P i vs z → need z) ∧ (∀ i vs z, P i vs z → vs.length ≤ 1000000) ∧ P 0 [] z ∧
      (∀ C D i v vs z lc s E, i < n → item i v → P i vs z → MSt s₀ z₀ z ((C, Loc ((x, v) :: lc)) :: (I, φ (i + 1)) :: (D, PL vs) :: (env.locals, Loc l) :: own) s →
        wpAny (model prog w) A (isTrue test (compEnvC scope cl C env) (eval test (compEnvC scope cl C env))) (fun b s₁ =>
          if b = true then wpAny (model prog w) A (eval elt (compEnvC scope cl C env)) (fun y s₂ => ∃ z', MSt s₀ z₀ z' ((C, Loc ((x, v) :: lc)) :: (I, φ (i + 1)) :: (D, PL vs) :: (env.locals, Loc l) :: own) s₂ ∧ P (i + 1) (vs ++ [y]) z') E s₁
          else ∃ z', MSt s₀ z₀ z' ((C, Loc ((x, v) :: lc)) :: (I, φ (i + 1)) :: (D, PL vs) :: (env.locals, Loc l) :: own) s₁ ∧ P (i + 1) vs z') E s) ∧
      (∀ a vs z' s', P n vs z' → MSt s₀ z₀ z' ((env.locals, Loc ((y, .ref a) :: l)) :: (a, PL vs) :: own) s' → Q .next s')) E s₁) E s)
    (hsw : swapsWith (.ListComp elt [⟨.Name x px, iter, [test], 0⟩] scope pos) (some (.Name y py)) spos.line env = pure true := by rfl)
    (hclos : closureFor scope env = pure cl := by rfl) (hcell : ∀ y ∈ scope.names, y.2 ≠ .cell := by decide) (hkind : scope.kind = .function := by rfl)
    (hnames : ∀ y ∈ scope.names, y.2 = .local → scope.names.lookup y.1 = some .local := by decide) (hx : scope.names.lookup x = some .local := by rfl)
    (hk : env.scope.kind = .function := by rfl) (hy : env.kindOf y = some .local := by rfl)
    (hs : ∀ x, foldedSetIterable iter env x = pure x := by intro _; rfl) :
    wpAny (model prog w) A (exec (.Assign [.Name y py] (.ListComp elt [⟨.Name x px, iter, [test], 0⟩] scope pos) spos) env) Q E s := by
  rw [exec_Assign_Name_used _ _ _ _ hsw]
  refine wpAny_bind (wpAny_standAt (wpAny_bind ?_))
  show wpAny _ A (do let _ ← comprehension (.ListComp elt [⟨.Name x px, iter, [test], 0⟩] scope pos) scope env _ (newList []) false (eval iter env) (some (assign (.Name y py) env))) _ _ s
  refine wpAny_bind (wpAny_mono (wpAny_comprehension_free (use := some (assign (.Name y py) env)) (Q := fun _ s' => Q .next s') rfl hs hclos hkind hnames
    (wpAny_mono h (fun xv s₁ h₁ => wpAny_mono h₁ (fun it s₂ h₂ => ?_) fun _ _ e => e) fun _ _ e => e)) (fun _ s' hq => wpAny_pure (wpAny_pure hq)) fun _ _ e => e)
  obtain ⟨s₀, z₀, z, own, l, I, n, φ, item, need, P, rfl, IT, SF, S, hneed, hlen, h0, turn, fin⟩ := h₂
  refine listComp_core (RR := fun acc C => compPost (model prog w) A E (some (assign (.Name y py) env)) (fun _ s' => Q .next s') acc C) hcell hkind hx IT SF S P hneed hlen h0 turn fun D C vs z' lc s' hP S' => ?_
  show wpAny _ A (assign (.Name y py) env (.ref D)) _ _ _
  refine assignL S'.rot3 (fun s'' S'' => ?_) hk hy
  have S₃ := S''.swap
  obtain ⟨m, hm, _⟩ := Loc.ns S₃.get0
  exact ⟨m, hm, fun h' hs' => fin D vs z' _ hP (S₃.drop0 (tk := s''.toks) hs'.extBut)⟩
end
end Mine
end

/-! # C9 -/
section
set_option autoImplicit false
set_option linter.unusedSectionVars false
set_option linter.unusedVariables false
open PySem PySem.W PyProof.Rows
set_option Elab.async false
namespace Mine
theorem All2.append {α β : Type} {R : α → β → Prop} {as as' : List α} {bs bs' : List β} (h : All2 R as bs) (h' : All2 R as' bs') : All2 R (as ++ as') (bs ++ bs') := by
  induction h with
  | nil => exact h'
  | cons h _ ih => exact .cons h ih
theorem All2.snoc {α β : Type} {R : α → β → Prop} {as : List α} {bs : List β} {a : α} {b : β} (h : All2 R as bs) (h' : R a b) : All2 R (as ++ [a]) (bs ++ [b]) := h.append (.cons h' .nil)
theorem All2.take {α β : Type} {R : α → β → Prop} {as : List α} {bs : List β} (h : All2 R as bs) : ∀ n, All2 R (as.take n) (bs.take n) := by
  induction h with
  | nil => intro n; simp; exact .nil
  | cons h _ ih => intro n; cases n with
    | zero => exact .nil
    | succ n => exact .cons h (ih n)
theorem All2.drop {α β : Type} {R : α → β → Prop} {as : List α} {bs : List β} (h : All2 R as bs) : ∀ n, All2 R (as.drop n) (bs.drop n) := by
  induction h with
  | nil => intro n; simp; exact .nil
  | cons h h2 ih => intro n; cases n with
    | zero => exact .cons h h2
    | succ n => exact ih n
theorem All2.getB {α β : Type} {R : α → β → Prop} {as : List α} {bs : List β} (h : All2 R as bs) {i : Nat} {b : β} (hi : bs[i]? = some b) : ∃ a, as[i]? = some a ∧ R a b := by
  induction h generalizing i with
  | nil => simp at hi
  | cons h _ ih =>
    cases i with
    | zero => simp at hi; subst hi; exact ⟨_, by simp, h⟩
    | succ i => simpa using ih (by simpa using hi)

section
variable {prog : Program} {w : World} {A : Around} {E : Value → Shared → Prop} {s₀ s : Shared} {z₀ z : Fz} {own : List Ass} {env : Env} {Q : Value → Shared → Prop}

/-- a new object that came at the heap's end, frozen -/
theorem MSt.newZ (S : MSt s₀ z₀ z own s) {h' : Heap} {tk : Nat} {o : Obj} (hk : Kp s.heap h') (ho : h'.get? s.heap.objs.size = some o) : MSt s₀ z₀ (zset z s.heap.objs.size o) own { s with heap := h', toks := tk } := by
  have S' : MSt s₀ z₀ z own { s with heap := h', toks := tk } := S.keepOwn rfl hk
  obtain ⟨o', ho', e, S''⟩ := (S'.cons (a := s.heap.objs.size) (φ := fun x => x = o) ho rfl S.size_z S.size_s₀ S.size_own).freeze0
  rw [e] at S''; exact S''

theorem lenL {a : Addr} {vs : List Value} (S : MSt s₀ z₀ z own s) (hl : s.heap.IsList a vs.toArray) (hsz : vs.length ≤ 1000000) (h : ∀ t s', MSt s₀ z₀ z own s' → Q (.int vs.length t) s') : wpAny (model prog w) A (call (.builtin "len") [.ref a]) Q E s :=
  Calls.call_len_list hl (by simp; omega) (by simpa using h _ _ (S.tok _))

theorem addL {a b : Addr} {vs ws : List Value} (S : MSt s₀ z₀ z own s) (hl : s.heap.IsList a vs.toArray) (hb : s.heap.IsList b ws.toArray) (hsz : vs.length + ws.length ≤ 1000000)
    (h : ∀ c z' s', Zle z z' → MSt s₀ z₀ z' own s' → ZL z' c (vs ++ ws) → Q (.ref c) s') : wpAny (model prog w) A (binaryOp .Add (.ref a) (.ref b)) Q E s := by
  obtain ⟨⟨cls, dd, data, sl⟩, ho, hc, n, hd⟩ := id hl
  obtain ⟨⟨cls2, dd2, data2, sl2⟩, ho2, hc2, n2, hd2⟩ := id hb
  simp only at hc hd hc2 hd2
  subst hc hd hc2 hd2
  refine concat_meets ⟨_, ho, rfl⟩ ⟨_, ho2, rfl⟩ noFill_list_add seq_list_add PySem.F.slot_list_add PySem.F.entry_list_add (PySem.F.args_list_add_2 _ _) (list_addW a b vs.toArray ws.toArray n n2 dd dd2 sl sl2 (by rw [sizeLine_eq]; simp; omega)) ⟨ho, ho2, ?_⟩
  exact h _ _ _ (zle_zset S.size_z) (S.pushZ _) ⟨_, zset_same _ _ _, rfl, 0, by simp⟩

/-- xs[lo:hi], frozen -/
theorem sliceL {value : Expr} {lower upper : Option Expr} {p pos : Pos}
    (h : wpAny (model prog w) A (eval value env) (fun o s₁ => wpAny (model prog w) A (evalPart lower env) (fun vl s₂ => wpAny (model prog w) A (evalPart upper env) (fun vu s₃ =>
      ∃ (a : Addr) (vs : List Value) (lo hi : Option Int) (s₀ : Shared) (z₀ z : Fz) (own : List Ass), o = .ref a ∧ MSt s₀ z₀ z own s₃ ∧ s₃.heap.IsList a vs.toArray ∧ vs.length ≤ 2000000 ∧ IsPart vl lo ∧ IsPart vu hi ∧
        ∀ c z' s', Zle z z' → MSt s₀ z₀ z' own s' → ZL z' c (slicePick vs.toArray lo hi none).toList → Q (.ref c) s') E s₂) E s₁) E s)
    (ht : ∀ o r, letTemporaryGo value o r = pure () := by intro _ _; rfl) :
    wpAny (model prog w) A (eval (.Subscript value (.Slice lower upper none p) pos) env) Q E s := by
  refine wpAny_Subscript_list_slice (wpAny_mono h (fun o s₁ h₁ => wpAny_mono h₁ (fun vl s₂ h₂ => wpAny_mono h₂ (fun vu s₃ h₃ => ?_) fun _ _ e => e) fun _ _ e => e) fun _ _ e => e) ht
  obtain ⟨a, vs, lo, hi, s₀, z₀, z, own, rfl, S, hl, hsz, hlo, hhi, hQ⟩ := h₃
  refine ⟨a, vs.toArray, lo, hi, rfl, hl, by rw [sizeLine_eq]; simp; omega, hlo, hhi, ?_⟩
  have S' := S.keepOwn (s' := { s₃ with heap := s₃.heap.push { cls := .type "slice", data := .fields #[vl, vu, .none] } }) (tk := s₃.toks) rfl fun b o e => Heap.get?_push_of_some _ e
  have S'' := S'.pushZ { cls := .type "list", data := .seq (slicePick vs.toArray lo hi none) }
  have e : (s₃.heap.push { cls := .type "slice", data := .fields #[vl, vu, .none] }).objs.size = s₃.heap.objs.size + 1 := Heap.size_push ..
  have hz : zset z (s₃.heap.push { cls := .type "slice", data := .fields #[vl, vu, .none] }).objs.size { cls := .type "list", data := .seq (slicePick vs.toArray lo hi none) } (s₃.heap.objs.size + 1) = some { cls := .type "list", data := .seq (slicePick vs.toArray lo hi none) } := by
    rw [e]; exact zset_same _ _ _
  exact hQ _ _ _ (zle_zset S'.size_z) S'' ⟨_, hz, rfl, 0, by simp⟩

theorem preSum_take {ns : List Int} : ∀ n, preSum (fun i => ns.getD i 0) n = (ns.take n).sum
  | 0 => by simp [preSum]
  | n + 1 => by
    rw [preSum, preSum_take n]
    by_cases h : n < ns.length
    · rw [List.take_add_one, List.getElem?_eq_getElem h, Option.toList_some, List.sum_append, List.sum_singleton, show ns.getD n 0 = ns[n] from by simp [List.getD, h]]
    · have h1 : ns.take n = ns := List.take_of_length_le (by omega)
      have h2 : ns.take (n + 1) = ns := List.take_of_length_le (by omega)
      rw [h1, h2]; simp [List.getD, h]
theorem sum_bound {ns : List Int} {B : Int} (h : ∀ n ∈ ns, 0 ≤ n ∧ n ≤ B) : 0 ≤ ns.sum ∧ ns.sum ≤ B * ns.length := by
  induction ns with
  | nil => simp
  | cons x r ih =>
    have h1 := h x List.mem_cons_self
    have h2 := ih fun n hn => h n (List.mem_cons_of_mem _ hn)
    simp only [List.sum_cons, List.length_cons]
    have e : B * ((r.length + 1 : Nat) : Int) = B * (r.length : Int) + B := by rw [Int.natCast_add, Int.mul_add]; simp
    rw [e]; omega

theorem sumL {a : Addr} {vs : List Value} {ns : List Int} (hh : A.handled = none) (S : MSt s₀ z₀ z own s) (hl : s.heap.IsList a vs.toArray) (hi : All2 IntR vs ns) (hb : ∀ n ∈ ns, 0 ≤ n ∧ n ≤ 1000000) (hlen : ns.length ≤ 1000)
    (h : ∀ t s', MSt s₀ z₀ z own s' → Q (.int ns.sum t) s') : wpAny (model prog w) A (call (.builtin "sum") [.ref a]) Q E s := by
  refine call_sum_walk (wpAny_pyIter_list hl ?_)
  have hla : a < s.heap.objs.size := let ⟨o, ho, _⟩ := hl; Heap.lt_size ho
  refine ⟨s.heap.objs.size, _, _, _, _, _, fun i => ns.getD i 0, rfl, Walks.list (A := A.in1) hh s.heap.objs.size a (Nat.ne_of_lt hla) vs.toArray, ⟨⟨_, Heap.get?_push_size _ rfl, rfl, rfl⟩, hl.push _⟩, ?_, ?_, ?_, ?_⟩
  · intro b hb
    simp only [List.mem_cons, List.not_mem_nil, or_false] at hb
    show b < (s.heap.push _).objs.size
    rw [Heap.size_push]
    rcases hb with rfl | rfl
    · exact Nat.lt_succ_self _
    · exact Nat.lt_succ_of_lt hla
  · intro i v hv
    obtain ⟨k, hk, t, rfl⟩ := hi.get (by simpa using hv)
    exact ⟨t, by simp [List.getD, hk]⟩
  · intro j hj
    have hj' : j < ns.length := by rw [← hi.length]; simpa using hj
    refine ⟨?_, ?_⟩
    · have := hb ns[j] (List.getElem_mem _)
      have e : ns.getD j 0 = ns[j] := by simp [List.getD, hj']
      show InLong (ns.getD j 0)
      rw [e]; unfold InLong; omega
    · have hb' : ∀ n ∈ ns.take (j + 1), 0 ≤ n ∧ n ≤ 1000000 := fun n hn => hb n (List.mem_of_mem_take hn)
      have := sum_bound hb'
      rw [preSum_take]
      have hl2 : ((ns.take (j + 1)).length : Int) ≤ 1000 := by simp; omega
      unfold InLong
      omega
  · intro h' tk t' hk
    rw [preSum_take, show vs.toArray.size = ns.length from by rw [← hi.length]; simp, List.take_length]
    exact h t' _ (S.keepOwn (h' := h') (tk := tk) rfl fun b o e => hk b o (by intro hm; have : b = s.heap.objs.size := by simpa using hm
                                                                              subst this; rw [get_size] at e; cases e) (Heap.get?_push_of_some _ e))

/-- list(range(n)) -/
theorem listRange {n : Int} {t : Tok} (hh : A.handled = none) (S : MSt s₀ z₀ z own s) (h0 : 0 ≤ n) (h1 : n ≤ 1000) (h : ∀ c z' s' vs, Zle z z' → MSt s₀ z₀ z' own s' → ZL z' c vs → All2 IntR vs ((List.range n.toNat).map fun i : Nat => (i : Int)) → Q (.ref c) s') :
    wpAny (model prog w) A (call (.type "range") [.int n t]) (fun r s₁ => wpAny (model prog w) A (call (.type "list") [r]) Q E s₁) E s := by
  refine call_range_1 ?_
  have S' := S.keepOwn (s' := { s with heap := s.heap.push { cls := .type "range", data := .fields #[.int 0 s.toks, .int n t, .int 1 (s.toks + 1)] }, toks := s.toks + 1 + 1 }) rfl fun b o e => Heap.get?_push_of_some _ e
  refine call_list_range (n := n.toNat) hh (IsRange.new ..) (small_one (by decide) (by decide) (by omega) (by omega)) (by rw [rangeSize_one]; split <;> omega) (by omega) fun h' tk acc c' hk hS hacc => ?_
  have S'' := S'.newZ (tk := tk) hk hS
  refine h _ _ _ acc.toList (zle_zset S'.size_z) S'' ⟨_, zset_same _ _ _, rfl, c', by simp⟩ ?_
  obtain ⟨hsz, hit⟩ := hacc
  have key : ∀ (k : Nat) (l : List Value) (off : Nat), l.length = k → (∀ j v, l[j]? = some v → ∃ t, v = Value.int ((off + j : Nat) : Int) t) → All2 IntR l ((List.range' off k).map fun i : Nat => (i : Int)) := by
    intro k
    induction k with
    | zero => intro l off hl _; have : l = [] := List.eq_nil_of_length_eq_zero hl; subst this; exact .nil
    | succ k ih =>
      intro l off hl hv
      cases l with
      | nil => simp at hl
      | cons x r =>
        rw [List.range'_succ, List.map_cons]
        refine .cons ?_ (ih r (off + 1) (by simpa using hl) fun j v hj => ?_)
        · obtain ⟨t, e⟩ := hv 0 x (by simp); exact ⟨t, by simpa using e⟩
        · obtain ⟨t, e⟩ := hv (j + 1) v (by simpa using hj)
          exact ⟨t, by rw [e, show off + (j + 1) = off + 1 + j by omega]⟩
  rw [List.range_eq_range']
  refine key n.toNat acc.toList 0 (by simpa using hsz) fun j v hj => ?_
  obtain ⟨t, e⟩ := hit j v (by simpa using hj)
  exact ⟨t, by rw [e]; simp⟩
end
end Mine
end

/-! # D7 -/
section
set_option autoImplicit false
set_option linter.unusedSectionVars false
set_option linter.unusedVariables false
open PySem PySem.W PyProof.Rows
set_option Elab.async false
set_option maxRecDepth 100000
namespace Mine
noncomputable def pw2 (is : List Nat) : List Int := is.map fun i => (2 : Int) ^ i
/-- what is drawn -/
noncomputable def Drawn (M : Int) (bs : List Int) : Prop := ∃ (hi rest : Int) (is : List Nat), bs = pw2 is ∧ is.Nodup ∧ (∀ i ∈ is, i < 12) ∧ 2 ≤ is.length ∧ is.length ≤ 4 ∧ 0 ≤ hi ∧ hi < 16 ∧ 0 ≤ rest ∧ (pw2 is).sum + rest ≤ 4095 ∧ M = hi * 4096 + (pw2 is).sum + rest

section
variable {M : Model} {A : Around} {E : Value → Shared → Prop} {s : Shared} {env : Env} {Q : Value → Shared → Prop}
theorem partN (h : Q .none s) : wpAny M A (evalPart none env) Q E s := wpAny_pure h
theorem partS {e : Expr} (h : wpAny M A (eval e env) Q E s) : wpAny M A (evalPart (some e) env) Q E s := h
end

noncomputable def castL (js : List Nat) : List Int := js.map fun i : Nat => (i : Int)
theorem pick_upto (vs : List Value) (b : Nat) : (slicePick vs.toArray none (some (b : Int)) none).toList = vs.take b := by rw [slicePick_upto']
theorem pick_from (vs : List Value) (b : Nat) : (slicePick vs.toArray (some (b : Int)) none none).toList = vs.drop b := by rw [slicePick_from']

theorem pw2_bound {is : List Nat} (h : ∀ i ∈ is, i < 12) : ∀ n ∈ pw2 is, 0 ≤ n ∧ n ≤ 1000000 := fun n hn => by
  obtain ⟨i, hi, rfl⟩ := List.mem_map.mp hn
  have := h i hi
  have key : ∀ i : Fin 12, (0 : Int) ≤ 2 ^ i.val ∧ (2 : Int) ^ i.val ≤ 1000000 := by decide
  exact key ⟨i, this⟩
theorem perm_sum {as bs : List Nat} (h : as.Perm bs) : (pw2 as).sum = (pw2 bs).sum := by
  induction h with
  | nil => rfl
  | cons x _ ih => simp only [pw2, List.map_cons, List.sum_cons] at ih ⊢; rw [ih]
  | swap x y l => simp only [pw2, List.map_cons, List.sum_cons]; omega
  | trans _ _ ih1 ih2 => exact ih1.trans ih2
theorem pw2_append (as bs : List Nat) : (pw2 (as ++ bs)).sum = (pw2 as).sum + (pw2 bs).sum := by simp [pw2]
theorem pw2_filter (p : Nat → Bool) (js : List Nat) : 0 ≤ (pw2 (js.filter p)).sum ∧ (pw2 (js.filter p)).sum ≤ (pw2 js).sum := by
  induction js with
  | nil => simp [pw2]
  | cons j r ih =>
    have hp : (0 : Int) ≤ 2 ^ j := Int.le_of_lt (Int.pow_pos (by decide))
    rw [List.filter_cons]
    split
    · simp only [pw2, List.map_cons, List.sum_cons] at ih ⊢; omega
    · simp only [pw2, List.map_cons, List.sum_cons] at ih ⊢; omega

theorem take_perm {is js : List Nat} {p : Nat} (hp : p < js.length) (h : (is ++ js).Perm (List.range 12)) : ((is ++ [js[p]]) ++ (js.take p ++ js.drop (p + 1))).Perm (List.range 12) := by
  refine List.Perm.trans ?_ h
  rw [List.append_assoc]
  refine List.Perm.append_left is ?_
  have e : js = js.take p ++ js[p] :: js.drop (p + 1) := by rw [← List.drop_eq_getElem_cons hp, List.take_append_drop]
  conv => rhs; rw [e]
  show (js[p] :: (js.take p ++ js.drop (p + 1))).Perm _
  exact List.perm_middle.symm

section
variable {prog : Program} {w : World} {g : Heap} {mg mb : Str → Option Value} {z : Fz} {f : Addr}

noncomputable def DrawnZ (z : Fz) (r : Value) (M : Int) (bs : List Int) : Prop := ∃ a t b vs, r = .ref a ∧ ZT z a [.int M t, .ref b] ∧ ZL z b vs ∧ All2 IntR vs bs

set_option maxHeartbeats 4000000 in
theorem fn_drawn {sa : Addr} {svs : List Value} {sns : List Int} (hsl : ZL z sa svs) (hsi : All2 IntR svs sns) (hlen : svs.length ≤ 63) (G : Gd g mg mb) (hf : FnIn g mg 28 f) :
    Fn prog w g f [.ref sa] 1 z (fun z' r => ∃ M bs, Drawn M bs ∧ DrawnZ z' r M bs) := by
  refine enter (n := 0) [(Str.ofString "script", .ref sa)] [(Str.ofString "script", .ref sa)] G hf (fun _ _ _ => rfl) (fun L x hx => ?_) (by decide) (fun _ _ _ _ => ⟨rfl, trivial⟩) ?_
  · rcases List.mem_singleton.mp hx with rfl; exact .inl rfl
  intro A s pm cd doc L s₁ E hr hK S
  refine gen fun Q0 hQ0 => ?_
  have S : MSt s z z [(L, Loc [(Str.ofString "script", .ref sa)]), (L + 1, CellA none)] s₁ := S
  refine wpAny_execs_cons <| wpAny_Assign_Name <| constI S fun t₁ s S => storeC [_] [] S rfl fun s S => ?_
  refine wpAny_execs_cons <| wpAny_For <| wpAny_Call_NameR <| nameB G hK S (G.free _ (by decide)) rfl <| cwT <| wpAny_items_cons <| wpAny_Call_NameR <| nameB G hK S (G.free _ (by decide)) rfl <| cwB <| wpAny_items_cons ?_
  refine sliceL <| nameL S rfl <| partN <| partS <| constI S fun t₂ s S => ⟨sa, svs, none, some 63, _, _, _, _, rfl, S, hsl.at S.gr.frz, by omega, .none, .int _ _, fun c z' s hz S hc => ?_⟩
  rw [show (some (63 : Int)) = some ((63 : Nat) : Int) from rfl, pick_upto] at hc
  have hle : (svs.take 63).length ≤ svs.length := by simp; omega
  refine wpAny_items_nil <| lenL S (hc.at S.gr.frz) (by omega) fun t₃ s S => wpAny_items_nil <| rangeIt1 S (by omega) (by omega) fun I s S => ?_
  refine forIt (It.range hr.1 I 0 (svs.take 63).length) (fun i z' own' l => Zle z z' ∧ LSub [(Str.ofString "script", .ref sa)] l ∧ ∃ v t, own' = [(L + 1, CellA (some (.int v t)))]) (fun _ _ _ _ _ => trivial) S.swap
    ⟨hz, ⟨rfl, trivial⟩, _, _, rfl⟩ ?_ ?_
  · rintro i v z₁ _ l s E hi ⟨tk, rfl⟩ ⟨hz₁, ⟨hl1, -⟩, v, t, rfl⟩ S
    refine gen fun Q1 hQ1 => ?_
    have hi' : i < svs.length := Nat.lt_of_lt_of_le hi hle
    obtain ⟨x, hx, tx, hxe⟩ := hsi.get (i := i) (a := svs[i]) (by simp [hi'])
    have hget : svs[((0 : Int) + i).toNat]? = some (.int x tx) := by rw [← hxe]; simp [hi']
    have hb := fmod_bd x (b := 10 ^ 6) (by decide)
    refine wpAny_execs_cons <| wpAny_AugAssign_Name <| loadC S rfl (.tail _ (.tail _ (.head _))) <| wpAny_BinOp <| wpAny_BinOp <| nameL S rfl <| constI S fun _ s S => addI S fun _ s S => ?_
    refine wpAny_BinOp <| Subscript_ <| nameL S hl1 <| nameL S rfl <| listItem (hsl.mono hz₁ |>.at S.gr.frz) (by omega) (by omega) hget ?_
    refine wpAny_BinOp <| constI S fun _ s S => constI S fun _ s S => powI S (by decide) (by decide) fun _ s S => modI S (by decide) fun _ s S => mulI S (.of_right (intBits_le_64 (by have := hb.1; exact Int.lt_of_lt_of_le (by decide) this) (Int.lt_trans hb.2 (by decide)))) fun _ s S => ?_
    exact iaddI S fun _ s S => storeC [_, _] [] S rfl fun s S => wpAny_execs_nil <| hQ1 _ _ ⟨_, _, _, S, hz₁, ⟨hl1, trivial⟩, _, _, rfl⟩
  rintro z₁ _ l s E ⟨hz₁, ⟨hl1, -⟩, v, t, rfl⟩ S
  refine wpAny_execs_nil ?_
  -- size, mode, number
  have b3 := fmod_bd v (b := 3) (by decide)
  have b16 := fmod_bd (v.fdiv 3) (b := 16) (by decide)
  refine wpAny_execs_cons <| wpAny_Assign_Name <| wpAny_BinOp <| constI S fun _ s S => wpAny_BinOp <| nameC S rfl (.tail _ (.head _)) <| constI S fun _ s S => modI S (by decide) fun _ s S => addI S fun t₄ s S => storeL S fun s S => ?_
  refine wpAny_execs_cons <| wpAny_Assign_Name <| wpAny_BinOp <| wpAny_BinOp <| wpAny_BinOp <| nameC S rfl (.tail _ (.head _)) <| constI S fun _ s S => divI S (by decide) (by decide) fun _ s S => constI S fun _ s S => modI S (by decide) fun _ s S => constI S fun _ s S =>
    mulI S (.of_right (by decide)) fun t₅ s S => storeL S fun s S => ?_
  refine wpAny_execs_cons <| wpAny_AugAssign_Name <| loadC S rfl (.tail _ (.head _)) <| constI S fun _ s S => idivI S (by decide) (by decide) fun _ s S => storeC [_] [] S rfl fun s S => ?_
  refine wpAny_execs_cons <| wpAny_Assign_Name <| wpAny_Call_NameR <| nameB G hK S (G.free _ (by decide)) rfl <| cwT <| wpAny_items_cons <| wpAny_Call_NameR <| nameB G hK S (G.free _ (by decide)) rfl <| cwT <| wpAny_items_cons <| constI S fun _ s S => wpAny_items_nil ?_
  refine wpAny_mono (listRange hr.1 S (by decide) (by decide) fun la z₂ s lvs hz₂ S hla hli => ?_) (fun _ _ h => wpAny_items_nil h) fun _ _ e => e
  refine storeL S fun s S => ?_
  refine wpAny_execs_cons <| wpAny_Assign_Name <| listNew S fun B s S => storeL S.swap fun s S => ?_
  refine wpAny_execs_cons <| wpAny_For <| wpAny_Call_NameR <| nameB G hK S (G.free _ (by decide)) rfl <| cwT <| wpAny_items_cons <| nameL S rfl <| wpAny_items_nil <| rangeIt1 S (by omega) (by omega) fun I s S => ?_
  have S : MSt _ z z₂ ((I, _) :: (L, Loc _) :: (B, PL []) :: (L + 1, CellA _) :: []) s := S
  refine forIt (It.range hr.1 I 0 (2 + v.fmod 3).toNat)
    (fun i z' own' l => Zle z z' ∧ ∃ la lvs js bvs is v' t', own' = [(B, PL bvs), (L + 1, CellA (some (.int v' t')))] ∧ LSub [(Str.ofString "mode", .int ((v.fdiv 3).fmod 16 * 4096) t₅), (Str.ofString "left", .ref la), (Str.ofString "bits", .ref B)] l ∧
      ZL z' la lvs ∧ All2 IntR lvs (castL js) ∧ All2 IntR bvs (pw2 is) ∧ (is ++ js).Perm (List.range 12) ∧ is.length = i) (fun _ _ _ _ _ => trivial) S.swap
    ⟨hz₁.trans hz₂, la, lvs, List.range 12, [], [], _, _, rfl, ⟨rfl, rfl, rfl, trivial⟩, hla, hli, .nil, List.Perm.refl _, rfl⟩ ?_ ?_
  · rintro i vi z₃ _ l s E hi ⟨tk, rfl⟩ ⟨hz₃, la, lvs, js, bvs, is, v', t', rfl, ⟨hl1, hl2, hl3, -⟩, hla, hli, hbi, hperm, hisl⟩ S
    refine gen fun Q2 hQ2 => ?_
    have hjl : js.length = 12 - i := by have := hperm.length_eq; simp at this; omega
    have hi4 : i < 4 := by omega
    have hll : lvs.length = js.length := by rw [hli.length]; simp [castL]
    have hllI : (lvs.length : Int) ≠ 0 := by omega
    have hbl : bvs.length = is.length := by rw [hbi.length]; simp [pw2]
    have bp := fmod_bd v' (b := lvs.length) (by omega)
    generalize hp : v'.fmod lvs.length = p at bp
    have hpn : p.toNat < js.length := by omega
    have hj12 : js[p.toNat] < 12 := by
      have : js[p.toNat] ∈ List.range 12 := hperm.subset (List.mem_append_right _ (List.getElem_mem _))
      simpa using this
    obtain ⟨lv, hlv, tl, rfl⟩ := hli.getB (i := p.toNat) (b := ((js[p.toNat] : Nat) : Int)) (by simp [castL, hpn])
    refine wpAny_execs_cons <| wpAny_Assign_Name <| wpAny_BinOp <| nameC S rfl (.tail _ (.tail _ (.tail _ (.head _)))) <| wpAny_Call_NameR <| nameB G hK S (G.free _ (by decide)) rfl <| cwB <| wpAny_items_cons <| nameL S hl2 <| wpAny_items_nil <|
      lenL S (hla.at S.gr.frz) (by omega) fun _ s S => modI S hllI fun t₆ s S => storeL S fun s S => ?_
    rw [hp] at S
    refine wpAny_execs_cons <| wpAny_AugAssign_Name <| loadC S rfl (.tail _ (.tail _ (.tail _ (.head _)))) <| wpAny_Call_NameR <| nameB G hK S (G.free _ (by decide)) rfl <| cwB <| wpAny_items_cons <| nameL S hl2 <| wpAny_items_nil <|
      lenL S (hla.at S.gr.frz) (by omega) fun _ s S => idivI S hllI (by omega) fun t₇ s S => storeC [_, _, _] [] S rfl fun s S => ?_
    refine wpAny_execs_cons <| appendE <| nameL S hl3 ⟨rfl, ⟨_, PL.plain (S.get (a := B) (φ := PL bvs) (by simp))⟩, wpAny_BinOp <| constI S fun _ s S => Subscript_ <| nameL S hl2 <| nameL S rfl <|
      listItem (hla.at S.gr.frz) bp.1 (by omega) hlv <| pow2I S (by omega) (by omega) fun t₈ s S => ⟨bvs, _, _, _, [_, _], [_], S, by omega, fun s S => ?_⟩⟩
    refine wpAny_execs_cons <| wpAny_Assign_Name <| wpAny_BinOp ?_
    refine sliceL <| nameL S hl2 <| partN <| partS <| nameL S rfl ⟨la, lvs, none, some p, _, _, _, _, rfl, S, hla.at S.gr.frz, by omega, .none, .int _ _, fun c z₄ s hz₄ S hc => ?_⟩
    refine sliceL <| nameL S hl2 <| partS <| wpAny_BinOp <| nameL S rfl <| constI S fun _ s S => addI S fun _ s S => partN ⟨la, lvs, some (p + 1), none, _, _, _, _, rfl, S, (hla.mono hz₄).at S.gr.frz, by omega, .int _ _, .none, fun d z₅ s hz₅ S hd => ?_⟩
    rw [show (some p) = some ((p.toNat : Nat) : Int) from by congr 1; omega, pick_upto] at hc
    rw [show (some (p + 1)) = some (((p.toNat + 1 : Nat)) : Int) from by congr 1; omega, pick_from] at hd
    refine addL S ((hc.mono hz₅).at S.gr.frz) (hd.at S.gr.frz) (by simp; omega) fun e z₆ s hz₆ S he => storeL S fun s S => ?_
    refine wpAny_execs_nil <| hQ2 _ _ ⟨_, _, _, S, hz₃.trans (hz₄.trans (hz₅.trans hz₆)), e, _, js.take p.toNat ++ js.drop (p.toNat + 1), _, is ++ [js[p.toNat]], _, _, rfl, ⟨hl1, rfl, hl3, trivial⟩, he, ?_, ?_, take_perm hpn hperm, by simp [hisl]⟩
    · have := (hli.take p.toNat).append (hli.drop (p.toNat + 1))
      simpa [castL, List.map_take, List.map_drop] using this
    · have e : pw2 (is ++ [js[p.toNat]]) = pw2 is ++ [2 ^ js[p.toNat]] := by simp [pw2]
      rw [e]
      exact hbi.snoc ⟨t₈, by simp⟩
  rintro z₃ _ l s E ⟨hz₃, la, lvs, js, bvs, is, v', t', rfl, ⟨hl1, hl2, hl3, -⟩, hla, hli, hbi, hperm, hisl⟩ S
  refine wpAny_execs_nil ?_
  have hi12 : ∀ i ∈ is, i < 12 := fun i hi => by
    have : i ∈ List.range 12 := hperm.subset (List.mem_append_left _ hi)
    simpa using this
  have hj12 : ∀ i ∈ js, i < 12 := fun i hi => by
    have : i ∈ List.range 12 := hperm.subset (List.mem_append_right _ hi)
    simpa using this
  have hjl : js.length ≤ 12 := by have := hperm.length_eq; simp at this; omega
  have hbl : bvs.length = is.length := by rw [hbi.length]; simp [pw2]
  refine wpAny_execs_cons <| wpAny_Return_some <| tupleZ <| wpAny_items_cons <| wpAny_BinOp <| wpAny_BinOp <| nameL S hl1 ?_
  refine wpAny_Call_NameR <| nameB G hK S (G.free _ (by decide)) rfl <| cwB <| wpAny_items_cons <| nameL S hl3 <| wpAny_items_nil <| sumL hr.1 S ((PL.plain (S.get (a := B) (φ := PL bvs) (by simp))).isList) hbi (pw2_bound hi12) (by simp [pw2]; omega) fun _ s S => addI S fun _ s S => ?_
  refine wpAny_Call_NameR <| nameB G hK S (G.free _ (by decide)) rfl <| cwB <| wpAny_items_cons ?_
  refine listComp <| nameL S hl2 <| listIt S hla fun I s S => ⟨_, _, _, _, I, lvs.length, LIt la, _, _,
    fun i vs z' => Zle z₃ z' ∧ i ≤ js.length ∧ All2 IntR vs (pw2 ((js.take i).filter fun j => (v'.fdiv (2 ^ j)).fmod 2 == 1)), rfl, It.list hr.1 I la lvs, Selfy.list I la 0, S, fun i vs z h => hla.mono h.1, ?_, ⟨Zle.refl _, Nat.zero_le _, .nil⟩, ?_, ?_⟩
  · rintro i vs z ⟨_, hi, h⟩
    have h1 := h.length
    have h2 : ((js.take i).filter fun j => (v'.fdiv (2 ^ j)).fmod 2 == 1).length ≤ (js.take i).length := List.length_filter_le _ _
    simp [pw2] at h1 h2; omega
  · rintro C D i vv vs z₄ lc s E hi hv ⟨hz₄, hij, hvs⟩ S
    refine gen fun Q3 hQ3 => ?_
    obtain ⟨k, hk, tk, rfl⟩ := hli.get hv
    have hij' : i < js.length := by have := (List.getElem?_eq_some_iff.mp hk).1; simpa [castL] using this
    have hke : k = ((js[i] : Nat) : Int) := by simpa [castL, hij'] using hk.symm
    have h12 := hj12 js[i] (List.getElem_mem _)
    subst hke
    have key : ∀ i : Fin 12, ((2 : Int) ^ ((i.val : Nat) : Int).toNat) ≠ 0 ∧ ((2 : Int) ^ ((i.val : Nat) : Int).toNat).natAbs < 1073741824 := by decide
    have hd := key ⟨js[i], h12⟩
    refine wpAny_isTrue_Compare1 <| wpAny_BinOp <| wpAny_BinOp <| nameC S rfl (.tail _ (.tail _ (.tail _ (.tail _ (.tail _ (.head _)))))) <| wpAny_BinOp <| constI S fun _ s S => nameL S rfl <| pow2I S (by omega) (by omega) fun _ s S => divI S hd.1 hd.2 fun _ s S =>
      constI S fun _ s S => modI S (by decide) fun _ s S => constI S fun _ s S => PyProof.Rows.eq_int <| wpAny_truthy_bool <| hQ3 _ _ ?_
    have htk : js.take (i + 1) = js.take i ++ [js[i]] := by rw [List.take_add_one, List.getElem?_eq_getElem hij']; rfl
    have hpow : (2 : Int) ^ ((js[i] : Nat) : Int).toNat = 2 ^ js[i] := by simp
    rw [hpow]
    cases hb : ((v'.fdiv (2 ^ js[i])).fmod 2 == 1) with
    | true =>
      rw [if_pos rfl]
      refine wpAny_BinOp <| constI S fun _ s S => nameL S rfl <| pow2I S (by omega) (by omega) fun t₉ s S => ⟨_, S, hz₄, hij', ?_⟩
      rw [htk, List.filter_append, show ([js[i]].filter fun j => (v'.fdiv (2 ^ j)).fmod 2 == 1) = [js[i]] from by simp [hb]]
      have e : ∀ x : List Nat, pw2 (x ++ [js[i]]) = pw2 x ++ [2 ^ js[i]] := fun x => by simp [pw2]
      rw [e]
      exact hvs.snoc ⟨t₉, by rw [hpow]⟩
    | false =>
      rw [if_neg Bool.false_ne_true]
      refine ⟨_, S, hz₄, hij', ?_⟩
      rw [htk, List.filter_append, show ([js[i]].filter fun j => (v'.fdiv (2 ^ j)).fmod 2 == 1) = [] from by simp [hb], List.append_nil]
      exact hvs
  rintro a vs z₄ s ⟨hz₄, _, hvs⟩ S
  have hfull : js.take lvs.length = js := List.take_of_length_le (by rw [hli.length]; simp [castL])
  rw [hfull] at hvs
  generalize hF : (js.filter fun j => (v'.fdiv (2 ^ j)).fmod 2 == 1) = fs at hvs
  have hfs : ∀ i ∈ fs, i < 12 := fun i hi => hj12 i (by rw [← hF] at hi; exact (List.mem_filter.mp hi).1)
  have hfl : fs.length ≤ 12 := by rw [← hF]; exact Nat.le_trans (List.length_filter_le _ _) hjl
  refine wpAny_items_nil <| sumL hr.1 S ((PL.plain (S.get (a := a) (φ := PL vs) (by simp))).isList) hvs (pw2_bound hfs) (by simp [pw2]; omega) fun _ s S => addI S fun t₉ s S => ?_
  refine wpAny_items_cons <| nameL S.forget0 hl3 <| wpAny_items_nil ⟨by simp, _, _, _, _, S.forget0, fun r z₅ s hz₅ S hr => ?_⟩
  obtain ⟨o, ho, ⟨nb, rfl⟩, S'⟩ := S.swap.freeze0
  have hzB : z₅ B = none := (S.ow (B, PL bvs) (by simp)).2.1
  refine hQ0 _ _ ⟨_, _, _, rfl, S', _, pw2 is, ?_, r, t₉, B, bvs, rfl, hr.mono (zle_zset hzB), ⟨_, zset_same _ _ _, rfl, nb, rfl⟩, hbi⟩
  have hsum : (pw2 is).sum + (pw2 js).sum = 4095 := by rw [← pw2_append, perm_sum hperm]; decide
  have hf2 := pw2_filter (fun j => (v'.fdiv (2 ^ j)).fmod 2 == 1) js
  rw [hF] at hf2
  have hnd : (is ++ js).Nodup := hperm.nodup_iff.mpr List.nodup_range
  exact ⟨(v.fdiv 3).fmod 16, (pw2 fs).sum, is, rfl, (List.nodup_append.mp hnd).1, hi12, by omega, by omega, b16.1, b16.2, hf2.1, by omega, by omega⟩
end
end Mine
end

/-! # C10 -/
section
set_option autoImplicit false
set_option linter.unusedSectionVars false
set_option linter.unusedVariables false
open PySem PySem.W PyProof.Rows
set_option Elab.async false
namespace Mine
section
variable {prog : Program} {w : World} {A : Around} {E : Value → Shared → Prop} {R : Result → Shared → Prop} {s₀ s : Shared} {z₀ z : Fz} {own : List Ass} {env : Env}

/-- a block's namespace with one cell of its own -/
theorem blockEnv1 {scope : Scope} {globals : Addr} {cl : List (Str × Addr)} {qual x : Str} {Q : Env → Shared → Prop} (hcf : ∀ n, cellsFrom n scope.names cl = (x, n) :: cl)
    (hpc : ∀ h, pushCells h scope.names = h.push { cls := .type "cell", data := .cell none }) (S : MSt s₀ z₀ z own s)
    (h : ∀ C c s', MSt s₀ z₀ z ((C, Loc []) :: (c, CellA none) :: own) s' →
      Q { scope := scope, locals := C, globals := globals, cells := (x, c) :: cl, qual := qual, func := none, code := env.code, frame := env.frame, builtins := env.builtins } s') :
    wpAny (model prog w) A (newFunctionEnv scope globals cl [] qual none .none (some env)) Q E s := by
  simp only [newFunctionEnv, Option.isSome_some, if_true]
  refine wpAny_bind (wpAny_alloc ?_)
  have S₁ := S.pushO (φ := Loc []) { cls := .type "dict", data := .dict #[] } (by
    obtain ⟨o, ho, hL⟩ := Loc.of_ns (l := []) (Heap.Ns.new s.heap (.type "dict")) (fun n v e => by cases e)
    rw [Heap.get?_push_size _ rfl] at ho; cases ho; exact hL)
  refine wpAny_bind (wpAny_layCells _ (fun name kind cells => by cases hkc : kind == NameKind.cell <;> simp [hkc]) _ _ _ _ ?_)
  have S₂ := S₁.pushO (φ := CellA none) { cls := .type "cell", data := .cell none } rfl
  rw [hcf, hpc]
  exact wpAny_bind (wpAny_pure (wpAny_pure (h _ _ _ S₂.swap)))

theorem compTurn2_0 (elt iter0 iter1 : Expr) (x y : Str) (px py : Pos) (scope : Scope) (pos : Pos) (it acc : Value) (env : Env) :
    compTurn (.ListComp elt [⟨.Name x px, iter0, [], 0⟩, ⟨.Name y py, iter1, [], 0⟩] scope pos) 0 it acc env = (do
      standAt iter0.pos
      match ← pyNext it with
      | none => pure (.done .next)
      | some v =>
        assign (.Name x px) env v
        let xv ← eval iter1 env
        standAt iter1.pos
        let xv ← foldedSetIterable iter1 env xv
        let _ ← runOwn (.compStart (.ListComp elt [⟨.Name x px, iter0, [], 0⟩, ⟨.Name y py, iter1, [], 0⟩] scope pos) 1 (← holding [xv] (pyIter xv)) acc env) env
        again (.compLoop (.ListComp elt [⟨.Name x px, iter0, [], 0⟩, ⟨.Name y py, iter1, [], 0⟩] scope pos) 0 it acc env)) := by rfl
theorem compTurn2_1 (elt iter0 iter1 : Expr) (x y : Str) (px py : Pos) (scope : Scope) (pos : Pos) (it acc : Value) (env : Env) :
    compTurn (.ListComp elt [⟨.Name x px, iter0, [], 0⟩, ⟨.Name y py, iter1, [], 0⟩] scope pos) 1 it acc env = (do
      standAt iter1.pos
      match ← pyNext it with
      | none => pure (.done .next)
      | some v =>
        assign (.Name y py) env v
        (do let _ ← call (.builtin "list.append") [acc, ← eval elt env])
        again (.compLoop (.ListComp elt [⟨.Name x px, iter0, [], 0⟩, ⟨.Name y py, iter1, [], 0⟩] scope pos) 1 it acc env)) := by rfl

theorem comp2_start1 {elt iter0 iter1 : Expr} {x y : Str} {px py : Pos} {scope : Scope} {pos : Pos} {it acc : Value} {env : Env}
    (h0 : codeAny (model prog w) A (.compLoop (.ListComp elt [⟨.Name x px, iter0, [], 0⟩, ⟨.Name y py, iter1, [], 0⟩] scope pos) 1 it acc env) R s)
    (h : wpAny (model prog w) A (pyIter it) (fun it' s' => codeAny (model prog w) A (.compLoop (.ListComp elt [⟨.Name x px, iter0, [], 0⟩, ⟨.Name y py, iter1, [], 0⟩] scope pos) 1 it' acc env) R s')
      (notedBy (model prog w) A env fun x s' => R (.error x) s') s) :
    codeAny (model prog w) A (.compStart (.ListComp elt [⟨.Name x px, iter0, [], 0⟩, ⟨.Name y py, iter1, [], 0⟩] scope pos) 1 it acc env) R s := by
  refine codeAny_of_tree ?_
  show wpAny _ _ ((compStart (.ListComp elt [⟨.Name x px, iter0, [], 0⟩, ⟨.Name y py, iter1, [], 0⟩] scope pos) 1 it acc env).onRaise (fun x => do noteFrame x env; standAt theWindowsPlace)) _ _ s
  refine wpAny_notedAt ?_
  unfold compStart
  show wpAny _ _ (ask >>= _) _ _ s
  refine wpAny_bind (wpAny_askSetting (wpAny_ite ?_))
  split
  · first
      | exact wpAny_bind (wpAny_pure (wpAny_pure (And.intro rfl h0)))
      | exact wpAny_pure (And.intro rfl h0)
  · first
      | exact wpAny_bind (wpAny_rule (wpAny_bind (wpAny_standAt (wpAny_bind (wpAny_mono h (fun it' s' h' => wpAny_pure (And.intro rfl h')) fun _ _ x => x)))))
      | (refine wpAny_bind (wpAny_rule ?_); show wpAny _ _ (standAt iter1.pos >>= _) _ _ s; exact wpAny_bind (wpAny_standAt (wpAny_bind (wpAny_mono h (fun it' s' h' => wpAny_pure (And.intro rfl h')) fun _ _ x => x))))

theorem comp2_loop1 {elt iter0 iter1 : Expr} {x y : Str} {px py : Pos} {scope : Scope} {pos : Pos} {it acc : Value} {env : Env} (J : Nat → Shared → Prop)
    (turn : ∀ n s E, J n s → wpAny (model prog w) A (pyNext it) (fun r s₁ => match r with
      | none => R (.ok .next) s₁
      | some v => wpAny (model prog w) A (assign (.Name y py) env v) (fun _ s₂ => wpAny (model prog w) A (eval elt env) (fun e s₃ => wpAny (model prog w) A (call (.builtin "list.append") [acc, e]) (fun _ s₄ => ∃ m, m < n ∧ J m s₄) E s₃) E s₂) E s₁) E s)
    (n : Nat) (h : J n s) : codeAny (model prog w) A (.compLoop (.ListComp elt [⟨.Name x px, iter0, [], 0⟩, ⟨.Name y py, iter1, [], 0⟩] scope pos) 1 it acc env) R s := by
  refine codeAny_loop rfl J (fun n s hI => ?_) n h
  show wpAny _ A ((compTurn (.ListComp elt [⟨.Name x px, iter0, [], 0⟩, ⟨.Name y py, iter1, [], 0⟩] scope pos) 1 it acc env).onRaise (fun x => do noteFrame x env; theTreesLotGoes x)) _ _ s
  refine wpAny_noted ?_
  rw [compTurn2_1]
  refine wpAny_bind (wpAny_standAt (wpAny_bind (wpAny_mono (turn n s _ hI) (fun r s₁ h₁ => ?_) fun _ _ h' => h')))
  cases r with
  | none => exact wpAny_pure h₁
  | some v =>
    refine wpAny_bind (wpAny_mono h₁ (fun _ s₂ h₂ => wpAny_bind ?_) fun _ _ h' => h')
    refine wpAny_bind (wpAny_mono h₂ (fun e s₃ h₃ => wpAny_bind (wpAny_mono h₃ (fun _ s₄ h₄ => wpAny_pure (wpAny_pure ⟨rfl, h₄⟩)) fun _ _ h' => h')) fun _ _ h' => h')

theorem comp2_loop0 {elt iter0 iter1 : Expr} {x y : Str} {px py : Pos} {scope : Scope} {pos : Pos} {it acc : Value} {env : Env} (J : Nat → Shared → Prop)
    (turn : ∀ n s E, J n s → wpAny (model prog w) A (pyNext it) (fun r s₁ => match r with
      | none => R (.ok .next) s₁
      | some v => wpAny (model prog w) A (assign (.Name x px) env v) (fun _ s₂ => wpAny (model prog w) A (eval iter1 env) (fun xv s₃ => wpAny (model prog w) A (pyIter xv) (fun it' s₄ =>
          ∀ R' : Result → Shared → Prop, (∀ s', (∃ m, m < n ∧ J m s') → R' (.ok .next) s') → codeAny (model prog w) A (.compStart (.ListComp elt [⟨.Name x px, iter0, [], 0⟩, ⟨.Name y py, iter1, [], 0⟩] scope pos) 1 it' acc env) R' s₄) E s₃) E s₂) E s₁) E s)
    (n : Nat) (h : J n s) (hs : ∀ x, foldedSetIterable iter1 env x = pure x) : codeAny (model prog w) A (.compLoop (.ListComp elt [⟨.Name x px, iter0, [], 0⟩, ⟨.Name y py, iter1, [], 0⟩] scope pos) 0 it acc env) R s := by
  refine codeAny_loop rfl J (fun n s hI => ?_) n h
  show wpAny _ A ((compTurn (.ListComp elt [⟨.Name x px, iter0, [], 0⟩, ⟨.Name y py, iter1, [], 0⟩] scope pos) 0 it acc env).onRaise (fun x => do noteFrame x env; theTreesLotGoes x)) _ _ s
  refine wpAny_noted ?_
  rw [compTurn2_0]
  refine wpAny_bind (wpAny_standAt (wpAny_bind (wpAny_mono (turn n s _ hI) (fun r s₁ h₁ => ?_) fun _ _ h' => h')))
  cases r with
  | none => exact wpAny_pure h₁
  | some v =>
    refine wpAny_bind (wpAny_mono h₁ (fun _ s₂ h₂ => wpAny_bind (wpAny_mono h₂ (fun xv s₃ h₃ => ?_) fun _ _ h' => h')) fun _ _ h' => h')
    refine wpAny_bind (wpAny_standAt (wpAny_bind (wpAny_of_eq (hs xv) (wpAny_bind (wpAny_holding (wpAny_mono h₃ (fun it' s₄ h₄ => ?_) fun _ _ h' => h'))))))
    refine wpAny_bind (wpAny_runOwn (h₄ _ fun s' hs' => ?_))
    exact wpAny_pure ⟨rfl, hs'⟩
end
end Mine
end

/-! # D8 -/
section
set_option autoImplicit false
set_option linter.unusedSectionVars false
set_option linter.unusedVariables false
open PySem PySem.W PyProof.Rows
set_option Elab.async false
set_option maxRecDepth 100000
namespace Mine
noncomputable def ordN : Nat → List Int → List (List Int)
  | 0, _ => [[]]
  | n + 1, bs => bs.flatMap fun b => (ordN n (bs.filter fun x => x != b)).map (b :: ·)

noncomputable def ZLI (z : Fz) (v : Value) (ns : List Int) : Prop := ∃ a vs, v = .ref a ∧ ZL z a vs ∧ All2 IntR vs ns
noncomputable def ZLL (z : Fz) (v : Value) (nss : List (List Int)) : Prop := ∃ a vs, v = .ref a ∧ ZL z a vs ∧ All2 (ZLI z) vs nss
theorem ZLI.mono {z z' : Fz} {v : Value} {ns : List Int} (h : ZLI z v ns) (hz : Zle z z') : ZLI z' v ns := let ⟨a, vs, e, h, h2⟩ := h; ⟨a, vs, e, h.mono hz, h2⟩
theorem ZLL.mono {z z' : Fz} {v : Value} {ns : List (List Int)} (h : ZLL z v ns) (hz : Zle z z') : ZLL z' v ns := let ⟨a, vs, e, h, h2⟩ := h; ⟨a, vs, e, h.mono hz, h2.mono fun _ _ h => h.mono hz⟩

theorem MSt.rev3 {s₀ s : Shared} {z₀ z : Fz} {own : List Ass} {p a b c : Ass} (S : MSt s₀ z₀ z (p :: a :: b :: c :: own) s) : MSt s₀ z₀ z (p :: c :: b :: a :: own) s :=
  S.perm (List.Perm.cons p ((List.Perm.swap b c _).trans (((List.Perm.swap a c _).cons b).trans (List.Perm.swap a b _))))
theorem filter_len {bs : List Int} {b : Int} {n : Nat} (hnd : bs.Nodup) (hb : b ∈ bs) (hl : bs.length = n + 1) : (bs.filter fun x => x != b).length = n := by
  have h1 : (bs.filter fun x => x != b) = bs.erase b := by
    rw [hnd.erase_eq_filter b]
  rw [h1, List.length_erase_of_mem hb, hl]; rfl

noncomputable def factN : Nat → Nat | 0 => 1 | n + 1 => (n + 1) * factN n
theorem ordN_len : ∀ (n : Nat) (bs : List Int), bs.length ≤ n + 10 → bs.Nodup → bs.length = n → n ≤ 4 → (ordN n bs).length ≤ 24 ∧ (n ≤ 3 → (ordN n bs).length ≤ 6) := by
  intro n
  have key : ∀ (n : Nat) (bs : List Int), bs.Nodup → bs.length = n → (ordN n bs).length = factN n := by
    intro n
    induction n with
    | zero => intro bs _ _; rfl
    | succ n ih =>
      intro bs hnd hl
      have : ∀ (cs : List Int), (∀ c ∈ cs, c ∈ bs) → (cs.flatMap fun b => (ordN n (bs.filter fun x => x != b)).map (b :: ·)).length = cs.length * factN n := by
        intro cs
        induction cs with
        | nil => intro _; simp
        | cons c r ihr =>
          intro hc
          rw [List.flatMap_cons, List.length_append, List.length_map, ih _ (hnd.filter _) (filter_len hnd (hc c List.mem_cons_self) hl), ihr fun x hx => hc x (List.mem_cons_of_mem _ hx), List.length_cons, Nat.succ_mul]
          omega
      have h := this bs fun _ h => h
      rw [ordN, h, hl]; rfl
  intro bs _ hnd hl hn
  rw [key n bs hnd hl]
  have : n = 0 ∨ n = 1 ∨ n = 2 ∨ n = 3 ∨ n = 4 := by omega
  rcases this with rfl | rfl | rfl | rfl | rfl <;> decide

theorem ordN_elem : ∀ (n : Nat) (bs : List Int), ∀ os ∈ ordN n bs, os.length = n
  | 0, _, os, h => by simp [ordN] at h; subst h; rfl
  | n + 1, bs, os, h => by
    simp only [ordN, List.mem_flatMap, List.mem_map] at h
    obtain ⟨b, _, os', h', rfl⟩ := h
    simp [ordN_elem n _ os' h']

section
variable {prog : Program} {w : World} {g : Heap} {mg mb : Str → Option Value} {f : Addr}

set_option maxHeartbeats 4000000 in
theorem fn_orders (G : Gd g mg mb) (hf : FnIn g mg 29 f) : ∀ (n : Nat) (z : Fz) (bv : Value) (bs : List Int), ZLI z bv bs → bs.Nodup → bs.length = n → n ≤ 4 → Fn prog w g f [bv] (n + 1) z (fun z' r => ZLL z' r (ordN n bs)) := by
  intro n
  induction n with
  | zero =>
    rintro z bv bs ⟨a, vs, rfl, ha, hi⟩ hnd hl _
    refine enter (n := 0) [(Str.ofString "bits", .ref a)] [] G hf (fun _ _ _ => rfl) (fun L x hx => ?_) (by decide) (fun _ _ _ _ => trivial) ?_
    · rcases List.mem_singleton.mp hx with rfl; exact .inr ⟨rfl, rfl⟩
    intro A s pm cd doc L s₁ E hr hK S
    refine gen fun Q0 hQ0 => ?_
    have S : MSt s z z [(L, Loc []), (L + 1, CellA (some (.ref a)))] s₁ := S
    have hvs : vs = [] := List.eq_nil_of_length_eq_zero (by rw [hi.length, hl])
    refine wpAny_execs_cons <| wpAny_If <| wpAny_isTrue_Compare1 <| nameC S rfl (.tail _ (.head _)) <| listZ <| wpAny_items_nil ⟨by simp, _, _, _, _, S, fun b z₁ s hz₁ S hb => ?_⟩
    refine SeqAt.eq_listAt (e := fun _ => true) ((ha.mono hz₁).at S.gr.frz) (hb.at S.gr.frz) (by simp [hvs]) (by have := hr.units; omega) (fun j h1 h2 => by simp at h2) <| wpAny_truthy_bool ?_
    rw [show (List.range vs.toArray.size).all (fun _ => true) = true from by simp]
    refine wpAny_execs_cons <| wpAny_Return_some <| listZ <| wpAny_items_cons <| listZ <| wpAny_items_nil ⟨by simp, _, _, _, _, S, fun c z₂ s hz₂ S hc => wpAny_items_nil ⟨by simp, _, _, _, _, S, fun d z₃ s hz₃ S hd => ?_⟩⟩
    exact hQ0 _ _ ⟨_, _, _, rfl, S, d, _, rfl, hd, .cons ⟨c, _, rfl, hc.mono hz₃, .nil⟩ .nil⟩
  | succ n ih =>
    rintro z bv bs ⟨a, vs, rfl, ha, hi⟩ hnd hl hn4
    refine enter (n := n + 1) [(Str.ofString "bits", .ref a)] [] G hf (fun _ _ _ => rfl) (fun L x hx => ?_) (by decide) (fun _ _ _ _ => trivial) ?_
    · rcases List.mem_singleton.mp hx with rfl; exact .inr ⟨rfl, rfl⟩
    intro A s₀ pm cd doc L s₁ E hr hK S
    refine gen fun Q0 hQ0 => ?_
    have S : MSt s₀ z z [(L, Loc []), (L + 1, CellA (some (.ref a)))] s₁ := S
    have hvl : vs.length = n + 1 := by rw [hi.length, hl]
    refine wpAny_execs_cons <| wpAny_If <| wpAny_isTrue_Compare1 <| nameC S rfl (.tail _ (.head _)) <| listZ <| wpAny_items_nil ⟨by simp, _, _, _, _, S, fun b z₁ s hz₁ S hb => ?_⟩
    refine SeqAt.eq_list_lengthsAt ((ha.mono hz₁).at S.gr.frz) (hb.at S.gr.frz) (by simp [hvl]) (by have := hr.units; omega) <| wpAny_truthy_bool ?_
    rw [if_neg Bool.false_ne_true]
    refine wpAny_execs_nil <| wpAny_execs_cons <| wpAny_Return_some ?_
    have ha := ha.mono hz₁
    refine wpAny_comprehension_free (cl := [(Str.ofString "bits", L + 1)]) (use := none) (by rfl) (by intro _; rfl) (by rfl) (by rfl) (by decide) ?_
    refine nameC S rfl (.tail _ (.head _)) <| listIt S ha fun I s S => wpAny_newObj_type ?_
    have S := S.pushO (φ := PL []) { cls := .type "list", data := .seq ([] : List Value).toArray } ⟨0, rfl⟩
    generalize s.heap.objs.size = D at S ⊢
    refine blockEnv1 (x := Str.ofString "bit") (fun _ => rfl) (fun _ => rfl) S fun C c s S => ?_
    have S := S.rev3
    refine (fun (loop : codeAny _ _ (.compLoop _ 0 (.ref I) _ _) _ _) => codeAny_compStart_list loop (Selfy.list I a 0 _ _ _ S.get1 loop)) ?_
    refine comp2_loop0 (fun k s => ∃ i z' lc cv ovs, k = n + 2 - i ∧ i ≤ n + 1 ∧ Zle z₁ z' ∧ MSt s₀ z z' [(C, Loc lc), (I, LIt a i), (D, PL ovs), (c, CellA cv), (L, Loc []), (L + 1, CellA (some (.ref a)))] s ∧
      All2 (ZLI z') ovs ((bs.take i).flatMap fun b => (ordN n (bs.filter fun x => x != b)).map (b :: ·))) ?_ (n + 2) ⟨0, _, _, _, _, rfl, Nat.zero_le _, Zle.refl _, S, .nil⟩ (by intro _; rfl)
    rintro k s E' ⟨i, z₂, lc, cv, ovs, rfl, hi1, hz₂, S, hov⟩
    by_cases hlt : i < n + 1
    · refine (It.list hr.1 I a vs).next _ _ _ _ _ s _ _ i (by omega) (ha.mono hz₂) S fun v s hv S => ?_
      obtain ⟨b, hb, tb, rfl⟩ := hi.get hv
      have hbm : b ∈ bs := List.mem_of_getElem? hb
      have htk : bs.take (i + 1) = bs.take i ++ [b] := by rw [List.take_add_one, hb]; rfl
      refine wpAny_assign_Name <| storeC [_, _, _] [_, _] S rfl fun s S => ?_
      obtain ⟨o, pm', cd', doc', hmg, _⟩ := id hf
      refine wpAny_Call_NameR <| nameG G hK S hmg <| cwF hf <| wpAny_items_cons ?_
      refine listComp <| nameC S rfl (.tail _ (.tail _ (.tail _ (.tail _ (.tail _ (.head _)))))) <| listIt S (ha.mono hz₂) fun I₂ s S => ⟨_, _, _, _, I₂, vs.length, LIt a, _, _,
        fun j ws z' => Zle z₂ z' ∧ j ≤ bs.length ∧ All2 IntR ws ((bs.take j).filter fun x => x != b), rfl, It.list hr.1 I₂ a vs, Selfy.list I₂ a 0, S, fun j ws z h => (ha.mono hz₂).mono h.1, ?_, ⟨Zle.refl _, Nat.zero_le _, .nil⟩, ?_, ?_⟩
      · rintro j ws z ⟨_, hj, h⟩
        have h1 := h.length
        have h2 : ((bs.take j).filter fun x => x != b).length ≤ (bs.take j).length := List.length_filter_le _ _
        simp at h1 h2; omega
      · rintro C₂ D₂ j vv ws z₃ lc₂ s E hj hvj ⟨hz₃, hjl, hws⟩ S
        refine gen fun Q1 hQ1 => ?_
        obtain ⟨x, hx, tx, rfl⟩ := hi.get hvj
        have hjl' : j < bs.length := (List.getElem?_eq_some_iff.mp hx).1
        have htj : bs.take (j + 1) = bs.take j ++ [x] := by rw [List.take_add_one, hx]; rfl
        refine wpAny_isTrue_Compare1 <| nameL S rfl <| nameC S rfl (.tail _ (.tail _ (.tail _ (.tail _ (.tail _ (.tail _ (.head _))))))) <| PyProof.Rows.ne_int <| wpAny_truthy_bool <| hQ1 _ _ ?_
        cases hxb : (x != b) with
        | true =>
          rw [if_pos rfl]
          refine nameL S rfl ⟨_, S, hz₃, hjl', ?_⟩
          rw [htj, List.filter_append, show ([x].filter fun x => x != b) = [x] from by simp [hxb]]
          exact hws.snoc ⟨tx, rfl⟩
        | false =>
          rw [if_neg Bool.false_ne_true]
          refine ⟨_, S, hz₃, hjl', ?_⟩
          rw [htj, List.filter_append, show ([x].filter fun x => x != b) = [] from by simp [hxb], List.append_nil]
          exact hws
      rintro fa ws z₃ s ⟨hz₃, _, hws⟩ S
      rw [hvl, ← hl, List.take_length] at hws
      have hzf : z₃ fa = none := (S.ow _ List.mem_cons_self).2.1
      obtain ⟨o, ho, ⟨nf, rfl⟩, S⟩ := S.freeze0
      refine wpAny_items_nil ⟨hK.trans S.gr.keep, ?_⟩
      have hfl := filter_len hnd hbm hl
      refine (ih _ _ _ ⟨fa, ws, rfl, ⟨_, zset_same _ _ _, rfl, nf, rfl⟩, hws⟩ (hnd.filter _) hfl (by omega)).use hr hK S fun r z₄ s hz₄ S hr4 => ?_
      obtain ⟨ra, rvs, rfl, hra, hrr⟩ := hr4
      have hz24 : Zle z₂ z₄ := (hz₃.trans (zle_zset hzf)).trans hz₄
      refine listIt S hra fun I₃ s S R' hR' => ?_
      refine (fun (loop : codeAny _ _ (.compLoop _ 1 (.ref I₃) _ _) _ _) => comp2_start1 loop (Selfy.list I₃ ra 0 _ _ _ S.get0 loop)) ?_
      have hol := ordN_len n (bs.filter fun x => x != b) (by omega) (hnd.filter _) hfl (by omega)
      refine comp2_loop1 (fun k s => ∃ j z' lc ovs', k = rvs.length + 1 - j ∧ j ≤ rvs.length ∧ Zle z₄ z' ∧ MSt s₀ z z' [(C, Loc lc), (I₃, LIt ra j), (I, LIt a (i + 1)), (D, PL ovs'), (c, CellA (some (.int b tb))), (L, Loc []), (L + 1, CellA (some (.ref a)))] s ∧
        All2 (ZLI z') ovs' (((bs.take i).flatMap fun b => (ordN n (bs.filter fun x => x != b)).map (b :: ·)) ++ ((ordN n (bs.filter fun x => x != b)).take j).map (b :: ·))) ?_ (rvs.length + 1)
        ⟨0, _, _, _, rfl, Nat.zero_le _, Zle.refl _, S.swap, by simpa using hov.mono fun _ _ h => h.mono hz24⟩
      rintro k s E'' ⟨j, z₅, lc₅, ovs₅, rfl, hj1, hz₅, S, hov₅⟩
      have hol2 := ordN_len (n + 1) bs (by omega) hnd hl hn4
      have hovl : ovs₅.length ≤ 48 := by
        rw [hov₅.length, List.length_append]
        have e1 : ((bs.take i).flatMap fun b => (ordN n (bs.filter fun x => x != b)).map (b :: ·)).length ≤ (ordN (n + 1) bs).length := by
          conv => rhs; rw [ordN, ← List.take_append_drop i bs, List.flatMap_append, List.length_append]
          rw [List.take_append_drop]; exact Nat.le_add_right _ _
        have e2 : (((ordN n (bs.filter fun x => x != b)).take j).map (b :: ·)).length ≤ (ordN n (bs.filter fun x => x != b)).length := by simp; omega
        have := hol.1
        have := hol2.1
        omega
      by_cases hjlt : j < rvs.length
      · refine (It.list hr.1 I₃ ra rvs).next _ _ _ _ _ s _ _ j hjlt (hra.mono hz₅) S fun v s hv S => ?_
        obtain ⟨os, hos, ob, ws', rfl, hob, hobi⟩ := hrr.get hv
        have htj : (ordN n (bs.filter fun x => x != b)).take (j + 1) = (ordN n (bs.filter fun x => x != b)).take j ++ [os] := by rw [List.take_add_one, hos]; rfl
        have hwl : ws'.length ≤ 1000 := by rw [hobi.length, ordN_elem n _ os (List.mem_of_getElem? hos)]; omega
        refine assignL S fun s S => wpAny_BinOp <| listZ <| wpAny_items_cons <| nameC S rfl (.tail _ (.tail _ (.tail _ (.tail _ (.head _))))) <| wpAny_items_nil ⟨by simp, _, _, _, _, S, fun la z₆ s hz₆ S hla => ?_⟩
        refine nameL S rfl <| addL S (hla.at S.gr.frz) (((hob.mono hz₅).mono hz₆).at S.gr.frz) (by simp; omega) fun na z₇ s hz₇ S hna => ?_
        refine wpAny_list_append_plain (PL.plain (S.get (a := D) (φ := PL ovs₅) (by simp))) (fun h' hl' hs' => ?_) (by rw [sizeLine_eq]; simp; omega)
        obtain ⟨n', hn'⟩ := hl'
        refine ⟨rvs.length + 1 - (j + 1), by omega, j + 1, z₇, _, ovs₅ ++ [.ref na], rfl, hjlt, (hz₅.trans hz₆).trans hz₇, MSt.updAt [_, _, _] [_, _, _] S (tk := s.toks) hs'.extBut hn' ⟨n', by simp⟩, ?_⟩
        rw [htj, List.map_append, ← List.append_assoc]
        exact (hov₅.mono fun _ _ h => (h.mono hz₆).mono hz₇).snoc ⟨na, _, rfl, hna, .cons ⟨tb, rfl⟩ hobi⟩
      · obtain rfl : j = rvs.length := by omega
        refine (It.list hr.1 I₃ ra rvs).done _ _ _ _ _ s _ _ (hra.mono hz₅) S fun s S => hR' s ⟨n + 2 - (i + 1), by omega, i + 1, z₅, _, _, _, rfl, hlt, hz₂.trans (hz24.trans hz₅), S, ?_⟩
        rw [htk, List.flatMap_append]
        rw [hrr.length, List.take_length] at hov₅
        simpa using hov₅
    · obtain rfl : i = n + 1 := by omega
      rw [← hvl] at S
      refine (It.list hr.1 I a vs).done _ _ _ _ _ s _ _ (ha.mono hz₂) S fun s S => ?_
      obtain ⟨m, hm, _⟩ := Loc.ns S.get0
      refine ⟨m, hm, fun h' hs' => ?_⟩
      have S := S.drop0 (tk := s.toks) hs'.extBut
      have hzD : z₂ D = none := (S.ow _ List.mem_cons_self).2.1
      obtain ⟨o, ho, ⟨nf, rfl⟩, S⟩ := S.freeze0
      refine hQ0 _ _ ⟨_, _, _, rfl, S, D, ovs, rfl, ⟨_, zset_same _ _ _, rfl, nf, rfl⟩, ?_⟩
      rw [← hl, List.take_length] at hov
      exact hov.mono fun _ _ h => h.mono (zle_zset hzD)
end
end Mine
end

/-! # C11 -/
section
set_option autoImplicit false
set_option linter.unusedSectionVars false
set_option linter.unusedVariables false
open PySem PySem.W PyProof.Rows
set_option Elab.async false
namespace Mine
section
variable {prog : Program} {w : World} {K : Type} [DecidableEq K] {knd : PySem.KeyKind prog w K} {A : Around} {E : Value → Shared → Prop} {s₀ s : Shared} {z₀ z : Fz} {own : List Ass} {env : Env} {Q : Value → Shared → Prop}
  {g : Heap} {mg mb : Str → Option Value}

theorem dictNewZ {pos : Pos} (knd : PySem.KeyKind prog w K) (G : Gd g mg mb) (hK : Kp g s₀.heap) (S : MSt s₀ z₀ z own s) (h : ∀ D z' s', Zle z z' → MSt s₀ z₀ z' own s' → ZDict knd z' D [] → Q (.ref D) s') :
    wpAny (model prog w) A (eval (.Dict [] [] pos) env) Q E s :=
  dictNew knd G hK S fun D s' hD S' => by
    have hz : z D = none := (S'.ow _ List.mem_cons_self).2.1
    obtain ⟨o, ho, hd, S''⟩ := S'.freeze0
    exact h D _ _ (zle_zset hz) S'' ⟨hD, o, zset_same _ _ _, hd⟩

theorem dict1Z {p : Ass} {k v : Expr} {pos : Pos} (knd : PySem.KeyKind prog w K) (G : Gd g mg mb) (hK : Kp g s₀.heap) (S : MSt s₀ z₀ z (p :: own) s)
    (h : ∀ D s', MSt s₀ z₀ z (p :: (D, DO knd []) :: own) s' → wpAny (model prog w) A (eval k env) (fun kv s₁ => wpAny (model prog w) A (eval v env) (fun vv s₂ =>
      ∃ kk z, knd.is kk kv = true ∧ MSt s₀ z₀ z (p :: (D, DO knd []) :: own) s₂ ∧ ∀ z' s'', Zle z z' → MSt s₀ z₀ z' (p :: own) s'' → ZDict knd z' D [(kk, vv)] → Q (.ref D) s'') E s₁) E s') :
    wpAny (model prog w) A (eval (.Dict [some k] [v] pos) env) Q E s := by
  refine wpAny_Dict_walk (knd := knd) rfl rfl (by simp) (by simp) ?_
  have hD := newObj_ne G hK S
  have S₁ := (S.pushO (φ := DO knd []) { cls := .type "dict", data := .dict #[] } (by
    obtain ⟨o, ho, hd⟩ := Heap.dictOf_iff.mp (Heap.DictOf.new (knd := knd) s.heap)
    rw [Heap.get?_push_size _ rfl] at ho; cases ho; exact hd)).swap
  generalize s.heap.objs.size = D at S₁ hD ⊢
  refine pairTrees_cons_walk (wpAny_mono (h D _ S₁) (fun kv s₁ h₁ => wpAny_mono h₁ (fun vv s₂ h₂ => pairTrees_nil_walk ?_) fun _ _ e => e) fun _ _ e => e)
  obtain ⟨kk, z₂, hkey, S₂, hQ⟩ := h₂
  refine ⟨[(kk, vv)], ⟨hkey, rfl, trivial⟩, dictOf_own S₂.get1, fun h' hm hs => ?_⟩
  have hm : h'.DictOf knd D [(kk, vv)] := by simpa [merged, stored] using hm
  obtain ⟨o, ho, hd⟩ := Heap.dictOf_iff.mp hm
  have S₃ := S₂.upd1 (tk := s₂.toks + [(kv, vv)].length) (φ' := DO knd [(kk, vv)]) hs.extBut ho hd
  have hz : z₂ D = none := (S₃.swap.ow _ List.mem_cons_self).2.1
  obtain ⟨o', ho', hd', S₄⟩ := S₃.swap.freeze0
  exact hQ _ _ (zle_zset hz) S₄ ⟨hD, o', zset_same _ _ _, hd'⟩
end
end Mine
end

/-! # D9 -/
section
set_option autoImplicit false
set_option linter.unusedSectionVars false
set_option linter.unusedVariables false
open PySem PySem.W PyProof.Rows
set_option Elab.async false
set_option maxRecDepth 100000
namespace Mine

theorem look_put {K α : Type} [DecidableEq K] (l : List (K × α)) (k k' : K) (v : α) : look (put l k v) k' = if k' = k then some v else look l k' := by
  unfold put look
  by_cases ha : l.any (fun p => p.1 = k) = true
  · rw [if_pos ha]
    induction l with
    | nil => simp at ha
    | cons x r ih =>
      obtain ⟨a, b⟩ := x
      by_cases hak : a = k
      · subst hak
        by_cases hk : k' = a
        · subst hk; simp
        · have hk2 : ¬ a = k' := fun e => hk e.symm
          simp only [List.map_cons, if_true, List.find?_cons, hk2, decide_false, hk, if_false]
          clear ih ha
          induction r with
          | nil => rfl
          | cons y r ih2 =>
            obtain ⟨c, d⟩ := y
            by_cases hc : c = a
            · subst hc; simp [hk2]; simpa using ih2
            · by_cases hc' : c = k'
              · subst hc'; simp [hc]
              · simp [hc, hc']; simpa using ih2
      · have ha' : r.any (fun p => p.1 = k) = true := by simpa [hak] using ha
        have ih := ih ha'
        by_cases hk : a = k'
        · subst hk; simp [hak]
        · simp only [List.map_cons, hak, if_false, List.find?_cons, hk, decide_false]
          exact ih
  · rw [if_neg ha]
    rw [List.find?_append]
    by_cases hk : k' = k
    · subst hk
      have hn : (l.find? fun p => decide (p.1 = k')) = none := by
        rw [List.find?_eq_none]; intro x hx hxk
        exact ha (List.any_eq_true.mpr ⟨x, hx, hxk⟩)
      rw [hn]; simp
    · have hk2 : ¬ k = k' := fun e => hk e.symm
      simp [hk, hk2]
theorem look_mem {K α : Type} [DecidableEq K] {l : List (K × α)} {k : K} {v : α} (h : look l k = some v) : (k, v) ∈ l := by
  unfold look at h
  cases hf : l.find? fun p => decide (p.1 = k) with
  | none => rw [hf] at h; cases h
  | some p =>
    rw [hf] at h
    have h1 := List.mem_of_find?_eq_some hf
    have h2 : p.1 = k := by simpa using List.find?_some hf
    obtain ⟨a, b⟩ := p
    cases h; subst h2; exact h1
theorem put_mem {K α : Type} [DecidableEq K] {l : List (K × α)} {k : K} {v : α} {p : K × α} (h : p ∈ put l k v) : p ∈ l ∨ p.2 = v := by
  unfold put at h
  split at h
  · obtain ⟨q, hq, rfl⟩ := List.mem_map.mp h
    split
    · exact .inr rfl
    · exact .inl hq
  · rcases List.mem_append.mp h with h | h
    · exact .inl h
    · rcases List.mem_singleton.mp h with rfl; exact .inr rfl

noncomputable def ent0 : Ent := ⟨0, 0, 0, 0, []⟩
noncomputable def stepT (T : List (Str × Ent)) (now b : Int) : List (Str × Ent) := put T (fmode now) (addE ((look T (fmode now)).getD ent0) ⟨1, 1, b, now, [(fmode (now + b), 1)]⟩)
noncomputable def wst (M : Int) (T : List (Str × Ent)) (os : List Int) : Int × List (Str × Ent) := os.foldl (fun p b => (p.1 - b, stepT p.2 (p.1 - b) b)) (M, T)
noncomputable def walkT (M : Int) (oss : List (List Int)) : List (Str × Ent) := oss.foldl (fun T os => (wst M T os).2) []

noncomputable def stp (p : Int × List (Str × Ent)) (b : Int) : Int × List (Str × Ent) := (p.1 - b, stepT p.2 (p.1 - b) b)
theorem wst_eq (M : Int) (T : List (Str × Ent)) (os : List Int) : wst M T os = os.foldl stp (M, T) := rfl
theorem copyC_len (t : List (Str × Int)) : (copyC t).length ≤ t.length := by
  have : ∀ (t n : List (Str × Int)), (t.foldl (fun n p => put n p.1 p.2) n).length ≤ n.length + t.length := by
    intro t
    induction t with
    | nil => intro n; simp
    | cons x r ih => intro n; have := ih (put n x.1 x.2); have := put_length n x.1 x.2; simp only [List.foldl_cons, List.length_cons]; omega
  have := this t []
  simpa [copyC] using this
theorem addC_len (t s : List (Str × Int)) : (addC t s).length ≤ t.length + s.length := by
  have : ∀ (s n : List (Str × Int)), (s.foldl addTo n).length ≤ n.length + s.length := by
    intro s
    induction s with
    | nil => intro n; simp
    | cons x r ih =>
      intro n
      have h1 := ih (addTo n x)
      have h2 : (addTo n x).length ≤ n.length + 1 := put_length _ _ _
      simp only [List.foldl_cons, List.length_cons]; omega
  have h1 := this s (copyC t)
  have h2 := copyC_len t
  unfold addC; omega
noncomputable def calB (T : List (Str × Ent)) (B : Nat) : Prop := ∀ p ∈ T, p.2.cal.length ≤ B
theorem calB_look {T : List (Str × Ent)} {B : Nat} {k : Str} (h : calB T B) : ((look T k).getD ent0).cal.length ≤ B := by
  cases hl : look T k with
  | none => exact Nat.zero_le _
  | some e => exact h _ (look_mem hl)
theorem calB_step {T : List (Str × Ent)} {B : Nat} {now b : Int} (h : calB T B) : calB (stepT T now b) (B + 1) := fun p hp => by
  rcases put_mem hp with hp | hp
  · exact Nat.le_succ_of_le (h p hp)
  · rw [hp]
    have := addC_len ((look T (fmode now)).getD ent0).cal [(fmode (now + b), 1)]
    have := calB_look (k := fmode now) h
    show (addC _ _).length ≤ _
    simp at *; omega

section
variable {prog : Program} {w : World} {g : Heap} {mg mb : Str → Option Value} {z : Fz} {f : Addr}
noncomputable def ShOk (sh : List (Int × Value)) : Prop := ∀ k v, valueAt sh k = some v → ∃ t, v = .str (fmode k) t
theorem ShOk.put {sh : List (Int × Value)} (h : ShOk sh) (k : Int) (t : Tok) : ShOk (stored sh k (.str (fmode k) t)) := fun k' v hv => by
  rw [stored_put, valueAt_look, look_put] at hv
  by_cases hk : k' = k
  · rw [if_pos hk] at hv; cases hv; subst hk; exact ⟨t, rfl⟩
  · rw [if_neg hk] at hv; exact h k' v hv
theorem has_put {sh : List (Int × Value)} {k k' : Int} {v : Value} (h : (valueAt sh k').isSome = true) : (valueAt (stored sh k v) k').isSome = true := by
  rw [stored_put, valueAt_look, look_put]; split
  · rfl
  · exact h
theorem has_put_same (sh : List (Int × Value)) (k : Int) (v : Value) : (valueAt (stored sh k v) k).isSome = true := by
  rw [stored_put, valueAt_look, look_put, if_pos rfl]; rfl

noncomputable def ZTable (prog : Program) (w : World) (z : Fz) (v : Value) (T : List (Str × Ent)) : Prop := ∃ a kvs, v = .ref a ∧ ZDict (PySem.strKind prog w) z a kvs ∧ Rel2 (ZE prog w z) kvs T
theorem ZTable.mono {z z' : Fz} {v : Value} {T : List (Str × Ent)} (h : ZTable prog w z v T) (hz : Zle z z') : ZTable prog w z' v T := let ⟨a, kvs, e, h1, h2⟩ := h; ⟨a, kvs, e, h1.mono hz, h2.mono fun _ _ h => h.mono hz⟩

set_option maxHeartbeats 8000000 in
theorem fn_walked {M : Int} {tM : Tok} {bv tv : Value} {bs : List Int} {n : Nat} (hb : ZLI z bv bs) (hnd : bs.Nodup) (hl : bs.length = n) (hn : n ≤ 4) (G : Gd g mg mb)
    (hmgT : mg (Str.ofString "_filemode_table") = some tv) (hT : TabZ z tv) (hf : FnIn g mg 30 f) :
    Fn prog w g f [.int M tM, bv] 10 z (fun z' r => ZTable prog w z' r (walkT M (ordN n bs))) := by
  obtain ⟨ba, bvs, rfl, hba, hbi⟩ := hb
  refine enter (n := 9) [(Str.ofString "mode", .int M tM), (Str.ofString "bits", .ref ba)] [(Str.ofString "mode", .int M tM), (Str.ofString "bits", .ref ba)] G hf (fun _ _ _ => rfl) (fun L x hx => ?_) (by decide) (fun _ _ _ _ => ⟨rfl, rfl, trivial⟩) ?_
  · rcases List.mem_cons.mp hx with rfl | hx
    · exact .inl rfl
    · rcases List.mem_singleton.mp hx with rfl; exact .inl rfl
  intro A s₀ pm cd doc L s₁ E hr hK S
  refine gen fun Q₀ hQ₀ => ?_
  obtain ⟨fo, hfo⟩ := G.fn 29 (by decide)
  obtain ⟨ff, hff⟩ := G.fn 26 (by decide)
  obtain ⟨fs, hfs⟩ := G.fn 1 (by decide)
  obtain ⟨_, _, _, _, hmgo, _⟩ := id hfo
  obtain ⟨_, _, _, _, hmgf, _⟩ := id hff
  obtain ⟨_, _, _, _, hmgs, _⟩ := id hfs
  refine wpAny_execs_cons <| wpAny_Assign_Name <| dictNew (PySem.intKind prog w) G hK S fun SH s hSH S => storeL S.swap fun s S => ?_
  refine wpAny_execs_cons <| wpAny_Assign_Name <| dictNew (PySem.strKind prog w) G hK S fun TB s hTB S => storeL S.swap fun s S => ?_
  refine wpAny_execs_cons <| wpAny_For <| wpAny_Call_NameR <| nameG G hK S hmgo <| cwF hfo <| wpAny_items_cons <| nameL S rfl <| wpAny_items_nil ⟨hK.trans S.gr.keep, ?_⟩
  refine (fn_orders G hfo n z _ bs ⟨ba, bvs, rfl, hba, hbi⟩ hnd hl hn).use (hr.mono (by omega)) hK S fun r z₁ s hz₁ S hr1 => ?_
  obtain ⟨oa, ovs, rfl, hoa, hor⟩ := hr1
  have hol := ordN_len n bs (by omega) hnd hl hn
  have hovl : ovs.length ≤ 24 := by rw [hor.length]; exact hol.1
  refine listIt S hoa fun I s S => ?_
  have S : MSt s₀ z z₁ ((I, LIt oa 0) :: (L, Loc _) :: (TB, DO (PySem.strKind prog w) []) :: (SH, DO (PySem.intKind prog w) []) :: []) s := S
  refine forIt (It.list hr.1 I oa ovs) (fun i z' own' l => Zle z₁ z' ∧ i ≤ 24 ∧ LSub [(Str.ofString "mode", .int M tM), (Str.ofString "shown", .ref SH), (Str.ofString "table", .ref TB)] l ∧ ∃ kvs sh T, own' = [(TB, DO (PySem.strKind prog w) kvs), (SH, DO (PySem.intKind prog w) sh)] ∧
      T = ((ordN n bs).take i).foldl (fun T os => (wst M T os).2) [] ∧ Rel2 (ZE prog w z') kvs T ∧ calB T (4 * i) ∧ T.length ≤ 4 * i ∧ ShOk sh ∧ sh.length ≤ 8 * i) (fun _ _ _ _ h => hoa.mono h.1) S.swap
    ⟨Zle.refl _, Nat.zero_le _, ⟨rfl, rfl, rfl, trivial⟩, [], [], [], rfl, rfl, .nil, (fun p hp => by cases hp), Nat.le_refl _, (fun k v hv => by cases hv), Nat.le_refl _⟩ ?_ ?_
  · rintro i v z₂ _ l s E hi hv ⟨hz₂, hi24, ⟨hl1, hl2, hl3, -⟩, kvs, sh, T, rfl, hTe, hrel, hcal, hTl, hsh, hshl⟩ S
    refine gen fun Q₁ hQ₁ => ?_
    obtain ⟨os, hos, ob, ows, rfl, hob, hobi⟩ := hor.get hv
    have hosl : os.length ≤ 4 := by rw [ordN_elem n _ os (List.mem_of_getElem? hos)]; exact hn
    refine wpAny_execs_cons <| wpAny_Assign_Name <| nameL S hl1 <| storeL S fun s S => ?_
    refine wpAny_execs_cons <| wpAny_For <| nameL S rfl <| listIt S (hob.mono hz₂) fun I₂ s S => ?_
    refine forIt (It.list hr.1 I₂ ob ows) (fun j z' own' l => Zle z₂ z' ∧ j ≤ 4 ∧ ∃ tn kvs sh, LSub [(Str.ofString "mode", .int M tM), (Str.ofString "shown", .ref SH), (Str.ofString "table", .ref TB), (Str.ofString "now", .int ((os.take j).foldl stp (M, T)).1 tn)] l ∧
        own' = [(I, LIt oa (i + 1)), (TB, DO (PySem.strKind prog w) kvs), (SH, DO (PySem.intKind prog w) sh)] ∧ Rel2 (ZE prog w z') kvs ((os.take j).foldl stp (M, T)).2 ∧ calB ((os.take j).foldl stp (M, T)).2 (4 * i + j) ∧
        ((os.take j).foldl stp (M, T)).2.length ≤ 4 * i + j ∧ ShOk sh ∧ sh.length ≤ 8 * i + 2 * j) (fun _ _ _ _ h => (hob.mono hz₂).mono h.1) S.swap
      ⟨Zle.refl _, Nat.zero_le _, tM, kvs, sh, ⟨hl1, hl2, hl3, rfl, trivial⟩, rfl, hrel, hcal, hTl, hsh, hshl⟩ ?_ ?_
    · rintro j v z₃ _ l s E hj hv ⟨hz₃, hj4, tn, kvs, sh, ⟨hl1, hl2, hl3, hl4, -⟩, rfl, hrel, hcal, hTl, hsh, hshl⟩ S
      refine gen fun Q₂ hQ₂ => ?_
      obtain ⟨b, hb, tb, rfl⟩ := hobi.get hv
      have hj' : j < 4 := by have := (List.getElem?_eq_some_iff.mp hb).1; omega
      have hnext : (os.take (j + 1)).foldl stp (M, T) = stp ((os.take j).foldl stp (M, T)) b := foldl_take _ _ _ hb
      generalize (os.take j).foldl stp (M, T) = p at *
      obtain ⟨now, Tj⟩ := p
      dsimp only at *
      refine wpAny_execs_cons <| wpAny_For <| listZ <| wpAny_items_cons <| nameL S hl4 <| wpAny_items_cons <| wpAny_BinOp <| nameL S hl4 <| nameL S rfl <| subI S fun t₂ s S => wpAny_items_nil ⟨by simp, _, _, _, _, S, fun la z₄ s hz₄ S hla => listIt S hla fun I₃ s S => ?_⟩
      refine forIt (It.list hr.1 I₃ la [.int now tn, .int (now - b) t₂]) (fun k z' own' l => Zle z₄ z' ∧ LSub [(Str.ofString "mode", .int M tM), (Str.ofString "shown", .ref SH), (Str.ofString "table", .ref TB), (Str.ofString "now", .int now tn), (Str.ofString "bit", .int b tb)] l ∧ ∃ sh',
          own' = [(I₂, LIt ob (j + 1)), (I, LIt oa (i + 1)), (TB, DO (PySem.strKind prog w) kvs), (SH, DO (PySem.intKind prog w) sh')] ∧ ShOk sh' ∧ sh'.length ≤ sh.length + k ∧ (1 ≤ k → (valueAt sh' now).isSome = true) ∧ (2 ≤ k → (valueAt sh' (now - b)).isSome = true))
        (fun _ _ _ _ h => hla.mono h.1) S.swap ⟨Zle.refl _, ⟨hl1, hl2, hl3, hl4, rfl, trivial⟩, sh, rfl, hsh, Nat.le_refl _, by omega, by omega⟩ ?_ ?_
      · rintro k v z₅ _ l s E hk hvk ⟨hz₅, ⟨hl1, hl2, hl3, hl4, hl5, -⟩, sh', rfl, hsh', hshl', hh1, hh2⟩ S
        refine gen fun Q₃ hQ₃ => ?_
        have hx : ∃ x tx, v = .int x tx ∧ (k = 0 → x = now) ∧ (k = 1 → x = now - b) := by
          have : k = 0 ∨ k = 1 := by simp at hk; omega
          rcases this with rfl | rfl
          · exact ⟨now, tn, by simpa using hvk.symm, fun _ => rfl, by omega⟩
          · exact ⟨now - b, t₂, by simpa using hvk.symm, by omega, fun _ => rfl⟩
        obtain ⟨x, tx, rfl, hx0, hx1⟩ := hx
        have hk2 : k < 2 := by simpa using hk
        refine wpAny_execs_cons <| wpAny_If <| wpAny_isTrue_Compare1 <| nameL S rfl <| nameL S hl2 <| notInD (PySem.intKind_is prog w x tx) hSH (dictOf_own (kvs := sh') (S.get (by simp))) S fun s S => wpAny_truthy_bool ?_
        cases hhas : (valueAt sh' x).isSome with
        | true =>
          rw [show (!true) = false from rfl, if_neg Bool.false_ne_true]
          refine wpAny_execs_nil <| wpAny_execs_nil <| hQ₃ _ _ ⟨_, _, _, S, hz₅, ⟨hl1, hl2, hl3, hl4, hl5, trivial⟩, sh', rfl, hsh', by omega, ?_, ?_⟩
          · intro h1
            rcases Nat.lt_or_ge 0 k with h0 | h0
            · exact hh1 h0
            · rw [← hx0 (by omega)]; exact hhas
          · intro h2
            rw [← hx1 (by omega)]; exact hhas
        | false =>
          rw [show (!false) = true from rfl, if_pos rfl]
          refine wpAny_execs_cons <| wpAny_Assign_Subscript <| wpAny_Call_NameR <| nameG G hK S hmgf <| cwF hff <| wpAny_items_cons <| nameL S rfl <| wpAny_items_nil ⟨hK.trans S.gr.keep, ?_⟩
          refine (fn_filemode G hmgT (hT.mono (Zle.trans (Zle.trans (Zle.trans hz₁ (Zle.trans hz₂ hz₃)) hz₄) hz₅)) hff).use (hr.mono (by omega)) hK S fun r z₆ s hz₆ S hr6 => ?_
          obtain ⟨t₆, rfl⟩ := hr6
          refine nameL S hl2 <| nameL S rfl <| setD [_, _, _, _, _] [] (PySem.intKind_is prog w x tx) S (by omega) fun s S => wpAny_execs_nil <| wpAny_execs_nil <| hQ₃ _ _ ⟨_, _, _, S, Zle.trans hz₅ hz₆, ⟨hl1, hl2, hl3, hl4, hl5, trivial⟩, _, rfl, hsh'.put x t₆, ?_, ?_, ?_⟩
          · rw [stored_put]; have := put_length sh' x (Value.str (fmode x) t₆); omega
          · intro h1
            rcases Nat.lt_or_ge 0 k with h0 | h0
            · exact has_put (hh1 h0)
            · rw [← hx0 (by omega)]; exact has_put_same _ _ _
          · intro h2
            rw [← hx1 (by omega)]; exact has_put_same _ _ _
      rintro z₅ _ l s E ⟨hz₅, ⟨hl1, hl2, hl3, hl4, hl5, -⟩, sh', rfl, hsh', hshl', hh1, hh2⟩ S
      refine wpAny_execs_nil ?_
      have hh1 := hh1 (by simp)
      have hh2 := hh2 (by simp)
      have hh1 : (valueAt sh' (now - b + b)).isSome = true := by rw [show now - b + b = now by omega]; exact hh1
      obtain ⟨v1, hv1⟩ := Option.isSome_iff_exists.mp hh1
      obtain ⟨v2, hv2⟩ := Option.isSome_iff_exists.mp hh2
      obtain ⟨u1, rfl⟩ := hsh' _ _ hv1
      obtain ⟨u2, rfl⟩ := hsh' _ _ hv2
      have hz₂₅ : Zle z₃ z₅ := Zle.trans hz₄ hz₅
      refine wpAny_execs_cons <| wpAny_AugAssign_Name <| loadL S hl4 <| nameL S hl5 <| isubI S fun t₇ s S => storeL S fun s S => ?_
      refine wpAny_execs_cons <| wpAny_Assign_Name <| getMD (PySem.strKind prog w) hTB <| nameL S hl3 ⟨rfl, ⟨kvs, dictOf_own (kvs := kvs) (S.get (by simp))⟩, ?_⟩
      refine Subscript_ <| nameL S hl2 <| nameL S rfl <| subD (PySem.intKind_is prog w _ t₇) (dictOf_own (kvs := sh') (S.get (by simp))) hv2 S fun s S => ?_
      refine tupleZ <| wpAny_items_cons <| constI S fun c1 s S => wpAny_items_cons <| constI S fun c2 s S => wpAny_items_cons <| constI S fun c3 s S => wpAny_items_cons <| constI S fun c4 s S => wpAny_items_cons <| dictNewZ (PySem.strKind prog w) G hK S fun D₀ z₆ s hz₆ S hD₀ =>
        wpAny_items_nil ⟨by simp, _, _, _, _, S, fun t0 z₇ s hz₇ S ht0 => ?_⟩
      refine ⟨fmode (now - b), kvs, _, _, _, _, PySem.strKind_is prog w _ u2, dictOf_own (kvs := kvs) (S.get (by simp)), S, fun s S => ?_⟩
      have hz₃₇ : Zle z₃ z₇ := (Zle.trans hz₂₅ hz₆).trans hz₇
      have hknown : ZE prog w z₇ ((valueAt kvs (fmode (now - b))).getD (.ref t0)) ((look Tj (fmode (now - b))).getD ent0) := by
        rcases hrel.look (fmode (now - b)) with ⟨h1, h2⟩ | ⟨v', d', h1, h2, hR⟩
        · rw [valueAt_look, h1, h2]
          exact ⟨t0, c1, c2, c3, c4, _, rfl, ht0, D₀, [], rfl, hD₀.mono hz₇, .nil⟩
        · rw [valueAt_look, h1, h2]; exact hR.mono hz₃₇
      generalize (valueAt kvs (fmode (now - b))).getD (.ref t0) = kv at hknown ⊢
      refine storeL S fun s S => ?_
      refine wpAny_execs_cons <| wpAny_Assign_Subscript <| wpAny_Call_NameR <| nameG G hK S hmgs <| cwF hfs <| wpAny_items_cons <| nameL S rfl <| wpAny_items_cons <| tupleZ <| wpAny_items_cons <| constI S fun d1 s S => wpAny_items_cons <| constI S fun d2 s S => wpAny_items_cons <| nameL S hl5 <| wpAny_items_cons <| nameL S rfl <|
        wpAny_items_cons <| dict1Z (PySem.strKind prog w) G hK S fun D₁ s S => ?_
      refine Subscript_ <| nameL S hl2 <| wpAny_BinOp <| nameL S rfl <| nameL S hl5 <| addI S fun _ s S => subD (PySem.intKind_is prog w _ _) (dictOf_own (kvs := sh') (S.get (by simp))) hv1 S fun s S => constI S fun d3 s S =>
        ⟨_, _, PySem.strKind_is prog w _ u1, S, fun z₈ s hz₈ S hD₁ => wpAny_items_nil ⟨by simp, _, _, _, _, S, fun t1 z₉ s hz₉ S ht1 => ?_⟩⟩
      refine wpAny_items_nil ⟨hK.trans S.gr.keep, ?_⟩
      have hz₇₉ : Zle z₇ z₉ := Zle.trans hz₈ hz₉
      have hsrc : ZE prog w z₉ (.ref t1) ⟨1, 1, b, now - b, [(fmode (now - b + b), 1)]⟩ := ⟨t1, d1, d2, tb, t₇, _, rfl, ht1, D₁, _, rfl, hD₁.mono hz₉, .cons ⟨d3, rfl⟩ .nil⟩
      have hcl := calB_look (k := fmode (now - b)) hcal
      refine (fn_stats (hknown.mono hz₇₉) hsrc (by show _ + 1 ≤ _; omega) G hfs).use (hr.mono (by omega)) hK S fun r z₁₀ s hz₁₀ S hr10 => ?_
      refine nameL S hl3 <| Subscript_ <| nameL S hl2 <| nameL S rfl <| subD (PySem.intKind_is prog w _ t₇) (dictOf_own (kvs := sh') (S.get (by simp))) hv2 S fun s S => setD [_, _, _] [_] (PySem.strKind_is prog w _ u2) S (by rw [hrel.length]; omega) fun s S => ?_
      refine wpAny_execs_nil <| hQ₂ _ _ ⟨_, _, _, S, Zle.trans hz₃ ((hz₃₇.trans hz₇₉).trans hz₁₀), hj', t₇, _, sh', ?_, rfl, ?_, ?_, ?_, hsh', by have : ([Value.int now tn, Value.int (now - b) t₂] : List Value).length = 2 := rfl; omega⟩
      · rw [hnext]; exact ⟨hl1, hl2, hl3, rfl, trivial⟩
      · rw [hnext]
        exact (hrel.mono fun _ _ h => h.mono ((hz₃₇.trans hz₇₉).trans hz₁₀)).put hr10
      · rw [hnext]; exact calB_step hcal
      · rw [hnext]; have := put_length Tj (fmode (now - b)) (addE ((look Tj (fmode (now - b))).getD ent0) ⟨1, 1, b, now - b, [(fmode (now - b + b), 1)]⟩)
        exact Nat.le_trans this (by omega)
    · rintro z₃ _ l s E ⟨hz₃, hj4, tn, kvs, sh, ⟨hl1, hl2, hl3, hl4, -⟩, rfl, hrel, hcal, hTl, hsh, hshl⟩ S
      have hi' : i + 1 ≤ 24 := by omega
      rw [hobi.length, List.take_length] at hrel hcal hTl
      rw [hobi.length] at hshl
      refine wpAny_execs_nil <| wpAny_execs_nil <| hQ₁ _ _ ⟨_, _, _, S, hz₂.trans hz₃, hi', ⟨hl1, hl2, hl3, trivial⟩, kvs, sh, _, rfl, rfl, ?_, ?_, ?_, hsh, by omega⟩
      · rw [foldl_take _ _ _ hos, ← hTe]; exact hrel
      · rw [foldl_take _ _ _ hos, ← hTe]; exact fun p hp => Nat.le_trans (hcal p hp) (by omega)
      · rw [foldl_take _ _ _ hos, ← hTe]; exact Nat.le_trans hTl (by omega)
  · rintro z₂ _ l s E ⟨hz₂, hi24, ⟨hl1, hl2, hl3, -⟩, kvs, sh, T, rfl, hTe, hrel, hcal, hTl, hsh, hshl⟩ S
    refine wpAny_execs_nil <| wpAny_execs_cons <| wpAny_Return_some <| nameL S hl3 ?_
    have hzT : z₂ TB = none := (S.swap.ow _ List.mem_cons_self).2.1
    obtain ⟨o, ho, hd, S'⟩ := S.swap.freeze0
    refine hQ₀ _ _ ⟨_, _, _, rfl, S', TB, kvs, rfl, ⟨hTB, o, zset_same _ _ _, hd⟩, ?_⟩
    rw [hor.length, List.take_length] at hTe
    rw [hTe] at hrel
    exact hrel.mono fun _ _ h => h.mono (zle_zset hzT)
end
end Mine
end

/-! # C12 -/
section
set_option autoImplicit false
set_option linter.unusedSectionVars false
set_option linter.unusedVariables false
open PySem PySem.W PyProof.Rows
set_option Elab.async false
namespace Mine
section
variable {prog : Program} {w : World} {A : Around} {E : Value → Shared → Prop} {s₀ s : Shared} {z₀ z : Fz} {own : List Ass} {env : Env} {l : List (Str × Value)}

/-- a loop whose target is a cell -/
theorem forItC {R : Result → Shared → Prop} {I c : Addr} {n : Nat} {φ : Nat → Obj → Prop} {item : Nat → Value → Prop} {need : Fz → Prop} {x : Str} {px : Pos} {body orelse : List Stmt} {l₁ l₂ : List Ass} {cv : Option Value}
    (IT : It prog w A I n φ item need) (hc : env.cells.lookup x = some c) (P : Nat → Fz → List Ass → List (Str × Value) → Prop) (hneed : ∀ i z l₁ l, P i z l₁ l → need z)
    (S : MSt s₀ z₀ z ((env.locals, Loc l) :: (I, φ 0) :: (l₁ ++ (c, CellA cv) :: l₂)) s) (h0 : P 0 z l₁ l)
    (turn : ∀ i v z l₁ l s E, i < n → item i v → P i z l₁ l → MSt s₀ z₀ z ((env.locals, Loc l) :: (I, φ (i + 1)) :: (l₁ ++ (c, CellA (some v)) :: l₂)) s →
      wpAny (model prog w) A (execs body env) (fun f s' => match f with
        | .next | .cont => ∃ z' l₁' l' cv, MSt s₀ z₀ z' ((env.locals, Loc l') :: (I, φ (i + 1)) :: (l₁' ++ (c, CellA cv) :: l₂)) s' ∧ P (i + 1) z' l₁' l'
        | .brk => R (.ok .next) s'
        | .ret v => R (.ok (.ret v)) s') E s)
    (fin : ∀ z l₁ l cv s E, P n z l₁ l → MSt s₀ z₀ z ((env.locals, Loc l) :: (l₁ ++ (c, CellA cv) :: l₂)) s → wpAny (model prog w) A (execs orelse env) (fun f s' => R (.ok f) s') E s)
    (hk : env.scope.kind = .function := by rfl) (hl : env.kindOf x = some .cell := by rfl) :
    codeAny (model prog w) A (.forLoop (.Name x px) (.ref I) body orelse env) R s := by
  refine codeAny_forLoop (fun k s => ∃ i z l₁ l cv, k = n - i ∧ i ≤ n ∧ MSt s₀ z₀ z ((env.locals, Loc l) :: (I, φ i) :: (l₁ ++ (c, CellA cv) :: l₂)) s ∧ P i z l₁ l) ?_ n ⟨0, z, l₁, l, cv, rfl, Nat.zero_le _, S, h0⟩
  rintro k s ⟨i, z, l₁, l, cv, rfl, hi, S, hP⟩
  by_cases hlt : i < n
  · refine IT.next s₀ z₀ z _ _ s _ _ i hlt (hneed _ _ _ _ hP) S fun v s' hv S' => ?_
    refine wpAny_assign_Name (storeC (_ :: _ :: l₁) l₂ S' hc (fun s'' S'' => ?_) hk hl)
    refine wpAny_mono (turn i v z l₁ l s'' _ hlt hv hP S'') (fun f s₃ h₃ => ?_) fun _ _ e => e
    cases f with
    | next => obtain ⟨z', l₁', l', cv', S₃, hP'⟩ := h₃; exact ⟨n - (i + 1), by omega, i + 1, z', l₁', l', cv', rfl, hlt, S₃, hP'⟩
    | cont => obtain ⟨z', l₁', l', cv', S₃, hP'⟩ := h₃; exact ⟨n - (i + 1), by omega, i + 1, z', l₁', l', cv', rfl, hlt, S₃, hP'⟩
    | brk => exact h₃
    | ret v => exact h₃
  · obtain rfl : i = n := by omega
    exact IT.done s₀ z₀ z _ _ s _ _ (hneed _ _ _ _ hP) S fun s' S' => fin z l₁ l cv s' _ hP S'

variable {K : Type} [DecidableEq K] {knd : PySem.KeyKind prog w K}

theorem dictComp_core {kx vx iter : Expr} {x : Str} {px : Pos} {scope : Scope} {cl : List (Str × Addr)} {pos : Pos} {I : Addr} {n : Nat} {φ : Nat → Obj → Prop} {item : Nat → Value → Prop} {need : Fz → Prop}
    {RR : Value → Addr → Result → Shared → Prop} (knd : PySem.KeyKind prog w K)
    (hcell : ∀ y ∈ scope.names, y.2 ≠ .cell) (hkind : scope.kind = .function) (hx : scope.names.lookup x = some .local)
    (IT : It prog w A I n φ item need) (SF : Selfy prog w A I (φ 0)) (S : MSt s₀ z₀ z ((I, φ 0) :: own) s)
    (P : Nat → List (K × Value) → Fz → Prop) (hneed : ∀ i vs z, P i vs z → need z) (hlen : ∀ i vs z, P i vs z → vs.length ≤ 1000000) (h0 : P 0 [] z)
    (turn : ∀ C D i v vs z lc s E, i < n → item i v → P i vs z → MSt s₀ z₀ z ((C, Loc ((x, v) :: lc)) :: (I, φ (i + 1)) :: (D, DO knd vs) :: own) s →
      wpAny (model prog w) A (eval kx (compEnvC scope cl C env)) (fun kv s₁ => wpAny (model prog w) A (eval vx (compEnvC scope cl C env)) (fun vv s₂ => ∃ k z', knd.is k kv = true ∧ vs.length ≤ 1000000 ∧
        MSt s₀ z₀ z' ((C, Loc ((x, v) :: lc)) :: (I, φ (i + 1)) :: (D, DO knd vs) :: own) s₂ ∧ P (i + 1) (stored vs k vv) z') E s₁) E s)
    (fin : ∀ D C vs z' lc s', (D == sysModules) = false → P n vs z' → MSt s₀ z₀ z' ((C, Loc lc) :: (D, DO knd vs) :: own) s' → RR (.ref D) C (.ok .next) s') (hD3 : 3 < s.heap.objs.size) :
    wpAny (model prog w) A newDict (fun acc s₃ => wpAny (model prog w) A (newFunctionEnv scope env.globals cl [] env.qual none .none (some env)) (fun cenv s₄ =>
      codeAny (model prog w) A (.compStart (.DictComp kx vx [⟨.Name x px, iter, [], 0⟩] scope pos) 0 (.ref I) acc { cenv with scope := relabel scope env }) (RR acc cenv.locals) s₄) E s₃) E s := by
  refine wpAny_newObj_type ?_
  have S₁ := S.pushO (φ := DO knd []) { cls := .type "dict", data := .dict #[] } (by
    obtain ⟨o, ho, hd⟩ := Heap.dictOf_iff.mp (Heap.DictOf.new (knd := knd) s.heap)
    rw [Heap.get?_push_size _ rfl] at ho; cases ho; exact hd)
  have hDs := not_mods hD3
  generalize s.heap.objs.size = D at S₁ hDs ⊢
  refine blockEnv hcell hkind S₁ fun C s₂ S₂ => ?_
  have S₃ : MSt s₀ z₀ z ((C, Loc []) :: (I, φ 0) :: (D, DO knd []) :: own) s₂ := S₂.perm ((List.Perm.swap _ _ _).cons _)
  have loop : codeAny (model prog w) A (.compLoop (.DictComp kx vx [⟨.Name x px, iter, [], 0⟩] scope pos) 0 (.ref I) (.ref D) (compEnvC scope cl C env)) (RR (.ref D) C) s₂ := by
    refine codeAny_compLoop_testsD (fun k s' => ∃ i vs z lc, k = n + 1 - i ∧ i ≤ n ∧ MSt s₀ z₀ z ((C, Loc lc) :: (I, φ i) :: (D, DO knd vs) :: own) s' ∧ P i vs z) ?_ (n + 1) ⟨0, [], z, [], rfl, Nat.zero_le _, S₃, h0⟩
    rintro k s ⟨i, vs, z, lc, rfl, hi, S, hP⟩
    by_cases hlt : i < n
    · refine IT.next s₀ z₀ z _ _ s _ _ i hlt (hneed _ _ _ hP) S fun v s' hv S' => ?_
      refine assignL (env := compEnvC scope cl C env) S' (fun s'' S'' => ?_) (by simpa [compEnvC, relabel] using hkind) (lookup_relabel_local hx)
      refine wpAny_tests_nil ?_
      rw [if_pos rfl]
      refine wpAny_mono (turn C D i v vs z lc s'' _ hlt hv hP S'') (fun kv s₃ h₃ => wpAny_mono h₃ (fun vv s₄ h₄ => ?_) fun _ _ e => e) fun _ _ e => e
      obtain ⟨k, z', hkey, hvl, S₄, hP'⟩ := h₄
      refine wpAny_dictSet_pairs hkey (dictOf_own (S₄.get2)) (fun h' hm' hs' => ?_) (by rw [sizeLine_eq]; omega)
      obtain ⟨o, ho, hd⟩ := Heap.dictOf_iff.mp hm'
      exact ⟨n + 1 - (i + 1), by omega, i + 1, _, z', _, rfl, hlt, S₄.upd2 (tk := s₄.toks + 1) hs'.extBut ho hd, hP'⟩
    · obtain rfl : i = n := by omega
      exact IT.done s₀ z₀ z _ _ s _ _ (hneed _ _ _ hP) S fun s' S' => fin D C vs z lc s' hDs hP S'
  exact codeAny_compStart_dict loop (SF _ _ _ S₃.get1 loop)

/-- y = a dict comprehension -/
theorem dictCompA {g : Heap} {mg mb : Str → Option Value} {kx vx iter : Expr} {x y : Str} {px py : Pos} {scope : Scope} {cl : List (Str × Addr)} {pos spos : Pos} {Q : Flow → Shared → Prop} (knd : PySem.KeyKind prog w K) (G : Gd g mg mb)
    (h : wpAny (model prog w) A (eval iter env) (fun xv s₁ => wpAny (model prog w) A (pyIter xv) (fun it s₂ => ∃ (s₀ : Shared) (z₀ z : Fz) (own : List Ass) (l : List (Str × Value)) (I : Addr) (n : Nat) (φ : Nat → Obj → Prop) (item : Nat → Value → Prop) (need : Fz → Prop) (P : Nat → List (K × Value) → Fz → Prop),
      it = .ref I ∧ Kp g s₀.heap ∧ It prog w A I n φ item need ∧ Selfy prog w A I (φ 0) ∧ MSt s₀ z₀ z ((I, φ 0) :: (env.locals, Loc l) :: own) s₂ ∧ (∀ i vs z, P i vs z → need z) ∧ (∀ i vs z, P i vs z → vs.length ≤ 1000000) ∧ P 0 [] z ∧
      (∀ C D i v vs z lc s E, i < n → item i v → P i vs z → MSt s₀ z₀ z ((C, Loc ((x, v) :: lc)) :: (I, φ (i + 1)) :: (D, DO knd vs) :: (env.locals, Loc l) :: own) s →
        wpAny (model prog w) A (eval kx (compEnvC scope cl C env)) (fun kv s₁ => wpAny (model prog w) A (eval vx (compEnvC scope cl C env)) (fun vv s₂ => ∃ k z', knd.is k kv = true ∧ vs.length ≤ 1000000 ∧
          MSt s₀ z₀ z' ((C, Loc ((x, v) :: lc)) :: (I, φ (i + 1)) :: (D, DO knd vs) :: (env.locals, Loc l) :: own) s₂ ∧ P (i + 1) (stored vs k vv) z') E s₁) E s) ∧
      (∀ a vs z' s', (a == sysModules) = false → P n vs z' → MSt s₀ z₀ z' ((env.locals, Loc ((y, .ref a) :: l)) :: (a, DO knd vs) :: own) s' → Q .next s')) E s₁) E s)
    (hsw : swapsWith (.DictComp kx vx [⟨.Name x px, iter, [], 0⟩] scope pos) (some (.Name y py)) spos.line env = pure true := by rfl)
    (hclos : closureFor scope env = pure cl := by rfl) (hcell : ∀ y ∈ scope.names, y.2 ≠ .cell := by decide) (hkind : scope.kind = .function := by rfl)
    (hnames : ∀ y ∈ scope.names, y.2 = .local → scope.names.lookup y.1 = some .local := by decide) (hx : scope.names.lookup x = some .local := by rfl)
    (hk : env.scope.kind = .function := by rfl) (hy : env.kindOf y = some .local := by rfl)
    (hs : ∀ x, foldedSetIterable iter env x = pure x := by intro _; rfl) :
    wpAny (model prog w) A (exec (.Assign [.Name y py] (.DictComp kx vx [⟨.Name x px, iter, [], 0⟩] scope pos) spos) env) Q E s := by
  rw [exec_Assign_Name_used _ _ _ _ hsw]
  refine wpAny_bind (wpAny_standAt (wpAny_bind ?_))
  show wpAny _ A (do let _ ← comprehension (.DictComp kx vx [⟨.Name x px, iter, [], 0⟩] scope pos) scope env _ newDict false (eval iter env) (some (assign (.Name y py) env))) _ _ s
  refine wpAny_bind (wpAny_mono (wpAny_comprehension_free (use := some (assign (.Name y py) env)) (Q := fun _ s' => Q .next s') rfl hs hclos hkind hnames
    (wpAny_mono h (fun xv s₁ h₁ => wpAny_mono h₁ (fun it s₂ h₂ => ?_) fun _ _ e => e) fun _ _ e => e)) (fun _ s' hq => wpAny_pure (wpAny_pure hq)) fun _ _ e => e)
  obtain ⟨s₀, z₀, z, own, l, I, n, φ, item, need, P, rfl, hK, IT, SF, S, hneed, hlen, h0, turn, fin⟩ := h₂
  refine dictComp_core (RR := fun acc C => compPost (model prog w) A E (some (assign (.Name y py) env)) (fun _ s' => Q .next s') acc C) knd hcell hkind hx IT SF S P hneed hlen h0 turn (fun D C vs z' lc s' hDs hP S' => ?_) (size_big G (hK.trans S.gr.keep))
  show wpAny _ A (assign (.Name y py) env (.ref D)) _ _ _
  refine assignL S'.rot3 (fun s'' S'' => ?_) hk hy
  have S₃ := S''.swap
  obtain ⟨m, hm, _⟩ := Loc.ns S₃.get0
  exact ⟨m, hm, fun h' hs' => fin D vs z' _ hDs hP (S₃.drop0 (tk := s''.toks) hs'.extBut)⟩
end
end Mine
end

/-! # D10 -/
section
set_option autoImplicit false
set_option linter.unusedSectionVars false
set_option linter.unusedVariables false
open PySem PySem.W PyProof.Rows
set_option Elab.async false
set_option maxRecDepth 100000
namespace Mine

noncomputable def tst (c : Int) (k : Nat) : Bool := (c.fdiv (2 ^ k)).fmod 2 == 1
noncomputable def goneI (bs : List Int) (c : Int) (i : Nat) : List Int := ((List.range i).filter (tst c)).map fun k => bs.getD k 0
noncomputable def gone (bs : List Int) (c : Int) : List Int := goneI bs c bs.length
noncomputable def eachW (bs : List Int) (c : Int) : Int := fct ((gone bs c).length - 1) * fct (bs.length - (gone bs c).length)
noncomputable def calD (now : Int) (each : Int) (gs : List Int) : List (Str × Int) := gs.foldl (fun n b => put n (ten (now + b)) each) []
noncomputable def dueE (M : Int) (bs : List Int) (c : Int) : Ent :=
  ⟨eachW bs c * (gone bs c).length, eachW bs c * (gone bs c).length, eachW bs c * (gone bs c).sum, eachW bs c * (gone bs c).length * (M - (gone bs c).sum), calD (M - (gone bs c).sum) (eachW bs c) (gone bs c)⟩
noncomputable def dueI (M : Int) (bs : List Int) (k : Nat) : List (Str × Ent) := (List.range k).foldl (fun T (i : Nat) => put T (ten (M - (gone bs (1 + (i : Int))).sum)) (dueE M bs (1 + (i : Int)))) []
noncomputable def dueT (M : Int) (bs : List Int) : List (Str × Ent) := dueI M bs (2 ^ bs.length - 1)

theorem goneI_succ_t {bs : List Int} {c : Int} {i : Nat} (h : tst c i = true) : goneI bs c (i + 1) = goneI bs c i ++ [bs.getD i 0] := by
  unfold goneI; rw [List.range_succ, List.filter_append]; simp [h]
theorem goneI_succ_f {bs : List Int} {c : Int} {i : Nat} (h : tst c i = false) : goneI bs c (i + 1) = goneI bs c i := by
  unfold goneI; rw [List.range_succ, List.filter_append]; simp [h]
theorem goneI_len (bs : List Int) (c : Int) (i : Nat) : (goneI bs c i).length ≤ i := by
  unfold goneI; rw [List.length_map]; exact Nat.le_trans (List.length_filter_le _ _) (by simp)
theorem gone_pos {bs : List Int} {i : Nat} (hn : bs.length ≤ 4) (hi : i < 2 ^ bs.length - 1) : 1 ≤ (gone bs (1 + (i : Int))).length := by
  unfold gone goneI; rw [List.length_map]
  generalize bs.length = n at *
  have key : ∀ n : Fin 5, ∀ i : Fin 15, i.val < 2 ^ n.val - 1 → 1 ≤ ((List.range n.val).filter (tst (1 + ((i.val : Nat) : Int)))).length := by decide
  have h15 : i < 15 := Nat.lt_of_lt_of_le hi (by
    have : ∀ n : Fin 5, 2 ^ n.val - 1 ≤ 15 := by decide
    exact this ⟨n, by omega⟩)
  exact key ⟨n, by omega⟩ ⟨i, h15⟩ hi
theorem fct_bd {k : Nat} (h : k ≤ 4) : 0 ≤ fct k ∧ fct k ≤ 24 := by
  have key : ∀ k : Fin 5, 0 ≤ fct k.val ∧ fct k.val ≤ 24 := by decide
  exact key ⟨k, by omega⟩
theorem gone_bd {bs : List Int} {c B : Int} (hB : 0 ≤ B) (h : ∀ b ∈ bs, 0 ≤ b ∧ b ≤ B) (i : Nat) : ∀ b ∈ goneI bs c i, 0 ≤ b ∧ b ≤ B := fun b hb => by
  unfold goneI at hb
  obtain ⟨k, hk, rfl⟩ := List.mem_map.mp hb
  by_cases hl : k < bs.length
  · have : bs.getD k 0 = bs[k] := by simp [List.getD, hl]
    rw [this]; exact h _ (List.getElem_mem _)
  · have : bs.getD k 0 = 0 := by simp [List.getD, hl]
    rw [this]; exact ⟨Int.le_refl _, hB⟩
theorem each_bd {bs : List Int} {c : Int} (hn : bs.length ≤ 4) : 0 ≤ eachW bs c ∧ eachW bs c ≤ 576 := by
  have hg := goneI_len bs c bs.length
  have h1 := fct_bd (k := (gone bs c).length - 1) (by unfold gone; omega)
  have h2 := fct_bd (k := bs.length - (gone bs c).length) (by omega)
  unfold eachW
  refine ⟨Int.mul_nonneg h1.1 h2.1, ?_⟩
  exact Int.le_trans (Int.mul_le_mul h1.2 h2.2 h2.1 (by decide)) (by decide)

section
variable {prog : Program} {w : World} {g : Heap} {mg mb : Str → Option Value} {z : Fz} {f : Addr}

set_option maxHeartbeats 8000000 in
theorem fn_due {M : Int} {tM : Tok} {bv : Value} {bs : List Int} (hb : ZLI z bv bs) (hn : bs.length ≤ 4) (hB : ∀ b ∈ bs, 0 ≤ b ∧ b ≤ 1000000) (G : Gd g mg mb) (hf : FnIn g mg 33 f) :
    Fn prog w g f [.int M tM, bv] 2 z (fun z' r => ZTable prog w z' r (dueT M bs)) := by
  obtain ⟨ba, bvs, rfl, hba, hbi⟩ := hb
  refine enter (n := 1) [(Str.ofString "mode", .int M tM), (Str.ofString "bits", .ref ba)] [(Str.ofString "mode", .int M tM)] G hf (fun _ _ _ => rfl) (fun L x hx => ?_) (by decide) (fun _ _ _ _ => ⟨rfl, trivial⟩) ?_
  · rcases List.mem_cons.mp hx with rfl | hx
    · exact .inl rfl
    · rcases List.mem_singleton.mp hx with rfl; exact .inr ⟨rfl, rfl⟩
  intro A s₀ pm cd doc L s₁ E hr hK S
  refine gen fun Q0 hQ0 => ?_
  have S : MSt s₀ z z [(L, Loc [(Str.ofString "mode", .int M tM)]), (L + 4, CellA none), (L + 3, CellA none), (L + 2, CellA none), (L + 1, CellA (some (.ref ba)))] s₁ := S
  obtain ⟨fw, hfw⟩ := G.fn 32 (by decide)
  obtain ⟨ft, hft⟩ := G.fn 31 (by decide)
  obtain ⟨_, _, _, _, hmgw, _⟩ := id hfw
  obtain ⟨_, _, _, _, hmgt, _⟩ := id hft
  have hbl : bvs.length = bs.length := hbi.length
  have hP : (1 : Int) ≤ 2 ^ ((bvs.length : Int)).toNat ∧ (2 : Int) ^ ((bvs.length : Int)).toNat ≤ 16 ∧ ((2 : Int) ^ ((bvs.length : Int)).toNat - 1).toNat = 2 ^ bs.length - 1 := by
    rw [hbl]
    generalize bs.length = n at *
    have key : ∀ n : Fin 5, (1 : Int) ≤ 2 ^ ((n.val : Nat) : Int).toNat ∧ (2 : Int) ^ ((n.val : Nat) : Int).toNat ≤ 16 ∧ ((2 : Int) ^ ((n.val : Nat) : Int).toNat - 1).toNat = 2 ^ n.val - 1 := by decide
    exact key ⟨n, by omega⟩
  refine wpAny_execs_cons <| wpAny_Assign_Name <| dictNew (PySem.strKind prog w) G hK S fun DU s hDU S => storeL S.swap fun s S => ?_
  refine wpAny_execs_cons <| wpAny_For <| wpAny_Call_NameR <| nameB G hK S (G.free _ (by decide)) rfl <| cwT <| wpAny_items_cons <| constI S fun _ s S => wpAny_items_cons <| wpAny_BinOp <| constI S fun _ s S =>
    wpAny_Call_NameR <| nameB G hK S (G.free _ (by decide)) rfl <| cwB <| wpAny_items_cons <| nameC S rfl (.tail _ (.tail _ (.tail _ (.tail _ (.tail _ (.head _)))))) <| wpAny_items_nil <| lenL S (hba.at S.gr.frz) (by omega) fun _ s S => pow2I S (by omega) (by omega) fun _ s S =>
    wpAny_items_nil <| rangeIt2 S (by omega) (by omega) (by omega) (by omega) fun I s S => ?_
  refine forItC (x := Str.ofString "choice") (c := L + 2) (l₁ := [(DU, DO (PySem.strKind prog w) []), (L + 4, CellA none), (L + 3, CellA none)]) (l₂ := [(L + 1, CellA (some (.ref ba)))]) (It.range hr.1 I 1 ((2 : Int) ^ ((bvs.length : Int)).toNat - 1).toNat) rfl
    (fun i z' l₁ l => Zle z z' ∧ i ≤ 2 ^ bs.length - 1 ∧ LSub [(Str.ofString "mode", .int M tM), (Str.ofString "due", .ref DU)] l ∧ ∃ kvs c4 c3, l₁ = [(DU, DO (PySem.strKind prog w) kvs), (L + 4, CellA c4), (L + 3, CellA c3)] ∧ Rel2 (ZE prog w z') kvs (dueI M bs i) ∧ kvs.length ≤ i)
    (fun _ _ _ _ _ => trivial) S.swap ⟨Zle.refl _, Nat.zero_le _, ⟨rfl, rfl, trivial⟩, [], none, none, rfl, .nil, Nat.le_refl _⟩ ?_ ?_
  · rintro i v z₁ _ l s E hi ⟨tk, rfl⟩ ⟨hz₁, hi0, ⟨hl1, hl2, -⟩, kvs, c4, c3, rfl, hrel, hkl⟩ S
    rw [hP.2.2] at hi
    refine gen fun Q1 hQ1 => ?_
    have hi15 : i < 15 := by omega
    have hgp := gone_pos hn hi
    have hgl := goneI_len bs (1 + (i : Int)) bs.length
    have hgb := gone_bd (c := 1 + (i : Int)) (by decide) hB bs.length
    have hgs := sum_bound hgb
    have heb := each_bd (c := 1 + (i : Int)) hn
    -- gone
    refine wpAny_execs_cons <| listCompA (?_ : wpAny _ _ _ _ _ _)
    refine wpAny_Call_NameR <| nameB G hK S (G.free _ (by decide)) rfl <| cwT <| wpAny_items_cons <| wpAny_Call_NameR <| nameB G hK S (G.free _ (by decide)) rfl <| cwB <| wpAny_items_cons <| nameC S rfl (.tail _ (.tail _ (.tail _ (.tail _ (.tail _ (.tail _ (.head _))))))) <| wpAny_items_nil <|
      lenL S ((hba.mono hz₁).at S.gr.frz) (by omega) fun _ s S => wpAny_items_nil <| rangeIt1 S (by omega) (by omega) fun I₂ s S => ?_
    refine ⟨_, _, _, _, _, I₂, _, _, _, _, fun j vs z' => Zle z₁ z' ∧ j ≤ bs.length ∧ All2 IntR vs (goneI bs (1 + (i : Int)) j), rfl, It.range hr.1 I₂ 0 ((bvs.length : Int)).toNat, Selfy.range I₂ _ _, S, fun _ _ _ _ => trivial, ?_, ⟨Zle.refl _, Nat.zero_le _, .nil⟩, ?_, ?_⟩
    · rintro j vs z' ⟨_, hj, h⟩
      have h1 := h.length
      have h2 := goneI_len bs (1 + (i : Int)) j
      omega
    · rintro C D j vv vs z₂ lc s E hj ⟨tj, rfl⟩ ⟨hz₂, hjl, hvs⟩ S
      refine gen fun Q2 hQ2 => ?_
      have hj' : j < bs.length := by omega
      obtain ⟨bv, hbv, tb, rfl⟩ := hbi.getB (i := j) (b := bs[j]) (by simp [hj'])
      have key : ∀ j : Fin 5, ((2 : Int) ^ ((0 : Int) + ((j.val : Nat) : Int)).toNat) ≠ 0 ∧ ((2 : Int) ^ ((0 : Int) + ((j.val : Nat) : Int)).toNat).natAbs < 1073741824 := by decide
      have hd := key ⟨j, by omega⟩
      have hpow : (2 : Int) ^ ((0 : Int) + (j : Int)).toNat = 2 ^ j := by simp
      refine wpAny_isTrue_Compare1 <| wpAny_BinOp <| wpAny_BinOp <| nameC S rfl (.tail _ (.tail _ (.tail _ (.tail _ (.tail _ (.tail _ (.tail _ (.tail _ (.head _))))))))) <| wpAny_BinOp <| constI S fun _ s S => nameL S rfl <| pow2I S (by omega) (by omega) fun _ s S => divI S hd.1 hd.2 fun _ s S =>
        constI S fun _ s S => modI S (by decide) fun _ s S => constI S fun _ s S => PyProof.Rows.eq_int <| wpAny_truthy_bool <| hQ2 _ _ ?_
      rw [hpow]
      cases ht : (((1 + (i : Int)).fdiv (2 ^ j)).fmod 2 == 1) with
      | true =>
        rw [if_pos rfl]
        refine Subscript_ <| nameC S rfl (.tail _ (.tail _ (.tail _ (.tail _ (.tail _ (.tail _ (.tail _ (.tail _ (.tail _ (.head _)))))))))) <| nameL S rfl <| listItem (((hba.mono hz₁).mono hz₂).at S.gr.frz) (by omega) (by omega) (by rw [show ((0 : Int) + (j : Int)).toNat = j by omega]; exact hbv) ⟨_, S, hz₂, hj', ?_⟩
        rw [goneI_succ_t ht]
        exact hvs.snoc ⟨tb, by simp [List.getD, hj']⟩
      | false =>
        rw [if_neg Bool.false_ne_true]
        refine ⟨_, S, hz₂, hj', ?_⟩
        rw [goneI_succ_f ht]; exact hvs
    rintro ga gvs z₂ s ⟨hz₂, _, hgv⟩ S
    rw [show ((bvs.length : Int)).toNat = bs.length by omega] at hgv
    have hgvl : gvs.length = (gone bs (1 + (i : Int))).length := hgv.length
    have hzg : z₂ ga = none := (S.swap.ow _ List.mem_cons_self).2.1
    obtain ⟨o, ho, hPL, S⟩ := S.swap.freeze0
    have hga : ZL (zset z₂ ga o) ga gvs := by
      obtain ⟨ng, rfl⟩ := hPL
      exact ⟨_, zset_same _ _ _, rfl, ng, rfl⟩
    have hz₃ : Zle z₁ (zset z₂ ga o) := hz₂.trans (zle_zset hzg)
    generalize zset z₂ ga o = z₃ at S hga hz₃
    clear hz₂ hzg ho
    have hgs4 : (gone bs (1 + (i : Int))).length ≤ 4 := by unfold gone; omega
    have hgn : (gone bs (1 + (i : Int))).length ≤ bs.length := hgl
    have ef1 : (((gvs.length : Int)) - 1).toNat = (gone bs (1 + (i : Int))).length - 1 := by omega
    have ef2 : ((bvs.length : Int) - (gvs.length : Int)).toNat = bs.length - (gone bs (1 + (i : Int))).length := by omega
    -- each
    refine wpAny_execs_cons <| wpAny_Assign_Name <| wpAny_BinOp <| wpAny_Call_NameR <| nameG G hK S hmgw <| cwF hfw <| wpAny_items_cons <| wpAny_BinOp <| wpAny_Call_NameR <| nameB G hK S (G.free _ (by decide)) rfl <| cwB <| wpAny_items_cons <| nameL S rfl <| wpAny_items_nil <|
      lenL S (hga.at S.gr.frz) (by omega) fun _ s S => constI S fun _ s S => subI S fun _ s S => wpAny_items_nil ⟨hK.trans S.gr.keep, ?_⟩
    refine (fn_ways (by omega) (by omega) G hfw).use (hr.mono (by omega)) hK S fun r z₄ s hz₄ S hr4 => ?_
    obtain ⟨t₄, rfl⟩ := hr4
    refine wpAny_Call_NameR <| nameG G hK S hmgw <| cwF hfw <| wpAny_items_cons <| wpAny_BinOp <| wpAny_Call_NameR <| nameB G hK S (G.free _ (by decide)) rfl <| cwB <| wpAny_items_cons <| nameC S rfl (.tail _ (.tail _ (.tail _ (.tail _ (.tail _ (.tail _ (.head _))))))) <| wpAny_items_nil <|
      lenL S (((hba.mono hz₁).mono (hz₃.trans hz₄)).at S.gr.frz) (by omega) fun _ s S => wpAny_Call_NameR <| nameB G hK S (G.free _ (by decide)) rfl <| cwB <| wpAny_items_cons <| nameL S rfl <| wpAny_items_nil <|
      lenL S ((hga.mono hz₄).at S.gr.frz) (by omega) fun _ s S => subI S fun _ s S => wpAny_items_nil ⟨hK.trans S.gr.keep, ?_⟩
    refine (fn_ways (by omega) (by omega) G hfw).use (hr.mono (by omega)) hK S fun r z₅ s hz₅ S hr5 => ?_
    obtain ⟨t₅, rfl⟩ := hr5
    have f2 := fct_bd (k := bs.length - (gone bs (1 + (i : Int))).length) (by omega)
    rw [ef1, ef2]
    refine mulI S (.of_right (intBits_le_64 (by omega) (by omega))) fun t₆ s S => storeC [_, _, _, _] [_, _] S rfl fun s S => ?_
    have S : MSt s₀ z z₅ [(L, Loc _), (I, _), (DU, DO (PySem.strKind prog w) kvs), (L + 4, CellA c4), (L + 3, CellA (some (.int (eachW bs (1 + (i : Int))) t₆))), (L + 2, _), (L + 1, _)] s := S
    have hga := hga.mono (Zle.trans hz₄ hz₅)
    have hz₅ : Zle z₁ z₅ := Zle.trans hz₃ (Zle.trans hz₄ hz₅)
    clear hz₄ hz₃
    -- now
    refine wpAny_execs_cons <| wpAny_Assign_Name <| wpAny_BinOp <| nameL S hl1 <| wpAny_Call_NameR <| nameB G hK S (G.free _ (by decide)) rfl <| cwB <| wpAny_items_cons <| nameL S rfl <| wpAny_items_nil <| sumL hr.1 S (hga.at S.gr.frz) hgv hgb (by omega) fun _ s S => subI S fun t₇ s S =>
      storeC [_, _, _] [_, _, _] S rfl fun s S => ?_
    have S : MSt s₀ z z₅ [(L, Loc _), (I, _), (DU, DO (PySem.strKind prog w) kvs), (L + 4, CellA (some (.int (M - (gone bs (1 + (i : Int))).sum) t₇))), (L + 3, CellA (some (.int (eachW bs (1 + (i : Int))) t₆))), (L + 2, _), (L + 1, _)] s := S
    -- calls
    refine wpAny_execs_cons <| wpAny_Assign_Name <| wpAny_BinOp <| nameC S rfl (.tail _ (.tail _ (.tail _ (.tail _ (.head _))))) <| wpAny_Call_NameR <| nameB G hK S (G.free _ (by decide)) rfl <| cwB <| wpAny_items_cons <| nameL S rfl <| wpAny_items_nil <|
      lenL S (hga.at S.gr.frz) (by omega) fun _ s S => mulI S (.of_right (intBits_le_64 (by omega) (by omega))) fun t₈ s S => storeL S fun s S => ?_
    rw [hgvl] at S
    -- callers
    refine wpAny_execs_cons <| dictCompA (PySem.strKind prog w) G (?_ : wpAny _ _ _ _ _ _)
    refine nameL S rfl <| listIt S hga fun I₃ s S => ⟨_, _, _, _, _, I₃, _, _, _, _, fun j vs z' => Zle z₅ z' ∧ j ≤ (gone bs (1 + (i : Int))).length ∧ vs.length ≤ j ∧ Rel2 IntR vs (calD (M - (gone bs (1 + (i : Int))).sum) (eachW bs (1 + (i : Int))) ((gone bs (1 + (i : Int))).take j)), rfl, hK, It.list hr.1 I₃ ga gvs, Selfy.list I₃ ga 0, S,
      fun _ _ _ h => hga.mono h.1, fun j vs z' h => by omega, ⟨Zle.refl _, Nat.zero_le _, Nat.le_refl _, .nil⟩, ?_, ?_⟩
    · rintro C D j vv vs z₆ lc s E hj hvj ⟨hz₆, hj1, hvl, hvs⟩ S
      refine gen fun Q3 hQ3 => ?_
      obtain ⟨b, hb, tb, rfl⟩ := hgv.get hvj
      have hjl : j < (gone bs (1 + (i : Int))).length := by omega
      refine wpAny_Call_NameR <| nameG G hK S hmgt <| cwF hft <| wpAny_items_cons <| wpAny_BinOp <| nameC S rfl (.tail _ (.tail _ (.tail _ (.tail _ (.tail _ (.tail _ (.head _))))))) <| nameL S rfl <| addI S fun _ s S => wpAny_items_nil ⟨hK.trans S.gr.keep, ?_⟩
      refine (fn_ten G hft).use (hr.mono (by omega)) hK S fun r z₇ s hz₇ S hr7 => ?_
      obtain ⟨t₉, rfl⟩ := hr7
      refine hQ3 _ _ <| nameC S rfl (.tail _ (.tail _ (.tail _ (.tail _ (.tail _ (.tail _ (.tail _ (.head _)))))))) ⟨_, _, PySem.strKind_is prog w _ t₉, by omega, S, hz₆.trans hz₇, hjl, ?_, ?_⟩
      · rw [stored_put]; exact Nat.le_trans (put_length _ _ _) (by omega)
      · rw [stored_put]
        have e : calD (M - (gone bs (1 + (i : Int))).sum) (eachW bs (1 + (i : Int))) ((gone bs (1 + (i : Int))).take (j + 1)) = put (calD (M - (gone bs (1 + (i : Int))).sum) (eachW bs (1 + (i : Int))) ((gone bs (1 + (i : Int))).take j)) (ten (M - (gone bs (1 + (i : Int))).sum + b)) (eachW bs (1 + (i : Int))) := foldl_take _ _ _ hb
        rw [e]
        exact hvs.put ⟨t₆, rfl⟩
    rintro ca cvs z₆ s hca ⟨hz₆, _, hcl, hcr⟩ S
    rw [hgvl, List.take_length] at hcr
    have hzc : z₆ ca = none := (S.swap.ow _ List.mem_cons_self).2.1
    obtain ⟨o, ho, hcd, S⟩ := S.swap.freeze0
    have hCZ : ZDict (PySem.strKind prog w) (zset z₆ ca o) ca cvs := ⟨hca, o, zset_same _ _ _, hcd⟩
    have hz₇ : Zle z₅ (zset z₆ ca o) := hz₆.trans (zle_zset hzc)
    generalize zset z₆ ca o = z₇ at S hCZ hz₇
    clear hz₆ hzc ho hcd
    have hcalls : 0 ≤ eachW bs (1 + (i : Int)) * ((gone bs (1 + (i : Int))).length : Int) ∧ eachW bs (1 + (i : Int)) * ((gone bs (1 + (i : Int))).length : Int) ≤ 576 * 4 :=
      ⟨Int.mul_nonneg heb.1 (by omega), Int.mul_le_mul heb.2 (by omega) (by omega) (by decide)⟩
    -- due[...] = (...)
    refine wpAny_execs_cons <| wpAny_Assign_Subscript <| tupleZ <| wpAny_items_cons <| nameL S rfl <| wpAny_items_cons <| nameL S rfl <| wpAny_items_cons <| wpAny_BinOp <| nameC S rfl (.tail _ (.tail _ (.tail _ (.tail _ (.head _))))) <|
      wpAny_Call_NameR <| nameB G hK S (G.free _ (by decide)) rfl <| cwB <| wpAny_items_cons <| nameL S rfl <| wpAny_items_nil <| sumL hr.1 S ((hga.mono hz₇).at S.gr.frz) hgv hgb (by omega) fun _ s S => mulI S (.of_left (intBits_le_64 (by omega) (by omega))) fun u₁ s S => ?_
    refine wpAny_items_cons <| wpAny_BinOp <| nameL S rfl <| nameC S rfl (.tail _ (.tail _ (.tail _ (.head _)))) <| mulI S (.of_left (intBits_le_64 (by omega) (by omega))) fun u₂ s S => wpAny_items_cons <| nameL S rfl <| wpAny_items_nil ⟨by simp, _, _, _, _, S, fun ta z₈ s hz₈ S hta => ?_⟩
    refine nameL S hl2 <| wpAny_Call_NameR <| nameG G hK S hmgt <| cwF hft <| wpAny_items_cons <| nameC S rfl (.tail _ (.tail _ (.tail _ (.head _)))) <| wpAny_items_nil ⟨hK.trans S.gr.keep, ?_⟩
    refine (fn_ten G hft).use (hr.mono (by omega)) hK S fun r z₉ s hz₉ S hr9 => ?_
    obtain ⟨u₃, rfl⟩ := hr9
    refine setD [_, _] [_, _, _, _] (PySem.strKind_is prog w _ u₃) S (by omega) fun s S => wpAny_execs_nil <| hQ1 _ _ ⟨_, [_, _, _], _, _, S, hz₁.trans (hz₅.trans (hz₇.trans (hz₈.trans hz₉))), hi, ⟨hl1, hl2, trivial⟩, _, _, _, rfl, ?_, ?_⟩
    · rw [stored_put]
      have e : dueI M bs (i + 1) = put (dueI M bs i) (ten (M - (gone bs (1 + (i : Int))).sum)) (dueE M bs (1 + (i : Int))) := by
        unfold dueI; rw [List.range_succ, List.foldl_append]; rfl
      rw [e]
      exact (hrel.mono fun _ _ h => h.mono (hz₅.trans (hz₇.trans (hz₈.trans hz₉)))).put ⟨ta, t₈, t₈, u₁, u₂, _, rfl, hta.mono hz₉, ca, cvs, rfl, hCZ.mono (hz₈.trans hz₉), hcr⟩
    · rw [stored_put]; exact Nat.le_trans (put_length _ _ _) (by omega)
  · rintro z₁ _ l cv s E ⟨hz₁, hi0, ⟨hl1, hl2, -⟩, kvs, c4, c3, rfl, hrel, hkl⟩ S
    refine wpAny_execs_nil <| wpAny_execs_cons <| wpAny_Return_some <| nameL S hl2 ?_
    have S : MSt s₀ z z₁ [(L, Loc l), (DU, DO (PySem.strKind prog w) kvs), (L + 4, CellA c4), (L + 3, CellA c3), (L + 2, CellA cv), (L + 1, _)] s := S
    have hzT : z₁ DU = none := (S.swap.ow _ List.mem_cons_self).2.1
    obtain ⟨o, ho, hd, S'⟩ := S.swap.freeze0
    refine hQ0 _ _ ⟨_, _, _, rfl, S', DU, kvs, rfl, ⟨hDU, o, zset_same _ _ _, hd⟩, ?_⟩
    rw [hP.2.2] at hrel
    exact hrel.mono fun _ _ h => h.mono (zle_zset hzT)
end
end Mine
end

/-! # C13 -/
section
set_option autoImplicit false
set_option linter.unusedSectionVars false
set_option linter.unusedVariables false
open PySem PySem.W PyProof.Rows
set_option Elab.async false
set_option maxRecDepth 100000
namespace Mine
section
variable {prog : Program} {w : World} {A : Around} {s : Shared} {E : Value → Shared → Prop}
/-- two values are equal, in this world -/
noncomputable def EqW (prog : Program) (w : World) (A : Around) (s : Shared) (x y : Value) : Prop := ∀ (E : Value → Shared → Prop) (Q : Bool → Shared → Prop), Q true s → wpAny (model prog w) A (eqBool x y) Q E s
theorem EqW.int (a : Int) (t u : Tok) : EqW prog w A s (.int a t) (.int a u) := fun E Q h => SeqAt.EqAt.int_int a t a u prog w E Q (by rw [beq_self_eq_true]; exact h)
theorem EqW.refs {a b : Addr} (h : ∀ (E : Value → Shared → Prop) (Q : Value → Shared → Prop), Q (.bool true) s → wpAny (model prog w) A (richCompare .Eq (.ref a) (.ref b)) Q E s) : EqW prog w A s (.ref a) (.ref b) := fun E Q hq => by
  by_cases hab : a = b
  · subst hab; exact SeqAt.EqAt.same _ prog w E Q hq
  · unfold eqBool
    refine wpAny_holding (wpAny_ite_split (fun h => absurd (by have := eq_of_beq h; injection this) hab) fun _ => ?_)
    exact wpAny_bind (h E _ (wpAny_truthy_bool hq))

theorem tupEqW {a b : Addr} {xs ys : Array Value} {Q : Value → Shared → Prop} (ha : s.heap.IsTuple a xs) (hb : s.heap.IsTuple b ys) (hsz : xs.size = ys.size) (hu : A.units < cLine)
    (he : ∀ p ∈ xs.toList.zip ys.toList, EqW prog w A.in1 s p.1 p.2) (h : Q (.bool true) s) : wpAny (model prog w) A (richCompare .Eq (.ref a) (.ref b)) Q E s := by
  obtain ⟨⟨cls, dd, data, sl⟩, ho, hc, n, hd⟩ := id ha
  obtain ⟨⟨cls2, dd2, data2, sl2⟩, ho2, hc2, n2, hd2⟩ := id hb
  simp only at hc hd hc2 hd2
  subst hc hd hc2 hd2
  refine wpAny_richCompare_same_room (op := .Eq) ha.typeIs hb.typeIs F.slot_tuple_eq (wpAny_call_entry F.slot_tuple_eq ha.typeIs F.entry_tuple_eq ?_ (F.args_tuple_eq_2 _ _)) hu
  obtain ⟨hp, g, d, tk, os⟩ := s
  have f2 := AutoSeq1.sub_tuple_tuple
  wp_walk using AutoSeq1.wpAny_loadPart' ho, AutoSeq1.wpAny_loadPart' ho2, wpAny_forIn_list _ (fun rest b s' => b.1 = none ∧ s' = ⟨hp, g, d, tk, os⟩ ∧ ∀ p ∈ rest, p ∈ xs.toList.zip ys.toList) _
  case turn =>
    rintro ⟨y, x⟩ rest b s' ⟨hb', rfl, hz⟩
    refine wpAny_bind (he (y, x) (hz _ List.mem_cons_self) _ _ ?_)
    wp_walk
    exact ⟨rfl, rfl, fun p hp => hz p (List.mem_cons_of_mem _ hp)⟩
  case fin =>
    rintro ⟨b1, b2⟩ s' ⟨hb', rfl, hz⟩
    simp only at hb'
    subst hb'
    wp_walk
    exact ⟨_, rfl, (fun x => nomatch x), by simpa [Builtin.Tuple.tupleCompareSizes, hsz] using h⟩
  case h => exact ⟨rfl, rfl, fun p hp => hp⟩

variable {K : Type} [DecidableEq K] {knd : PySem.KeyKind prog w K}
theorem dictEqW {a b : Addr} {ka kb : List (K × Value)} {Q : Value → Shared → Prop} (hA : (a == sysModules) = false) (hB : (b == sysModules) = false) (da : s.heap.DictOf knd a ka) (db : s.heap.DictOf knd b kb) (hu : A.units < cLine)
    (hl : ka.length = kb.length) (he : ∀ k v, (k, v) ∈ ka → ∃ y, valueAt kb k = some y ∧ EqW prog w A.in1 s v y) (h : Q (.bool true) s) : wpAny (model prog w) A (richCompare .Eq (.ref a) (.ref b)) Q E s := by
  refine wpAny_richCompare_same_room (op := .Eq) da.typeIs db.typeIs F.slot_dict_eq (wpAny_call_entry F.slot_dict_eq da.typeIs F.entry_dict_eq ?_ (F.args_dict_eq_2 _ _)) hu
  refine wpAny_bind ?_
  unfold Builtin.Dict.dictSlotArgs
  refine wpAny_bind (wpAny_notOrdered_dict da.typeIs (wpAny_pure (wpAny_bind (wpAny_isInstance (T := "dict") db.typeIs F.sub_dict_dict ?_))))
  simp only [Bool.not_true, Bool.false_eq_true, if_false]
  refine wpAny_bind (wpAny_pure (wpAny_bind (wpAny_pure (wpAny_bind ?_))))
  suffices hs : wpAny (model prog w) A.in1 (Builtin.Dict.samePairs (toString "dict." ++ toString "__eq__") a b) (fun r s' => r = true ∧ s' = s) E s from
    wpAny_mono hs (fun r s' hr => by obtain ⟨rfl, rfl⟩ := hr; exact wpAny_pure ⟨_, rfl, (fun x => nomatch x), h⟩) fun _ _ e => e
  obtain ⟨oa, es, ep, hoa, hxa, hda, hka, hpa, hna⟩ := da
  obtain ⟨ob, es', ep', hob, hxb, hdb, hkb, hpb, hnb⟩ := db
  have hla : ka.length = es.size := by rw [← hpa.length]; exact Array.length_toList
  have hlb : kb.length = es'.size := by rw [← hpb.length]; exact Array.length_toList
  unfold Builtin.Dict.samePairs Builtin.Dict.showsAll
  rw [if_neg (by rw [hA]; decide), if_neg (by rw [hB]; decide)]
  refine wpAny_bind (wpAny_pure (wpAny_bind (wpAny_pure (wpAny_bind (wpAny_dictEntries hoa hda ?_)))))
  refine wpAny_bind (wpAny_dictEntries hob hdb ?_)
  rw [if_neg (by rw [← hla, ← hlb, hl]; simp)]
  refine wpAny_bind (wpAny_dictEpoch hoa hda (wpAny_bind ?_))
  rw [Std.Legacy.Range.forIn_eq_forIn_range']
  simp only [Std.Legacy.Range.size, Nat.sub_zero, Nat.add_sub_cancel, Nat.div_one]
  refine wpAny_forIn_list _ (fun rest q s' => s' = s ∧ q = (none, ()) ∧ ∀ i ∈ rest, i < es.size) _ ?_ ?_ _ _ ⟨rfl, rfl, fun i hi => by simp at hi; omega⟩
  · rintro i rest q s' ⟨rfl, rfl, hi⟩
    have hlt := hi i List.mem_cons_self
    have hlt' : i < ka.length := by omega
    refine wpAny_bind (wpAny_dictEntries hoa hda ?_)
    rw [Array.getElem?_eq_getElem hlt]
    obtain ⟨hkey, hval⟩ := hpa.get? (i := i) (e := es[i]) (k := ka[i].1) (v := ka[i].2) (by rw [Array.getElem?_toList]; exact Array.getElem?_eq_getElem hlt) (by rw [List.getElem?_eq_getElem hlt'])
    obtain ⟨k', hk', hh⟩ := hka es[i] (Array.getElem_mem hlt)
    rw [knd.inj _ _ _ hk' hkey] at hh
    obtain ⟨y, hy, heq⟩ := he ka[i].1 ka[i].2 (List.getElem_mem _)
    rw [← hpb.find ka[i].1] at hy
    have hf : findBy knd.is es' ka[i].1 = some y := by rw [← hy]; obtain ⟨l⟩ := es'; simp [findBy]
    rw [findBy_of_findIdx?] at hf
    show wpAny _ _ (holding [es[i].key, es[i].val] _ >>= _) _ _ _
    rw [hh]
    refine wpAny_bind (wpAny_holding (wpAny_bind (wpAny_dictFind_of hkey hob hdb hkb ?_)))
    cases hj : es'.findIdx? fun e => knd.is ka[i].1 e.key with
    | none => rw [hj] at hf; cases hf
    | some j =>
      rw [hj] at hf
      refine wpAny_bind (wpAny_dictEntries hob hdb ?_)
      cases hg : es'[j]? with
      | none => simp [hg] at hf
      | some f =>
        have hfy : f.val = y := by simpa [hg] using hf
        rw [hval]
        refine wpAny_holding ?_
        rw [hfy]
        refine heq _ _ ?_
        show wpAny _ _ (if (!true) = true then _ else _) _ _ _
        rw [if_neg (by decide)]
        refine wpAny_bind (wpAny_dictEpoch hoa hda ?_)
        rw [if_neg (by simp)]
        exact wpAny_pure ⟨rfl, rfl, fun x hx => hi x (List.mem_cons_of_mem _ hx)⟩
  · rintro q s' ⟨rfl, rfl, hi⟩
    exact wpAny_pure ⟨rfl, rfl⟩
end
end Mine
end

/-! # D11 -/
section
set_option autoImplicit false
set_option linter.unusedSectionVars false
set_option linter.unusedVariables false
open PySem PySem.W PyProof.Rows
set_option Elab.async false
set_option maxRecDepth 100000
namespace Mine

noncomputable def SameC (c c' : List (Str × Int)) : Prop := c.length = c'.length ∧ ∀ k v, (k, v) ∈ c → look c' k = some v
noncomputable def SameE (e e' : Ent) : Prop := e.cc = e'.cc ∧ e.nc = e'.nc ∧ e.tt = e'.tt ∧ e.ct = e'.ct ∧ SameC e.cal e'.cal
noncomputable def SameT (T U : List (Str × Ent)) : Prop := T.length = U.length ∧ ∀ k e, (k, e) ∈ T → ∃ e', look U k = some e' ∧ SameE e e'
noncomputable def PlainLaw : Prop := ∀ M bs, Drawn M bs → (∀ k e, (k, e) ∈ walkT M (ordN bs.length bs) → sumC e.cal = e.nc) ∧ SameT (walkT M (ordN bs.length bs)) (dueT M bs)

theorem look_nodup {K α : Type} [DecidableEq K] {l : List (K × α)} {i : Nat} {k : K} {v : α} (hn : (l.map (·.1)).Nodup) (h : l[i]? = some (k, v)) : look l k = some v := by
  induction l generalizing i with
  | nil => simp at h
  | cons x r ih =>
    obtain ⟨a, b⟩ := x
    simp only [List.map_cons, List.nodup_cons] at hn
    cases i with
    | zero => simp at h; obtain ⟨rfl, rfl⟩ := h; simp [look]
    | succ i =>
      have h' : r[i]? = some (k, v) := by simpa using h
      have hne : ¬ a = k := by
        rintro rfl
        exact hn.1 (List.mem_map.mpr ⟨_, List.mem_of_getElem? h', rfl⟩)
      have := ih hn.2 h'
      simpa [look, List.find?_cons, hne] using this
theorem Rel2.mem {K α β : Type} {R : α → β → Prop} {l : List (K × α)} {c : List (K × β)} {k : K} {v : α} (h : Rel2 R l c) (hm : (k, v) ∈ l) : ∃ d, (k, d) ∈ c ∧ R v d := by
  induction h with
  | nil => cases hm
  | @cons k' v' d' r r' h _ ih =>
    rcases List.mem_cons.mp hm with e | hm
    · cases e; exact ⟨d', List.mem_cons_self, h⟩
    · obtain ⟨d, hd, hR⟩ := ih hm; exact ⟨d, List.mem_cons_of_mem _ hd, hR⟩
theorem Rel2.lookB {K α β : Type} [DecidableEq K] {R : α → β → Prop} {l : List (K × α)} {c : List (K × β)} {k : K} {d : β} (h : Rel2 R l c) (hl : Mine.look c k = some d) : ∃ v, Mine.look l k = some v ∧ R v d := by
  rcases h.look k with ⟨_, h2⟩ | ⟨v, d', h1, h2, hR⟩
  · rw [h2] at hl; cases hl
  · rw [h2] at hl; cases hl; exact ⟨v, h1, hR⟩

section
variable {prog : Program} {w : World} {A : Around} {E : Value → Shared → Prop} {s₀ s : Shared} {z₀ z : Fz} {own : List Ass} {env : Env}
variable {K : Type} [DecidableEq K] {knd : PySem.KeyKind prog w K} {d : Addr} {kvs : List (K × Value)}
theorem It.keys (hh : A.handled = none) (I d : Addr) (kvs : List (K × Value)) (ep : Nat) : It prog w A I kvs.length (DKIt d kvs.length ep) (fun i v => ∃ k x, kvs[i]? = some (k, x) ∧ knd.is k v = true) (fun z => ZDictAt knd z d kvs ep) where
  next := fun s₀ z₀ z p own s Q E i hi hz S hQ => by
    refine wpAny_pyNext_dict_item (k := kvs[i].1) (v := kvs[i].2) S.get1 (hz.at S.gr.frz) (by simp [hi]) fun key h' hk hit hs => ?_
    obtain ⟨o', ho', hc', hd'⟩ := hit
    exact hQ _ _ ⟨kvs[i].1, kvs[i].2, by simp [hi], hk⟩ (S.upd1 (tk := s.toks) hs.extBut ho' ⟨hc', hd'⟩)
  done := fun s₀ z₀ z p own s Q E hz S hQ => by
    exact wpAny_pyNext_dict_end hh S.get1 (hz.at S.gr.frz) (by simp) fun h' hx => hQ _ (S.drop1 (tk := s.toks) hx)
theorem keysIt {Q : Value → Shared → Prop} {ep : Nat} (S : MSt s₀ z₀ z own s) (hd : (d == sysModules) = false) (hat : ZDictAt knd z d kvs ep) (h : ∀ I s', MSt s₀ z₀ z ((I, DKIt d kvs.length ep 0) :: own) s' → Q (.ref I) s') :
    wpAny (model prog w) A (pyIter (.ref d)) Q E s := wpAny_pyIter_dict hd (hat.at S.gr.frz) (h _ _ (S.pushO _ ⟨rfl, rfl⟩))

theorem eqC {v v' : Value} {c c' : List (Str × Int)} (hz : FzIn z s.heap) (h : ZC prog w z v c) (h' : ZC prog w z v' c') (hu : A.units < cLine) (hs : SameC c c') : EqW prog w A s v v' := by
  obtain ⟨a, kvs, rfl, hd, hr⟩ := h
  obtain ⟨b, kvs', rfl, hd', hr'⟩ := h'
  refine EqW.refs fun E Q hq => dictEqW hd.1 hd'.1 (hd.at hz) (hd'.at hz) hu (by rw [hr.length, hr'.length]; exact hs.1) (fun k v hm => ?_) hq
  obtain ⟨i, hi, t, rfl⟩ := hr.mem hm
  obtain ⟨y, hy, u, rfl⟩ := hr'.lookB (hs.2 k i hi)
  exact ⟨_, hy, EqW.int i t u⟩
theorem eqE {v v' : Value} {e e' : Ent} (hz : FzIn z s.heap) (h : ZE prog w z v e) (h' : ZE prog w z v' e') (hu : A.in1.units < cLine) (hu0 : A.units < cLine) (hs : SameE e e') : EqW prog w A s v v' := by
  obtain ⟨a, t1, t2, t3, t4, v5, rfl, ht, hc⟩ := h
  obtain ⟨b, u1, u2, u3, u4, v5', rfl, ht', hc'⟩ := h'
  obtain ⟨h1, h2, h3, h4, h5⟩ := hs
  refine EqW.refs fun E Q hq => tupEqW (ht.at hz) (ht'.at hz) rfl hu0 (fun p hp => ?_) hq
  rw [h1, h2, h3, h4] at hp
  simp only [List.zip_cons_cons, List.zip_nil_right, List.mem_cons, List.not_mem_nil, or_false] at hp
  rcases hp with rfl | rfl | rfl | rfl | rfl
  · exact EqW.int _ _ _
  · exact EqW.int _ _ _
  · exact EqW.int _ _ _
  · exact EqW.int _ _ _
  · exact eqC hz hc hc' hu h5
theorem eqTable {v v' : Value} {T U : List (Str × Ent)} {Q : Value → Shared → Prop} (hz : FzIn z s.heap) (h : ZTable prog w z v T) (h' : ZTable prog w z v' U) (hu : A.units + 50 < cLine) (hs : SameT T U) (hq : Q (.bool true) s) :
    wpAny (model prog w) A (compareOp .Eq v v') Q E s := by
  obtain ⟨a, kvs, rfl, hd, hr⟩ := h
  obtain ⟨b, kvs', rfl, hd', hr'⟩ := h'
  show wpAny (model prog w) A (richCompare .Eq (.ref a) (.ref b)) Q E s
  refine dictEqW hd.1 hd'.1 (hd.at hz) (hd'.at hz) (by omega) (by rw [hr.length, hr'.length]; exact hs.1) (fun k v hm => ?_) hq
  obtain ⟨e, he, hR⟩ := hr.mem hm
  obtain ⟨e', he', hsame⟩ := hs.2 k e he
  obtain ⟨y, hy, hR'⟩ := hr'.lookB he'
  exact ⟨y, hy, eqE hz hR hR' (by show A.units + 1 + 1 < _; omega) (by show A.units + 1 < _; omega) hsame⟩
end

section
variable {prog : Program} {w : World} {g : Heap} {mg mb : Str → Option Value} {z : Fz} {f : Addr}
set_option maxHeartbeats 8000000 in
theorem fn_law (HL : PlainLaw) {sa : Addr} {svs : List Value} {sns : List Int} {tv : Value} (hsl : ZL z sa svs) (hsi : All2 IntR svs sns) (hlen : svs.length ≤ 63) (G : Gd g mg mb)
    (hmgT : mg (Str.ofString "_filemode_table") = some tv) (hT : TabZ z tv) (hf : FnIn g mg 34 f) :
    Fn prog w g f [.ref sa] 11 z (fun _ r => r = .bool true) := by
  refine enter (n := 10) [(Str.ofString "script", .ref sa)] [(Str.ofString "script", .ref sa)] G hf (fun _ _ _ => rfl) (fun L x hx => ?_) (by decide) (fun _ _ _ _ => ⟨rfl, trivial⟩) ?_
  · rcases List.mem_singleton.mp hx with rfl; exact .inl rfl
  intro A s₀ pm cd doc L s₁ E hr hK S
  refine gen fun Q0 hQ0 => ?_
  have S : MSt s₀ z z [(L, Loc [(Str.ofString "script", .ref sa)]), (L + 1, CellA none)] s₁ := S
  obtain ⟨f28, hf28⟩ := G.fn 28 (by decide)
  obtain ⟨f30, hf30⟩ := G.fn 30 (by decide)
  obtain ⟨f33, hf33⟩ := G.fn 33 (by decide)
  obtain ⟨f3, hf3⟩ := G.fn 3 (by decide)
  obtain ⟨_, _, _, _, hmg28, _⟩ := id hf28
  obtain ⟨_, _, _, _, hmg30, _⟩ := id hf30
  obtain ⟨_, _, _, _, hmg33, _⟩ := id hf33
  obtain ⟨_, _, _, _, hmg3, _⟩ := id hf3
  -- mode, bits
  refine wpAny_execs_cons <| Assign_Tuple <| wpAny_Call_NameR <| nameG G hK S hmg28 <| cwF hf28 <| wpAny_items_cons <| nameL S rfl <| wpAny_items_nil ⟨hK.trans S.gr.keep, ?_⟩
  refine (fn_drawn hsl hsi hlen G hf28).use (hr.mono (by omega)) hK S fun r z₁ s hz₁ S hr1 => ?_
  obtain ⟨M, bs, hD, da, tM, ba, bvs, rfl, hda, hba, hbi⟩ := hr1
  refine unpackT hr.1 S (hda.at S.gr.frz) fun s S => inOrder_cons <| assignL S fun s S => inOrder_cons <| assignL S fun s S => inOrder_nil ?_
  obtain ⟨hi, rest, is, hbs, hnd, h12, h2, h4, _⟩ := id hD
  have hbl : bs.length = is.length := by rw [hbs]; simp [pw2]
  have hbd : ∀ b ∈ bs, 0 ≤ b ∧ b ≤ 1000000 := by rw [hbs]; exact pw2_bound h12
  have hbn : bs.Nodup := by
    rw [hbs]
    have : ∀ is : List Nat, is.Nodup → (pw2 is).Nodup := fun is h => by
      unfold pw2
      refine List.Pairwise.map _ (fun a b hab e => hab ?_) h
      have e : ((2 ^ a : Nat) : Int) = ((2 ^ b : Nat) : Int) := by push_cast; exact e
      exact (Nat.pow_right_inj (by decide)).mp (Int.ofNat.inj e)
    exact this is hnd
  obtain ⟨hsum, hsame⟩ := HL M bs hD
  -- table
  refine wpAny_execs_cons <| wpAny_Assign_Name <| wpAny_Call_NameR <| nameG G hK S hmg30 <| cwF hf30 <| wpAny_items_cons <| nameL S rfl <| wpAny_items_cons <| nameL S rfl <| wpAny_items_nil ⟨hK.trans S.gr.keep, ?_⟩
  refine (fn_walked (M := M) ⟨ba, bvs, rfl, hba, hbi⟩ hbn rfl (by omega) G hmgT (hT.mono hz₁) hf30).use (hr.mono (by omega)) hK S fun r z₂ s hz₂ S hr2 => ?_
  generalize walkT M (ordN bs.length bs) = T at *
  have hTab := hr2
  obtain ⟨ta, kvs, rfl, hta, hrel⟩ := hr2
  refine storeC [_] [] S rfl fun s S => ?_
  -- the test
  refine wpAny_execs_cons <| wpAny_If <| wpAny_isTrue_Compare1 <| listComp ?_
  obtain ⟨ep, hat⟩ := hta.dictAt
  refine nameC S rfl (.tail _ (.head _)) <| keysIt S hta.1 hat fun I s S => ⟨_, _, _, _, I, kvs.length, DKIt ta kvs.length ep, _, _, fun i vs z' => Zle z₂ z' ∧ vs = [], rfl, It.keys hr.1 I ta kvs ep, Selfy.keys I ta _ _ _, S, fun _ _ _ h => hat.mono h.1, ?_, ⟨Zle.refl _, rfl⟩, ?_, ?_⟩
  · rintro i vs z' ⟨_, rfl⟩; exact Nat.zero_le _
  · rintro C D i v vs z₃ lc s E hi ⟨k, x, hkx, hkey⟩ ⟨hz₃, rfl⟩ S
    refine gen fun Q1 hQ1 => ?_
    have hkvs : valueAt kvs k = some x := by
      obtain ⟨o, es, ho, _, _, _, _, hn⟩ := hat
      exact look_nodup hn hkx
    obtain ⟨e, he, hE⟩ := hrel.get hkx
    have hem := hsum k e (List.mem_of_getElem? he)
    obtain ⟨xa, t1, t2, t3, t4, v5, rfl, hxa, hv5⟩ := hE
    refine wpAny_isTrue_Compare1 <| wpAny_Call_NameR <| nameG G hK S hmg3 <| cwF hf3 <| wpAny_items_cons <| Subscript_ <| Subscript_ <| nameC S rfl (.tail _ (.tail _ (.tail _ (.tail _ (.head _))))) <| nameL S rfl <|
      subD hkey ((hta.mono hz₃).at S.gr.frz) hkvs S fun s S => constI S fun _ s S => tupItem ((hxa.mono hz₃).at S.gr.frz) (by decide) (by decide) rfl <| wpAny_items_nil ⟨hK.trans S.gr.keep, ?_⟩
    refine (fn_count (hv5.mono hz₃) G hf3).use (hr.mono (by omega)) hK S fun r z₄ s hz₄ S hr4 => ?_
    obtain ⟨t₄, rfl⟩ := hr4
    refine Subscript_ <| Subscript_ <| nameC S rfl (.tail _ (.tail _ (.tail _ (.tail _ (.head _))))) <| nameL S rfl <|
      subD hkey (((hta.mono hz₃).mono hz₄).at S.gr.frz) hkvs S fun s S => constI S fun _ s S => tupItem (((hxa.mono hz₃).mono hz₄).at S.gr.frz) (by decide) (by decide) rfl <| PyProof.Rows.ne_int <| wpAny_truthy_bool <| hQ1 _ _ ?_
    rw [hem, show (e.nc != e.nc) = false by simp, if_neg Bool.false_ne_true]
    exact ⟨_, S, hz₃.trans hz₄, rfl⟩
  rintro la vs z₃ s ⟨hz₃, rfl⟩ S
  refine listZ <| wpAny_items_nil ⟨by simp, _, _, _, _, S, fun lb z₄ s hz₄ S hlb => ?_⟩
  refine SeqAt.RcNeAt.lists (e := fun _ => true) (PL.plain (S.get (a := la) (φ := PL []) (by simp))).isList (hlb.at S.gr.frz) rfl (by have := hr.units; omega) (fun j h1 h2 => by simp at h2) _ _ _ _ <| wpAny_truthy_bool ?_
  rw [show (!(List.range ([] : List Value).toArray.size).all fun _ => true) = false from rfl, if_neg Bool.false_ne_true]
  refine wpAny_execs_nil ?_
  have S := S.forget0
  -- the answer
  refine wpAny_execs_cons <| wpAny_Return_some <| wpAny_Compare1 <| nameC S rfl (.tail _ (.head _)) <| wpAny_Call_NameR <| nameG G hK S hmg33 <| cwF hf33 <| wpAny_items_cons <| nameL S rfl <| wpAny_items_cons <| nameL S rfl <| wpAny_items_nil ⟨hK.trans S.gr.keep, ?_⟩
  have hz₂₄ : Zle z₂ z₄ := hz₃.trans hz₄
  refine (fn_due (M := M) ⟨ba, bvs, rfl, (hba.mono hz₂).mono hz₂₄, hbi⟩ (by omega) hbd G hf33).use (hr.mono (by omega)) hK S fun r z₅ s hz₅ S hr5 => ?_
  exact eqTable S.gr.frz ((hTab.mono hz₂₄).mono hz₅) hr5 (by have := hr.units; omega) hsame <| hQ0 _ _ ⟨_, _, _, rfl, S, rfl⟩
end
end Mine
end

/-! # P2 -/
section
set_option autoImplicit false
set_option linter.unusedSectionVars false
set_option linter.unusedVariables false
open PySem PySem.W PyProof.Rows
set_option Elab.async false
set_option maxRecDepth 100000
namespace Mine

/-! ## tables under an injective renaming of keys -/
section
variable {K K' α β : Type} [DecidableEq K] [DecidableEq K'] {φ : K → K'} {ψ : K → α → β}
noncomputable def ren (φ : K → K') (ψ : K → α → β) (l : List (K × α)) : List (K' × β) := l.map fun p => (φ p.1, ψ p.1 p.2)
theorem look_ren (hφ : ∀ a b, φ a = φ b → a = b) (l : List (K × α)) (k : K) : look (ren φ ψ l) (φ k) = (look l k).map (ψ k) := by
  induction l with
  | nil => rfl
  | cons x r ih =>
    obtain ⟨a, b⟩ := x
    by_cases h : a = k
    · subst h; simp [look, ren]
    · have h' : ¬ φ a = φ k := fun e => h (hφ _ _ e)
      have e1 : look (ren φ ψ ((a, b) :: r)) (φ k) = look (ren φ ψ r) (φ k) := by simp [look, ren, h']
      have e2 : look ((a, b) :: r) k = look r k := by simp [look, h]
      rw [e1, e2, ih]
theorem any_ren (hφ : ∀ a b, φ a = φ b → a = b) (l : List (K × α)) (k : K) : (ren φ ψ l).any (fun p => p.1 = φ k) = l.any (fun p => p.1 = k) := by
  induction l with
  | nil => rfl
  | cons x r ih =>
    obtain ⟨a, b⟩ := x
    have e : (decide (φ a = φ k)) = decide (a = k) := by
      by_cases h : a = k
      · subst h; simp
      · have h' : ¬ φ a = φ k := fun e => h (hφ _ _ e)
        simp [h, h']
    have ih' : (ren φ ψ r).any (fun p => decide (p.1 = φ k)) = r.any (fun p => decide (p.1 = k)) := ih
    show (decide (φ a = φ k) || (ren φ ψ r).any (fun p => decide (p.1 = φ k))) = (decide (a = k) || r.any (fun p => decide (p.1 = k)))
    rw [e, ih']
theorem put_ren (hφ : ∀ a b, φ a = φ b → a = b) (l : List (K × α)) (k : K) (v : α) : put (ren φ ψ l) (φ k) (ψ k v) = ren φ ψ (put l k v) := by
  unfold put
  rw [any_ren hφ]
  split
  · unfold ren
    rw [List.map_map, List.map_map]
    refine List.map_congr_left fun p _ => ?_
    obtain ⟨a, b⟩ := p
    by_cases h : a = k
    · subst h; simp
    · have h' : ¬ φ a = φ k := fun e => h (hφ _ _ e)
      simp [h, h']
  · simp [ren]
end

/-! ## the walk on sets of gone bits -/
structure AE where
  n : Int
  t0 : Int
  t1 : Int
  t2 : Int
  t3 : Int
  cal : List (Nat × Int)
noncomputable def ae0 : AE := ⟨0, 0, 0, 0, 0, []⟩
noncomputable def acopy (t : List (Nat × Int)) : List (Nat × Int) := t.foldl (fun n p => put n p.1 p.2) []
noncomputable def aaddTo (n : List (Nat × Int)) (p : Nat × Int) : List (Nat × Int) := put n p.1 (match look n p.1 with | some x => x + p.2 | none => p.2)
noncomputable def aadd (e : AE) (i c : Nat) : AE := ⟨e.n + 1, e.t0 + (if i = 0 then 1 else 0), e.t1 + (if i = 1 then 1 else 0), e.t2 + (if i = 2 then 1 else 0), e.t3 + (if i = 3 then 1 else 0), aaddTo (acopy e.cal) (c, 1)⟩
noncomputable def astp (p : Nat × List (Nat × AE)) (x : Int) : Nat × List (Nat × AE) :=
  (p.1 + 2 ^ x.toNat, put p.2 (p.1 + 2 ^ x.toNat) (aadd ((look p.2 (p.1 + 2 ^ x.toNat)).getD ae0) x.toNat p.1))
noncomputable def awalk (oss : List (List Int)) : List (Nat × AE) := oss.foldl (fun T os => (os.foldl astp (0, T)).2) []
noncomputable def idxL (n : Nat) : List Int := (List.range n).map fun k : Nat => (k : Int)
noncomputable def AW (n : Nat) : List (Nat × AE) := awalk (ordN n (idxL n))

noncomputable def idx (n : Nat) (c : Nat) : List Nat := (List.range n).filter (tst (c : Int))
noncomputable def aeach (n c : Nat) : Int := fct ((idx n c).length - 1) * fct (n - (idx n c).length)
noncomputable def bitI (n c k : Nat) : Int := if k < n ∧ tst (c : Int) k = true then 1 else 0
noncomputable def aD (n c : Nat) : AE := ⟨aeach n c * (idx n c).length, aeach n c * bitI n c 0, aeach n c * bitI n c 1, aeach n c * bitI n c 2, aeach n c * bitI n c 3, (idx n c).foldl (fun l i => put l (c - 2 ^ i) (aeach n c)) []⟩
noncomputable def AD (n : Nat) : List (Nat × AE) := (List.range (2 ^ n - 1)).foldl (fun T (i : Nat) => put T (1 + i) (aD n (1 + i))) []

/-- a step is right: the bit is still there -/
noncomputable def okO (n : Nat) : Nat → List Int → Bool
  | _, [] => true
  | c, x :: r => decide (0 ≤ x ∧ x.toNat < n ∧ c + 2 ^ x.toNat < 2 ^ n ∧ c < 2 ^ n) && !(tst (c : Int) x.toNat) && ((List.range 4).all fun k => tst ((c + 2 ^ x.toNat : Nat) : Int) k == (tst (c : Int) k || k == x.toNat)) && okO n (c + 2 ^ x.toNat) r
noncomputable def sameCal (a b : List (Nat × Int)) : Bool := a.length == b.length && a.all fun p => look b p.1 == some p.2
noncomputable def sameAE (a b : AE) : Bool := a.n == b.n && a.t0 == b.t0 && a.t1 == b.t1 && a.t2 == b.t2 && a.t3 == b.t3 && sameCal a.cal b.cal
noncomputable def chk (n : Nat) : Bool := ((ordN n (idxL n)).all (okO n 0)) && ((AW n).length == (AD n).length) && ((AW n).all fun p => p.2.cal.foldl (fun n q => n + q.2) 0 == p.2.n) && ((AW n).all fun p => match look (AD n) p.1 with | some e => sameAE p.2 e | none => false)
/-- the steps of the table that is due -/
noncomputable def okD (n : Nat) : Bool := (List.range (2 ^ n)).all fun c => (idx n c).all fun i => decide (i < n ∧ 2 ^ i ≤ c) && !(tst ((c - 2 ^ i : Nat) : Int) i) && ((List.range 4).all fun k => tst (c : Int) k == (tst ((c - 2 ^ i : Nat) : Int) k || k == i))
theorem chk2 : chk 2 = true := by decide +kernel
theorem chk3 : chk 3 = true := by decide +kernel
theorem chk4 : chk 4 = true := by decide +kernel
theorem okD2 : okD 2 = true := by decide +kernel
theorem okD3 : okD 3 = true := by decide +kernel
theorem okD4 : okD 4 = true := by decide +kernel
end Mine
end

/-! # P3 -/
section
set_option autoImplicit false
set_option linter.unusedSectionVars false
set_option linter.unusedVariables false
open PySem PySem.W PyProof.Rows
set_option Elab.async false
set_option maxRecDepth 100000
namespace Mine

theorem ordN_map (g : Int → Int) : ∀ (n : Nat) (l : List Int), (∀ a ∈ l, ∀ b ∈ l, g a = g b → a = b) → ordN n (l.map g) = (ordN n l).map (List.map g) := by
  intro n
  induction n with
  | zero => intro l _; rfl
  | succ n ih =>
    intro l hg
    have hf : ∀ b ∈ l, ((l.map g).filter fun x => x != g b) = (l.filter fun x => x != b).map g := fun b hb => by
      rw [List.filter_map]
      congr 1
      refine List.filter_congr fun a ha => ?_
      show (g a != g b) = (a != b)
      by_cases hab : a = b
      · rw [hab, bne_self_eq_false, bne_self_eq_false]
      · have : ¬ g a = g b := fun e => hab (hg a ha b hb e)
        rw [bne_iff_ne.mpr hab, bne_iff_ne.mpr this]
    show (l.map g).flatMap _ = (l.flatMap _).map _
    rw [List.flatMap_map, List.map_flatMap]
    have key : ∀ l' : List Int, (∀ b ∈ l', b ∈ l) → l'.flatMap (fun b => (ordN n ((l.map g).filter fun x => x != g b)).map (g b :: ·)) = l'.flatMap (fun b => ((ordN n (l.filter fun x => x != b)).map (b :: ·)).map (List.map g)) := by
      intro l'
      induction l' with
      | nil => intro _; rfl
      | cons b r ihr =>
        intro hm
        rw [List.flatMap_cons, List.flatMap_cons, ihr fun x hx => hm x (List.mem_cons_of_mem _ hx)]
        congr 1
        have hb := hm b List.mem_cons_self
        rw [hf b hb, ih _ fun x hx y hy => hg x (List.mem_filter.mp hx).1 y (List.mem_filter.mp hy).1, List.map_map, List.map_map]
        rfl
    exact key l fun _ h => h

section
variable (M : Int) (bs : List Int)
noncomputable def gat (k : Nat) : Int := bs.getD k 0
noncomputable def SS (c : Nat) : Int := (gone bs (c : Int)).sum
noncomputable def keyN (c : Nat) : Str := if c < 2 ^ bs.length then ten (M - SS bs c) else ⟨Array.replicate (11 + c) 0⟩
noncomputable def evE (c : Nat) (e : AE) : Ent := ⟨e.n, e.n, e.t0 * gat bs 0 + e.t1 * gat bs 1 + e.t2 * gat bs 2 + e.t3 * gat bs 3, e.n * (M - SS bs c), ren (keyN M bs) (fun _ v => v) e.cal⟩
/-- what the keys must do -/
structure Keys : Prop where
  len : bs.length ≤ 4
  mode : ∀ c, c < 2 ^ bs.length → fmode (M - SS bs c) = ten (M - SS bs c)
  inj : ∀ c c', c < 2 ^ bs.length → c' < 2 ^ bs.length → ten (M - SS bs c) = ten (M - SS bs c') → c = c'
end
section
variable {M : Int} {bs : List Int}
theorem ten_size (m : Int) : (ten m).cps.size = 10 := tenI_len m 3
theorem keyN_lt {c : Nat} (h : c < 2 ^ bs.length) : keyN M bs c = ten (M - SS bs c) := if_pos h
theorem keyN_inj (H : Keys M bs) : ∀ c c', keyN M bs c = keyN M bs c' → c = c' := fun c c' e => by
  unfold keyN at e
  have hs : ∀ a b : Str, a = b → a.cps.size = b.cps.size := fun a b e => by rw [e]
  by_cases h : c < 2 ^ bs.length
  · by_cases h' : c' < 2 ^ bs.length
    · rw [if_pos h, if_pos h'] at e; exact H.inj c c' h h' e
    · rw [if_pos h, if_neg h'] at e; have := hs _ _ e; rw [ten_size] at this; simp at this; omega
  · by_cases h' : c' < 2 ^ bs.length
    · rw [if_neg h, if_pos h'] at e; have := hs _ _ e; rw [ten_size] at this; simp at this; omega
    · rw [if_neg h, if_neg h'] at e; have := hs _ _ e; simp at this; omega

theorem goneI_sum (c : Int) (m : Nat) : (goneI bs c (m + 1)).sum = (goneI bs c m).sum + (if tst c m = true then gat bs m else 0) := by
  cases h : tst c m with
  | true => rw [goneI_succ_t h]; simp [gat]
  | false => rw [goneI_succ_f h]; simp
theorem SS_eq (hn : bs.length ≤ 4) (c : Nat) : SS bs c = bitI bs.length c 0 * gat bs 0 + bitI bs.length c 1 * gat bs 1 + bitI bs.length c 2 * gat bs 2 + bitI bs.length c 3 * gat bs 3 := by
  unfold SS gone
  have h5 : bs.length = 0 ∨ bs.length = 1 ∨ bs.length = 2 ∨ bs.length = 3 ∨ bs.length = 4 := by omega
  have h0 : (goneI bs (c : Int) 0).sum = 0 := rfl
  rcases h5 with h | h | h | h | h <;> rw [h] <;> simp only [goneI_sum, h0, bitI] <;>
    cases tst (c : Int) 0 <;> cases tst (c : Int) 1 <;> cases tst (c : Int) 2 <;> cases tst (c : Int) 3 <;> simp
theorem SS_step {c c' i : Nat} (hn : bs.length ≤ 4) (hi : i < bs.length) (h0 : tst (c : Int) i = false) (h : ((List.range 4).all fun k => tst (c' : Int) k == (tst (c : Int) k || k == i)) = true) : SS bs c' = SS bs c + gat bs i := by
  have h : ∀ k, k < 4 → tst (c' : Int) k = (tst (c : Int) k || k == i) := fun k hk => by
    have := List.all_eq_true.mp h k (by simpa using hk)
    simpa using this
  have key : ∀ m, m ≤ 4 → (goneI bs (c' : Int) m).sum = (goneI bs (c : Int) m).sum + (if i < m then gat bs i else 0) := by
    intro m
    induction m with
    | zero => intro _; simp [goneI]
    | succ m ih =>
      intro hm
      rw [goneI_sum, goneI_sum, ih (by omega), h m (by omega)]
      by_cases hmi : m = i
      · subst hmi; rw [h0]; simp
      · have e : (m == i) = false := by simpa using hmi
        rw [e, Bool.or_false]
        generalize (if tst (c : Int) m = true then gat bs m else 0) = q
        by_cases hlt : i < m
        · rw [if_pos hlt, if_pos (by omega)]; omega
        · rw [if_neg hlt, if_neg (by omega)]; omega
  have := key bs.length hn
  rw [if_pos hi] at this
  exact this
theorem SS_zero (hn : bs.length ≤ 4) : SS bs 0 = 0 := by
  rw [SS_eq hn]
  have h : ∀ k, k < 4 → bitI bs.length 0 k = 0 := fun k hk => by
    unfold bitI
    have : tst ((0 : Nat) : Int) k = false := by
      have key : ∀ k : Fin 4, tst ((0 : Nat) : Int) k.val = false := by decide
      exact key ⟨k, hk⟩
    rw [this]; simp
  rw [h 0 (by omega), h 1 (by omega), h 2 (by omega), h 3 (by omega)]; simp

theorem addC_ren (H : Keys M bs) (t : List (Nat × Int)) (c : Nat) : addC (ren (keyN M bs) (fun _ v => v) t) [(keyN M bs c, 1)] = ren (keyN M bs) (fun _ v => v) (aaddTo (acopy t) (c, 1)) := by
  have hφ := keyN_inj H
  have hcopy : ∀ (t n0 : List (Nat × Int)), (ren (keyN M bs) (fun _ v => v) t).foldl (fun n p => put n p.1 p.2) (ren (keyN M bs) (fun _ v => v) n0) = ren (keyN M bs) (fun _ v => v) (t.foldl (fun n p => put n p.1 p.2) n0) := by
    intro t
    induction t with
    | nil => intro n0; rfl
    | cons x r ih =>
      intro n0
      show (ren (keyN M bs) (fun _ v => v) r).foldl _ (put (ren (keyN M bs) (fun _ v => v) n0) (keyN M bs x.1) x.2) = _
      rw [put_ren (ψ := fun _ v => v) hφ, ih]; rfl
  have e : copyC (ren (keyN M bs) (fun _ v => v) t) = ren (keyN M bs) (fun _ v => v) (acopy t) := hcopy t []
  show addTo (copyC (ren (keyN M bs) (fun _ v => v) t)) (keyN M bs c, 1) = _
  rw [e]
  unfold addTo aaddTo
  rw [look_ren hφ, ← put_ren (ψ := fun _ v => v) hφ]
  cases look (acopy t) c <;> rfl

theorem step_ren (H : Keys M bs) (AT : List (Nat × AE)) {c : Nat} {x : Int} {r : List Int} (h : okO bs.length c (x :: r) = true) :
    stp (M - SS bs c, ren (keyN M bs) (evE M bs) AT) (gat bs x.toNat) = (M - SS bs (astp (c, AT) x).1, ren (keyN M bs) (evE M bs) (astp (c, AT) x).2) ∧ okO bs.length (astp (c, AT) x).1 r = true := by
  unfold okO at h
  simp only [Bool.and_eq_true, decide_eq_true_eq] at h
  obtain ⟨⟨⟨⟨hx0, hxn, hc', hc⟩, h0⟩, hall⟩, hr⟩ := h
  have h0 : tst (c : Int) x.toNat = false := by simpa using h0
  have hS := SS_step (c' := c + 2 ^ x.toNat) H.len hxn h0 hall
  refine ⟨?_, hr⟩
  have hφ := keyN_inj H
  have hnow : M - SS bs c - gat bs x.toNat = M - SS bs (c + 2 ^ x.toNat) := by rw [hS]; omega
  have hprev : M - SS bs (c + 2 ^ x.toNat) + gat bs x.toNat = M - SS bs c := by rw [hS]; omega
  unfold stp
  simp only
  rw [hnow]
  refine Prod.ext rfl ?_
  show stepT _ _ _ = ren _ _ (put AT (c + 2 ^ x.toNat) _)
  unfold stepT
  rw [hprev, H.mode _ hc, H.mode _ hc', ← keyN_lt hc, ← keyN_lt hc', look_ren hφ, ← put_ren (ψ := evE M bs) hφ]
  congr 1
  have e0 : ∀ o : Option AE, (o.map (evE M bs (c + 2 ^ x.toNat))).getD ent0 = evE M bs (c + 2 ^ x.toNat) (o.getD ae0) := fun o => by
    cases o with
    | none => simp [ent0, evE, ae0, ren]
    | some e => rfl
  rw [e0]
  generalize (look AT (c + 2 ^ x.toNat)).getD ae0 = e
  unfold addE evE
  simp only [Ent.mk.injEq]
  refine ⟨?_, ?_, ?_, ?_, addC_ren H e.cal c⟩
  · show 1 + e.n = e.n + 1; omega
  · show 1 + e.n = e.n + 1; omega
  · have hi4 : x.toNat < 4 := Nat.lt_of_lt_of_le hxn H.len
    have : x.toNat = 0 ∨ x.toNat = 1 ∨ x.toNat = 2 ∨ x.toNat = 3 := by omega
    unfold aadd
    rcases this with h | h | h | h <;> rw [h] <;> simp [Int.add_mul] <;> omega
  · show M - SS bs (c + 2 ^ x.toNat) + e.n * (M - SS bs (c + 2 ^ x.toNat)) = (e.n + 1) * (M - SS bs (c + 2 ^ x.toNat))
    rw [Int.add_mul]; omega

theorem order_ren (H : Keys M bs) : ∀ (os : List Int) (c : Nat) (AT : List (Nat × AE)), okO bs.length c os = true →
    ((os.map fun x => gat bs x.toNat).foldl stp (M - SS bs c, ren (keyN M bs) (evE M bs) AT)).2 = ren (keyN M bs) (evE M bs) (os.foldl astp (c, AT)).2 := by
  intro os
  induction os with
  | nil => intro c AT _; rfl
  | cons x r ih =>
    intro c AT h
    obtain ⟨h1, h2⟩ := step_ren H AT h
    rw [List.map_cons, List.foldl_cons, List.foldl_cons, h1]
    exact ih _ _ h2
theorem walk_ren (H : Keys M bs) : ∀ (oss : List (List Int)) (AT : List (Nat × AE)), oss.all (okO bs.length 0) = true →
    (oss.map (List.map fun x => gat bs x.toNat)).foldl (fun T os => (wst M T os).2) (ren (keyN M bs) (evE M bs) AT) = ren (keyN M bs) (evE M bs) (oss.foldl (fun T os => (os.foldl astp (0, T)).2) AT) := by
  intro oss
  induction oss with
  | nil => intro AT _; rfl
  | cons os r ih =>
    intro AT h
    rw [List.all_cons, Bool.and_eq_true] at h
    rw [List.map_cons, List.foldl_cons, List.foldl_cons, ← ih _ h.2]
    congr 1
    have := order_ren H os 0 AT h.1
    rw [SS_zero H.len, Int.sub_zero] at this
    exact this

theorem idxL_map : bs = (idxL bs.length).map fun x => gat bs x.toNat := by
  refine List.ext_getElem (by simp [idxL]) fun i h1 h2 => ?_
  simp [idxL, gat, h1]
theorem walkT_eq (H : Keys M bs) (hnd : bs.Nodup) (hok : ((ordN bs.length (idxL bs.length)).all (okO bs.length 0)) = true) : walkT M (ordN bs.length bs) = ren (keyN M bs) (evE M bs) (AW bs.length) := by
  have e : ordN bs.length bs = (ordN bs.length (idxL bs.length)).map (List.map fun x => gat bs x.toNat) := by
    conv => lhs; rw [idxL_map (bs := bs)]
    rw [List.length_map, show (idxL bs.length).length = bs.length by simp [idxL]]
    refine ordN_map (fun x => gat bs x.toNat) bs.length (idxL bs.length) fun a ha b hb hab => ?_
    obtain ⟨i, hi, rfl⟩ := List.mem_map.mp ha
    obtain ⟨j, hj, rfl⟩ := List.mem_map.mp hb
    have hi : i < bs.length := by simpa using hi
    have hj : j < bs.length := by simpa using hj
    have hab : bs[i] = bs[j] := by simpa [gat, hi, hj] using hab
    have := (List.getElem_inj hnd).mp hab
    rw [this]
  rw [e]
  exact walk_ren H _ [] hok
end
end Mine
end

/-! # P4 -/
section
set_option autoImplicit false
set_option linter.unusedSectionVars false
set_option linter.unusedVariables false
open PySem PySem.W PyProof.Rows
set_option Elab.async false
set_option maxRecDepth 100000
namespace Mine
section
variable {M : Int} {bs : List Int}
theorem gone_idx (c : Nat) : gone bs (c : Int) = (idx bs.length c).map (gat bs) := rfl
theorem gone_len (c : Nat) : (gone bs (c : Int)).length = (idx bs.length c).length := by rw [gone_idx, List.length_map]
theorem each_eq (c : Nat) : eachW bs (c : Int) = aeach bs.length c := by unfold eachW aeach; rw [gone_len]

theorem cal_ren (H : Keys M bs) {c : Nat} (hc : c < 2 ^ bs.length) (e : Int) : ∀ (is : List Nat) (l0 : List (Nat × Int)),
    (is.all fun i => decide (i < bs.length ∧ 2 ^ i ≤ c) && !(tst ((c - 2 ^ i : Nat) : Int) i) && ((List.range 4).all fun k => tst (c : Int) k == (tst ((c - 2 ^ i : Nat) : Int) k || k == i))) = true →
    (is.map (gat bs)).foldl (fun n b => put n (ten (M - SS bs c + b)) e) (ren (keyN M bs) (fun _ v => v) l0) = ren (keyN M bs) (fun _ v => v) (is.foldl (fun l i => put l (c - 2 ^ i) e) l0) := by
  intro is
  induction is with
  | nil => intro l0 _; rfl
  | cons i r ih =>
    intro l0 h
    rw [List.all_cons] at h
    simp only [Bool.and_eq_true, decide_eq_true_eq] at h
    obtain ⟨⟨⟨⟨hi, hle⟩, h0⟩, hall⟩, hr⟩ := h
    have h0 : tst ((c - 2 ^ i : Nat) : Int) i = false := by simpa using h0
    have hS := SS_step (c := c - 2 ^ i) (c' := c) H.len hi h0 hall
    have hk : ten (M - SS bs c + gat bs i) = keyN M bs (c - 2 ^ i) := by
      rw [keyN_lt (Nat.lt_of_le_of_lt (Nat.sub_le _ _) hc)]; congr 1; omega
    rw [List.map_cons, List.foldl_cons, List.foldl_cons, hk, put_ren (ψ := fun _ v => v) (keyN_inj H)]
    refine ih _ ?_
    simpa only [Bool.and_eq_true] using hr

theorem dueE_eq (H : Keys M bs) {c : Nat} (hc : c < 2 ^ bs.length) (hok : okD bs.length = true) : dueE M bs (c : Int) = evE M bs c (aD bs.length c) := by
  have hcal := cal_ren H hc (aeach bs.length c) (idx bs.length c) [] (List.all_eq_true.mp hok c (by simpa using hc))
  unfold dueE evE aD
  rw [each_eq, gone_len]
  simp only [Ent.mk.injEq]
  refine ⟨trivial, trivial, ?_, ?_, ?_⟩
  · show aeach bs.length c * SS bs c = _
    rw [SS_eq H.len]
    simp only [Int.mul_add, Int.mul_assoc]
  · rfl
  · rw [gone_idx]; exact hcal

theorem dueT_eq (H : Keys M bs) (hok : okD bs.length = true) : dueT M bs = ren (keyN M bs) (evE M bs) (AD bs.length) := by
  have key : ∀ k, k ≤ 2 ^ bs.length - 1 → dueI M bs k = ren (keyN M bs) (evE M bs) ((List.range k).foldl (fun T (i : Nat) => put T (1 + i) (aD bs.length (1 + i))) []) := by
    intro k
    induction k with
    | zero => intro _; rfl
    | succ k ih =>
      intro hk
      have hc : 1 + k < 2 ^ bs.length := by omega
      have e : dueI M bs (k + 1) = put (dueI M bs k) (ten (M - (gone bs (1 + (k : Int))).sum)) (dueE M bs (1 + (k : Int))) := by
        unfold dueI; rw [List.range_succ, List.foldl_append]; rfl
      have ec : (1 : Int) + (k : Int) = ((1 + k : Nat) : Int) := by omega
      rw [e, ih (by omega), ec, dueE_eq H hc hok, List.range_succ, List.foldl_append, List.foldl_cons, List.foldl_nil]
      rw [show ten (M - (gone bs ((1 + k : Nat) : Int)).sum) = keyN M bs (1 + k) from (keyN_lt hc).symm, put_ren (ψ := evE M bs) (keyN_inj H)]
  exact key _ (Nat.le_refl _)

theorem plain_of (H : Keys M bs) (hnd : bs.Nodup) (hchk : chk bs.length = true) (hok : okD bs.length = true) :
    (∀ k e, (k, e) ∈ walkT M (ordN bs.length bs) → sumC e.cal = e.nc) ∧ SameT (walkT M (ordN bs.length bs)) (dueT M bs) := by
  unfold chk at hchk
  simp only [Bool.and_eq_true] at hchk
  obtain ⟨⟨⟨h1, h2⟩, h3⟩, h4⟩ := hchk
  rw [walkT_eq H hnd h1, dueT_eq H hok]
  refine ⟨fun k e hm => ?_, ?_, fun k e hm => ?_⟩
  · obtain ⟨p, hp, he⟩ := List.mem_map.mp hm
    cases he
    have h := List.all_eq_true.mp h3 p hp
    have h := beq_iff_eq.mp h
    show sumC (ren (keyN M bs) (fun _ v => v) p.2.cal) = p.2.n
    rw [← h]
    unfold sumC ren
    rw [List.foldl_map]
  · simpa [ren] using h2
  · obtain ⟨p, hp, he⟩ := List.mem_map.mp hm
    cases he
    have h := List.all_eq_true.mp h4 p hp
    rw [look_ren (keyN_inj H)]
    cases hl : look (AD bs.length) p.1 with
    | none => rw [hl] at h; cases h
    | some e' =>
      rw [hl] at h
      refine ⟨evE M bs p.1 e', rfl, ?_⟩
      unfold sameAE at h
      simp only [Bool.and_eq_true, beq_iff_eq] at h
      obtain ⟨⟨⟨⟨⟨e1, e2⟩, e3⟩, e4⟩, e5⟩, e6⟩ := h
      refine ⟨e1, e1, ?_, ?_, ?_⟩
      · show p.2.t0 * _ + p.2.t1 * _ + p.2.t2 * _ + p.2.t3 * _ = e'.t0 * _ + e'.t1 * _ + e'.t2 * _ + e'.t3 * _
        rw [e2, e3, e4, e5]
      · show p.2.n * _ = e'.n * _
        rw [e1]
      · unfold sameCal at e6
        simp only [Bool.and_eq_true, beq_iff_eq] at e6
        refine ⟨by simpa [ren, evE] using e6.1, fun k v hkv => ?_⟩
        obtain ⟨q, hq, heq⟩ := List.mem_map.mp hkv
        cases heq
        have := List.all_eq_true.mp e6.2 q hq
        have := beq_iff_eq.mp this
        show look (ren (keyN M bs) (fun _ v => v) e'.cal) (keyN M bs q.1) = some q.2
        rw [look_ren (keyN_inj H), this]; rfl
end
end Mine
end

/-! # P5 -/
section
set_option autoImplicit false
set_option linter.unusedSectionVars false
set_option linter.unusedVariables false
open PySem PySem.W PyProof.Rows
set_option Elab.async false
set_option maxRecDepth 100000
namespace Mine
theorem bitAnd_nat (x y : Nat) : Builtin.bitAnd (x : Int) (y : Int) = ((x &&& y : Nat) : Int) := by
  unfold Builtin.bitAnd
  have h1 : decide ((0 : Int) ≤ (x : Int)) = true := by simp
  have h2 : decide ((0 : Int) ≤ (y : Int)) = true := by simp
  rw [h1, h2]; simp
theorem and_two (x k : Nat) : x &&& 2 ^ k = (x / 2 ^ k % 2) * 2 ^ k := by
  have hb : x / 2 ^ k % 2 = 0 ∨ x / 2 ^ k % 2 = 1 := by omega
  refine Nat.eq_of_testBit_eq fun i => ?_
  rw [Nat.testBit_and, Nat.testBit_two_pow]
  by_cases h : k = i
  · subst h
    rw [Nat.testBit_eq_decide_div_mod_eq (x := x)]
    rcases hb with h | h
    · rw [h]; simp
    · rw [h]; simp [Nat.testBit_two_pow_self]
  · rcases hb with h' | h'
    · rw [h']; simp [h]
    · rw [h', Nat.one_mul, Nat.testBit_two_pow]; simp [h]
theorem and_four {x i j : Nat} : x &&& (2 ^ i ||| 2 ^ j) = (x / 2 ^ i % 2) * 2 ^ i ||| (x / 2 ^ j % 2) * 2 ^ j := by rw [Nat.and_or_distrib_left, and_two, and_two]
theorem and_top {x : Nat} (h : x < 65536) : x &&& 61440 = x / 4096 * 4096 := by
  refine Nat.eq_of_testBit_eq fun i => ?_
  rw [Nat.testBit_and, show (61440 : Nat) = (2 ^ 4 - 1) * 2 ^ 12 from rfl, show x / 4096 * 4096 = x / 2 ^ 12 * 2 ^ 12 from rfl, Nat.testBit_mul_two_pow, Nat.testBit_mul_two_pow, Nat.testBit_two_pow_sub_one, Nat.testBit_div_two_pow]
  by_cases h12 : 12 ≤ i
  · rw [show i - 12 + 12 = i by omega]
    by_cases h16 : i - 12 < 4
    · simp [h12, h16]
    · have : x.testBit i = false := Nat.testBit_lt_two_pow (Nat.lt_of_lt_of_le h (Nat.pow_le_pow_right (n := 2) (by decide) (show 16 ≤ i by omega)))
      simp [h12, h16, this]
  · simp [h12]

noncomputable def top16 : Str := Str.ofString "?pc?d?b?-?l?s???"
noncomputable def pc (T : Str) (i : Nat) : Str := sat T (i : Int)
/-- the ten letters -/
noncomputable def tenN (x : Nat) : List Str := [pc top16 (x / 4096 % 16),
  pc (Str.ofString "-r") (x / 256 % 2), pc (Str.ofString "-w") (x / 128 % 2), pc (Str.ofString "-xSs") (x / 2048 % 2 * 2 + x / 64 % 2),
  pc (Str.ofString "-r") (x / 32 % 2), pc (Str.ofString "-w") (x / 16 % 2), pc (Str.ofString "-xSs") (x / 1024 % 2 * 2 + x / 8 % 2),
  pc (Str.ofString "-r") (x / 4 % 2), pc (Str.ofString "-w") (x / 2 % 2), pc (Str.ofString "-xTt") (x / 512 % 2 * 2 + x % 2)]
theorem fd (x n : Nat) : ((x : Int).fdiv (n : Int)) = ((x / n : Nat) : Int) := by rw [Int.fdiv_eq_ediv_of_nonneg _ (by omega)]; rfl
theorem fm (x n : Nat) : ((x : Int).fmod (n : Int)) = ((x % n : Nat) : Int) := by rw [Int.fmod_eq_emod_of_nonneg _ (by omega)]; rfl
theorem th_nat (x k : Nat) (hk : k ≤ 2) : th (x : Int) (0 + (k : Int)) = ((x / 8 ^ (2 - k) % 8 : Nat) : Int) := by
  unfold th
  rw [show (2 - (0 + (k : Int))).toNat = 2 - k by omega, show ((8 : Int) ^ (2 - k)) = ((8 ^ (2 - k) : Nat) : Int) by push_cast; rfl, fd, show (8 : Int) = ((8 : Nat) : Int) from rfl, fm]
theorem step_nat (x k : Nat) (hk : k ≤ 2) (acc : Str) : tstep (x : Int) (0 + (k : Int)) acc = (acc ++ (pc (Str.ofString "-r") (x / 8 ^ (2 - k) % 8 / 4) ++ pc (Str.ofString "-w") (x / 8 ^ (2 - k) % 8 / 2 % 2))) ++ pc (tab3 (0 + (k : Int))) (x / 2 ^ (11 - k) % 2 * 2 + x / 8 ^ (2 - k) % 8 % 2) := by
  unfold tstep pc
  rw [th_nat x k hk, show (11 - (0 + (k : Int))).toNat = 11 - k by omega, show ((2 : Int) ^ (11 - k)) = ((2 ^ (11 - k) : Nat) : Int) by push_cast; rfl, fd, show (4 : Int) = ((4 : Nat) : Int) from rfl, show (2 : Int) = ((2 : Nat) : Int) from rfl, fm, fm, fd, fd, fm]
  rfl
noncomputable def joinN : List Str → Str
  | [c0, a1, b1, d1, a2, b2, d2, a3, b3, d3] => ((((c0 ++ (a1 ++ b1)) ++ d1) ++ (a2 ++ b2) ++ d2) ++ (a3 ++ b3)) ++ d3
  | _ => Str.empty
theorem ten_nat (x : Nat) : ten (x : Int) = joinN (tenN x) := by
  show tstep (x : Int) (0 + ((2 : Nat) : Int)) (tstep (x : Int) (0 + ((1 : Nat) : Int)) (tstep (x : Int) (0 + ((0 : Nat) : Int)) (sat top16 (((x : Int).fdiv 4096).fmod 16)))) = _
  rw [step_nat x 0 (by omega), step_nat x 1 (by omega), step_nat x 2 (by omega), show (4096 : Int) = ((4096 : Nat) : Int) from rfl, show (16 : Int) = ((16 : Nat) : Int) from rfl, fd, fm]
  simp only [Nat.reducePow, Nat.reduceSub]
  rw [show x / 64 % 8 / 4 = x / 256 % 2 by omega, show x / 64 % 8 / 2 % 2 = x / 128 % 2 by omega, show x / 64 % 8 % 2 = x / 64 % 2 by omega,
    show x / 8 % 8 / 4 = x / 32 % 2 by omega, show x / 8 % 8 / 2 % 2 = x / 16 % 2 by omega, show x / 8 % 8 % 2 = x / 8 % 2 by omega,
    show x / 1 % 8 / 4 = x / 4 % 2 by omega, show x / 1 % 8 / 2 % 2 = x / 2 % 2 by omega, show x / 1 % 8 % 2 = x % 2 by omega]
  rfl

theorem one_char (T : Str) (c : Str) (b k x : Nat) (hb : b = 2 ^ k) (h0 : pc T 0 = Str.ofString "-") (h1 : pc T 1 = c) (j : Nat) (hj : j ≠ 0) : fchar (x : Int) j [((b : Int), c)] = pc T (x / 2 ^ k % 2) := by
  rw [fchar, if_neg hj]
  show (if (Builtin.bitAnd (x : Int) (b : Int) == (b : Int)) = true then c else Str.ofString "-") = _
  rw [bitAnd_nat, hb, and_two]
  have : x / 2 ^ k % 2 = 0 ∨ x / 2 ^ k % 2 = 1 := by omega
  have hp : 2 ^ k ≠ 0 := by have := Nat.two_pow_pos k; omega
  rcases this with h | h
  · rw [h, h0]
    have : (((0 * 2 ^ k : Nat) : Int) == ((2 ^ k : Nat) : Int)) = false := by
      rw [beq_eq_false_iff_ne]; intro e; have := Int.ofNat.inj e; omega
    rw [this, if_neg Bool.false_ne_true]
  · rw [h, h1, Nat.one_mul, beq_self_eq_true, if_pos rfl]
theorem three_char (T c1 c2 c3 : Str) (i k x : Nat) (hki : (i, k) = (11, 6) ∨ (i, k) = (10, 3) ∨ (i, k) = (9, 0)) (h0 : pc T 0 = Str.ofString "-") (h1 : pc T 1 = c3) (h2 : pc T 2 = c2) (h3 : pc T 3 = c1) (j : Nat) (hj : j ≠ 0) :
    fchar (x : Int) j [(((2 ^ i ||| 2 ^ k : Nat) : Int), c1), (((2 ^ i : Nat) : Int), c2), (((2 ^ k : Nat) : Int), c3)] = pc T (x / 2 ^ i % 2 * 2 + x / 2 ^ k % 2) := by
  rw [fchar, if_neg hj]
  show (if (Builtin.bitAnd (x : Int) ((2 ^ i ||| 2 ^ k : Nat) : Int) == ((2 ^ i ||| 2 ^ k : Nat) : Int)) = true then c1 else if (Builtin.bitAnd (x : Int) ((2 ^ i : Nat) : Int) == ((2 ^ i : Nat) : Int)) = true then c2
    else if (Builtin.bitAnd (x : Int) ((2 ^ k : Nat) : Int) == ((2 ^ k : Nat) : Int)) = true then c3 else Str.ofString "-") = _
  rw [bitAnd_nat, bitAnd_nat, bitAnd_nat, and_two, and_two, and_four]
  have ha : x / 2 ^ i % 2 = 0 ∨ x / 2 ^ i % 2 = 1 := by omega
  have hb : x / 2 ^ k % 2 = 0 ∨ x / 2 ^ k % 2 = 1 := by omega
  generalize x / 2 ^ i % 2 = a at *
  generalize x / 2 ^ k % 2 = b at *
  rcases ha with rfl | rfl <;> rcases hb with rfl | rfl <;> simp only [h0, h1, h2, h3, Nat.zero_mul, Nat.one_mul, Nat.zero_add, Nat.add_zero, Nat.reduceAdd] <;>
    rcases hki with h | h | h <;> cases h <;> rfl

theorem char0 {x : Nat} (h : x < 65536) : fchar (x : Int) 0 (tabD.getD 0 []) = pc top16 (x / 4096 % 16) := by
  unfold fchar
  rw [if_pos rfl, show (61440 : Int) = ((61440 : Nat) : Int) from rfl, bitAnd_nat, and_top h]
  have hq : x / 4096 < 16 := by omega
  rw [show x / 4096 % 16 = x / 4096 by omega]
  generalize x / 4096 = q at *
  have key : ∀ q : Fin 16, pick (fun b => (((q.val * 4096 : Nat) : Int)) == b) (Str.ofString "?") (tabD.getD 0 []) = pc top16 q.val := by decide +kernel
  exact key ⟨q, hq⟩
theorem fl_nat {x : Nat} (h : x < 65536) : fl (x : Int) 10 = tenN x := by
  have h0 := char0 h
  have h1 := one_char (Str.ofString "-r") (Str.ofString "r") 256 8 x rfl rfl rfl 1 (by decide)
  have h2 := one_char (Str.ofString "-w") (Str.ofString "w") 128 7 x rfl rfl rfl 2 (by decide)
  have h3 := three_char (Str.ofString "-xSs") (Str.ofString "s") (Str.ofString "S") (Str.ofString "x") 11 6 x (.inl rfl) rfl rfl rfl rfl 3 (by decide)
  have h4 := one_char (Str.ofString "-r") (Str.ofString "r") 32 5 x rfl rfl rfl 4 (by decide)
  have h5 := one_char (Str.ofString "-w") (Str.ofString "w") 16 4 x rfl rfl rfl 5 (by decide)
  have h6 := three_char (Str.ofString "-xSs") (Str.ofString "s") (Str.ofString "S") (Str.ofString "x") 10 3 x (.inr (.inl rfl)) rfl rfl rfl rfl 6 (by decide)
  have h7 := one_char (Str.ofString "-r") (Str.ofString "r") 4 2 x rfl rfl rfl 7 (by decide)
  have h8 := one_char (Str.ofString "-w") (Str.ofString "w") 2 1 x rfl rfl rfl 8 (by decide)
  have h9 := three_char (Str.ofString "-xTt") (Str.ofString "t") (Str.ofString "T") (Str.ofString "x") 9 0 x (.inr (.inr rfl)) rfl rfl rfl rfl 9 (by decide)
  show [fchar (x : Int) 0 (tabD.getD 0 []), fchar (x : Int) 1 [((256 : Nat), Str.ofString "r")], fchar (x : Int) 2 [((128 : Nat), Str.ofString "w")], fchar (x : Int) 3 [(((2 ^ 11 ||| 2 ^ 6 : Nat) : Int), Str.ofString "s"), (((2 ^ 11 : Nat) : Int), Str.ofString "S"), (((2 ^ 6 : Nat) : Int), Str.ofString "x")],
    fchar (x : Int) 4 [((32 : Nat), Str.ofString "r")], fchar (x : Int) 5 [((16 : Nat), Str.ofString "w")], fchar (x : Int) 6 [(((2 ^ 10 ||| 2 ^ 3 : Nat) : Int), Str.ofString "s"), (((2 ^ 10 : Nat) : Int), Str.ofString "S"), (((2 ^ 3 : Nat) : Int), Str.ofString "x")],
    fchar (x : Int) 7 [((4 : Nat), Str.ofString "r")], fchar (x : Int) 8 [((2 : Nat), Str.ofString "w")], fchar (x : Int) 9 [(((2 ^ 9 ||| 2 ^ 0 : Nat) : Int), Str.ofString "t"), (((2 ^ 9 : Nat) : Int), Str.ofString "T"), (((2 ^ 0 : Nat) : Int), Str.ofString "x")]] = tenN x
  rw [h0, h1, h2, h3, h4, h5, h6, h7, h8, h9]
  simp only [Nat.reducePow, Nat.div_one]
  rfl
theorem str_app (l r : Array Nat) : (Str.mk l) ++ (Str.mk r) = Str.mk (l ++ r) := rfl
theorem joinN_eq (a0 a1 a2 a3 a4 a5 a6 a7 a8 a9 : Nat) : joinN [⟨#[a0]⟩, ⟨#[a1]⟩, ⟨#[a2]⟩, ⟨#[a3]⟩, ⟨#[a4]⟩, ⟨#[a5]⟩, ⟨#[a6]⟩, ⟨#[a7]⟩, ⟨#[a8]⟩, ⟨#[a9]⟩] = ⟨#[a0, a1, a2, a3, a4, a5, a6, a7, a8, a9]⟩ := by
  simp [joinN, str_app]
theorem join10 (a0 a1 a2 a3 a4 a5 a6 a7 a8 a9 : Nat) : Txt.join (Str.ofString "") [⟨#[a0]⟩, ⟨#[a1]⟩, ⟨#[a2]⟩, ⟨#[a3]⟩, ⟨#[a4]⟩, ⟨#[a5]⟩, ⟨#[a6]⟩, ⟨#[a7]⟩, ⟨#[a8]⟩, ⟨#[a9]⟩] =
    joinN [⟨#[a0]⟩, ⟨#[a1]⟩, ⟨#[a2]⟩, ⟨#[a3]⟩, ⟨#[a4]⟩, ⟨#[a5]⟩, ⟨#[a6]⟩, ⟨#[a7]⟩, ⟨#[a8]⟩, ⟨#[a9]⟩] := by
  rw [joinN_eq]
  have e : (Str.ofString "").cps = #[] := rfl
  unfold Txt.join Builtin.Str.glued
  simp [e]
theorem fmode_ten {x : Nat} (h : x < 65536) : fmode (x : Int) = ten (x : Int) := by
  rw [ten_nat]
  unfold fmode
  rw [fl_nat h]
  exact join10 _ _ _ _ _ _ _ _ _ _
end Mine
end

/-! # P6 -/
section
set_option autoImplicit false
set_option linter.unusedSectionVars false
set_option linter.unusedVariables false
open PySem PySem.W PyProof.Rows
set_option Elab.async false
set_option maxRecDepth 100000
namespace Mine
theorem pc_two (T : Str) (hT : T.cps.getD 0 0 ≠ T.cps.getD 1 0) {a b : Nat} (ha : a < 2) (hb : b < 2) (h : T.cps.getD ((a : Int)).toNat 0 = T.cps.getD ((b : Int)).toNat 0) : a = b := by
  have h1 : a = 0 ∨ a = 1 := by omega
  have h2 : b = 0 ∨ b = 1 := by omega
  rcases h1 with rfl | rfl <;> rcases h2 with rfl | rfl
  · rfl
  · exact absurd h hT
  · exact absurd h.symm hT
  · rfl
theorem pc_four (T : Str) (hT : ∀ a b : Fin 4, T.cps.getD a.val 0 = T.cps.getD b.val 0 → a = b) {a b : Nat} (ha : a < 4) (hb : b < 4) (h : T.cps.getD ((a : Int)).toNat 0 = T.cps.getD ((b : Int)).toNat 0) : a = b := by
  have := hT ⟨a, ha⟩ ⟨b, hb⟩ (by simpa using h)
  exact congrArg Fin.val this

theorem lt4 (a b : Nat) : a % 2 * 2 + b % 2 < 4 := by omega
theorem spl {a b c d : Nat} (h : a % 2 * 2 + b % 2 = c % 2 * 2 + d % 2) : a % 2 = c % 2 ∧ b % 2 = d % 2 := by omega
theorem half {x y k : Nat} (h : x / (k * 2) = y / (k * 2)) (hb : x / k % 2 = y / k % 2) : x / k = y / k := by
  rw [← Nat.div_div_eq_div_mul, ← Nat.div_div_eq_div_mul] at h
  omega
theorem ten_inj {x y : Nat} (hxy : x / 4096 = y / 4096) (h : ten (x : Int) = ten (y : Int)) : x = y := by
  rw [ten_nat, ten_nat] at h
  have h := (joinN_eq _ _ _ _ _ _ _ _ _ _).symm.trans (h.trans (joinN_eq _ _ _ _ _ _ _ _ _ _))
  injection h with h
  have h := congrArg Array.toList h
  simp only [List.cons.injEq, and_true] at h
  obtain ⟨-, h1, h2, h3, h4, h5, h6, h7, h8, h9⟩ := h
  have hr : ∀ {a b : Nat}, a < 2 → b < 2 → (Str.ofString "-r").cps.getD ((a : Int)).toNat 0 = (Str.ofString "-r").cps.getD ((b : Int)).toNat 0 → a = b := pc_two _ (by decide)
  have hw : ∀ {a b : Nat}, a < 2 → b < 2 → (Str.ofString "-w").cps.getD ((a : Int)).toNat 0 = (Str.ofString "-w").cps.getD ((b : Int)).toNat 0 → a = b := pc_two _ (by decide)
  have hs : ∀ {a b : Nat}, a < 4 → b < 4 → (Str.ofString "-xSs").cps.getD ((a : Int)).toNat 0 = (Str.ofString "-xSs").cps.getD ((b : Int)).toNat 0 → a = b := pc_four _ (by decide +kernel)
  have ht : ∀ {a b : Nat}, a < 4 → b < 4 → (Str.ofString "-xTt").cps.getD ((a : Int)).toNat 0 = (Str.ofString "-xTt").cps.getD ((b : Int)).toNat 0 → a = b := pc_four _ (by decide +kernel)
  have m2 : ∀ a : Nat, a % 2 < 2 := fun a => Nat.mod_lt _ (by decide)
  have h1 := hr (m2 _) (m2 _) h1
  have h2 := hw (m2 _) (m2 _) h2
  have h3 := spl (hs (lt4 _ _) (lt4 _ _) h3)
  have h4 := hr (m2 _) (m2 _) h4
  have h5 := hw (m2 _) (m2 _) h5
  have h6 := spl (hs (lt4 _ _) (lt4 _ _) h6)
  have h7 := hr (m2 _) (m2 _) h7
  have h8 := hw (m2 _) (m2 _) h8
  have h9 := spl (ht (lt4 _ _) (lt4 _ _) h9)
  have a1 : x / 2048 = y / 2048 := half hxy h3.1
  have a2 : x / 1024 = y / 1024 := half a1 h6.1
  have a3 : x / 512 = y / 512 := half a2 h9.1
  have a4 : x / 256 = y / 256 := half a3 h1
  have a5 : x / 128 = y / 128 := half a4 h2
  have a6 : x / 64 = y / 64 := half a5 h3.2
  have a7 : x / 32 = y / 32 := half a6 h4
  have a8 : x / 16 = y / 16 := half a7 h5
  have a9 : x / 8 = y / 8 := half a8 h6.2
  have a10 : x / 4 = y / 4 := half a9 h7
  have a11 : x / 2 = y / 2 := half a10 h8
  have a12 := h9.2
  clear h1 h2 h3 h4 h5 h6 h7 h8 h9 hr hw hs ht h m2
  omega

/-! ## sums of different powers of two -/
noncomputable def fsum (p : Nat → Bool) : Nat → Int
  | 0 => 0
  | m + 1 => fsum p m + (if p m = true then 2 ^ m else 0)
theorem fsum_bd (p : Nat → Bool) (m : Nat) : 0 ≤ fsum p m ∧ fsum p m < 2 ^ m := by
  induction m with
  | zero => exact ⟨Int.le_refl _, by show (0 : Int) < 1; decide⟩
  | succ m ih =>
    have e : (2 : Int) ^ (m + 1) = 2 ^ m + 2 ^ m := by rw [Int.pow_succ]; omega
    show 0 ≤ fsum p m + (if p m = true then 2 ^ m else 0) ∧ fsum p m + (if p m = true then 2 ^ m else 0) < _
    rw [e]
    split <;> omega
theorem fsum_inj {p q : Nat → Bool} : ∀ m, fsum p m = fsum q m → ∀ j, j < m → p j = q j := by
  intro m
  induction m with
  | zero => intro _ j hj; omega
  | succ m ih =>
    intro h j hj
    have h : fsum p m + (if p m = true then 2 ^ m else 0) = fsum q m + (if q m = true then 2 ^ m else 0) := h
    have bp := fsum_bd p m
    have bq := fsum_bd q m
    have hpq : p m = q m := by
      cases hp : p m <;> cases hq : q m
      · rfl
      · rw [hp, hq, if_neg Bool.false_ne_true, if_pos rfl] at h; omega
      · rw [hp, hq, if_neg Bool.false_ne_true, if_pos rfl] at h; omega
      · rfl
    by_cases hjm : j = m
    · subst hjm; exact hpq
    · exact ih (by rw [hpq] at h; omega) j (by omega)
theorem pw2_fsum (p : Nat → Bool) : ∀ m, (pw2 ((List.range m).filter p)).sum = fsum p m
  | 0 => rfl
  | m + 1 => by
    rw [List.range_succ, List.filter_append, pw2_append, pw2_fsum p m]
    show _ = fsum p m + (if p m = true then 2 ^ m else 0)
    congr 1
    cases hp : p m <;> simp [pw2, hp]
theorem pw2_mem {J : List Nat} (hn : J.Nodup) (h12 : ∀ j ∈ J, j < 12) : (pw2 J).sum = fsum (fun j => decide (j ∈ J)) 12 := by
  rw [← pw2_fsum]
  refine perm_sum ((List.perm_ext_iff_of_nodup hn (List.nodup_range.filter _)).mpr fun j => ?_)
  simp only [List.mem_filter, List.mem_range, decide_eq_true_eq]
  exact ⟨fun h => ⟨h12 j h, h⟩, fun h => h.2⟩

theorem tst_inj {n c c' : Nat} (hn : n ≤ 4) (hc : c < 2 ^ n) (hc' : c' < 2 ^ n) (h : ∀ k, k < n → tst (c : Int) k = tst (c' : Int) k) : c = c' := by
  have key : ∀ n : Fin 5, ∀ c c' : Fin 16, c.val < 2 ^ n.val → c'.val < 2 ^ n.val → ((List.range n.val).all fun k => tst ((c.val : Nat) : Int) k == tst ((c'.val : Nat) : Int) k) = true → c = c' := by decide +kernel
  have h16 : 2 ^ n ≤ 2 ^ 4 := Nat.pow_le_pow_right (n := 2) (by decide) hn
  have := key ⟨n, by omega⟩ ⟨c, by omega⟩ ⟨c', by omega⟩ hc hc' (List.all_eq_true.mpr fun k hk => by rw [h k (by simpa using hk)]; exact beq_self_eq_true _)
  exact congrArg Fin.val this

section
variable {is : List Nat}
noncomputable def JJ (is : List Nat) (c : Nat) : List Nat := (idx is.length c).map fun k => is.getD k 0
theorem SS_pw2 (c : Nat) : SS (pw2 is) c = (pw2 (JJ is c)).sum := by
  unfold SS
  rw [gone_idx]
  have hl : (pw2 is).length = is.length := by simp [pw2]
  rw [hl]
  congr 1
  unfold JJ pw2
  rw [List.map_map]
  refine List.map_congr_left fun k hk => ?_
  have hk : k < is.length := by have := (List.mem_filter.mp hk).1; simpa using this
  simp [gat, pw2, hk]
theorem JJ_nodup (hnd : is.Nodup) (c : Nat) : (JJ is c).Nodup := by
  unfold JJ
  have hi : (idx is.length c).Nodup := List.nodup_range.filter _
  refine List.pairwise_map.mpr (hi.imp_of_mem fun {a b} ha hb hab e => hab ?_)
  have ha : a < is.length := by have := (List.mem_filter.mp ha).1; simpa using this
  have hb : b < is.length := by have := (List.mem_filter.mp hb).1; simpa using this
  have e : is[a] = is[b] := by simpa [ha, hb] using e
  exact (List.getElem_inj hnd).mp e
theorem JJ_mem (hnd : is.Nodup) (c : Nat) {k : Nat} (hk : k < is.length) : is[k] ∈ JJ is c ↔ tst (c : Int) k = true := by
  unfold JJ
  rw [List.mem_map]
  constructor
  · rintro ⟨a, ha, e⟩
    have hal : a < is.length := by have := (List.mem_filter.mp ha).1; simpa using this
    have e : is[a] = is[k] := by simpa [hal] using e
    have := (List.getElem_inj hnd).mp e
    subst this
    exact (List.mem_filter.mp ha).2
  · intro h
    exact ⟨k, List.mem_filter.mpr ⟨by simpa using hk, h⟩, by simp [hk]⟩
theorem JJ_lt (h12 : ∀ i ∈ is, i < 12) (c : Nat) : ∀ j ∈ JJ is c, j < 12 := fun j hj => by
  obtain ⟨a, ha, rfl⟩ := List.mem_map.mp hj
  have hal : a < is.length := by have := (List.mem_filter.mp ha).1; simpa using this
  have e : is.getD a 0 = is[a] := by simp [hal]
  rw [e]; exact h12 _ (List.getElem_mem _)
theorem SS_inj (hnd : is.Nodup) (h12 : ∀ i ∈ is, i < 12) (hl : is.length ≤ 4) {c c' : Nat} (hc : c < 2 ^ is.length) (hc' : c' < 2 ^ is.length) (h : SS (pw2 is) c = SS (pw2 is) c') : c = c' := by
  rw [SS_pw2, SS_pw2, pw2_mem (JJ_nodup hnd c) (JJ_lt h12 c), pw2_mem (JJ_nodup hnd c') (JJ_lt h12 c')] at h
  have h := fsum_inj 12 h
  refine tst_inj hl hc hc' fun k hk => ?_
  have hd := h is[k] (h12 _ (List.getElem_mem _))
  have h1 := JJ_mem hnd c hk
  have h2 := JJ_mem hnd c' hk
  have hiff : is[k] ∈ JJ is c ↔ is[k] ∈ JJ is c' := by simpa using hd
  have : tst (c : Int) k = true ↔ tst (c' : Int) k = true := h1.symm.trans (hiff.trans h2)
  exact Bool.eq_iff_iff.mpr this
theorem SS_bd (h12 : ∀ i ∈ is, i < 12) (c : Nat) : 0 ≤ SS (pw2 is) c ∧ SS (pw2 is) c ≤ (pw2 is).sum := by
  have key : ∀ m, m ≤ is.length → 0 ≤ (goneI (pw2 is) (c : Int) m).sum ∧ (goneI (pw2 is) (c : Int) m).sum ≤ ((pw2 is).take m).sum := by
    intro m
    induction m with
    | zero => intro _; exact ⟨Int.le_refl _, Int.le_refl _⟩
    | succ m ih =>
      intro hm
      have hm' : m < (pw2 is).length := by simp [pw2]; omega
      have hg : gat (pw2 is) m = (pw2 is)[m] := by simp [gat, hm']
      have hp : 0 ≤ (pw2 is)[m] := (pw2_bound h12 _ (List.getElem_mem _)).1
      have ih := ih (by omega)
      rw [goneI_sum, List.take_add_one, List.getElem?_eq_getElem hm', Option.toList_some, List.sum_append, List.sum_singleton, hg]
      split <;> omega
  have := key is.length (Nat.le_refl _)
  have e : (pw2 is).take is.length = pw2 is := List.take_of_length_le (by simp [pw2])
  rw [e] at this
  have e2 : SS (pw2 is) c = (goneI (pw2 is) (c : Int) is.length).sum := by unfold SS gone; simp [pw2]
  rw [e2]; exact this
end

theorem keys_of {M : Int} {bs : List Int} (h : Drawn M bs) : Keys M bs := by
  obtain ⟨hi, rest, is, rfl, hnd, h12, h2, h4, h0, h16, hr, hs, rfl⟩ := h
  have hl : (pw2 is).length = is.length := by simp [pw2]
  have rng : ∀ c, ∃ x : Nat, hi * 4096 + (pw2 is).sum + rest - SS (pw2 is) c = (x : Int) ∧ x < 65536 ∧ x / 4096 = hi.toNat := fun c => by
    have := SS_bd h12 c
    exact ⟨(hi * 4096 + (pw2 is).sum + rest - SS (pw2 is) c).toNat, by omega, by omega, by omega⟩
  refine ⟨by omega, fun c _ => ?_, fun c c' hc hc' he => ?_⟩
  · obtain ⟨x, hx, hlt, _⟩ := rng c
    rw [hx]; exact fmode_ten hlt
  · obtain ⟨x, hx, _, hx2⟩ := rng c
    obtain ⟨y, hy, _, hy2⟩ := rng c'
    rw [hx, hy] at he
    have := ten_inj (hx2.trans hy2.symm) he
    rw [hl] at hc hc'
    exact SS_inj hnd h12 h4 hc hc' (by omega)
theorem plainLaw : PlainLaw := fun M bs h => by
  have H := keys_of h
  obtain ⟨hi, rest, is, hbs, hnd, h12, h2, h4, _⟩ := id h
  have hl : bs.length = is.length := by rw [hbs]; simp [pw2]
  have hbn : bs.Nodup := by
    rw [hbs]
    unfold pw2
    refine List.Pairwise.map _ (fun a b hab e => hab ?_) hnd
    have e : ((2 ^ a : Nat) : Int) = ((2 ^ b : Nat) : Int) := by push_cast; exact e
    exact (Nat.pow_right_inj (by decide)).mp (Int.ofNat.inj e)
  have h3 : bs.length = 2 ∨ bs.length = 3 ∨ bs.length = 4 := by omega
  refine plain_of H hbn ?_ ?_
  · rcases h3 with h | h | h <;> rw [h]
    · exact chk2
    · exact chk3
    · exact chk4
  · rcases h3 with h | h | h <;> rw [h]
    · exact okD2
    · exact okD3
    · exact okD4
end Mine
end

/-! # J1 -/
section
set_option autoImplicit false
set_option linter.unusedSectionVars false
set_option linter.unusedVariables false
open PySem PySem.W PyProof.Rows
set_option Elab.async false
set_option maxRecDepth 100000
namespace Mine
theorem ints_all {vs : List Value} {ns : List Int} (h : IntsAre vs ns) : All2 IntR vs ns := by
  induction h with
  | nil => exact .nil
  | cons n t _ ih => exact .cons ⟨t, rfl⟩ ih
section
variable {R : WRecords} {cl : Str → Option Addr} {h : Heap} {v : Value} {as : List Addr}
theorem rd_tup {xs : List WData} (x : ReadsW R cl h v (.tuple xs) as) : ∃ a vs bs, v = .ref a ∧ ZT h.get? a vs ∧ ReadsAllW R cl h vs xs bs := by
  cases x with
  | @tuple a o vs n _ _ ho hc hd hr => exact ⟨a, vs.toList, _, rfl, ⟨o, ho, hc, n, by simpa using hd⟩, hr⟩
theorem rd_all {α : Type} {f : α → WData} {P : Value → α → Prop} (hf : ∀ v a as, ReadsW R cl h v (f a) as → P v a) : ∀ (l : List α) (vs : List Value) (as : List Addr), ReadsAllW R cl h vs (l.map f) as → All2 P vs l := by
  intro l
  induction l with
  | nil => intro vs as x; cases x; exact .nil
  | cons a r ih => intro vs as x; cases x with | cons h1 h2 => exact .cons (hf _ _ _ h1) (ih _ _ h2)
noncomputable def pairW (p : Int × Str) : WData := .tuple [.int p.1, .str p.2]
noncomputable def rowW (r : List (Int × Str)) : WData := .tuple (r.map pairW)
theorem rd_pair (v : Value) (p : Int × Str) (as : List Addr) (x : ReadsW R cl h v (pairW p) as) : PairZ h.get? v p := by
  obtain ⟨a, vs, bs, rfl, hz, hr⟩ := rd_tup x
  cases hr with
  | cons h1 hr =>
    cases hr with
    | cons h2 hr =>
      cases hr
      cases h1
      cases h2
      exact ⟨a, _, _, rfl, hz⟩
theorem rd_row (v : Value) (r : List (Int × Str)) (as : List Addr) (x : ReadsW R cl h v (rowW r) as) : RowZ h.get? v r := by
  obtain ⟨a, vs, bs, rfl, hz, hr⟩ := rd_tup x
  exact ⟨a, vs, rfl, hz, rd_all rd_pair _ _ _ hr⟩
theorem rd_tab (x : ReadsW R cl h v (.tuple (tabD.map rowW)) as) : TabZ h.get? v := by
  obtain ⟨a, vs, bs, rfl, hz, hr⟩ := rd_tup x
  exact ⟨a, vs, rfl, hz, rd_all rd_row _ _ _ hr⟩
end

theorem fn_of {p : Program} {loose : List Str} {mean : ExcName → Option Value} {mg mb : Str → Option Value} {h : Heap} (T : Top p loose mean mg mb h) {i k : Nat} {d : DefRec} (hk : (recsOf p)[k]? = some d)
    (h1 : d.name = nmOf (stAt i)) (h2 : d.params = argsOf (stAt i)) (h3 : d.body = bodyOf (stAt i)) (h4 : d.scope = scopeOf (stAt i)) : ∃ a, FnIn h mg i a := by
  obtain ⟨a, o, pm, code, doc, e1, e2, e3, e4⟩ := T.fn d (List.mem_of_getElem? hk)
  rw [h1] at e1 e4
  rw [h1, h2, h3, h4] at e3
  exact ⟨a, o, pm, code, doc, e1, e2, e3, e4⟩

theorem room_caller : Room callerA 11 := ⟨rfl, by decide +kernel, by decide +kernel⟩

theorem finish {prog : Program} {w : World} {mg mb : Str → Option Value} {s : Shared} {fa l : Addr} {vs : List Value} {ns : List Int} {tv : Value} {Q E : Value → Shared → Prop}
    (G : Gd s.heap mg mb) (hmg : mg (nmOf (stAt 34)) = some (.ref fa)) (hmgT : mg (Str.ofString "_filemode_table") = some tv) (hT : TabZ s.heap.get? tv) (hL : s.heap.IsList l vs.toArray) (hI : IntsAre vs ns) (hlen : ¬ ((63 : Nat) : Int) < (ns.length : Int))
    (hQ : ∀ s', (∃ h tk, s' = { s with heap := h, toks := tk }) → (∀ b o, s.heap.get? b = some o → s'.heap.get? b = some o) → Q (.bool true) s') :
    wpAny (model prog w) callerA (call (.ref fa) [.ref l]) Q E s := by
  obtain ⟨a, hf⟩ := G.fn 34 (by decide)
  have ha : a = fa := by
    obtain ⟨_, _, _, _, e, _⟩ := id hf
    rw [hmg] at e; cases e; rfl
  subst ha
  have hi := ints_all hI
  refine fn_law plainLaw (z := s.heap.get?) (sa := l) (svs := vs) hL hi (by rw [hi.length]; omega) G hmgT hT hf callerA s Q E room_caller (fun _ _ e => e) (fun _ _ e => e) fun r z' s' gr hp => ?_
  subst hp
  exact hQ s' gr.same gr.keep
end Mine
end

open PySem PySem.W PyProof.Rows
set_option maxRecDepth 100000 in
set_option maxHeartbeats 8000000 in
theorem PySem.Challenge.cw_mq0189_01_holds : PySem.Challenge.rw_mq0189_01.Holds := by
  w_on
  o_law
  k_head
  case hw => w_witness2
  k_fill
  intro w s₀ s₁ mg mb G Y fa o pm cd doc dV kV ho hd hcd hD hmg hg args vals as hpre hlay hrd hwl hlo
  have V := (Ground.X G).2
  refine Ground.open G ?_
  intro T B D TE TW
  wrow_args hpre hlay hrd hwl hlo
  clear B D TE TW Y hcd hD ho hd G
  rename_i ns _ _ _ _ _ _ _ l vs _ hL _ _ _ hI _ hlen _
  obtain ⟨tv, hmgT, hTab⟩ := V.val _ List.mem_cons_self
  have G : Mine.Gd s₁.heap mg mb := by
    refine ⟨T.g, T.b, T.nolimit, ?_, ?_, T.builtins⟩
    · intro i hi
      simp only [List.mem_cons, List.not_mem_nil, or_false] at hi
      rcases hi with rfl | rfl | rfl | rfl | rfl | rfl | rfl | rfl | rfl | rfl | rfl | rfl
      · exact Mine.fn_of T (k := 0) (by rfl) (by rfl) (by rfl) (by rfl) (by rfl)
      · exact Mine.fn_of T (k := 1) (by rfl) (by rfl) (by rfl) (by rfl) (by rfl)
      · exact Mine.fn_of T (k := 2) (by rfl) (by rfl) (by rfl) (by rfl) (by rfl)
      · exact Mine.fn_of T (k := 3) (by rfl) (by rfl) (by rfl) (by rfl) (by rfl)
      · exact Mine.fn_of T (k := 4) (by rfl) (by rfl) (by rfl) (by rfl) (by rfl)
      · exact Mine.fn_of T (k := 5) (by rfl) (by rfl) (by rfl) (by rfl) (by rfl)
      · exact Mine.fn_of T (k := 6) (by rfl) (by rfl) (by rfl) (by rfl) (by rfl)
      · exact Mine.fn_of T (k := 7) (by rfl) (by rfl) (by rfl) (by rfl) (by rfl)
      · exact Mine.fn_of T (k := 8) (by rfl) (by rfl) (by rfl) (by rfl) (by rfl)
      · exact Mine.fn_of T (k := 9) (by rfl) (by rfl) (by rfl) (by rfl) (by rfl)
      · exact Mine.fn_of T (k := 10) (by rfl) (by rfl) (by rfl) (by rfl) (by rfl)
      · exact Mine.fn_of T (k := 11) (by rfl) (by rfl) (by rfl) (by rfl) (by rfl)
    · intro x hx
      simp only [List.mem_cons, List.not_mem_nil, or_false] at hx
      rcases hx with rfl | rfl | rfl | rfl | rfl | rfl | rfl
      all_goals exact T.free _ (by decide +kernel) (by decide +kernel) (by decide +kernel) (by decide +kernel) (by decide +kernel)
  refine Mine.finish G hmg hmgT (Mine.rd_tab hTab) hL hI hlen ?_
  rintro s' ⟨h', tk, rfl⟩ hk
  refine GoodW.toG ⟨.inl ⟨_, _, _, rfl, ?_, .bool true, ?_, ?_⟩, hk, rfl, hg⟩
  · intro cls; rfl
  · wrow_post
  · intro _; exact ⟨List.nodup_nil, fun a ha => by cases ha⟩
