import PyProof.Rows.All
import Wide.All
import OpenK.AllK
import KE.KSortTup
import KE.KNest
import KE.KAnyBase
import KE.KTupTruth
import Wide.FinOn
import PySem.Challenge.RW_bn0044_01
set_option Elab.async false
section
open PySem PySem.W PyProof.Rows
namespace Mine
abbrev tabE : Obj := { cls := .none, data := .fields #[] }
-- the head's part, and the two tables of genexpr codes that the walk writes to
local macro_rules | `(tactic| o_head ($_ $k $a $e)) => `(tactic| o_head kHook (fun P => $k P ++ [(128, tabE), (220, tabE)]) ($a ++ [128, 220]) $e)
set_option maxRecDepth 100000 in
set_option maxHeartbeats 8000000 in
open_top hd for PySem.Challenge.rw_bn0044_01
end Mine
end

section
open PySem PySem.W PySem.Calls PyProof.Rows
namespace Mine
theorem size_update (h : Heap) (a : Addr) (f : Obj → Obj) : (h.update a f).objs.size = h.objs.size := (Heap.SameBut.update h a f).1
def hz (s : Shared) : Nat := s.heap.objs.size
theorem runs_z {M : Model} {Γ : Ctx} {p : Pos} {t : Sem PySem.Fin} {fs : List Frame} {s s' : Shared} {e : End} (h : Runs M Γ p t fs s e s') : hz s ≤ hz s' := by
  induction h <;> (try simp only [Shared.setGen, hz, size_update, Heap.size_push] at *) <;> omega
theorem wakes_z {M : Model} {Γ : Ctx} {p : Pos} {g : Nat} {r : Resume} {s s' : Shared} {res : GenResult} (h : Wakes M Γ p g r s res s') : hz s ≤ hz s' := by
  unfold Wakes at h
  split at h
  · exact h.elim
  · split at h
    · obtain ⟨e₁, s₁, hr, _, _, rfl⟩ := h; exact (runs_z hr : hz (s.setGen g .running) ≤ hz s₁)
    · rw [h.2]; exact Nat.le_refl _
    · rw [h.2]; exact Nat.le_refl _
  · obtain ⟨e₁, s₁, hr, _, _, rfl⟩ := h; exact (runs_z hr : hz (s.setGen g .running) ≤ hz s₁)
  · rw [h.2]; exact Nat.le_refl _
  · rw [h.2]; exact Nat.le_refl _

theorem wp_z {α : Type} (M : Model) (Γ : Ctx) (n : Nat) (t : Sem α) : ∀ (Q : α → Pos → Shared → Prop) (E : Value → Pos → Shared → Prop) (p : Pos) (s : Shared), n ≤ hz s → Sem.wp M Γ t Q E p s →
    Sem.wp M Γ t (fun a p' s' => n ≤ hz s' ∧ Q a p' s') (fun e p' s' => n ≤ hz s' ∧ E e p' s') p s := by
  induction t with
  | pure a => intro Q E p s hn h; exact ⟨hn, h⟩
  | raise e => intro Q E p s hn h; exact ⟨hn, h⟩
  | unsupported _ => intro Q E p s _ h; exact h
  | finish _ => intro Q E p s _ h; exact h
  | rule _ k ih => intro Q E p s hn h; exact ih () Q E p s hn h
  | «at» p' k ih => intro Q E p s hn h; exact ih () Q E p' s hn h
  | load a _ k ih => intro Q E p s hn h; obtain ⟨o, ho, h⟩ := h; exact ⟨o, ho, ih o Q E p s hn h⟩
  | update a _ f k ih => intro Q E p s hn h; exact ⟨h.1, ih () Q E p _ (Nat.le_trans hn (Nat.le_of_eq (size_update _ _ _).symm)) h.2⟩
  | loadIfAlive a k ih => intro Q E p s hn h; exact ih _ Q E p s hn h
  | point _ k ih => intro Q E p s hn h; exact ih () Q E p s hn h
  | register _ _ => intro Q E p s _ h; exact h
  | alloc o k ih => intro Q E p s hn h; exact ih _ Q E p _ (Nat.le_trans hn (Nat.le_trans (Nat.le_succ _) (Nat.le_of_eq (Heap.size_push ..).symm))) h
  | fresh k ih => intro Q E p s hn h; exact ih _ Q E p _ hn h
  | ask k ih => intro Q E p s hn h; exact ih _ Q E p s hn h
  | choose src m k ih => intro Q E p s hn h; exact ⟨h.1, ih _ Q E p _ hn h.2⟩
  | os q _ k ih => intro Q E p s hn h; exact ih _ Q E p _ hn h
  | call c hd _ _ k ih => intro Q E p s hn h; obtain ⟨r, s', hr, h⟩ := h; exact ⟨r, s', hr, ih r Q E p s' (Nat.le_trans hn (runs_z hr)) h⟩
  | handled own k ih => intro Q E p s hn h; exact ih _ Q E p s hn h
  | genState g k ih => intro Q E p s hn h; obtain ⟨st, hs, h⟩ := h; exact ⟨st, hs, ih _ Q E p s hn h⟩
  | newGen c k ih => intro Q E p s hn h; exact ih _ Q E p _ hn h
  | resume g r _ k ih => intro Q E p s hn h; obtain ⟨res, s', hw, h⟩ := h; exact ⟨res, s', hw, ih res Q E p s' (Nat.le_trans hn (wakes_z hw)) h⟩
  | yield _ _ _ _ => intro Q E p s _ h; exact h
  | stack k ih => intro Q E p s hn h; exact ih _ Q E p s hn h
  | fork _ _ => intro Q E p s _ h; exact h
  | thread k ih => intro Q E p s hn h; exact ih _ Q E p s hn h
  | await _ _ _ _ _ => intro Q E p s _ h; exact h

theorem sz {α : Type} {M : Model} {A : Around} {s : Shared} {t : Sem α} {Q : α → Shared → Prop} {E : Value → Shared → Prop}
    (h : wpAny M A t (fun a s' => s.heap.objs.size ≤ s'.heap.objs.size → Q a s') (fun e s' => s.heap.objs.size ≤ s'.heap.objs.size → E e s') s) : wpAny M A t Q E s :=
  wpAny_mono (Q := fun a s' => hz s ≤ hz s' ∧ (s.heap.objs.size ≤ s'.heap.objs.size → Q a s')) (E := fun e s' => hz s ≤ hz s' ∧ (s.heap.objs.size ≤ s'.heap.objs.size → E e s'))
    (fun Γ p hΓ => wp_z M Γ _ t _ _ p s (Nat.le_refl _) (h Γ p hΓ)) (fun _ _ x => x.2 x.1) (fun _ _ x => x.2 x.1)
end Mine
end

section
open PySem PySem.W PySem.Calls PyProof.Rows
namespace Mine

/-! ## the ghost heap, the relation between states, the frame -/

def Sub (g h : Heap) : Prop := ∀ b o, g.get? b = some o → h.get? b = some o
theorem Sub.refl (g : Heap) : Sub g g := fun _ _ e => e
theorem Sub.trans {a b c : Heap} (x : Sub a b) (y : Sub b c) : Sub a c := fun q o e => y q o (x q o e)

def putH (g : Heap) (a : Addr) (o : Obj) : Heap := ⟨(g.objs ++ Array.replicate (a + 1 - g.objs.size) ({ cls := .none, data := .freed } : Obj)).setIfInBounds a o, g.life⟩
theorem get?_eq (h : Heap) (b : Addr) : h.get? b = (h.objs[b]?).bind fun o => if o.isFreed then none else some o := by
  unfold Heap.get?
  rcases q : h.objs[b]? with _ | ⟨c, d, dt, sl⟩
  · rfl
  · cases dt <;> rfl
theorem putH_get {g : Heap} {a : Addr} {o : Obj} (hf : o.isFreed = false) (b : Addr) : (putH g a o).get? b = if b = a then some o else g.get? b := by
  rw [get?_eq, get?_eq]
  unfold putH
  by_cases h : b = a
  · subst h
    rw [if_pos rfl]
    have hz : b < (g.objs ++ Array.replicate (b + 1 - g.objs.size) ({ cls := .none, data := .freed } : Obj)).size := by
      rw [Array.size_append, Array.size_replicate]
      exact Nat.lt_of_lt_of_le (Nat.lt_succ_self b) (Nat.sub_le_iff_le_add'.mp (Nat.le_refl _))
    rw [Array.getElem?_setIfInBounds_self_of_lt hz]
    simp [hf]
  · rw [if_neg h, Array.getElem?_setIfInBounds_ne (fun e => h e.symm)]
    rcases Nat.lt_or_ge b g.objs.size with hb | hb
    · rw [Array.getElem?_append_left hb]
    · rw [Array.getElem?_append_right hb, Array.getElem?_eq_none hb]
      rw [Array.getElem?_replicate]
      split <;> rfl

theorem get?_free {h : Heap} {a : Addr} {o : Obj} (e : h.get? a = some o) : o.isFreed = false := by
  rw [get?_eq] at e
  obtain ⟨x, _, q⟩ := Option.bind_eq_some_iff.mp e
  split at q
  · cases q
  · rename_i hq; cases q; simpa using hq

def GenRel (a b : Array GenState) : Prop := a.size ≤ b.size ∧ (∀ i, i < a.size → b[i]? = a[i]?) ∧ ∀ i x, a.size ≤ i → b[i]? = some x → x.bare = true
theorem GenRel.refl (a : Array GenState) : GenRel a a := ⟨Nat.le_refl _, fun _ _ => rfl, fun _ _ h1 h2 => by rw [Array.getElem?_eq_none h1] at h2; cases h2⟩
theorem GenRel.trans {a b c : Array GenState} (x : GenRel a b) (y : GenRel b c) : GenRel a c := by
  refine ⟨Nat.le_trans x.1 y.1, fun i h => (y.2.1 i (Nat.lt_of_lt_of_le h x.1)).trans (x.2.1 i h), fun i z h1 h2 => ?_⟩
  rcases Nat.lt_or_ge i b.size with h | h
  · rw [y.2.1 i h] at h2; exact x.2.2 i z h1 h2
  · exact y.2.2 i z h h2
theorem GenRel.push {a : Array GenState} {x : GenState} (h : x.bare = true) : GenRel a (a.push x) := by
  refine ⟨by simp, fun i hi => by rw [Array.getElem?_push_lt hi, Array.getElem?_eq_getElem hi], fun i z h1 h2 => ?_⟩
  rcases Nat.lt_or_ge a.size i with h3 | h3
  · rw [Array.getElem?_eq_none (by simp; omega)] at h2; cases h2
  · have : i = a.size := Nat.le_antisymm h3 h1
    subst this; simp at h2; subst h2; exact h
theorem GenRel.set {a b : Array GenState} {x : GenState} (y : GenRel a b) {i : Nat} (hi : a.size ≤ i) (h : x.bare = true) : GenRel a (b.setIfInBounds i x) := by
  refine ⟨by simpa using y.1, fun j hj => ?_, fun j z h1 h2 => ?_⟩
  · rw [Array.getElem?_setIfInBounds_ne (by omega)]; exact y.2.1 j hj
  · by_cases e : i = j
    · subst e
      rcases Nat.lt_or_ge i b.size with h3 | h3
      · rw [Array.getElem?_setIfInBounds_self_of_lt h3] at h2; cases h2; exact h
      · rw [Array.getElem?_eq_none (by simpa using h3)] at h2; cases h2
    · rw [Array.getElem?_setIfInBounds_ne e] at h2; exact y.2.2 j z h1 h2

structure Rel (mu : List Addr) (s : Shared) (g : Heap) (s' : Shared) (g' : Heap) : Prop where
  sub : Sub g g'
  into : Sub g' s'.heap
  new : ∀ b o, g'.get? b = some o → g.get? b = some o ∨ s.heap.objs.size ≤ b
  keep : ∀ b o, b ∉ mu → s.heap.get? b = some o → s'.heap.get? b = some o
  size : s.heap.objs.size ≤ s'.heap.objs.size
  os : s'.os = s.os
  gens : GenRel s.gens s'.gens

theorem none_of {h h' : Heap} (k : ∀ b o, h.get? b = some o → h'.get? b = some o) : ∀ b, h'.get? b = none → h.get? b = none := fun b e => by
  cases q : h.get? b with
  | none => rfl
  | some o => rw [k b o q] at e; cases e
theorem Rel.refl {g : Heap} {s : Shared} (h : Sub g s.heap) (mu : List Addr) : Rel mu s g s g := ⟨.refl _, h, fun _ _ e => .inl e, fun _ _ _ e => e, Nat.le_refl _, rfl, .refl _⟩
theorem Rel.trans {mu : List Addr} {s s' s'' : Shared} {g g' g'' : Heap} (x : Rel mu s g s' g') (y : Rel mu s' g' s'' g'') : Rel mu s g s'' g'' :=
  ⟨x.sub.trans y.sub, y.into, fun b o e => (y.new b o e).elim (x.new b o) fun h => .inr (Nat.le_trans x.size h), fun b o n e => y.keep b o n (x.keep b o n e), Nat.le_trans x.size y.size, y.os.trans x.os, x.gens.trans y.gens⟩

/-- the frame's ground: the state and the ghost heap at its start, the old objects that may be changed, the locals' dict -/
structure Fx where
  s0 : Shared
  g0 : Heap
  mu : List Addr
  L : Addr

abbrev Led := List (Addr × (Obj → Prop))

structure In (F : Fx) (g : Heap) (led : Led) (m : Str → Option Value) (s : Shared) : Prop where
  rel : Rel F.mu F.s0 F.g0 s g
  ns : s.heap.Ns F.L m
  fresh : F.s0.heap.objs.size ≤ F.L
  off : g.get? F.L = none
  ent : ∀ p ∈ led, (∃ o, s.heap.get? p.1 = some o ∧ p.2 o) ∧ g.get? p.1 = none ∧ p.1 ≠ F.L ∧ (p.1 ∈ F.mu ∨ F.s0.heap.objs.size ≤ p.1)
  nodup : (led.map (·.1)).Nodup

section
variable {F : Fx} {g g' : Heap} {led led' : Led} {m m' : Str → Option Value} {s s' : Shared}

theorem In.into (H : In F g led m s) : Sub g s.heap := H.rel.into
theorem In.same (H : In F g led m s) (hh : s'.heap = s.heap) (ho : s'.os = s.os) (hg : s'.gens = s.gens) : In F g led m s' := by
  obtain ⟨⟨a, b, c, d, e, f, i⟩, n, x, y, z, w⟩ := H
  exact ⟨⟨a, hh ▸ b, c, hh ▸ d, hh ▸ e, ho.trans f, hg ▸ i⟩, hh ▸ n, x, y, by rw [hh]; exact z, w⟩
theorem In.toks (H : In F g led m s) (k : Nat) : In F g led m { s with toks := k } := H.same rfl rfl rfl

theorem In.here (H : In F g led m s) : s.heap.get? F.L ≠ none := by obtain ⟨o, _, _, h, _⟩ := H.ns; rw [h]; simp
theorem In.get (H : In F g led m s) {a : Addr} {P : Obj → Prop} (h : (a, P) ∈ led) : ∃ o, s.heap.get? a = some o ∧ P o := (H.ent _ h).1
theorem In.ne (H : In F g led m s) {a : Addr} {P : Obj → Prop} (h : (a, P) ∈ led) : g.get? a = none := (H.ent _ h).2.1
theorem In.was (H : In F g led m s) {b : Addr} (h : s.heap.objs.size ≤ b) : F.s0.heap.objs.size ≤ b := Nat.le_trans H.rel.size h
theorem In.lt (H : In F g led m s) : F.L < s.heap.objs.size := by obtain ⟨o, _, _, h, _⟩ := H.ns; exact Heap.lt_size h

/-- a callee or a block came back -/
theorem In.after {mu : List Addr} (H : In F g led m s) (R : Rel mu s g s' g') (hm : ∀ a ∈ mu, a ∈ led.map (·.1))
    (hl : ∀ p ∈ led', (∃ o, s'.heap.get? p.1 = some o ∧ p.2 o) ∧ g'.get? p.1 = none ∧ (p.1 ∈ led.map (·.1) ∨ s.heap.objs.size ≤ p.1)) (hn : (led'.map (·.1)).Nodup) : In F g' led' m s' := by
  have hL : F.L ∉ mu := fun q => by
    obtain ⟨p, hp, e⟩ := List.mem_map.mp (hm _ q)
    exact (H.ent p hp).2.2.1 e
  refine ⟨⟨H.rel.sub.trans R.sub, R.into, fun b o e => ?_, fun b o n e => ?_, Nat.le_trans H.rel.size R.size, R.os.trans H.rel.os, H.rel.gens.trans R.gens⟩, ?_, H.fresh, ?_, fun p hp => ?_, hn⟩
  · exact (R.new b o e).elim (H.rel.new b o) fun h => .inr (H.was h)
  · have h1 := H.rel.keep b o n e
    refine R.keep b o (fun q => ?_) h1
    obtain ⟨p, hp, e'⟩ := List.mem_map.mp (hm _ q)
    rcases (H.ent p hp).2.2.2 with h | h
    · exact n (e' ▸ h)
    · exact absurd (Heap.lt_size e) (Nat.not_lt.mpr (e' ▸ h))
  · obtain ⟨o, es, ep, ho, r⟩ := H.ns
    exact ⟨o, es, ep, R.keep _ _ hL ho, r⟩
  · cases q : g'.get? F.L with
    | none => rfl
    | some o =>
      rcases R.new _ _ q with h | h
      · rw [H.off] at h; cases h
      · exact absurd H.lt (Nat.not_lt.mpr h)
  · obtain ⟨h1, h2, h3⟩ := hl p hp
    refine ⟨h1, h2, ?_, ?_⟩
    · rcases h3 with h3 | h3
      · obtain ⟨q, hq, e⟩ := List.mem_map.mp h3
        exact e ▸ (H.ent q hq).2.2.1
      · exact fun e => Nat.lt_irrefl _ (Nat.lt_of_lt_of_le H.lt (e ▸ h3))
    · rcases h3 with h3 | h3
      · obtain ⟨q, hq, e⟩ := List.mem_map.mp h3
        exact e ▸ (H.ent q hq).2.2.2
      · exact .inr (H.was h3)

theorem In.call0 (H : In F g led m s) (R : Rel [] s g s' g') : In F g' led m s' := by
  refine H.after R (fun _ h => nomatch h) (fun p hp => ?_) H.nodup
  obtain ⟨⟨o, ho, hP⟩, h2, _, _⟩ := H.ent p hp
  refine ⟨⟨o, R.keep _ _ (by simp) ho, hP⟩, ?_, .inl (List.mem_map_of_mem hp)⟩
  cases q : g'.get? p.1 with
  | none => rfl
  | some o' =>
    rcases R.new _ _ q with h | h
    · rw [h2] at h; cases h
    · exact absurd (Heap.lt_size ho) (Nat.not_lt.mpr h)

/-- the heap has grown, the ghost heap stays -/
theorem In.grown (H : In F g led m s) (hk : ∀ b o, s.heap.get? b = some o → s'.heap.get? b = some o) (hz : s.heap.objs.size ≤ s'.heap.objs.size) (ho : s'.os = s.os) (hg : GenRel s.gens s'.gens) : In F g led m s' :=
  H.call0 ⟨.refl _, fun b o e => hk b o (H.into b o e), fun _ _ e => .inl e, fun b o _ e => hk b o e, hz, ho, hg⟩
theorem size_none (h : Heap) : h.get? h.objs.size = none := Heap.get?_none_of_le (Nat.le_refl _)

/-- an object that the ghost heap does not hold comes onto the ledger -/
theorem In.take (H : In F g led m s) {a : Addr} {o : Obj} {P : Obj → Prop} (ho : s.heap.get? a = some o) (hP : P o) (hn : g.get? a = none) (hL : a ≠ F.L) (h0 : F.s0.heap.objs.size ≤ a) (hd : a ∉ led.map (·.1)) : In F g ((a, P) :: led) m s := by
  refine ⟨H.rel, H.ns, H.fresh, H.off, fun p hp => ?_, ?_⟩
  · rcases List.mem_cons.mp hp with rfl | hp
    · exact ⟨⟨o, ho, hP⟩, hn, hL, .inr h0⟩
    · exact H.ent p hp
  · rw [List.map_cons, List.nodup_cons]; exact ⟨hd, H.nodup⟩

theorem In.new' (H : In F g led m s) (hk : ∀ b o, s.heap.get? b = some o → s'.heap.get? b = some o) (hz : s.heap.objs.size ≤ s'.heap.objs.size) (ho : s'.os = s.os) (hg : GenRel s.gens s'.gens) {a : Addr} {o : Obj} {P : Obj → Prop} (ha : s'.heap.get? a = some o) (hs : s.heap.objs.size ≤ a) (hP : P o) : In F g ((a, P) :: led) m s' := by
  refine (H.grown hk hz ho hg).take ha hP ?_ ?_ (H.was hs) ?_
  · cases q : g.get? a with
    | none => rfl
    | some o' => exact absurd (Heap.lt_size (H.into _ _ q)) (Nat.not_lt.mpr hs)
  · exact fun e => Nat.lt_irrefl _ (Nat.lt_of_lt_of_le H.lt (e ▸ hs))
  · intro q
    obtain ⟨p, hp, e⟩ := List.mem_map.mp q
    obtain ⟨⟨o', ho', _⟩, _⟩ := H.ent p hp
    exact absurd (Heap.lt_size ho') (Nat.not_lt.mpr (e ▸ hs))
theorem In.new (H : In F g led m s) (o : Obj) (hf : o.isFreed = false := by rfl) (P : Obj → Prop) (hP : P o) : In F g ((s.heap.objs.size, P) :: led) m { s with heap := s.heap.push o } :=
  H.new' (s' := { s with heap := s.heap.push o }) (o := o) (fun _ _ e => Heap.get?_push_of_some _ e) (by show _ ≤ (s.heap.push o).objs.size; rw [Heap.size_push]; exact Nat.le_succ _) rfl (.refl _) (Heap.get?_push_size _ hf) (Nat.le_refl _) hP

theorem In.new2 (H : In F g led m s) {h' : Heap} (hk : ∀ b o, s.heap.get? b = some o → h'.get? b = some o) (o : Obj) (hf : o.isFreed = false) (P : Obj → Prop) (hP : P o) (hz : s.heap.objs.size ≤ (h'.push o).objs.size) : In F g ((h'.objs.size, P) :: led) m { s with heap := h'.push o } := by
  have G : In F g led m { s with heap := h'.push o } := H.grown (s' := { s with heap := h'.push o }) (fun b x e => Heap.get?_push_of_some _ (hk b x e)) hz rfl (.refl _)
  have lt : ∀ b x, s.heap.get? b = some x → b < h'.objs.size := fun b x e => Heap.lt_size (hk b x e)
  have hL : F.L < h'.objs.size := by obtain ⟨x, _, _, h, _⟩ := H.ns; exact lt _ _ h
  refine G.take (o := o) (Heap.get?_push_size _ hf) hP ?_ (Nat.ne_of_gt hL) (Nat.le_trans H.fresh (Nat.le_of_lt hL)) fun q => ?_
  · cases q : g.get? h'.objs.size with
    | none => rfl
    | some x => exact absurd (lt _ _ (H.into _ _ q)) (Nat.lt_irrefl _)
  · obtain ⟨p, hp, e⟩ := List.mem_map.mp q
    obtain ⟨⟨x, hx, _⟩, _⟩ := H.ent p hp
    exact absurd (lt _ _ hx) (by rw [e]; exact Nat.lt_irrefl _)

/-- an entry of the ledger is frozen -/
theorem In.freeze {a : Addr} {P : Obj → Prop} (H : In F g ((a, P) :: led) m s) (ha : F.s0.heap.objs.size ≤ a) : ∃ o g', P o ∧ g'.get? a = some o ∧ Sub g g' ∧ In F g' led m s := by
  obtain ⟨⟨o, ho, hP⟩, h2, h3, _⟩ := H.ent _ (.head _)
  have hf := get?_free ho
  have hg : ∀ b, (putH g a o).get? b = if b = a then some o else g.get? b := putH_get hf
  have sub : Sub g (putH g a o) := fun b x e => by
    rw [hg]
    by_cases q : b = a
    · subst q; rw [h2] at e; cases e
    · rw [if_neg q]; exact e
  refine ⟨o, putH g a o, hP, by rw [hg, if_pos rfl], sub, ⟨⟨H.rel.sub.trans sub, fun b x e => ?_, fun b x e => ?_, H.rel.keep, H.rel.size, H.rel.os, H.rel.gens⟩, H.ns, H.fresh, ?_, fun p hp => ?_, ?_⟩⟩
  · rw [hg] at e
    by_cases q : b = a
    · subst q; rw [if_pos rfl] at e; cases e; exact ho
    · rw [if_neg q] at e; exact H.into b x e
  · rw [hg] at e
    by_cases q : b = a
    · subst q; exact .inr ha
    · rw [if_neg q] at e; exact H.rel.new b x e
  · rw [hg, if_neg (fun e => h3 e.symm)]; exact H.off
  · obtain ⟨k1, k2, k3, k4⟩ := H.ent p (.tail _ hp)
    refine ⟨k1, ?_, k3, k4⟩
    rw [hg, if_neg]
    · exact k2
    · intro e
      have := H.nodup
      rw [List.map_cons, List.nodup_cons] at this
      exact this.1 (List.mem_map.mpr ⟨p, hp, e⟩)
  · have := H.nodup
    rw [List.map_cons, List.nodup_cons] at this
    exact this.2

theorem In.dropAll (H : In F g led m s) {l : Led} (h : l.Sublist led) : In F g l m s := ⟨H.rel, H.ns, H.fresh, H.off, fun p hp => H.ent p (h.subset hp), H.nodup.sublist (h.map _)⟩
theorem In.drop {p : Addr × (Obj → Prop)} (H : In F g (p :: led) m s) : In F g led m s := H.dropAll (List.sublist_cons_self _ _)
theorem In.perm (H : In F g led m s) {l : Led} (h : l.Perm led) : In F g l m s := ⟨H.rel, H.ns, H.fresh, H.off, fun p hp => H.ent p (h.mem_iff.mp hp), (h.map _).nodup_iff.mpr H.nodup⟩
theorem In.weak {pre post : Led} {a : Addr} {P P' : Obj → Prop} (H : In F g (pre ++ (a, P) :: post) m s) (h : ∀ o, P o → P' o) : In F g (pre ++ (a, P') :: post) m s := by
  refine ⟨H.rel, H.ns, H.fresh, H.off, fun p hp => ?_, by simpa using H.nodup⟩
  rcases List.mem_append.mp hp with q | q
  · exact H.ent p (List.mem_append_left _ q)
  · rcases List.mem_cons.mp q with rfl | q
    · obtain ⟨⟨o, ho, x⟩, r⟩ := H.ent (a, P) (by simp)
      exact ⟨⟨o, ho, h o x⟩, r⟩
    · exact H.ent p (List.mem_append_right _ (.tail _ q))

/-- an object of the ledger is changed -/
theorem In.put {pre post : Led} {a : Addr} {P P' : Obj → Prop} {h' : Heap} {o' : Obj} (H : In F g (pre ++ (a, P) :: post) m s) (hs : Heap.SameBut a s.heap h') (ho' : h'.get? a = some o') (hP : P' o') (k : Nat) :
    In F g (pre ++ (a, P') :: post) m { s with heap := h', toks := k } := by
  obtain ⟨⟨o, ho, _⟩, h2, h3, h4⟩ := H.ent (a, P) (by simp)
  have hne : ∀ p ∈ pre ++ post, p.1 ≠ a := fun p hp e => by
    have := H.nodup
    rw [List.map_append, List.map_cons, List.perm_middle.nodup_iff, List.nodup_cons, ← List.map_append] at this
    exact this.1 (List.mem_map.mpr ⟨p, hp, e⟩)
  have keep : ∀ b x, b ≠ a → s.heap.get? b = some x → h'.get? b = some x := fun b x n e => (hs.2 b n).trans e
  refine ⟨⟨H.rel.sub, fun b x e => keep b x (fun q => by subst q; rw [h2] at e; cases e) (H.into b x e), H.rel.new, fun b x n e => keep b x (fun q => ?_) (H.rel.keep b x n e), Nat.le_trans H.rel.size (Nat.le_of_eq hs.1.symm), H.rel.os, H.rel.gens⟩,
    H.ns.sameBut hs (Ne.symm h3), H.fresh, H.off, fun p hp => ?_, by simpa using H.nodup⟩
  · subst q
    rcases h4 with h4 | h4
    · exact n h4
    · exact absurd (Heap.lt_size e) (Nat.not_lt.mpr h4)
  · rcases List.mem_append.mp hp with q | q
    · obtain ⟨⟨x, hx, y⟩, r⟩ := H.ent p (List.mem_append_left _ q)
      exact ⟨⟨x, keep _ _ (hne p (List.mem_append_left _ q)) hx, y⟩, r⟩
    · rcases List.mem_cons.mp q with rfl | q
      · exact ⟨⟨o', ho', hP⟩, h2, h3, h4⟩
      · obtain ⟨⟨x, hx, y⟩, r⟩ := H.ent p (List.mem_append_right _ (.tail _ q))
        exact ⟨⟨x, keep _ _ (hne p (List.mem_append_right _ q)) hx, y⟩, r⟩

/-- a local is stored -/
theorem In.set {h' : Heap} (H : In F g led m s) (hn : h'.Ns F.L m') (hs : Heap.SameBut F.L s.heap h') (k : Nat) : In F g led m' { s with heap := h', toks := k } := by
  have keep : ∀ b x, b ≠ F.L → s.heap.get? b = some x → h'.get? b = some x := fun b x n e => (hs.2 b n).trans e
  refine ⟨⟨H.rel.sub, fun b x e => keep b x (fun q => by subst q; rw [H.off] at e; cases e) (H.into b x e), H.rel.new, fun b x n e => keep b x (fun q => ?_) (H.rel.keep b x n e), Nat.le_trans H.rel.size (Nat.le_of_eq hs.1.symm), H.rel.os, H.rel.gens⟩,
    hn, H.fresh, H.off, fun p hp => ?_, H.nodup⟩
  · subst q; exact absurd (Heap.lt_size e) (Nat.not_lt.mpr H.fresh)
  · obtain ⟨⟨x, hx, y⟩, r⟩ := H.ent p hp
    exact ⟨⟨x, keep _ _ r.2.1 hx, y⟩, r⟩
end

end Mine
end

section
open PySem PySem.W PySem.Calls PyProof.Rows
namespace Mine

structure KB (w : World) (mg mb : Str → Option Value) (g : Heap) : Prop where
  X : (hd.heap_39 w.params).In g
  G : g.Ns mainGlobals mg
  B : g.Ns builtinsNs mb
  lim : g.NoLimit
  bi : ∀ x : Str, x ≠ "__name__" → mb x = bootBuiltins x
  bm : ∃ b o, BMod g mainGlobals mg b o
theorem KB.mono {w : World} {mg mb : Str → Option Value} {g g' : Heap} (k : KB w mg mb g) (h : Sub g g') : KB w mg mb g' :=
  ⟨k.X.keeps h, k.G.keeps h, k.B.keeps h, k.lim.keeps h, k.bi, let ⟨b, o, x⟩ := k.bm; ⟨b, o, x.keeps h⟩⟩

structure Room (A : Around) (d u : Nat) : Prop where
  hh : A.handled = none
  hd : A.depth + d < recursionLimit
  hu : A.units + u < cLine
theorem Room.deeper {A : Around} {d u : Nat} {env : Env} (r : Room A (d + 1) (u + 3)) : Room (A.deeper env) d u := ⟨r.hh, by have := r.hd; show A.depth + 1 + d < _; omega, by have := r.hu; show A.units + 3 + u < _; omega⟩
theorem Room.in1 {A : Around} {d u : Nat} (r : Room A d (u + 1)) : Room A.in1 d u := ⟨r.hh, r.hd, by have := r.hu; show A.units + 1 + u < _; omega⟩
theorem Room.le {A : Around} {d u d' u' : Nat} (r : Room A d u) (h1 : d' ≤ d) (h2 : u' ≤ u) : Room A d' u' := ⟨r.hh, by have := r.hd; omega, by have := r.hu; omega⟩
theorem Room.lt {A : Around} {d u : Nat} (r : Room A (d + 1) u) : A.depth < recursionLimit := by have := r.hd; omega
theorem Room.ult {A : Around} {d u : Nat} (r : Room A d u) : A.units < cLine := by have := r.hu; omega

section
variable {prog : Program} {w : World} {mg mb : Str → Option Value} {A : Around} {E : Value → Shared → Prop} {s : Shared} {F : Fx} {g : Heap} {led : Led} {m : Str → Option Value} {env : Env}

theorem In.K (H : In F g led m s) (k : KB w mg mb g) : (hd.heap_39 w.params).In s.heap := k.X.keeps H.into

-- names
theorem nm {M : Model} {x : Str} {pos : Pos} {v : Value} {Q : Value → Shared → Prop} (H : In F g led m s) (hv : m x = some v) (h : Q v s) (hL : env.locals = F.L := by rfl)
    (hk : env.scope.kind = .function := by rfl) (hl : env.kindOf x = some .local := by kernel_rfl) (hd : (x == ("__debug__" : Str)) = false := by kernel_rfl) :
    wpAny M A (eval (.Name x pos) env) Q E s := wpAny_Name (wpAny_loadName_local hk hl (hL ▸ H.ns) hv h) hd
theorem nmG {M : Model} {x : Str} {pos : Pos} {v : Value} {Q : Value → Shared → Prop} (H : In F g led m s) (k : KB w mg mb g) (e : nsIn (hd.heap_39 w.params) mainGlobals x = some (some v)) (h : Q v s)
    (hg : env.globals = mainGlobals := by rfl) (hk : env.scope.kind = .function := by rfl) (hx : env.kindOf x = some .globalImplicit := by kernel_rfl) (hd : (x == ("__debug__" : Str)) = false := by kernel_rfl) :
    wpAny M A (eval (.Name x pos) env) Q E s :=
  Name_function_global hk hx (loadGlobal_global (env := env) (by rw [hg]; exact k.G.keeps H.into) (mg_of k.X k.G e) h) hd
theorem nmB {M : Model} {x : Str} {pos : Pos} {v : Value} {Q : Value → Shared → Prop} (H : In F g led m s) (k : KB w mg mb g) (hv : bootBuiltins x = some v) (h : Q v s)
    (e : nsIn (hd.heap_39 w.params) mainGlobals x = some none := by kernel_rfl) (hn : x ≠ "__name__" := by decide) (hg : env.globals = mainGlobals := by rfl) (hb : env.builtins = builtinsNs := by rfl)
    (hk : env.scope.kind = .function := by rfl) (hx : env.kindOf x = some .globalImplicit := by kernel_rfl) (hd : (x == ("__debug__" : Str)) = false := by kernel_rfl) :
    wpAny M A (eval (.Name x pos) env) Q E s :=
  Name_function_global hk hx (loadGlobal_builtin (env := env) (by rw [hg]; exact k.G.keeps H.into) (mg_none_of k.X k.G e) (by rw [hb]; exact k.B.keeps H.into) ((k.bi x hn).trans hv) h) hd
theorem st {M : Model} {x : Str} {v : Value} {Q : Unit → Shared → Prop} (H : In F g led m s) (h : ∀ s', In F g led (fun y => if y = x then some v else m y) s' → Q () s') (hL : env.locals = F.L := by rfl)
    (hk : env.scope.kind = .function := by rfl) (hl : env.kindOf x = some .local := by kernel_rfl) : wpAny M A (storeName env x v) Q E s :=
  wpAny_storeName_local hl (hL ▸ H.ns) (fun _ hn hs => h _ (H.set (hL ▸ hn) (hL ▸ hs) _)) (by rw [hk]; rfl)

-- a call of a def of the text's
def entersAs (name qual : Str) (params : Arguments) (body : List Stmt) (scope : Scope) (dV kV doc pm : Value) (an : Option Addr) (cdv ct : Value) : FuncData := fnOf name qual params body scope dV kV doc pm an cdv ct

theorem enterA {name qual : Str} {params : Arguments} {body : List Stmt} {scope : Scope} {dV kV doc pm cdv ct oc : Value} {an od : Option Addr} {osl : Array (Option Value)} {f : Addr} {args : List Value} {kw : List (Str × Value)} {binds : List (Str × Value)} {R : Result → Shared → Prop}
    (k : KB w mg mb g) (hs : Sub g s.heap) (hr : A.depth < recursionLimit)
    (ho : (hd.heap_39 w.params).lookup f = some ⟨oc, od, .func (fnOf name qual params body scope dV kV doc pm an cdv ct), osl⟩) (hcd : codeIn (hd.heap_39 w.params) cdv qual = true)
    (hbind : BindsTo s (fnOf name qual params body scope dV kV doc pm an cdv ct) ⟨args, kw⟩ binds) (hloc : (binds.all fun y => decide (scope.names.lookup y.1 = some .local)) = true)
    (hl : ∀ p ∈ led, (∃ o, s.heap.get? p.1 = some o ∧ p.2 o) ∧ g.get? p.1 = none) (hn : (led.map (·.1)).Nodup)
    (h : ∀ L s1, In ⟨s, g, led.map (·.1), L⟩ g led (fun y => binds.reverse.lookup y) s1 →
      wpAny (model prog w) (A.deeper (envOf qual scope L f cdv)) (execs body (envOf qual scope L f cdv)) (fun fl s' => R (.ok (.ret (match fl with | .ret v => v | _ => .none))) s')
        (fun e s' => wpAny (model prog w) (A.deeper (envOf qual scope L f cdv)) (leaving (envOf qual scope L f cdv) e) (fun _ s'' => R (.error e) s'') (fun e' s'' => R (.error e') s'') s') s1)
    (hcell : ∀ x ∈ scope.names, x.2 ≠ .cell := by decide) (hco : scope.isCoroutine = false := by rfl) (hgen : scope.isGenerator = false := by rfl) (hk : scope.kind = .function := by rfl) :
    codeAny (model prog w) A (.call (.ref f) ⟨args, kw⟩) R s := by
  refine (codeAny_call_def (fd := fnOf name qual params body scope dV kV doc pm an cdv ct) (body := body) (binds := binds) hr (hs _ _ (k.X _ _ ho)) rfl (k.lim.keeps hs) (codeRec_of (k.X.keeps hs) hcd) rfl hbind hcell (locs hloc) (fun h₁ hns hk₁ => ?_) hco hgen hk)
  refine wpAny_mono (h s.heap.objs.size { s with heap := h₁, toks := s.toks + binds.length } ⟨⟨.refl _, fun b o e => hk₁ b o (hs b o e), fun _ _ e => .inl e, fun b o _ e => hk₁ b o e, Nat.le_of_lt (by obtain ⟨o, _, _, h, _⟩ := hns; exact Heap.lt_size h), rfl, .refl _⟩, hns, Nat.le_refl _, ?_, fun p hp => ?_, hn⟩) (fun fl s' q => ?_) fun _ _ q => q
  · cases q : g.get? s.heap.objs.size with
    | none => rfl
    | some o => exact absurd (Heap.lt_size (hs _ _ q)) (Nat.lt_irrefl _)
  · obtain ⟨⟨o, ho', hP⟩, h2⟩ := hl p hp
    exact ⟨⟨o, hk₁ _ _ ho', hP⟩, h2, Nat.ne_of_lt (Heap.lt_size ho'), .inl (List.mem_map_of_mem hp)⟩
  · exact q

theorem enter {name qual : Str} {params : Arguments} {body : List Stmt} {scope : Scope} {dV kV doc pm cdv ct oc : Value} {an od : Option Addr} {osl : Array (Option Value)} {f : Addr} {args : List Value} {kw : List (Str × Value)} {binds : List (Str × Value)} {Q : Value → Shared → Prop}
    (k : KB w mg mb g) (hs : Sub g s.heap) (hr : A.depth < recursionLimit)
    (ho : (hd.heap_39 w.params).lookup f = some ⟨oc, od, .func (fnOf name qual params body scope dV kV doc pm an cdv ct), osl⟩) (hcd : codeIn (hd.heap_39 w.params) cdv qual = true)
    (hbind : BindsTo s (fnOf name qual params body scope dV kV doc pm an cdv ct) ⟨args, kw⟩ binds) (hloc : (binds.all fun y => decide (scope.names.lookup y.1 = some .local)) = true)
    (hl : ∀ p ∈ led, (∃ o, s.heap.get? p.1 = some o ∧ p.2 o) ∧ g.get? p.1 = none) (hn : (led.map (·.1)).Nodup)
    (h : ∀ L s1, In ⟨s, g, led.map (·.1), L⟩ g led (fun y => binds.reverse.lookup y) s1 →
      wpAny (model prog w) (A.deeper (envOf qual scope L f cdv)) (execs body (envOf qual scope L f cdv)) (fun fl s' => Q (match fl with | .ret v => v | _ => .none) s')
        (fun e s' => wpAny (model prog w) (A.deeper (envOf qual scope L f cdv)) (leaving (envOf qual scope L f cdv) e) (fun _ s'' => E e s'') (fun e' s'' => E e' s'') s') s1)
    (hcell : ∀ x ∈ scope.names, x.2 ≠ .cell := by decide) (hco : scope.isCoroutine = false := by rfl) (hgen : scope.isGenerator = false := by rfl) (hk : scope.kind = .function := by rfl) :
    wpAny (model prog w) A (call (.ref f) args kw) Q E s :=
  wpAny_call (enterA k hs hr ho hcd hbind hloc hl hn (fun L s1 H => h L s1 H) hcell hco hgen hk)

theorem enter0 {name qual : Str} {params : Arguments} {body : List Stmt} {scope : Scope} {dV kV doc pm cdv ct oc : Value} {an od : Option Addr} {osl : Array (Option Value)} {f : Addr} {args : List Value} {Q : Value → Shared → Prop} (binds : List (Str × Value))
    (k : KB w mg mb g) (hs : Sub g s.heap) (hr : A.depth < recursionLimit)
    (h : ∀ L s1, In ⟨s, g, [], L⟩ g [] (fun y => binds.reverse.lookup y) s1 →
      wpAny (model prog w) (A.deeper (envOf qual scope L f cdv)) (execs body (envOf qual scope L f cdv)) (fun fl s' => Q (match fl with | .ret v => v | _ => .none) s') (fun _ _ => False) s1)
    (ho : (hd.heap_39 w.params).lookup f = some ⟨oc, od, .func (fnOf name qual params body scope dV kV doc pm an cdv ct), osl⟩ := by k_is) (hcd : codeIn (hd.heap_39 w.params) cdv qual = true := by k_is)
    (hbind : BindsTo s (fnOf name qual params body scope dV kV doc pm an cdv ct) ⟨args, []⟩ binds := by exact BindsTo.of_eq (by kernel_rfl)) (hloc : (binds.all fun y => decide (scope.names.lookup y.1 = some .local)) = true := by kernel_rfl)
    (hcell : ∀ x ∈ scope.names, x.2 ≠ .cell := by decide) (hco : scope.isCoroutine = false := by exact rfl) (hgen : scope.isGenerator = false := by exact rfl) (hk : scope.kind = .function := by exact rfl) :
    wpAny (model prog w) A (call (.ref f) args) Q E s :=
  enter (led := []) k hs hr ho hcd hbind hloc (fun _ h => nomatch h) List.nodup_nil (fun L s1 H => wpAny_mono (h L s1 H) (fun _ _ q => q) fun _ _ q => q.elim) hcell hco hgen hk

theorem enterI {name qual : Str} {params : Arguments} {body : List Stmt} {scope : Scope} {dV kV doc pm cdv ct oc : Value} {an od : Option Addr} {osl : Array (Option Value)} {f : Addr} {args : List Value} {R : Result → Shared → Prop} (binds : List (Str × Value))
    (k : KB w mg mb g) (hs : Sub g s.heap) (hr : A.depth < recursionLimit)
    (hl : ∀ p ∈ led, (∃ o, s.heap.get? p.1 = some o ∧ p.2 o) ∧ g.get? p.1 = none) (hn : (led.map (·.1)).Nodup)
    (h : ∀ L s1, In ⟨s, g, led.map (·.1), L⟩ g led (fun y => binds.reverse.lookup y) s1 →
      wpAny (model prog w) (A.deeper (envOf qual scope L f cdv)) (execs body (envOf qual scope L f cdv)) (fun fl s' => R (.ok (.ret (match fl with | .ret v => v | _ => .none))) s') (fun _ _ => False) s1)
    (ho : (hd.heap_39 w.params).lookup f = some ⟨oc, od, .func (fnOf name qual params body scope dV kV doc pm an cdv ct), osl⟩ := by k_is) (hcd : codeIn (hd.heap_39 w.params) cdv qual = true := by k_is)
    (hbind : BindsTo s (fnOf name qual params body scope dV kV doc pm an cdv ct) ⟨args, []⟩ binds := by exact BindsTo.of_eq (by kernel_rfl)) (hloc : (binds.all fun y => decide (scope.names.lookup y.1 = some .local)) = true := by kernel_rfl)
    (hcell : ∀ x ∈ scope.names, x.2 ≠ .cell := by decide) (hco : scope.isCoroutine = false := by exact rfl) (hgen : scope.isGenerator = false := by exact rfl) (hk : scope.kind = .function := by exact rfl) :
    codeAny (model prog w) A (.call (.ref f) ⟨args, []⟩) R s :=
  enterA k hs hr ho hcd hbind hloc hl hn (fun L s1 H => wpAny_mono (h L s1 H) (fun _ _ q => q) fun _ _ q => q.elim) hcell hco hgen hk

-- statements
theorem ex_nil {M : Model} {Q : Flow → Shared → Prop} (h : Q .next s) : wpAny M A (execs [] env) Q E s := wpAny_execs_nil h
theorem ex_ret {M : Model} {e : PySem.Expr} {pos : Pos} {rest : List Stmt} {Q : Flow → Shared → Prop} (h : wpAny M A (eval e env) (fun v s' => Q (.ret v) s') E s) : wpAny M A (execs (.Return (some e) pos :: rest) env) Q E s :=
  wpAny_execs_cons (wpAny_Return_some h)
theorem ex_set {M : Model} {x : Str} {e : PySem.Expr} {p pos : Pos} {rest : List Stmt} {Q : Flow → Shared → Prop} (h : wpAny M A (eval e env) (fun v s' => wpAny M A (storeName env x v) (fun _ s'' => wpAny M A (execs rest env) Q E s'') E s') E s)
    (hs : swapsWith e (some (.Name x p)) pos.line env = pure false := by rfl) : wpAny M A (execs (.Assign [.Name x p] e pos :: rest) env) Q E s := wpAny_execs_cons (wpAny_Assign_Name h hs)
theorem ex_if {M : Model} {t : PySem.Expr} {b o rest : List Stmt} {pos : Pos} {Q : Flow → Shared → Prop}
    (h : wpAny M A (isTrue t env (eval t env)) (fun c s' => if c then wpAny M A (execs b env) (fun f s'' => match f with | .next => wpAny M A (execs rest env) Q E s'' | f => Q f s'') E s' else wpAny M A (execs o env) (fun f s'' => match f with | .next => wpAny M A (execs rest env) Q E s'' | f => Q f s'') E s') E s) :
    wpAny M A (execs (.If t b o pos :: rest) env) Q E s := wpAny_execs_cons (wpAny_If h)
theorem ex_expr {M : Model} {e : PySem.Expr} {pos : Pos} {rest : List Stmt} {Q : Flow → Shared → Prop} (h : wpAny M A (eval e env) (fun v s' => v = .none ∧ wpAny M A (execs rest env) Q E s') E s)
    (hi : interactive env = false := by rfl) (hs : swapsWith e none pos.line env = pure false := by rfl) : wpAny M A (execs (.Expr e pos :: rest) env) Q E s :=
  wpAny_execs_cons (wpAny_Expr (wpAny_mono h (fun v s' q => by obtain ⟨rfl, q⟩ := q; exact q) fun _ _ q => q) hi hs)

-- expressions
theorem cst_i {M : Model} {i : Int} {kk : Nat} {pos : Pos} {Q : Value → Shared → Prop} (H : In F g led m s) (h : ∀ t s', In F g led m s' → Q (.int i t) s') : wpAny M A (eval (.Constant (.int i) kk pos) env) Q E s :=
  fun _ _ _ => h s.toks _ (H.toks _)
theorem cst_s {M : Model} {x : Str} {kk : Nat} {pos : Pos} {Q : Value → Shared → Prop} (H : In F g led m s) (h : ∀ t s', In F g led m s' → Q (.str x t) s') : wpAny M A (eval (.Constant (.str x) kk pos) env) Q E s :=
  fun _ _ _ => h s.toks _ (H.toks _)
theorem cst_b {M : Model} {b : Bool} {kk : Nat} {pos : Pos} {Q : Value → Shared → Prop} (h : Q (.bool b) s) : wpAny M A (eval (.Constant (.bool b) kk pos) env) Q E s := fun _ _ _ => h
theorem cst_n {M : Model} {kk : Nat} {pos : Pos} {Q : Value → Shared → Prop} (h : Q .none s) : wpAny M A (eval (.Constant .none kk pos) env) Q E s := fun _ _ _ => h

theorem isT {M : Model} {t : PySem.Expr} {Q : Bool → Shared → Prop} (h : wpAny M A (eval t env) (fun v s' => wpAny M A (truthy v) Q E s') E s)
    (he : isTrue t env (eval t env) = (do let v ← eval t env; standAt t.pos; holding [v] (truthy v)) := by rfl) : wpAny M A (isTrue t env (eval t env)) Q E s := by
  rw [he]; exact wpAny_bind (wpAny_mono h (fun v s' q => wpAny_bind (wpAny_standAt (wpAny_holding q))) fun _ _ q => q)
theorem tr_b {M : Model} {b : Bool} {Q : Bool → Shared → Prop} (h : Q b s) : wpAny M A (truthy (.bool b)) Q E s := wpAny_truthy_bool h

theorem tup {M : Model} {es : List PySem.Expr} {kk : Nat} {pos : Pos} {Q : Value → Shared → Prop} (h : wpAny M A (spliced (backTo pos (starEach es env))) (fun vs s₁ => wpAny M A (newTuple vs) Q E s₁) E s) : wpAny M A (eval (.Tuple es kk pos) env) Q E s := Tuple_ h
theorem a0 {M : Model} {pos : Pos} {Q : List Value → Shared → Prop} (h : Q [] s) : wpAny M A (spliced (backTo pos (starEach [] env))) Q E s := args_nil h
theorem a1 {M : Model} {e : PySem.Expr} {pos : Pos} {Q : List Value → Shared → Prop} (h : wpAny M A (eval e env) (fun v s₁ => Q [v] s₁) E s) (he : starEach [e] env = (false, eval e env) :: starEach [] env := by rfl) : wpAny M A (spliced (backTo pos (starEach [e] env))) Q E s :=
  args_cons (wpAny_mono h (fun _ _ q => args_nil q) fun _ _ q => q) he
theorem aC {M : Model} {e e' : PySem.Expr} {rest : List PySem.Expr} {pos : Pos} {Q : List Value → Shared → Prop} (h : wpAny M A (eval e env) (fun v s₁ => wpAny M A (spliced (backTo pos (starEach (e' :: rest) env))) (fun vs s₂ => Q (v :: vs) s₂) E s₁) E s)
    (he : starEach (e :: e' :: rest) env = (false, eval e env) :: starEach (e' :: rest) env := by rfl) : wpAny M A (spliced (backTo pos (starEach (e :: e' :: rest) env))) Q E s := args_cons h he

theorem IsTup_eq {h : Heap} {a : Addr} {xs : Array Value} : IsTup h a xs ↔ ∃ o, h.get? a = some o ∧ o.cls = .type "tuple" ∧ ∃ n, o.data = .seq xs n := Iff.rfl
theorem newT {M : Model} {vs : List Value} {Q : Value → Shared → Prop} (H : In F g led m s) (h : ∀ a g' s', Sub g g' → IsTup g' a vs.toArray → In F g' led m s' → Q (.ref a) s') (hsz : vs.length ≤ sizeLine := by size_fits) : wpAny M A (newTuple vs) Q E s := by
  refine wpAny_newTuple ?_ hsz
  obtain ⟨o, g', e, ho, hs, H'⟩ := (H.new { cls := .type "tuple", data := .seq vs.toArray } rfl (fun o => o = { cls := .type "tuple", data := .seq vs.toArray }) rfl).freeze (H.was (Nat.le_refl _))
  subst e
  exact h _ g' _ hs ⟨_, ho, rfl, 0, rfl⟩ H'
end
end Mine
end

section
open PySem PySem.W PySem.Calls PyProof.Rows
set_option maxRecDepth 100000
namespace Mine
/-- the written part is read anew (in a text of its own) -/
theorem fillK (P : Params) : hd.heap_39 P = hd.heap_39 P → PySem.Challenge.rw_bn0044_01 = PySem.Challenge.rw_bn0044_01 := by
  k_fill
  exact fun _ => rfl

section
variable {prog : Program} {w : World} {mg mb : Str → Option Value} {A : Around} {E : Value → Shared → Prop} {s : Shared} {F : Fx} {g : Heap} {led : Led} {m : Str → Option Value} {env : Env}

theorem callW {pos : Pos} {f : Value} {first : List Value} {e : PySem.Expr} {rest : List PySem.Expr} {Q : Value → Shared → Prop} (hk : keepIn (hd.heap_39 w.params) f = true)
    (h : wpAny (model prog w) A (spliced (backTo pos (starEach (e :: rest) env))) (fun vs s₁ => (hd.heap_39 w.params).In s₁.heap ∧ wpAny (model prog w) A (call f (first ++ vs)) Q E s₁) E s)
    (he : starEach (e :: rest) env = (false, eval e env) :: starEach rest env := by rfl) (hplain : (backTo pos (starEach rest env)).any (·.1) = false := by rfl) :
    wpAny (model prog w) A (callWith pos f first (backTo pos (starEach (e :: rest) env)) []) Q E s := by
  rw [he] at h ⊢
  exact callWith_of (by show ((false || (backTo pos (starEach rest env)).any (·.1)) || false) = false; rw [hplain]; rfl) (keeps_K hk) (evalArgs_plain h)
theorem callW0 {pos : Pos} {f : Value} {first : List Value} {Q : Value → Shared → Prop} (X : (hd.heap_39 w.params).In s.heap) (hk : keepIn (hd.heap_39 w.params) f = true) (h : wpAny (model prog w) A (call f (first ++ [])) Q E s) :
    wpAny (model prog w) A (callWith pos f first (backTo pos (starEach [] env)) []) Q E s := callWith_of rfl (keeps_K hk) (evalArgs_nil3 ⟨X, h⟩)
theorem callB {pos : Pos} {id : String} {first : List Value} {e : PySem.Expr} {rest : List PySem.Expr} {Q : Value → Shared → Prop}
    (h : wpAny (model prog w) A (spliced (backTo pos (starEach (e :: rest) env))) (fun vs s₁ => wpAny (model prog w) A (call (.builtin id) (first ++ vs)) Q E s₁) E s)
    (he : starEach (e :: rest) env = (false, eval e env) :: starEach rest env := by rfl) (hplain : (backTo pos (starEach rest env)).any (·.1) = false := by rfl) :
    wpAny (model prog w) A (callWith pos (.builtin id) first (backTo pos (starEach (e :: rest) env)) []) Q E s := by
  rw [he] at h ⊢
  exact callWith_builtin (by show (false || (backTo pos (starEach rest env)).any (·.1)) = false; rw [hplain]; rfl) (evalArgs_plain h)
theorem callB0 {pos : Pos} {id : String} {first : List Value} {Q : Value → Shared → Prop} (h : wpAny (model prog w) A (call (.builtin id) (first ++ [])) Q E s) :
    wpAny (model prog w) A (callWith pos (.builtin id) first (backTo pos (starEach [] env)) []) Q E s := callWith_builtin rfl (evalArgs_nil3 h)

/-- an object: its fields as a map -/
def NsO (n : Nat) (f : Str → Option Value) : Obj → Prop := fun o => ∃ es ep, o.data = .dict es ep ∧ StrKeys es ∧ (∀ name, nsFind es name = f name) ∧ es.size ≤ n
def Inst (h : Heap) (x C : Addr) (f : Str → Option Value) : Prop := ∃ dx, h.get? x = some (instObj C dx) ∧ ∃ n o, h.get? dx = some o ∧ NsO n f o
theorem Inst.mono {h h' : Heap} {x C : Addr} {f : Str → Option Value} (i : Inst h x C f) (s : Sub h h') : Inst h' x C f := let ⟨dx, a, n, o, b, c⟩ := i; ⟨dx, s _ _ a, n, o, s _ _ b, c⟩
theorem NsO.look {k : Nat} {f : Str → Option Value} {o : Obj} (n : NsO k f o) (name : Str) : lookIn name o = some (f name) := by
  obtain ⟨es, ep, hd, hk, hf, _⟩ := n
  unfold lookIn
  rw [hd, ← hf name]
  unfold nsFind findBy
  rw [← Array.find?_toList]
  dsimp only
  cases q : es.toList.find? (fun e => e.key.isStr name) with
  | some e => rfl
  | none =>
    have : es.toList.any (·.refKey) = false := by
      rw [List.any_eq_false]
      intro e he
      obtain ⟨n, t, h⟩ := hk e (Array.mem_toList_iff.mp he)
      simp [DictEntry.refKey, h]
    rw [this]; rfl
theorem NsO.emptyD : NsO 0 (fun _ => none) emptyDict := ⟨#[], 0, rfl, fun _ he => by simp at he, fun _ => rfl, Nat.le_refl _⟩
theorem Inst.at {h : Heap} {x C : Addr} {f : Str → Option Value} (i : Inst h x C f) : ∃ dx k o, InstAt h x (instObj C dx) C (some o) ∧ NsO k f o := let ⟨dx, a, k, o, b, c⟩ := i; ⟨dx, k, o, ⟨a, rfl, rfl, b⟩, c⟩
/-- a name is stored into a dict of names -/
theorem nsSetZ {M : Model} {A : Around} {E : Value → Shared → Prop} {s : Shared} {a : Addr} {o : Obj} {k : Nat} {f : Str → Option Value} {name : Str} {v : Value} {Q : Unit → Shared → Prop} (ho : s.heap.get? a = some o) (n : NsO k f o)
    (h : ∀ h' o', h'.get? a = some o' → NsO (k + 1) (fun y => if y = name then some v else f y) o' → Heap.SameBut a s.heap h' → Q () { s with heap := h', toks := s.toks + 1 }) : wpAny M A (nsSet a name v) Q E s := by
  obtain ⟨c, d, dt, sl⟩ := o
  obtain ⟨es, ep, hd, hk, hf, hz⟩ := n
  dsimp only at hd
  subst hd
  have hany : es.any (·.refKey) = false := by
    rw [Array.any_eq_false']; intro e he; obtain ⟨n, t, h⟩ := hk e he; simp [DictEntry.refKey, h]
  refine wpAny_bind (wpAny_bind (wpAny_askSetting (wpAny_pure (wpAny_bind (wpAny_mkText (wpAny_bind (wpAny_loadPart ho ?_)))))))
  simp only [aRefKeyMayBeTheName_eq, aRefKeyMayBeTheNameByArray, hany, Bool.and_false, Bool.false_eq_true, if_false]
  refine wpAny_updatePart ho ?_
  have key : ∀ hs tk, ∃ es' ep', Obj.putName name hs (.str name tk) v ⟨c, d, .dict es ep, sl⟩ = ⟨c, d, .dict es' ep', sl⟩ ∧ StrKeys es' ∧ (∀ y, nsFind es' y = if y = name then some v else f y) ∧ es'.size ≤ k + 1 := by
    intro hs tk
    simp only [Obj.putName_eq, Obj.putNameByArray]
    cases hi : es.findIdx? (·.key.isStr name) with
    | some i => exact ⟨_, _, rfl, hk.modify _ _, fun y => by rw [← hf]; exact findBy_modify (fun n v => v.isStr n) Value.isStr_inj es name y v i hi, by rw [Array.size_modify]; omega⟩
    | none =>
      refine ⟨_, _, rfl, hk.push _ _ _ _, fun y => ?_, by rw [Array.size_push]; omega⟩
      rw [← hf]
      exact findBy_push (fun n v => v.isStr n) es name y _ _ v (fun z => by
        show (name == z) = decide (z = name)
        by_cases h : z = name
        · subst h; simp
        · have : ¬ name = z := fun e => h e.symm
          simp [h, this]) hi
  obtain ⟨es', ep', e, h1, h2, h3⟩ := key (PyData.keyHash M.w.params name) s.toks
  refine h _ ⟨c, d, .dict es' ep', sl⟩ ?_ ⟨es', ep', rfl, h1, h2, h3⟩ (Heap.SameBut.update ..)
  have := Heap.get?_update_self (Obj.putName name (PyData.keyHash M.w.params name) (.str name s.toks) v) ho (by rw [e]; rfl)
  rw [e] at this
  exact this

theorem attrH {x C : Addr} {f : Str → Option Value} {name : Str} {v : Value} {expr : Bool} {Q : Value → Shared → Prop} (H : In F g led m s) (k : KB w mg mb g) (i : Inst s.heap x C f) (hl : f name = some v) (hv : handedIn v = true) (h : ∀ s', In F g led m s' → Q v s')
    (ha : findIn (hd.heap_39 w.params) (.ref C) name = some none) (hg : ∀ n, plainGet (hd.heap_39 w.params) C n = true) (hh : hasDictIn (hd.heap_39 w.params) C = true) :
    wpAny (model prog w) A (getAttr (.ref x) name expr) Q E s := by
  obtain ⟨dx, _, o, I, n⟩ := i.at
  exact get_value (H.K k) I (plainGet_of (hg name)).1 (findObj_own hh ha rfl ((n.look name).trans (by rw [hl]))) hv (h _ (H.toks _))

-- what the three classes say
theorem pg66 (P : Params) (n : Str) : plainGet (hd.heap_39 P) 66 n = true := by show plainGet (hd.heap_39 P) 66 "" = true; kernel_rfl
theorem pg155 (P : Params) (n : Str) : plainGet (hd.heap_39 P) 155 n = true := by show plainGet (hd.heap_39 P) 155 "" = true; kernel_rfl
theorem pg334 (P : Params) (n : Str) : plainGet (hd.heap_39 P) 334 n = true := by show plainGet (hd.heap_39 P) 334 "" = true; kernel_rfl
theorem hd66 (P : Params) : hasDictIn (hd.heap_39 P) 66 = true := by kernel_rfl
theorem hd155 (P : Params) : hasDictIn (hd.heap_39 P) 155 = true := by kernel_rfl
theorem hd334 (P : Params) : hasDictIn (hd.heap_39 P) 334 = true := by kernel_rfl
theorem po66 (P : Params) : plainOver (hd.heap_39 P) 66 = true := by kernel_rfl
theorem po155 (P : Params) : plainOver (hd.heap_39 P) 155 = true := by kernel_rfl
theorem po334 (P : Params) : plainOver (hd.heap_39 P) 334 = true := by kernel_rfl
theorem sa66 (P : Params) : findIn (hd.heap_39 P) (.ref 66) "__setattr__" = some (some (.builtin "object.__setattr__")) := by kernel_rfl
theorem sa155 (P : Params) : findIn (hd.heap_39 P) (.ref 155) "__setattr__" = some (some (.builtin "object.__setattr__")) := by kernel_rfl
theorem sa334 (P : Params) : findIn (hd.heap_39 P) (.ref 334) "__setattr__" = some (some (.builtin "object.__setattr__")) := by kernel_rfl

/-- one of the three classes -/
structure Cls (P : Params) (C : Addr) : Prop where
  pg : ∀ n, plainGet (hd.heap_39 P) C n = true
  dc : hasDictIn (hd.heap_39 P) C = true
  po : plainOver (hd.heap_39 P) C = true
  sa : findIn (hd.heap_39 P) (.ref C) "__setattr__" = some (some (.builtin "object.__setattr__"))
theorem c66 (P : Params) : Cls P 66 := ⟨pg66 P, hd66 P, po66 P, sa66 P⟩
theorem c155 (P : Params) : Cls P 155 := ⟨pg155 P, hd155 P, po155 P, sa155 P⟩
theorem c334 (P : Params) : Cls P 334 := ⟨pg334 P, hd334 P, po334 P, sa334 P⟩

theorem attr {x C : Addr} {f : Str → Option Value} {name : Str} {v : Value} {expr : Bool} {Q : Value → Shared → Prop} (H : In F g led m s) (k : KB w mg mb g) (c : Cls w.params C) (i : Inst g x C f) (ha : findIn (hd.heap_39 w.params) (.ref C) name = some none) (hl : f name = some v) (hv : handedIn v = true)
    (h : ∀ s', In F g led m s' → Q v s') : wpAny (model prog w) A (getAttr (.ref x) name expr) Q E s := attrH H k (i.mono H.into) hl hv h ha c.pg c.dc

/-- a field of an object of the ledger is stored -/
theorem setA {pre post : Led} {x C dx : Addr} {n : Nat} {f : Str → Option Value} {name : Str} {v : Value} {Q : Unit → Shared → Prop} (H : In F g (pre ++ (dx, NsO n f) :: post) m s) (k : KB w mg mb g) (c : Cls w.params C) (hx : s.heap.get? x = some (instObj C dx))
    (ht : takerIn (hd.heap_39 w.params) C name = some none) (h : ∀ s', In F g (pre ++ (dx, NsO (n + 1) fun y => if y = name then some v else f y) :: post) m s' → Q () s') (hn : n ≤ 1000 := by decide) : wpAny (model prog w) A (setAttr (.ref x) name v) Q E s := by
  obtain ⟨o, ho, no⟩ := H.get (a := dx) (P := NsO n f) (by simp)
  have I : InstAt s.heap x (instObj C dx) C (some o) := ⟨hx, rfl, rfl, ho⟩
  have X := H.K k
  refine set_plain X I c.sa (osa_open (s := { s with toks := s.toks + 1 }) X I c.po ht fun b => ?_)
  obtain ⟨cd, hc, hd'⟩ := any_some c.dc
  refine wpAny_bind (wpAny_pure (wpAny_bind (wpAny_bind (wpAny_loadPart hx (wpAny_bind (looks_clsIn X hc _ _ _ _ (fun _ _ e => e) ?_))))))
  rw [hd']
  refine wpAny_pure (a := some dx) (wpAny_bind (wpAny_pure (wpAny_bind ?_)))
  have Hn := H.toks (s.toks + 1)
  refine nsSetZ ho no fun h' o' ho' no' hs => ?_
  have z := no'
  obtain ⟨es, ep, e1, _, _, e4⟩ := z
  refine wpAny_bind (wpAny_lookBehind ho' (by rw [e1]; exact pastItsLine_dict (by rw [sizeLine_eq]; omega)) (wpAny_pure ?_))
  exact h _ (Hn.put hs ho' no' _)
end

structure It where
  t : Bool
  n : Str
deriving DecidableEq

/-- the fields of a Nonterminal -/
def symF (n : Str) (tk : Tok) : Str → Option Value := fun y => if y = "_symbol" then some (.str n tk) else none
inductive ItemAt (g : Heap) : Value → It → Prop
  | word (n : Str) (tk : Tok) : ItemAt g (.str n tk) ⟨true, n⟩
  | sym (x : Addr) (n : Str) (tk : Tok) : Inst g x 66 (symF n tk) → ItemAt g (.ref x) ⟨false, n⟩
theorem ItemAt.mono {g g' : Heap} {v : Value} {i : It} (h : ItemAt g v i) (s : Sub g g') : ItemAt g' v i := by
  cases h with
  | word n tk => exact .word n tk
  | sym x n tk h => exact .sym x n tk (h.mono s)

def keyW (i : It) : List Str := [if i.t then "T" else "N", i.n]
def KeyAt (g : Heap) (v : Value) (i : It) : Prop := ∃ a t1 t2, v = .ref a ∧ IsTup g a #[.str (if i.t then "T" else "N") t1, .str i.n t2]
theorem isTup_mono {h h' : Heap} {a : Addr} {xs : Array Value} (x : IsTup h a xs) (s : Sub h h') : IsTup h' a xs := let ⟨o, e, r⟩ := x; ⟨o, s _ _ e, r⟩
theorem KeyAt.mono {g g' : Heap} {v : Value} {i : It} (h : KeyAt g v i) (s : Sub g g') : KeyAt g' v i := let ⟨a, t1, t2, e, x⟩ := h; ⟨a, t1, t2, e, isTup_mono x s⟩

section
variable {prog : Program} {w : World} {mg mb : Str → Option Value} {A : Around} {E : Value → Shared → Prop} {s : Shared} {F : Fx} {g : Heap} {led : Led} {m : Str → Option Value} {env : Env}

theorem a66_symbol (P : Params) : findIn (hd.heap_39 P) (.ref 66) "_symbol" = some none := by kernel_rfl
theorem g_isinstance : bootBuiltins "isinstance" = some (.builtin "isinstance") := by kernel_rfl
theorem n_isinstance (P : Params) : nsIn (hd.heap_39 P) mainGlobals "isinstance" = some none := by kernel_rfl
theorem g_Nonterminal (P : Params) : nsIn (hd.heap_39 P) mainGlobals "Nonterminal" = some (some (.ref 66)) := by kernel_rfl
theorem isi_sym {v : Value} {i : It} {Q : Value → Shared → Prop} (H : In F g led m s) (k : KB w mg mb g) (hi : ItemAt g v i) (h : ∀ s', In F g led m s' → Q (.bool (!i.t)) s') : wpAny (model prog w) A (call (.builtin "isinstance") [v, .ref 66]) Q E s := by
  cases hi with
  | word n tk => exact isn_call (P := fun _ => True) (T := "str") (H.K k) (fun _ => Looks.of_pure rfl) (by kernel_rfl) (fun q => nomatch q) trivial str_cls (h _ (H.toks _))
  | sym x n tk hI =>
    obtain ⟨dx, _, o, I, _⟩ := (hI.mono H.into).at
    exact isi_call (t := .ref 66) (H.K k) (fun _ => I.type) (by kernel_rfl) (fun q => nomatch q) (h _ H)

set_option maxHeartbeats 4000000 in
theorem key_spec {v : Value} {i : It} {Q : Value → Shared → Prop} (r : Room A 1 10) (k : KB w mg mb g) (hs : Sub g s.heap) (hi : ItemAt g v i) (h : ∀ v' s' g', Rel [] s g s' g' → KeyAt g' v' i → Q v' s') :
    wpAny (model prog w) A (call (.ref 91) [v]) Q E s := by
  refine enter0 [("item", v)] k hs r.lt ?_
  intro L s H
  refine ex_if (isT (Call_ (nmB H k g_isinstance (e := n_isinstance _) (callB (aC (nm H rfl (a1 (nmG H k (g_Nonterminal _) ?_))))))))
  refine isi_sym H k hi fun s H => tr_b ?_
  cases hi with
  | word n tk =>
    refine ex_nil (ex_ret (tup (aC (cst_s H fun t s H => a1 (nm H rfl (newT H fun a g' s hs ht H => ?_))))))
    exact h _ _ _ H.rel ⟨a, _, _, rfl, ht⟩
  | sym x n tk hI =>
    refine ex_ret (tup (aC (cst_s H fun t s H => a1 (Attribute_any_ (nm H rfl (attr H k (c66 _) hI (a66_symbol _) rfl rfl fun s H => newT H fun a g' s hs ht H => ?_))))))
    exact h _ _ _ H.rel ⟨a, _, _, rfl, ht⟩
end
end Mine
end

section
open PySem PySem.W PySem.Calls PyProof.Rows
set_option maxRecDepth 100000
namespace Mine
theorem fillK2 (P : Params) : hd.heap_39 P = hd.heap_39 P → PySem.Challenge.rw_bn0044_01 = PySem.Challenge.rw_bn0044_01 := by
  k_fill
  exact fun _ => rfl

theorem Rel.drop {mu : List Addr} {s s' s'' : Shared} {g g1 g2 : Heap} (x : Rel [] s g s' g1) (y : Rel mu s' g1 s'' g2) (h : ∀ a ∈ mu, s.heap.objs.size ≤ a) : Rel [] s g s'' g2 :=
  ⟨x.sub.trans y.sub, y.into, fun b o e => (y.new b o e).elim (x.new b o) fun h => .inr (Nat.le_trans x.size h), fun b o n e => y.keep b o (fun q => absurd (Heap.lt_size e) (Nat.not_lt.mpr (h b q))) (x.keep b o n e), Nat.le_trans x.size y.size, y.os.trans x.os, x.gens.trans y.gens⟩
theorem Rel.freeze {mu : List Addr} {s s' : Shared} {g g' : Heap} {a : Addr} {o : Obj} (x : Rel mu s g s' g') (ho : s'.heap.get? a = some o) (hn : g'.get? a = none) (hz : s.heap.objs.size ≤ a) : ∃ g3, Rel mu s g s' g3 ∧ Sub g' g3 ∧ g3.get? a = some o ∧ ∀ b o', g3.get? b = some o' → g'.get? b = some o' ∨ b = a := by
  have hg : ∀ b, (putH g' a o).get? b = if b = a then some o else g'.get? b := putH_get (get?_free ho)
  have sub : Sub g' (putH g' a o) := fun b y e => by
    rw [hg]
    by_cases q : b = a
    · subst q; rw [hn] at e; cases e
    · rw [if_neg q]; exact e
  refine ⟨putH g' a o, ⟨x.sub.trans sub, fun b y e => ?_, fun b y e => ?_, x.keep, x.size, x.os, x.gens⟩, sub, by rw [hg, if_pos rfl], fun b y e => ?_⟩
  all_goals (rw [hg] at e; by_cases q : b = a)
  · subst q; rw [if_pos rfl] at e; cases e; exact ho
  · rw [if_neg q] at e; exact x.into b y e
  · subst q; exact .inr hz
  · rw [if_neg q] at e; exact x.new b y e
  · exact .inr q
  · rw [if_neg q] at e; exact .inl e
theorem Rel.keep0 {s s' : Shared} {g g' : Heap} (x : Rel [] s g s' g') : ∀ b o, s.heap.get? b = some o → s'.heap.get? b = some o := fun b o e => x.keep b o (by simp) e
theorem Rel.still {s s' : Shared} {g g' : Heap} {mu : List Addr} (x : Rel mu s g s' g') {a : Addr} (h : g.get? a = none) (hz : a < s.heap.objs.size) : g'.get? a = none := by
  cases q : g'.get? a with
  | none => rfl
  | some o => exact (x.new _ _ q).elim (fun e => by rw [h] at e; cases e) fun e => absurd hz (Nat.not_lt.mpr e)

section
variable {prog : Program} {w : World} {mg mb : Str → Option Value} {A : Around} {E : Value → Shared → Prop} {s : Shared} {F : Fx} {g : Heap} {led : Led} {m : Str → Option Value} {env : Env}

/-- an object is made -/
theorem newOb {C fI : Addr} {args : List Value} {Q : Value → Shared → Prop} (k : KB w mg mb g) (hs : Sub g s.heap) (hm : makesIn (hd.heap_39 w.params) C = true) (hi : findIn (hd.heap_39 w.params) (.ref C) "__init__" = some (some (.ref fI))) (hf : typeIn (hd.heap_39 w.params) (.ref fI) = some (.type "function"))
    (h : ∀ x dx s' g1, Rel [] s g s' g1 → g1.get? x = some (instObj C dx) → g1.get? dx = none → s'.heap.get? dx = some emptyDict → s.heap.objs.size ≤ dx →
      codeAny (model prog w) (A.under (.builtin "type.__call__" ⟨.ref C :: args, []⟩)) (.call (.ref fI) ⟨.ref x :: args, []⟩) (fun r s'' => r = .ok (.ret .none) ∧ ∃ g2 n f o, Rel [dx] s' g1 s'' g2 ∧ s''.heap.get? dx = some o ∧ NsO n f o ∧ (∀ g3, Rel [] s g s'' g3 → Sub g2 g3 → Inst g3 x C f → Q (.ref x) s'')) s') :
    wpAny (model prog w) A (call (.ref C) args) Q E s := by
  obtain ⟨hh, gg, d, t, os⟩ := s
  refine wpAny_call (make_core (makes_of (k.X.keeps hs) hm) (looks_findIn (k.X.keeps hs) hi) (fun self => bind_fn (k.X.keeps hs) self hf) (.inl rfl) ?_)
  have R0 : Rel [] ⟨hh, gg, d, t, os⟩ g ⟨(hh.push emptyDict).push (instObj C hh.objs.size), gg, d, t, os⟩ g :=
    ⟨.refl _, fun b o e => Heap.get?_push_of_some _ (Heap.get?_push_of_some _ (hs b o e)), fun _ _ e => .inl e, fun b o _ e => Heap.get?_push_of_some _ (Heap.get?_push_of_some _ e), (by show _ ≤ ((hh.push emptyDict).push (instObj C hh.objs.size)).objs.size; rw [Heap.size_push, Heap.size_push]; exact Nat.le_add_right _ 2), rfl, .refl _⟩
  have hx : ((hh.push emptyDict).push (instObj C hh.objs.size)).get? (hh.objs.size + 1) = some (instObj C hh.objs.size) := by heap_get
  have hdx : ((hh.push emptyDict).push (instObj C hh.objs.size)).get? hh.objs.size = some emptyDict := by heap_get
  have nn : ∀ a, hh.objs.size ≤ a → g.get? a = none := fun a ha => by
    cases q : g.get? a with
    | none => rfl
    | some o => exact absurd (Heap.lt_size (hs _ _ q)) (Nat.not_lt.mpr ha)
  obtain ⟨g1, R1, S1, e1, o1⟩ := R0.freeze hx (nn _ (Nat.le_succ _)) (Nat.le_succ _)
  have n1 : g1.get? hh.objs.size = none := by
    cases q : g1.get? hh.objs.size with
    | none => rfl
    | some o =>
      rcases o1 _ _ q with z | z
      · rw [nn _ (Nat.le_refl _)] at z; cases z
      · exact absurd z (Nat.ne_of_lt (Nat.lt_succ_self _))
  refine codeAny_mono (h (hh.objs.size + 1) hh.objs.size ⟨(hh.push emptyDict).push (instObj C hh.objs.size), gg, d, t, os⟩ g1 R1 e1 n1 hdx (Nat.le_refl _)) fun r s'' q => ?_
  obtain ⟨rfl, g2, n, f, o, R2, ho, hn, fin⟩ := q
  obtain ⟨g3, R3, S3, e3, _⟩ := (R1.drop R2 (by intro a ha; cases List.mem_singleton.mp ha; exact Nat.le_refl _)).freeze ho (R2.still n1 (Heap.lt_size hdx)) (Nat.le_refl _)
  exact ⟨rfl, fin g3 R3 S3 ⟨hh.objs.size, S3 _ _ (R2.sub _ _ e1), n, o, e3, hn⟩⟩
theorem Room.make {d u : Nat} {C : Addr} {vals : List Value} (r : Room A (d + 1) (u + 1)) : Room (A.under (.builtin "type.__call__" ⟨.ref C :: vals, []⟩)) d u :=
  ⟨r.hh, by have := r.hd; rw [depth_under_make]; omega, by have := r.hu; rw [units_under_make]; omega⟩
theorem ex_setA {M : Model} {o : PySem.Expr} {attr : Str} {e : PySem.Expr} {p pos : Pos} {rest : List Stmt} {Q : Flow → Shared → Prop}
    (h : wpAny M A (eval e env) (fun v s₁ => wpAny M A (eval o env) (fun ov s₂ => wpAny M A (setAttr ov attr v) (fun _ s₃ => wpAny M A (execs rest env) Q E s₃) E s₂) E s₁) E s)
    (hs : swapsWith e (some (.Attribute o attr p)) pos.line env = pure false := by rfl) : wpAny M A (execs (.Assign [.Attribute o attr p] e pos :: rest) env) Q E s := wpAny_execs_cons (plainObj_wpAny_Assign_Attribute h hs)
theorem led1 {h : Heap} {a : Addr} {P : Obj → Prop} {o : Obj} (e : h.get? a = some o) (n : g.get? a = none) (p : P o) : ∀ q ∈ [(a, P)], (∃ o, h.get? q.1 = some o ∧ q.2 o) ∧ g.get? q.1 = none := fun q hq => by
  cases List.mem_singleton.mp hq; exact ⟨⟨o, e, p⟩, n⟩

theorem newN {n : Str} {tk : Tok} {Q : Value → Shared → Prop} (r : Room A 2 20) (k : KB w mg mb g) (hs : Sub g s.heap) (h : ∀ x s' g', Rel [] s g s' g' → ItemAt g' (.ref x) ⟨false, n⟩ → Q (.ref x) s') :
    wpAny (model prog w) A (call (.ref 66) [.str n tk]) Q E s := by
  refine newOb (fI := 35) k hs (by kernel_rfl) (by kernel_rfl) (by kernel_rfl) fun x dx s' g1 R1 e1 n1 d1 hz => ?_
  have r' : Room (A.under (.builtin "type.__call__" ⟨.ref 66 :: [.str n tk], []⟩)) 1 10 := (r.le (d' := 2) (u' := 11) (by omega) (by omega)).make
  refine enterI [("self", .ref x), ("symbol", .str n tk)] (led := [(dx, NsO 0 fun _ => none)]) (k.mono R1.sub) R1.into r'.lt (led1 d1 n1 .emptyD) (by simp) fun L s H => ?_
  refine ex_setA (nm H rfl (nm H rfl (setA (pre := []) H (k.mono R1.sub) (c66 _) (H.into _ _ e1) (by kernel_rfl) fun s H => ex_nil ⟨rfl, ?_⟩)))
  obtain ⟨o, ho, hn⟩ := H.get (.head _)
  exact ⟨g1, _, _, o, H.rel, ho, hn, fun g3 R3 S3 i => h _ _ _ R3 (.sym x n tk i)⟩
end
end Mine
end

section
open PySem PySem.W PySem.Calls PyProof.Rows
set_option maxRecDepth 100000
namespace Mine
theorem fillK3 (P : Params) : hd.heap_39 P = hd.heap_39 P → PySem.Challenge.rw_bn0044_01 = PySem.Challenge.rw_bn0044_01 := by
  k_fill
  exact fun _ => rfl

inductive All2 {α β : Type} (R : α → β → Prop) : List α → List β → Prop
  | nil : All2 R [] []
  | cons {a b l m} : R a b → All2 R l m → All2 R (a :: l) (b :: m)
namespace All2
variable {α β : Type} {R S : α → β → Prop}
theorem length {l : List α} {m : List β} (h : All2 R l m) : l.length = m.length := by induction h with | nil => rfl | cons _ _ ih => simp [ih]
theorem imp {l : List α} {m : List β} (h : All2 R l m) (f : ∀ a b, R a b → S a b) : All2 S l m := by induction h with | nil => exact .nil | cons x _ ih => exact .cons (f _ _ x) ih
theorem append {l l' : List α} {m m' : List β} (h : All2 R l m) (h' : All2 R l' m') : All2 R (l ++ l') (m ++ m') := by induction h with | nil => exact h' | cons x _ ih => exact .cons x ih
theorem snoc {l : List α} {m : List β} {a : α} {b : β} (h : All2 R l m) (x : R a b) : All2 R (l ++ [a]) (m ++ [b]) := h.append (.cons x .nil)
theorem get {l : List α} {m : List β} (h : All2 R l m) {i : Nat} {a : α} (e : l[i]? = some a) : ∃ b, m[i]? = some b ∧ R a b := by
  induction h generalizing i with
  | nil => simp at e
  | cons x _ ih =>
    cases i with
    | zero => cases e; exact ⟨_, rfl, x⟩
    | succ i => exact ih e
theorem get' {l : List α} {m : List β} (h : All2 R l m) {i : Nat} {b : β} (e : m[i]? = some b) : ∃ a, l[i]? = some a ∧ R a b := by
  induction h generalizing i with
  | nil => simp at e
  | cons x _ ih =>
    cases i with
    | zero => cases e; exact ⟨_, rfl, x⟩
    | succ i => exact ih e
end All2

def ItemsAt (g : Heap) (vs : List Value) (is : List It) : Prop := All2 (ItemAt g) vs is
theorem ItemsAt.mono {g g' : Heap} {vs : List Value} {is : List It} (h : ItemsAt g vs is) (s : Sub g g') : ItemsAt g' vs is := All2.imp h fun _ _ x => x.mono s
abbrev Row2 := It × List It
def prodF (lv : Value) (T : Addr) : Str → Option Value := fun y => if y = "_rhs" then some (.ref T) else if y = "_lhs" then some lv else none
/-- a production -/
def ProdAt (g : Heap) (v : Value) (p : Row2) : Prop := ∃ x lv T vs, v = .ref x ∧ Inst g x 155 (prodF lv T) ∧ ItemAt g lv p.1 ∧ IsTup g T vs.toArray ∧ ItemsAt g vs p.2
theorem ProdAt.mono {g g' : Heap} {v : Value} {p : Row2} (h : ProdAt g v p) (s : Sub g g') : ProdAt g' v p := let ⟨x, lv, T, vs, a, b, c, d, e⟩ := h; ⟨x, lv, T, vs, a, b.mono s, c.mono s, isTup_mono d s, e.mono s⟩
theorem isList_mono {h h' : Heap} {a : Addr} {xs : Array Value} (x : h.IsList a xs) (s : Sub h h') : h'.IsList a xs := let ⟨o, e, r⟩ := x; ⟨o, s _ _ e, r⟩

section
variable {prog : Program} {w : World} {mg mb : Str → Option Value} {A : Around} {E : Value → Shared → Prop} {s : Shared} {F : Fx} {g : Heap} {led : Led} {m : Str → Option Value} {env : Env}

theorem toTuple {l : Addr} {vs : List Value} {Q : Value → Shared → Prop} (H : In F g led m s) (hl : s.heap.IsList l vs.toArray) (h : ∀ T s' g', Sub g g' → IsTup g' T vs.toArray → In F g' led m s' → Q (.ref T) s') (hz : vs.length ≤ sizeLine) : wpAny (model prog w) A (call (.type "tuple") [.ref l]) Q E s := by
  refine sz (call_tuple_list hl (fun h' hk hz' => ?_) (by rw [List.size_toArray]; exact hz))
  obtain ⟨o, g', e, ho, hs, H'⟩ := (H.new2 hk { cls := .type "tuple", data := .seq vs.toArray } rfl (fun o => o = { cls := .type "tuple", data := .seq vs.toArray }) rfl hz').freeze (Nat.le_trans H.fresh (Nat.le_of_lt (by obtain ⟨x, _, _, h, _⟩ := H.ns; exact Heap.lt_size (hk _ _ h))))
  subst e
  exact h _ _ g' hs ⟨_, ho, rfl, 0, rfl⟩ H'

theorem g_tuple : bootBuiltins "tuple" = some (.type "tuple") := by kernel_rfl
theorem n_tuple (P : Params) : nsIn (hd.heap_39 P) mainGlobals "tuple" = some none := by kernel_rfl
theorem g_str : bootBuiltins "str" = some (.type "str") := by kernel_rfl
theorem n_str (P : Params) : nsIn (hd.heap_39 P) mainGlobals "str" = some none := by kernel_rfl

/-- callWith upon a built-in type -/
theorem callT {pos : Pos} {T : String} {first : List Value} {e : PySem.Expr} {rest : List PySem.Expr} {Q : Value → Shared → Prop}
    (h : wpAny (model prog w) A (spliced (backTo pos (starEach (e :: rest) env))) (fun vs s₁ => wpAny (model prog w) A (call (.type T) (first ++ vs)) Q E s₁) E s)
    (he : starEach (e :: rest) env = (false, eval e env) :: starEach rest env := by rfl) (hplain : (backTo pos (starEach rest env)).any (·.1) = false := by rfl) :
    wpAny (model prog w) A (callWith pos (.type T) first (backTo pos (starEach (e :: rest) env)) []) Q E s := by
  rw [he] at h ⊢
  refine callWith_of (P := fun _ => True) (by show ((false || (backTo pos (starEach rest env)).any (·.1)) || false) = false; rw [hplain]; rfl) (fun _ _ => ⟨.machine, .inr (.inl rfl), Looks.of_pure rfl⟩) (evalArgs_plain (wpAny_mono h (fun _ _ q => ⟨trivial, q⟩) fun _ _ q => q))

theorem newP {lv : Value} {l : Addr} {vs : List Value} {p : Row2} {Q : Value → Shared → Prop} (r : Room A 2 20) (k : KB w mg mb g) (hs : Sub g s.heap) (hi : ItemAt g lv p.1) (hl : g.IsList l vs.toArray) (hv : ItemsAt g vs p.2) (hz : p.2.length ≤ 1000)
    (h : ∀ x s' g', Rel [] s g s' g' → ProdAt g' (.ref x) p → Q (.ref x) s') : wpAny (model prog w) A (call (.ref 155) [lv, .ref l]) Q E s := by
  refine newOb (fI := 105) k hs (by kernel_rfl) (by kernel_rfl) (by kernel_rfl) fun x dx s' g1 R1 e1 n1 d1 hz' => ?_
  have r' : Room (A.under (.builtin "type.__call__" ⟨.ref 155 :: [lv, .ref l], []⟩)) 1 10 := (r.le (d' := 2) (u' := 11) (by omega) (by omega)).make
  have k := k.mono R1.sub
  have hl := isList_mono hl R1.sub
  refine enterI [("self", .ref x), ("lhs", lv), ("rhs", .ref l)] (led := [(dx, NsO 0 fun _ => none)]) k R1.into r'.lt (led1 d1 n1 .emptyD) (by simp) fun L s H => ?_
  refine ex_if (isT (Call_ (nmB H k g_isinstance (e := n_isinstance _) (callB (aC (nm H rfl (a1 (nmB H k g_str (e := n_str _) ?_))))))))
  have hl1 := hl
  obtain ⟨ol, hol, hcl, _⟩ := hl1
  refine IsiPair.list_str (H.into _ _ hol) hcl (tr_b ?_)
  have H := H.toks (s.toks + 1)
  refine ex_nil (ex_setA (nm H rfl (nm H rfl (setA (pre := []) H k (c155 _) (H.into _ _ e1) (by kernel_rfl) fun s H => ?_))))
  refine ex_setA (Call_ (nmB H k g_tuple (e := n_tuple _) (callT (a1 (nm H rfl (toTuple H (isList_mono hl H.into) (fun T s g2 S2 hT H => ?_) ?_))))))
  · refine nm H rfl (setA (pre := []) H (k.mono S2) (c155 _) (H.into _ _ (S2 _ _ e1)) (by kernel_rfl) fun s H => ex_nil ⟨rfl, ?_⟩)
    obtain ⟨o, ho, hn⟩ := H.get (.head _)
    exact ⟨g2, _, _, o, H.rel, ho, hn, fun g3 R3 S3 i => h _ _ _ R3 ⟨x, lv, T, vs, rfl, i, hi.mono R3.sub, isTup_mono hT S3, hv.mono R3.sub⟩⟩
  · rw [All2.length hv, sizeLine_eq]; omega
end
end Mine
end

section
open PySem PySem.W PySem.Calls PyProof.Rows
set_option maxRecDepth 100000
namespace Mine
theorem fillK4 (P : Params) : hd.heap_39 P = hd.heap_39 P → PySem.Challenge.rw_bn0044_01 = PySem.Challenge.rw_bn0044_01 := by
  k_fill
  exact fun _ => rfl
section
variable {prog : Program} {w : World} {mg mb : Str → Option Value} {A : Around} {E : Value → Shared → Prop} {s : Shared} {F : Fx} {g : Heap} {led : Led} {m : Str → Option Value} {env : Env}

structure Meth (P : Params) (C : Addr) (name : Str) (fn : Addr) : Prop where
  f : findIn (hd.heap_39 P) (.ref C) name = some (some (.ref fn))
  t : typeIn (hd.heap_39 P) (.ref fn) = some (.type "function")
  k : keepIn (hd.heap_39 P) (.ref fn) = true

theorem meth {x C fn : Addr} {f : Str → Option Value} {name : Str} {pl : Sem Bool} {Q : Value × List Value → Shared → Prop} (H : In F g led m s) (k : KB w mg mb g) (c : Cls w.params C) (i : Inst g x C f)
    (hm : Meth w.params C name fn) (hn : f name = none) (h : Q (.ref fn, [.ref x]) s) : wpAny (model prog w) A (getMethod (.ref x) name pl) Q E s := by
  obtain ⟨dx, _, o, I, n⟩ := (i.mono H.into).at
  exact method_fn (H.K k) I (plainGet_of (c.pg name)).1 (plainGet_of (c.pg name)).2 hm.f hm.t (by show (lookIn name o).map _ = _; rw [n.look, hn]; rfl) h

theorem M_symbol (P : Params) : Meth P 66 "symbol" 42 := ⟨by kernel_rfl, by kernel_rfl, by kernel_rfl⟩
theorem M_lhs (P : Params) : Meth P 155 "lhs" 112 := ⟨by kernel_rfl, by kernel_rfl, by kernel_rfl⟩
theorem M_rhs (P : Params) : Meth P 155 "rhs" 119 := ⟨by kernel_rfl, by kernel_rfl, by kernel_rfl⟩
theorem a155_lhs (P : Params) : findIn (hd.heap_39 P) (.ref 155) "_lhs" = some none := by kernel_rfl
theorem a155_rhs (P : Params) : findIn (hd.heap_39 P) (.ref 155) "_rhs" = some none := by kernel_rfl

theorem symbol_spec {x : Addr} {n : Str} {tk : Tok} {Q : Value → Shared → Prop} (r : Room A 1 10) (k : KB w mg mb g) (hs : Sub g s.heap) (hI : Inst g x 66 (symF n tk)) (h : ∀ s' g', Rel [] s g s' g' → Q (.str n tk) s') :
    wpAny (model prog w) A (call (.ref 42) [.ref x]) Q E s := by
  refine enter0 [("self", .ref x)] k hs r.lt ?_; intro L s H
  exact ex_ret (Attribute_any_ (nm H rfl (attr H k (c66 _) hI (a66_symbol _) rfl rfl fun s H => h _ _ H.rel)))
theorem lhs_spec {x T : Addr} {lv : Value} {Q : Value → Shared → Prop} (r : Room A 1 10) (k : KB w mg mb g) (hs : Sub g s.heap) (hI : Inst g x 155 (prodF lv T)) (hv : handedIn lv = true) (h : ∀ s' g', Rel [] s g s' g' → Q lv s') :
    wpAny (model prog w) A (call (.ref 112) [.ref x]) Q E s := by
  refine enter0 [("self", .ref x)] k hs r.lt ?_; intro L s H
  exact ex_ret (Attribute_any_ (nm H rfl (attr H k (c155 _) hI (a155_lhs _) rfl hv fun s H => h _ _ H.rel)))
theorem rhs_spec {x T : Addr} {lv : Value} {Q : Value → Shared → Prop} (r : Room A 1 10) (k : KB w mg mb g) (hs : Sub g s.heap) (hI : Inst g x 155 (prodF lv T)) (h : ∀ s' g', Rel [] s g s' g' → Q (.ref T) s') :
    wpAny (model prog w) A (call (.ref 119) [.ref x]) Q E s := by
  refine enter0 [("self", .ref x)] k hs r.lt ?_; intro L s H
  exact ex_ret (Attribute_any_ (nm H rfl (attr H k (c155 _) hI (a155_rhs _) rfl rfl fun s H => h _ _ H.rel)))
theorem ItemAt.handed {g : Heap} {v : Value} {i : It} (h : ItemAt g v i) : handedIn v = true := by cases h <;> rfl

/-- is_nonterminal(item), is_terminal(item) -/
theorem isN_spec {v : Value} {i : It} {Q : Value → Shared → Prop} (r : Room A 1 10) (k : KB w mg mb g) (hs : Sub g s.heap) (hi : ItemAt g v i) (h : ∀ s' g', Rel [] s g s' g' → Q (.bool (!i.t)) s') :
    wpAny (model prog w) A (call (.ref 77) [v]) Q E s := by
  refine enter0 [("item", v)] k hs r.lt ?_; intro L s H
  exact ex_ret (Call_ (nmB H k g_isinstance (e := n_isinstance _) (callB (aC (nm H rfl (a1 (nmG H k (g_Nonterminal _) (isi_sym H k hi fun s H => h _ _ H.rel))))))))
theorem isT_spec {v : Value} {i : It} {Q : Value → Shared → Prop} (r : Room A 1 10) (k : KB w mg mb g) (hs : Sub g s.heap) (hi : ItemAt g v i) (h : ∀ s' g', Rel [] s g s' g' → Q (.bool i.t) s') :
    wpAny (model prog w) A (call (.ref 84) [v]) Q E s := by
  refine enter0 [("item", v)] k hs r.lt ?_; intro L s H
  exact ex_ret (UnaryOp_ (Call_ (nmB H k g_isinstance (e := n_isinstance _) (callB (aC (nm H rfl (a1 (nmG H k (g_Nonterminal _) (isi_sym H k hi fun s H => not_of (tr_b (by
    have := h _ _ H.rel
    cases hb : i.t <;> rw [hb] at this <;> exact this)))))))))))
end
end Mine
end

section
open PySem PySem.W PySem.Calls PyProof.Rows
set_option maxRecDepth 100000
namespace Mine

section
variable {prog : Program} {w : World} {A : Around} {E : Value → Shared → Prop} {s s' s'' : Shared} {F : Fx} {g g' : Heap} {led led' : Led} {m m' : Str → Option Value} {env : Env}

/-- a frame within the frame (a comprehension's) is left -/
theorem In.out {L' : Addr} {h'' : Heap} (H : In F g led m s) (H' : In ⟨s, g, led.map (·.1), L'⟩ g' led' m' s') (hb : Heap.SameBut L' s'.heap h'') : In F g' led' m { s' with heap := h'' } := by
  have keep : ∀ b x, b ≠ L' → s'.heap.get? b = some x → h''.get? b = some x := fun b x n e => (hb.2 b n).trans e
  have R : Rel (led.map (·.1)) s g { s' with heap := h'' } g' := ⟨H'.rel.sub, fun b x e => keep b x (fun q => by subst q; rw [H'.off] at e; cases e) (H'.into b x e), H'.rel.new,
    fun b x n e => keep b x (fun q => by subst q; exact absurd (Heap.lt_size e) (Nat.not_lt.mpr H'.fresh)) (H'.rel.keep b x n e), Nat.le_trans H'.rel.size (Nat.le_of_eq hb.1.symm), H'.rel.os, H'.rel.gens⟩
  refine H.after R (fun a h => h) (fun p hp => ?_) H'.nodup
  obtain ⟨⟨o, ho, hP⟩, h2, h3, h4⟩ := H'.ent p hp
  exact ⟨⟨o, keep _ _ h3 ho, hP⟩, h2, h4⟩

/-- one object of the ledger is written by a rule that keeps the others -/
theorem In.lose {a : Addr} {P : Obj → Prop} {h' : Heap} {tk : Nat} (H : In F g ((a, P) :: led) m s) (hk : ∀ b o, b ≠ a → s.heap.get? b = some o → h'.get? b = some o) (hz : s.heap.objs.size ≤ h'.objs.size) :
    In F g led m { s with heap := h', toks := tk } := by
  have hn := H.nodup
  rw [List.map_cons, List.nodup_cons] at hn
  have e0 := H.ent _ (.head _)
  refine H.after (mu := [a]) ⟨.refl _, fun b o e => hk b o (fun q => by subst q; rw [e0.2.1] at e; cases e) (H.into b o e), fun _ _ e => .inl e, fun b o n e => hk b o (fun q => n (q ▸ .head _)) e, hz, rfl, .refl _⟩
    (fun b h => by cases List.mem_singleton.mp h; exact List.mem_cons_self) (fun p hp => ?_) hn.2
  obtain ⟨⟨o, ho, hP⟩, h2, h3⟩ := H.ent p (.tail _ hp)
  exact ⟨⟨o, hk _ _ (fun q => hn.1 (List.mem_map.mpr ⟨p, hp, q⟩)) ho, hP⟩, h2, .inl (List.mem_cons_of_mem _ (List.mem_map_of_mem hp))⟩
theorem In.wr {a : Addr} {P P' : Obj → Prop} {h' : Heap} {o' : Obj} {tk : Nat} (H : In F g ((a, P) :: led) m s) (hk : ∀ b o, b ≠ a → s.heap.get? b = some o → h'.get? b = some o) (hz : s.heap.objs.size ≤ h'.objs.size) (ho : h'.get? a = some o') (hP : P' o') :
    In F g ((a, P') :: led) m { s with heap := h', toks := tk } := by
  have hn := H.nodup
  have e0 := H.ent _ (.head _)
  have hL : a ≠ F.L := e0.2.2.1
  have K := H.lose (tk := tk) hk hz
  refine ⟨K.rel, K.ns, K.fresh, K.off, fun p hp => ?_, H.nodup⟩
  rcases List.mem_cons.mp hp with rfl | hp
  · exact ⟨⟨o', ho, hP⟩, e0.2.1, hL, e0.2.2.2⟩
  · exact K.ent p hp

/-- an iterator and what it has yet to give -/
structure Src (prog : Program) (w : World) (g : Heap) {α : Type} (R : Value → α → Prop) (I : Addr) (St : List α → Obj → Prop) : Prop where
  next : ∀ (A : Around) (E : Value → Shared → Prop) (F : Fx) (g' : Heap) (led : Led) (m : Str → Option Value) (s : Shared) (rest : List α) (Q : Option Value → Shared → Prop), A.handled = none → Sub g g' →
    In F g' ((I, St rest) :: led) m s →
    (match rest with
      | [] => ∀ s', In F g' led m s' → Q none s'
      | x :: r => ∀ v s', R v x → In F g' ((I, St r) :: led) m s' → Q (some v) s') → wpAny (model prog w) A (pyNext (.ref I)) Q E s
  self : ∀ (A : Around) (E : Value → Shared → Prop) (F : Fx) (g' : Heap) (led : Led) (m : Str → Option Value) (s : Shared) (rest : List α) (Q : Value → Shared → Prop), Sub g g' →
    In F g' ((I, St rest) :: led) m s → Q (.ref I) s → wpAny (model prog w) A (pyIter (.ref I)) Q E s
  go : ∀ (A : Around) (E : Value → Shared → Prop) (F : Fx) (g' : Heap) (led : Led) (m : Str → Option Value) (s : Shared) (rest : List α) (tgt : PySem.Expr) (v : Value) (Q : Unit → Shared → Prop), Sub g g' →
    In F g' ((I, St rest) :: led) m s → Q () s → wpAny (model prog w) A (letOwnedTupleGo tgt (.ref I) v) Q E s

theorem letOwned {I : Addr} {cls : String} {o : Obj} {tgt : PySem.Expr} {v : Value} {Q : Unit → Shared → Prop} (ho : s.heap.get? I = some o) (hc : o.cls = .type cls)
    (hn : (["enumerate", "zip", "dict_itemiterator", "dict_reverseitemiterator", "odict_iterator", "itertools.zip_longest", "itertools.pairwise"].contains cls) = false) (h : Q () s) :
    wpAny (model prog w) A (letOwnedTupleGo tgt (.ref I) v) Q E s := by
  have key : ∀ v : Value, wpAny (model prog w) A (match (Value.ref I, v) with
      | (Value.ref r, Value.ref a) => do
        let o ← load r
        match o.cls, o.data with
          | Value.type n, Data.fields vs =>
            if (["enumerate", "zip", "dict_itemiterator", "dict_reverseitemiterator", "odict_iterator", "itertools.zip_longest", "itertools.pairwise"].contains n && vs[0]? == some (rawInt ↑a)) = true then do
              rule "for.unpacks-the-owned-tuple"
              updateField r 0 Value.none
            else pure ()
          | _, _ => pure ()
      | _ => pure ()) Q E s := fun v => by
    cases v <;> try exact wpAny_pure h
    refine wpAny_bind (wpAny_load ho ?_)
    rw [hc]
    cases o.data <;> try exact wpAny_pure h
    dsimp only
    rw [hn, Bool.false_and, if_neg Bool.false_ne_true]
    exact wpAny_pure h
  cases tgt <;> first | exact wpAny_pure h | exact key v

theorem Src.of {α : Type} {R : Value → α → Prop} {I : Addr} {fp : List Addr} {xs : List α} {C : Heap → Prop} {T : Nat → Heap → Prop} {cls : String}
    (hT : ∀ i h h', T i h → h'.get? I = h.get? I → T i h') (hT0 : ∀ i h, T i h → ∃ o, h.get? I = some o ∧ o.cls = .type cls)
    (W : ∀ A : Around, A.handled = none → Walks prog w A I fp [I] xs.length (fun i v => ∃ x, xs[i]? = some x ∧ R v x) (fun i h => T i h ∧ C h)) (hC : ∀ h, Sub g h → C h)
    (W' : ∀ (A : Around) (E : Value → Shared → Prop) i (s : Shared) (Q : Value → Shared → Prop), T i s.heap → Q (.ref I) s → wpAny (model prog w) A (pyIter (.ref I)) Q E s)
    (hn : (["enumerate", "zip", "dict_itemiterator", "dict_reverseitemiterator", "odict_iterator", "itertools.zip_longest", "itertools.pairwise"].contains cls) = false) :
    Src prog w g R I (fun rest o => ∃ i, rest = xs.drop i ∧ i ≤ xs.length ∧ ∀ h, h.get? I = some o → T i h) where
  next := by
    intro A E F g' led m s rest Q hh hg H h
    obtain ⟨o, ho, i, hr, hi, ht⟩ := H.get (.head _)
    have t := ht _ ho
    have c := hC _ (hg.trans H.into)
    rcases Nat.lt_or_ge i xs.length with hlt | hge
    · refine sz ((W A hh).item i s _ _ hlt ⟨t, c⟩ fun v h' tk hv st hk hz => ?_)
      obtain ⟨x, hx, hR⟩ := hv
      have hd : xs.drop i = x :: xs.drop (i + 1) := by rw [List.drop_eq_getElem_cons hlt]; rw [List.getElem?_eq_getElem hlt] at hx; cases hx; rfl
      rw [hd] at hr; subst hr
      obtain ⟨o', ho', _⟩ := hT0 _ _ st.1
      exact h v _ hR (H.wr (fun b o n e => hk b o (by simpa using n) e) hz ho' ⟨i + 1, rfl, hlt, fun h2 e2 => hT _ _ _ st.1 (e2.trans ho'.symm)⟩)
    · have hd : xs.drop i = [] := List.drop_eq_nil_of_le hge
      rw [hd] at hr; subst hr
      have hi' : i = xs.length := Nat.le_antisymm hi hge
      subst hi'
      refine sz ((W A hh).done s _ _ ⟨t, c⟩ fun h' tk hk hz => ?_)
      exact h _ (H.lose (fun b o n e => hk b o (by simpa using n) e) hz)
  self := by
    intro A E F g' led m s rest Q hg H h
    obtain ⟨o, ho, i, hr, hi, ht⟩ := H.get (.head _)
    exact W' A E i s Q (ht _ ho) h
  go := by
    intro A E F g' led m s rest tgt v Q hg H h
    obtain ⟨o, ho, i, hr, hi, ht⟩ := H.get (.head _)
    obtain ⟨o', ho', hc⟩ := hT0 _ _ (ht _ ho)
    exact letOwned ho' hc hn h
end
end Mine
end

section
open PySem PySem.W PySem.Calls PyProof.Rows
set_option maxRecDepth 100000
namespace Mine

section
variable {prog : Program} {w : World} {A : Around} {E : Value → Shared → Prop} {s s' s'' : Shared} {F : Fx} {g g' : Heap} {led led' : Led} {m m' : Str → Option Value} {env : Env}

theorem itList {l : Addr} {vs : List Value} {Q : Value → Shared → Prop} (H : In F g led m s) (hl : g.IsList l vs.toArray) (h : ∀ I St s', Src prog w g (fun v x => v = x) I St → In F g ((I, St vs) :: led) m s' → Q (.ref I) s') :
    wpAny (model prog w) A (pyIter (.ref l)) Q E s := by
  have hne : l ≠ s.heap.objs.size := by obtain ⟨o, e, _⟩ := hl; exact Nat.ne_of_lt (Heap.lt_size (H.into _ _ e))
  refine wpAny_pyIter_list (isList_mono hl H.into) (h _ (fun rest o => ∃ i, rest = vs.drop i ∧ i ≤ vs.length ∧ ∀ h : Heap, h.get? s.heap.objs.size = some o → h.IsListIter s.heap.objs.size l i) _ ?_ (H.new _ rfl _ ⟨0, rfl, Nat.zero_le _, fun h2 e2 => ⟨_, e2, rfl, rfl⟩⟩))
  refine Src.of (fp := [s.heap.objs.size, l]) (cls := "list_iterator") (C := fun h => h.IsList l vs.toArray) (fun i h h' t e => t.at fun o e' => e.trans e') (fun i h t => let ⟨o, a, b, _⟩ := t; ⟨o, a, b⟩) (fun A hh => ?_) (fun h hs => isList_mono hl hs)
    (fun A E i s Q t q => wpAny_pyIter_listiter t q) (by decide)
  have W := Walks.list (prog := prog) (w := w) hh s.heap.objs.size l hne vs.toArray
  simp only [List.size_toArray, List.getElem?_toArray] at W
  simpa using W

theorem itTup {l : Addr} {vs : List Value} {Q : Value → Shared → Prop} (H : In F g led m s) (hl : IsTup g l vs.toArray) (h : ∀ I St s', Src prog w g (fun v x => v = x) I St → In F g ((I, St vs) :: led) m s' → Q (.ref I) s') :
    wpAny (model prog w) A (pyIter (.ref l)) Q E s := by
  have hne : l ≠ s.heap.objs.size := by obtain ⟨o, e, _⟩ := hl; exact Nat.ne_of_lt (Heap.lt_size (H.into _ _ e))
  refine wpAny_pyIter_tuple (isTup_mono hl H.into) (h _ (fun rest o => ∃ i, rest = vs.drop i ∧ i ≤ vs.length ∧ ∀ h : Heap, h.get? s.heap.objs.size = some o → h.IsTupleIter s.heap.objs.size l i) _ ?_ (H.new _ rfl _ ⟨0, rfl, Nat.zero_le _, fun h2 e2 => ⟨_, e2, rfl, rfl⟩⟩))
  refine Src.of (fp := [s.heap.objs.size, l]) (cls := "tuple_iterator") (C := fun h => h.IsTuple l vs.toArray) (fun i h h' t e => t.at fun o e' => e.trans e') (fun i h t => let ⟨o, a, b, _⟩ := t; ⟨o, a, b⟩) (fun A hh => ?_) (fun h hs => isTup_mono hl hs)
    (fun A E i s Q t q => wpAny_pyIter_tupleiter t q) (by decide)
  have W := Walks.tuple (prog := prog) (w := w) hh s.heap.objs.size l hne vs.toArray
  simp only [List.size_toArray, List.getElem?_toArray] at W
  simpa using W

/-- range(n), walked -/
theorem itRange {n : Nat} {t : Tok} {Q : Value → Shared → Prop} (H : In F g led m s) (hn : n ≤ 1000) (h : ∀ I St s', Src prog w g (fun v (x : Nat) => ∃ t, v = .int (x : Int) t) I St → In F g ((I, St (List.range n)) :: led) m s' → Q (.ref I) s') :
    wpAny (model prog w) A (call (.type "range") [.int n t]) (fun v s' => wpAny (model prog w) A (pyIter v) Q E s') E s := by
  refine call_range_1 (wpAny_pyIter_range (IsRange.new ..) (small_one (by decide) (by decide) (by omega) (by omega)) ?_)
  have hsz : Builtin.Range.rangeSize 0 n 1 = (n : Int) := by rw [rangeSize_one]; split <;> omega
  have H1 := ((H.new { cls := .type "range", data := .fields #[.int 0 s.toks, .int n t, .int 1 (s.toks + 1)] } rfl (fun _ => True) trivial).drop).toks (s.toks + 1 + 1)
  refine h _ (fun rest o => ∃ i, rest = (List.range n).drop i ∧ i ≤ (List.range n).length ∧ ∀ h : Heap, h.get? ((s.heap.push { cls := .type "range", data := .fields #[.int 0 s.toks, .int n t, .int 1 (s.toks + 1)] }).objs.size) = some o → IsRangeIter h ((s.heap.push { cls := .type "range", data := .fields #[.int 0 s.toks, .int n t, .int 1 (s.toks + 1)] }).objs.size) (0 + (i : Nat) * 1) ((n : Int) - (i : Nat)) 1) _ ?_
    (H1.new { cls := .type "range_iterator", data := .fields #[rawInt 0, rawInt (Builtin.Range.rangeSize 0 n 1), rawInt 1] } rfl _ ⟨0, rfl, Nat.zero_le _, fun h2 e2 => ?_⟩)
  · refine Src.of (fp := [(s.heap.push { cls := .type "range", data := .fields #[.int 0 s.toks, .int n t, .int 1 (s.toks + 1)] }).objs.size]) (cls := "range_iterator") (C := fun h => True) (fun i h h' t e => e.trans t) (fun i h t => ⟨_, t, rfl⟩) (fun A hh => ?_) (fun h hs => trivial)
      (fun A E i s Q t q => wpAny_pyIter_rangeiter t q) (by decide)
    have W := Walks.range (prog := prog) (w := w) hh ((s.heap.push { cls := .type "range", data := .fields #[.int 0 s.toks, .int n t, .int 1 (s.toks + 1)] }).objs.size) 0 1 n
    refine ⟨W.sub, fun i h h' st hk => ⟨W.frame i h h' st.1 hk, trivial⟩, fun i s Q E hi st hQ => W.item i s Q E (by simpa using hi) st.1 fun v h' tk hv st' hk => hQ v h' tk ?_ ⟨st', trivial⟩ hk, fun s Q E st hQ => W.done s Q E (by simpa using st.1) hQ, fun i s Q E st hQ => W.self i s Q E st.1 hQ⟩
    obtain ⟨t, e⟩ := hv
    rw [List.length_range] at hi
    exact ⟨i, by simp [hi], t, by rw [e]; congr 1; omega⟩
  · rw [hsz] at e2
    simpa using e2

/-- where a loop stands after a turn -/
def Nxt {α : Type} (F : Fx) (g0 : Heap) (I : Addr) (St : List α → Obj → Prop) (J : List α → Heap → Led → (Str → Option Value) → Prop) (rest : List α) (s : Shared) : Prop :=
  ∃ g' led' m', Sub g0 g' ∧ In F g' ((I, St rest) :: led') m' s ∧ J rest g' led' m'

theorem forL {α : Type} {R : Value → α → Prop} {I : Addr} {St : List α → Obj → Prop} {g0 : Heap} {xs : List α} {target : PySem.Expr} {body : List Stmt} {Rr : Result → Shared → Prop} (J : List α → Heap → Led → (Str → Option Value) → Prop) (S : Src prog w g0 R I St) (hh : A.handled = none)
    (hg : Sub g0 g) (H : In F g ((I, St xs) :: led) m s) (h0 : J xs g led m)
    (step : ∀ x rest g led m s v, Sub g0 g → R v x → In F g ((I, St rest) :: led) m s → J (x :: rest) g led m →
      wpAny (model prog w) A (assign target env v) (fun _ s => wpAny (model prog w) A (execs body env) (fun fl s => match fl with
        | .next | .cont => Nxt F g0 I St J rest s
        | .brk => False
        | .ret v => Rr (.ok (.ret v)) s) (fun _ _ => False) s) (fun _ _ => False) s)
    (fin : ∀ g led m s, Sub g0 g → In F g led m s → J [] g led m → Rr (.ok .next) s) : codeAny (model prog w) A (.forLoop target (.ref I) body [] env) Rr s := by
  refine codeAny_forLoop_any (fun n s => ∃ rest g led m, rest.length = n ∧ Sub g0 g ∧ In F g ((I, St rest) :: led) m s ∧ J rest g led m) ?_ xs.length ⟨xs, g, led, m, rfl, hg, H, h0⟩
  rintro n s ⟨rest, g, led, m, rfl, hg, H, hJ⟩
  refine S.next A _ F g led m s rest _ hh hg H ?_
  cases rest with
  | nil => exact fun s' H' => wpAny_execs_nil (fin _ _ _ _ hg H' hJ)
  | cons x rest =>
    intro v s' hR H'
    refine S.go _ _ _ _ _ _ _ _ _ _ _ hg H' ?_
    refine wpAny_mono (step x rest g led m s' v hg hR H' hJ) (fun _ s2 h2 => wpAny_mono h2 (fun fl s3 h3 => ?_) fun _ _ q => q.elim) fun _ _ q => q.elim
    cases fl with
    | next => obtain ⟨g', led', m', a, b, c⟩ := h3; exact ⟨_, Nat.lt_succ_self _, rest, g', led', m', rfl, a, b, c⟩
    | cont => obtain ⟨g', led', m', a, b, c⟩ := h3; exact ⟨_, Nat.lt_succ_self _, rest, g', led', m', rfl, a, b, c⟩
    | brk => exact h3.elim
    | ret v => exact h3

/-- a for statement -/
theorem ex_for {target iter : PySem.Expr} {pos : Pos} {body rest : List Stmt} {Q : Flow → Shared → Prop}
    (h : wpAny (model prog w) A (eval iter env) (fun x s₁ => wpAny (model prog w) A (pyIter x) (fun it s₂ => codeAny (model prog w) A (.forLoop target it body [] env)
      (fun r s' => match r with | .ok .next => wpAny (model prog w) A (execs rest env) Q E s' | .ok f => Q f s' | .error e => False) s₂) E s₁) E s)
    (hs : ∀ x, foldedSetIterable iter env x = pure x := by intro _; rfl) : wpAny (model prog w) A (execs (.For target iter body [] pos :: rest) env) Q E s := by
  refine wpAny_execs_cons (wpAny_For (wpAny_mono h (fun x s₁ h₁ => wpAny_mono h₁ (fun it s₂ h₂ => codeAny_mono h₂ fun r s' hr => ?_) fun _ _ q => q) fun _ _ q => q) hs)
  cases r with
  | ok f => cases f <;> exact hr
  | error e => exact hr.elim
end
end Mine
end

section
open PySem PySem.W PySem.Calls PyProof.Rows
set_option maxRecDepth 100000
namespace Mine

section
variable {prog : Program} {w : World} {A : Around} {E : Value → Shared → Prop} {s s' s'' : Shared} {F : Fx} {g g' : Heap} {led led' : Led} {m m' : Str → Option Value} {env : Env}

abbrev no : Value → Shared → Prop := fun _ _ => False
def tests (ifs : List PySem.Expr) (env : Env) : Sem Bool := forIn ifs true fun c r => if r = true then do let ok ← isTrue c env (eval c env); pure (ForInStep.yield ok) else pure (ForInStep.yield r)
theorem tests0 {Q : Bool → Shared → Prop} (h : Q true s) : wpAny (model prog w) A (tests [] env) Q E s := wpAny_tests_nil h
theorem tests1 {c : PySem.Expr} {Q : Bool → Shared → Prop} (h : wpAny (model prog w) A (isTrue c env (eval c env)) Q E s) : wpAny (model prog w) A (tests [c] env) Q E s := wpAny_tests_one h

/-- one turn of a comprehension's loop -/
def turnOf (e : PySem.Expr) (d : Nat) (target : PySem.Expr) (ifs : List PySem.Expr) (body : Sem Unit) (p : Pos) (it acc : Value) (env : Env) : Sem PySem.Fin := do
  standAt p
  match ← pyNext it with
  | none => pure (.done .next)
  | some v =>
    letOwnedTupleGo target it v
    assign target env v
    let ok ← tests ifs env
    if ok then body
    again (.compLoop e d it acc env)

theorem compL {α : Type} {R : Value → α → Prop} {e : PySem.Expr} {d : Nat} {target : PySem.Expr} {ifs : List PySem.Expr} {body : Sem Unit} {p : Pos} {acc : Value} {I : Addr} {St : List α → Obj → Prop} {g0 : Heap} {xs : List α} {Rr : Result → Shared → Prop}
    (J : List α → Heap → Led → (Str → Option Value) → Prop) (S : Src prog w g0 R I St) (hh : A.handled = none)
    (hg : Sub g0 g) (H : In F g ((I, St xs) :: led) m s) (h0 : J xs g led m)
    (step : ∀ x rest g led m s v, Sub g0 g → R v x → In F g ((I, St rest) :: led) m s → J (x :: rest) g led m →
      wpAny (model prog w) A (assign target env v) (fun _ s => wpAny (model prog w) A (tests ifs env) (fun ok s => if ok = true then wpAny (model prog w) A body (fun _ s => Nxt F g0 I St J rest s) no s else Nxt F g0 I St J rest s) no s) no s)
    (fin : ∀ g led m s, Sub g0 g → In F g led m s → J [] g led m → Rr (.ok .next) s)
    (heq : compTurn e d (.ref I) acc env = turnOf e d target ifs body p (.ref I) acc env)
    (hden : (model prog w).den (.compLoop e d (.ref I) acc env) = (compTurn e d (.ref I) acc env).onRaise (fun x => do noteFrame x env; theTreesLotGoes x))
    (hun : A.under (.compLoop e d (.ref I) acc env) = A) (hq : (Code.compLoop e d (.ref I) acc env).quiet = true) : codeAny (model prog w) A (.compLoop e d (.ref I) acc env) Rr s := by
  refine codeAny_loop hq (fun n s => ∃ rest g led m, rest.length = n ∧ Sub g0 g ∧ In F g ((I, St rest) :: led) m s ∧ J rest g led m) ?_ xs.length ⟨xs, g, led, m, rfl, hg, H, h0⟩
  rintro n s ⟨rest, g, led, m, rfl, hg, H, hJ⟩
  rw [hden, heq, hun]
  refine wpAny_noted (wpAny_bind (wpAny_standAt (wpAny_bind (S.next A _ F g led m s rest _ hh hg H ?_))))
  cases rest with
  | nil => exact fun s' H' => wpAny_pure (fin _ _ _ _ hg H' hJ)
  | cons x rest =>
    intro v s' hR H'
    refine wpAny_bind (S.go _ _ _ _ _ _ _ _ _ _ _ hg H' ?_)
    refine wpAny_bind (wpAny_mono (step x rest g led m s' v hg hR H' hJ) (fun _ s2 h2 => wpAny_bind (wpAny_mono h2 (fun ok s3 h3 => ?_) fun _ _ q => q.elim)) fun _ _ q => q.elim)
    cases ok with
    | false =>
      obtain ⟨g', led', m', a, b, c⟩ := h3
      exact wpAny_pure ⟨rfl, _, Nat.lt_succ_self _, rest, g', led', m', rfl, a, b, c⟩
    | true =>
      simp only [if_true] at h3
      exact wpAny_bind (wpAny_mono h3 (fun _ s4 ⟨g', led', m', a, b, c⟩ => wpAny_pure ⟨rfl, _, Nat.lt_succ_self _, rest, g', led', m', rfl, a, b, c⟩) fun _ _ q => q.elim)

theorem compS {α : Type} {R : Value → α → Prop} {e : PySem.Expr} {d : Nat} {gc : Comprehension} {acc : Value} {I : Addr} {St : List α → Obj → Prop} {g0 : Heap} {xs : List α} {Rr : Result → Shared → Prop}
    (S : Src prog w g0 R I St) (hg : Sub g0 g) (H : In F g ((I, St xs) :: led) m s) (h : codeAny (model prog w) A (.compLoop e d (.ref I) acc env) Rr s)
    (hcl : (clausesOf e)[d]? = some gc) (ha : gc.is_async = 0)
    (hden : (model prog w).den (.compStart e d (.ref I) acc env) = (compStart e d (.ref I) acc env).onRaise (fun x => do noteFrame x env; standAt theWindowsPlace))
    (hun : A.under (.compStart e d (.ref I) acc env) = A) (hq : (Code.compLoop e d (.ref I) acc env).quiet = true) : codeAny (model prog w) A (.compStart e d (.ref I) acc env) Rr s := by
  refine codeAny_of_tree ?_
  rw [hden, hun]
  refine wpAny_notedAt ?_
  unfold compStart
  rw [hcl]
  simp only [Option.elim, ha]
  rw [if_neg (by decide)]
  refine wpAny_bind (wpAny_askSetting (wpAny_ite ?_))
  split
  · exact wpAny_pure ⟨hq, h⟩
  · exact wpAny_bind (wpAny_rule (wpAny_bind (wpAny_standAt (wpAny_bind (S.self A _ F g led m s xs _ hg H (wpAny_pure ⟨hq, h⟩))))))

/-- the names' dict of a comprehension, on the ledger -/
def NsAt (C : Addr) : Obj → Prop := fun o => ∀ h : Heap, h.get? C = some o → ∃ m, h.Ns C m

theorem In.out' {L' : Addr} (H : In F g led m s) (H' : In ⟨s, g, led.map (·.1), L'⟩ g' led' m' s') : In F g' ((L', NsAt L') :: led') m s' := by
  have K : In F g' led' m s' := H.out H' (Heap.SameBut.refl L' s'.heap)
  obtain ⟨o, es, ep, ho, hd⟩ := H'.ns
  refine K.take (o := o) ho (fun h e => ⟨m', o, es, ep, e, hd⟩) H'.off (Nat.ne_of_gt (Nat.lt_of_lt_of_le H.lt H'.fresh)) (H.was H'.fresh) fun q => ?_
  obtain ⟨p, hp, e⟩ := List.mem_map.mp q
  exact (H'.ent p hp).2.2.1 e

theorem compEnter {e : PySem.Expr} {scope : Scope} {cl : List (Str × Addr)} {it acc : Value} {use : Option (Value → Sem Unit)} {Q : Value → Shared → Prop} (H : In F g led m s)
    (hcell : ∀ y ∈ scope.names, y.2 ≠ .cell) (hkind : scope.kind = .function)
    (h : ∀ L' s1, In ⟨s, g, led.map (·.1), L'⟩ g led (fun _ => none) s1 → codeAny (model prog w) A (.compStart e 0 it acc (compEnvC scope cl L' env))
      (fun r s' => r = .ok .next ∧ ∃ g' led' m', In ⟨s, g, led.map (·.1), L'⟩ g' led' m' s' ∧
        (match use with
        | none => ∀ s'', In F g' led' m s'' → Q acc s''
        | some u => ∀ C s'', In F g' ((C, NsAt C) :: led') m s'' → wpAny (model prog w) A (u acc) (fun _ s3 => ∃ g3 led3 m3, In F g3 ((C, NsAt C) :: led3) m3 s3 ∧ ∀ s4, In F g3 led3 m3 s4 → Q .none s4) E s'')) s1) :
    wpAny (model prog w) A (newFunctionEnv scope env.globals cl [] env.qual none .none (some env)) (fun cenv s₄ => codeAny (model prog w) A (.compStart e 0 it acc { cenv with scope := relabel scope env }) (compPost (model prog w) A E use Q acc cenv.locals) s₄) E s := by
  refine wpAny_newFunctionEnv hcell (by intro y hy; simp at hy) (fun h₁ hns hsb => ?_) hkind
  have hk : ∀ b o, s.heap.get? b = some o → h₁.get? b = some o := fun b o e => hsb.extBut b o (Nat.ne_of_lt (Heap.lt_size e)) (Heap.get?_push_of_some _ e)
  refine codeAny_mono (h s.heap.objs.size { s with heap := h₁, toks := s.toks + ([] : List (Str × Value)).length } ⟨⟨.refl _, fun b o e => hk b o (H.into b o e), fun _ _ e => .inl e, fun b o _ e => hk b o e, ?_, rfl, .refl _⟩, hns, Nat.le_refl _, ?_, fun p hp => ?_, H.nodup⟩) fun r s' hr => ?_
  · show s.heap.objs.size ≤ h₁.objs.size
    rw [hsb.1, Heap.size_push]; exact Nat.le_succ _
  · cases q : g.get? s.heap.objs.size with
    | none => rfl
    | some o => exact absurd (Heap.lt_size (H.into _ _ q)) (Nat.lt_irrefl _)
  · obtain ⟨⟨o, ho, hP⟩, h2, _⟩ := H.ent p hp
    exact ⟨⟨o, hk _ _ ho, hP⟩, h2, Nat.ne_of_lt (Heap.lt_size ho), .inl (List.mem_map_of_mem hp)⟩
  · obtain ⟨rfl, g', led', m', H', hQ⟩ := hr
    cases use with
    | none => exact ⟨m', H'.ns, fun h' hs' => hQ _ (H.out H' hs')⟩
    | some u =>
      refine wpAny_mono (hQ _ _ (H.out' H')) (fun _ s3 q => ?_) fun _ _ q => q
      obtain ⟨g3, led3, m3, H3, hQ'⟩ := q
      obtain ⟨o, ho, hP⟩ := H3.get (.head _)
      obtain ⟨mm, hmm⟩ := hP _ ho
      exact ⟨mm, hmm, fun h' hs' => hQ' _ (H3.lose (tk := s3.toks) (fun b x n e => (hs'.2 b n).trans e) (Nat.le_of_eq hs'.1.symm))⟩
end
end Mine
end

section
open PySem PySem.W PySem.Calls PyProof.Rows
set_option maxRecDepth 100000
namespace Mine

section
variable {prog : Program} {w : World} {A : Around} {E : Value → Shared → Prop} {s s' s'' : Shared} {F : Fx} {g g' : Heap} {led led' : Led} {m m' : Str → Option Value} {env : Env}

/-- a list on the ledger -/
def LP (vs : List Value) : Obj → Prop := fun o => o.cls = .type "list" ∧ ∃ n, o.data = .seq vs.toArray n
theorem LP.is {h : Heap} {a : Addr} {o : Obj} {vs : List Value} (p : LP vs o) (e : h.get? a = some o) : h.IsList a vs.toArray := ⟨o, e, p.1, p.2⟩

theorem In.list {pre post : Led} {l : Addr} {vs : List Value} (H : In F g (pre ++ (l, LP vs) :: post) m s) : s.heap.IsList l vs.toArray := by
  obtain ⟨o, ho, p⟩ := H.get (a := l) (P := LP vs) (by simp)
  exact p.is ho

theorem appendL {pre post : Led} {l : Addr} {vs : List Value} {x : Value} {Q : Value → Shared → Prop} (H : In F g (pre ++ (l, LP vs) :: post) m s) (hz : vs.length ≤ 1000)
    (h : ∀ s', In F g (pre ++ (l, LP (vs ++ [x])) :: post) m s' → Q .none s') : wpAny (model prog w) A (call (.builtin "list.append") [.ref l, x]) Q E s := by
  refine wpAny_list_append H.list (fun h' hl hs => ?_) (by rw [List.size_toArray, sizeLine_eq]; omega)
  obtain ⟨o, ho, hc, hd⟩ := hl
  exact h _ (H.put hs ho ⟨hc, by simpa using hd⟩ s.toks)

theorem In.newL (H : In F g led m s) (vs : List Value) : In F g ((s.heap.objs.size, LP vs) :: led) m { s with heap := s.heap.push { cls := .type "list", dict := none, data := .seq vs.toArray } } := H.new _ rfl _ ⟨rfl, 0, rfl⟩

/-- where a comprehension stands after a turn -/
def Nxl {α : Type} (F : Fx) (g0 : Heap) (I : Addr) (St : List α → Obj → Prop) (acc : Addr) (rest : List α) (out : List Value) (J : Heap → Led → Prop) (s : Shared) : Prop :=
  ∃ g' led' m', Sub g0 g' ∧ In F g' ((I, St rest) :: (acc, LP out) :: led') m' s ∧ J g' led'

theorem lcCore {α : Type} {R : Value → α → Prop} {elt target iter : PySem.Expr} {ifs : List PySem.Expr} {scope : Scope} {pos : Pos} {cl : List (Str × Addr)} {use : Option (Value → Sem Unit)} {Q : Value → Shared → Prop} {I : Addr} {St : List α → Obj → Prop} {g0 : Heap} {xs : List α}
    (J : List α → List Value → Heap → Led → Prop) (S : Src prog w g0 R I St) (hh : A.handled = none) (hg : Sub g0 g) (H : In F g ((I, St xs) :: led) m s) (h0 : J xs [] g led) (hxs : xs.length ≤ 1000)
    (hcell : ∀ y ∈ scope.names, y.2 ≠ .cell) (hkind : scope.kind = .function)
    (step : ∀ F' x rest out acc g led m s v, Sub g0 g → R v x → In F' g ((I, St rest) :: (acc, LP out) :: led) m s → J (x :: rest) out g led →
      wpAny (model prog w) A (assign target (compEnvC scope cl (Fx.L F') env) v) (fun _ s => wpAny (model prog w) A (tests ifs (compEnvC scope cl (Fx.L F') env)) (fun ok s =>
        if ok = true then wpAny (model prog w) A (eval elt (compEnvC scope cl (Fx.L F') env)) (fun y s => Nxl F' g0 I St acc rest out (J rest (out ++ [y])) s) no s else Nxl F' g0 I St acc rest out (J rest out) s) no s) no s)
    (hQ : ∀ l out g1 g' led', Sub g0 g1 → Sub g1 g' → g'.IsList l out.toArray → J [] out g1 led' →
      (match use with
        | none => ∀ s'', In F g' led' m s'' → Q (.ref l) s''
        | some u => ∀ C s'', In F g' ((C, NsAt C) :: led') m s'' → wpAny (model prog w) A (u (.ref l)) (fun _ s3 => ∃ g3 led3 m3, In F g3 ((C, NsAt C) :: led3) m3 s3 ∧ ∀ s4, In F g3 led3 m3 s4 → Q .none s4) E s'')) :
    wpAny (model prog w) A (newList []) (fun acc s₃ => wpAny (model prog w) A (newFunctionEnv scope env.globals cl [] env.qual none .none (some env)) (fun cenv s₄ =>
      codeAny (model prog w) A (.compStart (.ListComp elt [⟨target, iter, ifs, 0⟩] scope pos) 0 (.ref I) acc { cenv with scope := relabel scope env }) (compPost (model prog w) A E use Q acc cenv.locals) s₄) E s₃) E s := by
  refine wpAny_newObj_type ?_ (by size_fits)
  have hacc := H.was (Nat.le_refl s.heap.objs.size)
  have H0 : In F g ((I, St xs) :: (s.heap.objs.size, LP []) :: led) m _ := (H.newL []).perm (List.Perm.swap ..)
  generalize s.heap.objs.size = acc at H0 hacc ⊢
  refine compEnter (env := env) H0 hcell hkind fun L' s1 H1 => ?_
  refine compS (d := 0) S hg H1 ?_ rfl rfl rfl rfl rfl
  refine compL (d := 0) (target := target) (ifs := ifs) (p := iter.pos) (body := do let _ ← call (.builtin "list.append") [.ref acc, ← eval elt (compEnvC scope cl L' env)]) (fun rest g L m => ∃ out led, L = (acc, LP out) :: led ∧ J rest out g led ∧ out.length + rest.length ≤ xs.length) S hh hg H1 ⟨[], led, rfl, h0, by simp⟩ ?_ ?_ rfl rfl rfl rfl
  · rintro x rest g led m t v hg hR H ⟨out, led, rfl, hJ, hlen⟩
    simp only [List.length_cons] at hlen
    refine wpAny_mono (step _ x rest out acc g led m t v hg hR H hJ) (fun _ s2 h2 => wpAny_mono h2 (fun ok s3 h3 => ?_) fun _ _ q => q) fun _ _ q => q
    cases ok with
    | false =>
      obtain ⟨g', led', m', a, b, c⟩ := h3
      exact ⟨g', _, m', a, b, out, led', rfl, c, by omega⟩
    | true =>
      simp only [if_true] at h3 ⊢
      refine wpAny_bind (wpAny_mono h3 (fun y s4 h4 => ?_) fun _ _ q => q)
      obtain ⟨g', led', m', a, b, c⟩ := h4
      refine wpAny_bind (appendL (pre := [(I, St rest)]) b (by omega) fun s5 H5 => wpAny_pure ?_)
      exact ⟨g', _, m', a, H5, out ++ [y], led', rfl, c, by rw [List.length_append]; simp; omega⟩
  · rintro g1 led1 m1 t hg1 H1 ⟨out, led2, rfl, hJ, hlen⟩
    refine ⟨rfl, g1, _, m1, H1, ?_⟩
    cases use with
    | none =>
      intro s'' H2
      obtain ⟨o, g2, hP, ho, hs, H3⟩ := H2.freeze hacc
      exact hQ acc out g1 g2 led2 hg1 hs (hP.is ho) hJ s'' H3
    | some u =>
      intro C s'' H2
      obtain ⟨o, g2, hP, ho, hs, H3⟩ := (H2.perm (List.Perm.swap ..)).freeze hacc
      exact hQ acc out g1 g2 led2 hg1 hs (hP.is ho) hJ C s'' H3
end
end Mine
end

section
open PySem PySem.W PySem.Calls PyProof.Rows
set_option maxRecDepth 100000
namespace Mine

section
variable {prog : Program} {w : World} {A : Around} {E : Value → Shared → Prop} {s s' s'' : Shared} {F : Fx} {g g' : Heap} {led led' : Led} {m m' : Str → Option Value} {env : Env}

theorem In.kept (H : In F g led m s) (hk : ∀ b o, s.heap.get? b = some o → s'.heap.get? b = some o) (ho : s'.os = s.os) (hg : GenRel s.gens s'.gens) : In F g led m s' := by
  obtain ⟨o, es, ep, hL, r⟩ := H.ns
  exact ⟨⟨H.rel.sub, fun b x e => hk b x (H.into b x e), H.rel.new, fun b x n e => hk b x (H.rel.keep b x n e), Nat.le_trans H.fresh (Nat.le_of_lt (Heap.lt_size (hk _ _ hL))), ho.trans H.rel.os, H.rel.gens.trans hg⟩,
    ⟨o, es, ep, hk _ _ hL, r⟩, H.fresh, H.off, fun p hp => let ⟨⟨x, hx, y⟩, r⟩ := H.ent p hp; ⟨⟨x, hk _ _ hx, y⟩, r⟩, H.nodup⟩

-- assignment to a loop's target
theorem asN {x : Str} {p : Pos} {v : Value} {Q : Unit → Shared → Prop} (H : In F g led m s) (h : ∀ s', In F g led (fun y => if y = x then some v else m y) s' → Q () s') (hL : env.locals = F.L := by rfl)
    (hk : env.scope.kind = .function := by rfl) (hl : env.kindOf x = some .local := by kernel_rfl) : wpAny (model prog w) A (assign (.Name x p) env v) Q E s :=
  wpAny_assign_Name (st H h hL hk hl)
theorem asP {x y : Str} {px py pos : Pos} {kk : Nat} {t : Addr} {v1 v2 : Value} {Q : Unit → Shared → Prop} (H : In F g led m s) (hh : A.handled = none) (ht : IsTup g t #[v1, v2])
    (h : ∀ s', In F g led (fun z => if z = y then some v2 else if z = x then some v1 else m z) s' → Q () s') (hL : env.locals = F.L := by rfl)
    (hk : env.scope.kind = .function := by rfl) (hx : env.kindOf x = some .local := by kernel_rfl) (hy : env.kindOf y = some .local := by kernel_rfl) : wpAny (model prog w) A (assign (.Tuple [.Name x px, .Name y py] kk pos) env (.ref t)) Q E s := by
  refine assign_Tuple_tuple hh (isTup_mono ht H.into) rfl rfl fun h' hs => ?_
  have H1 : In F g led m { s with heap := h' } := H.kept (s' := { s with heap := h' }) (fun b o e => hs b o (Nat.ne_of_lt (Heap.lt_size e)) e) rfl (.refl _)
  show wpAny _ _ (holding [v2] (assign (.Name x px) env v1) >>= fun _ => holding [] (assign (.Name y py) env v2) >>= fun _ => pure ()) _ _ _
  exact wpAny_bind (wpAny_holding (asN H1 (fun s1 H2 => wpAny_bind (wpAny_holding (asN H2 (fun s2 H3 => wpAny_pure (h _ H3)) hL hk hy))) hL hk hx))

-- a list comprehension of one clause
theorem lcE {elt target iter : PySem.Expr} {ifs : List PySem.Expr} {scope : Scope} {pos : Pos} {cl : List (Str × Addr)} {Q : Value → Shared → Prop}
    (hclos : closureFor scope env = pure cl)
    (h : wpAny (model prog w) A (eval iter env) (fun x s₁ => wpAny (model prog w) A (pyIter x) (fun it s₂ => wpAny (model prog w) A (newList []) (fun acc s₃ => wpAny (model prog w) A (newFunctionEnv scope env.globals cl [] env.qual none .none (some env)) (fun cenv s₄ =>
      codeAny (model prog w) A (.compStart (.ListComp elt [⟨target, iter, ifs, 0⟩] scope pos) 0 it acc { cenv with scope := relabel scope env }) (compPost (model prog w) A E none Q acc cenv.locals) s₄) E s₃) E s₂) E s₁) E s)
    (hkind : scope.kind = .function := by rfl) (hnames : ∀ x ∈ scope.names, x.2 = .local → scope.names.lookup x.1 = some .local := by decide) (hs : ∀ x, foldedSetIterable iter env x = pure x := by intro _; rfl) :
    wpAny (model prog w) A (eval (.ListComp elt [⟨target, iter, ifs, 0⟩] scope pos) env) Q E s := by
  rw [eval_ListComp]
  exact wpAny_comprehension_free (use := none) rfl hs hclos hkind hnames h

theorem lcV {α : Type} {R : Value → α → Prop} {elt target iter : PySem.Expr} {ifs : List PySem.Expr} {scope : Scope} {pos : Pos} {cl : List (Str × Addr)} {Q : Value → Shared → Prop} {I : Addr} {St : List α → Obj → Prop} {g0 : Heap} {xs : List α}
    (J : List α → List Value → Heap → Led → Prop) (S : Src prog w g0 R I St) (hh : A.handled = none) (hg : Sub g0 g) (H : In F g ((I, St xs) :: led) m s) (h0 : J xs [] g led) (hxs : xs.length ≤ 1000)
    (step : ∀ F' x rest out acc g led m s v, Sub g0 g → R v x → In F' g ((I, St rest) :: (acc, LP out) :: led) m s → J (x :: rest) out g led →
      wpAny (model prog w) A (assign target (compEnvC scope cl (Fx.L F') env) v) (fun _ s => wpAny (model prog w) A (tests ifs (compEnvC scope cl (Fx.L F') env)) (fun ok s =>
        if ok = true then wpAny (model prog w) A (eval elt (compEnvC scope cl (Fx.L F') env)) (fun y s => Nxl F' g0 I St acc rest out (J rest (out ++ [y])) s) no s else Nxl F' g0 I St acc rest out (J rest out) s) no s) no s)
    (fin : ∀ l out g1 g' led' s'', Sub g0 g1 → Sub g1 g' → g'.IsList l out.toArray → J [] out g1 led' → In F g' led' m s'' → Q (.ref l) s'')
    (hcell : ∀ y ∈ scope.names, y.2 ≠ .cell := by decide) (hkind : scope.kind = .function := by rfl) :
    wpAny (model prog w) A (newList []) (fun acc s₃ => wpAny (model prog w) A (newFunctionEnv scope env.globals cl [] env.qual none .none (some env)) (fun cenv s₄ =>
      codeAny (model prog w) A (.compStart (.ListComp elt [⟨target, iter, ifs, 0⟩] scope pos) 0 (.ref I) acc { cenv with scope := relabel scope env }) (compPost (model prog w) A E none Q acc cenv.locals) s₄) E s₃) E s :=
  lcCore J S hh hg H h0 hxs hcell hkind step fun l out g1 g' led' a b c d s'' e => fin l out g1 g' led' s'' a b c d e

/-- x = [..], the comprehension's value being stored before its names are let go -/
theorem ex_setC {elt target iter : PySem.Expr} {ifs : List PySem.Expr} {scope : Scope} {pos : Pos} {cl : List (Str × Addr)} {y : Str} {py spos : Pos} {rest : List Stmt} {Q : Flow → Shared → Prop}
    (hclos : closureFor scope env = pure cl)
    (h : wpAny (model prog w) A (eval iter env) (fun x s₁ => wpAny (model prog w) A (pyIter x) (fun it s₂ => wpAny (model prog w) A (newList []) (fun acc s₃ => wpAny (model prog w) A (newFunctionEnv scope env.globals cl [] env.qual none .none (some env)) (fun cenv s₄ =>
      codeAny (model prog w) A (.compStart (.ListComp elt [⟨target, iter, ifs, 0⟩] scope pos) 0 it acc { cenv with scope := relabel scope env }) (compPost (model prog w) A E (some (assign (.Name y py) env)) (fun _ s' => wpAny (model prog w) A (execs rest env) Q E s') acc cenv.locals) s₄) E s₃) E s₂) E s₁) E s)
    (hsw : swapsWith (.ListComp elt [⟨target, iter, ifs, 0⟩] scope pos) (some (.Name y py)) spos.line env = pure true := by kernel_rfl)
    (hkind : scope.kind = .function := by rfl) (hnames : ∀ x ∈ scope.names, x.2 = .local → scope.names.lookup x.1 = some .local := by decide) (hs : ∀ x, foldedSetIterable iter env x = pure x := by intro _; rfl) :
    wpAny (model prog w) A (execs (.Assign [.Name y py] (.ListComp elt [⟨target, iter, ifs, 0⟩] scope pos) spos :: rest) env) Q E s := by
  refine wpAny_execs_cons ?_
  rw [exec_Assign_Name_used _ _ _ _ hsw]
  refine wpAny_bind (wpAny_standAt (wpAny_bind ?_))
  show wpAny _ A (do let _ ← comprehension (.ListComp elt [⟨target, iter, ifs, 0⟩] scope pos) scope env _ (newList []) false (eval iter env) (some (assign (.Name y py) env))) _ _ s
  refine wpAny_bind (wpAny_mono (wpAny_comprehension_free (use := some (assign (.Name y py) env)) (Q := fun _ s' => wpAny (model prog w) A (execs rest env) Q E s') rfl hs hclos hkind hnames h) (fun _ s' hq => wpAny_pure (wpAny_pure hq)) fun _ _ e => e)

theorem lcU {α : Type} {R : Value → α → Prop} {elt target iter : PySem.Expr} {ifs : List PySem.Expr} {scope : Scope} {pos py : Pos} {y : Str} {cl : List (Str × Addr)} {Q : Value → Shared → Prop} {I : Addr} {St : List α → Obj → Prop} {g0 : Heap} {xs : List α}
    (J : List α → List Value → Heap → Led → Prop) (S : Src prog w g0 R I St) (hh : A.handled = none) (hg : Sub g0 g) (H : In F g ((I, St xs) :: led) m s) (h0 : J xs [] g led) (hxs : xs.length ≤ 1000)
    (step : ∀ F' x rest out acc g led m s v, Sub g0 g → R v x → In F' g ((I, St rest) :: (acc, LP out) :: led) m s → J (x :: rest) out g led →
      wpAny (model prog w) A (assign target (compEnvC scope cl (Fx.L F') env) v) (fun _ s => wpAny (model prog w) A (tests ifs (compEnvC scope cl (Fx.L F') env)) (fun ok s =>
        if ok = true then wpAny (model prog w) A (eval elt (compEnvC scope cl (Fx.L F') env)) (fun y s => Nxl F' g0 I St acc rest out (J rest (out ++ [y])) s) no s else Nxl F' g0 I St acc rest out (J rest out) s) no s) no s)
    (fin : ∀ l out g1 g' led' s'', Sub g0 g1 → Sub g1 g' → g'.IsList l out.toArray → J [] out g1 led' → In F g' led' (fun z => if z = y then some (.ref l) else m z) s'' → Q .none s'')
    (hcell : ∀ y ∈ scope.names, y.2 ≠ .cell := by decide) (hkind : scope.kind = .function := by rfl) (hL : env.locals = F.L := by rfl)
    (hk : env.scope.kind = .function := by rfl) (hl : env.kindOf y = some .local := by kernel_rfl) :
    wpAny (model prog w) A (newList []) (fun acc s₃ => wpAny (model prog w) A (newFunctionEnv scope env.globals cl [] env.qual none .none (some env)) (fun cenv s₄ =>
      codeAny (model prog w) A (.compStart (.ListComp elt [⟨target, iter, ifs, 0⟩] scope pos) 0 (.ref I) acc { cenv with scope := relabel scope env }) (compPost (model prog w) A E (some (assign (.Name y py) env)) Q acc cenv.locals) s₄) E s₃) E s :=
  lcCore J S hh hg H h0 hxs hcell hkind step fun l out g1 g' led' a b c d C s'' e => asN e (fun s3 e3 => ⟨g', led', _, e3, fun s4 e4 => fin l out g1 g' led' s4 a b c d e4⟩) hL hk hl
end

/-- what a comprehension selects -/
inductive Sel {α β : Type} (S : α → Option β → Prop) : List α → List β → Prop
  | nil : Sel S [] []
  | skip {a as bs} : S a none → Sel S as bs → Sel S (a :: as) bs
  | take {a as b bs} : S a (some b) → Sel S as bs → Sel S (a :: as) (b :: bs)
theorem Sel.snocN {α β : Type} {S : α → Option β → Prop} {as : List α} {bs : List β} {a : α} (h : Sel S as bs) (x : S a none) : Sel S (as ++ [a]) bs := by
  induction h with
  | nil => exact .skip x .nil
  | skip y _ ih => exact .skip y ih
  | take y _ ih => exact .take y ih
theorem Sel.snocS {α β : Type} {S : α → Option β → Prop} {as : List α} {bs : List β} {a : α} {b : β} (h : Sel S as bs) (x : S a (some b)) : Sel S (as ++ [a]) (bs ++ [b]) := by
  induction h with
  | nil => exact .take x .nil
  | skip y _ ih => exact .skip y ih
  | take y _ ih => exact .take y ih
theorem Sel.fn {α β : Type} {f : α → Option β} {as : List α} {bs : List β} (h : Sel (fun a o => o = f a) as bs) : bs = as.filterMap f := by
  induction h with
  | nil => rfl
  | skip y _ ih => rw [List.filterMap_cons, ← y]; exact ih
  | take y _ ih => rw [List.filterMap_cons, ← y, ih]
theorem Sel.length_le {α β : Type} {S : α → Option β → Prop} {as : List α} {bs : List β} (h : Sel S as bs) : bs.length ≤ as.length := by
  induction h with
  | nil => exact Nat.le_refl _
  | skip y _ ih => exact Nat.le_succ_of_le ih
  | take y _ ih => exact Nat.succ_le_succ ih

/-- the loop's facts for a comprehension that leaves the ledger as it is -/
def JSel {α β : Type} (xs : List α) (g0 : Heap) (led0 : Led) (Rb : Heap → Value → β → Prop) (Sl : α → Option β → Prop) (rest : List α) (out : List Value) (g : Heap) (led : Led) : Prop :=
  led = led0 ∧ Sub g0 g ∧ ∃ dn bs, xs = dn ++ rest ∧ Sel Sl dn bs ∧ All2 (Rb g) out bs
theorem JSel.init {α β : Type} {xs : List α} {g : Heap} {led : Led} {Rb : Heap → Value → β → Prop} {Sl : α → Option β → Prop} : JSel xs g led Rb Sl xs [] g led := ⟨rfl, .refl _, [], [], rfl, .nil, .nil⟩
theorem JSel.step {α β : Type} {xs : List α} {g0 g g' : Heap} {led0 led : Led} {Rb : Heap → Value → β → Prop} {Sl : α → Option β → Prop} {x : α} {rest : List α} {out : List Value} (hm : ∀ g g' v b, Sub g g' → Rb g v b → Rb g' v b) (h : JSel xs g0 led0 Rb Sl (x :: rest) out g led) (hs : Sub g g') {y : Value} {b : β} (hb : Rb g' y b) (hS : Sl x (some b)) : JSel xs g0 led0 Rb Sl rest (out ++ [y]) g' led := by
  obtain ⟨rfl, h0, dn, bs, rfl, h1, h2⟩ := h
  exact ⟨rfl, h0.trans hs, dn ++ [x], bs ++ [b], by simp, h1.snocS hS, (h2.imp fun _ _ => hm _ _ _ _ hs).snoc hb⟩
theorem JSel.pass {α β : Type} {xs : List α} {g0 g g' : Heap} {led0 led : Led} {Rb : Heap → Value → β → Prop} {Sl : α → Option β → Prop} {x : α} {rest : List α} {out : List Value} (hm : ∀ g g' v b, Sub g g' → Rb g v b → Rb g' v b) (h : JSel xs g0 led0 Rb Sl (x :: rest) out g led) (hs : Sub g g') (hS : Sl x none) : JSel xs g0 led0 Rb Sl rest out g' led := by
  obtain ⟨rfl, h0, dn, bs, rfl, h1, h2⟩ := h
  exact ⟨rfl, h0.trans hs, dn ++ [x], bs, by simp, h1.snocN hS, h2.imp fun _ _ => hm _ _ _ _ hs⟩
theorem JSel.done {α β : Type} {xs : List α} {g0 g g' : Heap} {led0 led : Led} {Rb : Heap → Value → β → Prop} {Sl : α → Option β → Prop} {out : List Value} (hm : ∀ g g' v b, Sub g g' → Rb g v b → Rb g' v b) (h : JSel xs g0 led0 Rb Sl [] out g led) (hs : Sub g g') : led = led0 ∧ Sub g0 g' ∧ ∃ bs, Sel Sl xs bs ∧ All2 (Rb g') out bs := by
  obtain ⟨rfl, h0, dn, bs, rfl, h1, h2⟩ := h
  exact ⟨rfl, h0.trans hs, bs, by simpa using h1, h2.imp fun _ _ => hm _ _ _ _ hs⟩
theorem JSel.mem {α β : Type} {xs : List α} {g0 g : Heap} {led0 led : Led} {Rb : Heap → Value → β → Prop} {Sl : α → Option β → Prop} {x : α} {rest : List α} {out : List Value} (h : JSel xs g0 led0 Rb Sl (x :: rest) out g led) : x ∈ xs := by
  obtain ⟨_, _, dn, bs, rfl, _, _⟩ := h; simp
end Mine
end

section
open PySem PySem.W PySem.Calls PyProof.Rows
set_option maxRecDepth 100000
namespace Mine
theorem fillK5 (P : Params) : hd.heap_39 P = hd.heap_39 P → PySem.Challenge.rw_bn0044_01 = PySem.Challenge.rw_bn0044_01 := by
  k_fill
  exact fun _ => rfl

def tagI (i : It) : Int := if i.t then 1 else 0
/-- the law's own pair for an item -/
def LIt (g : Heap) (v : Value) (i : It) : Prop := ∃ a t1 t2, v = .ref a ∧ IsTup g a #[.int (tagI i) t1, .str i.n t2]
theorem LIt.mono {g g' : Heap} {v : Value} {i : It} (h : LIt g v i) (s : Sub g g') : LIt g' v i := let ⟨a, t1, t2, e, x⟩ := h; ⟨a, t1, t2, e, isTup_mono x s⟩

section
variable {prog : Program} {w : World} {mg mb : Str → Option Value} {A : Around} {E : Value → Shared → Prop} {s : Shared} {F : Fx} {g : Heap} {led : Led} {m : Str → Option Value} {env : Env}

-- small steps
theorem cmp1 {M : Model} {l : PySem.Expr} {op : CmpOp} {r : PySem.Expr} {pos : Pos} {Q : Value → Shared → Prop} (h : wpAny M A (eval l env) (fun a s₁ => wpAny M A (eval r env) (fun b s₂ => wpAny M A (compareOp op a b) Q E s₂) E s₁) E s)
    (hm : behindInMarks op r = false := by with_unfolding_all rfl) : wpAny M A (eval (.Compare l [op] [r] pos) env) Q E s := wpAny_Compare1 h hm
theorem tcmp1 {M : Model} {l : PySem.Expr} {op : CmpOp} {r : PySem.Expr} {pos : Pos} {Q : Bool → Shared → Prop} {whole : Sem Value} (h : wpAny M A (eval l env) (fun a s₁ => wpAny M A (eval r env) (fun b s₂ => wpAny M A (compareOp op a b) (fun c s₃ => wpAny M A (truthy c) Q E s₃) E s₂) E s₁) E s)
    (hm : behindInMarks op r = false := by with_unfolding_all rfl) : wpAny M A (isTrue (.Compare l [op] [r] pos) env whole) Q E s := wpAny_isTrue_Compare1 h hm
theorem ix0 {value slice : PySem.Expr} {t : Addr} {v0 v1 : Value} {u : Tok} {Q : Value → Shared → Prop} (H : In F g led m s) (ht : IsTup g t #[v0, v1]) (h : Q v0 s)
    (hs : subscripted slice false (.ref t) (.int 0 u) = operate [.ref t, .int 0 u] (getItem (.ref t) (.int 0 u)) := by with_unfolding_all rfl) (hg : ∀ r, letTemporaryGo value (.ref t) r = pure () := by intro _; with_unfolding_all rfl) :
    wpAny (model prog w) A (subscriptTail value slice (.ref t) (.int 0 u)) Q E s := item_tuple (isTup_mono ht H.into) (by decide) (by decide) (j := 0) rfl rfl h hs hg
theorem ix1 {value slice : PySem.Expr} {t : Addr} {v0 v1 : Value} {u : Tok} {Q : Value → Shared → Prop} (H : In F g led m s) (ht : IsTup g t #[v0, v1]) (h : Q v1 s)
    (hs : subscripted slice false (.ref t) (.int 1 u) = operate [.ref t, .int 1 u] (getItem (.ref t) (.int 1 u)) := by with_unfolding_all rfl) (hg : ∀ r, letTemporaryGo value (.ref t) r = pure () := by intro _; with_unfolding_all rfl) :
    wpAny (model prog w) A (subscriptTail value slice (.ref t) (.int 1 u)) Q E s := item_tuple (isTup_mono ht H.into) (by decide) (by decide) (j := 1) rfl rfl h hs hg

theorem cpsEq (a b : Str) : (a.cps.toList == b.cps.toList) = decide (a = b) := by
  obtain ⟨⟨x⟩⟩ := a; obtain ⟨⟨y⟩⟩ := b
  by_cases h : x = y
  · subst h; simp
  · have h2 : ¬ (⟨⟨x⟩⟩ : Str) = ⟨⟨y⟩⟩ := fun e => h (by injection e with e; injection e)
    simp [h, h2]

theorem n_int (P : Params) : nsIn (hd.heap_39 P) mainGlobals "int" = some none := by kernel_rfl
theorem g_int : bootBuiltins "int" = some (.type "int") := by kernel_rfl

/-- isinstance(x, T) for an object of Nonterminal and a built-in type -/
theorem symNotTuple {x : Addr} {f : Str → Option Value} {Q : Value → Shared → Prop} (H : In F g led m s) (k : KB w mg mb g) (i : Inst g x 66 f) (h : ∀ s', In F g led m s' → Q (.bool false) s') : wpAny (model prog w) A (call (.builtin "isinstance") [.ref x, .type "tuple"]) Q E s := by
  obtain ⟨dx, _, o, I, n⟩ := (i.mono H.into).at
  exact kin_callT (H.K k) I (by kernel_rfl) (by kernel_rfl) (by kernel_rfl) (by kernel_rfl) (by kernel_rfl) (by kernel_rfl) (by kernel_rfl) (by kernel_rfl) (h _ (H.toks _))
theorem symNotStr {x : Addr} {f : Str → Option Value} {Q : Value → Shared → Prop} (H : In F g led m s) (k : KB w mg mb g) (i : Inst g x 66 f) (h : ∀ s', In F g led m s' → Q (.bool false) s') : wpAny (model prog w) A (call (.builtin "isinstance") [.ref x, .type "str"]) Q E s := by
  obtain ⟨dx, _, o, I, n⟩ := (i.mono H.into).at
  exact kin_callT (H.K k) I (by kernel_rfl) (by kernel_rfl) (by kernel_rfl) (by kernel_rfl) (by kernel_rfl) (by kernel_rfl) (by kernel_rfl) (by kernel_rfl) (h _ (H.toks _))

/-- _law_item(pair) -/
theorem litem_spec {v : Value} {i : It} {Q : Value → Shared → Prop} (r : Room A 4 40) (k : KB w mg mb g) (hs : Sub g s.heap) (hi : LIt g v i) (h : ∀ v' s' g', Rel [] s g s' g' → ItemAt g' v' i → Q v' s') :
    wpAny (model prog w) A (call (.ref 364) [v]) Q E s := by
  obtain ⟨a, t1, t2, rfl, ht⟩ := hi
  refine enter0 [("pair", .ref a)] k hs r.lt ?_
  intro L s H
  refine ex_ret (IfExp_ (tcmp1 (Subscript_ (nm H rfl (cst_i H fun u s H => ix0 H ht (cst_i H fun u2 s H => P.eq_int (tr_b ?_)))))))
  cases hb : i.t with
  | true =>
    have : (tagI i == 0) = false := by simp [tagI, hb]
    rw [this, if_neg Bool.false_ne_true]
    refine Subscript_ (nm H rfl (cst_i H fun u s H => ix1 H ht ?_))
    refine h _ _ _ H.rel ?_
    have : i = ⟨true, i.n⟩ := by cases i; simp at hb; simp [hb]
    rw [this]; exact .word _ _
  | false =>
    have : (tagI i == 0) = true := by simp [tagI, hb]
    rw [this, if_pos rfl]
    refine Call_ (nmG H k (g_Nonterminal _) (callW (by kernel_rfl) (a1 (Subscript_ (nm H rfl (cst_i H fun u s H => ix1 H ht ⟨H.K k, ?_⟩))))))
    refine newN ((r.deeper).le (by decide) (by decide)) k H.into fun x s' g' R hx => h _ _ _ (H.rel.trans R) ?_
    have : i = ⟨false, i.n⟩ := by cases i; simp at hb; simp [hb]
    rw [this]; exact hx

/-- what _law_pair takes: a key, a word, a symbol -/
def PIn (g : Heap) (v : Value) (i : It) : Prop := KeyAt g v i ∨ ItemAt g v i
theorem lpair_spec {v : Value} {i : It} {Q : Value → Shared → Prop} (r : Room A 4 40) (k : KB w mg mb g) (hs : Sub g s.heap) (hi : PIn g v i) (h : ∀ v' s' g', Rel [] s g s' g' → LIt g' v' i → Q v' s') :
    wpAny (model prog w) A (call (.ref 371) [v]) Q E s := by
  refine enter0 [("item", v)] k hs r.lt ?_
  intro L s H
  refine ex_if (isT (Call_ (nmB H k g_isinstance (e := n_isinstance _) (callB (aC (nm H rfl (a1 (nmB H k g_tuple (e := n_tuple _) ?_))))))))
  rcases hi with ⟨a, t1, t2, rfl, ht⟩ | hi
  · obtain ⟨o, ho, hc, _⟩ := isTup_mono ht H.into
    refine IsiPair.tuple_tuple ho hc (tr_b ?_)
    refine ex_ret (tup (aC (Call_ (nmB H k g_int (e := n_int _) (callT (a1 (cmp1 (Subscript_ (nm H rfl (cst_i H fun u s H => ix0 H ht (cst_s H fun u2 s H => P.ne_str (call_int_bool ?_))))))))))))
    have H := H.toks (s.toks + 1)
    have e : (if ((if i.t = true then ("T" : Str) else "N").cps.toList != ("N" : Str).cps.toList) = true then (1 : Int) else 0) = tagI i := by
      unfold tagI
      cases i.t <;> decide
    refine a1 (Subscript_ (nm H rfl (cst_i H fun u s H => ix1 H ht (newT H fun a g' s hs ht' H => ?_))))
    rw [e] at ht'
    exact h _ _ _ H.rel ⟨a, _, _, rfl, ht'⟩
  · cases hi with
    | word n tk =>
      refine IsiPair.str_tuple (tr_b ?_)
      have H := H.toks (s.toks + 1)
      refine ex_nil (ex_ret (IfExp_ (isT (Call_ (nmB H k g_isinstance (e := n_isinstance _) (callB (aC (nm H rfl (a1 (nmB H k g_str (e := n_str _) (IsiPair.str_str (tr_b ?_)))))))))))) 
      exact tup (aC (cst_i H fun u s H => a1 (nm H rfl (newT H fun a g' s hs ht' H => h _ _ _ H.rel ⟨a, _, _, rfl, ht'⟩))))
    | sym x n tk hI =>
      refine symNotTuple H k hI fun s H => tr_b (ex_nil (ex_ret (IfExp_ (isT (Call_ (nmB H k g_isinstance (e := n_isinstance _) (callB (aC (nm H rfl (a1 (nmB H k g_str (e := n_str _) ?_))))))))))) 
      refine symNotStr H k hI fun s H => tr_b ?_
      refine tup (aC (cst_i H fun u s H => a1 (MethodCall_ (nm H rfl (meth H k (c66 _) hI (M_symbol _) rfl (callW0 (H.K k) (M_symbol _).k ?_))))))
      refine symbol_spec ((r.deeper).le (by decide) (by decide)) k H.into hI fun s' g' R => ?_
      exact newT (H.call0 R) fun a g' s hs ht' H => h _ _ _ H.rel ⟨a, _, _, rfl, ht'⟩
end
end Mine
end

section
open PySem PySem.W PySem.Calls PyProof.Rows
set_option maxRecDepth 100000
namespace Mine
theorem fillK6 (P : Params) : hd.heap_39 P = hd.heap_39 P → PySem.Challenge.rw_bn0044_01 = PySem.Challenge.rw_bn0044_01 := by
  k_fill
  exact fun _ => rfl

section
variable {prog : Program} {w : World} {mg mb : Str → Option Value} {A : Around} {E : Value → Shared → Prop} {s : Shared} {F : Fx} {g g' : Heap} {led : Led} {m : Str → Option Value} {env : Env}

theorem In.sharp {a : Addr} {P P' : Obj → Prop} (H : In F g ((a, P) :: led) m s) (h : ∀ o, s.heap.get? a = some o → P o → P' o) : In F g ((a, P') :: led) m s := by
  refine ⟨H.rel, H.ns, H.fresh, H.off, fun p hp => ?_, H.nodup⟩
  rcases List.mem_cons.mp hp with rfl | hp
  · obtain ⟨⟨o, ho, hP⟩, r⟩ := H.ent _ (.head _)
    exact ⟨⟨o, ho, h o ho hP⟩, r⟩
  · exact H.ent p (.tail _ hp)

theorem Src.map {α : Type} {R : Value → α → Prop} {I : Addr} {St : List Value → Obj → Prop} (S : Src prog w g (fun v x => v = x) I St) : Src prog w g R I (fun rest o => ∃ vr, All2 R vr rest ∧ St vr o) where
  next := by
    intro A E F g' led m s rest Q hh hg H h
    obtain ⟨o, ho, vr, hvr, hst⟩ := H.get (.head _)
    have H' : In F g' ((I, St vr) :: led) m s := H.sharp fun o' ho' _ => by rw [ho] at ho'; cases ho'; exact hst
    refine S.next A E F g' led m s vr Q hh hg H' ?_
    cases hvr with
    | nil => exact h
    | cons x r =>
      intro v s' e H2
      subst e
      exact h _ s' x (H2.sharp fun o _ p => ⟨_, r, p⟩)
  self := by
    intro A E F g' led m s rest Q hg H h
    obtain ⟨o, ho, vr, hvr, hst⟩ := H.get (.head _)
    exact S.self A E F g' led m s vr Q hg (H.sharp fun o' ho' _ => by rw [ho] at ho'; cases ho'; exact hst) h
  go := by
    intro A E F g' led m s rest tgt v Q hg H h
    obtain ⟨o, ho, vr, hvr, hst⟩ := H.get (.head _)
    exact S.go A E F g' led m s vr tgt v Q hg (H.sharp fun o' ho' _ => by rw [ho] at ho'; cases ho'; exact hst) h

theorem itListA {α : Type} {R : Value → α → Prop} {l : Addr} {vs : List Value} {ps : List α} {Q : Value → Shared → Prop} (H : In F g led m s) (hl : g.IsList l vs.toArray) (ha : All2 R vs ps) (h : ∀ I St s', Src prog w g R I St → In F g ((I, St ps) :: led) m s' → Q (.ref I) s') :
    wpAny (model prog w) A (pyIter (.ref l)) Q E s := itList H hl fun I St s' S H' => h I _ s' S.map (H'.sharp fun o _ p => ⟨vs, ha, p⟩)
theorem itTupA {α : Type} {R : Value → α → Prop} {l : Addr} {vs : List Value} {ps : List α} {Q : Value → Shared → Prop} (H : In F g led m s) (hl : IsTup g l vs.toArray) (ha : All2 R vs ps) (h : ∀ I St s', Src prog w g R I St → In F g ((I, St ps) :: led) m s' → Q (.ref I) s') :
    wpAny (model prog w) A (pyIter (.ref l)) Q E s := itTup H hl fun I St s' S H' => h I _ s' S.map (H'.sharp fun o _ p => ⟨vs, ha, p⟩)

/-- a frozen list of things -/
def Lst {α : Type} (R : Heap → Value → α → Prop) (g : Heap) (v : Value) (ps : List α) : Prop := ∃ l vs, v = .ref l ∧ g.IsList l vs.toArray ∧ All2 (R g) vs ps
theorem Lst.mono {α : Type} {R : Heap → Value → α → Prop} (hm : ∀ g g' v b, Sub g g' → R g v b → R g' v b) {g g' : Heap} {v : Value} {ps : List α} (h : Lst R g v ps) (s : Sub g g') : Lst R g' v ps :=
  let ⟨l, vs, a, b, c⟩ := h; ⟨l, vs, a, isList_mono b s, c.imp fun _ _ => hm _ _ _ _ s⟩
def LRow (g : Heap) (v : Value) (p : Row2) : Prop := ∃ a lv rv, v = .ref a ∧ IsTup g a #[lv, rv] ∧ LIt g lv p.1 ∧ Lst LIt g rv p.2
theorem LIt.mono' : ∀ g g' v b, Sub g g' → LIt g v b → LIt g' v b := fun _ _ _ _ s h => h.mono s
theorem LRow.mono' : ∀ g g' v b, Sub g g' → LRow g v b → LRow g' v b := fun _ _ _ _ s h => let ⟨a, lv, rv, e, x, y, z⟩ := h; ⟨a, lv, rv, e, isTup_mono x s, y.mono s, z.mono LIt.mono' s⟩
theorem ProdAt.mono' : ∀ g g' v b, Sub g g' → ProdAt g v b → ProdAt g' v b := fun _ _ _ _ s h => h.mono s
theorem ItemAt.mono' : ∀ g g' v b, Sub g g' → ItemAt g v b → ItemAt g' v b := fun _ _ _ _ s h => h.mono s

theorem JSel.fin {α β : Type} {xs : List α} {g0 g g' : Heap} {led0 led : Led} {Rb : Heap → Value → β → Prop} {f : α → Option β} {out : List Value} (hm : ∀ g g' v b, Sub g g' → Rb g v b → Rb g' v b) (h : JSel xs g0 led0 Rb (fun a o => o = f a) [] out g led) (hs : Sub g g') : led = led0 ∧ Sub g0 g' ∧ All2 (Rb g') out (xs.filterMap f) := by
  obtain ⟨a, b, bs, c, d⟩ := h.done hm hs
  exact ⟨a, b, c.fn ▸ d⟩

theorem g_law_pair (P : Params) : nsIn (hd.heap_39 P) mainGlobals "_law_pair" = some (some (.ref 371)) := by kernel_rfl
theorem kp371 (P : Params) : keepIn (hd.heap_39 P) (.ref 371) = true := by kernel_rfl

/-- _law_rows(rules) -/
theorem lrows_spec {v : Value} {ps : List Row2} {Q : Value → Shared → Prop} (r : Room A 6 60) (k : KB w mg mb g) (hs : Sub g s.heap) (hv : Lst ProdAt g v ps) (hz : ps.length ≤ 1000) (hz2 : ∀ p ∈ ps, p.2.length ≤ 1000) (h : ∀ v' s' g', Rel [] s g s' g' → Lst LRow g' v' ps → Q v' s') :
    wpAny (model prog w) A (call (.ref 376) [v]) Q E s := by
  obtain ⟨l, vs, rfl, hl, ha⟩ := hv
  refine enter0 [("rules", .ref l)] k hs r.lt ?_
  intro L s H
  refine ex_ret (lcE (cl := []) rfl (nm H rfl (itListA H hl ha fun I St s S H => ?_)))
  refine lcV (JSel ps g [] LRow (fun p o => o = some p)) S r.hh (.refl _) H .init hz ?_ ?_
  · intro F' p rest out acc g1 led1 m1 s v hg hR H J
    obtain ⟨x, lv, T, vs2, rfl, hI, h1, h2, h3⟩ := hR
    have k1 := k.mono hg
    have hI1 := hI.mono hg
    refine asN H fun s H => tests0 ?_
    rw [if_pos rfl]
    refine tup (aC ?_)
    refine Call_ (nmG H k1 (g_law_pair _) (callW (kp371 _) (a1 (MethodCall_ (nm H rfl (meth H k1 (c155 _) hI1 (M_lhs _) rfl (callW0 (H.K k1) (M_lhs _).k ?_)))))))
    refine lhs_spec ((r.deeper).le (by decide) (by decide)) k1 H.into hI1 h1.handed fun s' g2 R2 => ?_
    have H := H.call0 R2
    have k2 := k1.mono R2.sub
    refine ⟨H.K k2, lpair_spec ((r.deeper).le (by decide) (by decide)) k2 H.into (.inr (h1.mono (hg.trans R2.sub))) fun v' s' g3 R3 hv' => ?_⟩
    have H := H.call0 R3
    have k3 := k2.mono R3.sub
    have hI3 := hI1.mono (R2.sub.trans R3.sub)
    refine a1 (lcE (cl := []) rfl ?_)
    refine MethodCall_ (nm H rfl (meth H k3 (c155 _) hI3 (M_rhs _) rfl (callW0 (H.K k3) (M_rhs _).k ?_)))
    refine rhs_spec ((r.deeper).le (by decide) (by decide)) k3 H.into hI3 fun s' g4 R4 => ?_
    have H := H.call0 R4
    have k4 := k3.mono R4.sub
    have S04 := ((hg.trans R2.sub).trans R3.sub).trans R4.sub
    refine itTupA H (isTup_mono h2 S04) (h3.mono S04) fun I2 St2 s S2 H => ?_
    refine lcV (JSel p.2 g4 _ LIt (fun i o => o = some i)) S2 r.hh (.refl _) H .init (hz2 p J.mem) ?_ ?_
    · intro F2 i rest2 out2 acc2 g5 led5 m5 s v hg5 hR5 H5 J5
      have k5 := k4.mono hg5
      refine asN H5 fun s H5 => tests0 ?_
      rw [if_pos rfl]
      refine Call_ (nmG H5 k5 (g_law_pair _) (callW (kp371 _) (a1 (nm H5 rfl ⟨H5.K k5, ?_⟩))))
      refine lpair_spec ((r.deeper).le (by decide) (by decide)) k5 H5.into (.inr (hR5.mono hg5)) fun v6 s6 g6 R6 hv6 => ?_
      exact ⟨g6, led5, _, hg5.trans R6.sub, H5.call0 R6, J5.step LIt.mono' R6.sub hv6 rfl⟩
    · intro l2 out2 g5 g6 led6 s hg5 hg6 hl2 J5 H
      obtain ⟨rfl, S6, ha2⟩ := J5.fin LIt.mono' hg6
      rw [List.filterMap_some] at ha2
      refine newT H fun a g7 s7 hs7 ht H => ?_
      have S37 := (R4.sub.trans S6).trans hs7
      exact ⟨g7, led1, _, ((hg.trans R2.sub).trans R3.sub).trans S37, H, J.step LRow.mono' (R2.sub.trans (R3.sub.trans S37)) ⟨a, _, _, rfl, ht, hv'.mono S37, l2, out2, rfl, isList_mono hl2 hs7, ha2.imp fun _ _ => LIt.mono' _ _ _ _ hs7⟩ rfl⟩
  · intro l2 out2 g5 g6 led6 s hg5 hg6 hl2 J5 H
    obtain ⟨rfl, S6, ha2⟩ := J5.fin LRow.mono' hg6
    rw [List.filterMap_some] at ha2
    exact h _ _ _ H.rel ⟨l2, out2, rfl, hl2, ha2⟩
end
end Mine
end

section
open PySem PySem.W PySem.Calls PyProof.Rows
set_option maxRecDepth 100000
namespace Mine

section
variable {prog : Program} {w : World} {A : Around} {E : Value → Shared → Prop} {s s' : Shared} {F : Fx} {g g' : Heap} {led : Led} {m : Str → Option Value}

theorem In.setGen {gi : Nat} {x : GenState} (H : In F g led m s) (hi : F.s0.gens.size ≤ gi) (hb : x.bare = true) : In F g led m (s.setGen gi x) :=
  ⟨⟨H.rel.sub, H.rel.into, H.rel.new, H.rel.keep, H.rel.size, H.rel.os, H.rel.gens.set hi hb⟩, H.ns, H.fresh, H.off, H.ent, H.nodup⟩
theorem In.gensAs (H : In F g led m s) (h1 : s'.heap = s.heap) (h2 : s'.os = s.os) (h3 : s'.gens = s.gens) : In F g led m s' := H.same h1 h2 h3

theorem Room.over {d u : Nat} {elt : PySem.Expr} {gens : List Comprehension} {sc : Scope} {pos : Pos} {it acc : Value} {env : Env} (r : Room A (d + 1) (u + 3)) : Room (A.over (.compLoop (.GeneratorExp elt gens sc pos) 0 it acc env) []) d u :=
  ⟨r.hh, by have := r.hd; show A.depth + 0 + 1 + d < _; omega, by have := r.hu; show A.units + 0 + 3 + u < _; omega⟩

variable {α β : Type}
/-- the generator's frame, within a segment -/
def GI (F : Fx) (g0 : Heap) (I : Addr) (St : List α → Obj → Prop) (led0 : Led) (rest : List α) (s : Shared) : Prop := ∃ g m, Sub g0 g ∧ In F g ((I, St rest) :: led0) m s
def GE (F : Fx) (g0 : Heap) (led0 : Led) (s : Shared) : Prop := ∃ g m, Sub g0 g ∧ In F g led0 m s
def gY (F : Fx) (g0 : Heap) (I : Addr) (St : List α → Obj → Prop) (f : α → Option β) (Rb : Value → β → Prop) (zs : List β) (led0 : List β → Led) : Protocol := fun m _ v s kap =>
  ∃ b rest, (b :: rest.filterMap f) <:+ zs ∧ (rest.filterMap f).length = m ∧ Rb v b ∧ GI F g0 I St (led0 (b :: rest.filterMap f)) rest s ∧ ∀ s'', GI F g0 I St (led0 (rest.filterMap f)) rest s'' → kap (.send .none) s''
def gR (F : Fx) (g0 : Heap) (led0 : Led) : GenEnd := fun n _ r s₁ => r = .ok .next ∧ (n = 0 ∧ GE F g0 led0 s₁)

/-- what a turn of the generator's does -/
def GStep (prog : Program) (w : World) (d u : Nat) (F : Fx) (g0 : Heap) (I : Addr) (St : List α → Obj → Prop) (R : Value → α → Prop) (f : α → Option β) (Rb : Value → β → Prop) (xn : Str) (ifs : List PySem.Expr) (elt : PySem.Expr) (cenv : Env) (led0 : Led) : Prop :=
  ∀ (A' : Around) x rest g m s v, Room A' d u → Sub g0 g → R v x → In F g ((I, St rest) :: led0) m s → m xn = some v →
    wpAny (model prog w) A' (tests ifs cenv) (fun ok s₁ => if ok = true then wpAny (model prog w) A' (eval elt cenv) (fun y s₂ => ∃ b, f x = some b ∧ Rb y b ∧ GI F g0 I St led0 rest s₂) no s₁ else f x = none ∧ GI F g0 I St led0 rest s₁) no s

theorem seg_gen {elt iter : PySem.Expr} {xn : Str} {px : Pos} {ifs : List PySem.Expr} {scope : Scope} {pos : Pos} {I : Addr} {cenv : Env} {d u : Nat} {g0 : Heap} {St : List α → Obj → Prop} {R : Value → α → Prop} {f : α → Option β} {Rb : Value → β → Prop} {zs : List β} {led0 : List β → Led}
    (r : Room A (d + 1) (u + 3)) (S : Src prog w g0 R I St) (hx : cenv.kindOf xn = some .local) (hk : cenv.scope.kind = .function) (hL : cenv.locals = F.L) (hco : cenv.scope.isCoroutine = false)
    (step : ∀ bs, GStep prog w d u F g0 I St R f Rb xn ifs elt cenv (led0 bs)) :
    ∀ (rest : List α) (s₀ s : Shared), rest.filterMap f <:+ zs → GI F g0 I St (led0 (rest.filterMap f)) rest s →
      Seg (model prog w) A (gR F g0 (led0 [])) (gY F g0 I St f Rb zs led0) (rest.filterMap f).length s₀
        (.compLoop (.GeneratorExp elt [⟨.Name xn px, iter, ifs, 0⟩] scope pos) 0 (.ref I) .none cenv)
        ((model prog w).den (.compLoop (.GeneratorExp elt [⟨.Name xn px, iter, ifs, 0⟩] scope pos) 0 (.ref I) .none cenv)) [] s := by
  have hr : Room (A.over (.compLoop (.GeneratorExp elt [⟨.Name xn px, iter, ifs, 0⟩] scope pos) 0 (.ref I) .none cenv) []) d u := r.over
  have hy : ∀ v, yieldOut cenv v = yieldValue v := fun v => by simp only [yieldOut, hco, Bool.false_eq_true, if_false]
  intro rest
  induction rest with
  | nil =>
    intro s₀ s hz ⟨g, m, hg, H⟩
    show Seg _ A _ _ _ s₀ _ ((compTurn (.GeneratorExp elt [⟨.Name xn px, iter, ifs, 0⟩] scope pos) 0 (.ref I) .none cenv).onRaise (leaving cenv)) [] s
    rw [compTurn_gen, Sem.onRaise_eq_wrap]
    refine seg_bind_wrap (wpAny_standAt ?_)
    refine seg_bind_wrap (S.next _ _ F g _ m s [] _ hr.hh hg H fun s' H' => ?_)
    exact seg_end (.ok .next) ⟨rfl, rfl, g, m, hg, H'⟩
  | cons x rest ih =>
    intro s₀ s hz ⟨g, m, hg, H⟩
    show Seg _ A _ _ _ s₀ _ ((compTurn (.GeneratorExp elt [⟨.Name xn px, iter, ifs, 0⟩] scope pos) 0 (.ref I) .none cenv).onRaise (leaving cenv)) [] s
    rw [compTurn_gen, Sem.onRaise_eq_wrap]
    refine seg_bind_wrap (wpAny_standAt ?_)
    refine seg_bind_wrap (S.next _ _ F g _ m s (x :: rest) _ hr.hh hg H fun v s1 hR H1 => ?_)
    refine seg_bind_wrap (S.go _ _ F g _ m s1 rest _ v _ hg H1 ?_)
    refine seg_bind_wrap (asN H1 (fun s2 H2 => ?_) hL hk hx)
    refine seg_bind_wrap (wpAny_mono (step _ _ x rest g _ s2 v hr hg hR H2 (by simp)) (fun ok s3 h3 => ?_) fun _ _ q => q.elim)
    cases ok with
    | false =>
      obtain ⟨hf, hG⟩ := h3
      rw [List.filterMap_cons, hf] at hz hG ⊢
      simp only [Bool.false_eq_true, if_false]
      exact seg_again rfl (ih s₀ s3 hz hG)
    | true =>
      simp only [if_true] at h3 ⊢
      simp only [hy]
      rw [Sem.bind_eq_wrap', Sem.bind_eq_wrap', Sem.wrap_wrap, Sem.wrap_wrap]
      refine seg_wrap (wpAny_mono h3 (fun y s4 h4 => ?_) fun _ _ q => q.elim)
      obtain ⟨b, hf, hb, hG⟩ := h4
      rw [List.filterMap_cons, hf] at hz hG ⊢
      refine seg_at (seg_yield rfl rfl rfl ⟨b, rest, hz, rfl, hb, hG, fun s'' hG' => ?_⟩)
      exact seg_again rfl (ih s'' s'' ((List.suffix_cons b _).trans hz) hG')

theorem seg_gen0 {elt iter : PySem.Expr} {xn : Str} {px : Pos} {ifs : List PySem.Expr} {scope : Scope} {pos : Pos} {I : Addr} {cenv : Env} {d u : Nat} {g0 : Heap} {St : List α → Obj → Prop} {R : Value → α → Prop} {f : α → Option β} {Rb : Value → β → Prop} {led0 : List β → Led}
    (r : Room A (d + 1) (u + 3)) (S : Src prog w g0 R I St) (hx : cenv.kindOf xn = some .local) (hk : cenv.scope.kind = .function) (hL : cenv.locals = F.L) (hco : cenv.scope.isCoroutine = false)
    (step : ∀ bs, GStep prog w d u F g0 I St R f Rb xn ifs elt cenv (led0 bs)) (xs : List α) (s₀ s : Shared) (hG : GI F g0 I St (led0 (xs.filterMap f)) xs s) :
    Seg (model prog w) A (gR F g0 (led0 [])) (gY F g0 I St f Rb (xs.filterMap f) led0) (xs.filterMap f).length s₀
      (.compStart (.GeneratorExp elt [⟨.Name xn px, iter, ifs, 0⟩] scope pos) 0 (.ref I) .none cenv)
      ((model prog w).den (.compStart (.GeneratorExp elt [⟨.Name xn px, iter, ifs, 0⟩] scope pos) 0 (.ref I) .none cenv)) [] s := by
  have loop := seg_gen (iter := iter) (px := px) (scope := scope) (pos := pos) r S hx hk hL hco step xs s₀ s List.suffix_rfl hG
  show Seg _ A _ _ _ s₀ _ ((compStart (.GeneratorExp elt [⟨.Name xn px, iter, ifs, 0⟩] scope pos) 0 (.ref I) .none cenv).onRaise (leaving cenv)) [] s
  unfold compStart
  rw [Sem.onRaise_eq_wrap]
  show Seg _ A _ _ _ s₀ _ ((ask >>= _).wrap _ _ _ _) [] s
  refine seg_bind_wrap (wpAny_askSetting ?_)
  obtain ⟨g, m, hg, H⟩ := hG
  split
  · exact seg_again rfl loop
  · first
      | exact seg_bind_wrap (wpAny_rule (seg_bind_wrap (wpAny_standAt (seg_bind_wrap (S.self _ _ F g _ m s xs _ hg H (seg_again rfl loop))))))
      | (refine seg_bind_wrap (wpAny_rule ?_); show Seg _ A _ _ _ s₀ _ ((standAt iter.pos >>= _).wrap _ _ _ _) [] s; exact seg_bind_wrap (wpAny_standAt (seg_bind_wrap (S.self _ _ F g _ m s xs _ hg H (seg_again rfl loop)))))
end
end Mine
end

section
open PySem PySem.W PySem.Calls PyProof.Rows
set_option maxRecDepth 100000
namespace Mine

section
variable {prog : Program} {w : World} {A : Around} {E : Value → Shared → Prop} {s s' : Shared} {F : Fx} {g g' : Heap} {led : Led} {m : Str → Option Value}
variable {α β : Type} {g0 : Heap} {I : Addr} {St : List α → Obj → Prop} {f : α → Option β} {Rb : Value → β → Prop} {zs bs : List β} {led0 : List β → Led}

/-- a generator that has yet to give bs -/
def GenOK (prog : Program) (w : World) (A : Around) (F : Fx) (g0 : Heap) (I : Addr) (St : List α → Obj → Prop) (f : α → Option β) (Rb : Value → β → Prop) (zs : List β) (led0 : List β → Led) (gi : Nat) (bs : List β) (s : Shared) : Prop :=
  ∃ gs rest, s.gens[gi]? = some gs ∧ gs.bare = true ∧ rest.filterMap f = bs ∧ bs <:+ zs ∧ GI F g0 I St (led0 bs) rest (s.setGen gi .running) ∧
    ∀ s'', GI F g0 I St (led0 bs) rest s'' → gs.Goes (model prog w) A (gR F g0 (led0 [])) (gY F g0 I St f Rb zs led0) bs.length (.send .none) s''
/-- the same, when it has just given b -/
def GenMid (prog : Program) (w : World) (A : Around) (F : Fx) (g0 : Heap) (I : Addr) (St : List α → Obj → Prop) (f : α → Option β) (Rb : Value → β → Prop) (zs : List β) (led0 : List β → Led) (gi : Nat) (b : β) (bs : List β) (s : Shared) : Prop :=
  ∃ gs rest, s.gens[gi]? = some gs ∧ gs.bare = true ∧ rest.filterMap f = bs ∧ bs <:+ zs ∧ GI F g0 I St (led0 (b :: bs)) rest (s.setGen gi .running) ∧
    ∀ s'', GI F g0 I St (led0 bs) rest s'' → gs.Goes (model prog w) A (gR F g0 (led0 [])) (gY F g0 I St f Rb zs led0) bs.length (.send .none) s''

theorem GI.lt {gi : Nat} {rest : List α} {l : Led} (h : GI F g0 I St l rest s) (hr : F.s0.gens[gi]? = some .running) : s.gens[gi]? = some .running := by
  obtain ⟨g, m, _, H⟩ := h
  have : gi < F.s0.gens.size := by
    rcases Nat.lt_or_ge gi F.s0.gens.size with q | q
    · exact q
    · rw [Array.getElem?_eq_none q] at hr; cases hr
  rw [H.rel.gens.2.1 gi this]; exact hr
theorem setGen_back {gi : Nat} {x y : GenState} (h : s.gens[gi]? = some x) : (s.setGen gi y).setGen gi x = s := by
  obtain ⟨hp, gn, d, t, os⟩ := s
  simp only [Shared.setGen] at h ⊢
  congr 1
  apply Array.ext_getElem?
  intro i
  by_cases e : gi = i
  · subst e
    have : gi < gn.size := by
      rcases Nat.lt_or_ge gi gn.size with q | q
      · exact q
      · rw [Array.getElem?_eq_none q] at h; cases h
    rw [h]
    first | exact Array.getElem?_setIfInBounds_self_of_lt (by simpa using this) | simp [this]
  · simp [e]

theorem gen_next {a : Addr} {gi : Nat} {Q : Option Value → Shared → Prop} (hh : A.handled = none) (hroom : A.depth < recursionLimit) (hl : g0.NoLimit) (ha : g0.IsGen a gi) (hr : F.s0.gens[gi]? = some .running)
    (h : GenOK prog w A.in1 F g0 I St f Rb zs led0 gi bs s)
    (hupd : ∀ b rest s, GI F g0 I St (led0 (b :: rest.filterMap f)) rest s → ∃ s'', GI F g0 I St (led0 (rest.filterMap f)) rest s'')
    (hQ : match bs with
      | [] => ∀ s', GE F g0 (led0 []) (s'.setGen gi .running) → s'.gens[gi]? = some .finished → Q none s'
      | b :: r => ∀ v s', Rb v b → GenMid prog w A.in1 F g0 I St f Rb zs led0 gi b r s' → Q (some v) s') :
    wpAny (model prog w) A (pyNext (.ref a)) Q E s := by
  obtain ⟨gs, rest, hgs, hbare, hf, hsuf, hG, hgo⟩ := h
  have hG' := hG
  obtain ⟨g, m, hg, H⟩ := hG
  have into : Sub g0 s.heap := hg.trans H.into
  refine wpAny_pyNext_genexpQ (P := fun n s₀ s₁ => n = 0 ∧ GE F g0 (led0 []) s₁) hh (hl.keeps into) hroom (ha.keeps into) hgs (hgo _ hG') (fun v s₁ gs' hb hv => ?_) (fun s₁ hp h' hk => ?_)
  · obtain ⟨b', rest', h1, h2, h3, h4, h5⟩ := hv
    cases bs with
    | nil => obtain ⟨s2, hs2⟩ := hupd _ _ _ h4; exact (h5 _ hs2).elim
    | cons b r =>
      have e : b' :: rest'.filterMap f = b :: r := (List.suffix_of_suffix_length_le h1 hsuf (by rw [List.length_cons, h2]; simp)).eq_of_length (by rw [List.length_cons, h2]; simp)
      cases e
      have hrun := h4.lt hr
      have hlt : gi < s₁.gens.size := by
        rcases Nat.lt_or_ge gi s₁.gens.size with q | q
        · exact q
        · rw [Array.getElem?_eq_none q] at hrun; cases hrun
      refine hQ v _ h3 ⟨gs', rest', by simp [Shared.setGen, hlt], hb, rfl, (List.suffix_cons _ _).trans hsuf, ?_, fun s'' hs => h5 s'' hs⟩
      rw [setGen_back hrun]
      exact h4
  · obtain ⟨hn, g1, m1, hg1, H1⟩ := hp
    have : bs = [] := List.eq_nil_of_length_eq_zero hn
    subst this
    have hrun : s₁.gens[gi]? = some .running := by
      have : gi < F.s0.gens.size := by
        rcases Nat.lt_or_ge gi F.s0.gens.size with q | q
        · exact q
        · rw [Array.getElem?_eq_none q] at hr; cases hr
      rw [H1.rel.gens.2.1 gi this]; exact hr
    have hlt : gi < s₁.gens.size := by
      rcases Nat.lt_or_ge gi s₁.gens.size with q | q
      · exact q
      · rw [Array.getElem?_eq_none q] at hrun; cases hrun
    refine hQ _ ⟨g1, m1, hg1, ?_⟩ (by simp [Shared.setGen, hlt])
    have K : In F g1 (led0 []) m1 { s₁ with heap := h' } := H1.kept (s' := { s₁ with heap := h' }) hk rfl (.refl _)
    exact K.gensAs rfl rfl (by have e := congrArg Shared.gens (setGen_back (y := .finished) hrun); exact e)

theorem GenOK.any {gi : Nat} (h : GenOK prog w A F g0 I St f Rb zs led0 gi bs s) : ∃ rest, GI F g0 I St (led0 bs) rest (s.setGen gi .running) ∧ ∃ gs, s.gens[gi]? = some gs ∧ gs.bare = true :=
  let ⟨gs, rest, a, b, _, _, c, _⟩ := h; ⟨rest, c, gs, a, b⟩
/-- the end of a walk over a generator, seen from outside -/
def GDone (F : Fx) (g0 : Heap) (I : Addr) (led1 : Led) (gi : Nat) (s : Shared) : Prop := (∃ g m, Sub g0 g ∧ In F g led1 m (s.setGen gi .running)) ∧ ∃ gs, s.gens[gi]? = some gs ∧ gs.bare = true

theorem all_loop {a : Addr} {gi : Nat} {R : Result → Shared → Prop} (hh : A.handled = none) (hroom : A.depth < recursionLimit) (hl : g0.NoLimit) (ha : g0.IsGen a gi) (hr : F.s0.gens[gi]? = some .running) {zs : List Bool} {led1 : Led}
    {f : α → Option Bool} : ∀ (bs : List Bool) (s : Shared), GenOK prog w A.in1.in1 F g0 I St f (fun v b => v = .bool b) zs (fun _ => led1) gi bs s → (∀ s', GDone F g0 I led1 gi s' → R (.ok (.ret (.bool (bs.all id)))) s') → codeAny (model prog w) A (.builtin "all.loop" ⟨[.ref a], []⟩) R s
  | [], s, h, hR => by
    refine codeAny_builtin PySem.F.entry_all_loop ?_
    rw [Around.under_plainId PySem.F.plain_all_loop _]
    show wpAny _ A.in1 (pyNext (.ref a) >>= _) _ _ s
    refine wpAny_bind (gen_next hh hroom hl ha hr h (fun _ _ s h => ⟨s, h⟩) fun s' hG hfin => ?_)
    exact wpAny_bind (wpAny_rule (wpAny_pure (hR s' ⟨hG, _, hfin, rfl⟩)))
  | b :: r, s, h, hR => by
    refine codeAny_builtin PySem.F.entry_all_loop ?_
    rw [Around.under_plainId PySem.F.plain_all_loop _]
    show wpAny _ A.in1 (pyNext (.ref a) >>= _) _ _ s
    refine wpAny_bind (gen_next hh hroom hl ha hr h (fun _ _ s h => ⟨s, h⟩) fun v s' hv hG => ?_)
    have hG : GenOK prog w A.in1.in1 F g0 I St f (fun v b => v = .bool b) zs (fun _ => led1) gi r s' := hG
    subst hv
    refine wpAny_bind (wpAny_holding (wpAny_truthy_bool ?_))
    refine wpAny_bind (wpAny_letGo ?_)
    cases b with
    | true =>
      simp only [if_true]
      exact wpAny_pure ⟨plainId_quiet PySem.F.plain_all_loop _, all_loop hh hroom hl ha hr r s' hG fun s'' hd => by have := hR s'' hd; simpa using this⟩
    | false =>
      simp only [Bool.false_eq_true, if_false]
      refine wpAny_bind (wpAny_rule (wpAny_pure ?_))
      obtain ⟨rest, ⟨g, m, hg, H⟩, gs, e, hb⟩ := GenOK.any (led0 := fun _ => led1) (show GenOK prog w A.in1.in1 F g0 I St f (fun v b => v = .bool b) zs (fun _ => led1) gi r s' from hG)
      have := hR s' ⟨⟨g, m, hg, H.drop⟩, gs, e, hb⟩
      simpa using this

theorem call_all {a : Addr} {gi : Nat} {Q : Value → Shared → Prop} (hh : A.handled = none) (hroom : A.depth < recursionLimit) (hl : g0.NoLimit) (ha : g0.IsGen a gi) (hr : F.s0.gens[gi]? = some .running) {f : α → Option Bool} {zs bs : List Bool} {led1 : Led}
    (h : GenOK prog w A.in1.in1 F g0 I St f (fun v b => v = .bool b) zs (fun _ => led1) gi bs s) (hQ : ∀ s', GDone F g0 I led1 gi s' → Q (.bool (bs.all id)) s') : wpAny (model prog w) A (call (.builtin "all") [.ref a]) Q E s := by
  refine call_function_tree PySem.F.kind_all PySem.F.plain_all PySem.F.entry_all (PySem.F.args_all1 _) ?_
  unfold Builtin.«all»
  refine wpAny_bind (m := oneArg "all" _) (wpAny_pure ?_)
  have h' := h
  obtain ⟨gs, rest, _, _, _, _, ⟨g, m, hg, H⟩, _⟩ := h'
  have ig : s.heap.IsGen a gi := ha.keeps (hg.trans H.into)
  refine wpAny_bind (wpAny_pyIter_gen ig ?_)
  exact wpAny_pure ⟨plainId_quiet PySem.F.plain_all_loop _, all_loop hh hroom hl ha hr bs s h hQ⟩

/-- the best so far -/
def bestOf (lt : Nat → Nat → Bool) (l : List Nat) : Nat := match l with | [] => 0 | x :: r => r.foldl (fun b y => if lt y b then y else b) x
theorem bestOf_snoc (lt : Nat → Nat → Bool) (l : List Nat) (y : Nat) (h : l ≠ []) : bestOf lt (l ++ [y]) = if lt y (bestOf lt l) then y else bestOf lt l := by
  cases l with
  | nil => exact absurd rfl h
  | cons x r => simp only [bestOf, List.cons_append, List.foldl_append, List.foldl_cons, List.foldl_nil]; rfl
/-- the scratch list of min and max -/
def SP (lt : Nat → Nat → Bool) (zs bs : List Nat) : Obj → Prop := fun o => ∃ c, if (zs.take (zs.length - bs.length)) = [] then o = { cls := .type "list", dict := none, data := .seq #[] c, slots := #[] } else
  ∃ t, o = { cls := .type "list", dict := none, data := .seq #[.int (bestOf lt (zs.take (zs.length - bs.length))) t, .int (bestOf lt (zs.take (zs.length - bs.length))) t] c, slots := #[] }
theorem take_suffix {zs r : List Nat} {b : Nat} (h : b :: r <:+ zs) : zs.take (zs.length - r.length) = zs.take (zs.length - (b :: r).length) ++ [b] := by
  obtain ⟨p, rfl⟩ := h
  have e1 : (p ++ b :: r).length - r.length = p.length + 1 := by simp; omega
  have e2 : (p ++ b :: r).length - (b :: r).length = p.length := by simp
  rw [e1, e2]
  rw [List.take_append_of_le_length (Nat.le_refl _), List.take_length, List.take_append, Nat.add_sub_cancel_left, List.take_of_length_le (by omega)]
  rfl
end
end Mine
end

section
open PySem PySem.W PySem.Calls PyProof.Rows
set_option maxRecDepth 100000
namespace Mine

section
variable {prog : Program} {w : World} {mg mb : Str → Option Value} {A : Around} {E : Value → Shared → Prop} {s s' : Shared} {F : Fx} {g g' : Heap} {led : Led} {m : Str → Option Value} {env : Env}

/-- a table of codes, on the ledger -/
def TabP : Obj → Prop := fun o => ∃ ps : Array Value, o = tabObj ps ∧ TriplesOk ps.toList

theorem genCode {c P : Addr} {pos : Pos} {qual : Str} {scope : Scope} {Q : Value → Shared → Prop} (H : In F g ((P, TabP) :: led) m s) (hd : CodeHd g c P) (hc : env.code = .ref c)
    (h : ∀ code s', In F g ((P, TabP) :: led) m s' → Q code s') : wpAny (model prog w) A (genexprCode env pos qual scope) Q E s := by
  obtain ⟨o, ho, ps, rfl, ht⟩ := H.get (.head _)
  have hd' := hd.keeps H.into
  have ok : s.heap.IsCode c P ps := hd'.code ho ht
  have tab : s.heap.TableAt c P ps := hd'.tab ho
  cases hf : codeAmong pos ps.toList with
  | some cv => exact wpAny_genexprCode_hit hc ok hf (h _ _ H)
  | none =>
    refine sz (wpAny_genexprCodeX hc ok tab hf fun c' h' tk hx h1 h2 h3 h4 h5 h6 hz => ?_)
    refine h _ _ (H.wr (fun b o n e => hx b o n e) hz h5.2 ⟨_, rfl, ?_⟩)
    obtain ⟨_, _, _, _, _, _, _, _, _, op, _, _, _, _, _, _, _, e1, e2, e3, _⟩ := h3
    exact e3

theorem biFor {globals running : Addr} {Q : Addr → Shared → Prop} (H : In F g led m s) (k : KB w mg mb g) (hg : globals = mainGlobals) (h : Q builtinsNs s) : wpAny (model prog w) A (builtinsFor globals running) Q E s := by
  obtain ⟨b, o, M⟩ := k.bm
  have M := M.keeps H.into
  subst hg
  exact wpAny_builtinsFor M.ns M.name M.ne M.obj M.cls M.dict M.data h

variable {α β : Type}
structure Pack (F : Fx) (g₂ : Heap) (I : Addr) (St : List α → Obj → Prop) (xs : List α) (led₁ : Led) (m₂ : Str → Option Value) (cd : Code) (sb : Shared) (C a : Addr) (gi : Nat) (g' : Heap) (s' : Shared) : Prop where
  Hb : In F g₂ ((I, St xs) :: led₁) m₂ sb
  run : sb.gens[gi]? = some .running
  ge : F.s0.gens.size ≤ gi
  sub : Sub g₂ g'
  gen : g'.IsGen a gi
  H : ∃ m', In ⟨sb, g₂, ((I, St xs) :: led₁).map (·.1), C⟩ g' ((I, St xs) :: led₁) m' (s'.setGen gi .running)
  st : s'.gens[gi]? = some (.fresh cd)

theorem genMake {elt iter : PySem.Expr} {xn : Str} {px : Pos} {ifs : List PySem.Expr} {scope : Scope} {cl : List (Str × Addr)} {pos : Pos} {c P : Addr} {Q : Value → Shared → Prop}
    (_H : In F g led m s) (hroom : A.depth < recursionLimit) (hc : env.code = .ref c) (hgl : env.globals = mainGlobals) (hclos : closureFor scope env = pure cl)
    (h : wpAny (model prog w) A (eval iter env) (fun xv s₁ => wpAny (model prog w) A (pyIter xv) (fun it s₂ => ∃ (I : Addr) (St : List α → Obj → Prop) (xs : List α) (g₂ : Heap) (m₂ : Str → Option Value) (led₂ : Led), it = .ref I ∧ In F g₂ ((I, St xs) :: (P, TabP) :: led₂) m₂ s₂ ∧ KB w mg mb g₂ ∧ CodeHd g₂ c P ∧
      ∀ sb C code a gi g' s', Pack F g₂ I St xs ((P, TabP) :: led₂) m₂ (.compStart (.GeneratorExp elt [⟨.Name xn px, iter, ifs, 0⟩] scope pos) 0 (.ref I) .none (genEnv scope cl C code builtinsNs env)) sb C a gi g' s' → Q (.ref a) s') E s₁) E s)
    (hco : scope.isCoroutine = false := by rfl) (hcell : ∀ y ∈ scope.names, y.2 ≠ .cell := by decide) (h0 : scope.names.lookup (".0" : Str) = some NameKind.local := by rfl) (hkind : scope.kind = .function := by rfl)
    (hs : ∀ x, genFold iter env x = pure x := by intro _; rfl) :
    wpAny (model prog w) A (eval (.GeneratorExp elt [⟨.Name xn px, iter, ifs, 0⟩] scope pos) env) Q E s := by
  refine wpAny_GeneratorExp_make hco hclos hcell h0 hkind hroom (wpAny_mono h (fun xv s₁ h₁ => wpAny_mono h₁ (fun it s₂ h₂ => ?_) fun _ _ e => e) fun _ _ e => e) hs
  obtain ⟨I, St, xs, g₂, m₂, led₂, rfl, H, k, hd, hQ⟩ := h₂
  refine ⟨k.lim.keeps H.into, genCode (H.perm (List.Perm.swap ..)) hd hc fun code s₃ H3 => biFor H3 k hgl ?_⟩
  have H3 : In F g₂ ((I, St xs) :: (P, TabP) :: led₂) m₂ s₃ := H3.perm (List.Perm.swap ..)
  intro h' hn hsb
  have hk : ∀ b o, s₃.heap.get? b = some o → h'.get? b = some o := fun b o e => hsb.extBut b o (Nat.ne_of_lt (Heap.lt_size e)) (Heap.get?_push_of_some _ e)
  have hsz : h'.objs.size = s₃.heap.objs.size + 1 := by rw [hsb.1, Heap.size_push]
  -- the base: the state before, with the generator's place running
  let sb : Shared := { s₃ with gens := s₃.gens.push .running }
  have Hb : In F g₂ ((I, St xs) :: (P, TabP) :: led₂) m₂ sb := H3.kept (s' := sb) (fun _ _ e => e) rfl (GenRel.push rfl)
  have K : In ⟨sb, g₂, ((I, St xs) :: (P, TabP) :: led₂).map (·.1), s₃.heap.objs.size⟩ g₂ ((I, St xs) :: (P, TabP) :: led₂) (fun y => if y = ".0" then some (.ref I) else none) { sb with heap := h' } := by
    refine ⟨⟨.refl _, fun b o e => hk b o (H3.into b o e), fun _ _ e => .inl e, fun b o _ e => hk b o e, ?_, rfl, .refl _⟩, hn, Nat.le_refl _, ?_, fun p hp => ?_, H3.nodup⟩
    · show s₃.heap.objs.size ≤ h'.objs.size; omega
    · cases q : g₂.get? s₃.heap.objs.size with
      | none => rfl
      | some o => exact absurd (Heap.lt_size (H3.into _ _ q)) (Nat.lt_irrefl _)
    · obtain ⟨⟨o, ho, hP⟩, h2, _⟩ := H3.ent p hp
      exact ⟨⟨o, hk _ _ ho, hP⟩, h2, Nat.ne_of_lt (Heap.lt_size ho), .inl (List.mem_map_of_mem hp)⟩
  obtain ⟨o, g', e, ho, hs', K'⟩ := (K.new { cls := .type "generator", data := .fields #[.int s₃.gens.size 0, .str "<genexpr>" (s₃.toks + 1), .str (env.qual ++ "<genexpr>") (s₃.toks + 1 + 1)] } rfl (fun o => o = { cls := .type "generator", data := .fields #[.int s₃.gens.size 0, .str "<genexpr>" (s₃.toks + 1), .str (env.qual ++ "<genexpr>") (s₃.toks + 1 + 1)] }) rfl).freeze (by show s₃.heap.objs.size ≤ h'.objs.size; omega)
  subst e
  refine hQ sb s₃.heap.objs.size code h'.objs.size s₃.gens.size g' _ ⟨Hb, by show (s₃.gens.push .running)[s₃.gens.size]? = _; simp, H3.rel.gens.1, hs', ⟨_, _, _, ho, rfl, rfl, rfl⟩, ⟨_, K'.gensAs rfl rfl ?_⟩, by show (s₃.gens.push _)[s₃.gens.size]? = _; simp⟩
  show (s₃.gens.push _).setIfInBounds s₃.gens.size .running = s₃.gens.push .running
  apply Array.ext_getElem?
  intro i
  by_cases e : s₃.gens.size = i
  · subst e; simp
  · rw [Array.getElem?_setIfInBounds_ne e]
    simp only [Array.getElem?_push, if_neg (Ne.symm e)]

theorem Pack.ok {R : Value → α → Prop} {elt iter : PySem.Expr} {xn : Str} {px : Pos} {ifs : List PySem.Expr} {scope : Scope} {pos : Pos} {cenv : Env} {g₂ : Heap} {I : Addr} {St : List α → Obj → Prop} {xs : List α} {led₁ : Led} {m₂ : Str → Option Value} {sb : Shared} {C a : Addr} {gi d u : Nat} {f : α → Option β} {Rb : Value → β → Prop} {led₀ : List β → Led}
    (p : Pack F g₂ I St xs led₁ m₂ (.compStart (.GeneratorExp elt [⟨.Name xn px, iter, ifs, 0⟩] scope pos) 0 (.ref I) .none cenv) sb C a gi g' s) (r : Room A (d + 1) (u + 3)) (S : Src prog w g₂ R I St)
    (step : ∀ bs, GStep prog w d u ⟨sb, g₂, ((I, St xs) :: led₁).map (·.1), C⟩ g' I St R f Rb xn ifs elt cenv (led₀ bs))
    (hG : GI ⟨sb, g₂, ((I, St xs) :: led₁).map (·.1), C⟩ g' I St (led₀ (xs.filterMap f)) xs (s'.setGen gi .running)) (hs' : s'.gens[gi]? = s.gens[gi]?)
    (hx : cenv.kindOf xn = some .local) (hk : cenv.scope.kind = .function) (hL : cenv.locals = C) (hco : cenv.scope.isCoroutine = false) :
    GenOK prog w A ⟨sb, g₂, ((I, St xs) :: led₁).map (·.1), C⟩ g' I St f Rb (xs.filterMap f) led₀ gi (xs.filterMap f) s' :=
  have S' : Src prog w g' R I St := ⟨fun A E F g2 led m s rest Q a b c d => S.next A E F g2 led m s rest Q a (p.sub.trans b) c d, fun A E F g2 led m s rest Q b c d => S.self A E F g2 led m s rest Q (p.sub.trans b) c d,
    fun A E F g2 led m s rest tgt v Q b c d => S.go A E F g2 led m s rest tgt v Q (p.sub.trans b) c d⟩
  ⟨_, xs, hs'.trans p.st, rfl, rfl, List.suffix_rfl, hG, fun s'' hG' => ⟨rfl, seg_gen0 r S' hx hk hL hco step xs s'' s'' hG'⟩⟩

/-- the end, seen from the frame around -/
theorem Pack.out {cd : Code} {g₂ : Heap} {I : Addr} {St : List α → Obj → Prop} {xs : List α} {led₁ led₀ : Led} {m₂ : Str → Option Value} {sb : Shared} {C a : Addr} {gi : Nat} (p : Pack F g₂ I St xs led₁ m₂ cd sb C a gi g' s)
    (h : GDone ⟨sb, g₂, ((I, St xs) :: led₁).map (·.1), C⟩ g' I led₀ gi s') : ∃ g'', Sub g' g'' ∧ In F g'' led₀ m₂ s' := by
  obtain ⟨⟨g1, m1, hg, H⟩, gs, e, hb⟩ := h
  have K : In F g1 led₀ m₂ (s'.setGen gi .running) := p.Hb.out H (Heap.SameBut.refl _ _)
  exact ⟨g1, hg, setGen_back e ▸ K.setGen p.ge hb⟩

theorem Pack.all {R : Value → α → Prop} {elt iter : PySem.Expr} {xn : Str} {px : Pos} {ifs : List PySem.Expr} {scope : Scope} {pos : Pos} {cenv : Env} {g₂ : Heap} {I : Addr} {St : List α → Obj → Prop} {xs : List α} {led₁ : Led} {m₂ : Str → Option Value} {sb : Shared} {C a : Addr} {gi d u : Nat} {f : α → Option Bool} {Q : Value → Shared → Prop}
    (p : Pack F g₂ I St xs led₁ m₂ (.compStart (.GeneratorExp elt [⟨.Name xn px, iter, ifs, 0⟩] scope pos) 0 (.ref I) .none cenv) sb C a gi g' s) (r : Room A (d + 1) (u + 5)) (k : KB w mg mb g₂) (S : Src prog w g₂ R I St)
    (step : GStep prog w d u ⟨sb, g₂, ((I, St xs) :: led₁).map (·.1), C⟩ g' I St R f (fun v b => v = .bool b) xn ifs elt cenv led₁)
    (hQ : ∀ g'' s', Sub g' g'' → In F g'' led₁ m₂ s' → Q (.bool ((xs.filterMap f).all id)) s')
    (hx : cenv.kindOf xn = some .local := by kernel_rfl) (hk : cenv.scope.kind = .function := by rfl) (hL : cenv.locals = C := by rfl) (hco : cenv.scope.isCoroutine = false := by rfl) :
    wpAny (model prog w) A (call (.builtin "all") [.ref a]) Q E s := by
  have r2 : Room A.in1.in1 (d + 1) (u + 3) := (Room.in1 (u := u + 4) r).in1
  obtain ⟨m', H⟩ := p.H
  refine call_all r.hh r.lt (k.lim.keeps p.sub) p.gen p.run (p.ok (led₀ := fun _ => led₁) r2 S (fun _ => step) ⟨g', m', .refl _, H⟩ rfl hx hk hL hco) fun s' hd => ?_
  obtain ⟨g'', h1, h2⟩ := p.out hd
  exact hQ g'' s' h1 h2
end
end Mine
end

section
open PySem PySem.W PySem.Calls PyProof.Rows
set_option maxRecDepth 100000
namespace Mine
theorem fillK7 (P : Params) : hd.heap_39 P = hd.heap_39 P → PySem.Challenge.rw_bn0044_01 = PySem.Challenge.rw_bn0044_01 := by
  k_fill
  exact fun _ => rfl

section
variable {prog : Program} {w : World} {mg mb : Str → Option Value} {A : Around} {E : Value → Shared → Prop} {s s' : Shared} {F : Fx} {g g' : Heap} {led : Led} {m : Str → Option Value} {env : Env}

theorem enterL {name qual : Str} {params : Arguments} {body : List Stmt} {scope : Scope} {dV kV doc pm cdv ct oc : Value} {an od : Option Addr} {osl : Array (Option Value)} {f : Addr} {args : List Value} {Q : Value → Shared → Prop} (binds : List (Str × Value))
    (k : KB w mg mb g) (hs : Sub g s.heap) (hr : A.depth < recursionLimit)
    (hl : ∀ p ∈ led, (∃ o, s.heap.get? p.1 = some o ∧ p.2 o) ∧ g.get? p.1 = none) (hn : (led.map (·.1)).Nodup)
    (h : ∀ L s1, In ⟨s, g, led.map (·.1), L⟩ g led (fun y => binds.reverse.lookup y) s1 →
      wpAny (model prog w) (A.deeper (envOf qual scope L f cdv)) (execs body (envOf qual scope L f cdv)) (fun fl s' => Q (match fl with | .ret v => v | _ => .none) s') (fun _ _ => False) s1)
    (ho : (hd.heap_39 w.params).lookup f = some ⟨oc, od, .func (fnOf name qual params body scope dV kV doc pm an cdv ct), osl⟩ := by k_is) (hcd : codeIn (hd.heap_39 w.params) cdv qual = true := by k_is)
    (hbind : BindsTo s (fnOf name qual params body scope dV kV doc pm an cdv ct) ⟨args, []⟩ binds := by exact BindsTo.of_eq (by kernel_rfl)) (hloc : (binds.all fun y => decide (scope.names.lookup y.1 = some .local)) = true := by kernel_rfl)
    (hcell : ∀ x ∈ scope.names, x.2 ≠ .cell := by decide) (hco : scope.isCoroutine = false := by exact rfl) (hgen : scope.isGenerator = false := by exact rfl) (hk : scope.kind = .function := by exact rfl) :
    wpAny (model prog w) A (call (.ref f) args) Q E s :=
  enter k hs hr ho hcd hbind hloc hl hn (fun L s1 H => wpAny_mono (h L s1 H) (fun _ _ q => q) fun _ _ q => q.elim) hcell hco hgen hk

/-- a callee came back that may write the ledger's objects in mu -/
theorem In.callT {mu : List Addr} (H : In F g led m s) (R : Rel mu s g s' g') (hm : ∀ a ∈ mu, a ∈ led.map (·.1)) (ht : ∀ p ∈ led, p.1 ∈ mu → ∃ o, s'.heap.get? p.1 = some o ∧ p.2 o) : In F g' led m s' := by
  refine H.after R hm (fun p hp => ?_) H.nodup
  obtain ⟨⟨o, ho, hP⟩, h2, _, _⟩ := H.ent p hp
  refine ⟨?_, ?_, .inl (List.mem_map_of_mem hp)⟩
  · by_cases q : p.1 ∈ mu
    · exact ht p hp q
    · exact ⟨o, R.keep _ _ q ho, hP⟩
  · cases q : g'.get? p.1 with
    | none => rfl
    | some o' =>
      rcases R.new _ _ q with h | h
      · rw [h2] at h; cases h
      · exact absurd (Heap.lt_size ho) (Nat.not_lt.mpr h)

/-- a table of codes stands, hidden from the ghost heap -/
def Tab (g : Heap) (P : Addr) (s : Shared) : Prop := (∃ o, s.heap.get? P = some o ∧ TabP o) ∧ g.get? P = none
theorem In.tab {P : Addr} {pre post : Led} (H : In F g (pre ++ (P, TabP) :: post) m s) : Tab g P s := ⟨H.get (by simp), H.ne (P := TabP) (by simp)⟩
theorem Tab.ent {P : Addr} (t : Tab g P s) : ∀ p ∈ [(P, TabP)], (∃ o, s.heap.get? p.1 = some o ∧ p.2 o) ∧ g.get? p.1 = none := fun p hp => by cases List.mem_singleton.mp hp; exact t

theorem cd132 (k : KB w mg mb g) : CodeHd g 132 128 := ⟨_, _, _, _, _, _, _, _, _, k.X 132 _ (by k_is), rfl, rfl, rfl, rfl, rfl, rfl, rfl, rfl, by decide⟩
theorem cd224 (k : KB w mg mb g) : CodeHd g 224 220 := ⟨_, _, _, _, _, _, _, _, _, k.X 224 _ (by k_is), rfl, rfl, rfl, rfl, rfl, rfl, rfl, rfl, by decide⟩
theorem g_is_nonterminal (P : Params) : nsIn (hd.heap_39 P) mainGlobals "is_nonterminal" = some (some (.ref 77)) := by kernel_rfl
theorem kp77 (P : Params) : keepIn (hd.heap_39 P) (.ref 77) = true := by kernel_rfl
theorem g_all : bootBuiltins "all" = some (.builtin "all") := by kernel_rfl
theorem n_all (P : Params) : nsIn (hd.heap_39 P) mainGlobals "all" = some none := by kernel_rfl

theorem nonlex_spec {x T : Addr} {lv : Value} {vs : List Value} {is : List It} {Q : Value → Shared → Prop} (r : Room A 6 60) (k : KB w mg mb g) (hs : Sub g s.heap) (t : Tab g 128 s) (hI : Inst g x 155 (prodF lv T)) (ht : IsTup g T vs.toArray) (hv : ItemsAt g vs is)
    (h : ∀ s' g', Rel [128] s g s' g' → Tab g' 128 s' → Q (.bool (is.all (!·.t))) s') : wpAny (model prog w) A (call (.ref 133) [.ref x]) Q E s := by
  refine enterL [("self", .ref x)] (led := [(128, TabP)]) k hs r.lt t.ent (by simp) ?_
  intro L s H
  refine ex_ret (Call_ (nmB H k g_all (e := n_all _) (callB (a1 ?_))))
  refine genMake (cl := []) (c := 132) (P := 128) (α := It) (mg := mg) (mb := mb) H (Room.lt (d := 4) (u := 57) r.deeper) rfl rfl rfl ?_
  refine Attribute_any_ (nm H rfl (attr H k (c155 _) hI (a155_rhs _) rfl rfl fun s H => ?_))
  refine itTupA H ht hv fun I St s S H => ⟨I, St, is, g, _, [], rfl, H, k, cd132 k, ?_⟩
  intro sb C code a gi g1 s1 p
  refine Pack.all (d := 3) (u := 30) p ((Room.deeper (d := 5) (u := 57) r).le (by decide) (by decide)) k S (f := fun i => some (!i.t)) ?_ ?_
  · intro A' i rest g2 m2 s2 v r' hg hR H hm
    have k2 := k.mono (p.sub.trans hg)
    refine tests0 ?_
    rw [if_pos rfl]
    refine Call_ (nmG H k2 (g_is_nonterminal _) (callW (kp77 _) (a1 (nm H hm ⟨H.K k2, ?_⟩))))
    refine isN_spec (r'.le (by decide) (by decide)) k2 H.into (hR.mono (p.sub.trans hg)) fun s' g' R' => ?_
    exact ⟨_, rfl, rfl, g', _, hg.trans R'.sub, H.call0 R'⟩
  · intro g2 s2 hs2 H
    have e : (is.filterMap fun i => some (!i.t)).all id = is.all (!·.t) := by rw [List.filterMap_eq_map']; simp [List.all_map, Function.comp_def]
    rw [e]
    exact h _ _ H.rel (H.tab (pre := []))
end
end Mine
end

section
open PySem PySem.W PySem.Calls PyProof.Rows
set_option maxRecDepth 100000
namespace Mine

section
variable {prog : Program} {w : World} {mg mb : Str → Option Value} {A : Around} {E : Value → Shared → Prop} {s s' : Shared} {F : Fx} {g g' : Heap} {led : Led} {m : Str → Option Value}
variable {α β : Type} {g0 : Heap} {I : Addr} {St : List α → Obj → Prop}

def gtN (a b : Nat) : Bool := decide (a > b)
def ltN (a b : Nat) : Bool := decide (a < b)
def RbN (v : Value) (n : Nat) : Prop := ∃ t, v = .int (n : Int) t
theorem SP.some (lt : Nat → Nat → Bool) (zs bs : List Nat) : ∃ o, SP lt zs bs o ∧ o.isFreed = false := by
  by_cases h : zs.take (zs.length - bs.length) = []
  · exact ⟨_, ⟨0, by rw [if_pos h]⟩, rfl⟩
  · exact ⟨_, ⟨0, by rw [if_neg h]; exact ⟨0, rfl⟩⟩, rfl⟩
theorem SP.mk {lt : Nat → Nat → Bool} {zs bs : List Nat} {n : Nat} (h : zs.take (zs.length - bs.length) ≠ []) (hb : bestOf lt (zs.take (zs.length - bs.length)) = n) (c : Nat) (t : Tok) : SP lt zs bs { cls := .type "list", dict := none, data := .seq #[.int (n : Int) t, .int (n : Int) t] c, slots := #[] } :=
  ⟨c, by rw [if_neg h, hb]; exact ⟨t, rfl⟩⟩
theorem SP.upd {lt : Nat → Nat → Bool} {zs : List Nat} {S : Addr} {led1 : Led} {f : α → Option Nat} (b : Nat) (rest : List α) (s : Shared) (h : GI F g0 I St ((S, SP lt zs (b :: rest.filterMap f)) :: led1) rest s) : ∃ s'', GI F g0 I St ((S, SP lt zs (rest.filterMap f)) :: led1) rest s'' := by
  obtain ⟨g, m, hg, H⟩ := h
  obtain ⟨o, ho, _⟩ := H.get (a := S) (P := SP lt zs (b :: rest.filterMap f)) (by simp)
  obtain ⟨o', hP, hf⟩ := SP.some lt zs (rest.filterMap f)
  exact ⟨_, g, m, hg, H.put (pre := [(I, St rest)]) (Heap.SameBut.update s.heap S fun _ => o') (Heap.get?_update_self _ ho hf) hP 0⟩

theorem max_loop {a S : Addr} {gi : Nat} {R : Result → Shared → Prop} (hh : A.handled = none) (hroom : A.depth < recursionLimit) (hl : g0.NoLimit) (ha : g0.IsGen a gi) (hr : F.s0.gens[gi]? = some .running) {zs : List Nat} {led1 : Led}
    {f : α → Option Nat} (hz : zs ≠ []) : ∀ (bs : List Nat) (s : Shared), GenOK prog w A.in1.in1 F g0 I St f RbN zs (fun bs => (S, SP gtN zs bs) :: led1) gi bs s →
      (∀ t s', GDone F g0 I led1 gi s' → R (.ok (.ret (.int (bestOf gtN zs : Nat) t))) s') → codeAny (model prog w) A (.builtin "max.loop" ⟨[.ref a, .none, .ref S], []⟩) R s := by
  have hname : (toString "max" ++ toString ".loop" : String) = "max.loop" := by decide
  intro bs
  induction bs with
  | nil =>
    intro s h hR
    have h0 := h
    obtain ⟨_, _, _, _, _, _, ⟨g1, m1, hg1, H1⟩, _⟩ := h0
    obtain ⟨o, ho, c, hP⟩ := H1.get (a := S) (P := SP gtN zs []) (by simp)
    have e0 : zs.take (zs.length - ([] : List Nat).length) = zs := by simp
    rw [e0, if_neg hz] at hP
    obtain ⟨t, rfl⟩ := hP
    refine codeAny_builtin PySem.F.entry_max_loop ?_
    rw [Around.under_plainId PySem.F.plain_max_loop _]
    show wpAny _ A.in1 (seqItems? (.ref S) >>= _) _ _ s
    refine wpAny_bind (wpAny_seqItems ho rfl ?_)
    show wpAny _ A.in1 (tryCatch (pyNext (.ref a)) _ >>= _) _ _ s
    refine wpAny_bind (wpAny_tryCatch (gen_next hh hroom hl ha hr h SP.upd fun s' hG hfin => ?_))
    obtain ⟨g2, m2, hg2, H2⟩ := hG
    obtain ⟨o2, ho2, c2, hP2⟩ := H2.get (a := S) (P := SP gtN zs []) (by simp)
    rw [e0, if_neg hz] at hP2
    obtain ⟨t2, rfl⟩ := hP2
    show wpAny _ A.in1 (updateSeq S (fun _ => #[]) >>= _) _ _ _
    refine wpAny_bind (wpAny_updateSeq ho2 rfl (wpAny_bind (wpAny_letGo (wpAny_pure ?_))))
    refine hR t _ ⟨⟨g2, m2, hg2, ?_⟩, _, hfin, rfl⟩
    have K := H2.put (pre := []) (P' := fun _ => True) (Heap.SameBut.update s'.heap S (fun o => o.mapSeq fun _ => #[])) (Heap.get?_update_self _ ho2 rfl) trivial s'.toks
    exact K.drop
  | cons b r ih =>
    intro s h hR
    have h0 := h
    obtain ⟨_, _, _, _, _, hsuf, ⟨g1, m1, hg1, H1⟩, _⟩ := h0
    obtain ⟨o, ho, c, hP⟩ := H1.get (a := S) (P := SP gtN zs (b :: r)) (by simp)
    have e1 := take_suffix hsuf
    refine codeAny_builtin PySem.F.entry_max_loop ?_
    rw [Around.under_plainId PySem.F.plain_max_loop _]
    show wpAny _ A.in1 (seqItems? (.ref S) >>= _) _ _ s
    by_cases hp : zs.take (zs.length - (b :: r).length) = []
    · rw [if_pos hp] at hP
      subst hP
      refine wpAny_bind (wpAny_seqItems ho rfl ?_)
      show wpAny _ A.in1 (tryCatch (pyNext (.ref a)) _ >>= _) _ _ s
      refine wpAny_bind (wpAny_tryCatch (gen_next hh hroom hl ha hr h SP.upd fun v s' hv hG => ?_))
      obtain ⟨t, rfl⟩ := hv
      obtain ⟨gs, rest, q1, q2, q3, q4, ⟨g2, m2, hg2, H2⟩, q6⟩ := hG
      obtain ⟨o2, ho2, c2, hP2⟩ := H2.get (a := S) (P := SP gtN zs (b :: r)) (by simp)
      rw [if_pos hp] at hP2
      subst hP2
      show wpAny _ A.in1 (updateSeq S (fun _ => #[.int (b : Int) t, .int (b : Int) t]) >>= _) _ _ _
      refine wpAny_bind (wpAny_updateSeq ho2 rfl ?_)
      rw [hname]
      refine wpAny_pure ⟨plainId_quiet PySem.F.plain_max_loop _, ih _ ⟨gs, rest, q1, q2, q3, q4, ⟨g2, m2, hg2, ?_⟩, q6⟩ hR⟩
      refine H2.put (pre := [(I, St rest)]) (P' := SP gtN zs r) (Heap.SameBut.update s'.heap S (fun o => o.mapSeq fun _ => #[.int (b : Int) t, .int (b : Int) t])) (Heap.get?_update_self _ ho2 rfl) ?_ s'.toks
      exact SP.mk (n := b) (by rw [e1]; simp) (by rw [e1, hp]; rfl) _ t
    · rw [if_neg hp] at hP
      obtain ⟨t0, rfl⟩ := hP
      refine wpAny_bind (wpAny_seqItems ho rfl ?_)
      show wpAny _ A.in1 (tryCatch (pyNext (.ref a)) _ >>= _) _ _ s
      refine wpAny_bind (wpAny_tryCatch (gen_next hh hroom hl ha hr h SP.upd fun v s' hv hG => ?_))
      obtain ⟨t, rfl⟩ := hv
      obtain ⟨gs, rest, q1, q2, q3, q4, ⟨g2, m2, hg2, H2⟩, q6⟩ := hG
      obtain ⟨o2, ho2, c2, hP2⟩ := H2.get (a := S) (P := SP gtN zs (b :: r)) (by simp)
      rw [if_neg hp] at hP2
      obtain ⟨t2, rfl⟩ := hP2
      have hne : zs.take (zs.length - r.length) ≠ [] := by rw [e1]; simp
      have hb := bestOf_snoc gtN (zs.take (zs.length - (b :: r).length)) b hp
      rw [← e1] at hb
      show wpAny _ A.in1 (tryCatch (holding [.int (b : Int) t, .int (b : Int) t] (richCompare .Gt (.int (b : Int) t) (.int (bestOf gtN (zs.take (zs.length - (b :: r).length)) : Nat) t0) >>= _)) _ >>= _) _ _ _
      refine wpAny_bind (wpAny_tryCatch (wpAny_holding (wpAny_bind (show wpAny (model prog w) _ (richCompare .Gt (.int (b : Int) t) (.int (bestOf gtN (zs.take (zs.length - (b :: r).length)) : Nat) t0)) _ _ _ from P.gt_int ?_))))
      refine wpAny_bind (wpAny_holding (wpAny_truthy_bool ?_))
      refine wpAny_bind (wpAny_letGo (wpAny_pure ?_))
      cases hc : gtN b (bestOf gtN (zs.take (zs.length - (b :: r).length))) with
      | true =>
        have hd : decide ((b : Int) > (bestOf gtN (zs.take (zs.length - (b :: r).length)) : Nat)) = true := by simp only [gtN, decide_eq_true_eq] at hc ⊢; omega
        rw [hd]
        rw [hc, if_pos rfl] at hb
        simp only [if_true]
        refine wpAny_bind (wpAny_updateSeq ho2 rfl (wpAny_bind (wpAny_letGo ?_)))
        rw [hname]
        refine wpAny_pure ⟨plainId_quiet PySem.F.plain_max_loop _, ih _ ⟨gs, rest, q1, q2, q3, q4, ⟨g2, m2, hg2, ?_⟩, q6⟩ hR⟩
        refine H2.put (pre := [(I, St rest)]) (P' := SP gtN zs r) (Heap.SameBut.update s'.heap S (fun o => o.mapSeq fun _ => #[.int (b : Int) t, .int (b : Int) t])) (Heap.get?_update_self _ ho2 rfl) ?_ s'.toks
        exact SP.mk (n := b) hne hb _ t
      | false =>
        have hd : decide ((b : Int) > (bestOf gtN (zs.take (zs.length - (b :: r).length)) : Nat)) = false := by simp only [gtN, decide_eq_false_iff_not] at hc ⊢; omega
        rw [hd]
        rw [hc, if_neg Bool.false_ne_true] at hb
        simp only [Bool.false_eq_true, if_false]
        refine wpAny_bind (wpAny_letGo ?_)
        rw [hname]
        refine wpAny_pure ⟨plainId_quiet PySem.F.plain_max_loop _, ih _ ⟨gs, rest, q1, q2, q3, q4, ⟨g2, m2, hg2, ?_⟩, q6⟩ hR⟩
        refine H2.weak (pre := [(I, St rest)]) fun o' hP' => ?_
        obtain ⟨c3, hP'⟩ := hP'
        rw [if_neg hp] at hP'
        obtain ⟨t3, rfl⟩ := hP'
        exact ⟨c3, by rw [if_neg hne, hb]; exact ⟨t3, rfl⟩⟩

theorem Pack.max {R : Value → α → Prop} {elt iter : PySem.Expr} {xn : Str} {px : Pos} {ifs : List PySem.Expr} {scope : Scope} {pos : Pos} {cenv : Env} {g₂ : Heap} {xs : List α} {led₁ : Led} {m₂ : Str → Option Value} {sb : Shared} {C a : Addr} {gi d u : Nat} {f : α → Option Nat} {Q : Value → Shared → Prop}
    (p : Pack F g₂ I St xs led₁ m₂ (.compStart (.GeneratorExp elt [⟨.Name xn px, iter, ifs, 0⟩] scope pos) 0 (.ref I) .none cenv) sb C a gi g' s) (r : Room A (d + 1) (u + 5)) (k : KB w mg mb g₂) (S : Src prog w g₂ R I St) (hz : xs.filterMap f ≠ [])
    (step : ∀ led₀, GStep prog w d u ⟨sb, g₂, ((I, St xs) :: led₁).map (·.1), C⟩ g' I St R f RbN xn ifs elt cenv (led₀ :: led₁))
    (hQ : ∀ g'' t s', Sub g' g'' → In F g'' led₁ m₂ s' → Q (.int (bestOf gtN (xs.filterMap f) : Nat) t) s')
    (hx : cenv.kindOf xn = some .local := by kernel_rfl) (hk : cenv.scope.kind = .function := by rfl) (hL : cenv.locals = C := by rfl) (hco : cenv.scope.isCoroutine = false := by rfl) :
    wpAny (model prog w) A (call (.builtin "max") [.ref a]) Q E s := by
  have hname : (toString "max" ++ toString ".loop" : String) = "max.loop" := by decide
  have r2 : Room A.in1.in1 (d + 1) (u + 3) := (Room.in1 (u := u + 4) r).in1
  obtain ⟨m', H⟩ := p.H
  refine call_function_tree PySem.F.kind_max PySem.F.plain_max PySem.F.entry_max (PySem.F.args_max1 _) ?_
  show wpAny _ A.in1 (Builtin.Builtins.bindParams "max" ["key", "default"] 0 ⟨[], []⟩ >>= _) _ _ s
  refine wpAny_bind (wpAny_of_eq (show Builtin.Builtins.bindParams "max" ["key", "default"] 0 ⟨[], []⟩ = pure [none, none] from rfl) ?_)
  refine wpAny_bind (wpAny_pure ?_)
  refine wpAny_bind (wpAny_pyIter_gen (p.gen.keeps H.into) ?_)
  refine wpAny_bind (wpAny_newObj_type ?_)
  rw [hname]
  have H2 := H.new { cls := .type "list", dict := none, data := .seq #[], slots := #[] } rfl (SP gtN (xs.filterMap f) (xs.filterMap f)) ⟨0, by rw [if_pos (by simp)]⟩
  refine wpAny_pure ⟨plainId_quiet PySem.F.plain_max_loop _, max_loop r.hh r.lt (k.lim.keeps p.sub) p.gen p.run hz _ _ (p.ok (led₀ := fun bs => (s.heap.objs.size, SP gtN (xs.filterMap f) bs) :: led₁) r2 S (fun bs => step _) ⟨g', m', .refl _, ?_⟩ rfl hx hk hL hco) fun t s' hd => ?_⟩
  · exact H2.perm (List.Perm.swap ..)
  · obtain ⟨g'', h1, h2⟩ := p.out hd
    exact hQ g'' t s' h1 h2

theorem min_loop {a S : Addr} {gi : Nat} {R : Result → Shared → Prop} (hh : A.handled = none) (hroom : A.depth < recursionLimit) (hl : g0.NoLimit) (ha : g0.IsGen a gi) (hr : F.s0.gens[gi]? = some .running) {zs : List Nat} {led1 : Led}
    {f : α → Option Nat} (hz : zs ≠ []) : ∀ (bs : List Nat) (s : Shared), GenOK prog w A.in1.in1 F g0 I St f RbN zs (fun bs => (S, SP ltN zs bs) :: led1) gi bs s →
      (∀ t s', GDone F g0 I led1 gi s' → R (.ok (.ret (.int (bestOf ltN zs : Nat) t))) s') → codeAny (model prog w) A (.builtin "min.loop" ⟨[.ref a, .none, .ref S], []⟩) R s := by
  have hname : (toString "min" ++ toString ".loop" : String) = "min.loop" := by decide
  intro bs
  induction bs with
  | nil =>
    intro s h hR
    have h0 := h
    obtain ⟨_, _, _, _, _, _, ⟨g1, m1, hg1, H1⟩, _⟩ := h0
    obtain ⟨o, ho, c, hP⟩ := H1.get (a := S) (P := SP ltN zs []) (by simp)
    have e0 : zs.take (zs.length - ([] : List Nat).length) = zs := by simp
    rw [e0, if_neg hz] at hP
    obtain ⟨t, rfl⟩ := hP
    refine codeAny_builtin PySem.F.entry_min_loop ?_
    rw [Around.under_plainId PySem.F.plain_min_loop _]
    show wpAny _ A.in1 (seqItems? (.ref S) >>= _) _ _ s
    refine wpAny_bind (wpAny_seqItems ho rfl ?_)
    show wpAny _ A.in1 (tryCatch (pyNext (.ref a)) _ >>= _) _ _ s
    refine wpAny_bind (wpAny_tryCatch (gen_next hh hroom hl ha hr h SP.upd fun s' hG hfin => ?_))
    obtain ⟨g2, m2, hg2, H2⟩ := hG
    obtain ⟨o2, ho2, c2, hP2⟩ := H2.get (a := S) (P := SP ltN zs []) (by simp)
    rw [e0, if_neg hz] at hP2
    obtain ⟨t2, rfl⟩ := hP2
    show wpAny _ A.in1 (updateSeq S (fun _ => #[]) >>= _) _ _ _
    refine wpAny_bind (wpAny_updateSeq ho2 rfl (wpAny_bind (wpAny_letGo (wpAny_pure ?_))))
    refine hR t _ ⟨⟨g2, m2, hg2, ?_⟩, _, hfin, rfl⟩
    have K := H2.put (pre := []) (P' := fun _ => True) (Heap.SameBut.update s'.heap S (fun o => o.mapSeq fun _ => #[])) (Heap.get?_update_self _ ho2 rfl) trivial s'.toks
    exact K.drop
  | cons b r ih =>
    intro s h hR
    have h0 := h
    obtain ⟨_, _, _, _, _, hsuf, ⟨g1, m1, hg1, H1⟩, _⟩ := h0
    obtain ⟨o, ho, c, hP⟩ := H1.get (a := S) (P := SP ltN zs (b :: r)) (by simp)
    have e1 := take_suffix hsuf
    refine codeAny_builtin PySem.F.entry_min_loop ?_
    rw [Around.under_plainId PySem.F.plain_min_loop _]
    show wpAny _ A.in1 (seqItems? (.ref S) >>= _) _ _ s
    by_cases hp : zs.take (zs.length - (b :: r).length) = []
    · rw [if_pos hp] at hP
      subst hP
      refine wpAny_bind (wpAny_seqItems ho rfl ?_)
      show wpAny _ A.in1 (tryCatch (pyNext (.ref a)) _ >>= _) _ _ s
      refine wpAny_bind (wpAny_tryCatch (gen_next hh hroom hl ha hr h SP.upd fun v s' hv hG => ?_))
      obtain ⟨t, rfl⟩ := hv
      obtain ⟨gs, rest, q1, q2, q3, q4, ⟨g2, m2, hg2, H2⟩, q6⟩ := hG
      obtain ⟨o2, ho2, c2, hP2⟩ := H2.get (a := S) (P := SP ltN zs (b :: r)) (by simp)
      rw [if_pos hp] at hP2
      subst hP2
      show wpAny _ A.in1 (updateSeq S (fun _ => #[.int (b : Int) t, .int (b : Int) t]) >>= _) _ _ _
      refine wpAny_bind (wpAny_updateSeq ho2 rfl ?_)
      rw [hname]
      refine wpAny_pure ⟨plainId_quiet PySem.F.plain_min_loop _, ih _ ⟨gs, rest, q1, q2, q3, q4, ⟨g2, m2, hg2, ?_⟩, q6⟩ hR⟩
      refine H2.put (pre := [(I, St rest)]) (P' := SP ltN zs r) (Heap.SameBut.update s'.heap S (fun o => o.mapSeq fun _ => #[.int (b : Int) t, .int (b : Int) t])) (Heap.get?_update_self _ ho2 rfl) ?_ s'.toks
      exact SP.mk (n := b) (by rw [e1]; simp) (by rw [e1, hp]; rfl) _ t
    · rw [if_neg hp] at hP
      obtain ⟨t0, rfl⟩ := hP
      refine wpAny_bind (wpAny_seqItems ho rfl ?_)
      show wpAny _ A.in1 (tryCatch (pyNext (.ref a)) _ >>= _) _ _ s
      refine wpAny_bind (wpAny_tryCatch (gen_next hh hroom hl ha hr h SP.upd fun v s' hv hG => ?_))
      obtain ⟨t, rfl⟩ := hv
      obtain ⟨gs, rest, q1, q2, q3, q4, ⟨g2, m2, hg2, H2⟩, q6⟩ := hG
      obtain ⟨o2, ho2, c2, hP2⟩ := H2.get (a := S) (P := SP ltN zs (b :: r)) (by simp)
      rw [if_neg hp] at hP2
      obtain ⟨t2, rfl⟩ := hP2
      have hne : zs.take (zs.length - r.length) ≠ [] := by rw [e1]; simp
      have hb := bestOf_snoc ltN (zs.take (zs.length - (b :: r).length)) b hp
      rw [← e1] at hb
      show wpAny _ A.in1 (tryCatch (holding [.int (b : Int) t, .int (b : Int) t] (richCompare .Lt (.int (b : Int) t) (.int (bestOf ltN (zs.take (zs.length - (b :: r).length)) : Nat) t0) >>= _)) _ >>= _) _ _ _
      refine wpAny_bind (wpAny_tryCatch (wpAny_holding (wpAny_bind (show wpAny (model prog w) _ (richCompare .Lt (.int (b : Int) t) (.int (bestOf ltN (zs.take (zs.length - (b :: r).length)) : Nat) t0)) _ _ _ from P.lt_int ?_))))
      refine wpAny_bind (wpAny_holding (wpAny_truthy_bool ?_))
      refine wpAny_bind (wpAny_letGo (wpAny_pure ?_))
      cases hc : ltN b (bestOf ltN (zs.take (zs.length - (b :: r).length))) with
      | true =>
        have hd : decide ((b : Int) < (bestOf ltN (zs.take (zs.length - (b :: r).length)) : Nat)) = true := by simp only [ltN, decide_eq_true_eq] at hc ⊢; omega
        rw [hd]
        rw [hc, if_pos rfl] at hb
        simp only [if_true]
        refine wpAny_bind (wpAny_updateSeq ho2 rfl (wpAny_bind (wpAny_letGo ?_)))
        rw [hname]
        refine wpAny_pure ⟨plainId_quiet PySem.F.plain_min_loop _, ih _ ⟨gs, rest, q1, q2, q3, q4, ⟨g2, m2, hg2, ?_⟩, q6⟩ hR⟩
        refine H2.put (pre := [(I, St rest)]) (P' := SP ltN zs r) (Heap.SameBut.update s'.heap S (fun o => o.mapSeq fun _ => #[.int (b : Int) t, .int (b : Int) t])) (Heap.get?_update_self _ ho2 rfl) ?_ s'.toks
        exact SP.mk (n := b) hne hb _ t
      | false =>
        have hd : decide ((b : Int) < (bestOf ltN (zs.take (zs.length - (b :: r).length)) : Nat)) = false := by simp only [ltN, decide_eq_false_iff_not] at hc ⊢; omega
        rw [hd]
        rw [hc, if_neg Bool.false_ne_true] at hb
        simp only [Bool.false_eq_true, if_false]
        refine wpAny_bind (wpAny_letGo ?_)
        rw [hname]
        refine wpAny_pure ⟨plainId_quiet PySem.F.plain_min_loop _, ih _ ⟨gs, rest, q1, q2, q3, q4, ⟨g2, m2, hg2, ?_⟩, q6⟩ hR⟩
        refine H2.weak (pre := [(I, St rest)]) fun o' hP' => ?_
        obtain ⟨c3, hP'⟩ := hP'
        rw [if_neg hp] at hP'
        obtain ⟨t3, rfl⟩ := hP'
        exact ⟨c3, by rw [if_neg hne, hb]; exact ⟨t3, rfl⟩⟩

theorem Pack.min {R : Value → α → Prop} {elt iter : PySem.Expr} {xn : Str} {px : Pos} {ifs : List PySem.Expr} {scope : Scope} {pos : Pos} {cenv : Env} {g₂ : Heap} {xs : List α} {led₁ : Led} {m₂ : Str → Option Value} {sb : Shared} {C a : Addr} {gi d u : Nat} {f : α → Option Nat} {Q : Value → Shared → Prop}
    (p : Pack F g₂ I St xs led₁ m₂ (.compStart (.GeneratorExp elt [⟨.Name xn px, iter, ifs, 0⟩] scope pos) 0 (.ref I) .none cenv) sb C a gi g' s) (r : Room A (d + 1) (u + 5)) (k : KB w mg mb g₂) (S : Src prog w g₂ R I St) (hz : xs.filterMap f ≠ [])
    (step : ∀ led₀, GStep prog w d u ⟨sb, g₂, ((I, St xs) :: led₁).map (·.1), C⟩ g' I St R f RbN xn ifs elt cenv (led₀ :: led₁))
    (hQ : ∀ g'' t s', Sub g' g'' → In F g'' led₁ m₂ s' → Q (.int (bestOf ltN (xs.filterMap f) : Nat) t) s')
    (hx : cenv.kindOf xn = some .local := by kernel_rfl) (hk : cenv.scope.kind = .function := by rfl) (hL : cenv.locals = C := by rfl) (hco : cenv.scope.isCoroutine = false := by rfl) :
    wpAny (model prog w) A (call (.builtin "min") [.ref a]) Q E s := by
  have hname : (toString "min" ++ toString ".loop" : String) = "min.loop" := by decide
  have r2 : Room A.in1.in1 (d + 1) (u + 3) := (Room.in1 (u := u + 4) r).in1
  obtain ⟨m', H⟩ := p.H
  refine call_function_tree PySem.F.kind_min PySem.F.plain_min PySem.F.entry_min (PySem.F.args_min1 _) ?_
  show wpAny _ A.in1 (Builtin.Builtins.bindParams "min" ["key", "default"] 0 ⟨[], []⟩ >>= _) _ _ s
  refine wpAny_bind (wpAny_of_eq (show Builtin.Builtins.bindParams "min" ["key", "default"] 0 ⟨[], []⟩ = pure [none, none] from rfl) ?_)
  refine wpAny_bind (wpAny_pure ?_)
  refine wpAny_bind (wpAny_pyIter_gen (p.gen.keeps H.into) ?_)
  refine wpAny_bind (wpAny_newObj_type ?_)
  rw [hname]
  have H2 := H.new { cls := .type "list", dict := none, data := .seq #[], slots := #[] } rfl (SP ltN (xs.filterMap f) (xs.filterMap f)) ⟨0, by rw [if_pos (by simp)]⟩
  refine wpAny_pure ⟨plainId_quiet PySem.F.plain_min_loop _, min_loop r.hh r.lt (k.lim.keeps p.sub) p.gen p.run hz _ _ (p.ok (led₀ := fun bs => (s.heap.objs.size, SP ltN (xs.filterMap f) bs) :: led₁) r2 S (fun bs => step _) ⟨g', m', .refl _, ?_⟩ rfl hx hk hL hco) fun t s' hd => ?_⟩
  · exact H2.perm (List.Perm.swap ..)
  · obtain ⟨g'', h1, h2⟩ := p.out hd
    exact hQ g'' t s' h1 h2
end
end Mine
end

section
open PySem PySem.W PySem.Calls PyProof.Rows
set_option maxRecDepth 100000
namespace Mine
theorem fillK8 (P : Params) : hd.heap_39 P = hd.heap_39 P → PySem.Challenge.rw_bn0044_01 = PySem.Challenge.rw_bn0044_01 := by
  k_fill
  exact fun _ => rfl

section
variable {prog : Program} {w : World} {mg mb : Str → Option Value} {A : Around} {E : Value → Shared → Prop} {s s' : Shared} {F : Fx} {g g' : Heap} {led : Led} {m : Str → Option Value} {env : Env}

theorem M_nonlex (P : Params) : Meth P 155 "is_nonlexical" 133 := ⟨by kernel_rfl, by kernel_rfl, by kernel_rfl⟩
theorem M_lex (P : Params) : Meth P 155 "is_lexical" 140 := ⟨by kernel_rfl, by kernel_rfl, by kernel_rfl⟩
theorem g_len : bootBuiltins "len" = some (.builtin "len") := by kernel_rfl
theorem n_len (P : Params) : nsIn (hd.heap_39 P) mainGlobals "len" = some none := by kernel_rfl
theorem f155_len (P : Params) : findIn (hd.heap_39 P) (.ref 155) "__len__" = some (some (.ref 126)) := by kernel_rfl
theorem i126 (P : Params) : isFn (hd.heap_39 P) (.ref 126) = true := by kernel_rfl

theorem lenT {T : Addr} {vs : List Value} {Q : Value → Shared → Prop} (H : In F g led m s) (ht : IsTup g T vs.toArray) (hz : vs.length ≤ 1000) (h : ∀ t s', In F g led m s' → Q (.int vs.length t) s') : wpAny (model prog w) A (call (.builtin "len") [.ref T]) Q E s :=
  len_tuple (isTup_mono ht H.into) (by rw [List.size_toArray]; omega) (h (s.toks + 1) _ (H.toks _))
theorem lenL {l : Addr} {vs : List Value} {Q : Value → Shared → Prop} (H : In F g led m s) (ht : g.IsList l vs.toArray) (hz : vs.length ≤ 1000) (h : ∀ t s', In F g led m s' → Q (.int vs.length t) s') : wpAny (model prog w) A (call (.builtin "len") [.ref l]) Q E s :=
  Calls.call_len_list (isList_mono ht H.into) (by rw [List.size_toArray]; omega) (h (s.toks + 1) _ (H.toks _))

theorem len126 {x T : Addr} {lv : Value} {vs : List Value} {Q : Value → Shared → Prop} (r : Room A 2 20) (k : KB w mg mb g) (hs : Sub g s.heap) (hI : Inst g x 155 (prodF lv T)) (ht : IsTup g T vs.toArray) (hz : vs.length ≤ 1000)
    (h : ∀ t s' g', Rel [] s g s' g' → Q (.int vs.length t) s') : wpAny (model prog w) A (call (.ref 126) [.ref x]) Q E s := by
  refine enter0 [("self", .ref x)] k hs r.lt ?_; intro L s H
  exact ex_ret (Call_ (nmB H k g_len (e := n_len _) (callB (a1 (Attribute_any_ (nm H rfl (attr H k (c155 _) hI (a155_rhs _) rfl rfl fun s H => lenT H ht hz fun t s H => h t _ _ H.rel)))))))

/-- len(p) of a production -/
theorem lenP {x T : Addr} {lv : Value} {vs : List Value} {Q : Value → Shared → Prop} (r : Room A 2 21) (H : In F g led m s) (k : KB w mg mb g) (hI : Inst g x 155 (prodF lv T)) (ht : IsTup g T vs.toArray) (hz : vs.length ≤ 1000)
    (h : ∀ t g' s', Sub g g' → In F g' led m s' → Q (.int vs.length t) s') : wpAny (model prog w) A (call (.builtin "len") [.ref x]) Q E s := by
  obtain ⟨dx, _, o, I, _⟩ := (hI.mono H.into).at
  refine Calls.call_function_entry kind_len plain_len entry_len (args_len1 _) ?_
  unfold Builtin.«len»
  refine wpAny_bind (m := oneArg "len" _) (wpAny_pure ?_)
  refine wpAny_bind (m := callSpecial? (.ref x) (Str.ofString "__len__")) (special_fn (H.K k) I (f155_len _) (beq_iff_eq.mp (i126 _)) ?_)
  refine len126 (Room.in1 (d := 2) (u := 20) r) k H.into hI ht hz fun t s' g' R => ?_
  refine wpAny_bind (wpAny_holding (wpAny_pure ?_))
  refine wpAny_bind (wpAny_letGo ?_)
  show wpAny _ _ (if ((vs.length : Nat) : Int) < 0 then _ else _) _ _ _
  rw [if_neg (by omega)]
  show wpAny _ _ (if ((vs.length : Nat) : Int) ≥ 2 ^ 63 then _ else _) _ _ _
  rw [if_neg (by omega)]
  exact wpAny_bind (wpAny_mkInt (wpAny_pure ⟨_, rfl, h _ g' _ R.sub ((H.call0 R).toks _)⟩))

theorem lex_spec {x T : Addr} {lv : Value} {vs : List Value} {is : List It} {Q : Value → Shared → Prop} (r : Room A 7 70) (k : KB w mg mb g) (hs : Sub g s.heap) (t : Tab g 128 s) (hI : Inst g x 155 (prodF lv T)) (ht : IsTup g T vs.toArray) (hv : ItemsAt g vs is)
    (h : ∀ s' g', Rel [128] s g s' g' → Tab g' 128 s' → Q (.bool (!is.all (!·.t))) s') : wpAny (model prog w) A (call (.ref 140) [.ref x]) Q E s := by
  refine enterL [("self", .ref x)] (led := [(128, TabP)]) k hs r.lt t.ent (by simp) ?_
  intro L s H
  refine ex_ret (UnaryOp_ (MethodCall_ (nm H rfl (meth H k (c155 _) hI (M_nonlex _) rfl (callW0 (H.K k) (M_nonlex _).k ?_)))))
  refine nonlex_spec ((Room.deeper (d := 6) (u := 67) r).le (by decide) (by decide)) k H.into (H.tab (pre := [])) hI ht hv fun s' g' R t' => ?_
  have H := H.callT R (by simp) (fun p hp _ => by cases List.mem_singleton.mp hp; exact t'.1)
  exact not_of (tr_b (h _ _ H.rel (H.tab (pre := []))))
end
end Mine
end

section
open PySem PySem.W PySem.Calls PyProof.Rows
set_option maxRecDepth 100000
namespace Mine
theorem fillK9 (P : Params) : hd.heap_39 P = hd.heap_39 P → PySem.Challenge.rw_bn0044_01 = PySem.Challenge.rw_bn0044_01 := by
  k_fill
  exact fun _ => rfl

section
variable {prog : Program} {w : World} {mg mb : Str → Option Value} {A : Around} {E : Value → Shared → Prop} {s s' : Shared} {F : Fx} {g g' : Heap} {led : Led} {m : Str → Option Value} {env : Env}

theorem attrD {pre post : Led} {x dx C : Addr} {n : Nat} {f : Str → Option Value} {name : Str} {v : Value} {expr : Bool} {Q : Value → Shared → Prop} (H : In F g (pre ++ (dx, NsO n f) :: post) m s) (k : KB w mg mb g) (c : Cls w.params C) (hx : g.get? x = some (instObj C dx))
    (ha : findIn (hd.heap_39 w.params) (.ref C) name = some none) (hl : f name = some v) (hv : handedIn v = true) (h : ∀ s', In F g (pre ++ (dx, NsO n f) :: post) m s' → Q v s') : wpAny (model prog w) A (getAttr (.ref x) name expr) Q E s := by
  obtain ⟨o, ho, no⟩ := H.get (a := dx) (P := NsO n f) (by simp)
  exact attrH H k ⟨dx, H.into _ _ hx, n, o, ho, no⟩ hl hv h ha c.pg c.dc

def lexP (p : Row2) : Bool := !p.2.all (!·.t)
def nonP (p : Row2) : Bool := p.2.all (!·.t)
def formF (f : Str → Option Value) (ps : List Row2) (t1 t2 : Tok) : Str → Option Value :=
  fun y => if y = "_all_unary_are_lexical" then some (.bool ((ps.filterMap fun p => if p.2.length = 1 then some (lexP p) else none).all id)) else
    if y = "_max_len" then some (.int (bestOf gtN (ps.map fun p => p.2.length) : Nat) t2) else if y = "_min_len" then some (.int (bestOf ltN (ps.map fun p => p.2.length) : Nat) t1) else
    if y = "_is_nonlexical" then some (.bool ((ps.filterMap fun p => if p.2.length ≠ 1 then some (nonP p) else none).all id)) else if y = "_is_lexical" then some (.bool ((ps.filterMap fun p => some (lexP p)).all id)) else f y

theorem a334_productions (P : Params) : findIn (hd.heap_39 P) (.ref 334) "_productions" = some none := by kernel_rfl
theorem g_min : bootBuiltins "min" = some (.builtin "min") := by kernel_rfl
theorem n_min (P : Params) : nsIn (hd.heap_39 P) mainGlobals "min" = some none := by kernel_rfl
theorem g_max : bootBuiltins "max" = some (.builtin "max") := by kernel_rfl
theorem n_max (P : Params) : nsIn (hd.heap_39 P) mainGlobals "max" = some none := by kernel_rfl

/-- the frame's ledger in _calculate_grammar_forms -/
abbrev ledF (dx : Addr) (n : Nat) (f : Str → Option Value) : Led := [(220, TabP), (128, TabP), (dx, NsO n f)]

theorem led_inj (l : Led) (nd : (l.map (·.1)).Nodup) : ∀ a ∈ l, ∀ b ∈ l, a.1 = b.1 → a = b := by
  induction l with
  | nil => intro a ha; cases ha
  | cons c l ih =>
    rw [List.map_cons, List.nodup_cons] at nd
    intro a ha b hb e
    rcases List.mem_cons.mp ha with h1 | h1
    · rcases List.mem_cons.mp hb with h2 | h2
      · rw [h1, h2]
      · exact absurd (List.mem_map.mpr ⟨b, h2, by rw [← e, h1]⟩) nd.1
    · rcases List.mem_cons.mp hb with h2 | h2
      · exact absurd (List.mem_map.mpr ⟨a, h1, by rw [e, h2]⟩) nd.1
      · exact ih nd.2 a h1 b h2 e
theorem In.callTab {P : Addr} (H : In F g led m s) (R : Rel [P] s g s' g') (hm : (P, TabP) ∈ led) (t : Tab g' P s') : In F g' led m s' :=
  H.callT R (fun a ha => by cases List.mem_singleton.mp ha; exact List.mem_map_of_mem hm) fun q hq hmu => by
    have := led_inj led H.nodup q hq _ hm (List.mem_singleton.mp hmu)
    subst this
    exact t.1
theorem In.tabM {P : Addr} (H : In F g led m s) (hm : (P, TabP) ∈ led) : Tab g P s := ⟨H.get hm, H.ne hm⟩

theorem All2.andR {α β : Type} {R : α → β → Prop} {P : β → Prop} {l : List α} {m : List β} (h : All2 R l m) (hp : ∀ b ∈ m, P b) : All2 (fun a b => R a b ∧ P b) l m := by
  induction h with
  | nil => exact .nil
  | cons x _ ih => exact .cons ⟨x, hp _ (.head _)⟩ (ih fun b hb => hp b (.tail _ hb))
theorem lexG {g0 : Heap} {x T : Addr} {lv : Value} {vs : List Value} {p : Row2} {Q : Value → Shared → Prop} (r : Room A 7 70) (k : KB w mg mb g0) (S : Sub g0 g) (hI : Inst g0 x 155 (prodF lv T)) (ht : IsTup g0 T vs.toArray) (hv : ItemsAt g0 vs p.2) (H : In F g led m s) (hm : (128, TabP) ∈ led)
    (hQ : ∀ s' g', Sub g g' → In F g' led m s' → Q (.bool (lexP p)) s') : wpAny (model prog w) A (call (.ref 140) [.ref x]) Q E s :=
  lex_spec r (k.mono S) H.into (H.tabM hm) (hI.mono S) (isTup_mono ht S) (hv.mono S) fun s' g' R t' => hQ s' g' R.sub (H.callTab R hm t')
theorem nonG {g0 : Heap} {x T : Addr} {lv : Value} {vs : List Value} {p : Row2} {Q : Value → Shared → Prop} (r : Room A 7 70) (k : KB w mg mb g0) (S : Sub g0 g) (hI : Inst g0 x 155 (prodF lv T)) (ht : IsTup g0 T vs.toArray) (hv : ItemsAt g0 vs p.2) (H : In F g led m s) (hm : (128, TabP) ∈ led)
    (hQ : ∀ s' g', Sub g g' → In F g' led m s' → Q (.bool (nonP p)) s') : wpAny (model prog w) A (call (.ref 133) [.ref x]) Q E s :=
  nonlex_spec (r.le (by decide) (by decide)) (k.mono S) H.into (H.tabM hm) (hI.mono S) (isTup_mono ht S) (hv.mono S) fun s' g' R t' => hQ s' g' R.sub (H.callTab R hm t')

theorem filterMap_some' (ps : List Row2) : (ps.filterMap fun p => some p.2.length) = ps.map fun p => p.2.length := by rw [List.filterMap_eq_map']
set_option maxHeartbeats 4000000 in
/-- self._calculate_grammar_forms() -/
theorem forms_spec {x dx : Addr} {n : Nat} {f : Str → Option Value} {pv : Value} {ps : List Row2} {Q : Value → Shared → Prop} (r : Room A 9 80) (k : KB w mg mb g) (hs : Sub g s.heap) (hx : g.get? x = some (instObj 334 dx)) (hfp : f "_productions" = some pv) (hp : Lst ProdAt g pv ps)
    (hne : ps ≠ []) (hz : ∀ p ∈ ps, p.2.length ≤ 1000) (hn : n ≤ 900)
    (hl : ∀ q ∈ ledF dx n f, (∃ o, s.heap.get? q.1 = some o ∧ q.2 o) ∧ g.get? q.1 = none) (hnd : ((ledF dx n f).map (·.1)).Nodup)
    (h : ∀ t1 t2 s' g', Rel [220, 128, dx] s g s' g' → (∀ q ∈ ledF dx (n + 5) (formF f ps t1 t2), (∃ o, s'.heap.get? q.1 = some o ∧ q.2 o) ∧ g'.get? q.1 = none) → Q .none s') :
    wpAny (model prog w) A (call (.ref 225) [.ref x]) Q E s := by
  obtain ⟨l, vs, rfl, hl1, ha⟩ := hp
  refine enterL [("self", .ref x)] (led := ledF dx n f) k hs r.lt hl hnd ?_
  intro L s H
  have rr : ∀ e, Room (A.deeper e) 8 77 := fun e => r.deeper
  refine ex_set (Attribute_any_ (nm H rfl (attrD (pre := [(220, TabP), (128, TabP)]) H k (c334 _) hx (a334_productions _) hfp rfl fun s H => st H fun s H => ?_)))
  have k0 := k
  have S0 : Sub g g := .refl _
  have ha2 := ha.andR hz
  refine ex_setA (Call_ (nmB H k g_all (e := n_all _) (callB (a1 ?_))))
  refine genMake (cl := []) (c := 224) (P := 220) (α := Row2) (mg := mg) (mb := mb) H (rr _).lt rfl rfl rfl (nm H rfl (itListA H (isList_mono hl1 S0) ha2 fun I St s S H => ⟨I, St, ps, _, _, _, rfl, H, k, cd224 k, fun sb C code a gi g1 s1 pk => ?_⟩))
  refine Pack.all (d := 7) (u := 70) pk ((rr _).le (by decide) (by decide)) k S (f := fun p => some (lexP p)) ?_ ?_
  · rintro A' p rest g2 m2 s2 v r' hg ⟨⟨x', lv, T, vs2, rfl, hI, h1, h2, h3⟩, hz2⟩ H hm
    have SS := (S0.trans pk.sub).trans hg
    have k2 := k.mono (pk.sub.trans hg)
    refine tests0 ?_
    rw [if_pos rfl]
    refine MethodCall_ (nm H hm (meth H k2 (c155 _) (hI.mono SS) (M_lex _) rfl (callW0 (H.K k2) (M_lex _).k ?_)))
    exact lexG r' k0 SS hI h2 h3 H (by simp) fun s' g' hs' H => ⟨_, rfl, rfl, g', _, hg.trans hs', H⟩
  intro g2 s2 hs2 H
  have S0 := S0.trans (pk.sub.trans hs2)
  have k := k0.mono S0
  refine nm H rfl (setA (pre := [(220, TabP), (128, TabP)]) H k (c334 _) (H.into _ _ (S0 _ _ hx)) (by kernel_rfl) (fun s H => ?_) (by omega))
  refine ex_setA (Call_ (nmB H k g_all (e := n_all _) (callB (a1 ?_))))
  refine genMake (cl := []) (c := 224) (P := 220) (α := Row2) (mg := mg) (mb := mb) H (rr _).lt rfl rfl rfl (nm H rfl (itListA H (isList_mono hl1 S0) ha2 fun I St s S H => ⟨I, St, ps, _, _, _, rfl, H, k, cd224 k, fun sb C code a gi g1 s1 pk => ?_⟩))
  refine Pack.all (d := 7) (u := 70) pk ((rr _).le (by decide) (by decide)) k S (f := fun p => if p.2.length ≠ 1 then some (nonP p) else none) ?_ ?_
  · rintro A' p rest g2 m2 s2 v r' hg ⟨⟨x', lv, T, vs2, rfl, hI, h1, h2, h3⟩, hz2⟩ H hm
    have SS := (S0.trans pk.sub).trans hg
    have k2 := k.mono (pk.sub.trans hg)
    refine tests1 (tcmp1 (Call_ (nmB H k2 g_len (e := n_len _) (callB (a1 (nm H hm (lenP (r'.le (by decide) (by decide)) H k2 (hI.mono SS) (isTup_mono h2 SS) ?_ fun t g3 s3 hg3 H => cst_i H fun t2 s H => P.ne_int (tr_b ?_))))))))
    · rw [All2.length h3]; exact hz2
    have k2 := k2.mono hg3
    have SS := SS.trans hg3
    have lv2 := All2.length h3
    by_cases hq : p.2.length = 1
    · have e : ((vs2.length : Int) != 1) = false := by simp; omega
      rw [e, if_neg Bool.false_ne_true]
      exact ⟨by simp [hq], g3, _, hg.trans hg3, H⟩
    have e : ((vs2.length : Int) != 1) = true := by simp; omega
    rw [e, if_pos rfl]
    refine MethodCall_ (nm H hm (meth H k2 (c155 _) (hI.mono SS) (M_nonlex _) rfl (callW0 (H.K k2) (M_nonlex _).k ?_)))
    exact nonG r' k0 SS hI h2 h3 H (by simp) fun s' g' hs' H => ⟨_, if_pos hq, rfl, g', _, (hg.trans hg3).trans hs', H⟩
  intro g2 s2 hs2 H
  have S0 := S0.trans (pk.sub.trans hs2)
  have k := k0.mono S0
  refine nm H rfl (setA (pre := [(220, TabP), (128, TabP)]) H k (c334 _) (H.into _ _ (S0 _ _ hx)) (by kernel_rfl) (fun s H => ?_) (by omega))
  refine ex_setA (Call_ (nmB H k g_min (e := n_min _) (callB (a1 ?_))))
  refine genMake (cl := []) (c := 224) (P := 220) (α := Row2) (mg := mg) (mb := mb) H (rr _).lt rfl rfl rfl (nm H rfl (itListA H (isList_mono hl1 S0) ha2 fun I St s S H => ⟨I, St, ps, _, _, _, rfl, H, k, cd224 k, fun sb C code a gi g1 s1 pk => ?_⟩))
  refine Pack.min (d := 7) (u := 70) pk ((rr _).le (by decide) (by decide)) k S (f := fun p => some p.2.length) (by rw [filterMap_some' ps]; simpa using hne) ?_ ?_
  · rintro led₀ A' p rest g2 m2 s2 v r' hg ⟨⟨x', lv, T, vs2, rfl, hI, h1, h2, h3⟩, hz2⟩ H hm
    have SS := (S0.trans pk.sub).trans hg
    have k2 := k.mono (pk.sub.trans hg)
    refine tests0 ?_
    rw [if_pos rfl]
    exact Call_ (nmB H k2 g_len (e := n_len _) (callB (a1 (nm H hm (lenP (r'.le (by decide) (by decide)) H k2 (hI.mono SS) (isTup_mono h2 SS) (by rw [All2.length h3]; exact hz2) fun t g3 s3 hg3 H => ⟨_, rfl, ⟨t, by rw [All2.length h3]⟩, g3, _, hg.trans hg3, H⟩)))))
  intro g2 t1 s2 hs2 H
  have S0 := S0.trans (pk.sub.trans hs2)
  have k := k0.mono S0
  refine nm H rfl (setA (pre := [(220, TabP), (128, TabP)]) H k (c334 _) (H.into _ _ (S0 _ _ hx)) (by kernel_rfl) (fun s H => ?_) (by omega))
  refine ex_setA (Call_ (nmB H k g_max (e := n_max _) (callB (a1 ?_))))
  refine genMake (cl := []) (c := 224) (P := 220) (α := Row2) (mg := mg) (mb := mb) H (rr _).lt rfl rfl rfl (nm H rfl (itListA H (isList_mono hl1 S0) ha2 fun I St s S H => ⟨I, St, ps, _, _, _, rfl, H, k, cd224 k, fun sb C code a gi g1 s1 pk => ?_⟩))
  refine Pack.max (d := 7) (u := 70) pk ((rr _).le (by decide) (by decide)) k S (f := fun p => some p.2.length) (by rw [filterMap_some' ps]; simpa using hne) ?_ ?_
  · rintro led₀ A' p rest g2 m2 s2 v r' hg ⟨⟨x', lv, T, vs2, rfl, hI, h1, h2, h3⟩, hz2⟩ H hm
    have SS := (S0.trans pk.sub).trans hg
    have k2 := k.mono (pk.sub.trans hg)
    refine tests0 ?_
    rw [if_pos rfl]
    exact Call_ (nmB H k2 g_len (e := n_len _) (callB (a1 (nm H hm (lenP (r'.le (by decide) (by decide)) H k2 (hI.mono SS) (isTup_mono h2 SS) (by rw [All2.length h3]; exact hz2) fun t g3 s3 hg3 H => ⟨_, rfl, ⟨t, by rw [All2.length h3]⟩, g3, _, hg.trans hg3, H⟩)))))
  intro g2 t2 s2 hs2 H
  have S0 := S0.trans (pk.sub.trans hs2)
  have k := k0.mono S0
  refine nm H rfl (setA (pre := [(220, TabP), (128, TabP)]) H k (c334 _) (H.into _ _ (S0 _ _ hx)) (by kernel_rfl) (fun s H => ?_) (by omega))
  refine ex_setA (Call_ (nmB H k g_all (e := n_all _) (callB (a1 ?_))))
  refine genMake (cl := []) (c := 224) (P := 220) (α := Row2) (mg := mg) (mb := mb) H (rr _).lt rfl rfl rfl (nm H rfl (itListA H (isList_mono hl1 S0) ha2 fun I St s S H => ⟨I, St, ps, _, _, _, rfl, H, k, cd224 k, fun sb C code a gi g1 s1 pk => ?_⟩))
  refine Pack.all (d := 7) (u := 70) pk ((rr _).le (by decide) (by decide)) k S (f := fun p => if p.2.length = 1 then some (lexP p) else none) ?_ ?_
  · rintro A' p rest g2 m2 s2 v r' hg ⟨⟨x', lv, T, vs2, rfl, hI, h1, h2, h3⟩, hz2⟩ H hm
    have SS := (S0.trans pk.sub).trans hg
    have k2 := k.mono (pk.sub.trans hg)
    refine tests1 (tcmp1 (Call_ (nmB H k2 g_len (e := n_len _) (callB (a1 (nm H hm (lenP (r'.le (by decide) (by decide)) H k2 (hI.mono SS) (isTup_mono h2 SS) ?_ fun t g3 s3 hg3 H => cst_i H fun t2 s H => P.eq_int (tr_b ?_))))))))
    · rw [All2.length h3]; exact hz2
    have k2 := k2.mono hg3
    have SS := SS.trans hg3
    have lv2 := All2.length h3
    by_cases hq : p.2.length = 1
    rotate_left
    · have e : ((vs2.length : Int) == 1) = false := by simp; omega
      rw [e, if_neg Bool.false_ne_true]
      exact ⟨by simp [hq], g3, _, hg.trans hg3, H⟩
    have e : ((vs2.length : Int) == 1) = true := by simp; omega
    rw [e, if_pos rfl]
    refine MethodCall_ (nm H hm (meth H k2 (c155 _) (hI.mono SS) (M_lex _) rfl (callW0 (H.K k2) (M_lex _).k ?_)))
    exact lexG r' k0 SS hI h2 h3 H (by simp) fun s' g' hs' H => ⟨_, if_pos hq, rfl, g', _, (hg.trans hg3).trans hs', H⟩
  intro g2 s2 hs2 H
  have S0 := S0.trans (pk.sub.trans hs2)
  have k := k0.mono S0
  refine nm H rfl (setA (pre := [(220, TabP), (128, TabP)]) H k (c334 _) (H.into _ _ (S0 _ _ hx)) (by kernel_rfl) (fun s H => ?_) (by omega))
  refine ex_nil (h t1 t2 _ _ H.rel fun q hq => ?_)
  rw [filterMap_some' ps] at H
  have := H.ent q hq
  exact ⟨this.1, this.2.1⟩
end
end Mine
end

section
open PySem PySem.W PySem.Calls PyProof.Rows
set_option maxRecDepth 100000
namespace Mine

/-! ## the table of a set of at most four elements -/

def slotsOf (b : Nat) : List Nat := (List.range 8).filter (b.testBit ·)
def tab8 (b : Nat) (led : Bool) (fin mv : Nat) (pl : Bool) : SetTable := { mask := 7, place := (slotsOf b).toArray, dummies := #[], finger := fin, led := led, moves := mv, plain := pl }
def rankOf (b j : Nat) : Nat := ((List.range j).filter (b.testBit ·)).length

theorem below_dec : ∀ b : _root_.Fin 256, ∀ j : _root_.Fin 8, SetTable.below (slotsOf b).toArray j = rankOf b j ∧ ((slotsOf b).toArray[rankOf b j]? == some j.val) = Nat.testBit b j := by decide +kernel
theorem ins_dec : ∀ b : _root_.Fin 256, ∀ j : _root_.Fin 8, Nat.testBit b j = false → slotsOf (b.val + 2 ^ j.val) = (slotsOf b.val).take (rankOf b.val j.val) ++ j.val :: (slotsOf b.val).drop (rankOf b.val j.val) ∧ b.val + 2 ^ j.val < 256 := by decide +kernel
theorem bit_dec : ∀ b : _root_.Fin 256, ∀ j : _root_.Fin 8, Nat.testBit b j = false → ∀ i : _root_.Fin 8, Nat.testBit (b.val + 2 ^ j.val) i = (Nat.testBit b i || decide (i.val = j.val)) := by decide +kernel
theorem full_dec : ∀ b : _root_.Fin 256, (slotsOf b).length < 8 → ∃ j : _root_.Fin 8, Nat.testBit b j = false := by decide +kernel

/-- a probe's stand -/
def stepP (p : Nat × Nat) : Nat × Nat := ((p.1 * 5 + 1 + p.2 / 32) % 8, p.2 / 32)
def walkP (h : Int) : Nat → Nat × Nat
  | 0 => (SetTable.bits h % 8, SetTable.bits h)
  | n + 1 => stepP (walkP h n)
def slotAt (h : Int) (n : Nat) : Nat := (walkP h n).1
theorem slotAt_lt (h : Int) (n : Nat) : slotAt h n < 8 := by
  unfold slotAt
  cases n with
  | zero => exact Nat.mod_lt _ (by decide)
  | succ n => exact Nat.mod_lt _ (by decide)

def probeOf (h : Int) (n : Nat) : SetTable.Probe := { j := slotAt h n, more := 0, i := slotAt h n, perturb := (walkP h n).2, dummy := none }

theorem runEnd7 (i : Nat) : SetTable.runEnd 7 i = i := by unfold SetTable.runEnd; rw [if_neg (by omega)]
theorem probe_start (t : SetTable) (ht : t.mask = 7) (h : Int) : t.probeStart h = probeOf h 0 := by
  unfold SetTable.probeStart
  simp only [ht, runEnd7]
  rw [Nat.sub_self]
  rfl
theorem probe_next (t : SetTable) (ht : t.mask = 7) (h : Int) (n : Nat) : t.advance (probeOf h n) = probeOf h (n + 1) := by
  unfold SetTable.advance probeOf
  rw [if_neg (Nat.lt_irrefl 0)]
  simp only [SetTable.leap, ht, runEnd7, Nat.sub_self]
  rfl

/-- perturbation runs out; then every slot is met -/
theorem perturb_le (h : Int) : ∀ n, (walkP h n).2 = SetTable.bits h / 32 ^ n
  | 0 => by simp [walkP]
  | n + 1 => by show (walkP h n).2 / 32 = _; rw [perturb_le h n, Nat.div_div_eq_div_mul, Nat.pow_succ]
theorem bits_lt (h : Int) : SetTable.bits h < 2 ^ 64 := by unfold SetTable.bits; omega
theorem perturb_0 (h : Int) {n : Nat} (hn : 13 ≤ n) : (walkP h n).2 = 0 := by
  rw [perturb_le]
  refine Nat.div_eq_of_lt (Nat.lt_of_lt_of_le (bits_lt h) ?_)
  exact Nat.le_trans (by decide : 2 ^ 64 ≤ 32 ^ 13) (Nat.pow_le_pow_right (by decide) hn)
def cyc (i : Nat) : Nat → Nat
  | 0 => i
  | n + 1 => (cyc i n * 5 + 1) % 8
theorem cyc_dec : ∀ i j : _root_.Fin 8, ∃ n : _root_.Fin 8, cyc i n = j.val := by decide +kernel
theorem walk_cyc (h : Int) (n : Nat) (hn : 13 ≤ n) : ∀ k, slotAt h (n + k) = cyc (slotAt h n) k ∧ (walkP h (n + k)).2 = 0
  | 0 => ⟨rfl, perturb_0 h hn⟩
  | k + 1 => by
    obtain ⟨e1, e2⟩ := walk_cyc h n hn k
    refine ⟨?_, perturb_0 h (by omega)⟩
    show (((walkP h (n + k)).1 * 5 + 1 + (walkP h (n + k)).2 / 32) % 8) = _
    rw [e2]
    unfold slotAt at e1
    rw [e1]
    rfl
theorem meets_all (h : Int) {j : Nat} (hj : j < 8) : ∃ n, n < 21 ∧ slotAt h n = j := by
  obtain ⟨n, hn⟩ := cyc_dec ⟨slotAt h 13, slotAt_lt h 13⟩ ⟨j, hj⟩
  exact ⟨13 + n, by omega, ((walk_cyc h 13 (by decide) n).1).trans hn⟩

/-- the first free slot of a walk -/
def FreeAt (b : Nat) (h : Int) (N : Nat) : Prop := b.testBit (slotAt h N) = false ∧ ∀ m, m < N → b.testBit (slotAt h m) = true
theorem free_at {b : Nat} (hb : b < 256) (hs : (slotsOf b).length < 8) (h : Int) : ∃ N, N < 21 ∧ FreeAt b h N := by
  obtain ⟨j, hj⟩ := full_dec ⟨b, hb⟩ hs
  obtain ⟨n, hn, e⟩ := meets_all h j.isLt
  have key : ∀ k, (∃ m, m ≤ k ∧ b.testBit (slotAt h m) = false) → ∃ N, N ≤ k ∧ FreeAt b h N := by
    intro k
    induction k with
    | zero => rintro ⟨m, hm, e⟩; have : m = 0 := by omega
              subst this; exact ⟨0, Nat.le_refl _, e, fun m hm => absurd hm (Nat.not_lt_zero _)⟩
    | succ k ih =>
      rintro ⟨m, hm, e⟩
      by_cases q : ∃ m, m ≤ k ∧ b.testBit (slotAt h m) = false
      · obtain ⟨N, h1, h2⟩ := ih q; exact ⟨N, by omega, h2⟩
      · refine ⟨m, hm, e, fun m' hm' => ?_⟩
        cases hq : b.testBit (slotAt h m') with
        | true => rfl
        | false => exact absurd ⟨m', by omega, hq⟩ q
  obtain ⟨N, h1, h2⟩ := key n ⟨n, Nat.le_refl _, by rw [e]; exact hj⟩
  exact ⟨N, by omega, h2⟩

theorem slot_eq {b : Nat} (hb : b < 256) {j : Nat} (hj : j < 8) (led : Bool) (fin mv : Nat) (pl : Bool) : (tab8 b led fin mv pl).slot j = if b.testBit j then .live (rankOf b j) else .empty := by
  obtain ⟨e1, e2⟩ := below_dec ⟨b, hb⟩ ⟨j, hj⟩
  unfold SetTable.slot tab8
  dsimp only at e1 e2 ⊢
  rw [e1, e2]
  cases b.testBit j with
  | true => rfl
  | false =>
    simp only [Bool.false_eq_true, if_false]
    rfl

/-- the element at a slot -/
theorem slots_rank {b : Nat} (hb : b < 256) {j : Nat} (hj : j < 8) (h : b.testBit j = true) : (slotsOf b)[rankOf b j]? = some j := by
  obtain ⟨_, e2⟩ := below_dec ⟨b, hb⟩ ⟨j, hj⟩
  dsimp only at e2
  rw [h] at e2
  simpa using e2

theorem put_eq {b : Nat} (hb : b < 256) {j : Nat} (hj : j < 8) (h : b.testBit j = false) (led : Bool) (fin mv : Nat) (pl : Bool) : (tab8 b led fin mv pl).put j = (tab8 (b + 2 ^ j) led fin mv pl, rankOf b j) := by
  obtain ⟨e1, _⟩ := below_dec ⟨b, hb⟩ ⟨j, hj⟩
  obtain ⟨e2, _⟩ := ins_dec ⟨b, hb⟩ ⟨j, hj⟩ h
  unfold SetTable.put
  dsimp only [tab8] at e1 e2 ⊢
  rw [e1]
  unfold SetTable.insertAt
  rw [e2]
  simp [SetTable.has, List.take_of_length_le]
theorem insertAt_list {α : Type} (cs : List α) (p : Nat) (x : α) : SetTable.insertAt cs.toArray p x = (cs.take p ++ x :: cs.drop p).toArray := by
  unfold SetTable.insertAt
  simp [List.take_of_length_le]
end Mine
end

section
open PySem PySem.W PySem.Calls PyProof.Rows
set_option maxRecDepth 100000
namespace Mine

/-! ## keys of ints and strs -/
inductive K0 where
  | i (n : Int)
  | x (s : Str)
deriving DecidableEq
def K0.is : K0 → Value → Bool
  | .i n, v => v.isInt n
  | .x s, v => Value.isStrOf s v
theorem eqB_is {prog : Program} {w : World} {A : Around} {E : Value → Shared → Prop} {s : Shared} {n : Int} {t u : Tok} {x : Str} {Q : Bool → Shared → Prop} (h : Q false s) : wpAny (model prog w) A (eqBool (.int n t) (.str x u)) Q E s := by
  unfold eqBool
  refine wpAny_holding ?_
  rw [if_neg (by intro q; have := eq_of_beq q; cases this)]
  show wpAny _ _ (richCompare .Eq (.int n t) (.str x u) >>= fun c => truthOfDropped c) Q E s
  refine wpAny_bind ?_
  show wpAny _ _ (compareOp .Eq (.int n t) (.str x u)) _ E s
  exact EqMixed.eq_int_str (wpAny_truthy_bool h)
theorem eqB_si {prog : Program} {w : World} {A : Around} {E : Value → Shared → Prop} {s : Shared} {n : Int} {t u : Tok} {x : Str} {Q : Bool → Shared → Prop} (h : Q false s) : wpAny (model prog w) A (eqBool (.str x u) (.int n t)) Q E s := by
  unfold eqBool
  refine wpAny_holding ?_
  rw [if_neg (by intro q; have := eq_of_beq q; cases this)]
  show wpAny _ _ (richCompare .Eq (.str x u) (.int n t) >>= fun c => truthOfDropped c) Q E s
  refine wpAny_bind ?_
  show wpAny _ _ (compareOp .Eq (.str x u) (.int n t)) _ E s
  exact EqMixed.eq_str_int (wpAny_truthy_bool h)
def mixKind (prog : Program) (w : World) : KeyKind prog w K0 where
  is := K0.is
  hash := fun k => match k with | .i n => hashInt n | .x s => hashStr w s
  inj := fun v a b ha hb => by
    cases a <;> cases b <;> simp only [K0.is] at ha hb
    · rw [Value.isInt_inj v _ _ ha hb]
    · obtain ⟨t, rfl⟩ := Value.isInt_shape ha; simp [Value.isStrOf] at hb
    · obtain ⟨t, rfl⟩ := Value.isInt_shape hb; simp [Value.isStrOf] at ha
    · rw [Value.isStrOf_inj v _ _ ha hb]
  byValue := fun k v h => by
    cases k
    · obtain ⟨t, rfl⟩ := Value.isInt_shape h; rfl
    · obtain ⟨t, rfl⟩ := Value.isStrOf_shape h; rfl
  pyHash := fun {A E s k v Q} hv h => by
    cases k
    · obtain ⟨t, rfl⟩ := Value.isInt_shape hv; exact wpAny_pyHash_int h
    · obtain ⟨t, rfl⟩ := Value.isStrOf_shape hv; exact wpAny_pyHash_str h
  eqBool := fun {A E s a b u v Q} hu hv h => by
    cases a <;> cases b
    · obtain ⟨t, rfl⟩ := Value.isInt_shape hu
      obtain ⟨t', rfl⟩ := Value.isInt_shape hv
      rename_i n m
      refine wpAny_eqBool_int ?_
      have : (n == m) = decide (K0.i n = K0.i m) := by by_cases q : n = m <;> simp [q]
      rw [this]; exact h
    · obtain ⟨t, rfl⟩ := Value.isInt_shape hu
      obtain ⟨t', rfl⟩ := Value.isStrOf_shape hv
      refine eqB_is ?_
      simpa using h
    · obtain ⟨t, rfl⟩ := Value.isStrOf_shape hu
      obtain ⟨t', rfl⟩ := Value.isInt_shape hv
      refine eqB_si ?_
      simpa using h
    · obtain ⟨t, rfl⟩ := Value.isStrOf_shape hu
      obtain ⟨t', rfl⟩ := Value.isStrOf_shape hv
      rename_i n m
      refine wpAny_eqBool_str ?_
      have : decide (n = m) = decide (K0.x n = K0.x m) := by by_cases q : n = m <;> simp [q]
      rw [this]; exact h
  «strs» := fun k x t v h => by
    cases k
    · simp [K0.is, Value.isInt] at h
    · rename_i y
      obtain ⟨u, hu⟩ := Value.isStrOf_shape (show Value.isStrOf y (.str x t) = true from h)
      injection hu with hx
      subst hx
      cases v <;> rfl

abbrev HK (prog : Program) (w : World) : HeapKind prog w (List K0) := tupleKind (mixKind prog w)
def kN (i : It) : List K0 := [.x (if i.t then "T" else "N"), .x i.n]
def kL (i : It) : List K0 := [.i (tagI i), .x i.n]
theorem kN_inj {i j : It} (h : kN i = kN j) : i = j := by
  obtain ⟨t, n⟩ := i; obtain ⟨t', n'⟩ := j
  simp only [kN, List.cons.injEq, K0.x.injEq, and_true] at h
  obtain ⟨h1, rfl⟩ := h
  cases t <;> cases t' <;> first | rfl | (simp only [if_true, Bool.false_eq_true, if_false] at h1; exact absurd h1 (by decide))
theorem kL_inj {i j : It} (h : kL i = kL j) : i = j := by
  obtain ⟨t, n⟩ := i; obtain ⟨t', n'⟩ := j
  simp only [kL, List.cons.injEq, K0.x.injEq, and_true, K0.i.injEq, tagI] at h
  obtain ⟨h1, rfl⟩ := h
  cases t <;> cases t' <;> first | rfl | (simp only [if_true, Bool.false_eq_true, if_false] at h1; exact absurd h1 (by decide))

section
variable {prog : Program} {w : World} {mg mb : Str → Option Value} {A : Around} {E : Value → Shared → Prop} {s s' : Shared} {F : Fx} {g g' : Heap} {led : Led} {m : Str → Option Value} {env : Env}

theorem KeyAt.key {v : Value} {i : It} (h : KeyAt g v i) (hs : Sub g s.heap) : ∃ a, v = .ref a ∧ (HK prog w).is s.heap (kN i) a := by
  obtain ⟨a, t1, t2, rfl, o, ho, hc, n, hd⟩ := h
  exact ⟨a, rfl, o, _, n, hs _ _ ho, hc, hd, .cons (by simp [mixKind, K0.is, Value.isStrOf]) (.cons (by simp [mixKind, K0.is, Value.isStrOf]) .nil)⟩
theorem LIt.key {v : Value} {i : It} (h : LIt g v i) (hs : Sub g s.heap) : ∃ a, v = .ref a ∧ (HK prog w).is s.heap (kL i) a := by
  obtain ⟨a, t1, t2, rfl, o, ho, hc, n, hd⟩ := h
  exact ⟨a, rfl, o, _, n, hs _ _ ho, hc, hd, .cons (by simp [mixKind, K0.is, Value.isInt]) (.cons (by simp [mixKind, K0.is, Value.isStrOf]) .nil)⟩
theorem key_keeps {h h' : Heap} {k : List K0} {a : Addr} (x : (HK prog w).is h k a) (hs : ∀ b o, h.get? b = some o → h'.get? b = some o) : (HK prog w).is h' k a :=
  let ⟨o, it, n, e, r⟩ := x; ⟨o, it, n, hs _ _ e, r⟩

/-! ## sets -/
def SetP (cs : List (Int × Value)) (o : Obj) : Prop :=
  o.cls = .type "set" ∧ o.dict = none ∧ o.slots = #[] ∧ ∃ ep b led fin mv pl, o.data = .set cs.toArray ep (tab8 b led fin mv pl) ∧ b < 256 ∧ cs.length = (slotsOf b).length ∧ cs.length ≤ 4 ∧
    ∀ (k : Nat) (e : Int × Value) (j : Nat), cs[k]? = some e → (slotsOf b)[k]? = some j → ∃ n, slotAt e.1 n = j ∧ ∀ m, m < n → b.testBit (slotAt e.1 m) = true

theorem fits8 {cs : List (Int × Value)} {b : Nat} {led : Bool} {fin mv : Nat} {pl : Bool} (h : cs.length = (slotsOf b).length) (h4 : cs.length ≤ 4) : (tab8 b led fin mv pl).fits cs.toArray.size = true := by
  simp only [SetTable.fits, SetTable.fill, tab8, List.size_toArray, Bool.and_eq_true, beq_iff_eq, decide_eq_true_eq]
  exact ⟨h.symm, by simp; omega⟩

theorem go_spec {b : Nat} (hb : b < 256) (led : Bool) (fin mv : Nat) (pl : Bool) (f : Nat → Int) (h : Int) {N : Nat} (hN : FreeAt b h N) : ∀ fuel n, n ≤ N → N - n < fuel →
    (SetTable.probe.go (tab8 b led fin mv pl) f h fuel (probeOf h n) = some (.empty (slotAt h N) none) ∧ ∀ m, n ≤ m → m < N → f (rankOf b (slotAt h m)) ≠ h) ∨
    ∃ m, n ≤ m ∧ m < N ∧ f (rankOf b (slotAt h m)) = h ∧ (∀ m', n ≤ m' → m' < m → f (rankOf b (slotAt h m')) ≠ h) ∧
      SetTable.probe.go (tab8 b led fin mv pl) f h fuel (probeOf h n) = some (.candidate (slotAt h m) (rankOf b (slotAt h m)) (probeOf h (m + 1)))
  | 0, n, _, hf => absurd hf (Nat.not_lt_zero _)
  | fuel + 1, n, hn, hf => by
    have hs := slot_eq hb (slotAt_lt h n) led fin mv pl
    unfold SetTable.probe.go
    show (_ ∨ _)
    have hj : (probeOf h n).j = slotAt h n := rfl
    rw [hj, hs]
    rcases Nat.lt_or_ge n N with hlt | hge
    · rw [hN.2 n hlt]
      simp only [if_true]
      by_cases hq : f (rankOf b (slotAt h n)) = h
      · refine .inr ⟨n, Nat.le_refl _, hlt, hq, fun m' h1 h2 => absurd h1 (by omega), ?_⟩
        simp only [hq, beq_self_eq_true, if_true]
        rw [probe_next _ rfl]
      · have hq' : (f (rankOf b (slotAt h n)) == h) = false := by simpa using hq
        simp only [hq', Bool.false_eq_true, if_false]
        rw [probe_next _ rfl]
        rcases go_spec hb led fin mv pl f h hN fuel (n + 1) hlt (by omega) with ⟨e, hr⟩ | ⟨m, h1, h2, h3, h4, e⟩
        · refine .inl ⟨e, fun m h1 h2 => ?_⟩
          rcases Nat.lt_or_ge n m with q | q
          · exact hr m q h2
          · have : m = n := by omega
            subst this; exact hq
        · refine .inr ⟨m, by omega, h2, h3, fun m' h1' h2' => ?_, e⟩
          rcases Nat.lt_or_ge n m' with q | q
          · exact h4 m' q h2'
          · have : m' = n := by omega
            subst this; exact hq
    · have : n = N := by omega
      subst this
      rw [hN.1]
      exact .inl ⟨rfl, fun m h1 h2 => absurd h1 (by omega)⟩

/-- the set's elements: tuples -/
def Elts (prog : Program) (w : World) (h : Heap) (ks : List (List K0)) (cs : List (Int × Value)) : Prop := All2 (fun e k => ∃ a, e = ((HK prog w).hash k, .ref a) ∧ (HK prog w).is h k a) cs ks ∧ ks.Nodup

theorem notOfAClass {k : List K0} {a : Addr} {Q : Bool → Shared → Prop} (x : (HK prog w).is s.heap k a) (hQ : Q false s) : wpAny (model prog w) A (ofAClassStatement 8 (.ref a)) Q E s := by
  obtain ⟨o, items, n, ho, hc, hd, hi⟩ := x
  have hT : s.TypeIs (.ref a) "tuple" := ⟨o, ho, hc⟩
  unfold ofAClassStatement
  refine wpAny_bind (wpAny_typeOf hT ?_)
  dsimp only
  rw [if_pos (by decide)]
  refine wpAny_bind (wpAny_pure ?_)
  simp only [Bool.not_true, Bool.false_eq_true, if_false]
  refine wpAny_bind (wpAny_seqItems ho hd ?_)
  dsimp only
  have hv := hi.byValue
  refine wpAny_bind ?_
  rw [← Array.forIn_toList]
  refine wpAny_forIn_list _ (fun rest r s' => s' = s ∧ r = (none, ()) ∧ ∀ v ∈ rest, carriedByValue v = true) _ ?_ ?_ _ _ ⟨rfl, rfl, hv⟩
  · rintro v rest r s' ⟨rfl, rfl, hr⟩
    have hc := hr v List.mem_cons_self
    have e : ofAClassStatement 7 v = pure false := by cases v <;> first | rfl | (simp [carriedByValue] at hc)
    refine wpAny_bind (wpAny_of_eq e ?_)
    simp only [Bool.false_eq_true, if_false]
    exact wpAny_pure ⟨rfl, rfl, fun v hv => hr v (List.mem_cons_of_mem _ hv)⟩
  · rintro r s' ⟨rfl, rfl, _⟩
    exact wpAny_pure hQ
end
end Mine
end

section
open PySem PySem.W PySem.Calls PyProof.Rows
set_option maxRecDepth 100000
namespace Mine
section
variable {prog : Program} {w : World} {mg mb : Str → Option Value} {A : Around} {E : Value → Shared → Prop} {s s' : Shared} {F : Fx} {g g' : Heap} {led : Led} {m : Str → Option Value} {env : Env}

theorem Elts.get {h : Heap} {ks : List (List K0)} {cs : List (Int × Value)} (x : Elts prog w h ks cs) {i : Nat} {e : Int × Value} (he : cs[i]? = some e) : ∃ k a, ks[i]? = some k ∧ e = ((HK prog w).hash k, .ref a) ∧ (HK prog w).is h k a := by
  obtain ⟨k, hk, a, e1, e2⟩ := x.1.get he
  exact ⟨k, a, hk, e1, e2⟩

theorem notSeen {x : Addr} {k : List K0} {Q : Bool → Shared → Prop} (hk : (HK prog w).is s.heap k x) (stored : List Value) (hst : ∀ v ∈ stored, ∃ k' b, v = .ref b ∧ (HK prog w).is s.heap k' b) (hQ : Q false s) : wpAny (model prog w) A (searchCouldBeSeen (.ref x) stored) Q E s := by
  unfold searchCouldBeSeen
  refine wpAny_bind ?_
  refine wpAny_forIn_list _ (fun rest r s' => s' = s ∧ r = (none, ()) ∧ ∀ v ∈ rest, ∃ k' b, v = .ref b ∧ (HK prog w).is s.heap k' b) _ ?_ ?_ _ _ ⟨rfl, rfl, hst⟩
  · rintro v rest r s' ⟨rfl, rfl, hr⟩
    obtain ⟨k', b, rfl, hb⟩ := hr v List.mem_cons_self
    have hr' : ∀ v ∈ rest, ∃ k' b, v = .ref b ∧ (HK prog w).is s'.heap k' b := fun v hv => hr v (List.mem_cons_of_mem _ hv)
    dsimp only
    by_cases hx : (x == b) = true
    · simp only [hx, Bool.true_or, if_true]
      exact wpAny_pure ⟨rfl, rfl, hr'⟩
    · have hx' : (x == b) = false := by simpa using hx
      simp only [hx', carriedByValue, Bool.and_false, Bool.or_false, Bool.false_eq_true, if_false]
      refine wpAny_bind ((HK prog w).quiet hk ?_)
      simp only [Bool.not_true, Bool.false_eq_true, if_false]
      refine wpAny_bind ((HK prog w).quiet hb ?_)
      simp only [Bool.not_true, Bool.false_eq_true, if_false]
      refine wpAny_bind (notOfAClass hk ?_)
      simp only [Bool.false_eq_true, if_false]
      refine wpAny_bind (notOfAClass hb ?_)
      simp only [Bool.false_eq_true, if_false]
      exact wpAny_pure ⟨rfl, rfl, hr'⟩
  · rintro r s' ⟨rfl, rfl, _⟩
    exact wpAny_pure hQ

theorem probeF {t : SetTable} {f : Nat → Int} {h : Int} {p : SetTable.Probe} {r : Option SetTable.Met} (f' : Nat → Int) (hf : ∀ i, f' i = f i) (ht : t.mask = 7) (e : SetTable.probe.go t f h (10 * SetTable.turns 7) p = r) : t.probe f' h p = r := by
  rw [show f' = f from funext hf]; unfold SetTable.probe; rw [ht]; exact e
theorem search_at {a x : Addr} {k : List K0} {o : Obj} {cs : List (Int × Value)} {ks : List (List K0)} {b ep fin mv : Nat} {led pl adding : Bool} {Q : SetFound → Shared → Prop} (hu : (HK prog w).room A) (ho : s.heap.get? a = some o)
    (hd : o.data = .set cs.toArray ep (tab8 b led fin mv pl)) (hb : b < 256) (hl : cs.length = (slotsOf b).length) (h4 : cs.length ≤ 4) (hE : Elts prog w s.heap ks cs) (hk : (HK prog w).is s.heap k x)
    {N : Nat} (hN : FreeAt b ((HK prog w).hash k) N) (hN21 : N < 21) (hin : k ∈ ks → ∀ r : Option Nat, (adding = false → r.isSome = true) → Q (.there r) s) (hout : k ∉ ks → Q (.free (slotAt ((HK prog w).hash k) N) false) s) :
    ∀ (fuel n : Nat) (st : Option SetTable.Probe), n ≤ N → N - n < fuel → st.getD ((tab8 b led fin mv pl).probeStart ((HK prog w).hash k)) = probeOf ((HK prog w).hash k) n →
      (k ∈ ks → ∃ m0 idx : Nat, n ≤ m0 ∧ m0 < N ∧ (slotsOf b)[idx]? = some (slotAt ((HK prog w).hash k) m0) ∧ ks[idx]? = some k) →
      wpAny (model prog w) A (setSearchFrom a (.ref x) ((HK prog w).hash k) adding fuel st) Q E s
  | 0, _, _, _, hf, _, _ => absurd hf (Nat.not_lt_zero _)
  | fuel + 1, n, st, hn, hf, hst, hm => by
    have hfit := fits8 (led := led) (fin := fin) (mv := mv) (pl := pl) hl h4
    unfold setSearchFrom
    refine wpAny_bind (wpAny_setState_of ho hd hfit ?_)
    dsimp only
    have hg : (tab8 b led fin mv pl).gaveWay = false := by simp [SetTable.gaveWay, tab8]
    rw [hg]
    simp only [Bool.false_eq_true, if_false]
    rw [hst]
    have key := go_spec hb led fin mv pl (fun i => ((cs.toArray[i]?.map (·.1)).getD 0)) ((HK prog w).hash k) hN (10 * SetTable.turns 7) n hn (by unfold SetTable.turns; omega)
    -- the key's own slot, by uniqueness
    have uniq : ∀ {i j : Nat}, ks[i]? = some k → ks[j]? = some k → i = j := fun h1 h2 => (List.getElem?_inj (List.getElem?_eq_some_iff.mp h1).1 hE.2).mp (h1.trans h2.symm)
    have rank_of : ∀ {idx j : Nat}, j < 8 → (slotsOf b)[idx]? = some j → b.testBit j = true → idx = rankOf b j := fun {idx j} hj h1 h2 => by
      have h3 := slots_rank hb hj h2
      have nd : (slotsOf b).Nodup := List.Nodup.sublist List.filter_sublist List.nodup_range
      exact (List.getElem?_inj (List.getElem?_eq_some_iff.mp h1).1 nd).mp (h1.trans h3.symm)
    rcases key with ⟨e, hno⟩ | ⟨m, h1, h2, h3, h4', e⟩
    · have hnot : k ∉ ks := fun q => by
        obtain ⟨m0, idx, q1, q2, q3, q4⟩ := hm q
        have hbit := hN.2 m0 q2
        have hi := rank_of (slotAt_lt _ _) q3 hbit
        refine hno m0 q1 q2 ?_
        rw [← hi]
        have hlt : idx < cs.length := by rw [hl]; exact (List.getElem?_eq_some_iff.mp q3).1
        obtain ⟨k', a', e1, e2, e3⟩ := hE.get (List.getElem?_eq_getElem hlt)
        rw [q4] at e1; cases e1
        show ((cs.toArray[idx]?.map (·.1)).getD 0) = _
        rw [List.getElem?_toArray, List.getElem?_eq_getElem hlt, e2]
        rfl
      generalize hp : SetTable.probe _ _ _ _ = r
      have hr' := hp.symm.trans (probeF _ (fun _ => rfl) rfl e)
      subst hr'
      exact wpAny_pure (hout hnot)
    · generalize hp : SetTable.probe _ _ _ _ = r
      have hr' := hp.symm.trans (probeF _ (fun _ => rfl) rfl e)
      subst hr'
      dsimp only
      have hbit := hN.2 m h2
      have hr := slots_rank hb (slotAt_lt ((HK prog w).hash k) m) hbit
      have hlt : rankOf b (slotAt ((HK prog w).hash k) m) < cs.length := by rw [hl]; exact (List.getElem?_eq_some_iff.mp hr).1
      obtain ⟨k', a', e1, e2, e3⟩ := hE.get (List.getElem?_eq_getElem hlt)
      have hcs : cs.toArray[rankOf b (slotAt ((HK prog w).hash k) m)]? = some ((HK prog w).hash k', Value.ref a') := by rw [List.getElem?_toArray, List.getElem?_eq_getElem hlt, e2]
      have hsame : ∀ l, (tab8 b led fin mv pl).sameMemory (tab8 b l fin mv pl).moves (tab8 b l fin mv pl).mask = some true := fun l => by simp [SetTable.sameMemory, tab8]
      have hslot : (tab8 b led fin mv pl).slot (slotAt ((HK prog w).hash k) m) = .live (rankOf b (slotAt ((HK prog w).hash k) m)) := by rw [slot_eq hb (slotAt_lt _ _), hbit]; rfl
      have hstored : ∀ v ∈ (cs.toArray.filter (fun x => x.1 == (HK prog w).hash k)).toList.map (fun x => x.2), ∃ k' b, v = Value.ref b ∧ (HK prog w).is s.heap k' b := by
        intro v hv
        obtain ⟨e, he, rfl⟩ := List.mem_map.mp hv
        have he' : e ∈ cs := by
          have := Array.mem_toList_iff.mp he
          have := (Array.mem_filter.mp this).1
          simpa using this
        obtain ⟨i, hi⟩ := List.mem_iff_getElem?.mp he'
        obtain ⟨k2, a2, _, q2, q3⟩ := hE.get hi
        exact ⟨k2, a2, by rw [q2], q3⟩
      have next : k' ≠ k → wpAny (model prog w) A (setSearchFrom a (.ref x) ((HK prog w).hash k) adding fuel (some (probeOf ((HK prog w).hash k) (m + 1)))) Q E s := fun hkk =>
        search_at hu ho hd hb hl h4 hE hk hN hN21 hin hout fuel (m + 1) _ h2 (by omega) rfl fun q => by
          obtain ⟨m0, idx, q1, q2, q3, q4⟩ := hm q
          have hi := rank_of (slotAt_lt _ _) q3 (hN.2 m0 q2)
          refine ⟨m0, idx, ?_, q2, q3, q4⟩
          rcases Nat.lt_or_ge m m0 with q5 | q5
          · exact q5
          · exfalso
            rcases Nat.lt_or_ge m0 m with q6 | q6
            · refine h4' m0 q1 q6 ?_
              rw [← hi]
              have hlt' : idx < cs.length := by rw [hl]; exact (List.getElem?_eq_some_iff.mp q3).1
              obtain ⟨k2, a2, f1, f2, f3⟩ := hE.get (List.getElem?_eq_getElem hlt')
              rw [q4] at f1; cases f1
              show ((cs.toArray[idx]?.map (·.1)).getD 0) = _
              rw [List.getElem?_toArray, List.getElem?_eq_getElem hlt', f2]
              rfl
            · have : m0 = m := Nat.le_antisymm q5 q6
              subst this
              rw [hi] at q4
              rw [q4] at e1
              exact hkk (Option.some.inj e1).symm
      have mem : k' = k → k ∈ ks := fun q => q ▸ List.mem_of_getElem? e1
      have tail : ∀ l, wpAny (model prog w) A (match cs.toArray[rankOf b (slotAt ((HK prog w).hash k) m)]? with
          | some (_, y) => do
            let equal ← holding [y] (eqBool y (.ref x))
            let __x ← setState a
            if (adding && equal) = true then pure (SetFound.there none)
            else
              match __x.2.snd.sameMemory (tab8 b l fin mv pl).moves (tab8 b l fin mv pl).mask with
              | some same =>
                match if same = true then __x.2.snd.slot (slotAt ((HK prog w).hash k) m) else SetTable.Slot.empty with
                | SetTable.Slot.live i' =>
                  match __x.fst[i']? with
                  | some (_, y') => do
                    let __do_lift ← isSame y' y
                    let still ← pure (if __do_lift = true then some i' else none)
                    match still with
                      | none => do
                        rule "set.search.anew"
                        setSearchFrom a (Value.ref x) ((HK prog w).hash k) adding fuel none
                      | some i' =>
                        if equal = true then pure (SetFound.there (some i'))
                        else setSearchFrom a (Value.ref x) ((HK prog w).hash k) adding fuel (some (probeOf ((HK prog w).hash k) (m + 1)))
                  | none => do
                    let still ← pure none
                    match still with
                      | none => do
                        rule "set.search.anew"
                        setSearchFrom a (Value.ref x) ((HK prog w).hash k) adding fuel none
                      | some i' =>
                        if equal = true then pure (SetFound.there (some i'))
                        else setSearchFrom a (Value.ref x) ((HK prog w).hash k) adding fuel (some (probeOf ((HK prog w).hash k) (m + 1)))
                | _ => do
                  let still ← pure none
                  match still with
                    | none => do
                      rule "set.search.anew"
                      setSearchFrom a (Value.ref x) ((HK prog w).hash k) adding fuel none
                    | some i' =>
                      if equal = true then pure (SetFound.there (some i'))
                      else setSearchFrom a (Value.ref x) ((HK prog w).hash k) adding fuel (some (probeOf ((HK prog w).hash k) (m + 1)))
              | _ => unsupported "set.changed-during-lookup:is-the-new-block-at-the-old-address"
          | _ => unsupported "internal:set-entry") Q E s := by
        intro l
        rw [hcs]
        dsimp only
        refine wpAny_bind (wpAny_holding ((HK prog w).eqBool hu e3 hk ?_))
        refine wpAny_bind (wpAny_setState_of ho hd hfit ?_)
        dsimp only
        rw [hsame l]
        simp only [if_true]
        rw [hslot]
        dsimp only
        rw [hcs]
        dsimp only
        by_cases hkk : k' = k
        · rw [decide_eq_true hkk]
          cases adding with
          | true =>
            simp only [Bool.and_self, if_true]
            exact wpAny_pure (hin (mem hkk) none (fun q => by cases q))
          | false =>
            simp only [Bool.false_and, Bool.false_eq_true, if_false, if_true]
            exact wpAny_bind (wpAny_isSame_ref_self (by simp only [if_true]; exact wpAny_bind (wpAny_pure (wpAny_pure (hin (mem hkk) (some _) (fun _ => rfl))))))
        · rw [decide_eq_false hkk]
          simp only [Bool.and_false, Bool.false_eq_true, if_false]
          exact wpAny_bind (wpAny_isSame_ref_self (by simp only [if_true]; exact wpAny_bind (wpAny_pure (next hkk))))
      cases led with
      | true => exact tail true
      | false =>
        show wpAny _ A (searchCouldBeSeen (.ref x) _ >>= _) Q E s
        exact wpAny_bind (notSeen hk _ hstored (tail false))

end
end Mine
end

section
open PySem PySem.W PySem.Calls PyProof.Rows
set_option maxRecDepth 100000
namespace Mine
section
variable {prog : Program} {w : World} {mg mb : Str → Option Value} {A : Around} {E : Value → Shared → Prop} {s s' : Shared} {F : Fx} {g g' : Heap} {led : Led} {m : Str → Option Value} {env : Env}
variable {a x : Addr} {k : List K0} {o : Obj} {cs : List (Int × Value)} {ks : List (List K0)}

theorem Elts.keeps {h h' : Heap} (hE : Elts prog w h ks cs) (hk : ∀ b o, h.get? b = some o → h'.get? b = some o) : Elts prog w h' ks cs := ⟨hE.1.imp fun _ _ ⟨a, e, i⟩ => ⟨a, e, key_keeps i hk⟩, hE.2⟩

theorem bit_of_slot {b j : Nat} {i : Nat} (h : (slotsOf b)[i]? = some j) : b.testBit j = true ∧ j < 8 := by
  have := List.mem_of_getElem? h
  unfold slotsOf at this
  rw [List.mem_filter, List.mem_range] at this
  exact ⟨this.2, this.1⟩

theorem setSearchT {adding : Bool} {b ep fin mv : Nat} {led pl : Bool} {Q : SetFound → Shared → Prop} (hu : (HK prog w).room A) (ho : s.heap.get? a = some o) (hd : o.data = .set cs.toArray ep (tab8 b led fin mv pl)) (hb : b < 256) (hl : cs.length = (slotsOf b).length) (h4 : cs.length ≤ 4)
    (hr : ∀ (k : Nat) (e : Int × Value) (j : Nat), cs[k]? = some e → (slotsOf b)[k]? = some j → ∃ n, slotAt e.1 n = j ∧ ∀ m, m < n → b.testBit (slotAt e.1 m) = true) (hE : Elts prog w s.heap ks cs) (hk : (HK prog w).is s.heap k x)
    (hin : k ∈ ks → ∀ r : Option Nat, (adding = false → r.isSome = true) → Q (.there r) s) (hout : k ∉ ks → ∀ N, FreeAt b ((HK prog w).hash k) N → Q (.free (slotAt ((HK prog w).hash k) N) false) s) :
    wpAny (model prog w) A (setSearch a (.ref x) ((HK prog w).hash k) adding) Q E s := by
  obtain ⟨N, hN21, hN⟩ := free_at hb (by omega) ((HK prog w).hash k)
  refine search_at hu ho hd hb hl h4 hE hk hN hN21 hin (fun q => hout q N hN) 100000 0 none (Nat.zero_le _) (by omega) (probe_start _ rfl _) fun q => ?_
  obtain ⟨idx, hidx⟩ := List.mem_iff_getElem?.mp q
  obtain ⟨e, he, a', q1, q2⟩ := hE.1.get' hidx
  have hlt : idx < (slotsOf b).length := by rw [← hl]; exact (List.getElem?_eq_some_iff.mp he).1
  have hj := List.getElem?_eq_getElem hlt
  obtain ⟨n, h1, h2⟩ := hr idx e _ he hj
  rw [q1] at h1 h2
  have hbit := (bit_of_slot hj).1
  refine ⟨n, idx, Nat.zero_le _, ?_, by rw [hj, ← h1], hidx⟩
  rcases Nat.lt_trichotomy n N with q3 | q3 | q3
  · exact q3
  · subst q3; have := hN.1; rw [h1, hbit] at this; cases this
  · have := h2 N q3; rw [hN.1] at this; cases this

theorem byScan_ref (es : Array (Int × Value)) : byScan (.ref x) es = false := by simp [byScan, Value.scannable]

theorem findT {Q : Option Nat → Shared → Prop} (hu : (HK prog w).room A) (ho : s.heap.get? a = some o) (hP : SetP cs o) (hE : Elts prog w s.heap ks cs) (hk : (HK prog w).is s.heap k x) (h : ∀ r : Option Nat, r.isSome = decide (k ∈ ks) → Q r s) :
    wpAny (model prog w) A (setFind a (.ref x) ((HK prog w).hash k)) Q E s := by
  obtain ⟨_, _, _, ep, b, led, fin, mv, pl, hd, hb, hl, h4, hr⟩ := hP
  unfold setFind setFindIn
  refine wpAny_bind (wpAny_setState_of ho hd (fits8 hl h4) ?_)
  dsimp only
  rw [byScan_ref]
  simp only [Bool.false_eq_true, if_false]
  refine wpAny_bind (setSearchT hu ho hd hb hl h4 hr hE hk (fun q r hr => wpAny_pure (h r (by rw [hr rfl]; simp [q]))) fun q N _ => wpAny_pure (h none (by simp [q])))

theorem SetP.typeIs (ho : s.heap.get? a = some o) (hP : SetP cs o) : s.TypeIs (.ref a) "set" := ⟨o, ho, hP.1⟩

theorem containsT {Q : Bool → Shared → Prop} (hu : A.units + 1 < cLine) (ho : s.heap.get? a = some o) (hP : SetP cs o) (hE : Elts prog w s.heap ks cs) (hk : (HK prog w).is s.heap k x)
    (h : Q (decide (k ∈ ks)) { s with toks := s.toks + (HK prog w).draws k }) : wpAny (model prog w) A (PySem.contains (.ref a) (.ref x)) Q E s := by
  have hT := hP.typeIs ho
  unfold PySem.contains
  try with_reducible refine wpAny_holding ?_
  refine wpAny_bind (wpAny_specialOf hT PySem.F.slot_set_contains.lookup ?_)
  show wpAny _ _ (if (some (Value.builtin "set.__contains__") == some Value.none) = true then _ else _) _ E s
  rw [if_neg (by rw [beq_builtin_none]; exact Bool.false_ne_true)]
  refine wpAny_bind (wpAny_callSpecialUnlessNone?_slot (name := Str.ofString "__contains__") hT PySem.F.slot_set_contains
    (wpAny_call_entry PySem.F.slot_set_contains hT entry_set_contains ?_ (PySem.F.args_set_contains_2 _ _)))
  unfold Builtin.«frozenset.__contains__» Builtin.Frozenset.oneOther
  simp only [List.isEmpty_nil, bind_assoc]
  unfold Builtin.Frozenset.addrOf Builtin.Frozenset.withSetAsKey setContains
  refine wpAny_bind (wpAny_pure ?_)
  try dsimp only
  refine wpAny_bind (wpAny_pure ?_)
  try dsimp only
  refine wpAny_bind (wpAny_tryCatch ?_)
  refine wpAny_holding ?_
  refine wpAny_bind ((HK prog w).pyHash (show (HK prog w).room A.in1 from hu) hk ?_)
  refine wpAny_bind (findT (s := { s with toks := s.toks + (HK prog w).draws k }) (show (HK prog w).room A.in1 from hu) ho hP hE hk fun r hr => ?_)
  refine wpAny_pure ?_
  show wpAny _ _ (ret (Value.bool r.isSome)) _ _ _
  rw [hr]
  exact wpAny_pure ⟨_, rfl, wpAny_truthy_bool h⟩

theorem inSetT {Q : Value → Shared → Prop} (hu : A.units + 1 < cLine) (ho : s.heap.get? a = some o) (hP : SetP cs o) (hE : Elts prog w s.heap ks cs) (hk : (HK prog w).is s.heap k x)
    (h : Q (.bool (decide (k ∈ ks))) { s with toks := s.toks + (HK prog w).draws k }) : wpAny (model prog w) A (compareOp .In (.ref x) (.ref a)) Q E s := by
  show wpAny _ _ (do return .bool (← PySem.contains (.ref a) (.ref x))) Q E s
  exact wpAny_bind (containsT hu ho hP hE hk (wpAny_pure h))
theorem notInSetT {Q : Value → Shared → Prop} (hu : A.units + 1 < cLine) (ho : s.heap.get? a = some o) (hP : SetP cs o) (hE : Elts prog w s.heap ks cs) (hk : (HK prog w).is s.heap k x)
    (h : Q (.bool (!decide (k ∈ ks))) { s with toks := s.toks + (HK prog w).draws k }) : wpAny (model prog w) A (compareOp .NotIn (.ref x) (.ref a)) Q E s := by
  show wpAny _ _ (do return .bool (!(← PySem.contains (.ref a) (.ref x)))) Q E s
  exact wpAny_bind (containsT hu ho hP hE hk (wpAny_pure h))

/-- a new element is laid into the table -/
theorem lay_new {b ep fin mv : Nat} {led pl : Bool} (hd : o.data = .set cs.toArray ep (tab8 b led fin mv pl)) (hb : b < 256) (hl : cs.length = (slotsOf b).length) (h3 : cs.length ≤ 3)
    (hr : ∀ (k : Nat) (e : Int × Value) (j : Nat), cs[k]? = some e → (slotsOf b)[k]? = some j → ∃ n, slotAt e.1 n = j ∧ ∀ m, m < n → b.testBit (slotAt e.1 m) = true) (hc : o.cls = .type "set") (hdi : o.dict = none) (hsl : o.slots = #[])
    {h : Int} {N : Nat} (hN : FreeAt b h N) (v : Value) (pl' : Bool) :
    SetP (cs.take (rankOf b (slotAt h N)) ++ (h, v) :: cs.drop (rankOf b (slotAt h N))) (Obj.putSet (SetTable.insertAt cs.toArray (rankOf b (slotAt h N)) (h, v)) (tab8 (b + 2 ^ slotAt h N) led fin mv pl') o) := by
  have hj := slotAt_lt h N
  obtain ⟨e1, e2⟩ := ins_dec ⟨b, hb⟩ ⟨_, hj⟩ hN.1
  have e3 := bit_dec ⟨b, hb⟩ ⟨_, hj⟩ hN.1
  dsimp only at e1 e2 e3
  have hp : rankOf b (slotAt h N) ≤ cs.length := by
    rw [hl]
    unfold rankOf slotsOf
    have : List.range 8 = List.range (slotAt h N) ++ (List.range 8).drop (slotAt h N) := by
      have := List.take_append_drop (slotAt h N) (List.range 8)
      rw [List.take_range, Nat.min_eq_left (Nat.le_of_lt hj)] at this
      exact this.symm
    rw [this, List.filter_append, List.length_append]
    exact Nat.le_add_right _ _
  rw [putSet_of _ _ hd]
  refine ⟨hc, hdi, hsl, ep + 1, b + 2 ^ slotAt h N, led, fin, mv, pl', by rw [insertAt_list], e2, ?_, by simp; omega, ?_⟩
  · rw [e1]; simp [hl]
  · have mono : ∀ (i : Nat), i < 8 → b.testBit i = true → (b + 2 ^ slotAt h N).testBit i = true := fun i hi q => by
      have := e3 ⟨i, hi⟩; dsimp only at this; rw [this, q]; rfl
    intro i e j he hj'
    rw [e1] at hj'
    have hlt : (cs.take (rankOf b (slotAt h N))).length = ((slotsOf b).take (rankOf b (slotAt h N))).length := by simp [hl]
    rcases Nat.lt_trichotomy i (rankOf b (slotAt h N)) with q | q | q
    · rw [List.getElem?_append_left (by simp; omega), List.getElem?_take_of_lt q] at he hj'
      obtain ⟨n, f1, f2⟩ := hr i e j he hj'
      exact ⟨n, f1, fun m hm => mono _ (slotAt_lt _ _) (f2 m hm)⟩
    · subst q
      rw [List.getElem?_append_right (by simp; omega)] at he hj'
      have z1 : rankOf b (slotAt h N) - (cs.take (rankOf b (slotAt h N))).length = 0 := by simp; omega
      have z2 : rankOf b (slotAt h N) - ((slotsOf b).take (rankOf b (slotAt h N))).length = 0 := by simp; omega
      rw [z1] at he; rw [z2] at hj'
      simp only [List.getElem?_cons_zero, Option.some.injEq] at he hj'
      subst he; subst hj'
      exact ⟨N, rfl, fun m hm => mono _ (slotAt_lt _ _) (hN.2 m hm)⟩
    · rw [List.getElem?_append_right (by simp; omega)] at he hj'
      have z1 : i - (cs.take (rankOf b (slotAt h N))).length = (i - 1 - rankOf b (slotAt h N)) + 1 := by simp; omega
      have z2 : i - ((slotsOf b).take (rankOf b (slotAt h N))).length = (i - 1 - rankOf b (slotAt h N)) + 1 := by simp; omega
      rw [z1] at he; rw [z2] at hj'
      simp only [List.getElem?_cons_succ, List.getElem?_drop] at he hj'
      have z3 : rankOf b (slotAt h N) + (i - 1 - rankOf b (slotAt h N)) = i - 1 := by omega
      rw [z3] at he hj'
      obtain ⟨n, f1, f2⟩ := hr (i - 1) e j he hj'
      exact ⟨n, f1, fun m hm => mono _ (slotAt_lt _ _) (f2 m hm)⟩
end
end Mine
end

section
open PySem PySem.W PySem.Calls PyProof.Rows
set_option maxRecDepth 100000
namespace Mine
section
variable {prog : Program} {w : World} {mg mb : Str → Option Value} {A : Around} {E : Value → Shared → Prop} {s s' : Shared} {F : Fx} {g g' : Heap} {led : Led} {m : Str → Option Value} {env : Env}
variable {a x : Addr} {k : List K0} {o : Obj} {cs : List (Int × Value)} {ks : List (List K0)}

theorem hashBV {Q : Bool → Shared → Prop} (hk : (HK prog w).is s.heap k x) (h : ∀ b, Q b s) : wpAny (model prog w) A (hashByValue 8 (.ref x)) Q E s := by
  have hT := IsTupleKey.typeIs hk
  obtain ⟨o, items, n, ho, _, hd, hi⟩ := hk
  unfold hashByValue
  refine wpAny_bind (wpAny_specialOf hT PySem.F.slot_tuple_hash.lookup ?_)
  dsimp only
  refine wpAny_bind (wpAny_seqItems ho hd ?_)
  have hv := hi.byValue
  refine wpAny_bind ?_
  rw [show (some items).getD #[.ellipsis] = items from rfl, ← Array.forIn_toList]
  refine wpAny_forIn_list _ (fun rest r s' => s' = s ∧ (r = (none, ()) ∨ ∃ b, r = (some b, ())) ∧ ∀ v ∈ rest, carriedByValue v = true) _ ?_ ?_ _ _ ⟨rfl, .inl rfl, hv⟩
  · rintro v rest r s' ⟨rfl, hr0, hr⟩
    have hc := hr v List.mem_cons_self
    have e : ∃ b, hashByValue 7 v = pure b := by cases v <;> first | exact ⟨_, rfl⟩ | (simp [carriedByValue] at hc)
    obtain ⟨b, e⟩ := e
    refine wpAny_bind (wpAny_of_eq e ?_)
    cases b with
    | true =>
      simp only [Bool.not_true, Bool.false_eq_true, if_false]
      exact wpAny_pure ⟨rfl, .inl rfl, fun v hv => hr v (List.mem_cons_of_mem _ hv)⟩
    | false =>
      simp only [Bool.not_false, if_true]
      exact wpAny_pure (wpAny_pure (h false))
  · rintro r s' ⟨rfl, hr, _⟩
    rcases hr with rfl | ⟨b, rfl⟩
    · exact wpAny_pure (h true)
    · exact wpAny_pure (h b)

def laid (p : Nat) (cs : List (Int × Value)) (e : Int × Value) : List (Int × Value) := cs.take p ++ e :: cs.drop p
theorem Elts.laid {h : Heap} (hE : Elts prog w h ks cs) (p : Nat) (hk : (HK prog w).is h k x) (hn : k ∉ ks) : ∃ ks', Elts prog w h ks' (Mine.laid p cs ((HK prog w).hash k, .ref x)) ∧ ks'.Perm (k :: ks) := by
  refine ⟨ks.take p ++ k :: ks.drop p, ⟨?_, ?_⟩, ?_⟩
  · unfold Mine.laid
    have tk : ∀ (p : Nat) {l : List (Int × Value)} {m : List (List K0)}, All2 (fun e k => ∃ a, e = ((HK prog w).hash k, .ref a) ∧ (HK prog w).is h k a) l m → All2 (fun e k => ∃ a, e = ((HK prog w).hash k, .ref a) ∧ (HK prog w).is h k a) (l.take p) (m.take p) ∧ All2 (fun e k => ∃ a, e = ((HK prog w).hash k, .ref a) ∧ (HK prog w).is h k a) (l.drop p) (m.drop p) := by
      intro p
      induction p with
      | zero => intro l m x; exact ⟨.nil, x⟩
      | succ p ih =>
        intro l m x
        cases x with
        | nil => exact ⟨.nil, .nil⟩
        | cons a b => obtain ⟨c, d⟩ := ih b; exact ⟨.cons a c, d⟩
    obtain ⟨a1, a2⟩ := tk p hE.1
    exact a1.append (.cons ⟨x, rfl, hk⟩ a2)
  · have pm : (ks.take p ++ k :: ks.drop p).Perm (k :: ks) := List.perm_middle.trans (by rw [List.take_append_drop])
    rw [pm.nodup_iff, List.nodup_cons]
    exact ⟨hn, hE.2⟩
  · exact List.perm_middle.trans (by rw [List.take_append_drop])

/-- the table's order may be told -/
def LedOK (w : World) (o : Obj) : Prop := ∀ es ep t, o.data = .set es ep t → t.led = true ∨ w.params.followText "set-order" = true
theorem addT {Q : Bool → Shared → Prop} (hu : (HK prog w).room A) (ho : s.heap.get? a = some o) (hP : SetP cs o) (hE : Elts prog w s.heap ks cs) (hk : (HK prog w).is s.heap k x) (h3 : k ∉ ks → cs.length ≤ 3)
    (hold : k ∈ ks → Q false s) (hnew : k ∉ ks → ∀ p o' h', h'.get? a = some o' → SetP (laid p cs ((HK prog w).hash k, .ref x)) o' → (LedOK w o → LedOK w o') → Heap.SameBut a s.heap h' → Q true { s with heap := h' }) :
    wpAny (model prog w) A (setAddHashed a (.ref x) ((HK prog w).hash k)) Q E s := by
  obtain ⟨c1, c2, c3, ep, b, led, fin, mv, pl, hd, hb, hl, h4, hr⟩ := hP
  unfold setAddHashed setAddHashedIn
  refine wpAny_holding (wpAny_bind (wpAny_setState_of ho hd (fits8 hl h4) ?_))
  dsimp only
  rw [byScan_ref]
  simp only [Bool.false_eq_true, if_false]
  refine wpAny_bind (setSearchT hu ho hd hb hl h4 hr hE hk (fun q r _ => wpAny_pure (hold q)) fun q N hN => ?_)
  dsimp only
  refine wpAny_bind (wpAny_setState_of ho hd (fits8 hl h4) ?_)
  dsimp only
  rw [put_eq hb (slotAt_lt _ _) hN.1]
  dsimp only
  have fin' : ∀ pl', wpAny (model prog w) A (storeSet a (SetTable.insertAt cs.toArray (rankOf b (slotAt ((HK prog w).hash k) N)) ((HK prog w).hash k, .ref x)) (tab8 (b + 2 ^ slotAt ((HK prog w).hash k) N) led fin mv pl') >>= fun _ =>
      (if (!false && (tab8 (b + 2 ^ slotAt ((HK prog w).hash k) N) led fin mv pl').tooFull) = true then setRelay a (SetTable.grown (cs.toArray.size + 1)) >>= fun _ => pure true else pure true)) Q E s := by
    intro pl'
    have L := lay_new hd hb hl (h3 q) hr c1 c2 c3 hN (.ref x) pl'
    have hz : (SetTable.insertAt cs.toArray (rankOf b (slotAt ((HK prog w).hash k) N)) ((HK prog w).hash k, Value.ref x)).size ≤ sizeLine := by
      rw [insertAt_list, List.size_toArray, sizeLine_eq]
      have := h3 q
      simp
      omega
    refine wpAny_bind (wpAny_storeSet_of ho hd ?_ hz)
    have hfull : (tab8 (b + 2 ^ slotAt ((HK prog w).hash k) N) led fin mv pl').tooFull = false := by
      obtain ⟨_, _, _, ep', b', led', fin2, mv', pl2, hd', _, hl', h4', _⟩ := L
      rw [putSet_of _ _ hd] at hd'
      injection hd' with q1 q2 q3
      have e : (slotsOf (b + 2 ^ slotAt ((HK prog w).hash k) N)).length = (slotsOf b').length := by have := congrArg (fun t : SetTable => t.place.size) q3; simpa [tab8] using this
      unfold SetTable.tooFull SetTable.fill tab8
      simp only [List.size_toArray, e, decide_eq_false_iff_not]
      rw [hl'] at h4'
      simp
      omega
    rw [hfull]
    simp only [Bool.and_false, Bool.false_eq_true, if_false]
    refine wpAny_pure (hnew q (rankOf b (slotAt ((HK prog w).hash k) N)) _ _ (Heap.get?_update_self _ ho ?_) L (fun lo es2 ep2 t2 e2 => ?_) (Heap.SameBut.update ..))
    · rw [putSet_of _ _ hd]; rfl
    · rw [putSet_of _ _ hd] at e2
      injection e2 with _ _ e3
      subst e3
      have := lo _ _ (tab8 b led fin mv pl) hd
      exact this
  cases pl with
  | true =>
    refine wpAny_bind (hashBV hk fun bv => ?_)
    cases bv with
    | true => exact fin' true
    | false => exact fin' false
  | false => exact wpAny_bind (wpAny_pure (fin' false))

theorem emptySet (led : Bool) (fin mv : Nat) (pl : Bool) (ep : Nat) : SetP [] { cls := .type "set", dict := none, data := .set #[] ep (tab8 0 led fin mv pl) } :=
  ⟨rfl, rfl, rfl, ep, 0, led, fin, mv, pl, rfl, by decide, by decide, by decide, fun k e j h => by simp at h⟩
theorem fresh_eq (led : Bool) : SetTable.fresh 0 0 led = tab8 0 led 0 0 true := by unfold SetTable.fresh tab8; rfl
end
end Mine
end

section
open PySem PySem.W PySem.Calls PyProof.Rows
set_option maxRecDepth 100000
namespace Mine
section
variable {prog : Program} {w : World} {mg mb : Str → Option Value} {A : Around} {E : Value → Shared → Prop} {s s' : Shared} {F : Fx} {g g' : Heap} {led : Led} {m : Str → Option Value} {env : Env}
variable {a x : Addr} {k : List K0} {o : Obj} {cs : List (Int × Value)} {ks : List (List K0)}

theorem inMain {c P : Addr} {Q : Bool → Shared → Prop} (H : In F g led m s) (hd : CodeHd g c P) (hc : env.code = .ref c) (h : ∀ b, Q b s) : wpAny (model prog w) A (inMainModule env) Q E s := by
  obtain ⟨o, vs, file, tf, _, _, _, _, _, e1, e2, e3, _, _, e18, _⟩ := hd
  unfold inMainModule
  rw [hc, if_neg (show ¬ ((Value.ref c == Value.none) = true) from Bool.false_ne_true)]
  refine wpAny_bind (wpAny_fieldsOf (H.into _ _ e1) e3 ?_)
  rw [e18]
  dsimp only
  exact fun Γ p hΓ => h _

/-- set.add of a tuple -/
theorem setAddK {Q : Bool → Shared → Prop} (hu : A.units < cLine) (ho : s.heap.get? a = some o) (hP : SetP cs o) (hE : Elts prog w s.heap ks cs) (hk : (HK prog w).is s.heap k x) (h3 : k ∉ ks → cs.length ≤ 3)
    (hold : k ∈ ks → ∀ t, Q false { s with toks := t }) (hnew : k ∉ ks → ∀ p o' h' t, h'.get? a = some o' → SetP (laid p cs ((HK prog w).hash k, .ref x)) o' → (LedOK w o → LedOK w o') → Heap.SameBut a s.heap h' → Q true { s with heap := h', toks := t }) :
    wpAny (model prog w) A (setAdd a (.ref x)) Q E s := by
  unfold setAdd
  refine wpAny_holding (wpAny_bind ((HK prog w).pyHash (show (HK prog w).room A from hu) hk ?_))
  exact addT (s := { s with toks := s.toks + (HK prog w).draws k }) (show (HK prog w).room A from hu) ho hP hE hk h3 (fun q => hold q _) fun q p o' h' a1 a2 a3 a4 => hnew q p o' h' _ a1 a2 a3 a4

theorem evs (e : PySem.Expr) (pos : Pos) (env : Env) : eval (.Set [e] 0 pos) env = (do standAt pos; setDisplay (displayRoad 0 [e]) (← inMainModule env) ((starEach [e] env).map fun (star, t) => (star, do let v ← t; standAt pos; pure v))) := rfl

def SetL (w : World) (cs : List (Int × Value)) : Obj → Prop := fun o => SetP cs o ∧ LedOK w o
theorem newSetL {Q : Value → Shared → Prop} (H : In F g led m s) (h : ∀ a s', In F g ((a, SetL w []) :: led) m s' → Q (.ref a) s') : wpAny (model prog w) A (newSet (.type "set")) Q E s := by
  unfold newSet
  refine wpAny_bind (wpAny_bind (wpAny_askSetting (wpAny_pure ?_)))
  dsimp only
  simp only [newObj]
  refine wpAny_bind (wpAny_alloc (wpAny_pure (h _ _ (H.new _ rfl _ ?_))))
  rw [fresh_eq]
  refine ⟨emptySet _ 0 0 true 0, fun es ep t e => ?_⟩
  injection e with _ _ e3
  subst e3
  show (!w.params.followText "set-order") = true ∨ _
  cases w.params.followText "set-order" <;> simp

/-- an element is added to a set on the ledger -/
theorem setAddL {pre post : Led} {Q : Bool → Shared → Prop} (hu : A.units < cLine) (H : In F g (pre ++ (a, SetL w cs) :: post) m s) (hE : Elts prog w s.heap ks cs) (hk : (HK prog w).is s.heap k x) (h3 : k ∉ ks → cs.length ≤ 3)
    (hold : k ∈ ks → ∀ s', In F g (pre ++ (a, SetL w cs) :: post) m s' → Q false s') (hnew : k ∉ ks → ∀ p s', In F g (pre ++ (a, SetL w (laid p cs ((HK prog w).hash k, .ref x))) :: post) m s' → Q true s') :
    wpAny (model prog w) A (setAdd a (.ref x)) Q E s := by
  obtain ⟨o, ho, hP, hl⟩ := H.get (a := a) (P := SetL w cs) (by simp)
  exact setAddK hu ho hP hE hk h3 (fun q t => hold q _ (H.toks t)) fun q p o' h' t e1 e2 e4 e3 => hnew q p _ (H.put e3 e1 ⟨e2, e4 hl⟩ t)

/-- {e}, a set display of one tuple -/
theorem setD1 {e : PySem.Expr} {pos : Pos} {c P : Addr} {Q : Value → Shared → Prop} (hu : A.units < cLine) (H : In F g led m s) (hd : CodeHd g c P) (hc : env.code = .ref c)
    (h : ∀ a s1, In F g ((a, SetL w []) :: led) m s1 → wpAny (model prog w) A (eval e env) (fun v s2 => ∃ g2 led2 m2 x k, v = .ref x ∧ In F g2 ((a, SetL w []) :: led2) m2 s2 ∧ (HK prog w).is s2.heap k x ∧
      ∀ s3, In F g2 ((a, SetL w [((HK prog w).hash k, .ref x)]) :: led2) m2 s3 → Q (.ref a) s3) E s1)
    (hst : starEach [e] env = [(false, eval e env)] := by rfl) (hr : displayRoad 0 [e] = .oneByOne := by rfl) : wpAny (model prog w) A (eval (.Set [e] 0 pos) env) Q E s := by
  rw [evs, hr, hst]
  refine wpAny_bind (wpAny_standAt (wpAny_bind (inMain H hd hc fun b => ?_)))
  have e1 : (DisplayRoad.oneByOne == DisplayRoad.constants) = false := rfl
  have e2 : (DisplayRoad.oneByOne == DisplayRoad.unsure) = false := rfl
  simp only [List.map_cons, List.map_nil]
  generalize ht : (do let v ← eval e env; standAt pos; pure v : Sem Value) = t
  have e3 : (if [(false, t)].length > 30 then 0 else (List.findIdx? (fun x : Bool × Sem Value => x.fst) [(false, t)]).getD [(false, t)].length) = 1 := by rfl
  unfold setDisplay
  simp only [e1, e2, Bool.false_eq_true, if_false]
  rw [e3]
  refine wpAny_bind (newSetL H fun a s1 H1 => ?_)
  dsimp only
  refine wpAny_bind (wpAny_holding ?_)
  show wpAny _ A (evalAll [t] >>= _) _ _ _
  subst ht
  refine wpAny_bind (wpAny_bind (wpAny_bind (wpAny_mono (h a s1 H1) (fun v s2 q => ?_) fun _ _ q => q)))
  obtain ⟨g2, led2, m2, x, k, rfl, H2, hk, hQ⟩ := q
  refine wpAny_bind (wpAny_standAt (wpAny_pure (wpAny_bind (wpAny_holding (wpAny_pure (wpAny_pure ?_))))))
  refine wpAny_bind (wpAny_holding ?_)
  simp only [List.forIn_cons, List.forIn_nil]
  refine wpAny_bind (wpAny_bind (wpAny_bind (setAddL (pre := []) (ks := []) hu H2 ⟨.nil, List.nodup_nil⟩ hk (fun _ => Nat.zero_le _) (fun q => by cases q) fun _ p s3 H3 => ?_)))
  refine wpAny_pure (wpAny_pure (wpAny_pure ?_))
  have H3 : In F g2 ((a, SetL w [((HK prog w).hash k, .ref x)]) :: led2) m2 s3 := by simpa [laid] using H3
  exact wpAny_pure (wpAny_pure (hQ s3 H3))
end
end Mine
end

section
open PySem PySem.W PySem.Calls PyProof.Rows
set_option maxRecDepth 100000
namespace Mine

theorem slot_setiter_next : Slot "set_iterator" "__next__" "set_iterator.__next__" :=
  .of (owner := "set_iterator") (n := "__next__") (by rw [typeLookup_type, builtinLookup_eq_fast]; kernel_rfl) (by decide +kernel) (by decide +kernel) (by decide +kernel)
    (by first | exact .inl (by decide +kernel) | exact .inr (by decide +kernel)) (by rw [isSubtype_type]; kernel_rfl)
theorem slot_setiter_iter : Slot "set_iterator" "__iter__" "set_iterator.__iter__" :=
  .of (owner := "set_iterator") (n := "__iter__") (by rw [typeLookup_type, builtinLookup_eq_fast]; kernel_rfl) (by decide +kernel) (by decide +kernel) (by decide +kernel)
    (by first | exact .inl (by decide +kernel) | exact .inr (by decide +kernel)) (by rw [isSubtype_type]; kernel_rfl)
theorem entry_setiter_next : entryFor table "set_iterator.__next__" = some Builtin.«set_iterator.__next__» := entryFor_of_fast (by kernel_rfl)
theorem entry_setiter_iter : entryFor table "set_iterator.__iter__" = some Builtin.«dict_keyiterator.__iter__» :=
  entryFor_alias (id' := "dict_keyiterator.__iter__") (by kernel_rfl) rfl (by decide +kernel) (by kernel_rfl)
theorem entry_set_iter : entryFor table "set.__iter__" = some Builtin.«frozenset.__iter__» :=
  entryFor_alias (id' := "frozenset.__iter__") (by kernel_rfl) rfl (by decide +kernel) (by kernel_rfl)
theorem args_setiter_next (a : Value) : argsOk "set_iterator.__next__" ⟨[a], []⟩ := by unfold argsOk; kernel_rfl
theorem args_setiter_iter (a : Value) : argsOk "set_iterator.__iter__" ⟨[a], []⟩ := by unfold argsOk; kernel_rfl
theorem args_set_iter (a : Value) : argsOk "set.__iter__" ⟨[a], []⟩ := by unfold argsOk; kernel_rfl

end Mine
end

section
open PySem PySem.W PySem.Calls PyProof.Rows
set_option maxRecDepth 100000
namespace Mine

/-! ## orders -/
theorem erase_perm {α : Type} : ∀ {l : List α} {i : Nat} (h : i < l.length), (l[i] :: l.eraseIdx i).Perm l
  | x :: l, 0, _ => List.Perm.refl _
  | x :: l, i + 1, h => (List.Perm.swap x _ _).trans (List.Perm.cons x (erase_perm (l := l) (i := i) (by simpa using h)))
theorem pick_go {α : Type} (next : Nat → Nat) : ∀ (fuel k : Nat) (left : List α) (out : Array α), left.length ≤ fuel → (pickOrder.go next fuel k left out).toList.Perm (out.toList ++ left)
  | 0, k, left, out, h => by
    have : left = [] := List.eq_nil_of_length_eq_zero (by omega)
    subst this
    unfold pickOrder.go
    simp
  | fuel + 1, k, left, out, h => by
    unfold pickOrder.go
    cases hl : left with
    | nil => simp
    | cons y ys =>
      rw [← hl]
      have hpos : 0 < left.length := by rw [hl]; simp
      have hlt : next k % left.length < left.length := Nat.mod_lt _ hpos
      rw [List.getElem?_eq_getElem hlt]
      dsimp only
      refine (pick_go next fuel (k + 1) _ _ (by rw [List.length_eraseIdx_of_lt hlt]; omega)).trans ?_
      rw [Array.toList_push, List.append_assoc]
      refine List.Perm.append_left _ ?_
      exact erase_perm hlt
theorem pick_perm {α : Type} (next : Nat → Nat) (xs : Array α) : (pickOrder next xs).toList.Perm xs.toList := by
  unfold pickOrder
  have := pick_go next xs.size 0 xs.toList #[] (by simp)
  simpa using this

section
variable {prog : Program} {w : World} {mg mb : Str → Option Value} {A : Around} {E : Value → Shared → Prop} {s s' : Shared} {F : Fx} {g g' : Heap} {led : Led} {m : Str → Option Value} {env : Env}

theorem chooseA {M : Model} {src : Source} {n : Nat} {Q : Nat → Shared → Prop} (hn : n ≠ 0) (h : ∀ i d, i < n → Q i { s with drawn := d }) : wpAny M A (choose src n) Q E s := fun Γ p _ => by
  unfold choose
  rw [Sem.wp_choose]
  exact ⟨hn, h _ _ (Nat.mod_lt _ (Nat.pos_of_ne_zero hn))⟩
theorem drawOrderA {M : Model} {α : Type} : ∀ (n : Nat) (xs : List α) (s : Shared) {Q : List α → Shared → Prop}, xs.length ≤ n → (∀ l d, l.Perm xs → Q l { s with drawn := d }) → wpAny M A (drawOrder n xs) Q E s
  | 0, xs, s, Q, hn, h => by
    have : xs = [] := List.eq_nil_of_length_eq_zero (by omega)
    subst this
    unfold drawOrder
    exact wpAny_pure (h [] s.drawn (List.Perm.refl _))
  | n + 1, [], s, Q, hn, h => by
    unfold drawOrder
    exact wpAny_pure (h [] s.drawn (List.Perm.refl _))
  | n + 1, x :: xs, s, Q, hn, h => by
    unfold drawOrder
    refine wpAny_bind (chooseA (by simp) fun i d hi => ?_)
    rw [List.getElem?_eq_getElem hi]
    dsimp only
    refine wpAny_bind (drawOrderA n _ _ (by rw [List.length_eraseIdx_of_lt hi]; simp at hn ⊢; omega) fun l d' hl => wpAny_pure ?_)
    exact h _ d' ((List.Perm.cons _ hl).trans (erase_perm hi))
end
end Mine
end

section
open PySem PySem.W PySem.Calls PyProof.Rows
set_option maxRecDepth 100000
namespace Mine

def LedW (w : World) (o : Obj) : Prop := ∀ es ep t, o.data = .set es ep t → es = #[] ∨ t.led = true ∨ w.params.followText "set-order" = true
theorem LedOK.w {w : World} {o : Obj} (h : LedOK w o) : LedW w o := fun es ep t e => .inr (h es ep t e)

section
variable {prog : Program} {w : World} {mg mb : Str → Option Value} {A : Around} {E : Value → Shared → Prop} {s s' : Shared} {F : Fx} {g g' : Heap} {led : Led} {m : Str → Option Value} {env : Env}
variable {a x : Addr} {k : List K0} {o : Obj} {cs : List (Int × Value)} {ks : List (List K0)}

abbrev sitObj (first : Value) (i : Int) (a : Addr) (n ep : Int) : Obj := { cls := .type "set_iterator", dict := none, data := .fields #[first, rawInt i, .ref a, rawInt n, rawInt ep], slots := #[] }

/-- a step of a set's iterator: what the set says, then the two fields -/
theorem sit_ret {I : Addr} {first first' : Value} {i n ep : Int} {v : Value} {P : PySem.Fin → Shared → Prop} (ho : s.heap.get? I = some (sitObj first i a n ep))
    (h : ∀ h', h'.get? I = some (sitObj first' (i + 1) a n ep) → Heap.SameBut I s.heap h' → P (.done (.ret v)) { s with heap := h' }) :
    wpAny (model prog w) A (setField (.ref I) 0 first' >>= fun _ => setField (.ref I) 1 (rawInt (i + 1)) >>= fun _ => ret v) P E s := by
  refine wpAny_bind (wpAny_setField_rec ho (by simp) fun h1 e1 s1 => ?_)
  refine wpAny_bind (wpAny_setField_rec (s := { s with heap := h1 }) e1 (by simp) fun h2 e2 s2 => ?_)
  exact wpAny_pure (h h2 (by simpa using e2) (s1.trans s2))

theorem sit_item {I : Addr} {sl i n ep nx : Nat} {v : Value} {Q : Option Value → Shared → Prop} (ho : s.heap.get? I = some (sitObj (rawInt sl) i a n ep)) (hs : s.heap.get? a = some o) (hP : SetP cs o) (hn : n = cs.length)
    (ht : ∀ (A : Around) (E : Value → Shared → Prop) (Q : Option (Value × Nat) → Shared → Prop), Q (some (v, nx)) s → wpAny (model prog w) A (setNext a sl i ep) Q E s)
    (h : ∀ h', h'.get? I = some (sitObj (rawInt nx) ((i : Int) + 1) a n ep) → Heap.SameBut I s.heap h' → Q (some v) { s with heap := h' }) :
    wpAny (model prog w) A (pyNext (.ref I)) Q E s := by
  have hT : s.TypeIs (.ref I) "set_iterator" := ⟨_, ho, rfl⟩
  obtain ⟨_, _, _, ep', b, led, fin, mv, pl, hd, hb, hl, h4, hr⟩ := hP
  unfold pyNext
  refine wpAny_bind (wpAny_attempt (wpAny_callSpecial?_slot (name := Str.ofString "__next__") hT slot_setiter_next (wpAny_call_entry slot_setiter_next hT entry_setiter_next ?_ (args_setiter_next _))))
  unfold Builtin.«set_iterator.__next__»
  refine wpAny_bind (wpAny_pure ?_)
  refine wpAny_bind (wpAny_fieldsOf ho rfl ?_)
  simp only [rawInt]
  refine wpAny_bind (wpAny_setEntries_of hs hd (fits8 hl h4) ?_)
  rw [if_neg (by simp [hn])]
  simp only [Int.toNat_natCast]
  refine wpAny_bind (ht _ _ _ ?_)
  dsimp only
  exact sit_ret (first' := .int nx 0) ho fun h' e1 e2 => ⟨v, rfl, wpAny_pure (h h' e1 e2)⟩

theorem sit_end {I : Addr} {sl i n ep : Nat} {Q : Option Value → Shared → Prop} (hh : A.handled = none) (ho : s.heap.get? I = some (sitObj (rawInt sl) i a n ep)) (hs : s.heap.get? a = some o) (hP : SetP cs o) (hn : n = cs.length)
    (ht : ∀ (A : Around) (E : Value → Shared → Prop) (Q : Option (Value × Nat) → Shared → Prop), Q none s → wpAny (model prog w) A (setNext a sl i ep) Q E s)
    (hQ : ∀ h', Heap.ExtBut I s.heap h' → Q none { s with heap := h' }) :
    wpAny (model prog w) A (pyNext (.ref I)) Q E s := by
  have hT : s.TypeIs (.ref I) "set_iterator" := ⟨_, ho, rfl⟩
  obtain ⟨_, _, _, ep', b, led, fin, mv, pl, hd, hb, hl, h4, hr⟩ := hP
  unfold pyNext
  refine wpAny_bind (wpAny_attempt (wpAny_callSpecial?_slot (name := Str.ofString "__next__") hT slot_setiter_next (wpAny_call_entry slot_setiter_next hT entry_setiter_next ?_ (args_setiter_next _))))
  unfold Builtin.«set_iterator.__next__»
  refine wpAny_bind (wpAny_pure ?_)
  refine wpAny_bind (wpAny_fieldsOf ho rfl ?_)
  simp only [rawInt]
  refine wpAny_bind (wpAny_setEntries_of hs hd (fits8 hl h4) ?_)
  rw [if_neg (by simp [hn])]
  simp only [Int.toNat_natCast]
  refine wpAny_bind (ht _ _ _ ?_)
  dsimp only
  refine wpAny_bind (wpAny_setField ho rfl (by simp) ?_)
  refine wpAny_bind ?_
  simp only [newExc, newTuple]
  refine wpAny_bind (wpAny_newObj_type ?_ (by size_fits))
  refine wpAny_bind (m := firstArgMember _ _) (wpAny_of_eq (a := Value.none) (by first | rfl | (simp only [firstArgMember]; rfl)) ?_)
  refine wpAny_newObj_type ?_ (by size_fits)
  simp only [raiseNew]
  refine wpAny_bind (wpAny_handled ?_)
  rw [show A.in1.handled = none from hh]
  refine wpAny_bind (wpAny_pure (wpAny_throw ?_))
  refine wpAny_bind (wpAny_isInstance (T := "StopIteration") (b := true) ⟨_, Heap.get?_push_size _ rfl, rfl⟩ isSubtype_stop ?_)
  exact wpAny_pure (hQ _ (((Heap.SameBut.update ..).extBut.push _).push _))

/-- the same for a walk whose order was drawn -/
theorem sit_itemD {I T : Addr} {i n ep : Nat} {v : Value} {js : List Nat} {j : Nat} {Q : Option Value → Shared → Prop} (ho : s.heap.get? I = some (sitObj (.ref T) i a n ep)) (hs : s.heap.get? a = some o) (hP : SetP cs o) (hn : n = cs.length)
    (hT' : IsTup s.heap T (js.map fun (j : Nat) => rawInt j).toArray) (hj : js[i]? = some j) (hv : cs[j]?.map (·.2) = some v) (hep : ∃ es t, o.data = .set es ep t)
    (h : ∀ h', h'.get? I = some (sitObj (.ref T) ((i : Int) + 1) a n ep) → Heap.SameBut I s.heap h' → Q (some v) { s with heap := h' }) :
    wpAny (model prog w) A (pyNext (.ref I)) Q E s := by
  have hT : s.TypeIs (.ref I) "set_iterator" := ⟨_, ho, rfl⟩
  obtain ⟨_, _, _, ep', b, led, fin, mv, pl, hd, hb, hl, h4, hr⟩ := hP
  have eep : ep' = ep := by obtain ⟨es, t, e⟩ := hep; rw [hd] at e; injection e
  subst eep
  obtain ⟨oT, hoT, _, nT, hdT⟩ := hT'
  unfold pyNext
  refine wpAny_bind (wpAny_attempt (wpAny_callSpecial?_slot (name := Str.ofString "__next__") hT slot_setiter_next (wpAny_call_entry slot_setiter_next hT entry_setiter_next ?_ (args_setiter_next _))))
  unfold Builtin.«set_iterator.__next__»
  refine wpAny_bind (wpAny_pure ?_)
  refine wpAny_bind (wpAny_fieldsOf ho rfl ?_)
  simp only [rawInt]
  refine wpAny_bind (wpAny_setEntries_of hs hd (fits8 hl h4) ?_)
  rw [if_neg (by simp [hn])]
  refine wpAny_bind (wpAny_seqItems hoT hdT ?_)
  simp only [Int.toNat_natCast]
  have e1 : (js.map fun (j : Nat) => rawInt j).toArray[i]? = some (rawInt j) := by rw [List.getElem?_toArray, List.getElem?_map, hj]; rfl
  rw [e1]
  simp only [rawInt, Int.toNat_natCast]
  unfold setNextDrawn
  refine wpAny_bind (wpAny_bind (wpAny_setState_of hs hd (fits8 hl h4) ?_))
  dsimp only
  rw [if_neg (by simp)]
  obtain ⟨e, he, rfl⟩ := Option.map_eq_some_iff.mp hv
  rw [List.getElem?_toArray, he]
  dsimp only
  refine wpAny_pure ?_
  refine wpAny_bind (wpAny_setField_rec ho (by simp) fun h2 e2 s2 => ?_)
  exact wpAny_pure ⟨_, rfl, wpAny_pure (h h2 (by simp [rawInt] at e2; exact e2) s2)⟩

theorem sit_endD {I T : Addr} {i n ep : Nat} {js : List Nat} {Q : Option Value → Shared → Prop} (hh : A.handled = none) (ho : s.heap.get? I = some (sitObj (.ref T) i a n ep)) (hs : s.heap.get? a = some o) (hP : SetP cs o) (hn : n = cs.length)
    (hT' : IsTup s.heap T (js.map fun (j : Nat) => rawInt j).toArray) (hj : js[i]? = none)
    (hQ : ∀ h', Heap.ExtBut I s.heap h' → Q none { s with heap := h' }) :
    wpAny (model prog w) A (pyNext (.ref I)) Q E s := by
  have hT : s.TypeIs (.ref I) "set_iterator" := ⟨_, ho, rfl⟩
  obtain ⟨_, _, _, ep', b, led, fin, mv, pl, hd, hb, hl, h4, hr⟩ := hP
  obtain ⟨oT, hoT, _, nT, hdT⟩ := hT'
  unfold pyNext
  refine wpAny_bind (wpAny_attempt (wpAny_callSpecial?_slot (name := Str.ofString "__next__") hT slot_setiter_next (wpAny_call_entry slot_setiter_next hT entry_setiter_next ?_ (args_setiter_next _))))
  unfold Builtin.«set_iterator.__next__»
  refine wpAny_bind (wpAny_pure ?_)
  refine wpAny_bind (wpAny_fieldsOf ho rfl ?_)
  simp only [rawInt]
  refine wpAny_bind (wpAny_setEntries_of hs hd (fits8 hl h4) ?_)
  rw [if_neg (by simp [hn])]
  refine wpAny_bind (wpAny_seqItems hoT hdT ?_)
  simp only [Int.toNat_natCast]
  have e1 : (js.map fun (j : Nat) => rawInt j).toArray[i]? = none := by rw [List.getElem?_toArray, List.getElem?_map, hj]; rfl
  rw [e1]
  dsimp only
  refine wpAny_bind (wpAny_setField_rec ho (by simp) fun h2 e2 s2 => ?_)
  refine wpAny_bind (wpAny_setField_rec (s := { s with heap := h2 }) e2 (by simp) fun h3 e3 s3 => ?_)
  refine wpAny_bind ?_
  simp only [newExc, newTuple]
  refine wpAny_bind (wpAny_newObj_type ?_ (by size_fits))
  refine wpAny_bind (m := firstArgMember _ _) (wpAny_of_eq (a := Value.none) (by first | rfl | (simp only [firstArgMember]; rfl)) ?_)
  refine wpAny_newObj_type ?_ (by size_fits)
  simp only [raiseNew]
  refine wpAny_bind (wpAny_handled ?_)
  rw [show A.in1.handled = none from hh]
  refine wpAny_bind (wpAny_pure (wpAny_throw ?_))
  refine wpAny_bind (wpAny_isInstance (T := "StopIteration") (b := true) ⟨_, Heap.get?_push_size _ rfl, rfl⟩ isSubtype_stop ?_)
  exact wpAny_pure (hQ _ (((s2.trans s3).extBut.push _).push _))

theorem below_dec9 : ∀ b : _root_.Fin 256, ∀ j : _root_.Fin 8, Nat.testBit b j = true → SetTable.below (slotsOf b.val).toArray (j.val + 1) = rankOf b.val j.val + 1 := by decide +kernel

/-- how the set answers its iterator -/
structure Answers (prog : Program) (w : World) (a : Addr) (o : Obj) (ep : Nat) (vs : List Value) (ok : Nat → Nat → Prop) : Prop where
  start : ok 0 0
  item : ∀ i sl v, ok i sl → vs[i]? = some v → ∃ nx, ok (i + 1) nx ∧ ∀ (A : Around) (E : Value → Shared → Prop) (s : Shared) (Q : Option (Value × Nat) → Shared → Prop), s.heap.get? a = some o → Q (some (v, nx)) s → wpAny (model prog w) A (setNext a sl i ep) Q E s
  stop : ∀ i sl, ok i sl → vs[i]? = none → ∀ (A : Around) (E : Value → Shared → Prop) (s : Shared) (Q : Option (Value × Nat) → Shared → Prop), s.heap.get? a = some o → Q none s → wpAny (model prog w) A (setNext a sl i ep) Q E s

theorem byTextA {A : Around} {Q : Bool → Shared → Prop} (h : Q (w.params.followText "set-order") s) : wpAny (model prog w) A setsByText Q E s := wpAny_bind (wpAny_askSetting (wpAny_pure h))

theorem answersText (hP : SetP cs o) (hbt : w.params.followText "set-order" = true) {es : Array (Int × Value)} {ep : Nat} {t : SetTable} (hep : o.data = .set es ep t) :
    Answers prog w a o ep ((pickOrder (w.params.setOrder a ep) cs.toArray).toList.map (·.2)) (fun _ _ => True) := by
  obtain ⟨_, _, _, ep', b, led, fin, mv, pl, hd, hb, hl, h4, hr⟩ := hP
  have eep : ep' = ep := by rw [hd] at hep; injection hep
  subst eep
  have key : ∀ (A : Around) (E : Value → Shared → Prop) (s : Shared) (i sl : Nat) (Q : Option (Value × Nat) → Shared → Prop), s.heap.get? a = some o → Q (((pickOrder (w.params.setOrder a ep') cs.toArray)[i]?).map fun e => (e.2, sl)) s → wpAny (model prog w) A (setNext a sl i ep') Q E s := by
    intro A E s i sl Q hs hQ
    unfold setNext
    refine wpAny_bind (wpAny_setState_of hs hd (fits8 hl h4) ?_)
    dsimp only
    refine wpAny_bind (byTextA ?_)
    rw [hbt]
    simp only [if_true]
    rw [if_neg (by simp)]
    refine wpAny_bind ?_
    unfold setWalk
    refine wpAny_bind (wpAny_setState_of hs hd (fits8 hl h4) ?_)
    dsimp only
    refine wpAny_bind (byTextA ?_)
    rw [hbt]
    simp only [if_true]
    exact wpAny_bind (wpAny_askSetting (wpAny_pure (wpAny_pure hQ)))
  refine ⟨trivial, fun i sl v _ hv => ⟨sl, trivial, fun A E s Q hs hQ => key A E s i sl Q hs ?_⟩, fun i sl _ hv A E s Q hs hQ => key A E s i sl Q hs ?_⟩
  · rw [List.getElem?_map, Array.getElem?_toList] at hv
    obtain ⟨e, he, rfl⟩ := Option.map_eq_some_iff.mp hv
    rw [he]; exact hQ
  · rw [List.getElem?_map, Array.getElem?_toList] at hv
    rw [Option.map_eq_none_iff.mp hv]; exact hQ

theorem answersSlots (hP : SetP cs o) (hl0 : LedW w o) (hbt : w.params.followText "set-order" = false) {ep : Nat} (hep : ∃ es t, o.data = .set es ep t ∧ (!t.plain && decide (es.size > 1)) = false) :
    ∃ ok, Answers prog w a o ep (cs.map (·.2)) ok := by
  obtain ⟨_, _, _, ep', b, led, fin, mv, pl, hd, hb, hl, h4, hr⟩ := hP
  obtain ⟨es, t, e1, e2⟩ := hep
  have e3 := e1
  rw [hd] at e3
  injection e3 with q1 q2 q3
  subst q1 q2 q3
  have hled : (!led && !cs.toArray.isEmpty) = false := by
    rcases hl0 _ _ _ hd with h | h | h
    · rw [h]; simp
    · rw [show led = true from h]; rfl
    · rw [hbt] at h; cases h
  have key : ∀ (A : Around) (E : Value → Shared → Prop) (s : Shared) (i sl : Nat) (Q : Option (Value × Nat) → Shared → Prop), s.heap.get? a = some o → SetTable.below (slotsOf b).toArray sl = i →
      Q (match cs.toArray[i]?, (slotsOf b).toArray[i]? with | some (_, x), some j => some (x, j + 1) | _, _ => none) s → wpAny (model prog w) A (setNext a sl i ep') Q E s := by
    intro A E s i sl Q hs hi hQ
    unfold setNext
    refine wpAny_bind (wpAny_setState_of hs hd (fits8 hl h4) ?_)
    dsimp only
    refine wpAny_bind (byTextA ?_)
    rw [hbt]
    simp only [Bool.false_eq_true, if_false]
    rw [if_neg (by intro q; have q' : (!pl && decide (cs.toArray.size > 1)) = true := q; have e2' : (!pl && decide (cs.toArray.size > 1)) = false := e2; rw [e2'] at q'; cases q')]
    refine wpAny_bind ?_
    refine (show wpAny (model prog w) A (if (!led && !cs.toArray.isEmpty) = true then unsupported "set:maker-not-led" else pure ()) _ E s from ?_)
    rw [if_neg (by rw [hled]; simp)]
    refine wpAny_pure ?_
    show wpAny _ A (pure (match cs.toArray[SetTable.below (slotsOf b).toArray sl]?, (slotsOf b).toArray[SetTable.below (slotsOf b).toArray sl]? with | some (_, x), some j => some (x, j + 1) | _, _ => none)) Q E s
    rw [hi]
    exact wpAny_pure hQ
  refine ⟨fun i sl => SetTable.below (slotsOf b).toArray sl = i, ⟨?_, fun i sl v hi hv => ?_, fun i sl hi hv A E s Q hs hQ => key A E s i sl Q hs hi ?_⟩⟩
  · have := (below_dec ⟨b, hb⟩ ⟨0, by decide⟩).1
    exact this
  · rw [List.getElem?_map] at hv
    obtain ⟨e, he, rfl⟩ := Option.map_eq_some_iff.mp hv
    have hlt : i < (slotsOf b).length := by rw [← hl]; exact (List.getElem?_eq_some_iff.mp he).1
    have hj := List.getElem?_eq_getElem hlt
    obtain ⟨hbit, hj8⟩ := bit_of_slot hj
    refine ⟨(slotsOf b)[i] + 1, ?_, fun A E s Q hs hQ => key A E s i sl Q hs hi ?_⟩
    · have e1 := below_dec9 ⟨b, hb⟩ ⟨(slotsOf b)[i], hj8⟩ hbit
      have nd : (slotsOf b).Nodup := List.Nodup.sublist List.filter_sublist List.nodup_range
      have e2 : i = rankOf b (slotsOf b)[i] := (List.getElem?_inj hlt nd).mp (hj.trans (slots_rank hb hj8 hbit).symm)
      dsimp only at e1
      rw [e1, ← e2]
    · rw [List.getElem?_toArray, List.getElem?_toArray, he, hj]; exact hQ
  · rw [List.getElem?_map] at hv
    have := Option.map_eq_none_iff.mp hv
    rw [List.getElem?_toArray, this]; exact hQ

theorem sitSelf {I : Addr} {first : Value} {i n ep : Int} {Q : Value → Shared → Prop} (ho : s.heap.get? I = some (sitObj first i a n ep)) (h : Q (.ref I) s) : wpAny (model prog w) A (pyIter (.ref I)) Q E s := by
  have hT : s.TypeIs (.ref I) "set_iterator" := ⟨_, ho, rfl⟩
  refine wpAny_pyIter_slot hT slot_setiter_iter (wpAny_call_entry slot_setiter_iter hT entry_setiter_iter ?_ (args_setiter_iter _))
  show wpAny _ _ (ret (.ref I)) _ _ s
  exact wpAny_pure ⟨_, rfl, "set_iterator", _, hT, slot_setiter_next.lookup, h⟩
theorem itSet {Q : Value → Shared → Prop} (H : In F g led m s) (ha : g.get? a = some o) (hP : SetP cs o) (hl0 : LedW w o)
    (h : ∀ I (St : List Value → Obj → Prop) vs g' s', Sub g g' → vs.Perm (cs.map (·.2)) → Src prog w g' (fun v x => v = x) I St → In F g' ((I, St vs) :: led) m s' → Q (.ref I) s') :
    wpAny (model prog w) A (pyIter (.ref a)) Q E s := by
  have hs := H.into _ _ ha
  have hT := hP.typeIs hs
  have hP0 := hP
  obtain ⟨_, _, _, ep, b, ledb, fin, mv, pl, hd, hb, hl, h4, hr⟩ := hP0
  refine wpAny_pyIter_slot hT PySem.F.slot_set_iter (wpAny_call_entry PySem.F.slot_set_iter hT entry_set_iter ?_ (args_set_iter _))
  unfold Builtin.«frozenset.__iter__» Builtin.Frozenset.slot0 Builtin.Frozenset.sizeOf setEpoch
  refine wpAny_bind (wpAny_pure ?_)
  refine wpAny_bind (wpAny_bind (wpAny_setEntries_of hs hd (fits8 hl h4) (wpAny_pure ?_)))
  unfold setDrawn
  refine wpAny_bind (wpAny_bind (wpAny_setState_of hs hd (fits8 hl h4) ?_))
  refine wpAny_bind (byTextA ?_)
  refine wpAny_pure ?_
  -- the two ways
  have plainWay : ∀ (vs : List Value) (ok : Nat → Nat → Prop), Answers prog w a o ep vs ok → vs.Perm (cs.map (·.2)) → wpAny (model prog w) A.in1 (newFields "set_iterator" [rawInt 0, rawInt 0, .ref a, rawInt cs.toArray.size, rawInt ep] >>= fun v => ret v)
      (fun fin s' => ∃ v, fin = PySem.Fin.done (.ret v) ∧ ∃ (T : String) (r : Value), s'.TypeIs v T ∧ typeLookup (.type T) "__next__" = pure (some r) ∧ Q v s') E s := by
    intro vs ok An hpm
    have hlen : vs.length = cs.length := by rw [hpm.length_eq, List.length_map]
    simp only [newFields]
    refine wpAny_bind (wpAny_newObj_type (wpAny_pure ⟨_, rfl, "set_iterator", _, ⟨_, Heap.get?_push_size _ rfl, rfl⟩, slot_setiter_next.lookup, ?_⟩))
    refine h _ (fun rest o' => ∃ i sl, rest = vs.drop i ∧ i ≤ vs.length ∧ ok i sl ∧ o' = sitObj (rawInt sl) i a cs.length ep) vs g _ (.refl _) hpm ?_ (H.new _ rfl _ ⟨0, 0, rfl, Nat.zero_le _, An.start, by simp⟩)
    refine ⟨?_, ?_, ?_⟩
    · intro A E F g' led m s rest Q hh hg H h
      obtain ⟨o', ho', i, sl, hr, hi, hok, rfl⟩ := H.get (.head _)
      have hs := H.into _ _ (hg _ _ ha)
      rcases Nat.lt_or_ge i vs.length with hlt | hge
      · have hv := List.getElem?_eq_getElem hlt
        obtain ⟨nx, hok', hans⟩ := An.item i sl _ hok hv
        rw [List.drop_eq_getElem_cons hlt] at hr
        subst hr
        refine sit_item ho' hs hP rfl (fun A E Q hQ => hans A E s Q hs hQ) fun h' e1 s1 => ?_
        exact h _ _ rfl (H.wr (tk := s.toks) (fun b x n e => (s1.2 b n).trans e) (Nat.le_of_eq s1.1.symm) e1 ⟨i + 1, nx, rfl, hlt, hok', rfl⟩)
      · have hv : vs[i]? = none := List.getElem?_eq_none hge
        have hd' : vs.drop i = [] := List.drop_eq_nil_of_le hge
        rw [hd'] at hr; subst hr
        refine sz (sit_end hh ho' hs hP rfl (fun A E Q hQ => An.stop i sl hok hv A E s Q hs hQ) fun h' e1 hz => ?_)
        exact h _ (H.lose (tk := s.toks) (fun b x n e => e1 b x n e) hz)
    · intro A E F g' led m s rest Q hg H h
      obtain ⟨o', ho', i, sl, hr, hi, hok, rfl⟩ := H.get (.head _)
      refine sitSelf ho' h
    · intro A E F g' led m s rest tgt v Q hg H h
      obtain ⟨o', ho', i, sl, hr, hi, hok, rfl⟩ := H.get (.head _)
      exact letOwned ho' rfl (by decide) h
  cases hbt : w.params.followText "set-order" with
  | true =>
    simp only [Bool.not_true, Bool.false_and, Bool.false_eq_true, if_false]
    refine wpAny_bind (wpAny_pure (wpAny_bind (wpAny_bind (wpAny_setState_of hs hd (fits8 hl h4) (wpAny_pure ?_)))))
    refine plainWay _ _ (answersText hP hbt hd) ?_
    have := (pick_perm (w.params.setOrder a ep) cs.toArray).map (·.2)
    simpa using this
  | false =>
    simp only [Bool.not_false, Bool.true_and]
    split
    · rename_i hdr
      have Hd : ∀ d, In F g led m { s with drawn := d } := fun d => H.same rfl rfl rfl
      refine wpAny_bind (drawOrderA _ _ _ (by show (List.range cs.toArray.size).length ≤ cs.toArray.size; rw [List.length_range]; exact Nat.le_refl _) fun js d hjs => ?_)
      refine wpAny_bind (newT (Hd d) (fun T g' s' hs' hTT H' => ?_) (by rw [List.length_map, hjs.length_eq, List.length_range, sizeLine_eq]; simp; omega))
      have hs2 := H'.into _ _ (hs' _ _ ha)
      refine wpAny_bind (wpAny_bind (wpAny_setState_of hs2 hd (fits8 hl h4) (wpAny_pure ?_)))
      simp only [newFields]
      refine wpAny_bind (wpAny_newObj_type (wpAny_pure ⟨_, rfl, "set_iterator", _, ⟨_, Heap.get?_push_size _ rfl, rfl⟩, slot_setiter_next.lookup, ?_⟩))
      have hjlen : js.length = cs.length := by rw [hjs.length_eq]; simp
      have hjlt : ∀ j ∈ js, j < cs.length := fun j hj => by have := hjs.mem_iff.mp hj; simpa using this
      refine h _ (fun rest o' => ∃ i, rest = (js.map fun j => (cs[j]?.map (·.2)).getD .none).drop i ∧ i ≤ js.length ∧ o' = sitObj (.ref T) i a cs.length ep) (js.map fun j => (cs[j]?.map (·.2)).getD .none) g' _ hs' ?_ ?_ (H'.new _ rfl _ ⟨0, rfl, Nat.zero_le _, by simp⟩)
      · refine (hjs.map _).trans ?_
        have : (List.range cs.toArray.size).map (fun j => (cs[j]?.map (·.2)).getD .none) = cs.map (·.2) := by
          apply List.ext_getElem?
          intro i
          rw [List.getElem?_map, List.getElem?_map]
          rcases Nat.lt_or_ge i cs.length with q | q
          · rw [List.getElem?_range (by simpa using q), List.getElem?_eq_getElem q]
            simp [List.getElem?_eq_getElem q]
          · rw [List.getElem?_eq_none (by simpa using q), List.getElem?_eq_none q]
            rfl
        rw [this]
      · have hTf : ∀ {h : Heap}, Sub g' h → IsTup h T (js.map fun (j : Nat) => rawInt j).toArray := fun x => isTup_mono hTT x
        refine ⟨?_, ?_, ?_⟩
        · intro A E F g2 led m s rest Q hh hg H h
          obtain ⟨o', ho', i, hr, hi, rfl⟩ := H.get (.head _)
          have hs := H.into _ _ (hg _ _ (hs' _ _ ha))
          rcases Nat.lt_or_ge i js.length with hlt | hge
          · have hv := List.getElem?_eq_getElem hlt
            have hcl := hjlt _ (List.getElem_mem hlt)
            rw [List.drop_eq_getElem_cons (by simpa using hlt)] at hr
            subst hr
            refine sit_itemD (v := (js.map fun j => (cs[j]?.map (·.2)).getD .none)[i]'(by simpa using hlt)) ho' hs hP rfl (hTf (hg.trans H.into)) hv (by simp [List.getElem?_eq_getElem hcl]) ⟨_, _, hd⟩ fun h' e1 s1 => ?_
            exact h _ _ rfl (H.wr (tk := s.toks) (fun b x n e => (s1.2 b n).trans e) (Nat.le_of_eq s1.1.symm) e1 ⟨i + 1, rfl, hlt, rfl⟩)
          · have hd' : (js.map fun j => (cs[j]?.map (·.2)).getD .none).drop i = [] := List.drop_eq_nil_of_le (by simpa using hge)
            rw [hd'] at hr; subst hr
            refine sz (sit_endD hh ho' hs hP rfl (hTf (hg.trans H.into)) (List.getElem?_eq_none hge) fun h' e1 hz => ?_)
            exact h _ (H.lose (tk := s.toks) (fun b x n e => e1 b x n e) hz)
        · intro A E F g2 led m s rest Q hg H h
          obtain ⟨o', ho', i, hr, hi, rfl⟩ := H.get (.head _)
          exact sitSelf ho' h
        · intro A E F g2 led m s rest tgt v Q hg H h
          obtain ⟨o', ho', i, hr, hi, rfl⟩ := H.get (.head _)
          exact letOwned ho' rfl (by decide) h
    · rename_i hdr
      obtain ⟨ok, An⟩ := answersSlots (prog := prog) hP hl0 hbt (a := a) (ep := ep) ⟨_, _, hd, by
        have q : ¬ (!pl && decide (cs.toArray.size > 1)) = true := hdr
        have q2 : (!pl && decide (cs.toArray.size > 1)) = false := by simpa using q
        exact q2⟩
      refine wpAny_bind (wpAny_pure (wpAny_bind (wpAny_bind (wpAny_setState_of hs hd (fits8 hl h4) (wpAny_pure ?_)))))
      exact plainWay _ _ An (List.Perm.refl _)
end
end Mine
end

section
open PySem PySem.W PySem.Calls PyProof.Rows
set_option maxRecDepth 100000
namespace Mine
section
variable {prog : Program} {w : World} {mg mb : Str → Option Value} {A : Around} {E : Value → Shared → Prop} {s s' : Shared} {F : Fx} {g g' : Heap} {led : Led} {m : Str → Option Value} {env : Env}
variable {a d x : Addr} {k : List K0} {o : Obj}

/-! ## dicts keyed by tuples -/
abbrev KVs := List (List K0 × Addr × Value)
def DP (prog : Program) (w : World) (xs : KVs) : Obj → Prop := fun o => o.ExactDict ∧ ∃ es ep, o.data = .dict es ep ∧ es.toList = xs.map (entryOfKey (HK prog w)) ∧ (xs.map (·.1)).Nodup
def KeysIn (prog : Program) (w : World) (g : Heap) (xs : KVs) : Prop := ∀ x ∈ xs, (HK prog w).is g x.1 x.2.1
variable {xs : KVs}
theorem KeysIn.mono (h : KeysIn prog w g xs) (hs : Sub g g') : KeysIn prog w g' xs := fun x hx => key_keeps (h x hx) hs
theorem KeysIn.stored {v : Value} (h : KeysIn prog w g xs) (hk : (HK prog w).is g k a) : KeysIn prog w g (storedH xs k a v) := by
  intro x hx
  unfold storedH at hx
  split at hx
  · obtain ⟨y, hy, rfl⟩ := List.mem_map.mp hx
    have := h y hy
    unfold putAt
    split <;> exact this
  · rcases List.mem_append.mp hx with hx | hx
    · exact h x hx
    · cases List.mem_singleton.mp hx; exact hk
theorem DP.at {h : Heap} (p : DP prog w xs o) (ho : h.get? d = some o) (hk : KeysIn prog w h xs) : h.DictOfH (HK prog w) d xs := let ⟨c, es, ep, e1, e2, e3⟩ := p; ⟨o, es, ep, ho, c, e1, e2, hk, e3⟩
theorem In.dict {pre post : Led} (H : In F g (pre ++ (d, DP prog w xs) :: post) m s) (hk : KeysIn prog w g xs) : s.heap.DictOfH (HK prog w) d xs := by
  obtain ⟨o, ho, p⟩ := H.get (a := d) (P := DP prog w xs) (by simp)
  exact p.at ho (hk.mono H.into)
theorem In.newD (H : In F g led m s) : In F g ((s.heap.objs.size, DP prog w []) :: led) m { s with heap := s.heap.push { cls := .type "dict", data := .dict #[] } } :=
  H.new _ rfl _ ⟨⟨rfl, rfl, rfl⟩, #[], 0, rfl, rfl, List.nodup_nil⟩
theorem In.gt (H : In F g led m s) (k : KB w mg mb g) : 403 < s.heap.objs.size := by
  have := k.X 403
  cases hl : (hd.heap_39 w.params).lookup 403 with
  | some o => exact Heap.lt_size (H.into _ _ (k.X 403 o hl))
  | none => exact absurd hl (by have : ((hd.heap_39 w.params).lookup 403).isSome = true := by kernel_rfl
                                intro q; rw [q] at this; cases this)

/-- d[k] = v, d on the ledger -/
theorem setD {pre post : Led} {v : Value} {Q : Unit → Shared → Prop} (hu : A.units + 1 < cLine) (H : In F g (pre ++ (d, DP prog w xs) :: post) m s) (hK : KeysIn prog w g xs) (hk : (HK prog w).is g k a) (hz : xs.length ≤ 1000)
    (h : ∀ s', In F g (pre ++ (d, DP prog w (storedH xs k a v)) :: post) m s' → Q () s') : wpAny (model prog w) A (setItem (.ref d) (.ref a) v) Q E s := by
  refine wpAny_setItem_heap (knd := HK prog w) hu (key_keeps hk H.into) (H.dict hK) (fun h' hd' hs => ?_) (by rw [sizeLine_eq]; omega)
  obtain ⟨o, es, ep, ho, c, e1, e2, _, e3⟩ := hd'
  exact h _ (H.put hs ho ⟨c, es, ep, e1, e2, e3⟩ _)
theorem dictSetD {pre post : Led} {v : Value} {Q : Unit → Shared → Prop} (hu : A.units < cLine) (H : In F g (pre ++ (d, DP prog w xs) :: post) m s) (hK : KeysIn prog w g xs) (hk : (HK prog w).is g k a) (hz : xs.length ≤ 1000)
    (h : ∀ s', In F g (pre ++ (d, DP prog w (storedH xs k a v)) :: post) m s' → Q () s') : wpAny (model prog w) A (dictSet d (.ref a) v) Q E s := by
  refine wpAny_dictSet_heap (knd := HK prog w) hu (key_keeps hk H.into) (H.dict hK) (fun h' hd' hs => ?_) (by rw [sizeLine_eq]; omega)
  obtain ⟨o, es, ep, ho, c, e1, e2, _, e3⟩ := hd'
  exact h _ (H.put hs ho ⟨c, es, ep, e1, e2, e3⟩ _)

-- reading, wherever the dict lies
theorem inD {Q : Value → Shared → Prop} (hu : A.units + 1 < cLine) (H : In F g led m s) (hk : (HK prog w).is g k a) (hd : d ≠ 1) (hm : s.heap.DictOfH (HK prog w) d xs) (h : ∀ s', In F g led m s' → Q (.bool (atKey xs k).isSome) s') :
    wpAny (model prog w) A (compareOp .In (.ref a) (.ref d)) Q E s :=
  wpAny_in_heap (knd := HK prog w) hu (key_keeps hk H.into) (by simpa [sysModules] using hd) hm (h _ (H.toks _))
theorem notInD {Q : Value → Shared → Prop} (hu : A.units + 1 < cLine) (H : In F g led m s) (hk : (HK prog w).is g k a) (hd : d ≠ 1) (hm : s.heap.DictOfH (HK prog w) d xs) (h : ∀ s', In F g led m s' → Q (.bool (!(atKey xs k).isSome)) s') :
    wpAny (model prog w) A (compareOp .NotIn (.ref a) (.ref d)) Q E s := by
  have key : wpAny (model prog w) A (compareOp .In (.ref a) (.ref d)) (fun v s' => v = .bool (atKey xs k).isSome ∧ In F g led m s') E s := inD hu H hk hd hm fun s' H' => ⟨rfl, H'⟩
  show wpAny _ _ (do return .bool (!(← PySem.contains (.ref d) (.ref a)))) Q E s
  have key' : wpAny (model prog w) A (do return Value.bool (← PySem.contains (.ref d) (.ref a))) (fun v s' => v = .bool (atKey xs k).isSome ∧ In F g led m s') E s := key
  intro Γ p hΓ
  have := key' Γ p hΓ
  rw [Sem.wp_bind'] at this ⊢
  refine Sem.wp_mono _ Γ _ (fun b p' s' hb => ?_) (fun _ _ _ e => e) p s this
  obtain ⟨e, H'⟩ := hb
  injection e with e
  subst e
  exact h _ H'
theorem getItemD {p : Addr × Value} {Q : Value → Shared → Prop} (hu : A.units + 1 < cLine) (H : In F g led m s) (hk : (HK prog w).is g k a) (hm : s.heap.DictOfH (HK prog w) d xs) (hp : atKey xs k = some p) (h : ∀ s', In F g led m s' → Q p.2 s') :
    wpAny (model prog w) A (getItem (.ref d) (.ref a)) Q E s :=
  wpAny_getItem_heap (knd := HK prog w) hu (key_keeps hk H.into) hm hp (h _ (H.toks _))
end
end Mine
end

section
open PySem PySem.W PySem.Calls PyProof.Rows
set_option maxRecDepth 100000
namespace Mine
section
variable {prog : Program} {w : World} {mg mb : Str → Option Value} {A : Around} {E : Value → Shared → Prop} {s s' : Shared} {F : Fx} {g g' : Heap} {led : Led} {m : Str → Option Value} {env : Env}
variable {a d x : Addr} {k : List K0} {o : Obj} {xs : KVs}

/-- d.get(key, dflt) -/
theorem getD2 {dflt : Value} {Q : Value → Shared → Prop} (hu : A.units + 1 < cLine) (H : In F g led m s) (hk : (HK prog w).is g k a) (hd : d ≠ 1) (hm : s.heap.DictOfH (HK prog w) d xs) (h : ∀ s', In F g led m s' → Q (((atKey xs k).map (·.2)).getD dflt) s') :
    wpAny (model prog w) A (call (.builtin "dict.get") [.ref d, .ref a, dflt]) Q E s :=
  call_meetsIn PySem.F.slot_dict_get hm.typeIs PySem.F.entry_dict_get (PySem.F.args_dict_get_3 _ _ _) (meetsH_dict_get_default (HK prog w) d a (by simpa [sysModules] using hd) dflt) ⟨hu, k, xs, key_keeps hk H.into, hm, h _ (H.toks _)⟩
theorem dictNo {h : Heap} (hm : h.DictOfH (HK prog w) d xs) : ∀ b, Value.ref d = .ref b → ∃ ob, h.get? b = some ob ∧ ob.dict = none := fun b e => by cases e; exact let ⟨o, _, _, ho, hc, _⟩ := hm; ⟨o, ho, hc.2.1⟩
theorem mGet {pl : Sem Bool} {Q : Value × List Value → Shared → Prop} (hm : s.heap.DictOfH (HK prog w) d xs) (h : Q (.builtin "dict.get", [.ref d]) s) : wpAny (model prog w) A (getMethod (.ref d) "get" pl) Q E s :=
  getMethod_builtin hm.typeIs PySem.F.plainAttrs_dict PySem.F.slot_dict_get PySem.F.type_dict_get (dictNo hm) h
theorem ixD {value slice : PySem.Expr} {p : Addr × Value} {Q : Value → Shared → Prop} (hu : A.units + 1 < cLine) (H : In F g led m s) (hk : (HK prog w).is g k a) (hm : s.heap.DictOfH (HK prog w) d xs) (hp : atKey xs k = some p) (h : ∀ s', In F g led m s' → Q p.2 s')
    (hs : subscripted slice false (.ref d) (.ref a) = operate [.ref d, .ref a] (getItem (.ref d) (.ref a)) := by with_unfolding_all rfl) (ht : ∀ r, letTemporaryGo value (.ref d) r = pure () := by intro _; with_unfolding_all rfl) :
    wpAny (model prog w) A (subscriptTail value slice (.ref d) (.ref a)) Q E s :=
  subscriptTail_builtin hm.typeIs slot_dict_getitem.lookup (getItemD hu H hk hm hp h) hs ht

theorem ex_setI {M : Model} {o i : PySem.Expr} {e : PySem.Expr} {p pos : Pos} {rest : List Stmt} {Q : Flow → Shared → Prop}
    (h : wpAny M A (eval e env) (fun v s₁ => wpAny M A (eval o env) (fun ov s₂ => wpAny M A (eval i env) (fun iv s₃ => wpAny M A (setItem ov iv v) (fun _ s₄ => wpAny M A (execs rest env) Q E s₄) E s₃) E s₂) E s₁) E s)
    (hs : swapsWith e (some (.Subscript o i p)) pos.line env = pure false := by rfl) : wpAny M A (execs (.Assign [.Subscript o i p] e pos :: rest) env) Q E s := wpAny_execs_cons (wpAny_Assign_Subscript h hs)

/-! ### a dict's keys, walked -/
abbrev dkiObj (d : Addr) (i n ep : Int) : Obj := { cls := .type "dict_keyiterator", dict := none, data := .fields #[.ref d, .int i 0, .int n 0, .int ep 0], slots := #[] }
theorem size_es {es : Array DictEntry} (he : es.toList = xs.map (entryOfKey (HK prog w))) : es.size = xs.length := by rw [← Array.length_toList, he, List.length_map]

theorem dki_item {I : Addr} {i ep : Nat} {y : List K0 × Addr × Value} {es : Array DictEntry} {Q : Option Value → Shared → Prop} (ho : s.heap.get? I = some (dkiObj d i xs.length ep)) (hod : s.heap.get? d = some o) (hdd : o.data = .dict es ep) (he : es.toList = xs.map (entryOfKey (HK prog w))) (hx : xs[i]? = some y)
    (hQ : ∀ h', h'.get? I = some (dkiObj d ((i : Int) + 1) xs.length ep) → Heap.SameBut I s.heap h' → Q (some (.ref y.2.1)) { s with heap := h' }) :
    wpAny (model prog w) A (pyNext (.ref I)) Q E s := by
  have hT : s.TypeIs (.ref I) "dict_keyiterator" := ⟨_, ho, rfl⟩
  have hsz := size_es he
  have hlt : i < es.size := by rw [hsz]; exact (List.getElem?_eq_some_iff.mp hx).1
  have hkey : es[i].key = .ref y.2.1 := by
    have : es.toList[i]? = some es[i] := by rw [Array.getElem?_toList, Array.getElem?_eq_getElem hlt]
    rw [he, List.getElem?_map, hx] at this
    have := Option.some.inj this
    rw [← this]; rfl
  unfold pyNext
  refine wpAny_bind (wpAny_attempt (wpAny_callSpecial?_slot (name := Str.ofString "__next__") hT PySem.F.slot_dict_keyiterator_next
    (wpAny_call_entry PySem.F.slot_dict_keyiterator_next hT PySem.F.entry_dict_keyiterator_next ?_ (PySem.F.args_dict_keyiterator_next_1 _))))
  refine wpAny_bind (wpAny_pure ?_)
  refine wpAny_bind ?_
  refine wpAny_bind ?_
  first | refine wpAny_bind (wpAny_typeNameOfWhole_keyiter hT (wpAny_pure ?_)) | refine wpAny_bind (wpAny_typeNameOf_keyiter hT (wpAny_pure ?_))
  refine wpAny_bind (wpAny_fieldsOf ho rfl ?_)
  have hown : Builtin.Dict_items.ownsTuple "dict_keyiterator" = false := by decide
  simp only [hown, Bool.false_eq_true, if_false]
  show wpAny _ _ (if (Value.ref d == Value.none) = true then _ else _) _ _ s
  rw [if_neg (show ¬ ((Value.ref d == Value.none) = true) from Bool.false_ne_true)]
  refine wpAny_bind (wpAny_pure ?_)
  refine wpAny_bind (wpAny_dictEntries hod hdd ?_)
  rw [if_neg (by rw [hsz]; simp)]
  refine wpAny_bind (wpAny_pure ?_)
  refine wpAny_bind (wpAny_dictEpoch hod hdd ?_)
  rw [if_neg (by simp)]
  refine wpAny_pure ?_
  simp only [show ¬ ((i : Int) < 0) from by omega, if_false, Int.toNat_natCast, Array.getElem?_eq_getElem hlt]
  refine wpAny_bind ?_
  first | refine wpAny_bind (wpAny_typeNameOfWhole_keyiter hT (wpAny_pure ?_)) | refine wpAny_bind (wpAny_typeNameOf_keyiter hT (wpAny_pure ?_))
  refine wpAny_bind (wpAny_isOneOf_keyiter hT ?_)
  show wpAny _ _ (setField (.ref I) 1 (rawInt ((i : Int) + 1)) >>= _) _ _ s
  refine wpAny_bind (wpAny_setField_rec ho (by simp) fun h' e1 s1 => ?_)
  have hT' : Shared.TypeIs { s with heap := h' } (.ref I) "dict_keyiterator" := ⟨_, e1, rfl⟩
  refine wpAny_bind (wpAny_holding ?_)
  refine wpAny_bind (wpAny_isOneOf_keyiter (s := { s with heap := h' }) hT' ?_)
  show wpAny _ _ (pure es[i].key) _ _ _
  rw [hkey]
  exact wpAny_pure (wpAny_pure ⟨_, rfl, wpAny_pure (hQ _ (by simp [rawInt] at e1; exact e1) s1)⟩)

theorem dki_end {I : Addr} {i ep : Nat} {es : Array DictEntry} {Q : Option Value → Shared → Prop} (hh : A.handled = none) (ho : s.heap.get? I = some (dkiObj d i xs.length ep)) (hod : s.heap.get? d = some o) (hdd : o.data = .dict es ep) (he : es.toList = xs.map (entryOfKey (HK prog w))) (hx : xs[i]? = none)
    (hQ : ∀ h', Heap.ExtBut I s.heap h' → Q none { s with heap := h' }) :
    wpAny (model prog w) A (pyNext (.ref I)) Q E s := by
  have hT : s.TypeIs (.ref I) "dict_keyiterator" := ⟨_, ho, rfl⟩
  have hsz := size_es he
  have hge : es.size ≤ i := by rw [hsz]; simpa using hx
  unfold pyNext
  refine wpAny_bind (wpAny_attempt (wpAny_callSpecial?_slot (name := Str.ofString "__next__") hT PySem.F.slot_dict_keyiterator_next
    (wpAny_call_entry PySem.F.slot_dict_keyiterator_next hT PySem.F.entry_dict_keyiterator_next ?_ (PySem.F.args_dict_keyiterator_next_1 _))))
  refine wpAny_bind (wpAny_pure ?_)
  refine wpAny_bind ?_
  refine wpAny_bind ?_
  first | refine wpAny_bind (wpAny_typeNameOfWhole_keyiter hT (wpAny_pure ?_)) | refine wpAny_bind (wpAny_typeNameOf_keyiter hT (wpAny_pure ?_))
  refine wpAny_bind (wpAny_fieldsOf ho rfl ?_)
  have hown : Builtin.Dict_items.ownsTuple "dict_keyiterator" = false := by decide
  simp only [hown, Bool.false_eq_true, if_false]
  show wpAny _ _ (if (Value.ref d == Value.none) = true then _ else _) _ _ s
  rw [if_neg (show ¬ ((Value.ref d == Value.none) = true) from Bool.false_ne_true)]
  refine wpAny_bind (wpAny_pure ?_)
  refine wpAny_bind (wpAny_dictEntries hod hdd ?_)
  rw [if_neg (by rw [hsz]; simp)]
  refine wpAny_bind (wpAny_pure ?_)
  refine wpAny_bind (wpAny_dictEpoch hod hdd ?_)
  rw [if_neg (by simp)]
  refine wpAny_pure ?_
  simp only [show ¬ ((i : Int) < 0) from by omega, if_false, Int.toNat_natCast, Array.getElem?_eq_none hge]
  refine wpAny_bind ?_
  first | refine wpAny_bind (wpAny_typeNameOfWhole_keyiter hT (wpAny_pure ?_)) | refine wpAny_bind (wpAny_typeNameOf_keyiter hT (wpAny_pure ?_))
  show wpAny _ _ (setField (.ref I) 0 .none >>= _) _ _ s
  refine wpAny_bind (wpAny_setField_rec ho (by simp) fun h' e1 s1 => ?_)
  show wpAny _ _ (newExc (.type "StopIteration") [] >>= _) _ _ _
  refine wpAny_bind ?_
  simp only [newExc, newTuple]
  refine wpAny_bind (wpAny_newObj_type ?_ (by size_fits))
  refine wpAny_bind (m := firstArgMember _ _) (wpAny_of_eq (a := Value.none) (by first | rfl | (simp only [firstArgMember]; rfl)) ?_)
  refine wpAny_newObj_type ?_ (by size_fits)
  simp only [raiseNew]
  refine wpAny_bind (wpAny_handled ?_)
  rw [show A.in1.handled = none from hh]
  refine wpAny_bind (wpAny_pure (wpAny_throw ?_))
  refine wpAny_bind (wpAny_isInstance (T := "StopIteration") (b := true) ⟨_, Heap.get?_push_size _ rfl, rfl⟩ isSubtype_stop ?_)
  exact wpAny_pure (hQ _ ((s1.extBut.push _).push _))

/-- for k in d, d frozen -/
theorem itDict {Q : Value → Shared → Prop} (H : In F g led m s) (hod : g.get? d = some o) (hp : DP prog w xs o) (hd : d ≠ 1)
    (h : ∀ I (St : List (List K0 × Addr × Value) → Obj → Prop) s', Src prog w g (fun v y => v = .ref y.2.1) I St → In F g ((I, St xs) :: led) m s' → Q (.ref I) s') : wpAny (model prog w) A (pyIter (.ref d)) Q E s := by
  obtain ⟨hc, es, ep, hdd, he, hn⟩ := hp
  have ho := H.into _ _ hod
  have hT : s.TypeIs (.ref d) "dict" := ⟨o, ho, hc.1⟩
  refine wpAny_pyIter_slot hT PySem.F.slot_dict_iter (wpAny_call_entry PySem.F.slot_dict_iter hT PySem.F.entry_dict_iter ?_ (PySem.F.args_dict_iter_1 _))
  unfold Builtin.«dict.__iter__»
  refine wpAny_bind ?_
  unfold Builtin.Dict.dictSlotNone
  refine wpAny_bind (wpAny_notOrdered_dict hT ?_)
  show wpAny _ _ (pure (Value.ref d)) _ _ s
  refine wpAny_pure ?_
  show wpAny _ _ (Builtin.Dict.showsAll d >>= _) _ _ s
  unfold Builtin.Dict.showsAll
  rw [if_neg (by simpa [sysModules] using hd)]
  refine wpAny_bind (wpAny_pure ?_)
  refine wpAny_bind (wpAny_dictEntries ho hdd ?_)
  refine wpAny_bind (wpAny_dictEpoch ho hdd ?_)
  have hsz := size_es he
  refine wpAny_bind (wpAny_newObj_type (wpAny_pure ⟨_, rfl, "dict_keyiterator", _, ⟨_, Heap.get?_push_size _ rfl, rfl⟩, PySem.F.slot_dict_keyiterator_next.lookup, ?_⟩))
  refine h _ (fun rest o' => ∃ i, rest = xs.drop i ∧ i ≤ xs.length ∧ o' = dkiObj d i xs.length ep) _ ?_ (H.new _ rfl _ ⟨0, rfl, Nat.zero_le _, by simp [rawInt, hsz]⟩)
  refine ⟨?_, ?_, ?_⟩
  · intro A E F g' led m s rest Q hh hg H h
    obtain ⟨o', ho', i, hr, hi, rfl⟩ := H.get (.head _)
    have hod' := H.into _ _ (hg _ _ hod)
    rcases Nat.lt_or_ge i xs.length with hlt | hge
    · have hv := List.getElem?_eq_getElem hlt
      rw [List.drop_eq_getElem_cons hlt] at hr
      subst hr
      refine dki_item ho' hod' hdd he hv fun h' e1 s1 => ?_
      exact h _ _ rfl (H.wr (tk := s.toks) (fun b x n e => (s1.2 b n).trans e) (Nat.le_of_eq s1.1.symm) e1 ⟨i + 1, rfl, hlt, rfl⟩)
    · have hd' : xs.drop i = [] := List.drop_eq_nil_of_le hge
      rw [hd'] at hr; subst hr
      refine sz (dki_end hh ho' hod' hdd he (List.getElem?_eq_none hge) fun h' e1 hz => ?_)
      exact h _ (H.lose (tk := s.toks) (fun b x n e => e1 b x n e) hz)
  · intro A E F g' led m s rest Q hg H h
    obtain ⟨o', ho', i, hr, hi, rfl⟩ := H.get (.head _)
    have hT : s.TypeIs (.ref _) "dict_keyiterator" := ⟨_, ho', rfl⟩
    exact wpAny_pyIter_keyiter (d := d) (i := i) (n := xs.length) (ep := ep) ⟨_, ho', rfl, rfl⟩ h
  · intro A E F g' led m s rest tgt v Q hg H h
    obtain ⟨o', ho', i, hr, hi, rfl⟩ := H.get (.head _)
    exact letOwned ho' rfl (by decide) h
end
end Mine
end

section
open PySem PySem.W PySem.Calls PyProof.Rows
set_option maxRecDepth 100000
namespace Mine

/-! ## sorting -/
def runT {α : Type} (lt : Nat → Nat → Bool) : KasT α → α
  | .ret a => a
  | .ask i j k => runT lt (k (lt i j))
def askIn {α : Type} (n : Nat) (ok : α → Bool) : KasT α → Bool
  | .ret a => ok a
  | .ask i j k => decide (i < n) && decide (j < n) && decide (i ≠ j) && askIn n ok (k true) && askIn n ok (k false)
def okP (n : Nat) (p : Array Nat) : Bool := decide (p.toList.Perm (List.range n))
theorem ask2 : askIn 2 (okP 2) (kas_sort 2) = true := by decide +kernel
theorem ask3 : askIn 3 (okP 3) (kas_sort 3) = true := by decide +kernel
theorem ask4 : askIn 4 (okP 4) (kas_sort 4) = true := by decide +kernel
theorem ask_le : ∀ n, 2 ≤ n → n ≤ 4 → askIn n (okP n) (kas_sort n) = true
  | 2, _, _ => ask2
  | 3, _, _ => ask3
  | 4, _, _ => ask4
theorem askIn_ask {α : Type} {n i j : Nat} {ok : α → Bool} {k : Bool → KasT α} (h : askIn n ok (.ask i j k) = true) : i < n ∧ j < n ∧ i ≠ j ∧ ∀ b, askIn n ok (k b) = true := by
  simp only [askIn, Bool.and_eq_true, decide_eq_true_eq] at h
  exact ⟨h.1.1.1.1, h.1.1.1.2, h.1.1.2, fun b => by cases b; exact h.2; exact h.1.2⟩
theorem askIn_ok {α : Type} {n : Nat} {ok : α → Bool} {lt : Nat → Nat → Bool} : ∀ (t : KasT α), askIn n ok t = true → ok (runT lt t) = true
  | .ret _, h => h
  | .ask i j k, h => askIn_ok (k (lt i j)) ((askIn_ask h).2.2.2 _)
theorem runT_wp {α : Type} {n : Nat} {ok : α → Bool} {lt : Nat → Nat → Bool} {cmp : Nat → Nat → (Bool → Shared → Prop) → Shared → Prop} {Q : α → Shared → Prop} {s : Shared} (hc : ∀ i j (C : Bool → Shared → Prop), i < n → j < n → i ≠ j → C (lt i j) s → cmp i j C s) : ∀ (t : KasT α), askIn n ok t = true → Q (runT lt t) s → t.kasWp cmp Q s
  | .ret _, _, h => h
  | .ask i j k, ht, h => let ⟨a, b, c, d⟩ := askIn_ask ht; hc i j _ a b c (runT_wp hc (k (lt i j)) (d _) h)

/-- the order in which n things come out -/
def sortP (lt : Nat → Nat → Bool) (n : Nat) : List Nat := if n < 2 then List.range n else (runT lt (kas_sort n)).toList
theorem sortP_perm (lt : Nat → Nat → Bool) {n : Nat} (hn : n ≤ 4) : (sortP lt n).Perm (List.range n) := by
  unfold sortP
  split
  · exact .refl _
  · have := askIn_ok (lt := lt) _ (ask_le n (by omega) hn)
    simpa [okP] using this

section
variable {prog : Program} {w : World} {mg mb : Str → Option Value} {A : Around} {E : Value → Shared → Prop} {s s' : Shared} {F : Fx} {g g' : Heap} {led : Led} {m : Str → Option Value} {env : Env}

/-- the comparisons of a sort, told -/
structure Cmp (prog : Program) (w : World) (g : Heap) (vs : List Value) (κ : SortKind) (lt : Nat → Nat → Bool) : Prop where
  kind : ∀ (A : Around) (E : Value → Shared → Prop) (s : Shared) (Q : SortKind → Shared → Prop), 2 ≤ vs.length → Sub g s.heap → Q κ s → wpAny (model prog w) A (keyKind' vs.toArray) Q E s
  lt : ∀ (A : Around) (s : Shared) (i j : Nat) (Q : Bool → Shared → Prop), A.units + 64 < cLine → i < vs.length → j < vs.length → i ≠ j → Sub g s.heap → Q (lt i j) s → wpAny (model prog w) A (keyLt' κ (vs.getD i Value.none) (vs.getD j Value.none)) Q (fun _ _ => False) s

def SQ (vs : List Value) : Obj → Prop := fun o => ∃ n, o = seqObj "list" vs.toArray n

theorem upd_put {pre post : Led} {a : Addr} {vs ws : List Value} {n : Nat} (H : In F g (pre ++ (a, SQ vs) :: post) m s) (ho : s.heap.get? a = some (seqObj "list" vs.toArray n)) :
    (∃ n', (s.heap.update a (Obj.mapSeq fun _ => ws.toArray)).get? a = some (seqObj "list" ws.toArray n')) ∧ In F g (pre ++ (a, SQ ws) :: post) m { s with heap := s.heap.update a (Obj.mapSeq fun _ => ws.toArray) } := by
  have e := get?_update_seq ho (fun _ => ws.toArray)
  exact ⟨⟨_, e⟩, H.put (Heap.SameBut.update ..) e ⟨_, rfl⟩ s.toks⟩

theorem getD_eq (vs : List Value) : (List.range vs.length).map (fun i => vs.getD i Value.none) = vs := by
  apply List.ext_getElem
  · simp
  · intro i h1 h2; simp [List.getElem?_eq_getElem h2]

theorem list_sort {a : Addr} {vs : List Value} {κ : SortKind} {lt : Nat → Nat → Bool} {P : PySem.Fin → Shared → Prop} (hu : A.units + 64 < cLine) (H : In F g ((a, SQ vs) :: led) m s) (h4 : vs.length ≤ 4) (C : Cmp prog w g vs κ lt)
    (h : ∀ s', In F g ((a, SQ ((sortP lt vs.length).map fun i => vs.getD i Value.none)) :: led) m s' → P (.done (.ret .none)) s') :
    wpAny (model prog w) A (Builtin.«list.sort» ⟨[.ref a], []⟩) P E s := by
  have h64 : vs.length < 64 := by omega
  have hp : (sortP lt vs.length).length = vs.length := by rw [(sortP_perm lt h4).length_eq, List.length_range]
  obtain ⟨o, ho, n, rfl⟩ := H.get (.head _)
  obtain ⟨⟨e1, ho1⟩, H1⟩ := upd_put (pre := []) (ws := []) H ho
  rw [list_sort_plain]
  refine wpAny_bind (listItems_at ho rfl ?_)
  refine wpAny_bind (listUpdate_at ho rfl ?_ (by rw [List.size_toArray, sizeLine_eq]; omega) (Nat.zero_le _))
  refine wpAny_bind (seqEpoch_at ho1 rfl ?_)
  refine wpAny_bind (wpAny_newTuple ?_ (by show vs.length ≤ _; rw [sizeLine_eq]; omega))
  refine wpAny_bind (wpAny_newList ?_ (Nat.zero_le _))
  have H2 : In F g ((a, SQ []) :: led) m _ := (H1.new (seqObj "tuple" vs.toArray 0) rfl (fun _ => True) trivial).drop
  have H3 : In F g ((a, SQ []) :: led) m _ := (H2.new (seqObj "list" #[] 0) rfl (fun _ => True) trivial).drop
  have ho3 : (((s.heap.update a (Obj.mapSeq fun _ => (#[] : Array Value))).push (seqObj "tuple" vs.toArray 0)).push (seqObj "list" #[] 0)).get? a = some (seqObj "list" #[] e1) := Heap.get?_push_of_some _ (Heap.get?_push_of_some _ ho1)
  refine wpAny_holding ?_
  show wpAny (model prog w) A _ P E { s with heap := ((s.heap.update a (Obj.mapSeq fun _ => (#[] : Array Value))).push (seqObj "tuple" vs.toArray 0)).push (seqObj "list" #[] 0) }
  have H3' : In F g ((a, SQ []) :: led) m { s with heap := ((s.heap.update a (Obj.mapSeq fun _ => (#[] : Array Value))).push (seqObj "tuple" vs.toArray 0)).push (seqObj "list" #[] 0) } := H3
  generalize hs3 : ({ s with heap := ((s.heap.update a (Obj.mapSeq fun _ => (#[] : Array Value))).push (seqObj "tuple" vs.toArray 0)).push (seqObj "list" #[] 0) } : Shared) = s3 at H3'
  have ho3' : s3.heap.get? a = some (seqObj "list" #[] e1) := by rw [← hs3]; exact ho3
  dsimp only
  -- the end: what is stored back
  have tail : ∀ (st : SortSt) (out : List Value), (arrOf st).map (·.2) = out.toArray → failedOf st = none → out.length < 64 → (∀ s', In F g ((a, SQ out) :: led) m s' → P (.done (.ret .none)) s') →
      wpAny (model prog w) A (do
        let touched := (← seqEpoch a) != e1
        Builtin.List.listUpdate (.ref a) fun _ => (arrOf st).map (·.2)
        if let some e := failedOf st then rule "list.sort.comparison-raised"; throw e
        if touched then rule "list.sort.modified"; raiseError "ValueError" "list modified during sort"
        ret .none) P E s3 := by
    intro st out e2 hf hlen hP
    obtain ⟨⟨e4, ho4⟩, H4⟩ := upd_put (pre := []) (ws := out) H3' ho3'
    refine wpAny_bind (seqEpoch_at ho3' rfl ?_)
    rw [e2]
    refine wpAny_bind (listUpdate_at ho3' rfl ?_ (Nat.zero_le _) (by show out.toArray.size ≤ _; rw [List.size_toArray, sizeLine_eq]; omega))
    rw [hf]
    simp only [bne_self_eq_false, Bool.false_eq_true, if_false]
    exact wpAny_pure (hP _ H4)
  by_cases h2 : vs.length < 2
  · have hn2 : vs.toArray.size < 2 := by rw [List.size_toArray]; exact h2
    rw [if_pos hn2, if_pos hn2]
    refine wpAny_bind (wpAny_pure ?_)
    refine wpAny_bind (m := StateT.run (pure ()) _) (wpAny_pure ?_)
    refine tail _ vs ?_ rfl h64 (by have e : (sortP lt vs.length).map (fun i => vs.getD i Value.none) = vs := by unfold sortP; rw [if_pos h2, getD_eq]
                                    rw [e] at h; exact h)
    show (vs.toArray.zip vs.toArray).map (·.2) = vs.toArray
    apply Array.toList_inj.mp
    simp
    rw [← List.unzip_snd, List.unzip_zip (by rfl)]
  · have hn2 : ¬ vs.toArray.size < 2 := by rw [List.size_toArray]; exact h2
    rw [if_neg hn2, if_neg hn2]
    refine wpAny_bind (C.kind A E s3 _ (by omega) H3'.into ?_)
    refine wpAny_bind (wpAny_mono (kat_run (ks := vs) (vs := vs) (Q := fun st' s' => s' = s3 ∧ arrOf st' = (runT lt (kas_sort vs.length)).map (kas_item (vs.toArray.zip vs.toArray)) ∧ failedOf st' = none)
      (G := fun p s' => s' = s3 ∧ p = runT lt (kas_sort vs.length)) rfl (by omega) h64 (fun p' st' s' a1 a2 a3 a4 => ⟨a4.1, a4.2 ▸ a2, a3⟩) (runT_wp (lt := lt) (fun i j Cc a b c hC => C.lt A s3 i j Cc hu a b c H3'.into hC) _ (ask_le _ (by omega) h4) ⟨rfl, rfl⟩)) ?_ fun _ _ e => e)
    rintro ⟨⟨⟩, st'⟩ s' ⟨rfl, har, hf⟩
    dsimp only
    have es : sortP lt vs.length = (runT lt (kas_sort vs.length)).toList := by unfold sortP; rw [if_neg h2]
    refine tail st' ((sortP lt vs.length).map fun i => vs.getD i Value.none) ?_ hf (by rw [List.length_map, hp]; exact h64) h
    rw [es]
    exact kat_snds rfl har
end
end Mine
end

section
open PySem PySem.W PySem.Calls PyProof.Rows
set_option maxRecDepth 100000
namespace Mine

section
variable {prog : Program} {w : World} {mg mb : Str → Option Value} {A : Around} {E : Value → Shared → Prop} {s s' : Shared} {F : Fx} {g g' : Heap} {led : Led} {m : Str → Option Value} {env : Env}
variable {a : Addr} {o : Obj} {cs : List (Int × Value)}

theorem hint_set {Q : Bool → Shared → Prop} (hT : s.TypeIs (.ref a) "set") (h : Q false s) : wpAny (model prog w) A (Builtin.List.listLengthHint (.ref a)) Q E s := by
  unfold Builtin.List.listLengthHint
  refine wpAny_bind (wpAny_specialOf hT PySem.F.slot_set_len.lookup ?_)
  generalize hid : ("set.__len__" : String) = id0
  wp_delta
  rw [show splitId id0 = some ("set", "__len__") from by subst hid; decide +kernel]
  subst hid
  refine wpAny_bind (wpAny_isInstance (T := "set") (b := true) hT (by rw [isSubtype_type]; kernel_rfl) ?_)
  refine wpAny_ite_split (fun hab => absurd hab (by decide)) (fun _ => ?_)
  refine wpAny_ite_split (fun _ => ?_) (fun hab => absurd (by decide +kernel) hab)
  refine wpAny_bind (wpAny_typeOf hT ?_)
  exact wpAny_pure h

/-- what an iterator gives, appended to a list -/
theorem extLoop {R : Result → Shared → Prop} {S I : Addr} {St : List Value → Obj → Prop} {res : Value} (K : Src prog w g (fun v x => v = x) I St) (hh : A.handled = none) : ∀ (rest acc : List Value) (s : Shared), In F g ((I, St rest) :: (S, SQ acc) :: led) m s → acc.length + rest.length ≤ 64 →
    (∀ s', In F g ((S, SQ (acc ++ rest)) :: led) m s' → R (.ok (.ret res)) s') → codeAny (model prog w) A (.builtin "list.extend.loop" ⟨[.ref S, .ref I, res], []⟩) R s
  | [], acc, s, H, hl, h => by
    refine codeAny_builtin PySem.F.entry_extend_loop ?_
    rw [Around.under_plainId PySem.F.plain_extend_loop _]
    show wpAny _ A.in1 (pyNext (.ref I) >>= _) _ _ s
    refine wpAny_bind (K.next _ _ _ _ _ _ _ [] _ hh (.refl _) H fun s' H' => ?_)
    exact wpAny_pure (h s' (by rw [List.append_nil]; exact H'))
  | x :: r, acc, s, H, hl, h => by
    refine codeAny_builtin PySem.F.entry_extend_loop ?_
    rw [Around.under_plainId PySem.F.plain_extend_loop _]
    show wpAny _ A.in1 (pyNext (.ref I) >>= _) _ _ s
    refine wpAny_bind (K.next _ _ _ _ _ _ _ (x :: r) _ hh (.refl _) H fun v s' hv H' => ?_)
    subst hv
    obtain ⟨o, ho, n, rfl⟩ := H'.get (.tail _ (.head _))
    show wpAny _ A.in1 (updateSeq S (·.push v) >>= _) _ _ _
    rw [List.length_cons] at hl
    have e := get?_update_seq ho (·.push v)
    have H2 := (H'.put (pre := [(I, St r)]) (P' := SQ (acc ++ [v])) (Heap.SameBut.update ..) e ⟨_, by rw [List.push_toArray]⟩ s'.toks)
    refine wpAny_bind (wpAny_updateSeq ho rfl (wpAny_pure ⟨plainId_quiet PySem.F.plain_extend_loop _, extLoop K hh r (acc ++ [v]) _ H2 (by simp; omega) fun s'' H3 => h s'' (by simpa using H3)⟩) ?_ ?_)
    · rw [List.size_toArray, sizeLine_eq]; omega
    · show (acc.toArray.push v).size ≤ _
      rw [Array.size_push, List.size_toArray, sizeLine_eq]; omega

theorem entry_coll : entryFor table "proto.collect" = some Builtin.«proto.collect» := PySem.F.entry_proto_collect

theorem collect_set {Q : List Value → Shared → Prop} (hh : A.handled = none) (H : In F g led m s) (ha : g.get? a = some o) (hP : SetP cs o) (hl0 : LedW w o) (hl4 : cs.length ≤ 4)
    (h : ∀ vs g' s', Sub g g' → vs.Perm (cs.map (·.2)) → In F g' led m s' → Q vs s') : wpAny (model prog w) A (collect (.ref a)) Q E s := by
  unfold collect
  refine wpAny_bind (wpAny_runValue (codeAny_builtin PySem.F.entry_proto_collect ?_))
  rw [Around.under_plainId PySem.F.plain_proto_collect _]
  show wpAny _ A.in1 (newList [] >>= fun l => again (.builtin "list.__iadd__" ⟨[l, .ref a], []⟩)) _ _ s
  have H1 := H.new (seqObj "list" #[] 0) rfl (SQ []) ⟨0, rfl⟩
  refine wpAny_bind (wpAny_newList ?_ (Nat.zero_le _))
  generalize hS : s.heap.objs.size = S at H1
  refine wpAny_pure ⟨plainId_quiet PySem.F.plain_list_iadd _, codeAny_builtin PySem.F.entry_list_iadd ?_⟩
  rw [Around.under_plainId PySem.F.plain_list_iadd _]
  show wpAny _ A.in1 (Builtin.List.listExtendWith (.ref S) (.ref a) (.ref S)) _ _ _
  unfold Builtin.List.listExtendWith
  have hSa : S ≠ a := fun e => absurd (Heap.lt_size (H.into _ _ ha)) (by rw [hS, e]; exact Nat.lt_irrefl _)
  refine wpAny_bind (wpAny_typeOf (hP.typeIs (H1.into _ _ ha)) ?_)
  have h1 : Builtin.List.listSameRef (.ref S) (.ref a) = false := by simp [Builtin.List.listSameRef, hSa]
  have h2 : (Value.type "set" == Value.type "list") = false := by decide
  have h3 : (Value.type "set" == Value.type "tuple") = false := by decide
  simp only [h1, h2, h3, Bool.or_false, Bool.false_eq_true, if_false]
  refine wpAny_bind (itSet H1 ha hP hl0 fun I St vs g' s2 hg hp K H2 => ?_)
  refine wpAny_bind (wpAny_holding (hint_set (hP.typeIs (H2.into _ _ (hg _ _ ha))) ?_))
  have hn : vs.length ≤ 4 := by rw [hp.length_eq, List.length_map]; exact hl4
  have fin : ∀ (R : Result → Shared → Prop) s3, In F g' ((I, St vs) :: (S, SQ []) :: led) m s3 → (∀ s4, In F g' ((S, SQ vs) :: led) m s4 → R (.ok (.ret (.ref S))) s4) → codeAny (model prog w) A (.builtin "list.extend.loop" ⟨[.ref S, .ref I, .ref S], []⟩) R s3 := fun R s3 H3 hR =>
    extLoop K hh vs [] s3 H3 (by simp; omega) hR
  have back : ∀ s4, In F g' ((S, SQ vs) :: led) m s4 → wpAny (model prog w) A (do
        match (← load S).data with
          | .seq xs _ => pure xs.toList
          | _ => unsupported "internal:collect") Q E s4 := fun s4 H4 => by
      obtain ⟨o4, ho4, n4, rfl⟩ := H4.get (.head _)
      refine wpAny_bind (wpAny_load ho4 ?_)
      refine wpAny_pure ?_
      simpa using h vs g' s4 hg hp H4.drop
  refine wpAny_ite_split (fun _ => ?_) (fun _ => wpAny_pure ⟨plainId_quiet PySem.F.plain_extend_loop _, fin _ _ H2 back⟩)
  refine wpAny_bind (wpAny_rule ?_)
  obtain ⟨o2, ho2, n2, rfl⟩ := H2.get (.tail _ (.head _))
  refine wpAny_bind ?_
  show wpAny _ _ (updateSeq S (·.push .none) >>= fun _ => updateSeq S (·.pop)) _ _ _
  refine wpAny_bind (wpAny_updateSeq ho2 rfl ?_)
  have e1 := get?_update_seq ho2 (·.push Value.none)
  have H3 := (H2.put (pre := [(I, St vs)]) (P' := SQ [Value.none]) (Heap.SameBut.update ..) e1 ⟨n2 + 1, rfl⟩ s2.toks)
  refine wpAny_updateSeq (hz := by seq_fits) e1 rfl ?_
  have e2 := get?_update_seq e1 (·.pop)
  have H4 := (H3.put (pre := [(I, St vs)]) (P' := SQ []) (Heap.SameBut.update ..) e2 ⟨n2 + 1 + 1, rfl⟩ s2.toks)
  exact wpAny_pure ⟨plainId_quiet PySem.F.plain_extend_loop _, fin _ _ H4 back⟩

/-- sorted of a set -/
theorem sortedV {x : Value} {Ok : List Value → Prop} {Q : Value → Shared → Prop} (hu : A.units + 70 < cLine)
    (hc : ∀ (C : List Value → Shared → Prop), (∀ vs g' s', Sub g g' → Ok vs → vs.length ≤ 4 → In F g' led m s' → C vs s') → wpAny (model prog w) A.in1 (collect x) C E s)
    (hC : ∀ vs g', Sub g g' → Ok vs → vs.length ≤ 4 → ∃ κ lt, Cmp prog w g' vs κ lt ∧ ∀ s' S g'', Sub g' g'' → g''.IsList S ((sortP lt vs.length).map fun i => vs.getD i Value.none).toArray → In F g'' led m s' → Q (.ref S) s') :
    wpAny (model prog w) A (call (.builtin "sorted") [x]) Q E s := by
  refine Calls.call_function_entry kind_sorted plain_sorted entry_sorted (args_sorted1 _) ?_
  unfold Builtin.«sorted»
  refine wpAny_bind (m := checkCount "sorted" 1 1 _) (wpAny_pure ?_)
  refine wpAny_bind (hc _ fun vs g' s2 hg hp hl H2 => ?_)
  obtain ⟨κ, lt, C, hQ⟩ := hC vs g' hg hp hl
  refine wpAny_bind (wpAny_newList ?_ (by rw [sizeLine_eq]; omega))
  have H3 := H2.new (seqObj "list" vs.toArray 0) rfl (SQ vs) ⟨0, rfl⟩
  have hS0 := H2.was (Nat.le_refl _)
  obtain ⟨o3, ho3, n3, rfl⟩ := H3.get (.head _)
  refine wpAny_bind (wpAny_holding (wpAny_call_entry slot_list_sort ⟨_, ho3, rfl⟩ entry_list_sort (list_sort ?_ H3 hl C fun s4 H4 => ?_) (args_list_sort _)))
  · show A.units + 2 + 64 < cLine
    omega
  · obtain ⟨o5, g5, ⟨n5, rfl⟩, e5, s5, H5⟩ := H4.freeze hS0
    exact ⟨_, rfl, wpAny_pure ⟨_, rfl, hQ s4 _ g5 s5 ⟨_, e5, rfl, n5, rfl⟩ H5⟩⟩

theorem collect_lst {l : Addr} {vs : List Value} {Q : List Value → Shared → Prop} (H : In F g led m s) (hl : g.IsList l vs.toArray) (h64 : vs.length < 64) (h : ∀ s', In F g led m s' → Q vs s') : wpAny (model prog w) A (collect (.ref l)) Q E s := by
  refine collect_list (isList_mono hl H.into) (h _ ?_) (by rw [sizeLine_eq]; omega)
  have H1 := H.new (seqObj "list" #[] 0) rfl (fun _ => True) trivial
  have e := get?_update_seq (h := s.heap.push (seqObj "list" #[] 0)) (Heap.get?_push_size s.heap rfl) (· ++ vs.toArray)
  exact (H1.put (pre := []) (P' := fun _ => True) (Heap.SameBut.update _ _ (Obj.mapSeq (· ++ vs.toArray))) e trivial s.toks).drop
end
end Mine
end

section
open PySem PySem.W PySem.Calls PyProof.Rows
set_option maxRecDepth 100000
namespace Mine

/-! ## the canonical order of symbols -/
abbrev iN (x : String) : It := ⟨false, Str.ofString x⟩
def isN : List It := [iN "S", iN "A", iN "B", iN "x", iN "Z"]
def isNs : List It := [iN "A", iN "B", iN "S", iN "Z", iN "x"]
def canon (is : List It) : List It := isNs.filter (is.contains ·)
def ltI (is : List It) (i j : Nat) : Bool := decide ((is.getD i (iN "S")).n.cps.toList < (is.getD j (iN "S")).n.cps.toList)
def allL : Nat → List (List It)
  | 0 => [[]]
  | n + 1 => (allL n).flatMap fun l => isN.map fun x => x :: l
theorem mem_allL : ∀ (l : List It), (∀ x ∈ l, x ∈ isN) → l ∈ allL l.length
  | [], _ => by simp [allL]
  | x :: l, h => by
    rw [List.length_cons, allL, List.mem_flatMap]
    exact ⟨l, mem_allL l fun y hy => h y (.tail _ hy), List.mem_map.mpr ⟨x, h x (.head _), rfl⟩⟩
def okL (is : List It) : Bool := !decide is.Nodup || decide ((sortP (ltI is) is.length).map (fun i => is.getD i (iN "S")) = canon is)
theorem ok_all : ([0, 1, 2, 3, 4].all fun n => (allL n).all okL) = true := by decide +kernel
theorem sort_canon {is : List It} (h : ∀ x ∈ is, x ∈ isN) (hn : is.Nodup) (h4 : is.length ≤ 4) : (sortP (ltI is) is.length).map (fun i => is.getD i (iN "S")) = canon is := by
  have h1 := ok_all
  rw [List.all_eq_true] at h1
  have h2 := h1 is.length (by have : is.length = 0 ∨ is.length = 1 ∨ is.length = 2 ∨ is.length = 3 ∨ is.length = 4 := by omega
                              rcases this with e | e | e | e | e <;> rw [e] <;> simp)
  rw [List.all_eq_true] at h2
  have h3 := h2 is (mem_allL is h)
  simpa [okL, hn] using h3
theorem canon_perm {is js : List It} (h : is.Perm js) : canon is = canon js := by
  unfold canon
  refine List.filter_congr fun x _ => ?_
  rw [Bool.eq_iff_iff, List.contains_iff_mem, List.contains_iff_mem, h.mem_iff]
theorem All2.pick {α : Type} {R : Value → α → Prop} {vs : List Value} {is : List α} {d : α} (h : All2 R vs is) : ∀ (p : List Nat), (∀ i ∈ p, i < vs.length) → All2 R (p.map fun i => vs.getD i Value.none) (p.map fun i => is.getD i d)
  | [], _ => .nil
  | i :: p, hp => .cons (by
      have hi := hp i (.head _)
      obtain ⟨x, hx, hR⟩ := h.get (i := i) (a := vs.getD i Value.none) (by rw [List.getD_eq_getElem?_getD, List.getElem?_eq_getElem hi]; rfl)
      show R (vs.getD i Value.none) (is.getD i d); rw [List.getD_eq_getElem?_getD (l := is), hx]; exact hR) (All2.pick h p fun j hj => hp j (.tail _ hj))

section
variable {prog : Program} {w : World} {mg mb : Str → Option Value} {A : Around} {E : Value → Shared → Prop} {s s' : Shared} {F : Fx} {g g' : Heap} {led : Led} {m : Str → Option Value} {env : Env}

/-- a pair (head, name) -/
def Pr (k0 : K0) (g : Heap) (v : Value) (i : It) : Prop := ∃ a x t, v = .ref a ∧ IsTup g a #[x, .str i.n t] ∧ k0.is x = true
theorem LIt.pr {v : Value} {i : It} (h : LIt g v i) (ht : i.t = false) : Pr (.i 0) g v i := by
  obtain ⟨a, t1, t2, rfl, h⟩ := h
  exact ⟨a, _, t2, rfl, h, by simp [K0.is, Value.isInt, tagI, ht]⟩
theorem KeyAt.pr {v : Value} {i : It} (h : KeyAt g v i) (ht : i.t = false) : Pr (.x (Str.ofString "N")) g v i := by
  obtain ⟨a, t1, t2, rfl, h⟩ := h
  exact ⟨a, _, t2, rfl, h, by simp [K0.is, Value.isStrOf, ht]⟩
def K0.ty : K0 → Value
  | .i _ => .type "int"
  | .x _ => .type "str"
theorem K0.looks {M : Model} {h : Heap} {k0 : K0} {x : Value} (hx : k0.is x = true) : Looks M h (typeOf x) k0.ty := by
  cases k0
  · obtain ⟨t, rfl⟩ := Value.isInt_shape hx; exact .now
  · obtain ⟨t, rfl⟩ := Value.isStrOf_shape hx; exact .now
theorem K0.tup (k0 : K0) : (k0.ty != Value.type "tuple") = true := by cases k0 <;> rfl
theorem K0.self (k0 : K0) : (k0.ty == k0.ty) = true := by cases k0 <;> rfl

theorem pr_tups {k0 : K0} : ∀ {vs : List Value} {is : List It}, All2 (Pr k0 g) vs is → ∃ fs, KatTups g vs fs ∧ fs.length = vs.length ∧ ∀ f ∈ fs, k0.is f = true
  | _, _, .nil => ⟨[], .nil, rfl, fun _ h => nomatch h⟩
  | _, _, .cons x r => by
    obtain ⟨fs, a, b, c⟩ := pr_tups r
    obtain ⟨ad, f, t, rfl, ⟨o, ho, hc, n, hd⟩, hk⟩ := x
    exact ⟨f :: fs, .cons ho hc hd rfl a, by simp [b], fun y hy => by rcases List.mem_cons.mp hy with rfl | hy; exact hk; exact c y hy⟩
theorem tups_mono {h h' : Heap} (s : Sub h h') : ∀ {vs fs : List Value}, KatTups h vs fs → KatTups h' vs fs
  | [], [], _ => trivial
  | _ :: _, _ :: _, ⟨⟨a, o, xs, n, e, ho, r⟩, t⟩ => ⟨⟨a, o, xs, n, e, s _ _ ho, r⟩, tups_mono s t⟩

theorem getD_of {vs : List Value} {i : Nat} (hi : i < vs.length) : vs[i]? = some (vs.getD i Value.none) := by rw [List.getD_eq_getElem?_getD, List.getElem?_eq_getElem hi]; rfl
theorem cmpPr {k0 : K0} {vs : List Value} {is : List It} (h : All2 (Pr k0 g) vs is) : Cmp prog w g vs (tuples' true) (ltI is) where
  kind := fun A E s Q h2 hs hQ => by
    obtain ⟨fs, a, b, c⟩ := pr_tups h
    refine kat_kind (tups_mono hs a) (by omega) (T := k0.ty) (fun v hv => K0.looks (c v hv)) k0.self ?_
    rw [k0.tup]; exact hQ
  lt := fun A s i j Q hu hi hj _ hs hQ => by
    obtain ⟨x, hx, ax, f1, t1, e1, ⟨o1, ho1, hc1, n1, hd1⟩, hk1⟩ := h.get (getD_of hi)
    obtain ⟨y, hy, ay, f2, t2, e2, ⟨o2, ho2, hc2, n2, hd2⟩, hk2⟩ := h.get (getD_of hj)
    rw [e1, e2]
    refine kat_lt (hs _ _ ho1) hd1 (hs _ _ ho2) hd2 (kat_cons ((mixKind prog w).eqBool hk1 hk2 ?_))
    rw [decide_eq_true rfl]
    have hq : Q (decide (x.n.cps.toList < y.n.cps.toList)) s := by
      have : ltI is i j = decide (x.n.cps.toList < y.n.cps.toList) := by unfold ltI; rw [List.getD_eq_getElem?_getD, List.getD_eq_getElem?_getD, hx, hy]; rfl
      rw [← this]; exact hQ
    refine kat_yes (kat_cons (wpAny_eqBool_str ?_))
    by_cases e : x.n = y.n
    · rw [decide_eq_true e]
      refine kat_yes (kat_nil ?_)
      rw [e, decide_eq_false (List.lt_irrefl _)] at hq
      exact hq
    · rw [decide_eq_false e]
      refine kat_no (kat_one _ _ (lt_str hq))

theorem Pr.key {k0 : K0} {v : Value} {i : It} (h : Pr k0 g v i) (hs : Sub g s.heap) : ∃ a, v = .ref a ∧ IsTupleKey (mixKind prog w) s.heap [k0, .x i.n] a := by
  obtain ⟨a, x, t, rfl, ⟨o, ho, hc, n, hd⟩, hk⟩ := h
  exact ⟨a, rfl, o, _, n, hs _ _ ho, hc, hd, .cons hk (.cons (by simp [mixKind, K0.is, Value.isStrOf]) .nil)⟩

theorem lt_tree {k0 : K0} {p q : Value} {x y : Str} {t u : Tok} {a b : Addr} {P : PySem.Fin → Shared → Prop} (hx : IsTup s.heap a #[p, .str x t]) (hy : IsTup s.heap b #[q, .str y u]) (hp : k0.is p = true) (hq : k0.is q = true) (hne : x ≠ y)
    (h : P (.done (.ret (.bool (decide (x.cps.toList < y.cps.toList))))) s) : wpAny (model prog w) A (Builtin.«tuple.__lt__» ⟨[.ref a, .ref b], []⟩) P E s := by
  obtain ⟨oa, hoa, hca, na, hda⟩ := hx
  obtain ⟨ob, hob, hcb, nb, hdb⟩ := hy
  show wpAny _ _ (isInstance (.ref b) (.type "tuple") >>= _) _ _ s
  refine wpAny_bind (wpAny_isInstance ⟨ob, hob, hcb⟩ isSubtype_tuple_tuple ?_)
  simp only [Bool.not_true, Bool.false_eq_true, if_false]
  refine wpAny_bind (wpAny_tupleItemsOf hoa hda ?_)
  refine wpAny_bind (wpAny_tupleItemsOf hob hdb ?_)
  refine wpAny_bind ?_
  show wpAny _ _ (forIn [(p, q), (Value.str x t, Value.str y u)] _ _) _ _ s
  rw [List.forIn_cons]
  refine wpAny_bind ?_
  refine wpAny_bind ((mixKind prog w).eqBool hp hq ?_)
  rw [decide_eq_true rfl]
  simp only [Bool.not_true, Bool.false_eq_true, if_false]
  refine wpAny_pure ?_
  dsimp only
  rw [List.forIn_cons]
  refine wpAny_bind ?_
  refine wpAny_bind (wpAny_eqBool_str ?_)
  rw [decide_eq_false hne]
  simp only [Bool.not_false, if_true]
  refine wpAny_bind (wpAny_rule ?_)
  refine wpAny_bind (lt_str ?_)
  refine wpAny_bind (wpAny_pure ?_)
  refine wpAny_pure ?_
  dsimp only
  exact wpAny_pure (wpAny_pure h)
theorem lt_pr {k0 : K0} {v u : Value} {x y : It} {Q : Value → Shared → Prop} (hu : A.units < cLine) (hx : Pr k0 g v x) (hy : Pr k0 g u y) (hs : Sub g s.heap) (hne : x.n ≠ y.n) (h : Q (.bool (decide (x.n.cps.toList < y.n.cps.toList))) s) :
    wpAny (model prog w) A (compareOp .Lt v u) Q E s := by
  obtain ⟨a, p, t, rfl, ha, hp⟩ := hx
  obtain ⟨b, q, t', rfl, hb, hq⟩ := hy
  have ha' := isTup_mono ha hs
  have hb' := isTup_mono hb hs
  have ta : s.TypeIs (.ref a) "tuple" := let ⟨o, e, c, _⟩ := ha'; ⟨o, e, c⟩
  have tb : s.TypeIs (.ref b) "tuple" := let ⟨o, e, c, _⟩ := hb'; ⟨o, e, c⟩
  show wpAny _ _ (richCompare .Lt (.ref a) (.ref b)) Q E s
  refine wpAny_richCompare_same_room (op := .Lt) (T := "tuple") ta tb PySem.F.slot_tuple_lt
    (wpAny_call_entry PySem.F.slot_tuple_lt ta PySem.F.entry_tuple_lt (lt_tree ha' hb' hp hq hne ⟨_, rfl, by simp, h⟩) (PySem.F.args_tuple_lt_2 _ _)) hu

/-- rows with an empty right side -/
def RowP (g : Heap) (v : Value) (i : It) : Prop := ∃ a lv rv, v = .ref a ∧ IsTup g a #[lv, rv] ∧ Pr (.i 0) g lv i
theorem row_tups : ∀ {vs : List Value} {is : List It}, All2 (RowP g) vs is → ∃ fs, KatTups g vs fs ∧ fs.length = vs.length ∧ ∀ f ∈ fs, ∃ i, Pr (.i 0) g f i
  | _, _, .nil => ⟨[], .nil, rfl, fun _ h => nomatch h⟩
  | _, _, .cons x r => by
    obtain ⟨fs, a, b, c⟩ := row_tups r
    obtain ⟨ad, f, rv, rfl, ⟨o, ho, hc, n, hd⟩, hk⟩ := x
    exact ⟨f :: fs, .cons ho hc hd rfl a, by simp [b], fun y hy => by rcases List.mem_cons.mp hy with rfl | hy; exact ⟨_, hk⟩; exact c y hy⟩
theorem nodup_get {α : Type} {l : List α} (h : l.Nodup) {i j : Nat} {x : α} (hi : l[i]? = some x) (hj : l[j]? = some x) : i = j := by
  obtain ⟨a, b⟩ := List.getElem?_eq_some_iff.mp hi
  obtain ⟨c, d⟩ := List.getElem?_eq_some_iff.mp hj
  exact (List.getElem_inj h).mp (b.trans d.symm)
theorem cmpRow {vs : List Value} {is : List It} (h : All2 (RowP g) vs is) (hn : (is.map (·.n)).Nodup) : Cmp prog w g vs (tuples' false) (ltI is) where
  kind := fun A E s Q h2 hs hQ => by
    obtain ⟨fs, a, b, c⟩ := row_tups h
    refine kat_kind (tups_mono hs a) (by omega) (T := .type "tuple") (fun v hv => ?_) rfl hQ
    obtain ⟨i, ad, x, t, rfl, ⟨o, ho, hc, _⟩, _⟩ := c v hv
    rw [← hc]
    exact (Looks.ld (hs _ _ ho)).andThen .now
  lt := fun A s i j Q hu hi hj hij hs hQ => by
    obtain ⟨x, hx, ax, l1, r1, e1, ⟨o1, ho1, hc1, n1, hd1⟩, p1⟩ := h.get (getD_of hi)
    obtain ⟨y, hy, ay, l2, r2, e2, ⟨o2, ho2, hc2, n2, hd2⟩, p2⟩ := h.get (getD_of hj)
    have hne : x.n ≠ y.n := fun e => hij (nodup_get hn (x := x.n) (by rw [List.getElem?_map, hx]; rfl) (by rw [List.getElem?_map, hy, e]; rfl))
    rw [e1, e2]
    obtain ⟨a1, q1, k1⟩ := p1.key (prog := prog) (w := w) hs
    obtain ⟨a2, q2, k2⟩ := p2.key (prog := prog) (w := w) hs
    subst q1 q2
    refine kat_lt (hs _ _ ho1) hd1 (hs _ _ ho2) hd2 (kat_cons (wpAny_eqBool_tuple (by omega) k1 k2 ?_))
    have e0 : decide ([K0.i 0, .x x.n] = [.i 0, .x y.n]) = false := by simp [hne]
    have hq : Q (decide (x.n.cps.toList < y.n.cps.toList)) s := by
      have : ltI is i j = decide (x.n.cps.toList < y.n.cps.toList) := by unfold ltI; rw [List.getD_eq_getElem?_getD, List.getD_eq_getElem?_getD, hx, hy]; rfl
      rw [← this]; exact hQ
    rw [e0]
    exact kat_no (kat_one _ _ (lt_pr (by omega) p1 p2 hs hne hq))

theorem perm_pick {α : Type} {vs : List α} {d : α} {p : List Nat} (hp : p.Perm (List.range vs.length)) : (p.map fun i => vs.getD i d).Perm vs := by
  have h1 := hp.map (fun i => vs.getD i d)
  have h2 : (List.range vs.length).map (fun i => vs.getD i d) = vs := by
    apply List.ext_getElem
    · simp
    · intro i h1 h2; simp [List.getElem?_eq_getElem h2]
  rw [h2] at h1
  exact h1
theorem exAll2 {α : Type} {R : Value → α → Prop} : ∀ {vs : List Value}, (∀ v ∈ vs, ∃ i, R v i) → ∃ is, All2 R vs is
  | [], _ => ⟨[], .nil⟩
  | v :: vs, h => let ⟨i, hi⟩ := h v (.head _); let ⟨is, his⟩ := exAll2 (vs := vs) fun u hu => h u (.tail _ hu); ⟨i :: is, .cons hi his⟩
theorem Pr.mono {k0 : K0} {v : Value} {i : It} (h : Pr k0 g v i) (s : Sub g g') : Pr k0 g' v i := let ⟨a, x, t, e, r, k⟩ := h; ⟨a, x, t, e, isTup_mono r s, k⟩
theorem RowP.mono {v : Value} {i : It} (h : RowP g v i) (s : Sub g g') : RowP g' v i := let ⟨a, x, t, e, r, k⟩ := h; ⟨a, x, t, e, isTup_mono r s, k.mono s⟩

/-- sorted(a set of pairs with one head): some order -/
theorem sortedSet {a : Addr} {o : Obj} {cs : List (Int × Value)} {k0 : K0} {Q : Value → Shared → Prop} (hu : A.units + 70 < cLine) (hh : A.handled = none) (H : In F g led m s) (ha : g.get? a = some o) (hP : SetP cs o) (hl0 : LedW w o) (h4 : cs.length ≤ 4)
    (he : ∀ v ∈ cs.map (·.2), ∃ i, Pr k0 g v i) (h : ∀ (out : List Value) (S : Addr) g' s', Sub g g' → out.Perm (cs.map (·.2)) → g'.IsList S out.toArray → In F g' led m s' → Q (.ref S) s') : wpAny (model prog w) A (call (.builtin "sorted") [.ref a]) Q E s := by
  refine sortedV (g := g) (F := F) (m := m) (led := led) (Ok := fun vs => vs.Perm (cs.map (·.2))) hu (fun C hC => collect_set hh H ha hP hl0 h4 fun vs g' s' a b => hC vs g' s' a b (by rw [b.length_eq, List.length_map]; exact h4)) fun vs g' hg hp h4' => ?_
  obtain ⟨is, hi⟩ := exAll2 (R := Pr k0 g') (vs := vs) fun v hv => let ⟨i, hi⟩ := he v (hp.mem_iff.mp hv); ⟨i, hi.mono hg⟩
  refine ⟨_, _, cmpPr hi, fun s' S g'' hs hl H' => h _ S g'' s' (hg.trans hs) ((perm_pick (sortP_perm _ ?_)).trans hp) hl H'⟩
  rw [hp.length_eq, List.length_map]; exact h4

theorem All2.imp_mem {α β : Type} {R S : α → β → Prop} {l : List α} {m : List β} (h : All2 R l m) (f : ∀ a b, b ∈ m → R a b → S a b) : All2 S l m := by
  induction h with
  | nil => exact .nil
  | cons x _ ih => exact .cons (f _ _ (.head _) x) (ih fun a b hb => f a b (.tail _ hb))
theorem All2.mapR {α β γ : Type} {R : α → γ → Prop} {f : β → γ} {l : List α} {m : List β} (h : All2 (fun a b => R a (f b)) l m) : All2 R l (m.map f) := by
  induction h with
  | nil => exact .nil
  | cons x _ ih => exact .cons x ih
/-- sorted(a list of pairs): the canonical order -/
theorem sortedL {l : Addr} {vs : List Value} {is : List It} {Q : Value → Shared → Prop} (hu : A.units + 70 < cLine) (H : In F g led m s) (hl : g.IsList l vs.toArray) (hv : All2 (LIt g) vs is) (hN : ∀ x ∈ is, x ∈ isN) (hn : is.Nodup) (h4 : is.length ≤ 4)
    (h : ∀ v g' s', Sub g g' → Lst LIt g' v (canon is) → In F g' led m s' → Q v s') : wpAny (model prog w) A (call (.builtin "sorted") [.ref l]) Q E s := by
  have hvl := hv.length
  refine sortedV (g := g) (F := F) (m := m) (led := led) (Ok := fun vs' => vs' = vs) hu (fun C hC => collect_lst H hl (by omega) fun s' H' => hC vs g s' (.refl _) rfl (by omega) H') fun vs' g' hg hp h4' => ?_
  subst hp
  have hv' := hv.imp fun v b => (fun h => LIt.mono h hg : LIt g v b → LIt g' v b)
  have hmem : ∀ {v b}, b ∈ is → LIt g' v b → Pr (.i 0) g' v b := fun hb x => x.pr (by have := hN _ hb; revert this; simp only [isN, List.mem_cons, List.not_mem_nil, or_false]; rintro (rfl | rfl | rfl | rfl | rfl) <;> rfl)
  refine ⟨_, _, cmpPr (All2.imp_mem hv' fun v b hb x => hmem hb x), fun s' S g'' hs hl' H' => h _ g'' s' (hg.trans hs) ⟨S, _, rfl, hl', ?_⟩ H'⟩
  have := (hv'.pick (d := iN "S") (sortP (ltI is) vs'.length) fun i hi => by have := (sortP_perm (ltI is) h4').mem_iff.mp hi; simpa using this)
  rw [hvl, sort_canon hN hn h4, ← hvl] at this
  exact this.imp fun v b x => x.mono hs

/-- sorted(a list of rows with empty right sides) -/
theorem sortedR {l : Addr} {vs : List Value} {rs : List Row2} {Q : Value → Shared → Prop} (hu : A.units + 70 < cLine) (H : In F g led m s) (hl : g.IsList l vs.toArray) (hv : All2 (LRow g) vs rs) (hN : ∀ x ∈ rs, x.1 ∈ isN) (hn : (rs.map (·.1)).Nodup) (h4 : rs.length ≤ 4) (hE : ∀ x ∈ rs, x.2 = [])
    (h : ∀ v g' s', Sub g g' → Lst LRow g' v ((canon (rs.map (·.1))).map fun i => (i, [])) → In F g' led m s' → Q v s') : wpAny (model prog w) A (call (.builtin "sorted") [.ref l]) Q E s := by
  have hvl := hv.length
  refine sortedV (g := g) (F := F) (m := m) (led := led) (Ok := fun vs' => vs' = vs) hu (fun C hC => collect_lst H hl (by omega) fun s' H' => hC vs g s' (.refl _) rfl (by omega) H') fun vs' g' hg hp h4' => ?_
  subst hp
  have hv' := hv.imp fun v b => (LRow.mono' _ _ _ _ hg : LRow g v b → LRow g' v b)
  have hNt : ∀ {b : It}, b ∈ isN → b.t = false := fun hb => by revert hb; simp only [isN, List.mem_cons, List.not_mem_nil, or_false]; rintro (rfl | rfl | rfl | rfl | rfl) <;> rfl
  have hr : All2 (RowP g') vs' (rs.map (·.1)) := by
    have : All2 (fun v (b : Row2) => RowP g' v b.1) vs' rs := All2.imp_mem hv' fun v b hb ⟨a, lv, rv, e, x, y, _⟩ => ⟨a, lv, rv, e, x, y.pr (hNt (hN b hb))⟩
    exact All2.mapR this
  have hNn : ∀ {x y : It}, x ∈ isN → y ∈ isN → x.n = y.n → x = y := fun {x y} hx hy e => by
    have hx := hNt hx; have hy := hNt hy
    cases x; cases y; simp only at hx hy e; subst hx hy e; rfl
  have hnn : ((rs.map (·.1)).map (·.n)).Nodup := by
    rw [List.nodup_iff_pairwise_ne] at hn ⊢
    rw [List.pairwise_map]
    exact List.Pairwise.imp_of_mem (fun {a b} ha hb hne e => hne (hNn (by obtain ⟨x, hx, rfl⟩ := List.mem_map.mp ha; exact hN x hx) (by obtain ⟨x, hx, rfl⟩ := List.mem_map.mp hb; exact hN x hx) e)) hn
  refine ⟨_, _, cmpRow hr hnn, fun s' S g'' hs hl' H' => h _ g'' s' (hg.trans hs) ⟨S, _, rfl, hl', ?_⟩ H'⟩
  have e1 := (hv'.pick (d := ((iN "S", []) : Row2)) (sortP (ltI (rs.map (·.1))) vs'.length) fun i hi => by have := (sortP_perm (ltI (rs.map (·.1))) h4').mem_iff.mp hi; simpa using this)
  have e2 := sort_canon (is := rs.map (·.1)) (fun x hx => by obtain ⟨y, hy, rfl⟩ := List.mem_map.mp hx; exact hN y hy) hn (by simpa using h4)
  have e3 : (sortP (ltI (rs.map (·.1))) vs'.length).map (fun i => rs.getD i (iN "S", [])) = (canon (rs.map (·.1))).map fun i => (i, []) := by
    rw [← e2, List.map_map, List.length_map, ← hvl]
    refine List.map_congr_left fun i hi => ?_
    have hi' : i < rs.length := by have := (sortP_perm (ltI (rs.map (·.1))) h4').mem_iff.mp hi; rw [← hvl]; simpa using this
    have hg : rs[i]? = some rs[i] := List.getElem?_eq_getElem hi'
    show rs.getD i _ = ((rs.map (·.1)).getD i _, [])
    rw [List.getD_eq_getElem?_getD, List.getD_eq_getElem?_getD, List.getElem?_map, hg]
    show rs[i] = (rs[i].1, [])
    have := hE rs[i] (List.getElem_mem hi')
    rw [← this]
  rw [e3] at e1
  exact e1.imp fun v b x => LRow.mono' _ _ _ _ hs x
end
end Mine
end

section
open PySem PySem.W PySem.Calls PyProof.Rows
set_option maxRecDepth 100000
namespace Mine

section
variable {prog : Program} {w : World} {mg mb : Str → Option Value} {A : Around} {E : Value → Shared → Prop} {s s' : Shared} {F : Fx} {g g' : Heap} {led : Led} {m : Str → Option Value} {env : Env}
variable {a d x : Addr} {k : List K0} {o : Obj} {cs : List (Int × Value)} {js : List It} {j : It}

/-! ## sets of keys -/
theorem All2.mapL {α β γ : Type} {R : γ → β → Prop} {f : α → γ} {l : List α} {m : List β} (h : All2 (fun a b => R (f a) b) l m) : All2 R (l.map f) m := by
  induction h with
  | nil => exact .nil
  | cons x _ ih => exact .cons x ih
theorem All2.perm {α β : Type} {R : α → β → Prop} {l l' : List α} (hp : l.Perm l') : ∀ {m : List β}, All2 R l m → ∃ m', m'.Perm m ∧ All2 R l' m' := by
  induction hp with
  | nil => intro m h; exact ⟨m, .refl _, h⟩
  | cons x _ ih => intro m h; cases h with | cons r h => obtain ⟨m', a, b⟩ := ih h; exact ⟨_, .cons _ a, .cons r b⟩
  | swap x y l => intro m h; cases h with | cons r h => cases h with | cons r2 h => exact ⟨_, .swap .., .cons r2 (.cons r h)⟩
  | trans _ _ ih1 ih2 => intro m h; obtain ⟨m1, a, b⟩ := ih1 h; obtain ⟨m2, c, d⟩ := ih2 b; exact ⟨m2, c.trans a, d⟩

def EltN (prog : Program) (w : World) (g : Heap) (cs : List (Int × Value)) (js : List It) : Prop :=
  js.Nodup ∧ ∃ js', js'.Perm js ∧ All2 (fun e j => ∃ a, e = ((HK prog w).hash (kN j), .ref a) ∧ KeyAt g (.ref a) j) cs js'
theorem KeyAt.is {v : Value} (h : KeyAt g v j) (hs : Sub g s.heap) : ∃ a, v = .ref a ∧ (HK prog w).is s.heap (kN j) a := h.key hs
theorem KeyAt.isg (h : KeyAt g (.ref a) j) : (HK prog w).is g (kN j) a := by
  obtain ⟨b, t1, t2, e, o, ho, hc, n, hd⟩ := h
  cases e
  exact ⟨o, _, n, ho, hc, hd, .cons (by simp [mixKind, K0.is, Value.isStrOf]) (.cons (by simp [mixKind, K0.is, Value.isStrOf]) .nil)⟩
theorem EltN.mono (h : EltN prog w g cs js) (hs : Sub g g') : EltN prog w g' cs js :=
  let ⟨a, js', b, c⟩ := h; ⟨a, js', b, c.imp fun _ _ ⟨x, e, y⟩ => ⟨x, e, y.mono hs⟩⟩
theorem EltN.len (h : EltN prog w g cs js) : cs.length = js.length := let ⟨_, _, b, c⟩ := h; c.length.trans b.length_eq
theorem kN_nodup (h : js.Nodup) : (js.map kN).Nodup := by
  rw [List.nodup_iff_pairwise_ne] at h ⊢
  rw [List.pairwise_map]
  exact h.imp fun hne e => hne (kN_inj e)
theorem EltN.elts (h : EltN prog w g cs js) (hs : Sub g g') : ∃ js' : List It, js'.Perm js ∧ Elts prog w g' (js'.map kN) cs := by
  obtain ⟨a, js', b, c⟩ := h
  refine ⟨js', b, ?_, kN_nodup (b.nodup_iff.mpr a)⟩
  exact All2.mapR (c.imp fun e j ⟨x, e1, y⟩ => ⟨x, e1, (y.mono hs).isg⟩)
theorem All2.mem_l {α β : Type} {R : α → β → Prop} {l : List α} {m : List β} (h : All2 R l m) {x : α} (hx : x ∈ l) : ∃ y ∈ m, R x y := by
  induction h with
  | nil => cases hx
  | cons r _ ih =>
    rcases List.mem_cons.mp hx with rfl | hx
    · exact ⟨_, .head _, r⟩
    · obtain ⟨y, hy, q⟩ := ih hx; exact ⟨y, .tail _ hy, q⟩
theorem EltN.vals (h : EltN prog w g cs js) {v : Value} (hv : v ∈ cs.map (·.2)) : ∃ j ∈ js, KeyAt g v j := by
  obtain ⟨e, he, rfl⟩ := List.mem_map.mp hv
  obtain ⟨_, js', b, c⟩ := h
  obtain ⟨j, hj, a, rfl, hk⟩ := c.mem_l he
  exact ⟨j, b.mem_iff.mp hj, hk⟩
theorem All2.take {α β : Type} {R : α → β → Prop} : ∀ (p : Nat) {l : List α} {m : List β}, All2 R l m → All2 R (l.take p) (m.take p) ∧ All2 R (l.drop p) (m.drop p)
  | 0, _, _, x => ⟨.nil, x⟩
  | p + 1, _, _, .nil => ⟨.nil, .nil⟩
  | p + 1, _, _, .cons r x => ⟨.cons r (All2.take p x).1, (All2.take p x).2⟩
theorem EltN.laid (h : EltN prog w g cs js) (p : Nat) (hk : KeyAt g (.ref x) j) (hn : j ∉ js) : EltN prog w g (Mine.laid p cs ((HK prog w).hash (kN j), .ref x)) (j :: js) := by
  obtain ⟨a, js', b, c⟩ := h
  refine ⟨List.nodup_cons.mpr ⟨hn, a⟩, js'.take p ++ j :: js'.drop p, ?_, ?_⟩
  · refine List.perm_middle.trans (.cons _ ?_)
    rw [List.take_append_drop]; exact b
  · exact (c.take p).1.append (.cons ⟨x, rfl, hk⟩ (c.take p).2)
theorem EltN.one (hk : KeyAt g (.ref x) j) : EltN prog w g [((HK prog w).hash (kN j), .ref x)] [j] := ⟨List.nodup_cons.mpr ⟨by simp, List.nodup_nil⟩, [j], .refl _, .cons ⟨x, rfl, hk⟩ .nil⟩
theorem EltN.nil : EltN prog w g [] [] := ⟨List.nodup_nil, [], .refl _, .nil⟩
theorem mem_kN {js' : List It} (b : js'.Perm js) : decide (kN j ∈ js'.map kN) = decide (j ∈ js) := by
  have : (kN j ∈ js'.map kN) ↔ j ∈ js := ⟨fun h => by obtain ⟨y, hy, e⟩ := List.mem_map.mp h; rw [kN_inj e] at hy; exact b.mem_iff.mp hy, fun h => List.mem_map.mpr ⟨j, b.mem_iff.mpr h, rfl⟩⟩
  exact decide_eq_decide.mpr this

/-- set.add, called -/
theorem sAdd {pre post : Led} {Q : Value → Shared → Prop} (hu : A.units + 1 < cLine) (H : In F g (pre ++ (a, SetL w cs) :: post) m s) (hE : EltN prog w g cs js) (hk : KeyAt g (.ref x) j) (h3 : j ∉ js → cs.length ≤ 3)
    (hold : j ∈ js → ∀ s', In F g (pre ++ (a, SetL w cs) :: post) m s' → Q .none s') (hnew : j ∉ js → ∀ cs' s', EltN prog w g cs' (j :: js) → In F g (pre ++ (a, SetL w cs') :: post) m s' → Q .none s') :
    wpAny (model prog w) A (call (.builtin "set.add") [.ref a, .ref x]) Q E s := by
  obtain ⟨o, ho, hP, hl⟩ := H.get (a := a) (P := SetL w cs) (by simp)
  obtain ⟨js', hp, hE'⟩ := hE.elts H.into
  refine wpAny_call_entry PySem.F.slot_set_add (hP.typeIs ho) PySem.F.entry_set_add ?_ (PySem.F.args_set_add_2 _ _)
  unfold Builtin.«set.add» Builtin.Frozenset.oneOther
  simp only [List.isEmpty_nil, bind_assoc]
  unfold Builtin.Frozenset.addrOf
  refine wpAny_bind (wpAny_pure ?_)
  try dsimp only
  refine wpAny_bind (wpAny_pure ?_)
  try dsimp only
  have hm : kN j ∈ js'.map kN ↔ j ∈ js := by simpa using mem_kN (j := j) hp
  refine wpAny_bind (setAddL (k := kN j) (x := x) (show A.in1.units < cLine from hu) H hE' (key_keeps hk.isg H.into) (fun q => h3 fun r => q (hm.mpr r)) (fun q s' H' => ?_) fun q p s' H' => ?_)
  · exact wpAny_pure ⟨_, rfl, hold (hm.mp q) s' H'⟩
  · exact wpAny_pure ⟨_, rfl, hnew (fun r => q (hm.mpr r)) _ s' (hE.laid p hk fun r => q (hm.mpr r)) H'⟩
theorem mAdd {pre post : Led} {pl : Sem Bool} {Q : Value × List Value → Shared → Prop} (H : In F g (pre ++ (a, SetL w cs) :: post) m s) (h : Q (.builtin "set.add", [.ref a]) s) :
    wpAny (model prog w) A (getMethod (.ref a) "add" pl) Q E s := by
  obtain ⟨o, ho, hP, hl⟩ := H.get (a := a) (P := SetL w cs) (by simp)
  exact getMethod_builtin (hP.typeIs ho) PySem.F.plainAttrs_set PySem.F.slot_set_add PySem.F.type_set_add (fun b e => by cases e; exact ⟨o, ho, hP.2.1⟩) h
theorem sNotIn {pre post : Led} {Q : Value → Shared → Prop} (hu : A.units + 1 < cLine) (H : In F g (pre ++ (a, SetL w cs) :: post) m s) (hE : EltN prog w g cs js) (hk : KeyAt g (.ref x) j)
    (h : ∀ s', In F g (pre ++ (a, SetL w cs) :: post) m s' → Q (.bool (!decide (j ∈ js))) s') : wpAny (model prog w) A (compareOp .NotIn (.ref x) (.ref a)) Q E s := by
  obtain ⟨o, ho, hP, hl⟩ := H.get (a := a) (P := SetL w cs) (by simp)
  obtain ⟨js', hp, hE'⟩ := hE.elts H.into
  exact notInSetT hu ho hP hE' (key_keeps hk.isg H.into) (by rw [mem_kN hp]; exact h _ (H.toks _))

/-- a set of keys that rests -/
def SetAt (prog : Program) (w : World) (g : Heap) (v : Value) (js : List It) : Prop := ∃ a o cs, v = .ref a ∧ g.get? a = some o ∧ SetP cs o ∧ LedW w o ∧ EltN prog w g cs js
theorem SetAt.mono {v : Value} (h : SetAt prog w g v js) (hs : Sub g g') : SetAt prog w g' v js := let ⟨a, o, cs, e, h1, h2, h3, h4⟩ := h; ⟨a, o, cs, e, hs _ _ h1, h2, h3, h4.mono hs⟩
theorem sIn {v : Value} {Q : Value → Shared → Prop} (hu : A.units + 1 < cLine) (H : In F g led m s) (hv : SetAt prog w g v js) (hk : KeyAt g (.ref x) j)
    (h : ∀ s', In F g led m s' → Q (.bool (decide (j ∈ js))) s') : wpAny (model prog w) A (compareOp .In (.ref x) v) Q E s := by
  obtain ⟨a, o, cs, rfl, ho, hP, _, hE⟩ := hv
  obtain ⟨js', hp, hE'⟩ := hE.elts H.into
  exact inSetT hu (H.into _ _ ho) hP hE' (key_keeps hk.isg H.into) (by rw [mem_kN hp]; exact h _ (H.toks _))
theorem sIter {v : Value} {Q : Value → Shared → Prop} (H : In F g led m s) (hv : SetAt prog w g v js)
    (h : ∀ I (St : List Value → Obj → Prop) vs is g' s', Sub g g' → is.Perm js → All2 (KeyAt g') vs is → Src prog w g' (fun v x => v = x) I St → In F g' ((I, St vs) :: led) m s' → Q (.ref I) s') :
    wpAny (model prog w) A (pyIter v) Q E s := by
  obtain ⟨a, o, cs, rfl, ho, hP, hl, hE⟩ := hv
  refine itSet H ho hP hl fun I St vs g' s' hg hp K H' => ?_
  obtain ⟨hn, js', b, c⟩ := hE.mono hg
  have c1 : All2 (KeyAt g') (cs.map (·.2)) js' := All2.mapL (f := fun e : Int × Value => e.2) (R := KeyAt g') (c.imp fun e j ⟨a, e1, hk⟩ => by subst e1; exact hk)
  obtain ⟨is, hi, hall⟩ := c1.perm hp.symm
  exact h I St vs is g' s' hg (hi.trans b) hall K H'
theorem sSorted {v : Value} {Q : Value → Shared → Prop} (hu : A.units + 70 < cLine) (hh : A.handled = none) (H : In F g led m s) (hv : SetAt prog w g v js) (hN : ∀ i ∈ js, i.t = false)
    (h : ∀ v' is g' s', Sub g g' → is.Perm js → Lst KeyAt g' v' is → In F g' led m s' → Q v' s') : wpAny (model prog w) A (call (.builtin "sorted") [v]) Q E s := by
  obtain ⟨a, o, cs, rfl, ho, hP, hl, hE⟩ := hv
  refine sortedSet (k0 := .x (Str.ofString "N")) hu hh H ho hP hl (by obtain ⟨_, _, _, _, _, _, _, _, _, _, _, _, h4, _⟩ := hP; exact h4) (fun v hv => ?_) fun out S g' s' hg hp hL H' => ?_
  · obtain ⟨i, hi, hk⟩ := hE.vals hv
    exact ⟨i, hk.pr (hN i hi)⟩
  · obtain ⟨hn, js', b, c⟩ := hE.mono hg
    have c1 : All2 (KeyAt g') (cs.map (·.2)) js' := All2.mapL (f := fun e : Int × Value => e.2) (R := KeyAt g') (c.imp fun e j ⟨a, e1, hk⟩ => by subst e1; exact hk)
    obtain ⟨is, hi, hall⟩ := c1.perm hp.symm
    exact h _ is g' s' hg (hi.trans b) ⟨S, out, rfl, hL, hall⟩ H'
end
end Mine
end

section
open PySem PySem.W PySem.Calls PyProof.Rows
set_option maxRecDepth 100000
namespace Mine

section
variable {prog : Program} {w : World} {mg mb : Str → Option Value} {A : Around} {E : Value → Shared → Prop} {s s' : Shared} {F : Fx} {g g' : Heap} {led : Led} {m : Str → Option Value} {env : Env}
variable {a d x l : Addr} {k : List K0} {o : Obj} {vs : List Value}

/-! ## lists on the ledger, exactly shaped -/
theorem appendQ {pre post : Led} {x : Value} {Q : Value → Shared → Prop} (H : In F g (pre ++ (l, SQ vs) :: post) m s) (hz : vs.length ≤ 1000) (h : ∀ s', In F g (pre ++ (l, SQ (vs ++ [x])) :: post) m s' → Q .none s') :
    wpAny (model prog w) A (call (.builtin "list.append") [.ref l, x]) Q E s := by
  obtain ⟨o, ho, n, rfl⟩ := H.get (a := l) (P := SQ vs) (by simp)
  have e := get?_update_seq ho (·.push x)
  exact call_meets PySem.F.slot_list_append ⟨_, ho, rfl⟩ PySem.F.entry_list_append (PySem.F.args_list_append_2 _ _) (list_append l vs.toArray n x (by rw [List.size_toArray, sizeLine_eq]; omega))
    ⟨ho, h _ (H.put (Heap.SameBut.update ..) e ⟨_, by rw [List.push_toArray]⟩ s.toks)⟩
theorem popQ {pre post : Led} {pos : Pos} {y : Value} {Q : Value → Shared → Prop} (H : In F g (pre ++ (l, SQ (vs ++ [y])) :: post) m s) (hz : vs.length ≤ 1000) (h : ∀ s', In F g (pre ++ (l, SQ vs) :: post) m s' → Q y s') :
    wpAny (model prog w) A (callWith pos (.builtin "list.pop") [.ref l] [] []) Q E s := by
  obtain ⟨o, ho, n, rfl⟩ := H.get (a := l) (P := SQ (vs ++ [y])) (by simp)
  have e := get?_update_seq ho (fun xs => xs.eraseIdxIfInBounds ((vs ++ [y]).toArray.size - 1))
  refine P.pop_list (items := (vs ++ [y]).toArray) ho (y := y) (by simp) (h _ (H.put (Heap.SameBut.update ..) e ?_ s.toks)) (by rw [List.size_toArray, List.length_append, sizeLine_eq]; simp; omega)
  have : ((vs ++ [y]).toArray.eraseIdxIfInBounds ((vs ++ [y]).toArray.size - 1)) = vs.toArray := by
    apply Array.toList_inj.mp
    simp [Array.eraseIdxIfInBounds]
    rw [List.eraseIdx_append_of_length_le (Nat.le_refl _)]
    simp
  rw [this]
  exact ⟨_, rfl⟩
theorem mListQ {pre post : Led} {name : Str} {id : String} {pl : Sem Bool} {Q : Value × List Value → Shared → Prop} (H : In F g (pre ++ (l, SQ vs) :: post) m s) (slot : Slot "list" name id)
    (hty : typeOf (.builtin id) = pure (.type "method_descriptor")) (h : Q (.builtin id, [.ref l]) s) : wpAny (model prog w) A (getMethod (.ref l) name pl) Q E s := by
  obtain ⟨o, ho, n, rfl⟩ := H.get (a := l) (P := SQ vs) (by simp)
  exact getMethod_builtin ⟨_, ho, rfl⟩ PySem.F.plainAttrs_list slot hty (fun a e => by cases e; exact ⟨_, ho, rfl⟩) h
theorem trQ {pre post : Led} {Q : Bool → Shared → Prop} (H : In F g (pre ++ (l, SQ vs) :: post) m s) (hz : vs.length ≤ 1000) (h : ∀ s', In F g (pre ++ (l, SQ vs) :: post) m s' → Q (!vs.isEmpty) s') :
    wpAny (model prog w) A (truthy (.ref l)) Q E s := by
  obtain ⟨o, ho, n, rfl⟩ := H.get (a := l) (P := SQ vs) (by simp)
  refine wpAny_truthy_list (items := vs.toArray) ⟨_, ho, rfl, n, rfl⟩ (by rw [List.size_toArray]; omega) ?_
  have : (!vs.toArray.isEmpty) = !vs.isEmpty := by cases vs <;> rfl
  rw [this]
  exact h _ (H.toks _)
theorem listQ {M : Model} {es : List PySem.Expr} {pos : Pos} {Q : Value → Shared → Prop}
    (h : wpAny M A (spliced (backTo pos (starEach es env))) (fun vs s₁ => ∃ F g led m, In F g led m s₁ ∧ vs.length ≤ 1000 ∧ ∀ l s', In F g ((l, SQ vs) :: led) m s' → s₁.heap.objs.size ≤ l → Q (.ref l) s') E s) : wpAny M A (eval (.List es pos) env) Q E s := by
  refine List_ (wpAny_mono h (fun vs s1 h1 => ?_) fun _ _ q => q)
  obtain ⟨F, g, led, m, H, hz, hQ⟩ := h1
  exact wpAny_newList (hQ _ _ (H.new (seqObj "list" vs.toArray 0) rfl (SQ vs) ⟨0, rfl⟩) (Nat.le_refl _)) (by rw [sizeLine_eq]; omega)
theorem dictQ {pos : Pos} {Q : Value → Shared → Prop} (H : In F g led m s) (h : ∀ d s', In F g ((d, DP prog w []) :: led) m s' → s.heap.objs.size ≤ d → Q (.ref d) s') : wpAny (model prog w) A (eval (.Dict [] [] pos) env) Q E s :=
  wpAny_Dict_empty (h _ _ H.newD (Nat.le_refl _))

/-- a while statement -/
theorem ex_while {test : PySem.Expr} {body rest : List Stmt} {pos : Pos} {Q : Flow → Shared → Prop} (I : Nat → Shared → Prop)
    (turn : ∀ n s, I n s → wpAny (model prog w) A (isTrue test env (eval test env)) (fun b s₂ =>
        if b then wpAny (model prog w) A (execs body env) (fun f s₃ => match f with
            | .next | .cont => ∃ m, m < n ∧ I m s₃
            | .brk => False
            | .ret v => Q (.ret v) s₃) (fun _ _ => False) s₂
        else wpAny (model prog w) A (execs rest env) Q E s₂) (fun _ _ => False) s) (n : Nat) (h : I n s) : wpAny (model prog w) A (execs (.While test body [] pos :: rest) env) Q E s := by
  refine wpAny_execs_cons (wpAny_While (codeAny_whileLoop I (fun n s hI => ?_) n h))
  refine wpAny_mono (turn n s hI) (fun b s₂ h₂ => ?_) fun _ _ q => q.elim
  cases b with
  | true =>
    simp only [if_true] at h₂ ⊢
    refine wpAny_mono h₂ (fun f s₃ h₃ => ?_) fun _ _ q => q.elim
    cases f with
    | brk => exact h₃.elim
    | next => exact h₃
    | cont => exact h₃
    | ret v => exact h₃
  | false =>
    simp only [Bool.false_eq_true, if_false] at h₂ ⊢
    exact wpAny_execs_nil h₂

/-! ## dicts keyed by symbols -/
def EntR {β : Type} (R : Heap → Value → β → Prop) (g : Heap) (xs : KVs) (G : List (It × β)) : Prop := All2 (fun x p => x.1 = kN p.1 ∧ KeyAt g (.ref x.2.1) p.1 ∧ R g x.2.2 p.2) xs G
section
variable {β : Type} {R : Heap → Value → β → Prop} {xs : KVs} {G : List (It × β)} {j : It}
theorem EntR.mono (hm : ∀ g g' v b, Sub g g' → R g v b → R g' v b) (h : EntR R g xs G) (hs : Sub g g') : EntR R g' xs G := h.imp fun _ _ ⟨a, b, c⟩ => ⟨a, b.mono hs, hm _ _ _ _ hs c⟩
theorem EntR.keys (h : EntR R g xs G) : KeysIn prog w g xs := fun x hx => by
  obtain ⟨p, _, e, hk, _⟩ := h.mem_l hx
  rw [e]; exact hk.isg
theorem EntR.none (h : EntR R g xs G) (hj : j ∉ G.map (·.1)) : atKey xs (kN j) = none := by
  unfold atKey
  rw [Option.map_eq_none_iff, List.find?_eq_none]
  intro x hx
  obtain ⟨p, hp, e, _, _⟩ := h.mem_l hx
  simp only [decide_eq_true_eq]
  intro q
  rw [e] at q
  exact hj (List.mem_map.mpr ⟨p, hp, kN_inj q⟩)
theorem EntR.some (h : EntR R g xs G) {y : β} (hn : (G.map (·.1)).Nodup) (hj : (j, y) ∈ G) : ∃ a v, atKey xs (kN j) = some (a, v) ∧ R g v y := by
  unfold atKey
  induction h with
  | nil => cases hj
  | @cons x p xs G r hr ih =>
    obtain ⟨e, hk, hR⟩ := r
    rw [List.map_cons, List.nodup_cons] at hn
    rcases List.mem_cons.mp hj with q | q
    · rw [List.find?_cons_of_pos (by rw [e, ← q]; simp)]
      exact ⟨x.2.1, x.2.2, rfl, by rw [← q] at hR; exact hR⟩
    · rw [List.find?_cons_of_neg (by rw [e]; simp only [decide_eq_true_eq]; intro q'; rw [kN_inj q'] at hn; exact hn.1 (List.mem_map.mpr ⟨_, q, rfl⟩))]
      exact ih hn.2 q
theorem EntR.new (h : EntR R g xs G) {y : β} {v : Value} (hj : j ∉ G.map (·.1)) (hk : KeyAt g (.ref a) j) (hR : R g v y) : EntR R g (storedH xs (kN j) a v) (G ++ [(j, y)]) := by
  rw [storedH_new (h.none hj)]
  exact h.snoc ⟨rfl, hk, hR⟩
theorem EntR.vals (h : EntR R g xs G) : All2 (fun x p => KeyAt g (.ref x.2.1) p.1 ∧ R g x.2.2 p.2) xs G := h.imp fun _ _ ⟨_, b, c⟩ => ⟨b, c⟩
end

/-- a dict keyed by symbols, at rest -/
def DictR {β : Type} (prog : Program) (w : World) (R : Heap → Value → β → Prop) (g : Heap) (v : Value) (G : List (It × β)) : Prop := (G.map (·.1)).Nodup ∧ ∃ d o xs, v = .ref d ∧ d ≠ 1 ∧ g.get? d = some o ∧ DP prog w xs o ∧ EntR R g xs G
theorem DictR.mono {β : Type} {R : Heap → Value → β → Prop} {v : Value} {G : List (It × β)} (hm : ∀ g g' v b, Sub g g' → R g v b → R g' v b) (h : DictR prog w R g v G) (hs : Sub g g') : DictR prog w R g' v G :=
  let ⟨n, d, o, xs, e, h1, h2, h3, h4⟩ := h; ⟨n, d, o, xs, e, h1, hs _ _ h2, h3, h4.mono hm hs⟩
end
end Mine
end

section
open PySem PySem.W PySem.Calls PyProof.Rows
set_option maxRecDepth 100000
namespace Mine
theorem fillK10 (P : Params) : hd.heap_39 P = hd.heap_39 P → PySem.Challenge.rw_bn0044_01 = PySem.Challenge.rw_bn0044_01 := by
  k_fill
  exact fun _ => rfl

/-! ## reaching -/
def Step (G : List (It × List It)) (j k : It) : Prop := ∃ ks, (j, ks) ∈ G ∧ k ∈ ks
inductive Reach (G : List (It × List It)) (i : It) : It → Prop
  | refl : Reach G i i
  | step {j k : It} : Reach G i j → Step G j k → Reach G i k
structure Inv (G : List (It × List It)) (i : It) (js as : List It) (todo : It → It → Prop) : Prop where
  sub : ∀ x ∈ as, x ∈ js
  reach : ∀ x ∈ js, Reach G i x
  here : i ∈ js
  closed : ∀ x ∈ js, x ∉ as → ∀ k, Step G x k → k ∈ js ∨ todo x k
theorem Inv.init {G : List (It × List It)} {i : It} : Inv G i [i] [i] fun _ _ => False :=
  ⟨fun _ h => h, fun x h => by cases List.mem_singleton.mp h; exact .refl, .head _, fun x h hn => absurd h hn⟩
theorem Inv.pop {G : List (It × List It)} {i j : It} {js as rest : List It} (v : Inv G i js (as ++ [j]) fun _ _ => False) (hr : ∀ k, Step G j k → k ∈ rest) : Inv G i js as fun x k => x = j ∧ k ∈ rest :=
  ⟨fun x h => v.sub x (List.mem_append_left _ h), v.reach, v.here, fun x h hn k hk => by
    by_cases e : x = j
    · subst e; exact .inr ⟨rfl, hr k hk⟩
    · exact .inl ((v.closed x h (by rw [List.mem_append, List.mem_singleton]; rintro (q | q); exact hn q; exact e q) k hk).resolve_right id)⟩
theorem Inv.seen {G : List (It × List It)} {i j k : It} {js as rest : List It} (v : Inv G i js as fun x y => x = j ∧ y ∈ k :: rest) (hk : k ∈ js) : Inv G i js as fun x y => x = j ∧ y ∈ rest :=
  ⟨v.sub, v.reach, v.here, fun x h hn y hy => (v.closed x h hn y hy).elim .inl fun ⟨a, b⟩ => by
    rcases List.mem_cons.mp b with rfl | b
    · exact .inl hk
    · exact .inr ⟨a, b⟩⟩
theorem Inv.add {G : List (It × List It)} {i j k : It} {js as rest : List It} (v : Inv G i js as fun x y => x = j ∧ y ∈ k :: rest) (hr : Reach G i k) : Inv G i (k :: js) (as ++ [k]) fun x y => x = j ∧ y ∈ rest :=
  ⟨fun x h => by
    rcases List.mem_append.mp h with h | h
    · exact .tail _ (v.sub x h)
    · cases List.mem_singleton.mp h; exact .head _,
   fun x h => by
    rcases List.mem_cons.mp h with rfl | h
    · exact hr
    · exact v.reach x h, .tail _ v.here, fun x h hn y hy => by
    rcases List.mem_cons.mp h with rfl | h
    · exact absurd (List.mem_append_right _ (.head _)) hn
    · refine (v.closed x h (fun q => hn (List.mem_append_left _ q)) y hy).elim (fun q => .inl (.tail _ q)) fun ⟨a, b⟩ => ?_
      rcases List.mem_cons.mp b with rfl | b
      · exact .inl (.head _)
      · exact .inr ⟨a, b⟩⟩
theorem Inv.drop {G : List (It × List It)} {i j : It} {js as : List It} (v : Inv G i js as fun x y => x = j ∧ y ∈ ([] : List It)) : Inv G i js as fun _ _ => False :=
  ⟨v.sub, v.reach, v.here, fun x h hn y hy => (v.closed x h hn y hy).elim .inl fun ⟨_, b⟩ => nomatch b⟩
theorem Inv.fin {G : List (It × List It)} {i : It} {js : List It} (v : Inv G i js [] fun _ _ => False) (x : It) : x ∈ js ↔ Reach G i x := by
  refine ⟨v.reach x, fun h => ?_⟩
  induction h with
  | refl => exact v.here
  | step _ hs ih => exact (v.closed _ ih (fun q => nomatch q) _ hs).resolve_right id

theorem nodup_le {α : Type} [DecidableEq α] : ∀ {l U : List α}, l.Nodup → (∀ x ∈ l, x ∈ U) → l.length ≤ U.length
  | [], _, _, _ => Nat.zero_le _
  | x :: l, U, hn, hs => by
    rw [List.nodup_cons] at hn
    have h1 := nodup_le (l := l) (U := U.erase x) hn.2 fun y hy => (List.mem_erase_of_ne (fun e : y = x => hn.1 (by rw [← e]; exact hy))).mpr (hs y (.tail _ hy))
    have h2 := List.length_erase_of_mem (hs x (.head _))
    have h3 : 0 < U.length := List.length_pos_of_mem (hs x (.head _))
    rw [List.length_cons]; omega

section
variable {prog : Program} {w : World} {mg mb : Str → Option Value} {A : Around} {E : Value → Shared → Prop} {s s' : Shared} {F : Fx} {g g' : Heap} {led : Led} {m : Str → Option Value} {env : Env}

theorem callT0 {pos : Pos} {T : String} {first : List Value} {Q : Value → Shared → Prop} (h : wpAny (model prog w) A (call (.type T) (first ++ [])) Q E s) :
    wpAny (model prog w) A (callWith pos (.type T) first (backTo pos (starEach [] env)) []) Q E s :=
  callWith_of (P := fun _ => True) rfl (fun _ _ => ⟨.machine, .inr (.inl rfl), Looks.of_pure rfl⟩) (evalArgs_nil3 ⟨trivial, h⟩)

theorem g_set : bootBuiltins "set" = some (.type "set") := by kernel_rfl
theorem g_sorted : bootBuiltins "sorted" = some (.builtin "sorted") := by kernel_rfl
theorem n_set (P : Params) : nsIn (hd.heap_39 P) mainGlobals "set" = some none := by kernel_rfl
theorem n_sorted (P : Params) : nsIn (hd.heap_39 P) mainGlobals "sorted" = some none := by kernel_rfl

/-- set(), at rest -/
theorem set0 {Q : Value → Shared → Prop} (H : In F g led m s) (h : ∀ v g' s', Sub g g' → SetAt prog w g' v [] → In F g' led m s' → Q v s') : wpAny (model prog w) A (call (.type "set") []) Q E s := by
  refine call_set_0 fun ledb => ?_
  have hS := H.was (Nat.le_refl s.heap.objs.size)
  have H1 := H.new { cls := .type "set", dict := none, data := .set #[] 0 (.fresh 0 0 ledb) } rfl (fun o => SetP [] o ∧ LedW w o) (by
    rw [fresh_eq]
    exact ⟨emptySet _ 0 0 true 0, fun es ep t e => .inl (by injection e with e1; exact e1.symm)⟩)
  obtain ⟨o, g', ⟨hP, hl⟩, e, hs, H2⟩ := H1.freeze hS
  exact h _ g' _ hs ⟨_, o, [], rfl, e, hP, hl, .nil⟩ H2

theorem In.was0 (H : In F g led m s) (hm : F.mu = []) {p : Addr × (Obj → Prop)} (hp : p ∈ led) : F.s0.heap.objs.size ≤ p.1 := ((H.ent p hp).2.2.2).resolve_left (by rw [hm]; exact fun q => nomatch q)

theorem Src.map2 {α β : Type} {f : β → Value} {R : Value → α → Prop} {T : β → α → Prop} {I : Addr} {St : List β → Obj → Prop} (hT : ∀ y x, T y x → R (f y) x) (S : Src prog w g (fun v y => v = f y) I St) : Src prog w g R I (fun rest o => ∃ vr, All2 T vr rest ∧ St vr o) where
  next := by
    intro A E F g' led m s rest Q hh hg H h
    obtain ⟨o, ho, vr, hvr, hst⟩ := H.get (.head _)
    have H' : In F g' ((I, St vr) :: led) m s := H.sharp fun o' ho' _ => by rw [ho] at ho'; cases ho'; exact hst
    refine S.next A E F g' led m s vr Q hh hg H' ?_
    cases hvr with
    | nil => exact h
    | cons x r =>
      intro v s' e H2
      subst e
      exact h _ s' (hT _ _ x) (H2.sharp fun o _ p => ⟨_, r, p⟩)
  self := by
    intro A E F g' led m s rest Q hg H h
    obtain ⟨o, ho, vr, hvr, hst⟩ := H.get (.head _)
    exact S.self A E F g' led m s vr Q hg (H.sharp fun o' ho' _ => by rw [ho] at ho'; cases ho'; exact hst) h
  go := by
    intro A E F g' led m s rest tgt v Q hg H h
    obtain ⟨o, ho, vr, hvr, hst⟩ := H.get (.head _)
    exact S.go A E F g' led m s vr tgt v Q hg (H.sharp fun o' ho' _ => by rw [ho] at ho'; cases ho'; exact hst) h
theorem itDictR {β : Type} {R : Heap → Value → β → Prop} {v : Value} {G : List (It × β)} {Q : Value → Shared → Prop} (H : In F g led m s) (hv : DictR prog w R g v G)
    (h : ∀ I (St : List (It × β) → Obj → Prop) s', Src prog w g (fun v p => ∃ a, v = .ref a ∧ KeyAt g (.ref a) p.1) I St → In F g ((I, St G) :: led) m s' → Q (.ref I) s') : wpAny (model prog w) A (pyIter v) Q E s := by
  obtain ⟨_, d, o, xs, rfl, hd, hod, hp, hE⟩ := hv
  refine itDict H hod hp hd fun I St s' S H' => h I _ s' (S.map2 (T := fun (x : List K0 × Addr × Value) (p : It × β) => x.1 = kN p.1 ∧ KeyAt g (.ref x.2.1) p.1 ∧ R g x.2.2 p.2) fun y x ⟨_, b, _⟩ => ⟨_, rfl, b⟩) (H'.sharp fun o _ p => ⟨xs, hE, p⟩)
/-- d.get(key, default), d at rest -/
theorem getR {β : Type} {R : Heap → Value → β → Prop} {v : Value} {G : List (It × β)} {j : It} {x : Addr} {dflt : Value} {Q : Value → Shared → Prop} (hu : A.units + 1 < cLine) (H : In F g led m s) (hv : DictR prog w R g v G) (hk : KeyAt g (.ref x) j)
    (h0 : j ∉ G.map (·.1) → ∀ s', In F g led m s' → Q dflt s') (h1 : ∀ y u s', (j, y) ∈ G → R g u y → In F g led m s' → Q u s') : wpAny (model prog w) A (call (.builtin "dict.get") [v, .ref x, dflt]) Q E s := by
  obtain ⟨hn, d, o, xs, rfl, hd, hod, hp, hE⟩ := hv
  refine getD2 hu H hk.isg hd (hp.at (H.into _ _ hod) (hE.keys.mono H.into)) fun s' H' => ?_
  by_cases hj : j ∈ G.map (·.1)
  · obtain ⟨⟨j', y⟩, hy, e⟩ := List.mem_map.mp hj
    cases e
    obtain ⟨a, u, e, hR⟩ := hE.some hn hy
    rw [e]
    exact h1 y u s' hy hR H'
  · rw [hE.none hj]
    exact h0 hj s' H'
theorem mGetR {β : Type} {R : Heap → Value → β → Prop} {v : Value} {G : List (It × β)} {pl : Sem Bool} {Q : Value × List Value → Shared → Prop} (H : In F g led m s) (hv : DictR prog w R g v G) (h : Q (.builtin "dict.get", [v]) s) : wpAny (model prog w) A (getMethod v "get" pl) Q E s := by
  obtain ⟨hn, d, o, xs, rfl, hd, hod, hp, hE⟩ := hv
  exact mGet (hp.at (H.into _ _ hod) (hE.keys.mono H.into)) h
theorem SetAt.mono' : ∀ g g' v b, Sub g g' → SetAt prog w g v b → SetAt prog w g' v b := fun _ _ _ _ s h => h.mono s
theorem KeyAt.mono' : ∀ g g' v b, Sub g g' → KeyAt g v b → KeyAt g' v b := fun _ _ _ _ s h => h.mono s

theorem Room.u {d u c : Nat} (r : Room A d u) (h : c ≤ u) : A.units + c < cLine := by have := r.hu; omega
theorem key_one {α β : Type} : ∀ {G : List (α × β)} {j : α} {x y : β}, (G.map (·.1)).Nodup → (j, x) ∈ G → (j, y) ∈ G → x = y
  | p :: G, j, x, y, hn, a, b => by
    rw [List.map_cons, List.nodup_cons] at hn
    rcases List.mem_cons.mp a with a | a <;> rcases List.mem_cons.mp b with b | b
    · rw [← b] at a; cases a; rfl
    · exact absurd (List.mem_map.mpr ⟨_, b, rfl⟩) (by rw [← a] at hn; exact hn.1)
    · exact absurd (List.mem_map.mpr ⟨_, a, rfl⟩) (by rw [← b] at hn; exact hn.1)
    · exact key_one hn.2 a b
theorem getSet {v : Value} {G : List (It × List It)} {j : It} {x : Addr} {dflt : Value} {Q : Value → Shared → Prop} (hu : A.units + 1 < cLine) (H : In F g led m s) (hv : DictR prog w (SetAt prog w) g v G) (hk : KeyAt g (.ref x) j) (hd : SetAt prog w g dflt [])
    (h : ∀ u ks s', In F g led m s' → SetAt prog w g u ks → (∀ k, Step G j k ↔ k ∈ ks) → (ks = [] ∨ (j, ks) ∈ G) → Q u s') : wpAny (model prog w) A (call (.builtin "dict.get") [v, .ref x, dflt]) Q E s := by
  refine getR hu H hv hk (fun hn s' H' => h _ _ s' H' hd (fun k => ⟨fun ⟨ks, a, _⟩ => absurd (List.mem_map.mpr ⟨_, a, rfl⟩) hn, fun q => nomatch q⟩) (.inl rfl)) fun ks u s' hm hR H' => h _ _ s' H' hR (fun k => ⟨fun ⟨ks', a, b⟩ => ?_, fun q => ⟨ks, hm, q⟩⟩) (.inr hm)
  have : ks' = ks := key_one hv.1 a hm
  rw [← this]; exact b
theorem snoc_inv {α β : Type} {R : α → β → Prop} {b : β} : ∀ {bs : List β} {l : List α}, All2 R l (bs ++ [b]) → ∃ l0 a, l = l0 ++ [a] ∧ All2 R l0 bs ∧ R a b
  | [], _, .cons x .nil => ⟨[], _, rfl, .nil, x⟩
  | _ :: bs, _, .cons x r => let ⟨l0, a, e, h1, h2⟩ := snoc_inv (bs := bs) r; ⟨_ :: l0, a, by rw [e]; rfl, .cons x h1, h2⟩
theorem cd344 (k : KB w mg mb g) : ∃ P, CodeHd g 344 P := ⟨_, _, _, _, _, _, _, _, _, _, k.X 344 _ (by k_is), rfl, rfl, rfl, rfl, rfl, rfl, rfl, rfl, by decide⟩

theorem tc_spec {v : Value} {G : List (It × List It)} {U : List It} {Q : Value → Shared → Prop} (r : Room A 1 90) (k : KB w mg mb g) (hs : Sub g s.heap) (hv : DictR prog w (SetAt prog w) g v G) (hU : U.length ≤ 4) (hGU : ∀ p ∈ G, p.1 ∈ U ∧ ∀ x ∈ p.2, x ∈ U) (hUt : ∀ x ∈ U, x.t = false)
    (h : ∀ v' C s' g', Rel [] s g s' g' → DictR prog w (SetAt prog w) g' v' C → C.map (·.1) = G.map (·.1) → (∀ p ∈ C, ∀ j, j ∈ p.2 ↔ Reach G p.1 j) → Q v' s') :
    wpAny (model prog w) A (call (.ref 345) [v]) Q E s := by
  obtain ⟨cP, hcd⟩ := cd344 k
  refine enter0 [("graph", v)] k hs r.lt ?_
  intro L s H
  have r' : ∀ env, Room (A.deeper env) 0 87 := fun env => r.deeper
  refine ex_set (dictQ H fun dc s2 H2 hdd => ?_)
  have hdc1 : dc ≠ 1 := fun e => by rw [e] at hdd; have := H.gt k; omega
  clear H
  have H := H2
  refine st H fun s H => ?_
  refine ex_for (nm H rfl (itDictR H hv fun I St s S H => ?_))
  refine forL (fun rest g1 led1 m1 => ∃ xd C done, led1 = [(dc, DP prog w xd)] ∧ EntR (SetAt prog w) g1 xd C ∧ G = done ++ rest ∧ C.map (·.1) = done.map (·.1) ∧ (∀ p ∈ C, ∀ j, j ∈ p.2 ↔ Reach G p.1 j) ∧ m1 "graph" = some v ∧ m1 "closure" = some (.ref dc)) S r.hh (.refl _) H
    ⟨[], [], [], rfl, .nil, rfl, rfl, (fun _ h => nomatch h), rfl, rfl⟩ ?_ ?_
  · rintro ⟨i, succ⟩ rest g1 led1 m1 s v1 hg1 ⟨ia, rfl, hki⟩ H ⟨xd, C, done, rfl, hEC, hG, hCd, hC, hm1, hm2⟩
    have k1 := k.mono hg1
    have hv1 := hv.mono SetAt.mono' hg1
    have hki1 := hki.mono hg1
    refine asN H fun s H => ?_
    refine ex_set (setD1 (c := 344) (P := cP) (r' _).ult H (CodeHd.keeps hcd hg1) rfl fun fa s H => nm H (if_pos rfl) ⟨_, _, _, ia, kN i, rfl, H, key_keeps hki1.isg H.into, fun s H => ?_⟩)
    refine st H fun s H => ?_
    refine ex_set (listQ (a1 (nm H rfl ⟨_, _, _, _, H, by simp, fun ag s H _ => ?_⟩)))
    refine st H fun s H => ?_
    have hiG : (i, succ) ∈ G := by rw [hG]; exact List.mem_append_right _ (.head _)
    refine ex_while (fun n s => ∃ g2 m2 cs js vs as, Sub g1 g2 ∧ In ⟨_, g, [], L⟩ g2 ((ag, SQ vs) :: (fa, SetL w cs) :: (I, St rest) :: [(dc, DP prog w xd)]) m2 s ∧ EltN prog w g2 cs js ∧ All2 (KeyAt g2) vs as ∧ Inv G i js as (fun _ _ => False) ∧ (∀ x ∈ js, x ∈ U) ∧
      (m2 "graph" = some v ∧ m2 "closure" = some (.ref dc) ∧ m2 "i" = some (.ref ia) ∧ m2 "found" = some (.ref fa) ∧ m2 "agenda" = some (.ref ag)) ∧ 2 * (4 - js.length) + as.length = n ∧ n ≤ 7) ?_ _
      ⟨g1, _, _, [i], _, [i], .refl _, H, .one hki1, .cons hki1 .nil, .init, fun x hx => by cases List.mem_singleton.mp hx; exact (hGU _ hiG).1, ⟨hm1, hm2, rfl, rfl, rfl⟩, rfl, Nat.le_refl 7⟩
    rintro n s ⟨g2, m2, cs, js, vs, as, hg2, H, hEl, hvs, hI, hjU, ⟨q1, q2, q3, q4, q5⟩, hn, hn7⟩
    have k2 := k1.mono hg2
    have hv2 := hv1.mono SetAt.mono' hg2
    have hj4 : js.length ≤ 4 := Nat.le_trans (nodup_le hEl.1 hjU) hU
    have has : as.length ≤ n := by omega
    refine isT (nm H q5 (trQ (pre := []) H (by rw [hvs.length]; omega) fun s H => ?_))
    rcases List.eq_nil_or_concat as with rfl | ⟨as0, j, e⟩
    · cases hvs
      simp only [List.isEmpty_nil, Bool.not_true, Bool.false_eq_true, if_false]
      refine ex_setI (nm H q4 (nm H q2 (nm H q3 ?_)))
      obtain ⟨o2, g3, ⟨hP, hl⟩, e2, hs3, H⟩ := (H.perm (List.Perm.swap _ _ _)).freeze (H.was0 rfl (p := (fa, SetL w cs)) (by simp))
      have hE3 := hEC.mono SetAt.mono' (hg2.trans hs3)
      have hk3 := (hki1.mono hg2).mono hs3
      have hiC : i ∉ C.map (·.1) := by
        rw [hCd]
        have := hv.1
        rw [hG, List.map_append, List.map_cons, List.nodup_append] at this
        exact fun q => this.2.2 _ q _ (.head _) rfl
      refine setD (pre := [(ag, SQ []), (I, St rest)]) ((r' _).u (by decide)) H hE3.keys hk3.isg ?_ fun s H => ex_nil ⟨g3, _, m2, (hg1.trans hg2).trans hs3, (H.dropAll (List.sublist_cons_self _ _)), _, C ++ [(i, js)], done ++ [(i, succ)], rfl, hE3.new hiC hk3 ⟨fa, o2, cs, rfl, e2, hP, hl.w, hEl.mono hs3⟩, by rw [hG]; simp, by simp [hCd], fun p hp => ?_, q1, q2⟩
      · rw [hEC.length]
        have h1 : C.length ≤ G.length := by have := congrArg List.length hCd; simp at this; rw [this, hG]; simp
        have h2 : G.length ≤ 4 := by
          have := nodup_le (l := G.map (·.1)) (U := U) hv.1 (fun x hx => by obtain ⟨y, hy, rfl⟩ := List.mem_map.mp hx; exact (hGU y hy).1)
          rw [List.length_map] at this; omega
        omega
      · rcases List.mem_append.mp hp with hp | hp
        · exact hC p hp
        · cases List.mem_singleton.mp hp
          exact hI.fin
    · rw [List.concat_eq_append] at e
      subst e
      obtain ⟨vs0, y, rfl, hv0, hy⟩ := snoc_inv hvs
      have : (!(vs0 ++ [y]).isEmpty) = true := by cases vs0 <;> rfl
      rw [this]
      simp only [if_true]
      have hlen : vs0.length = as0.length := hv0.length
      rw [List.length_append, List.length_singleton] at hn
      refine ex_set (MethodCall_ (nm H q5 (mListQ (pre := []) H PySem.F.slot_list_pop PySem.F.type_list_pop (popQ (pre := []) H (by omega) fun s H => ?_))))
      refine st H fun s H => ?_
      obtain ⟨ya, _, _, rfl, _⟩ := id hy
      refine ex_for (Call_ (nmB H k2 g_sorted (e := n_sorted _) (callB (a1 (MethodCall_ (nm H ((if_neg (by decide)).trans q1) (mGetR H hv2 (callB ?_))))))))
      refine aC (nm H (if_pos rfl) (a1 (Call_ (nmB H k2 g_set (e := n_set _) (callT0 (set0 H fun ev g3 s hs3 hev H => ?_))))))
      have hv3 := hv2.mono SetAt.mono' hs3
      have hjr := hI.reach j (hI.sub j (by simp))
      refine getSet ((r' _).u (by decide)) H hv3 (hy.mono hs3) hev fun u ks s H hu hst hks => ?_
      have hksU : ∀ x ∈ ks, x ∈ U := fun x hx => by
        rcases hks with rfl | hm
        · cases hx
        · exact (hGU _ hm).2 x hx
      refine sSorted ((r' _).u (by decide)) r.hh H hu (fun x hx => hUt x (hksU x hx)) fun lv is g4 s hs4 hp hL H => ?_
      obtain ⟨lA, lvs, rfl, hlA, hlvs⟩ := hL
      refine itListA H hlA hlvs fun I2 St2 s S2 H => ?_
      have hs24 := hs3.trans hs4
      refine forL (fun rest2 g5 led5 m5 => ∃ cs js vs as, led5 = (ag, SQ vs) :: (fa, SetL w cs) :: (I, St rest) :: [(dc, DP prog w xd)] ∧ EltN prog w g5 cs js ∧ All2 (KeyAt g5) vs as ∧ Inv G i js as (fun x y => x = j ∧ y ∈ rest2) ∧ (∀ x ∈ js, x ∈ U) ∧
        (m5 "graph" = some v ∧ m5 "closure" = some (.ref dc) ∧ m5 "i" = some (.ref ia) ∧ m5 "found" = some (.ref fa) ∧ m5 "agenda" = some (.ref ag)) ∧ 2 * (4 - js.length) + as.length < n ∧ ∀ y ∈ rest2, Reach G i y ∧ y ∈ U) S2 r.hh (.refl _) H
        ⟨cs, js, vs0, as0, rfl, hEl.mono hs24, hv0.imp fun _ _ => KeyAt.mono' _ _ _ _ hs24, hI.pop fun x hx => hp.mem_iff.mpr ((hst x).mp hx), hjU, ⟨(if_neg (by decide)).trans q1, (if_neg (by decide)).trans q2, (if_neg (by decide)).trans q3, (if_neg (by decide)).trans q4, (if_neg (by decide)).trans q5⟩, by omega,
          fun y hy => ⟨.step hjr ((hst y).mpr (hp.mem_iff.mp hy)), hksU y (hp.mem_iff.mp hy)⟩⟩ ?_ ?_
      · rintro x rest2 g5 led5 m5 s xv hg5 hx H ⟨cs, js, vs, as, rfl, hEl, hvs, hI, hjU, ⟨q1, q2, q3, q4, q5⟩, hn, hR⟩
        obtain ⟨xa, _, _, rfl, _⟩ := id hx
        have hx5 := hx.mono hg5
        have k5 := ((k2.mono hs24).mono hg5)
        refine asN H fun s H => ex_if (tcmp1 (nm H (if_pos rfl) (nm H ((if_neg (by decide)).trans q4) (sNotIn (pre := [(I2, St2 rest2), (ag, SQ vs)]) ((r' _).u (by decide)) H hEl hx5 fun s H => tr_b ?_))))
        have hxU := (hR x (.head _))
        by_cases hxj : x ∈ js
        · rw [decide_eq_true hxj]
          simp only [Bool.not_true, Bool.false_eq_true, if_false]
          exact ex_nil (ex_nil ⟨g5, _, _, hg5, H, cs, js, vs, as, rfl, hEl, hvs, hI.seen hxj, hjU, ⟨(if_neg (by decide)).trans q1, (if_neg (by decide)).trans q2, (if_neg (by decide)).trans q3, (if_neg (by decide)).trans q4, (if_neg (by decide)).trans q5⟩, hn, fun y hy => hR y (.tail _ hy)⟩)
        · rw [decide_eq_false hxj]
          simp only [Bool.not_false, if_true]
          have hj4 : (x :: js).length ≤ 4 := Nat.le_trans (nodup_le (List.nodup_cons.mpr ⟨hxj, hEl.1⟩) fun y hy => by
            rcases List.mem_cons.mp hy with rfl | hy
            · exact hxU.2
            · exact hjU y hy) hU
          rw [List.length_cons] at hj4
          refine ex_expr (MethodCall_ (nm H ((if_neg (by decide)).trans q4) (mAdd (pre := [(I2, St2 rest2), (ag, SQ vs)]) H (callB (a1 (nm H (if_pos rfl) ?_))))))
          refine sAdd (pre := [(I2, St2 rest2), (ag, SQ vs)]) ((r' _).u (by decide)) H hEl hx5 (fun _ => by rw [hEl.len]; omega) (fun q => absurd q hxj) fun _ cs' s hEl' H => ⟨rfl, ?_⟩
          refine ex_expr (MethodCall_ (nm H ((if_neg (by decide)).trans q5) (mListQ (pre := [(I2, St2 rest2)]) H PySem.F.slot_list_append PySem.F.type_list_append (callB (a1 (nm H (if_pos rfl) ?_))))))
          refine appendQ (pre := [(I2, St2 rest2)]) H (by rw [hvs.length]; omega) fun s H => ⟨rfl, ?_⟩
          exact ex_nil (ex_nil ⟨g5, _, _, hg5, H, cs', x :: js, _, as ++ [x], rfl, hEl', hvs.snoc hx5, hI.add hxU.1, fun y hy => by
            rcases List.mem_cons.mp hy with rfl | hy
            · exact hxU.2
            · exact hjU y hy, ⟨(if_neg (by decide)).trans q1, (if_neg (by decide)).trans q2, (if_neg (by decide)).trans q3, (if_neg (by decide)).trans q4, (if_neg (by decide)).trans q5⟩, by rw [List.length_append, List.length_singleton, List.length_cons]; omega, fun y hy => hR y (.tail _ hy)⟩)
      · rintro g5 led5 m5 s hg5 H ⟨cs, js, vs, as, rfl, hEl, hvs, hI, hjU, ql, hn', _⟩
        exact ex_nil ⟨_, hn', g5, m5, cs, js, vs, as, (hg2.trans hs24).trans hg5, H, hEl, hvs, hI.drop, hjU, ql, rfl, by omega⟩
  · rintro g1 led1 m1 s hg1 H ⟨xd, C, done, rfl, hEC, hG, hCd, hC, hm1, hm2⟩
    refine ex_ret (nm H hm2 ?_)
    have hdc := H.was0 rfl (p := (dc, DP prog w xd)) (by simp)
    obtain ⟨od, g2, hDP, e2, hs2, H⟩ := H.freeze hdc
    rw [List.append_nil] at hG
    subst hG
    exact h _ C _ g2 H.rel ⟨by rw [hCd]; exact hv.1, dc, od, xd, rfl, hdc1, e2, hDP, hEC.mono SetAt.mono' hs2⟩ hCd hC
end
end Mine
end

section
open PySem PySem.W PySem.Calls PyProof.Rows
set_option maxRecDepth 100000
namespace Mine

section
variable {prog : Program} {w : World} {mg mb : Str → Option Value} {A : Around} {E : Value → Shared → Prop} {s s' : Shared} {F : Fx} {g g' : Heap} {led : Led} {m : Str → Option Value} {env : Env}
variable {a d l : Addr} {o : Obj} {cs : List (Int × Value)} {ws : List Str} {x : Str} {t : Tok}

/-! ## sets of words -/
theorem isX (x : Str) (t : Tok) : (PySem.strKind prog w).is x (.str x t) = true := by simp [PySem.strKind, Value.isStrOf]
def EltW (w : World) (cs : List (Int × Value)) (ws : List Str) : Prop := ws.Nodup ∧ ∃ ws', ws'.Perm ws ∧ All2 (fun e x => ∃ t, e = (hashStr w x, .str x t)) cs ws'
def WP (w : World) (ws : List Str) : Obj → Prop := fun o => ∃ cs, SetP cs o ∧ EltW w cs ws
theorem EltW.len (h : EltW w cs ws) : cs.length = ws.length := let ⟨_, _, b, c⟩ := h; c.length.trans b.length_eq
theorem EltW.of (h : EltW w cs ws) : ElemsOf (PySem.strKind prog w) cs := fun e he => by
  obtain ⟨_, ws', b, c⟩ := h
  obtain ⟨x, _, t, rfl⟩ := c.mem_l he
  exact ⟨⟨x, isX x _, rfl⟩, rfl⟩
theorem All2.mem_r {α β : Type} {R : α → β → Prop} {l : List α} {m : List β} (h : All2 R l m) {y : β} (hy : y ∈ m) : ∃ x ∈ l, R x y := by
  induction h with
  | nil => cases hy
  | cons r _ ih =>
    rcases List.mem_cons.mp hy with rfl | hy
    · exact ⟨_, .head _, r⟩
    · obtain ⟨x, hx, q⟩ := ih hy; exact ⟨x, .tail _ hx, q⟩
theorem EltW.mem (h : EltW w cs ws) (x : Str) : x ∈ ws ↔ ∃ e ∈ cs, Value.isStrOf x e.2 = true := by
  obtain ⟨_, ws', b, c⟩ := h
  rw [← b.mem_iff]
  constructor
  · intro hx
    obtain ⟨e, he, t, rfl⟩ := c.mem_r hx
    exact ⟨_, he, by simp [Value.isStrOf]⟩
  · rintro ⟨e, he, hq⟩
    obtain ⟨y, hy, t, rfl⟩ := c.mem_l he
    have := Value.isStrOf_inj _ _ _ hq (show Value.isStrOf y (.str y t) = true by simp [Value.isStrOf])
    rw [this]; exact hy
theorem scan5 {cs : List (Int × Value)} (h : cs.length ≤ 4) : cs.toArray.size < scanBound := by rw [List.size_toArray]; exact Nat.lt_of_le_of_lt h (by decide)
theorem WP.setOf {h : Heap} (ho : h.get? a = some o) (hp : WP w ws o) : h.SetOf (PySem.strKind prog w) a (fun x => decide (x ∈ ws)) ws.length := by
  obtain ⟨cs, ⟨c1, c2, c3, ep, b, ledb, fin, mv, pl, hd, hb, hl, h4, hr⟩, hE⟩ := hp
  refine ⟨o, cs.toArray, ep, _, ho, ⟨c1, c2, c3⟩, hd, hE.of, fun x => ?_, scan5 h4, fits8 hl h4, by simp [hE.len]⟩
  rw [decide_eq_true_eq]; exact hE.mem x
theorem wIn {Q : Value → Shared → Prop} (H : In F g led m s) (ho : s.heap.get? a = some o) (hp : WP w ws o) (h : ∀ s', In F g led m s' → Q (.bool (decide (x ∈ ws))) s') : wpAny (model prog w) A (compareOp .In (.str x t) (.ref a)) Q E s :=
  wpAny_inSet_of (knd := PySem.strKind prog w) (k := x) (isX x _) rfl (hp.setOf ho) (h _ (H.toks _))

theorem freeSlotT {b : Nat} (hb : b < 256) {h : Int} {N : Nat} (hN : FreeAt b h N) (hN21 : N < 21) (ledb : Bool) (fin mv : Nat) (pl : Bool) : (tab8 b ledb fin mv pl).freeSlot h = some (slotAt h N, false) := by
  unfold SetTable.freeSlot SetTable.probe
  rw [probe_start _ rfl]
  have key := go_spec hb ledb fin mv pl (fun _ => h + 1) h hN (10 * SetTable.turns 7) 0 (Nat.zero_le _) (by unfold SetTable.turns; omega)
  rcases key with ⟨e, _⟩ | ⟨m, _, _, h3, _⟩
  · show (match SetTable.probe.go (tab8 b ledb fin mv pl) (fun _ => h + 1) h (10 * SetTable.turns 7) (probeOf h 0) with | some (.empty j dummy) => some (dummy.getD j, dummy.isSome) | _ => none) = _
    rw [e]; rfl
  · exact absurd h3 (by omega)

theorem EltW.laid (h : EltW w cs ws) (p : Nat) (hn : x ∉ ws) : EltW w (Mine.laid p cs (hashStr w x, .str x t)) (x :: ws) := by
  obtain ⟨a, ws', b, c⟩ := h
  refine ⟨List.nodup_cons.mpr ⟨hn, a⟩, ws'.take p ++ x :: ws'.drop p, ?_, ?_⟩
  · refine List.perm_middle.trans (.cons _ ?_)
    rw [List.take_append_drop]; exact b
  · exact (c.take p).1.append (.cons ⟨t, rfl⟩ (c.take p).2)

/-- a word is added, its hash known -/
theorem addW {Q : Bool → Shared → Prop} (ho : s.heap.get? a = some o) (hp : WP w ws o) (h3 : ws.length ≤ 3)
    (hold : x ∈ ws → Q false s) (hnew : x ∉ ws → ∀ o' h', h'.get? a = some o' → WP w (x :: ws) o' → Heap.SameBut a s.heap h' → Q true { s with heap := h' }) :
    wpAny (model prog w) A (setAddHashed a (.str x t) (hashStr w x)) Q E s := by
  obtain ⟨cs, ⟨c1, c2, c3, ep, b, ledb, fin, mv, pl, hd, hb, hl, h4, hr⟩, hE⟩ := hp
  have hcl := hE.len
  unfold setAddHashed setAddHashedIn
  refine wpAny_holding (wpAny_bind (wpAny_setState_of ho hd (fits8 hl h4) ?_))
  dsimp only
  rw [byScan_of (knd := PySem.strKind prog w) rfl (scan5 h4) hE.of]
  simp only [if_true]
  unfold setAddByScan
  refine wpAny_bind (wpAny_bind (wpAny_rule ?_))
  refine wpAny_bind (wpAny_setScan_of (knd := PySem.strKind prog w) (k := x) (isX x _) ho hd (fits8 hl h4) hE.of ?_)
  have hmem := hE.mem x
  cases hf : List.findIdx? (fun e : Int × Value => (PySem.strKind prog w).is x e.2) cs with
  | some j =>
    obtain ⟨hj, hpj, _⟩ := List.findIdx?_eq_some_iff_getElem.mp hf
    dsimp only
    refine wpAny_pure (wpAny_pure (hold (hmem.mpr ⟨_, List.getElem_mem hj, hpj⟩)))
  | none =>
    have hn : x ∉ ws := fun q => by
      obtain ⟨e, he, hq⟩ := hmem.mp q
      have := List.findIdx?_eq_none_iff.mp hf e he
      have hq' : (PySem.strKind prog w).is x e.2 = true := hq
      rw [hq'] at this; cases this
    obtain ⟨N, hN21, hN⟩ := free_at hb (by omega) (hashStr w x)
    have L := fun pl' => lay_new hd hb hl (by omega) hr c1 c2 c3 hN (.str x t) pl'
    have hfit : (tab8 (b + 2 ^ slotAt (hashStr w x) N) ledb fin mv pl).fits (SetTable.insertAt cs.toArray (rankOf b (slotAt (hashStr w x) N)) (hashStr w x, Value.str x t)).size = true := by
      obtain ⟨_, _, _, ep', b', led', fin2, mv', pl2, hd', _, hl', h4', _⟩ := L pl
      rw [putSet_of _ _ hd] at hd'
      injection hd' with q1 q2 q3
      rw [q3, q1]
      exact fits8 hl' h4'
    have hlay : layNew (tab8 b ledb fin mv pl) cs.toArray (hashStr w x) (.str x t) = (SetTable.insertAt cs.toArray (rankOf b (slotAt (hashStr w x) N)) (hashStr w x, .str x t), tab8 (b + 2 ^ slotAt (hashStr w x) N) ledb fin mv pl, false, false) := by
      unfold layNew
      rw [freeSlotT hb hN hN21]
      dsimp only
      rw [put_eq hb (slotAt_lt _ _) hN.1]
      dsimp only
      unfold SetTable.orStandIn
      rw [hfit]
      rfl
    dsimp only
    rw [hlay]
    dsimp only
    have fin' : ∀ (X : Sem (Option Bool)) pl', wpAny (model prog w) A (storeSet a (SetTable.insertAt cs.toArray (rankOf b (slotAt (hashStr w x) N)) (hashStr w x, .str x t)) (tab8 (b + 2 ^ slotAt (hashStr w x) N) ledb fin mv pl') >>= fun _ =>
        (if (!false && (tab8 (b + 2 ^ slotAt (hashStr w x) N) ledb fin mv pl').tooFull) = true then X else pure (some true))) (fun r s' => wpAny (model prog w) A (match r with | some added => pure added | none => setAddHashedIn a (.str x t) (hashStr w x) 99999) Q E s') E s := by
      intro X pl'
      have hz : (SetTable.insertAt cs.toArray (rankOf b (slotAt (hashStr w x) N)) (hashStr w x, Value.str x t)).size ≤ sizeLine := by
        rw [insertAt_list, List.size_toArray, sizeLine_eq]
        simp
        omega
      refine wpAny_bind (wpAny_storeSet_of ho hd ?_ hz)
      have hfull : (tab8 (b + 2 ^ slotAt (hashStr w x) N) ledb fin mv pl').tooFull = false := by
        obtain ⟨_, _, _, ep', b', led', fin2, mv', pl2, hd', _, hl', h4', _⟩ := L pl'
        rw [putSet_of _ _ hd] at hd'
        injection hd' with q1 q2 q3
        have e : (slotsOf (b + 2 ^ slotAt (hashStr w x) N)).length = (slotsOf b').length := by have := congrArg (fun t : SetTable => t.place.size) q3; simpa [tab8] using this
        unfold SetTable.tooFull SetTable.fill tab8
        simp only [List.size_toArray, e, decide_eq_false_iff_not]
        rw [hl'] at h4'
        simp
        omega
      rw [hfull]
      simp only [Bool.and_false, Bool.false_eq_true, if_false]
      exact wpAny_pure (wpAny_pure (hnew hn _ _ (Heap.get?_update_self _ ho (by rw [putSet_of _ _ hd]; rfl)) ⟨_, L pl', hE.laid _ hn⟩ (Heap.SameBut.update ..)))
    refine wpAny_bind ?_
    show wpAny _ _ (pure ()) _ _ _
    refine wpAny_pure ?_
    cases pl with
    | true =>
      show wpAny _ _ (hashByValue 8 (.str x t) >>= _) _ _ _
      rw [hashByValue_scannable 8 (x := .str x t) rfl]
      exact wpAny_bind (wpAny_pure (fin' _ false))
    | false =>
      exact wpAny_bind (wpAny_pure (fin' _ false))

/-- set.add of a word, called -/
theorem wAdd {pre post : Led} {Q : Value → Shared → Prop} (H : In F g (pre ++ (a, WP w ws) :: post) m s) (h3 : ws.length ≤ 3) (hold : x ∈ ws → ∀ s', In F g (pre ++ (a, WP w ws) :: post) m s' → Q .none s') (hnew : x ∉ ws → ∀ s', In F g (pre ++ (a, WP w (x :: ws)) :: post) m s' → Q .none s') :
    wpAny (model prog w) A (call (.builtin "set.add") [.ref a, .str x t]) Q E s := by
  obtain ⟨o, ho, hp⟩ := H.get (a := a) (P := WP w ws) (by simp)
  have hT : s.TypeIs (.ref a) "set" := ⟨o, ho, hp.choose_spec.1.1⟩
  refine wpAny_call_entry PySem.F.slot_set_add hT PySem.F.entry_set_add ?_ (PySem.F.args_set_add_2 _ _)
  unfold Builtin.«set.add» Builtin.Frozenset.oneOther
  simp only [List.isEmpty_nil, bind_assoc]
  unfold Builtin.Frozenset.addrOf setAdd
  refine wpAny_bind (wpAny_pure ?_)
  try dsimp only
  refine wpAny_bind (wpAny_pure ?_)
  try dsimp only
  refine wpAny_bind (wpAny_holding (wpAny_bind (wpAny_pyHash_str ?_)))
  refine addW (s := { s with toks := s.toks + 1 }) ho hp h3 (fun q => wpAny_pure ⟨_, rfl, hold q _ (H.toks _)⟩) fun q o' h' ho' hp' hs => wpAny_pure ⟨_, rfl, hnew q _ (H.put hs ho' hp' _)⟩
theorem mAddW {pre post : Led} {pl : Sem Bool} {Q : Value × List Value → Shared → Prop} (H : In F g (pre ++ (a, WP w ws) :: post) m s) (h : Q (.builtin "set.add", [.ref a]) s) : wpAny (model prog w) A (getMethod (.ref a) "add" pl) Q E s := by
  obtain ⟨o, ho, hp⟩ := H.get (a := a) (P := WP w ws) (by simp)
  exact getMethod_builtin ⟨o, ho, hp.choose_spec.1.1⟩ PySem.F.plainAttrs_set PySem.F.slot_set_add PySem.F.type_set_add (fun b e => by cases e; exact ⟨o, ho, hp.choose_spec.1.2.1⟩) h
theorem mUpdW {pre post : Led} {pl : Sem Bool} {Q : Value × List Value → Shared → Prop} (H : In F g (pre ++ (a, WP w ws) :: post) m s) (h : Q (.builtin "set.update", [.ref a]) s) : wpAny (model prog w) A (getMethod (.ref a) "update" pl) Q E s := by
  obtain ⟨o, ho, hp⟩ := H.get (a := a) (P := WP w ws) (by simp)
  exact getMethod_builtin ⟨o, ho, hp.choose_spec.1.1⟩ PySem.F.plainAttrs_set PySem.F.slot_set_update PySem.F.type_set_update (fun b e => by cases e; exact ⟨o, ho, hp.choose_spec.1.2.1⟩) h

def strsIn (es : Array (Int × Value)) : Prop := ∀ e ∈ es.toList, ∃ x t, e.2 = .str x t
theorem quietW {Q : Bool → Shared → Prop} : ∀ (sets : List Addr), (∀ a ∈ sets, ∃ o es ep t, s.heap.get? a = some o ∧ o.data = .set es ep t ∧ t.fits es.size = true ∧ strsIn es) → Q true s → wpAny (model prog w) A (setsQuiet sets) Q E s := by
  intro sets hs h
  unfold setsQuiet
  refine wpAny_bind ?_
  refine wpAny_forIn_list _ (fun rest r s' => r.1 = none ∧ s' = s ∧ ∀ a ∈ rest, a ∈ sets) _ ?_ ?_ _ _ ⟨rfl, rfl, fun a h => h⟩
  · rintro a rest r s' ⟨hr, rfl, hsub⟩
    obtain ⟨o, es, ep, t, ho, hd, hf, hst⟩ := hs a (hsub a (.head _))
    refine wpAny_bind (wpAny_bind (wpAny_setState_of ho hd hf (wpAny_pure ?_)))
    dsimp only
    refine wpAny_bind ?_
    rw [← Array.forIn_toList]
    refine wpAny_forIn_list _ (fun rest r s'' => r.1 = none ∧ s'' = s' ∧ ∀ a ∈ rest, a ∈ es.toList) _ ?_ ?_ _ _ ⟨rfl, rfl, fun a h => h⟩
    · rintro ⟨hh, v⟩ rest2 r2 s2 ⟨hr2, rfl, hsub2⟩
      obtain ⟨x, t, e⟩ := hst _ (hsub2 _ (.head _))
      simp only at e
      subst e
      refine wpAny_pure ⟨rfl, rfl, fun a h => hsub2 a (.tail _ h)⟩
    · rintro ⟨r1, r2⟩ s2 ⟨hr2, rfl, _⟩
      simp only at hr2
      subst hr2
      refine wpAny_pure ⟨rfl, rfl, fun a h => hsub a (.tail _ h)⟩
  · rintro ⟨r1, r2⟩ s' ⟨hr, rfl, _⟩
    simp only at hr
    subst hr
    exact wpAny_pure h

theorem EltW.strs (h : EltW w cs ws) : strsIn cs.toArray := fun e he => by
  obtain ⟨_, ws', b, c⟩ := h
  obtain ⟨x, _, t, rfl⟩ := c.mem_l (show e ∈ cs from he)
  exact ⟨x, t, rfl⟩
theorem SetP.flags {ledb pl : Bool} {fin mv : Nat} {b ep : Nat} (hP : SetP cs o) (hd : o.data = .set cs.toArray ep (tab8 b ledb fin mv pl)) (led' pl' : Bool) (fin' mv' : Nat) : SetP cs (Obj.putSet cs.toArray (tab8 b led' fin' mv' pl') o) := by
  obtain ⟨c1, c2, c3, ep2, b2, led2, fin2, mv2, pl2, hd2, hb, hl, h4, hr⟩ := hP
  rw [hd] at hd2
  injection hd2 with q1 q2 q3
  have hbb : slotsOf b = slotsOf b2 := by have := congrArg (fun t : SetTable => t.place.toList) q3; simpa [tab8] using this
  rw [putSet_of _ _ hd]
  have htab : tab8 b led' fin' mv' pl' = tab8 b2 led' fin' mv' pl' := by unfold tab8; rw [hbb]
  exact ⟨c1, c2, c3, ep + 1, b2, led', fin', mv', pl', by rw [htab], hb, hl, h4, hr⟩

/-- the other set's elements, in some order -/
theorem walkW {pre post : Led} {b : Addr} {ob : Obj} {ws2 : List Str} {cs2 : List (Int × Value)} {Q : Array (Int × Value) → Shared → Prop} (H : In F g (pre ++ (a, WP w ws) :: post) m s) (hb : g.get? b = some ob) (hP2 : SetP cs2 ob) (hE2 : EltW w cs2 ws2)
    (h : ∀ es s', es.toList.Perm cs2 → In F g (pre ++ (a, WP w ws) :: post) m s' → Q es s') : wpAny (model prog w) A (setWalkUnseen b [a] (some a)) Q E s := by
  have hob := H.into _ _ hb
  obtain ⟨oa, hoa, csa, hPa, hEa⟩ := H.get (a := a) (P := WP w ws) (by simp)
  have hPa' := hPa
  obtain ⟨_, _, _, epa, ba, leda, fina, mva, pla, hda, hba, hla, h4a, hra⟩ := hPa'
  have hPb' := hP2
  obtain ⟨_, _, _, epb, bb, ledb, finb, mvb, plb, hdb, hbb, hlb, h4b, hrb⟩ := hPb'
  have walk : ((w.params.followText "set-order" || (ledb && plb) || decide (cs2.toArray.size ≤ 1)) = true) → wpAny (model prog w) A (setWalk b) Q E s := by
    intro hc
    unfold setWalk
    refine wpAny_bind (wpAny_setState_of hob hdb (fits8 hlb h4b) ?_)
    dsimp only
    refine wpAny_bind (byTextA ?_)
    by_cases hbt : w.params.followText "set-order" = true
    · rw [hbt]
      simp only [if_true]
      refine wpAny_bind (wpAny_askSetting (wpAny_pure (h _ s ?_ H)))
      exact pick_perm _ cs2.toArray
    · have hbt' : w.params.followText "set-order" = false := by simpa using hbt
      rw [hbt']
      simp only [Bool.false_eq_true, if_false]
      rw [hbt'] at hc
      simp only [Bool.false_or] at hc
      have hdr : (!plb && decide (cs2.toArray.size > 1)) = false := by
        cases plb with
        | true => rfl
        | false =>
          simp only [Bool.and_false, Bool.false_or, decide_eq_true_eq] at hc
          simp only [Bool.not_false, Bool.true_and, decide_eq_false_iff_not]
          omega
      rw [if_neg (by intro q; have q' : (!plb && decide (cs2.toArray.size > 1)) = true := q; rw [hdr] at q'; cases q')]
      refine wpAny_bind ?_
      have hml : (!ledb && decide (cs2.toArray.size > 1)) = false := by
        cases ledb with
        | true => rfl
        | false =>
          simp only [Bool.false_and, Bool.false_or, decide_eq_true_eq] at hc
          simp only [Bool.not_false, Bool.true_and, decide_eq_false_iff_not]
          omega
      refine (show wpAny (model prog w) A (if (!ledb && decide (cs2.toArray.size > 1)) = true then unsupported "set:maker-not-led" else pure ()) _ E s from ?_)
      rw [if_neg (by rw [hml]; simp)]
      exact wpAny_pure (wpAny_pure (h _ s (.refl _) H))
  unfold setWalkUnseen
  refine wpAny_bind (wpAny_setState_of hob hdb (fits8 hlb h4b) ?_)
  dsimp only
  refine wpAny_bind (byTextA ?_)
  by_cases hc : (w.params.followText "set-order" || (ledb && plb) || decide (cs2.toArray.size ≤ 1)) = true
  · rw [if_pos (by exact hc)]
    exact walk hc
  · rw [if_neg (by exact hc)]
    refine wpAny_bind (quietW [b, a] (fun c hc => ?_) ?_)
    · rcases List.mem_cons.mp hc with rfl | hc
      · exact ⟨ob, _, _, _, hob, hdb, fits8 hlb h4b, hE2.strs⟩
      · cases List.mem_singleton.mp hc
        exact ⟨oa, _, _, _, hoa, hda, fits8 hla h4a, hEa.strs⟩
    simp only [Bool.not_true, Bool.false_eq_true, if_false]
    refine wpAny_bind (wpAny_rule ?_)
    refine wpAny_bind (wpAny_setState_of hoa hda (fits8 hla h4a) ?_)
    dsimp only
    refine wpAny_ite_split (fun _ => ?_) (fun _ => ?_)
    · refine wpAny_bind (wpAny_storeSet_of hoa hda ?_ (by rw [List.size_toArray, sizeLine_eq]; omega))
      refine wpAny_pure (h _ _ (.refl _) (H.put (o' := Obj.putSet csa.toArray (tab8 ba (leda && ledb) fina mva (pla && plb)) oa) (Heap.SameBut.update ..) (Heap.get?_update_self _ hoa (by rw [putSet_of _ _ hda]; rfl)) ⟨csa, hPa.flags hda _ _ _ _, hEa⟩ s.toks))
    · exact wpAny_pure (h _ _ (.refl _) H)

/-- a |= b for sets of words -/
theorem mergeW {pre post : Led} {b : Addr} {ob : Obj} {ws2 : List Str} {each : Sem Unit} {Q : Unit → Shared → Prop} (H : In F g (pre ++ (a, WP w ws) :: post) m s) (hb : g.get? b = some ob) (hp2 : WP w ws2 ob) (h12 : ws.length + ws2.length ≤ 3 ∨ (ws.length ≤ 2 ∧ ws2.length ≤ 2))
    (hU : ∀ ws' : List Str, ws'.Nodup → (∀ x ∈ ws', x ∈ ws ∨ x ∈ ws2) → ws'.length ≤ 3)
    (he : ∀ s' Q', s'.heap.get? b = some ob → Q' () s' → wpAny (model prog w) A each Q' E s')
    (h : ∀ ws3 s', (∀ x, x ∈ ws3 ↔ x ∈ ws ∨ x ∈ ws2) → In F g (pre ++ (a, WP w ws3) :: post) m s' → Q () s') : wpAny (model prog w) A (setMerge a b each) Q E s := by
  have hob := H.into _ _ hb
  have hab : a ≠ b := fun e => by
    have := H.ne (a := a) (P := WP w ws) (by simp)
    rw [e, hb] at this; cases this
  obtain ⟨cs2, hP2, hE2⟩ := hp2
  have hPb' := hP2
  obtain ⟨_, _, _, epb, bb, ledb, finb, mvb, plb, hdb, hbb, hlb, h4b, hrb⟩ := hPb'
  obtain ⟨oa, hoa, csa, hPa, hEa⟩ := H.get (a := a) (P := WP w ws) (by simp)
  have hPa' := hPa
  obtain ⟨q1, q2, q3, epa, ba, leda, fina, mva, pla, hda, hba, hla, h4a, hra⟩ := hPa'
  unfold setMerge
  rw [if_neg (by simpa using hab)]
  refine wpAny_bind (wpAny_setState_of hob hdb (fits8 hlb h4b) ?_)
  dsimp only
  have hlen2 := hE2.len
  have hlena := hEa.len
  by_cases he0 : cs2.toArray.isEmpty = true
  · rw [if_pos he0]
    have : cs2 = [] := by simpa using he0
    have hw2 : ws2 = [] := by rw [this] at hlen2; exact List.eq_nil_of_length_eq_zero hlen2.symm
    exact wpAny_pure (h ws s (fun x => by simp [hw2]) H)
  · rw [if_neg he0]
    refine wpAny_bind ?_
    unfold setRoomFor
    refine wpAny_bind (wpAny_setState_of hoa hda (fits8 hla h4a) ?_)
    have hroom : (tab8 ba leda fina mva pla).roomFor cs2.toArray.size = none := by
      unfold SetTable.roomFor SetTable.fill tab8
      rw [if_neg]
      simp only [List.size_toArray]
      simp
      omega
    dsimp only
    rw [hroom]
    refine wpAny_pure ?_
    refine wpAny_bind (wpAny_setState_of hoa hda (fits8 hla h4a) ?_)
    dsimp only
    by_cases h0 : csa = []
    · subst h0
      have hwa : ws = [] := List.eq_nil_of_length_eq_zero hlena.symm
      have hroad : (tab8 ba leda fina mva pla).road (tab8 bb ledb finb mvb plb) = .slotForSlot := by
        unfold SetTable.road SetTable.fill tab8
        simp at hla
        simp [hla]
      rw [hroad]
      dsimp only
      refine wpAny_storeSet_of hoa hda ?_ (by rw [List.size_toArray, sizeLine_eq]; omega)
      refine h ws2 _ (fun x => by simp [hwa]) (H.put (Heap.SameBut.update ..) (Heap.get?_update_self _ hoa (by rw [putSet_of _ _ hda]; rfl)) ⟨cs2, ?_, hE2⟩ s.toks)
      rw [putSet_of _ _ hda]
      exact ⟨q1, q2, q3, epa + 1, bb, leda && ledb, fina, mva, pla && plb, rfl, hbb, hlb, h4b, hrb⟩
    · have hroad : (tab8 ba leda fina mva pla).road (tab8 bb ledb finb mvb plb) = .oneByOne := by
        unfold SetTable.road SetTable.fill tab8
        have : csa.length ≠ 0 := fun e => h0 (List.eq_nil_of_length_eq_zero e)
        simp only [List.size_toArray]
        rw [if_pos]
        simp
        intro e; rw [e] at hla; exact this (by simpa using hla)
      rw [hroad]
      dsimp only
      refine wpAny_bind (walkW H hb hP2 hE2 fun es s2 hp H2 => ?_)
      rw [← Array.forIn_toList]
      refine wpAny_bind ?_
      have hnil : ∀ ws' : List Str, ws'.Nodup → (∀ x ∈ ws', x ∈ ws ∨ x ∈ ws2) → ws'.length ≤ 3 := hU
      refine wpAny_forIn_list _ (fun rest _ s' => ∃ ws3, ws3.Nodup ∧ (∀ x ∈ ws3, x ∈ ws ∨ x ∈ ws2) ∧ (∀ x ∈ ws, x ∈ ws3) ∧ (∀ e ∈ rest, e ∈ cs2) ∧ (∀ e ∈ cs2, e ∈ rest ∨ ∃ x t, e = (hashStr w x, .str x t) ∧ x ∈ ws3) ∧ In F g (pre ++ (a, WP w ws3) :: post) m s') _ ?_ ?_ _ _
        ⟨ws, hEa.1, fun x hx => .inl hx, fun x hx => hx, fun e he => hp.mem_iff.mp he, fun e he => .inl (hp.mem_iff.mpr he), H2⟩
      · rintro ⟨hh, v⟩ rest r s' ⟨ws3, hn3, hs3, hw3, hr3, hc3, H3⟩
        obtain ⟨_, ws2', hb2, hc2⟩ := id hE2
        obtain ⟨x, hx, t, e⟩ := hc2.mem_l (hr3 _ (.head _))
        cases e
        have hxw : x ∈ ws2 := hb2.mem_iff.mp hx
        obtain ⟨o3, ho3, hp3⟩ := H3.get (a := a) (P := WP w ws3) (by simp)
        have tail : ∀ ws4 s4, ws4.Nodup → (∀ x ∈ ws4, x ∈ ws ∨ x ∈ ws2) → (∀ y ∈ ws3, y ∈ ws4) → x ∈ ws4 → In F g (pre ++ (a, WP w ws4) :: post) m s4 → _ := fun ws4 s4 k1 k2 k3 k4 H4 =>
          (⟨ws4, k1, k2, fun y hy => k3 y (hw3 y hy), fun e he => hr3 e (.tail _ he), fun e he => (hc3 e he).elim (fun q => by
            rcases List.mem_cons.mp q with rfl | q
            · exact .inr ⟨x, t, rfl, k4⟩
            · exact .inl q) fun ⟨y, u, q1, q2⟩ => .inr ⟨y, u, q1, k3 y q2⟩, H4⟩ : ∃ ws3, ws3.Nodup ∧ (∀ x ∈ ws3, x ∈ ws ∨ x ∈ ws2) ∧ (∀ x ∈ ws, x ∈ ws3) ∧ (∀ e ∈ rest, e ∈ cs2) ∧ (∀ e ∈ cs2, e ∈ rest ∨ ∃ x t, e = (hashStr w x, .str x t) ∧ x ∈ ws3) ∧ In F g (pre ++ (a, WP w ws3) :: post) m s4)
        refine wpAny_bind (wpAny_holding (addW ho3 hp3 (hnil ws3 hn3 hs3) (fun q => ?_) fun q o' h' ho' hp' hs => ?_))
        · refine wpAny_bind (he _ _ (H3.into _ _ hb) ?_)
          refine wpAny_bind (wpAny_setState_of (H3.into _ _ hb) hdb (fits8 hlb h4b) ?_)
          dsimp only
          rw [if_neg (by simp)]
          exact wpAny_pure (tail ws3 s' hn3 hs3 (fun _ q => q) q H3)
        · have H4 := H3.put hs ho' hp' s'.toks
          refine wpAny_bind (he _ _ (H4.into _ _ hb) ?_)
          refine wpAny_bind (wpAny_setState_of (H4.into _ _ hb) hdb (fits8 hlb h4b) ?_)
          dsimp only
          rw [if_neg (by simp)]
          exact wpAny_pure (tail (x :: ws3) _ (List.nodup_cons.mpr ⟨q, hn3⟩) (fun y hy => by
            rcases List.mem_cons.mp hy with rfl | hy
            · exact .inr hxw
            · exact hs3 y hy) (fun y hy => .tail _ hy) (.head _) H4)
      · rintro _ s' ⟨ws3, hn3, hs3, hw3, hr3, hc3, H3⟩
        refine wpAny_pure (h ws3 s' (fun x => ⟨hs3 x, fun q => q.elim (hw3 x) fun q => ?_⟩) H3)
        obtain ⟨_, ws2', hb2, hc2⟩ := id hE2
        obtain ⟨e, he, t, rfl⟩ := hc2.mem_r (hb2.mem_iff.mpr q)
        rcases hc3 _ he with q | ⟨y, u, q1, q2⟩
        · cases q
        · have := (Prod.mk.inj q1).2
          injection this with e1
          rw [e1]; exact q2

/-- a.update(b), called -/
theorem wUpd {pre post : Led} {b : Addr} {ob : Obj} {ws2 : List Str} {Q : Value → Shared → Prop} (H : In F g (pre ++ (a, WP w ws) :: post) m s) (hb : g.get? b = some ob) (hp2 : WP w ws2 ob) (h12 : ws.length + ws2.length ≤ 3 ∨ (ws.length ≤ 2 ∧ ws2.length ≤ 2))
    (hU : ∀ ws' : List Str, ws'.Nodup → (∀ x ∈ ws', x ∈ ws ∨ x ∈ ws2) → ws'.length ≤ 3) (h : ∀ ws3 s', (∀ x, x ∈ ws3 ↔ x ∈ ws ∨ x ∈ ws2) → In F g (pre ++ (a, WP w ws3) :: post) m s' → Q .none s') :
    wpAny (model prog w) A (call (.builtin "set.update") [.ref a, .ref b]) Q E s := by
  obtain ⟨o, ho, hp⟩ := H.get (a := a) (P := WP w ws) (by simp)
  have hT : s.TypeIs (.ref a) "set" := ⟨o, ho, hp.choose_spec.1.1⟩
  have hob := H.into _ _ hb
  have hTb : s.TypeIs (.ref b) "set" := ⟨ob, hob, hp2.choose_spec.1.1⟩
  refine wpAny_call_entry PySem.F.slot_set_update hT PySem.F.entry_set_update ?_ (PySem.F.args_set_update_2 _ _)
  unfold Builtin.«set.update» Builtin.Frozenset.manyOthers
  simp only [List.isEmpty_nil, Bool.not_true, Bool.false_eq_true, if_false]
  unfold Builtin.Frozenset.addrOf
  refine wpAny_bind (wpAny_bind (wpAny_pure (wpAny_pure ?_)))
  dsimp only
  rw [List.forIn_cons]
  refine wpAny_bind (wpAny_bind (wpAny_bind ?_))
  unfold Builtin.Frozenset.updateFrom
  refine wpAny_bind (m := Builtin.Frozenset.isAnySet (.ref b)) ?_
  unfold Builtin.Frozenset.isAnySet
  refine wpAny_bind (wpAny_isInstance (T := "set") (b := true) hTb sub_set_self (wpAny_pure ?_))
  simp only [if_true]
  refine wpAny_bind (wpAny_pure ?_)
  have hp2' := hp2
  obtain ⟨cs2, ⟨_, _, _, epb, bb, ledb, finb, mvb, plb, hdb, hbb, hlb, h4b, hrb⟩, hE2⟩ := hp2'
  unfold Builtin.Frozenset.merge
  refine wpAny_bind (wpAny_setEpoch_of hob hdb (fits8 hlb h4b) ?_)
  refine mergeW H hb hp2 h12 hU (fun s' Q' hb' hq => ?_) fun ws3 s' hw H' => ?_
  · unfold Builtin.Frozenset.unchanged
    refine wpAny_bind (wpAny_setEpoch_of hb' hdb (fits8 hlb h4b) ?_)
    rw [if_neg (by simp)]
    exact wpAny_pure hq
  · refine wpAny_pure ?_
    dsimp only
    rw [List.forIn_nil]
    refine wpAny_pure ?_
    exact wpAny_pure ⟨_, rfl, h ws3 s' hw H'⟩
end
end Mine
end

section
open PySem PySem.W PySem.Calls PyProof.Rows
set_option maxRecDepth 100000
namespace Mine

section
variable {prog : Program} {w : World} {mg mb : Str → Option Value} {A : Around} {E : Value → Shared → Prop} {s s' : Shared} {F : Fx} {g g' : Heap} {led : Led} {m : Str → Option Value} {env : Env}

theorem arm_DictComp (k v gens scope pos) : eval (.DictComp k v gens scope pos) env = comprehension (.DictComp k v gens scope pos) scope env (firstIterPos gens pos) newDict (firstAsync gens) (firstIter gens env) := rfl

/-- a dict comprehension of one clause, no test -/
theorem dcE {kE vE target iter : PySem.Expr} {scope : Scope} {pos : Pos} {cl : List (Str × Addr)} {Q : Value → Shared → Prop}
    (hclos : closureFor scope env = pure cl)
    (h : wpAny (model prog w) A (eval iter env) (fun x s₁ => wpAny (model prog w) A (pyIter x) (fun it s₂ => wpAny (model prog w) A newDict (fun acc s₃ => wpAny (model prog w) A (newFunctionEnv scope env.globals cl [] env.qual none .none (some env)) (fun cenv s₄ =>
      codeAny (model prog w) A (.compStart (.DictComp kE vE [⟨target, iter, [], 0⟩] scope pos) 0 it acc { cenv with scope := relabel scope env }) (compPost (model prog w) A E none Q acc cenv.locals) s₄) E s₃) E s₂) E s₁) E s)
    (hkind : scope.kind = .function := by rfl) (hnames : ∀ x ∈ scope.names, x.2 = .local → scope.names.lookup x.1 = some .local := by decide) (hs : ∀ x, foldedSetIterable iter env x = pure x := by intro _; rfl) :
    wpAny (model prog w) A (eval (.DictComp kE vE [⟨target, iter, [], 0⟩] scope pos) env) Q E s := by
  rw [arm_DictComp]
  exact wpAny_comprehension_free (use := none) rfl hs hclos hkind hnames h

theorem dcV {α : Type} {R : Value → α → Prop} {kE vE target iter : PySem.Expr} {scope : Scope} {pos : Pos} {cl : List (Str × Addr)} {Q : Value → Shared → Prop} {I : Addr} {St : List α → Obj → Prop} {g0 : Heap} {xs : List α}
    (J : List α → KVs → Heap → Led → Prop) (S : Src prog w g0 R I St) (hu : A.units < cLine) (hh : A.handled = none) (hg : Sub g0 g) (H : In F g ((I, St xs) :: led) m s) (h0 : J xs [] g led) (hxs : xs.length ≤ 1000)
    (step : ∀ F' x rest xd acc g led m s v, Sub g0 g → R v x → In F' g ((I, St rest) :: (acc, DP prog w xd) :: led) m s → J (x :: rest) xd g led → xd.length + rest.length < 1000 →
      wpAny (model prog w) A (assign target (compEnvC scope cl (Fx.L F') env) v) (fun _ s => wpAny (model prog w) A (eval kE (compEnvC scope cl (Fx.L F') env)) (fun kv s => wpAny (model prog w) A (eval vE (compEnvC scope cl (Fx.L F') env)) (fun vv s =>
        ∃ ka k g' led' m', kv = .ref ka ∧ Sub g0 g' ∧ KeysIn prog w g' xd ∧ (HK prog w).is g' k ka ∧ In F' g' ((I, St rest) :: (acc, DP prog w xd) :: led') m' s ∧ J rest (storedH xd k ka vv) g' led') no s) no s) no s)
    (fin : ∀ d xd g' led' s'', Sub g0 g' → J [] xd g' led' → In F g' ((d, DP prog w xd) :: led') m s'' → s.heap.objs.size ≤ d → Q (.ref d) s'')
    (hcell : ∀ y ∈ scope.names, y.2 ≠ .cell := by decide) (hkind : scope.kind = .function := by rfl) :
    wpAny (model prog w) A newDict (fun acc s₃ => wpAny (model prog w) A (newFunctionEnv scope env.globals cl [] env.qual none .none (some env)) (fun cenv s₄ =>
      codeAny (model prog w) A (.compStart (.DictComp kE vE [⟨target, iter, [], 0⟩] scope pos) 0 (.ref I) acc { cenv with scope := relabel scope env }) (compPost (model prog w) A E none Q acc cenv.locals) s₄) E s₃) E s := by
  refine wpAny_newObj_type ?_ (by size_fits)
  have H0 : In F g ((I, St xs) :: (s.heap.objs.size, DP prog w []) :: led) m _ := (H.newD).perm (List.Perm.swap ..)
  have hle : s.heap.objs.size ≤ s.heap.objs.size := Nat.le_refl _
  generalize hacc : s.heap.objs.size = acc at H0 ⊢
  refine compEnter (env := env) H0 hcell hkind fun L' s1 H1 => ?_
  refine compS (d := 0) S hg H1 ?_ rfl rfl rfl rfl rfl
  refine compL (d := 0) (target := target) (ifs := []) (p := iter.pos) (body := do
      let kv ← eval kE (compEnvC scope cl L' env)
      let vv ← holding [kv] (eval vE (compEnvC scope cl L' env))
      standAt { kE.pos with endLine := vE.pos.endLine, endCol := vE.pos.endCol }
      holding [kv, vv] (dictSet acc kv vv)) (fun rest g L m => ∃ xd led, L = (acc, DP prog w xd) :: led ∧ J rest xd g led ∧ xd.length + rest.length ≤ xs.length) S hh hg H1 ⟨[], led, rfl, h0, by simp⟩ ?_ ?_ rfl rfl rfl rfl
  · rintro x rest g led m t v hg hR H ⟨xd, led, rfl, hJ, hlen⟩
    simp only [List.length_cons] at hlen
    refine wpAny_mono (step _ x rest xd acc g led m t v hg hR H hJ (by omega)) (fun _ s2 h2 => tests0 ?_) fun _ _ q => q
    rw [if_pos rfl]
    refine wpAny_bind (wpAny_mono h2 (fun kv s3 h3 => wpAny_bind (wpAny_holding (wpAny_mono h3 (fun vv s4 h4 => ?_) fun _ _ q => q))) fun _ _ q => q)
    obtain ⟨ka, k, g', led', m', rfl, a, b, c, d, e⟩ := h4
    refine wpAny_bind (wpAny_standAt (wpAny_holding (dictSetD (pre := [(I, St rest)]) hu d b c (by omega) fun s5 H5 => ?_)))
    have hl : (storedH xd k ka vv).length ≤ xd.length + 1 := by
      unfold storedH
      split
      · simp
      · simp
    exact ⟨g', _, m', a, H5, _, led', rfl, e, by omega⟩
  · rintro g1 led1 m1 t hg1 H1 ⟨xd, led2, rfl, hJ, hlen⟩
    refine ⟨rfl, g1, _, m1, H1, ?_⟩
    intro s'' H2
    exact fin acc xd g1 led2 s'' hg1 hJ H2 (Nat.le_of_eq hacc)
end
end Mine
end

section
open PySem PySem.W PySem.Calls PyProof.Rows
set_option maxRecDepth 100000
namespace Mine

section
variable {prog : Program} {w : World} {mg mb : Str → Option Value} {A : Around} {E : Value → Shared → Prop} {s s' : Shared} {F : Fx} {g g' : Heap} {led : Led} {m : Str → Option Value} {env : Env}

/-! ## frames with cells -/
def CP (v : Option Value) : Obj → Prop := fun o => o.data = .cell v

theorem cellsFrom_has : ∀ (names : List (Str × NameKind)) (n : Nat) (acc : List (Str × Addr)) (x : Str), (acc.lookup x).isSome = true ∨ names.lookup x = some .cell → ((cellsFrom n names acc).lookup x).isSome = true
  | [], _, acc, x, h => by
    unfold cellsFrom
    exact h.resolve_right (by simp)
  | (y, kd) :: r, n, acc, x, h => by
    unfold cellsFrom
    by_cases hk : (kd == NameKind.cell) = true
    · rw [if_pos hk]
      refine cellsFrom_has r (n + 1) _ x ?_
      rw [List.lookup_cons] at h ⊢
      by_cases e : (x == y) = true
      · rw [e]; exact .inl rfl
      · simp only [Bool.not_eq_true] at e
        rw [e] at h ⊢
        exact h
    · rw [if_neg hk]
      refine cellsFrom_has r n acc x ?_
      rw [List.lookup_cons] at h
      by_cases e : (x == y) = true
      · rw [e] at h
        refine h.imp id fun q => ?_
        cases q; exact absurd rfl hk
      · simp only [Bool.not_eq_true] at e
        rw [e] at h
        exact h

theorem cellsFrom_keys : ∀ (names : List (Str × NameKind)) (n : Nat) (acc : List (Str × Addr)), (names.map (·.1)).Nodup → (acc.map (·.1)).Nodup → (∀ x ∈ acc, x.1 ∉ names.map (·.1)) → ((cellsFrom n names acc).map (·.1)).Nodup
  | [], _, acc, _, h, _ => h
  | (y, kd) :: r, n, acc, hn, ha, hd => by
    rw [List.map_cons, List.nodup_cons] at hn
    unfold cellsFrom
    split
    · refine cellsFrom_keys r (n + 1) _ hn.2 ?_ fun x hx => ?_
      · rw [List.map_cons, List.nodup_cons]
        refine ⟨fun q => ?_, ha⟩
        obtain ⟨z, hz, e⟩ := List.mem_map.mp q
        exact hd z hz (by rw [List.map_cons, e]; exact .head _)
      · rcases List.mem_cons.mp hx with rfl | hx
        · exact hn.1
        · exact fun q => hd x hx (by rw [List.map_cons]; exact .tail _ q)
    · exact cellsFrom_keys r n acc hn.2 ha fun x hx q => hd x hx (by rw [List.map_cons]; exact .tail _ q)
theorem lookup_mem {α β : Type} [BEq α] [LawfulBEq α] : ∀ {l : List (α × β)} {x : α} {y : β}, (l.map (·.1)).Nodup → (x, y) ∈ l → l.lookup x = some y
  | p :: l, x, y, hn, h => by
    rw [List.map_cons, List.nodup_cons] at hn
    obtain ⟨a, b⟩ := p
    rw [List.lookup_cons]
    rcases List.mem_cons.mp h with h | h
    · cases h; simp
    · have : (x == a) = false := by
        rw [beq_eq_false_iff_ne]
        intro e
        rw [← e] at hn
        exact hn.1 (List.mem_map.mpr ⟨_, h, rfl⟩)
      rw [this]
      exact lookup_mem hn.2 h

theorem enterCA {name qual : Str} {params : Arguments} {body : List Stmt} {scope : Scope} {dV kV doc pm cdv ct oc : Value} {an od : Option Addr} {osl : Array (Option Value)} {f : Addr} {args : List Value} {kw : List (Str × Value)} {binds : List (Str × Value)} {R : Result → Shared → Prop}
    (k : KB w mg mb g) (hs : Sub g s.heap) (hr : A.depth < recursionLimit)
    (ho : (hd.heap_39 w.params).lookup f = some ⟨oc, od, .func (fnOf name qual params body scope dV kV doc pm an cdv ct), osl⟩) (hcd : codeIn (hd.heap_39 w.params) cdv qual = true)
    (hbind : BindsTo s (fnOf name qual params body scope dV kV doc pm an cdv ct) ⟨args, kw⟩ binds) (hloc : (binds.all fun y => decide (scope.names.lookup y.1 = some .local) || decide (scope.names.lookup y.1 = some .cell)) = true)
    (hl : ∀ p ∈ led, (∃ o, s.heap.get? p.1 = some o ∧ p.2 o) ∧ g.get? p.1 = none) (hn : (led.map (·.1)).Nodup)
    (h : ∀ L s1, In ⟨s, g, led.map (·.1), L⟩ g ((cellsFrom (L + 1) scope.names []).map (fun x => (x.2, CP (bindC (envOfC qual scope L f cdv).kindOf binds (fun _ => none) x.1))) ++ led) (bindL (envOfC qual scope L f cdv).kindOf binds fun _ => none) s1 →
      wpAny (model prog w) (A.deeper (envOfC qual scope L f cdv)) (execs body (envOfC qual scope L f cdv)) (fun fl s' => R (.ok (.ret (match fl with | .ret v => v | _ => .none))) s')
        (fun e s' => wpAny (model prog w) (A.deeper (envOfC qual scope L f cdv)) (leaving (envOfC qual scope L f cdv) e) (fun _ s'' => R (.error e) s'') (fun e' s'' => R (.error e') s'') s') s1)
    (hnd : (scope.names.map (·.1)).Nodup := by decide) (hco : scope.isCoroutine = false := by rfl) (hgen : scope.isGenerator = false := by rfl) (hk : scope.kind = .function := by rfl) :
    codeAny (model prog w) A (.call (.ref f) ⟨args, kw⟩) R s := by
  refine codeAny_call_function (fd := fnOf name qual params body scope dV kV doc pm an cdv ct) hr (hs _ _ (k.X _ _ ho)) rfl hco hgen rfl (codeRec_of (k.X.keeps hs) hcd) (hbind _ _ _ _ ?_)
  refine wpAny_newFunctionEnv_cells hk (fun x hx => ?_) fun env he s' x => ?_
  · have := List.all_eq_true.mp hloc x hx
    rw [Bool.or_eq_true, decide_eq_true_eq, decide_eq_true_eq] at this
    exact this.imp id fun q => ⟨q, cellsFrom_has _ _ _ _ (.inr q)⟩
  subst he
  refine ⟨(k.lim.keeps hs).keeps x.toInCall.keep, codeAny_func (h s.heap.objs.size s' ?_)⟩
  obtain ⟨h', tk, e⟩ := x.toInCall.same
  have hk1 := x.toInCall.keep
  have hns := x.toInCall.ns
  have hLlt : s.heap.objs.size < s'.heap.objs.size := by obtain ⟨o, _, _, h, _⟩ := hns; exact Heap.lt_size h
  have gn : ∀ b, s.heap.objs.size ≤ b → g.get? b = none := fun b hb => by
    cases q : g.get? b with
    | none => rfl
    | some o => exact absurd (Heap.lt_size (hs _ _ q)) (Nat.not_lt.mpr hb)
  refine ⟨⟨.refl _, fun b o q => hk1 b o (hs b o q), fun _ _ q => .inl q, fun b o _ q => hk1 b o q, Nat.le_of_lt hLlt, by rw [e], by rw [e]; exact .refl _⟩, hns, Nat.le_refl _, gn _ (Nat.le_refl _), fun p hp => ?_, ?_⟩
  · rcases List.mem_append.mp hp with hp | hp
    · obtain ⟨⟨nm, c⟩, hy, e⟩ := List.mem_map.mp hp
      cases e
      have hab : s.heap.objs.size < c := x.above nm c hy
      have hlk := lookup_mem (cellsFrom_keys scope.names (s.heap.objs.size + 1) [] hnd List.nodup_nil fun _ h => nomatch h) hy
      obtain ⟨o, ho', hd'⟩ := x.cell nm c hlk
      exact ⟨⟨o, ho', hd'⟩, gn c (Nat.le_of_lt hab), Nat.ne_of_gt hab, .inr (Nat.le_of_lt hab)⟩
    · obtain ⟨⟨o, ho', hP⟩, h2⟩ := hl p hp
      exact ⟨⟨o, hk1 _ _ ho', hP⟩, h2, Nat.ne_of_lt (Heap.lt_size ho'), .inl (List.mem_map_of_mem hp)⟩
  · rw [List.map_append, List.nodup_append]
    refine ⟨?_, hn, fun a ha b hb e => ?_⟩
    · rw [List.map_map, List.nodup_iff_pairwise_ne, List.pairwise_map]
      exact x.apart
    · obtain ⟨y, hy, rfl⟩ := List.mem_map.mp ha
      obtain ⟨⟨nm, c⟩, hy2, e2⟩ := List.mem_map.mp hy
      cases e2
      obtain ⟨p, hp, rfl⟩ := List.mem_map.mp hb
      have hab : s.heap.objs.size < c := x.above nm c hy2
      obtain ⟨⟨o, ho', _⟩, _⟩ := hl p hp
      have := Heap.lt_size ho'
      have e' : c = p.1 := e
      rw [e'] at hab
      exact absurd hab (Nat.not_lt.mpr (Nat.le_of_lt this))

theorem enterC {name qual : Str} {params : Arguments} {body : List Stmt} {scope : Scope} {dV kV doc pm cdv ct oc : Value} {an od : Option Addr} {osl : Array (Option Value)} {f : Addr} {args : List Value} {kw : List (Str × Value)} {Q : Value → Shared → Prop} (binds : List (Str × Value))
    (k : KB w mg mb g) (hs : Sub g s.heap) (hr : A.depth < recursionLimit)
    (hl : ∀ p ∈ led, (∃ o, s.heap.get? p.1 = some o ∧ p.2 o) ∧ g.get? p.1 = none) (hn : (led.map (·.1)).Nodup)
    (h : ∀ L s1, In ⟨s, g, led.map (·.1), L⟩ g ((cellsFrom (L + 1) scope.names []).map (fun x => (x.2, CP (bindC (envOfC qual scope L f cdv).kindOf binds (fun _ => none) x.1))) ++ led) (bindL (envOfC qual scope L f cdv).kindOf binds fun _ => none) s1 →
      wpAny (model prog w) (A.deeper (envOfC qual scope L f cdv)) (execs body (envOfC qual scope L f cdv)) (fun fl s' => Q (match fl with | .ret v => v | _ => .none) s')
        (fun e s' => wpAny (model prog w) (A.deeper (envOfC qual scope L f cdv)) (leaving (envOfC qual scope L f cdv) e) (fun _ s'' => E e s'') (fun e' s'' => E e' s'') s') s1)
    (ho : (hd.heap_39 w.params).lookup f = some ⟨oc, od, .func (fnOf name qual params body scope dV kV doc pm an cdv ct), osl⟩ := by k_is) (hcd : codeIn (hd.heap_39 w.params) cdv qual = true := by k_is)
    (hbind : BindsTo s (fnOf name qual params body scope dV kV doc pm an cdv ct) ⟨args, kw⟩ binds := by exact BindsTo.of_eq (by kernel_rfl)) (hloc : (binds.all fun y => decide (scope.names.lookup y.1 = some .local) || decide (scope.names.lookup y.1 = some .cell)) = true := by kernel_rfl)
    (hnd : (scope.names.map (·.1)).Nodup := by decide) (hco : scope.isCoroutine = false := by exact rfl) (hgen : scope.isGenerator = false := by exact rfl) (hk : scope.kind = .function := by exact rfl) :
    wpAny (model prog w) A (call (.ref f) args kw) Q E s :=
  wpAny_call (enterCA k hs hr ho hcd hbind hloc hl hn (fun L s1 H => h L s1 H) hnd hco hgen hk)

/-- a cell that rests -/
def CellAt (g : Heap) (c : Addr) (v : Value) : Prop := ∃ o, g.get? c = some o ∧ o.data = .cell (some v)
theorem CellAt.mono {c : Addr} {v : Value} (h : CellAt g c v) (hs : Sub g g') : CellAt g' c v := let ⟨o, a, b⟩ := h; ⟨o, hs _ _ a, b⟩
theorem nmC {M : Model} {x : Str} {pos : Pos} {c : Addr} {v : Value} {Q : Value → Shared → Prop} (H : In F g led m s) (hv : CellAt g c v) (h : Q v s) (hc : env.cells.lookup x = some c := by rfl)
    (hk : env.scope.kind = .function := by rfl) (hl : env.kindOf x = some .cell := by kernel_rfl) (hd : (x == ("__debug__" : Str)) = false := by kernel_rfl) :
    wpAny M A (eval (.Name x pos) env) Q E s := wpAny_Name (wpAny_loadName_cell hk hl hc (let ⟨o, a, b⟩ := hv; ⟨o, H.into _ _ a, b⟩) h) hd
theorem nmF {M : Model} {x : Str} {pos : Pos} {c : Addr} {v : Value} {Q : Value → Shared → Prop} (H : In F g led m s) (hv : CellAt g c v) (h : Q v s) (hc : env.cells.lookup x = some c := by rfl)
    (hcd : (x == ("__classdict__" : Str)) = false := by decide) (hk : env.scope.kind = .function := by rfl) (hl : env.kindOf x = some .free := by kernel_rfl) (hd : (x == ("__debug__" : Str)) = false := by kernel_rfl) :
    wpAny M A (eval (.Name x pos) env) Q E s := wpAny_Name (wpAny_loadName_free hk hl hc (let ⟨o, a, b⟩ := hv; ⟨o, H.into _ _ a, b⟩) h hcd) hd
theorem nmCl {M : Model} {pre post : Led} {x : Str} {pos : Pos} {c : Addr} {v : Value} {Q : Value → Shared → Prop} (H : In F g (pre ++ (c, CP (some v)) :: post) m s) (h : Q v s) (hc : env.cells.lookup x = some c := by rfl)
    (hk : env.scope.kind = .function := by rfl) (hl : env.kindOf x = some .cell := by kernel_rfl) (hd : (x == ("__debug__" : Str)) = false := by kernel_rfl) :
    wpAny M A (eval (.Name x pos) env) Q E s := wpAny_Name (wpAny_loadName_cell hk hl hc (H.get (a := c) (P := CP (some v)) (by simp)) h) hd
theorem nmFl {M : Model} {pre post : Led} {x : Str} {pos : Pos} {c : Addr} {v : Value} {Q : Value → Shared → Prop} (H : In F g (pre ++ (c, CP (some v)) :: post) m s) (h : Q v s) (hc : env.cells.lookup x = some c := by rfl)
    (hcd : (x == ("__classdict__" : Str)) = false := by decide) (hk : env.scope.kind = .function := by rfl) (hl : env.kindOf x = some .free := by kernel_rfl) (hd : (x == ("__debug__" : Str)) = false := by kernel_rfl) :
    wpAny M A (eval (.Name x pos) env) Q E s := wpAny_Name (wpAny_loadName_free hk hl hc (H.get (a := c) (P := CP (some v)) (by simp)) h hcd) hd
theorem stC {M : Model} {pre post : Led} {x : Str} {c : Addr} {v0 : Option Value} {v : Value} {Q : Unit → Shared → Prop} (H : In F g (pre ++ (c, CP v0) :: post) m s) (h : ∀ s', In F g (pre ++ (c, CP (some v)) :: post) m s' → Q () s') (hc : env.cells.lookup x = some c := by rfl)
    (hk : env.scope.kind = .function := by rfl) (hl : env.kindOf x = some .cell := by kernel_rfl) : wpAny M A (storeName env x v) Q E s :=
  wpAny_storeName_cell hk hl hc (H.get (a := c) (P := CP v0) (by simp)) fun h' ⟨o, ho, hd⟩ hs => h _ (H.put hs ho hd s.toks)
theorem In.cellF (H : In F g ((a, CP (some v)) :: led) m s) (ha : F.s0.heap.objs.size ≤ a) : ∃ g', CellAt g' a v ∧ Sub g g' ∧ In F g' led m s :=
  let ⟨o, g', h1, h2, h3, h4⟩ := H.freeze ha; ⟨g', ⟨o, h2, h1⟩, h3, h4⟩
end
end Mine
end

section
open PySem PySem.W PySem.Calls PyProof.Rows
set_option maxRecDepth 100000
namespace Mine

section
variable {prog : Program} {w : World} {mg mb : Str → Option Value} {A : Around} {E : Value → Shared → Prop} {s s' : Shared} {F : Fx} {g g' : Heap} {led : Led} {m : Str → Option Value} {env : Env}
variable {d : Addr} {od : Obj} {es : Array DictEntry} {ep : Nat}

/-! ## a dict's values, walked by its entries -/
abbrev dviObj (d : Addr) (i n ep : Int) : Obj := { cls := .type "dict_valueiterator", dict := none, data := .fields #[.ref d, .int i 0, .int n 0, .int ep 0], slots := #[] }
theorem dvi_item {I : Addr} {i : Nat} {y : DictEntry} {Q : Option Value → Shared → Prop} (ho : s.heap.get? I = some (dviObj d i es.size ep)) (hod : s.heap.get? d = some od) (hdd : od.data = .dict es ep) (hx : es[i]? = some y)
    (hQ : ∀ h', h'.get? I = some (dviObj d ((i : Int) + 1) es.size ep) → Heap.SameBut I s.heap h' → Q (some y.val) { s with heap := h' }) :
    wpAny (model prog w) A (pyNext (.ref I)) Q E s := by
  have hT : s.TypeIs (.ref I) "dict_valueiterator" := ⟨_, ho, rfl⟩
  obtain ⟨hlt, hy⟩ := Array.getElem?_eq_some_iff.mp hx
  unfold pyNext
  refine wpAny_bind (wpAny_attempt (wpAny_callSpecial?_slot (name := Str.ofString "__next__") hT PySem.F.slot_dict_valueiterator_next
    (wpAny_call_entry PySem.F.slot_dict_valueiterator_next hT PySem.F.entry_dict_valueiterator_next ?_ (PySem.F.args_dict_valueiterator_next_1 _))))
  refine wpAny_bind (wpAny_pure ?_)
  refine wpAny_bind ?_
  refine wpAny_bind ?_
  first | refine wpAny_bind (wpAny_typeNameOfWhole_valiter hT (wpAny_pure ?_)) | refine wpAny_bind (wpAny_typeNameOf_valiter hT (wpAny_pure ?_))
  refine wpAny_bind (wpAny_fieldsOf ho rfl ?_)
  have hown : Builtin.Dict_items.ownsTuple "dict_valueiterator" = false := by decide
  simp only [hown, Bool.false_eq_true, if_false]
  show wpAny _ _ (if (Value.ref d == Value.none) = true then _ else _) _ _ s
  rw [if_neg (show ¬ ((Value.ref d == Value.none) = true) from Bool.false_ne_true)]
  refine wpAny_bind (wpAny_pure ?_)
  refine wpAny_bind (wpAny_dictEntries hod hdd ?_)
  rw [if_neg (by simp)]
  refine wpAny_bind (wpAny_pure ?_)
  refine wpAny_bind (wpAny_dictEpoch hod hdd ?_)
  rw [if_neg (by simp)]
  refine wpAny_pure ?_
  simp only [show ¬ ((i : Int) < 0) from by omega, if_false, Int.toNat_natCast, Array.getElem?_eq_getElem hlt]
  refine wpAny_bind ?_
  first | refine wpAny_bind (wpAny_typeNameOfWhole_valiter hT (wpAny_pure ?_)) | refine wpAny_bind (wpAny_typeNameOf_valiter hT (wpAny_pure ?_))
  refine wpAny_bind (wpAny_isOneOf_valiter hT ?_)
  show wpAny _ _ (setField (.ref I) 1 (rawInt ((i : Int) + 1)) >>= _) _ _ s
  refine wpAny_bind (wpAny_setField_rec ho (by simp) fun h' e1 s1 => ?_)
  have hT' : Shared.TypeIs { s with heap := h' } (.ref I) "dict_valueiterator" := ⟨_, e1, rfl⟩
  refine wpAny_bind (wpAny_holding ?_)
  refine wpAny_bind (wpAny_isOneOf_valiter (s := { s with heap := h' }) hT' ?_)
  refine wpAny_bind (wpAny_isOneOf_valiter (s := { s with heap := h' }) hT' ?_)
  show wpAny _ _ (pure es[i].val) _ _ _
  rw [hy]
  exact wpAny_pure (wpAny_pure ⟨_, rfl, wpAny_pure (hQ _ (by simp [rawInt] at e1; exact e1) s1)⟩)

theorem dvi_end {I : Addr} {i : Nat} {Q : Option Value → Shared → Prop} (hh : A.handled = none) (ho : s.heap.get? I = some (dviObj d i es.size ep)) (hod : s.heap.get? d = some od) (hdd : od.data = .dict es ep) (hx : es.size ≤ i)
    (hQ : ∀ h', Heap.ExtBut I s.heap h' → Q none { s with heap := h' }) :
    wpAny (model prog w) A (pyNext (.ref I)) Q E s := by
  have hT : s.TypeIs (.ref I) "dict_valueiterator" := ⟨_, ho, rfl⟩
  unfold pyNext
  refine wpAny_bind (wpAny_attempt (wpAny_callSpecial?_slot (name := Str.ofString "__next__") hT PySem.F.slot_dict_valueiterator_next
    (wpAny_call_entry PySem.F.slot_dict_valueiterator_next hT PySem.F.entry_dict_valueiterator_next ?_ (PySem.F.args_dict_valueiterator_next_1 _))))
  refine wpAny_bind (wpAny_pure ?_)
  refine wpAny_bind ?_
  refine wpAny_bind ?_
  first | refine wpAny_bind (wpAny_typeNameOfWhole_valiter hT (wpAny_pure ?_)) | refine wpAny_bind (wpAny_typeNameOf_valiter hT (wpAny_pure ?_))
  refine wpAny_bind (wpAny_fieldsOf ho rfl ?_)
  have hown : Builtin.Dict_items.ownsTuple "dict_valueiterator" = false := by decide
  simp only [hown, Bool.false_eq_true, if_false]
  show wpAny _ _ (if (Value.ref d == Value.none) = true then _ else _) _ _ s
  rw [if_neg (show ¬ ((Value.ref d == Value.none) = true) from Bool.false_ne_true)]
  refine wpAny_bind (wpAny_pure ?_)
  refine wpAny_bind (wpAny_dictEntries hod hdd ?_)
  rw [if_neg (by simp)]
  refine wpAny_bind (wpAny_pure ?_)
  refine wpAny_bind (wpAny_dictEpoch hod hdd ?_)
  rw [if_neg (by simp)]
  refine wpAny_pure ?_
  simp only [show ¬ ((i : Int) < 0) from by omega, if_false, Int.toNat_natCast, Array.getElem?_eq_none hx]
  refine wpAny_bind ?_
  first | refine wpAny_bind (wpAny_typeNameOfWhole_valiter hT (wpAny_pure ?_)) | refine wpAny_bind (wpAny_typeNameOf_valiter hT (wpAny_pure ?_))
  show wpAny _ _ (setField (.ref I) 0 .none >>= _) _ _ s
  refine wpAny_bind (wpAny_setField_rec ho (by simp) fun h' e1 s1 => ?_)
  show wpAny _ _ (newExc (.type "StopIteration") [] >>= _) _ _ _
  refine wpAny_bind ?_
  simp only [newExc, newTuple]
  refine wpAny_bind (wpAny_newObj_type ?_ (by size_fits))
  refine wpAny_bind (m := firstArgMember _ _) (wpAny_of_eq (a := Value.none) (by first | rfl | (simp only [firstArgMember]; rfl)) ?_)
  refine wpAny_newObj_type ?_ (by size_fits)
  simp only [raiseNew]
  refine wpAny_bind (wpAny_handled ?_)
  rw [show A.in1.handled = none from hh]
  refine wpAny_bind (wpAny_pure (wpAny_throw ?_))
  refine wpAny_bind (wpAny_isInstance (T := "StopIteration") (b := true) ⟨_, Heap.get?_push_size _ rfl, rfl⟩ isSubtype_stop ?_)
  exact wpAny_pure (hQ _ ((s1.extBut.push _).push _))

theorem kdlVals {r : Addr} (hdd : od.data = .dict es ep) : KdlSrc prog w "dict_values" r d es.size (fun i v => ∃ y, es[i]? = some y ∧ v = y.val) (fun h => h.IsValuesView r d ∧ h.get? d = some od) where
  type := fun _ hm => hm.1.typeIs
  there := fun _ hm => ⟨let ⟨_, ho, _⟩ := hm.1; Heap.lt_size ho, Heap.lt_size hm.2⟩
  keep := fun _ _ hm hk => ⟨let ⟨o, ho, x⟩ := hm.1; ⟨o, hk r (.inl rfl) o ho, x⟩, hk d (.inr rfl) _ hm.2⟩
  notList := by decide
  notTuple := by decide
  hint := fun _ _ _ _ hm hq => kdl_hint_values hm.1.typeIs hq
  iter := fun A s hh hm => by
    have hne : d ≠ s.heap.objs.size := Nat.ne_of_lt (Heap.lt_size hm.2)
    refine ⟨dviObj d 0 es.size ep, fun i h => i ≤ es.size ∧ h.get? s.heap.objs.size = some (dviObj d i es.size ep) ∧ h.get? d = some od, fun E Q hq => ?_, ?_, Nat.zero_le _, Heap.get?_push_size _ rfl, Heap.get?_push_of_some _ hm.2⟩
    · obtain ⟨ov, hov, hcv, hdv⟩ := id hm.1
      refine wpAny_pyIter_slot hm.1.typeIs PySem.F.slot_dict_values_iter (wpAny_call_entry PySem.F.slot_dict_values_iter hm.1.typeIs PySem.F.entry_dict_values_iter ?_ (PySem.F.args_dict_values_iter_1 _))
      unfold Builtin.«dict_values.__iter__»
      refine wpAny_bind (wpAny_pure ?_)
      refine wpAny_bind ?_
      unfold Builtin.Dict_items.dictOf
      refine wpAny_bind (wpAny_field hov hdv (x := .ref d) rfl (wpAny_pure ?_))
      refine wpAny_bind ?_
      unfold Builtin.Dict_items.newIterator
      refine wpAny_bind (wpAny_dictEntries hm.2 hdd ?_)
      refine wpAny_bind (wpAny_dictEpoch hm.2 hdd ?_)
      have hown : Builtin.Dict_items.ownsTuple "dict_valueiterator" = false := by decide
      simp only [hown, Bool.false_eq_true, if_false]
      refine wpAny_newObj_type (wpAny_pure ⟨_, rfl, "dict_valueiterator", _, ⟨_, Heap.get?_push_size _ rfl, rfl⟩, PySem.F.slot_dict_valueiterator_next.lookup, ?_⟩)
      simpa [rawInt] using hq
    · refine ⟨fun b hb => by simp at hb; simp [hb], fun i h h' st hk => ⟨st.1, hk _ (by simp) _ st.2.1, hk _ (by simp) _ st.2.2⟩, fun i s2 Q E hi st hQ => ?_, fun s2 Q E st hQ => ?_, fun i s2 Q E st hQ => ?_⟩
      · refine dvi_item st.2.1 st.2.2 hdd (Array.getElem?_eq_getElem hi) fun h' e1 s1 => ?_
        exact hQ _ h' s2.toks ⟨_, Array.getElem?_eq_getElem hi, rfl⟩ ⟨hi, by simpa using e1, (s1.2 _ hne).trans st.2.2⟩ fun b o hb e => (s1.2 b (fun q => hb (by simp [q]))).trans e
      · exact dvi_end hh st.2.1 st.2.2 hdd (Nat.le_refl _) fun h' x => hQ h' s2.toks fun b o hb e => x b o (fun q => hb (by simp [q])) e
      · exact wpAny_pyIter_valiter ⟨_, st.2.1, rfl, rfl⟩ hQ

/-- list(d.values()), d at rest -/
theorem listVals {β : Type} {R : Heap → Value → β → Prop} {r : Addr} {G : List (It × β)} {xs : KVs} {Q : Value → Shared → Prop} (hh : A.handled = none) (H : In F g led m s) (hr : s.heap.IsValuesView r d) (hod : g.get? d = some od) (hp : DP prog w xs od) (hE : EntR R g xs G) (hz : xs.length ≤ 1000)
    (h : ∀ v g' s', Sub g g' → (∀ (hm : ∀ g g' v b, Sub g g' → R g v b → R g' v b), Lst R g' v (G.map (·.2))) → In F g' led m s' → Q v s') : wpAny (model prog w) A (call (.type "list") [.ref r]) Q E s := by
  obtain ⟨hc, es, ep, hdd, he, hn⟩ := hp
  have hsz : es.size = xs.length := by rw [← Array.length_toList, he, List.length_map]
  refine kdl_call (kdlVals hdd) hh ⟨hr, H.into _ _ hod⟩ (by rw [hsz, sizeLine_eq]; omega) fun h' tk acc' c' hk hD hacc => ?_
  have hval : acc'.toList = xs.map (·.2.2) := by
    apply List.ext_getElem
    · rw [Array.length_toList, hacc.1, hsz, List.length_map]
    · intro i h1 h2
      obtain ⟨y, hy, e⟩ := hacc.2 i acc'.toList[i] (by rw [← Array.getElem?_toList]; exact List.getElem?_eq_getElem h1)
      rw [List.length_map] at h2
      have : es.toList[i]? = some y := by rw [Array.getElem?_toList]; exact hy
      rw [he, List.getElem?_map, List.getElem?_eq_getElem h2] at this
      have := Option.some.inj this
      rw [e, ← this]
      simp [entryOfKey]
  have hlt : s.heap.objs.size < h'.objs.size := Heap.lt_size hD
  have H1 : In F g ((s.heap.objs.size, fun o => o = { cls := .type "list", dict := none, data := .seq acc' c', slots := #[] }) :: led) m { s with heap := h', toks := tk } :=
    H.new' (s' := { s with heap := h', toks := tk }) hk (Nat.le_of_lt hlt) rfl (.refl _) hD (Nat.le_refl _) rfl
  obtain ⟨o, g2, rfl, e2, hs2, H2⟩ := H1.freeze (H.was (Nat.le_refl _))
  refine h _ g2 _ hs2 (fun hm => ⟨_, acc'.toList, rfl, ⟨_, e2, rfl, c', by simp⟩, ?_⟩) H2
  rw [hval]
  exact All2.mapL (f := fun x : List K0 × Addr × Value => x.2.2) (R := R g2) (All2.mapR (R := fun (x : List K0 × Addr × Value) (b : β) => R g2 x.2.2 b) (f := fun p : It × β => p.2) (hE.imp fun _ _ ⟨_, _, c⟩ => hm _ _ _ _ hs2 c))
end
end Mine
end

section
open PySem PySem.W PySem.Calls PyProof.Rows
set_option maxRecDepth 100000
namespace Mine
theorem fillK11 (P : Params) : hd.heap_39 P = hd.heap_39 P → PySem.Challenge.rw_bn0044_01 = PySem.Challenge.rw_bn0044_01 := by
  k_fill
  exact fun _ => rfl

section
variable {prog : Program} {w : World} {mg mb : Str → Option Value} {A : Around} {E : Value → Shared → Prop} {s s' : Shared} {F : Fx} {g g' : Heap} {led : Led} {m : Str → Option Value} {env : Env}

/-! ## the productions of a grammar at rest -/
def namedI (i : It) : Prop := 0 < i.n.length ∧ i.n.length ≤ 1000
theorem trI {v : Value} {i : It} {Q : Bool → Shared → Prop} (H : In F g led m s) (k : KB w mg mb g) (hi : ItemAt g v i) (hn : namedI i) (h : ∀ s', In F g led m s' → Q true s') : wpAny (model prog w) A (truthy v) Q E s := by
  cases hi with
  | word n tk =>
    refine P.truthy_str (by have := hn.2; show ¬ (n.length : Int) ≥ 2 ^ 63; have : n.length ≤ 1000 := this; omega) ?_
    have e : ((n.length : Int) != 0) = true := by have : 0 < n.length := hn.1; simp; omega
    rw [e]; exact h _ (H.toks _)
  | sym x n tk hI =>
    obtain ⟨dx, _, o, I, _⟩ := (hI.mono H.into).at
    unfold truthy
    refine wpAny_bind (m := callSpecial? (.ref x) (Str.ofString "__bool__")) (wpAny_bind (wpAny_bind (I.type.here ((looks_findIn (H.K k) (by kernel_rfl : findIn (hd.heap_39 w.params) (.ref 66) "__bool__" = some none)).here (wpAny_pure ?_)))))
    refine wpAny_bind (wpAny_bind (I.type.here ((looks_findIn (H.K k) (by kernel_rfl : findIn (hd.heap_39 w.params) (.ref 66) "__len__" = some none)).here ?_)))
    exact wpAny_pure (h _ H)

/-- an index: its keys and what each holds -/
structure IdxL (ps : List Row2) (G : List (It × List Row2)) : Prop where
  keys : ∀ j, j ∈ G.map (·.1) ↔ j ∈ ps.map (·.1)
  vals : ∀ p ∈ G, p.2 = ps.filter fun r => decide (r.1 = p.1)
structure IdxR (ps : List Row2) (G : List (It × List Row2)) : Prop where
  keys : ∀ j, j ∈ G.map (·.1) ↔ ∃ r ∈ ps, r.2.head? = some j
  vals : ∀ p ∈ G, p.2 = ps.filter fun r => decide (r.2.head? = some p.1)
def idxE (ps : List Row2) : List (It × Row2) := (ps.filter fun r => decide (r.2 = [])).map fun r => (r.1, r)

structure GramI (prog : Program) (w : World) (g : Heap) (f : Str → Option Value) (ps : List Row2) : Prop where
  prods : ∃ v, f "_productions" = some v ∧ handedIn v = true ∧ Lst ProdAt g v ps
  lhs : ∃ v G, f "_lhs_index" = some v ∧ handedIn v = true ∧ DictR prog w (Lst ProdAt) g v G ∧ IdxL ps G
  rhs : ∃ v G, f "_rhs_index" = some v ∧ handedIn v = true ∧ DictR prog w (Lst ProdAt) g v G ∧ IdxR ps G
  emp : ∃ v, f "_empty_index" = some v ∧ handedIn v = true ∧ DictR prog w ProdAt g v (idxE ps)

theorem a334_lhs_index (P : Params) : findIn (hd.heap_39 P) (.ref 334) "_lhs_index" = some none := by kernel_rfl
theorem a334_rhs_index (P : Params) : findIn (hd.heap_39 P) (.ref 334) "_rhs_index" = some none := by kernel_rfl
theorem a334_empty_index (P : Params) : findIn (hd.heap_39 P) (.ref 334) "_empty_index" = some none := by kernel_rfl
theorem g_key (P : Params) : nsIn (hd.heap_39 P) mainGlobals "_key" = some (some (.ref 91)) := by kernel_rfl
theorem kp91 (P : Params) : keepIn (hd.heap_39 P) (.ref 91) = true := by kernel_rfl

/-- an empty list, at rest -/
theorem nilL {β : Type} {R : Heap → Value → β → Prop} {M : Model} {pos : Pos} {Q : Value → Shared → Prop} (H : In F g led m s) (h : ∀ v g' s', Sub g g' → Lst R g' v [] → In F g' led m s' → Q v s') : wpAny M A (eval (.List [] pos) env) Q E s := by
  refine List_ (a0 ?_)
  refine wpAny_newList ?_ (Nat.zero_le _)
  have H1 := H.new (seqObj "list" #[] 0) rfl (SQ []) ⟨0, rfl⟩
  obtain ⟨o, g', ⟨n, rfl⟩, e, hs, H2⟩ := H1.freeze (H.was (Nat.le_refl _))
  exact h _ g' _ hs ⟨_, [], rfl, ⟨_, e, rfl, n, rfl⟩, .nil⟩ H2

theorem LstP.mono : ∀ g g' v (b : List Row2), Sub g g' → Lst ProdAt g v b → Lst ProdAt g' v b := fun _ _ _ _ s h => h.mono ProdAt.mono' s
/-- index.get(key, []) -/
theorem idxGet {v : Value} {G : List (It × List Row2)} {j : It} {x : Addr} {dflt : Value} {c : Row2 → Bool} {ps : List Row2} {Q : Value → Shared → Prop} (hu : A.units + 1 < cLine) (H : In F g led m s) (hv : DictR prog w (Lst ProdAt) g v G) (hk : KeyAt g (.ref x) j) (hd : Lst ProdAt g dflt [])
    (hin : ∀ rs, (j, rs) ∈ G → rs = ps.filter c) (hout : j ∉ G.map (·.1) → ps.filter c = []) (h : ∀ u s', In F g led m s' → Lst ProdAt g u (ps.filter c) → Q u s') : wpAny (model prog w) A (call (.builtin "dict.get") [v, .ref x, dflt]) Q E s :=
  getR hu H hv hk (fun hn s' H' => h _ s' H' (by rw [hout hn]; exact hd)) fun rs u s' hm hR H' => h u s' H' (by rw [← hin rs hm]; exact hR)

/-- grammar.productions(lhs=v) -/
theorem prodL {x : Addr} {f : Str → Option Value} {ps : List Row2} {lv : Value} {i : It} {Q : Value → Shared → Prop} (r : Room A 3 40) (k : KB w mg mb g) (hs : Sub g s.heap) (hI : Inst g x 334 f) (hG : GramI prog w g f ps) (hi : ItemAt g lv i) (hn : namedI i)
    (h : ∀ v s' g', Rel [] s g s' g' → Lst ProdAt g' v (ps.filter fun r => decide (r.1 = i)) → Q v s') : wpAny (model prog w) A (call (.ref 199) [.ref x] [("lhs", lv)]) Q E s := by
  refine enterC [("self", .ref x), ("lhs", lv), ("rhs", .none), ("empty", .bool false)] (led := []) k hs r.lt (fun _ h => nomatch h) List.nodup_nil (fun L s H => ?_) (hbind := binds_K (k.X.keeps hs) rfl (by k_is) rfl rfl rfl)
  refine wpAny_mono (E := no) ?_ (fun _ _ q => q) fun _ _ q => q.elim
  have H : In ⟨_, g, [], L⟩ g [(L + 1, CP (some .none))] _ s := H
  obtain ⟨g1, hc, hs1, H⟩ := H.cellF (Nat.le_succ_of_le H.fresh)
  have k1 := k.mono hs1
  have hi1 := hi.mono hs1
  have hI1 := hI.mono hs1
  refine ex_if (isTrue_and (isT (nmC H hc (truthy_none ?_))))
  rw [if_neg Bool.false_ne_true, if_neg Bool.false_ne_true]
  refine ex_nil (ex_if (isTrue_and (isTrue_not (isT (nm H rfl (trI H k1 hi1 hn fun s H => ?_))))))
  rw [Bool.not_true, if_neg Bool.false_ne_true, if_neg Bool.false_ne_true]
  refine ex_if (isTrue_and (isT (nm H rfl (trI H k1 hi1 hn fun s H => ?_))))
  rw [if_pos rfl]
  refine isTrue_and (isTrue_not (isT (nmC H hc (truthy_none ?_))))
  rw [Bool.not_false, if_pos rfl]
  refine isTrue_and_nil ?_
  rw [if_pos rfl]
  refine ex_if (isTrue_not (isT (nm H rfl (tr_b ?_))))
  rw [Bool.not_false, if_pos rfl]
  obtain ⟨v2, G, hf, hv, hD, hX⟩ := hG.lhs
  refine ex_ret (MethodCall_ (Attribute_any_ (nm H rfl (attr H k1 (c334 _) hI1 (a334_lhs_index _) hf hv fun s H => ?_))))
  have hD1 := hD.mono LstP.mono hs1
  refine mGetR H hD1 (callB (aC (Call_ (nmG H k1 (g_key _) (callW (kp91 _) (a1 (nm H rfl ⟨H.K k1, ?_⟩)))))))
  refine key_spec (r.deeper.le (by decide) (by decide)) k1 H.into hi1 fun kv s g2 R2 hkv => ?_
  have H := H.call0 R2
  refine a1 (nilL (R := ProdAt) H fun ev g3 s hs3 hev H => ?_)
  obtain ⟨ka, _, _, rfl, _⟩ := id hkv
  refine idxGet (c := fun r => decide (r.1 = i)) (ps := ps) ((r.deeper.le (Nat.zero_le _) (Nat.le_refl _)).u (by decide)) H (hD1.mono LstP.mono (R2.sub.trans hs3)) (hkv.mono hs3) hev (fun rs hm => hX.vals _ hm) (fun hn => ?_) fun u s H hu => h _ _ _ H.rel hu
  rw [List.filter_eq_nil_iff]
  intro p hp q
  exact hn ((hX.keys i).mpr (List.mem_map.mpr ⟨p, hp, by simpa using q⟩))

abbrev nmX : PySem.Expr := .Name (Str.ofString "_") ⟨0, 0, 0, 0⟩
theorem filter_one {α : Type} [DecidableEq α] : ∀ {l : List α} {a : α}, l.Nodup → a ∈ l → (l.filter fun r => decide (r = a)) = [a]
  | x :: l, a, hn, h => by
    rw [List.nodup_cons] at hn
    by_cases e : x = a
    · rw [List.filter_cons_of_pos (by simp [e])]
      have : (l.filter fun r => decide (r = a)) = [] := by
        rw [List.filter_eq_nil_iff]
        intro p hp q
        simp only [decide_eq_true_eq] at q
        rw [q, ← e] at hp
        exact hn.1 hp
      rw [this, e]
    · rw [List.filter_cons_of_neg (by simp [e])]
      rcases List.mem_cons.mp h with h | h
      · exact absurd h.symm e
      · exact filter_one hn.2 h
theorem listL {β : Type} {R : Heap → Value → β → Prop} {M : Model} {vs : List Value} {Q : Value → Shared → Prop} (H : In F g led m s) (ps : List β) (hv : All2 (R g) vs ps) (hm : vs.length ≤ 1000) (h : ∀ v g' s', Sub g g' → ((∀ g g' v b, Sub g g' → R g v b → R g' v b) → Lst R g' v ps) → In F g' led m s' → Q v s') : wpAny M A (newList vs) Q E s := by
  refine wpAny_newList ?_ (by rw [sizeLine_eq]; omega)
  have H1 := H.new (seqObj "list" vs.toArray 0) rfl (SQ vs) ⟨0, rfl⟩
  obtain ⟨o, g', ⟨n, rfl⟩, e, hs, H2⟩ := H1.freeze (H.was (Nat.le_refl _))
  exact h _ g' _ hs (fun hm => ⟨_, vs, rfl, ⟨_, e, rfl, n, rfl⟩, hv.imp fun _ _ => hm _ _ _ _ hs⟩) H2
theorem g_list : bootBuiltins "list" = some (.type "list") := by kernel_rfl
theorem n_list (P : Params) : nsIn (hd.heap_39 P) mainGlobals "list" = some none := by kernel_rfl
/-- grammar.productions() -/
theorem prod0 {x : Addr} {f : Str → Option Value} {ps : List Row2} {Q : Value → Shared → Prop} (r : Room A 3 90) (k : KB w mg mb g) (hs : Sub g s.heap) (hI : Inst g x 334 f) (hG : GramI prog w g f ps) 
    (h : ∀ v s' g', Rel [] s g s' g' → Lst ProdAt g' v (ps) → Q v s') : wpAny (model prog w) A (call (.ref 199) [.ref x] []) Q E s := by
  refine enterC [("self", .ref x), ("lhs", .none), ("rhs", .none), ("empty", .bool false)] (led := []) k hs r.lt (fun _ h => nomatch h) List.nodup_nil (fun L s H => ?_) (hbind := binds_K (k.X.keeps hs) rfl (by k_is) rfl rfl rfl)
  refine wpAny_mono (E := no) ?_ (fun _ _ q => q) fun _ _ q => q.elim
  have H : In ⟨_, g, [], L⟩ g [(L + 1, CP (some .none))] _ s := H
  obtain ⟨g1, hc, hs1, H⟩ := H.cellF (Nat.le_succ_of_le H.fresh)
  have k1 := k.mono hs1
  have hI1 := hI.mono hs1
  refine ex_if (isTrue_and (isT (nmC H hc (truthy_none ?_))))
  rw [if_neg Bool.false_ne_true, if_neg Bool.false_ne_true]
  refine ex_nil (ex_if (isTrue_and (isTrue_not (isT (nm H rfl (truthy_none ?_))))))
  rw [Bool.not_false, if_pos rfl]
  refine isTrue_and (isTrue_not (isT (nmC H hc (truthy_none ?_))))
  rw [Bool.not_false, if_pos rfl]
  refine isTrue_and_nil ?_
  rw [if_pos rfl]
  refine ex_if (isTrue_not (isT (nm H rfl (tr_b ?_))))
  rw [Bool.not_false, if_pos rfl]
  obtain ⟨v2, hf, hv, hL⟩ := hG.prods
  exact ex_ret (Attribute_any_ (nm H rfl (attr H k1 (c334 _) hI1 (a334_productions _) hf hv fun s H => h _ _ _ H.rel (LstP.mono _ _ _ _ hs1 hL))))
/-- grammar.productions(empty=True) -/
theorem prodE {x : Addr} {f : Str → Option Value} {ps : List Row2} {Q : Value → Shared → Prop} (r : Room A 3 90) (k : KB w mg mb g) (hs : Sub g s.heap) (hI : Inst g x 334 f) (hG : GramI prog w g f ps) (hz : ps.length ≤ 900)
    (h : ∀ v s' g', Rel [] s g s' g' → Lst ProdAt g' v (ps.filter fun r => decide (r.2 = [])) → Q v s') : wpAny (model prog w) A (call (.ref 199) [.ref x] [("empty", .bool true)]) Q E s := by
  refine enterC [("self", .ref x), ("lhs", .none), ("rhs", .none), ("empty", .bool true)] (led := []) k hs r.lt (fun _ h => nomatch h) List.nodup_nil (fun L s H => ?_) (hbind := binds_K (k.X.keeps hs) rfl (by k_is) rfl rfl rfl)
  refine wpAny_mono (E := no) ?_ (fun _ _ q => q) fun _ _ q => q.elim
  have H : In ⟨_, g, [], L⟩ g [(L + 1, CP (some .none))] _ s := H
  obtain ⟨g1, hc, hs1, H⟩ := H.cellF (Nat.le_succ_of_le H.fresh)
  have k1 := k.mono hs1
  have hI1 := hI.mono hs1
  refine ex_if (isTrue_and (isT (nmC H hc (truthy_none ?_))))
  rw [if_neg Bool.false_ne_true, if_neg Bool.false_ne_true]
  refine ex_nil (ex_if (isTrue_and (isTrue_not (isT (nm H rfl (truthy_none ?_))))))
  rw [Bool.not_false, if_pos rfl]
  refine isTrue_and (isTrue_not (isT (nmC H hc (truthy_none ?_))))
  rw [Bool.not_false, if_pos rfl]
  refine isTrue_and_nil ?_
  rw [if_pos rfl]
  refine ex_if (isTrue_not (isT (nm H rfl (tr_b ?_))))
  rw [Bool.not_true, if_neg Bool.false_ne_true]
  obtain ⟨v2, hf, hv, hD⟩ := hG.emp
  have hD1 := hD.mono ProdAt.mono' hs1
  refine ex_ret (Call_ (nmB H k1 g_list (e := n_list _) (callT (a1 (MethodCall_ (Attribute_any_ (nm H rfl (attr H k1 (c334 _) hI1 (a334_empty_index _) hf hv fun s H => ?_))))))))
  obtain ⟨hn, d, o, xs, rfl, hd1, hod, hDP, hE⟩ := id hD1
  have hm := hDP.at (H.into _ _ hod) (hE.keys.mono H.into)
  refine getMethod_builtin hm.typeIs PySem.F.plainAttrs_dict PySem.F.slot_dict_values PySem.F.type_dict_values (dictNo hm) (callB0 ?_)
  refine wpAny_call_entry PySem.F.slot_dict_values hm.typeIs PySem.F.entry_dict_values ?_ (PySem.F.args_dict_values_1 _)
  unfold Builtin.«dict.values»
  refine wpAny_bind ?_
  unfold Builtin.Dict.noArgs
  refine wpAny_bind (wpAny_notOrdered_dict hm.typeIs ?_)
  show wpAny _ _ (pure d) _ _ _
  refine wpAny_pure ?_
  show wpAny _ _ (Builtin.Dict.showsAll d >>= _) _ _ _
  unfold Builtin.Dict.showsAll
  rw [if_neg (by simpa [sysModules] using hd1)]
  refine wpAny_bind (wpAny_pure (wpAny_bind (wpAny_newObj_type (wpAny_pure ⟨_, rfl, ?_⟩))))
  have H1 := H.new { cls := .type "dict_values", data := .fields #[.ref d] } rfl (fun _ => True) trivial
  refine listVals (R := ProdAt) (G := idxE ps) r.hh H1.drop ⟨_, Heap.get?_push_size _ rfl, rfl, rfl⟩ hod hDP hE ?_ fun v g2 s hs2 hL H => ?_
  · rw [hE.length]; unfold idxE; rw [List.length_map]; exact Nat.le_trans (List.length_filter_le _ _) (by omega)
  · refine h _ _ _ H.rel ?_
    have := hL ProdAt.mono'
    unfold idxE at this
    rw [List.map_map, show ((fun x : It × Row2 => x.2) ∘ fun r : Row2 => (r.1, r)) = id from rfl, List.map_id] at this
    exact this
/-- grammar.productions(lhs=v, empty=True) -/
theorem prodLE {x : Addr} {f : Str → Option Value} {ps : List Row2} {lv : Value} {i : It} {Q : Value → Shared → Prop} (r : Room A 3 90) (k : KB w mg mb g) (hs : Sub g s.heap) (hI : Inst g x 334 f) (hG : GramI prog w g f ps) (hi : ItemAt g lv i) (hn : namedI i) (hnd : ps.Nodup)
    (h : ∀ v s' g', Rel [] s g s' g' → Lst ProdAt g' v (ps.filter fun r => decide (r = (i, []))) → Q v s') : wpAny (model prog w) A (call (.ref 199) [.ref x] [("lhs", lv), ("empty", .bool true)]) Q E s := by
  refine enterC [("self", .ref x), ("lhs", lv), ("rhs", .none), ("empty", .bool true)] (led := []) k hs r.lt (fun _ h => nomatch h) List.nodup_nil (fun L s H => ?_) (hbind := binds_K (k.X.keeps hs) rfl (by k_is) rfl rfl rfl)
  refine wpAny_mono (E := no) ?_ (fun _ _ q => q) fun _ _ q => q.elim
  have H : In ⟨_, g, [], L⟩ g [(L + 1, CP (some .none))] _ s := H
  obtain ⟨g1, hc, hs1, H⟩ := H.cellF (Nat.le_succ_of_le H.fresh)
  have k1 := k.mono hs1
  have hI1 := hI.mono hs1
  have hi1 := hi.mono hs1
  refine ex_if (isTrue_and (isT (nmC H hc (truthy_none ?_))))
  rw [if_neg Bool.false_ne_true, if_neg Bool.false_ne_true]
  refine ex_nil (ex_if (isTrue_and (isTrue_not (isT (nm H rfl (trI H k1 hi1 hn fun s H => ?_))))))
  rw [Bool.not_true, if_neg Bool.false_ne_true, if_neg Bool.false_ne_true]
  refine ex_if (isTrue_and (isT (nm H rfl (trI H k1 hi1 hn fun s H => ?_))))
  rw [if_pos rfl]
  refine isTrue_and (isTrue_not (isT (nmC H hc (truthy_none ?_))))
  rw [Bool.not_false, if_pos rfl]
  refine isTrue_and_nil ?_
  rw [if_pos rfl]
  refine ex_if (isTrue_not (isT (nm H rfl (tr_b ?_))))
  rw [Bool.not_true, if_neg Bool.false_ne_true]
  obtain ⟨v2, hf, hv, hD⟩ := hG.emp
  have hD1 := hD.mono ProdAt.mono' hs1
  have rr : ∀ e, Room (A.deeper e) 2 87 := fun e => r.deeper
  refine ex_if (tcmp1 (Call_ (nmG H k1 (g_key _) (callW (kp91 _) (a1 (nm H rfl ⟨H.K k1, ?_⟩))))))
  refine key_spec ((rr _).le (by decide) (by decide)) k1 H.into hi1 fun kv s g2 R2 hkv => ?_
  have H := H.call0 R2
  have k2 := k1.mono R2.sub
  have hD2 := hD1.mono ProdAt.mono' R2.sub
  obtain ⟨ka, _, _, rfl, _⟩ := id hkv
  refine Attribute_any_ (nm H rfl (attr H k2 (c334 _) (hI1.mono R2.sub) (a334_empty_index _) hf hv fun s H => ?_))
  obtain ⟨hnk, d, o, xs, rfl, hd1, hod, hDP, hE⟩ := id hD2
  have hm := hDP.at (H.into _ _ hod) (hE.keys.mono H.into)
  refine inD ((rr _).u (by decide)) H hkv.isg hd1 hm fun s H => tr_b ?_
  have hmem : i ∈ (idxE ps).map (·.1) ↔ (i, []) ∈ ps := by
    unfold idxE
    rw [List.map_map]
    simp only [List.mem_map, List.mem_filter, decide_eq_true_eq, Function.comp]
    constructor
    · rintro ⟨p, ⟨hp, e⟩, rfl⟩
      rw [← e]; exact hp
    · intro hp; exact ⟨_, ⟨hp, rfl⟩, rfl⟩
  by_cases hmi : (i, []) ∈ ps
  · have hE1 : (i, ((i, []) : Row2)) ∈ idxE ps := List.mem_map.mpr ⟨(i, []), List.mem_filter.mpr ⟨hmi, by simp⟩, rfl⟩
    obtain ⟨a', v', hat, hPr⟩ := hE.some hnk hE1
    rw [hat, Option.isSome_some, if_pos rfl]
    refine ex_ret (List_ (a1 ?_))
    refine Subscript_ (Attribute_any_ (nm H rfl (attr H k2 (c334 _) (hI1.mono R2.sub) (a334_empty_index _) hf hv fun s H => Call_ (nmG H k2 (g_key _) (callW (kp91 _) (a1 (nm H rfl ⟨H.K k2, ?_⟩)))))))
    refine key_spec ((rr _).le (by decide) (by decide)) k2 H.into (hi1.mono R2.sub) fun kv s g3 R3 hkv3 => ?_
    have H := H.call0 R3
    obtain ⟨kb, _, _, rfl, _⟩ := id hkv3
    refine kba_turn (value' := nmX) (fun _ => rfl) ?_
    refine ixD ((rr _).u (by decide)) H hkv3.isg (hDP.at (H.into _ _ (R3.sub _ _ hod)) (hE.keys.mono (R3.sub.trans H.into))) hat fun s H => ?_
    refine listL (R := ProdAt) H [(i, [])] (.cons (hPr.mono R3.sub) .nil) (by simp) fun ev g4 s hs4 hev H => h _ _ _ H.rel ?_
    rw [filter_one hnd hmi]; exact hev ProdAt.mono'
  · rw [hE.none (fun q => hmi (hmem.mp q)), Option.isSome_none, if_neg Bool.false_ne_true]
    refine ex_ret (nilL (R := ProdAt) H fun ev g3 s hs3 hev H => h _ _ _ H.rel ?_)
    have : (ps.filter fun r => decide (r = (i, []))) = [] := by
      rw [List.filter_eq_nil_iff]
      intro p hp q
      simp only [decide_eq_true_eq] at q
      exact hmi (q ▸ hp)
    rw [this]; exact hev
/-- grammar.productions(rhs=v) -/
theorem prodR {x : Addr} {f : Str → Option Value} {ps : List Row2} {rv : Value} {j : It} {Q : Value → Shared → Prop} (r : Room A 3 90) (k : KB w mg mb g) (hs : Sub g s.heap) (hI : Inst g x 334 f) (hG : GramI prog w g f ps) (hj : ItemAt g rv j) (hn : namedI j)
    (h : ∀ v s' g', Rel [] s g s' g' → Lst ProdAt g' v (ps.filter fun r => decide (r.2.head? = some j)) → Q v s') : wpAny (model prog w) A (call (.ref 199) [.ref x] [("rhs", rv)]) Q E s := by
  refine enterC [("self", .ref x), ("lhs", .none), ("rhs", rv), ("empty", .bool false)] (led := []) k hs r.lt (fun _ h => nomatch h) List.nodup_nil (fun L s H => ?_) (hbind := binds_K (k.X.keeps hs) rfl (by k_is) rfl rfl rfl)
  refine wpAny_mono (E := no) ?_ (fun _ _ q => q) fun _ _ q => q.elim
  have H : In ⟨_, g, [], L⟩ g [(L + 1, CP (some rv))] _ s := H
  obtain ⟨g1, hc, hs1, H⟩ := H.cellF (Nat.le_succ_of_le H.fresh)
  have k1 := k.mono hs1
  have hI1 := hI.mono hs1
  have hj1 := hj.mono hs1
  refine ex_if (isTrue_and (isT (nmC H hc (trI H k1 hj1 hn fun s H => ?_))))
  rw [if_pos rfl]
  refine isTrue_and (isT (nm H rfl (tr_b ?_)))
  rw [if_neg Bool.false_ne_true, if_neg Bool.false_ne_true]
  refine ex_nil (ex_if (isTrue_and (isTrue_not (isT (nm H rfl (truthy_none ?_))))))
  rw [Bool.not_false, if_pos rfl]
  refine isTrue_and (isTrue_not (isT (nmC H hc (trI H k1 hj1 hn fun s H => ?_))))
  rw [Bool.not_true, if_neg Bool.false_ne_true, if_neg Bool.false_ne_true]
  refine ex_if (isTrue_and (isT (nm H rfl (truthy_none ?_))))
  rw [if_neg Bool.false_ne_true, if_neg Bool.false_ne_true]
  refine ex_if (isTrue_and (isT (nmC H hc (trI H k1 hj1 hn fun s H => ?_))))
  rw [if_pos rfl]
  refine isTrue_and (isTrue_not (isT (nm H rfl (truthy_none ?_))))
  rw [Bool.not_false, if_pos rfl]
  refine isTrue_and_nil ?_
  rw [if_pos rfl]
  obtain ⟨v2, G, hf, hv, hD, hX⟩ := hG.rhs
  refine ex_ret (MethodCall_ (Attribute_any_ (nm H rfl (attr H k1 (c334 _) hI1 (a334_rhs_index _) hf hv fun s H => ?_))))
  have hD1 := hD.mono LstP.mono hs1
  refine mGetR H hD1 (callB (aC (Call_ (nmG H k1 (g_key _) (callW (kp91 _) (a1 (nmC H hc ⟨H.K k1, ?_⟩)))))))
  refine key_spec (r.deeper.le (by decide) (by decide)) k1 H.into hj1 fun kv s g2 R2 hkv => ?_
  have H := H.call0 R2
  refine a1 (nilL (R := ProdAt) H fun ev g3 s hs3 hev H => ?_)
  obtain ⟨ka, _, _, rfl, _⟩ := id hkv
  refine idxGet (c := fun r => decide (r.2.head? = some j)) (ps := ps) ((r.deeper.le (Nat.zero_le _) (Nat.le_refl _)).u (by decide)) H (hD1.mono LstP.mono (R2.sub.trans hs3)) (hkv.mono hs3) hev (fun rs hm => hX.vals _ hm) (fun hn => ?_) fun u s H hu => h _ _ _ H.rel hu
  rw [List.filter_eq_nil_iff]
  intro p hp q
  exact hn ((hX.keys j).mpr ⟨p, hp, by simpa using q⟩)
end
end Mine
end

section
open PySem PySem.W PySem.Calls PyProof.Rows
set_option maxRecDepth 100000
namespace Mine
theorem fillK12 (P : Params) : hd.heap_39 P = hd.heap_39 P → PySem.Challenge.rw_bn0044_01 = PySem.Challenge.rw_bn0044_01 := by
  k_fill
  exact fun _ => rfl

section
variable {prog : Program} {w : World} {mg mb : Str → Option Value} {A : Around} {E : Value → Shared → Prop} {s s' : Shared} {F : Fx} {g g' : Heap} {led : Led} {m : Str → Option Value} {env : Env}

/-! ## data, read -/
def pyIt (i : It) : PyData := .tuple [.int (tagI i), .str i.n]
def pyKey (i : It) : PyData := .tuple [.str (if i.t then "T" else "N"), .str i.n]
def pyRow (p : Row2) : PyData := .tuple [pyIt p.1, .list (p.2.map pyIt)]
theorem KeyAt.reads {h : Heap} {v : Value} {i : It} (x : KeyAt h v i) : Reads h v (pyKey i) [] := by
  obtain ⟨a, t1, t2, rfl, o, ho, hc, n, hd⟩ := x
  exact .tuple ho hc hd (.cons (.str _ _) (.cons (.str _ _) .nil))
theorem LIt.reads {h : Heap} {v : Value} {i : It} (x : LIt h v i) : Reads h v (pyIt i) [] := by
  obtain ⟨a, t1, t2, rfl, o, ho, hc, n, hd⟩ := x
  exact .tuple ho hc hd (.cons (.int _ _) (.cons (.str _ _) .nil))
theorem beqS (a b : Str) : (a == b) = decide (a = b) := by
  by_cases h : a = b
  · subst h; simp
  · simp [h]
theorem nNT : (Str.ofString "N" == Str.ofString "T") = false := by decide
theorem nTN : (Str.ofString "T" == Str.ofString "N") = false := by decide
theorem eqvKey (i j : It) : PyData.eqv (pyKey i) (pyKey j) = decide (i = j) := by
  obtain ⟨t, n⟩ := i; obtain ⟨t', n'⟩ := j
  show ((if t = true then Str.ofString "T" else Str.ofString "N") == (if t' = true then Str.ofString "T" else Str.ofString "N") && ((n == n') && true)) = _
  rw [beqS n n', Bool.and_true]
  cases t <;> cases t' <;> simp only [Bool.false_eq_true, if_false, if_true, nNT, nTN, beq_self_eq_true, Bool.true_and, Bool.false_and, It.mk.injEq, true_and, false_and, decide_false, reduceCtorEq]
theorem eqvIt (i j : It) : PyData.eqv (pyIt i) (pyIt j) = decide (i = j) := by
  obtain ⟨t, n⟩ := i; obtain ⟨t', n'⟩ := j
  show ((tagI ⟨t, n⟩ == tagI ⟨t', n'⟩) && ((n == n') && true)) = _
  rw [beqS n n', Bool.and_true]
  cases t <;> cases t' <;> simp [tagI]
def okS (i : It) : Prop := PyData.strOk i.n = true
theorem dIt (a b : PyData) (ha : a.depth = 0) (hb : b.depth = 0) : (PyData.tuple [a, b]).depth = 1 := by simp [PyData.depth, PyData.depthAll, ha, hb]
theorem shKey {i : It} (h : okS i) : SeqAt.shaped (pyKey i) = true := by
  have h' : PyData.strOk i.n = true := h
  have h2 : PyData.strOk (if i.t = true then Str.ofString "T" else Str.ofString "N") = true := by cases i.t <;> decide +kernel
  unfold SeqAt.shaped
  rw [Bool.and_eq_true]
  refine ⟨by simp [pyKey, PyData.canLay0, PyData.canLayAll0, h', h2], ?_⟩
  rw [show (pyKey i).depth = 1 from dIt _ _ rfl rfl]; rfl
theorem shIt {i : It} (h : okS i) : SeqAt.shaped (pyIt i) = true := by
  have h' : PyData.strOk i.n = true := h
  unfold SeqAt.shaped
  rw [Bool.and_eq_true]
  refine ⟨by simp [pyIt, PyData.canLay0, PyData.canLayAll0, h'], ?_⟩
  rw [show (pyIt i).depth = 1 from dIt _ _ rfl rfl]; rfl
theorem eqKey {v u : Value} {i j : It} {Q : Value → Shared → Prop} (hu : A.units + 64 < cLine) (H : In F g led m s) (hi : KeyAt g v i) (hj : KeyAt g u j) (hi' : okS i) (hj' : okS j) (h : Q (.bool (decide (i = j))) s) : wpAny (model prog w) A (compareOp .Eq v u) Q E s :=
  eq_dataH (hi.mono H.into).reads (hj.mono H.into).reads (shKey hi') (shKey hj') hu (by rw [eqvKey]; exact h)

theorem ixH {value slice : PySem.Expr} {t : Addr} {y : Value} {ys : List Value} {u : Tok} {Q : Value → Shared → Prop} (H : In F g led m s) (ht : IsTup g t (y :: ys).toArray) (h : Q y s)
    (hs : subscripted slice false (.ref t) (.int 0 u) = operate [.ref t, .int 0 u] (getItem (.ref t) (.int 0 u)) := by with_unfolding_all rfl) : wpAny (model prog w) A (subscriptTail value slice (.ref t) (.int 0 u)) Q E s :=
  kba_turn (value' := nmX) (fun _ => rfl) (item_tuple (isTup_mono ht H.into) (by decide) (by decide) (j := 0) (by unfold seqIndex?; simp) rfl h hs (fun _ => rfl))
/-- grammar.productions(lhs=u, rhs=v) -/
theorem prodLR {x : Addr} {f : Str → Option Value} {ps : List Row2} {lv rv : Value} {i j : It} {Q : Value → Shared → Prop} (r : Room A 3 90) (k : KB w mg mb g) (hs : Sub g s.heap) (hI : Inst g x 334 f) (hG : GramI prog w g f ps)
    (hi : ItemAt g lv i) (hni : namedI i) (hj : ItemAt g rv j) (hnj : namedI j) (hz : ps.length ≤ 900) (hz2 : ∀ p ∈ ps, p.2.length ≤ 1000) (hoj : okS j) (hok : ∀ p ∈ ps, ∀ i ∈ p.2, okS i)
    (h : ∀ v s' g', Rel [] s g s' g' → Lst ProdAt g' v ((ps.filter fun r => decide (r.1 = i)).filter fun r => decide (r.2.head? = some j)) → Q v s') : wpAny (model prog w) A (call (.ref 199) [.ref x] [("lhs", lv), ("rhs", rv)]) Q E s := by
  refine enterC [("self", .ref x), ("lhs", lv), ("rhs", rv), ("empty", .bool false)] (led := []) k hs r.lt (fun _ h => nomatch h) List.nodup_nil (fun L s H => ?_) (hbind := binds_K (k.X.keeps hs) rfl (by k_is) rfl rfl rfl)
  refine wpAny_mono (E := no) ?_ (fun _ _ q => q) fun _ _ q => q.elim
  have H : In ⟨_, g, [], L⟩ g [(L + 1, CP (some rv))] _ s := H
  obtain ⟨g1, hc, hs1, H⟩ := H.cellF (Nat.le_succ_of_le H.fresh)
  have k1 := k.mono hs1
  have hI1 := hI.mono hs1
  have hi1 := hi.mono hs1
  have hj1 := hj.mono hs1
  have rr : ∀ e, Room (A.deeper e) 2 87 := fun e => r.deeper
  refine ex_if (isTrue_and (isT (nmC H hc (trI H k1 hj1 hnj fun s H => ?_))))
  rw [if_pos rfl]
  refine isTrue_and (isT (nm H rfl (tr_b ?_)))
  rw [if_neg Bool.false_ne_true, if_neg Bool.false_ne_true]
  refine ex_nil (ex_if (isTrue_and (isTrue_not (isT (nm H rfl (trI H k1 hi1 hni fun s H => ?_))))))
  rw [Bool.not_true, if_neg Bool.false_ne_true, if_neg Bool.false_ne_true]
  refine ex_if (isTrue_and (isT (nm H rfl (trI H k1 hi1 hni fun s H => ?_))))
  rw [if_pos rfl]
  refine isTrue_and (isTrue_not (isT (nmC H hc (trI H k1 hj1 hnj fun s H => ?_))))
  rw [Bool.not_true, if_neg Bool.false_ne_true, if_neg Bool.false_ne_true]
  refine ex_if (isTrue_and (isT (nmC H hc (trI H k1 hj1 hnj fun s H => ?_))))
  rw [if_pos rfl]
  refine isTrue_and (isTrue_not (isT (nm H rfl (trI H k1 hi1 hni fun s H => ?_))))
  rw [Bool.not_true, if_neg Bool.false_ne_true, if_neg Bool.false_ne_true]
  obtain ⟨v2, G, hf, hv, hD, hX⟩ := hG.lhs
  refine ex_ret (lcE (cl := [("rhs", L + 1)]) rfl (MethodCall_ (Attribute_any_ (nm H rfl (attr H k1 (c334 _) hI1 (a334_lhs_index _) hf hv fun s H => ?_)))))
  have hD1 := hD.mono LstP.mono hs1
  refine mGetR H hD1 (callB (aC (Call_ (nmG H k1 (g_key _) (callW (kp91 _) (a1 (nm H rfl ⟨H.K k1, ?_⟩)))))))
  refine key_spec ((rr _).le (by decide) (by decide)) k1 H.into hi1 fun kv s g2 R2 hkv => ?_
  have H := H.call0 R2
  refine a1 (nilL (R := ProdAt) H fun ev g3 s hs3 hev H => ?_)
  obtain ⟨ka, _, _, rfl, _⟩ := id hkv
  refine idxGet (c := fun r => decide (r.1 = i)) (ps := ps) ((rr _).u (by decide)) H (hD1.mono LstP.mono (R2.sub.trans hs3)) (hkv.mono hs3) hev (fun rs hm => hX.vals _ hm) (fun hn => ?_) fun u s H hu => ?_
  · rw [List.filter_eq_nil_iff]
    intro p hp q
    exact hn ((hX.keys i).mpr (List.mem_map.mpr ⟨p, hp, by simpa using q⟩))
  obtain ⟨lA, lvs, rfl, hlA, hlvs⟩ := hu
  have S03 := (hs1.trans R2.sub).trans hs3
  have k3 := k.mono S03
  refine itListA H hlA hlvs fun I St s S H => ?_
  have hlen : (ps.filter fun r => decide (r.1 = i)).length ≤ 900 := Nat.le_trans (List.length_filter_le _ _) hz
  refine lcV (JSel (ps.filter fun r => decide (r.1 = i)) g3 [] ProdAt (fun p o => o = if decide (p.2.head? = some j) then some p else none)) S r.hh (.refl _) H .init (by omega) ?_ ?_
  · intro F' p rest out acc g4 led1 m1 s v hg hR H J
    obtain ⟨px, plv, T, vs2, rfl, hpI, h1, h2, h3⟩ := id hR
    have k4 := k3.mono hg
    have hpz : p.2.length ≤ 1000 := hz2 p (List.mem_filter.mp J.mem).1
    have hvl : vs2.length = p.2.length := h3.length
    have hc4 : CellAt g4 (L + 1) rv := hc.mono ((R2.sub.trans hs3).trans hg)
    refine asN H fun s H => tests1 (isTrue_and (isT (Attribute_any_ (nm H rfl (attr H k4 (c155 _) (hpI.mono hg) (a155_rhs _) rfl rfl fun s H => truthy_tuple (isTup_mono (isTup_mono h2 hg) H.into) (by rw [List.size_toArray]; omega) ?_)))))
    have H := H.toks (s.toks + 1 + 1)
    cases hv2 : vs2 with
    | nil =>
      have hp0 : p.2 = [] := by rw [hv2] at hvl; exact List.eq_nil_of_length_eq_zero hvl.symm
      show if (!([] : List Value).toArray.isEmpty) = true then _ else _
      simp only [List.isEmpty_toArray, List.isEmpty_nil, Bool.not_true, Bool.false_eq_true, if_false]
      exact ⟨g4, led1, _, hg, H, J.pass ProdAt.mono' (.refl _) (by simp [hp0])⟩
    | cons y ys =>
      subst hv2
      show if (!(y :: ys).toArray.isEmpty) = true then _ else _
      simp only [List.isEmpty_toArray, List.isEmpty_cons, Bool.not_false, if_true]
      obtain ⟨q, qs, hpq⟩ : ∃ q qs, p.2 = q :: qs := by
        cases hp2 : p.2 with
        | nil => rw [hp2] at hvl; simp at hvl
        | cons q qs => exact ⟨q, qs, rfl⟩
      rw [hpq] at h3
      have hyq : ItemAt g3 y q := by cases h3; assumption
      have hoq : okS q := hok p (List.mem_filter.mp J.mem).1 q (by rw [hpq]; exact .head _)
      refine isTrue_and (tcmp1 (Call_ (nmG H k4 (g_key _) (callW (kp91 _) (a1 (Subscript_ (Attribute_any_ (nm H rfl (attr H k4 (c155 _) (hpI.mono hg) (a155_rhs _) rfl rfl fun s H => cst_i H fun u s H => ?_)))))))))
      refine ixH H (isTup_mono h2 hg) ⟨H.K k4, ?_⟩
      refine key_spec ((rr _).le (by decide) (by decide)) k4 H.into (hyq.mono hg) fun kv s g5 R5 hkq => ?_
      have H := H.call0 R5
      have k5 := k4.mono R5.sub
      refine Call_ (nmG H k5 (g_key _) (callW (kp91 _) (a1 (nmC H (hc4.mono R5.sub) ⟨H.K k5, ?_⟩))))
      refine key_spec ((rr _).le (by decide) (by decide)) k5 H.into (hj.mono ((S03.trans hg).trans R5.sub)) fun kv2 s g6 R6 hkj => ?_
      have H := H.call0 R6
      refine eqKey ((rr _).u (by decide)) H (hkq.mono R6.sub) hkj hoq hoj (tr_b ?_)
      by_cases e : q = j
      · rw [decide_eq_true e, if_pos rfl]
        refine isTrue_and_nil ?_
        rw [if_pos rfl]
        exact nm H rfl ⟨g6, led1, _, (hg.trans R5.sub).trans R6.sub, H, J.step ProdAt.mono' (R5.sub.trans R6.sub) (hR.mono ((hg.trans R5.sub).trans R6.sub)) (by simp [hpq, e])⟩
      · rw [decide_eq_false e, if_neg Bool.false_ne_true, if_neg Bool.false_ne_true]
        exact ⟨g6, led1, _, (hg.trans R5.sub).trans R6.sub, H, J.pass ProdAt.mono' (R5.sub.trans R6.sub) (by simp [hpq, e])⟩
  · intro l2 out2 g5 g6 led6 s hg5 hg6 hl2 J5 H
    obtain ⟨rfl, S6, ha2⟩ := J5.fin ProdAt.mono' hg6
    refine h _ _ _ H.rel ⟨l2, out2, rfl, hl2, ?_⟩
    have e : ∀ l : List Row2, l.filterMap (fun p => if decide (p.2.head? = some j) = true then some p else none) = l.filter fun r => decide (r.2.head? = some j) := fun l => by
      induction l with
      | nil => rfl
      | cons a l ih =>
        rw [List.filterMap_cons, List.filter_cons]
        by_cases hq : decide (a.2.head? = some j) = true
        · rw [if_pos hq, if_pos hq, ih]
        · rw [if_neg hq, if_neg hq, ih]
    rw [e] at ha2
    exact ha2
end
end Mine
end

section
open PySem PySem.W PySem.Calls PyProof.Rows
set_option maxRecDepth 100000
namespace Mine

section
variable {prog : Program} {w : World} {mg mb : Str → Option Value} {A : Around} {E : Value → Shared → Prop} {s s' : Shared} {F : Fx} {g g' : Heap} {led : Led} {m : Str → Option Value} {env : Env}

/-- x, y = (e1, e2) -/
theorem ex_setTup {x y : Str} {px py p pos : Pos} {kk kv : Nat} {es : List PySem.Expr} {rest : List Stmt} {Q : Flow → Shared → Prop} {pv : Pos} (hh : A.handled = none)
    (h : wpAny (model prog w) A (spliced (backTo pv (starEach es env))) (fun vs s₁ => ∃ F g led m v1 v2, vs = [v1, v2] ∧ In F g led m s₁ ∧ env.locals = F.L ∧ ∀ g' s', Sub g g' → In F g' led (fun z => if z = x then some v1 else if z = y then some v2 else m z) s' → wpAny (model prog w) A (execs rest env) Q E s') E s)
    (hsw : swapsWithSole [.Tuple [.Name x px, .Name y py] kk p] (.Tuple es kv pv) pos.line env = pure false := by rfl) (hsn : swappedStores [.Tuple [.Name x px, .Name y py] kk p] (.Tuple es kv pv) env = pure (some [x, y]) := by kernel_rfl)
    (hk : env.scope.kind = .function := by rfl) (hx : env.kindOf x = some .local := by kernel_rfl) (hy : env.kindOf y = some .local := by kernel_rfl) :
    wpAny (model prog w) A (execs (.Assign [.Tuple [.Name x px, .Name y py] kk p] (.Tuple es kv pv) pos :: rest) env) Q E s := by
  refine wpAny_execs_cons ?_
  rw [arm_exec_Assign, hsw, hsn]
  refine wpAny_bind (wpAny_standAt (wpAny_bind (wpAny_pure ?_)))
  simp only [Bool.false_eq_true, if_false]
  refine wpAny_bind (tup (wpAny_mono h (fun vs s1 h1 => ?_) fun _ _ q => q))
  obtain ⟨F, g, led, m, v1, v2, rfl, H, hL, hQ⟩ := h1
  refine newT H fun t g2 s2 hs2 ht H => ?_
  refine wpAny_bind (wpAny_pure ?_)
  unfold assignStores
  refine wpAny_bind (wpAny_rule ?_)
  refine wpAny_bind (unpackItems_tuple (items := #[v1, v2]) hh (isTup_mono ht H.into) fun h' hs' => ?_)
  have H : In F g2 led m { s2 with heap := h' } := H.kept (s' := { s2 with heap := h' }) (fun b o e => hs' b o (Nat.ne_of_lt (Heap.lt_size e)) e) rfl (.refl _)
  have bn : ∀ {n : Str} {v : Value} {g : Heap} {m : Str → Option Value} {s : Shared} {Q : Unit → Shared → Prop}, env.kindOf n = some .local → In F g led m s → (∀ s', In F g led (fun z => if z = n then some v else m z) s' → Q () s') → wpAny (model prog w) A (bindName env n v) Q E s := fun {n v g m s Q} hn H hq => by
    unfold bindName
    exact wpAny_bind (wpAny_holding (wpAny_point (wpAny_bind (st H (fun s' H' => wpAny_point (hq s' H')) hL hk hn))))
  refine wpAny_bind ?_
  show wpAny _ _ (holding [v1] (bindName env y v2) >>= fun _ => holding [] (bindName env x v1) >>= fun _ => pure ()) _ _ _
  refine wpAny_bind (wpAny_holding (bn hy H fun s3 H3 => ?_))
  refine wpAny_bind (wpAny_holding (bn hx H3 fun s4 H4 => wpAny_pure (wpAny_pure ?_)))
  exact hQ g2 s4 hs2 H4

/-- x = o[i] = e -/
theorem ex_set2 {x : Str} {px p pos : Pos} {o i e : PySem.Expr} {rest : List Stmt} {Q : Flow → Shared → Prop}
    (h : wpAny (model prog w) A (eval e env) (fun v s₁ => wpAny (model prog w) A (storeName env x v) (fun _ s₂ => wpAny (model prog w) A (eval o env) (fun ov s₃ => wpAny (model prog w) A (eval i env) (fun iv s₄ => wpAny (model prog w) A (setItem ov iv v) (fun _ s₅ => wpAny (model prog w) A (execs rest env) Q E s₅) E s₄) E s₃) E s₂) E s₁) E s)
    (hsw : swapsWithSole [.Name x px, .Subscript o i p] e pos.line env = pure false := by rfl) (hsn : swappedStores [.Name x px, .Subscript o i p] e env = pure none := by rfl) :
    wpAny (model prog w) A (execs (.Assign [.Name x px, .Subscript o i p] e pos :: rest) env) Q E s := by
  refine wpAny_execs_cons ?_
  rw [arm_exec_Assign, hsw, hsn]
  refine wpAny_bind (wpAny_standAt (wpAny_bind (wpAny_pure ?_)))
  simp only [Bool.false_eq_true, if_false]
  refine wpAny_bind (wpAny_mono h (fun v s1 h1 => wpAny_bind (wpAny_pure ?_)) fun _ _ q => q)
  show wpAny _ _ (assignAll v [assign (.Name x px) env, assign (.Subscript o i p) env] >>= fun _ => pure Flow.next) _ _ _
  refine wpAny_bind ?_
  show wpAny _ _ (holding [v] (assign (.Name x px) env v) >>= fun _ => assign (.Subscript o i p) env v) _ _ _
  refine wpAny_bind (wpAny_holding (wpAny_assign_Name (wpAny_mono h1 (fun _ s2 h2 => ?_) fun _ _ q => q)))
  rw [assign_Subscript]
  refine wpAny_bind (wpAny_holding (wpAny_mono h2 (fun ov s3 h3 => ?_) fun _ _ q => q))
  refine wpAny_bind (wpAny_holding (wpAny_mono h3 (fun iv s4 h4 => ?_) fun _ _ q => q))
  refine wpAny_bind (wpAny_standAt ?_)
  refine wpAny_bind (wpAny_holding (wpAny_mono h4 (fun _ s5 h5 => ?_) fun _ _ q => q))
  exact wpAny_release (wpAny_pure h5)

/-! ## families of objects on the ledger -/
def Fam {κ β : Type} (P : β → Obj → Prop) (q : List (κ × Addr × β)) : Led := q.map fun e => (e.2.1, P e.2.2)
def adr {κ β : Type} (q : List (κ × Addr × β)) : List (κ × Addr) := q.map fun e => (e.1, e.2.1)
def RefTo : Heap → Value → Addr → Prop := fun _ v b => v = .ref b
theorem RefTo.mono : ∀ g g' v b, Sub g g' → RefTo g v b → RefTo g' v b := fun _ _ _ _ _ h => h
theorem In.freezeFam {κ β : Type} {P : β → Obj → Prop} : ∀ {q : List (κ × Addr × β)} {g : Heap}, In F g (Fam P q ++ led) m s → (∀ e ∈ q, F.s0.heap.objs.size ≤ e.2.1) → ∃ g', Sub g g' ∧ In F g' led m s ∧ ∀ e ∈ q, ∃ o, g'.get? e.2.1 = some o ∧ P e.2.2 o
  | [], g, H, _ => ⟨g, .refl _, H, fun _ h => nomatch h⟩
  | e :: q, g, H, ha => by
    obtain ⟨o, g1, hP, e1, hs1, H1⟩ := H.freeze (ha e (.head _))
    obtain ⟨g2, hs2, H2, h2⟩ := In.freezeFam (q := q) H1 fun e' he => ha e' (.tail _ he)
    refine ⟨g2, hs1.trans hs2, H2, fun e' he => ?_⟩
    rcases List.mem_cons.mp he with rfl | he
    · exact ⟨o, hs2 _ _ e1, hP⟩
    · exact h2 e' he
theorem EntR.ofA {β : Type} {xs : KVs} {q : List (It × Addr × β)} {R : Heap → Value → β → Prop} (h : EntR RefTo g xs (adr q)) (hq : ∀ e ∈ q, R g (.ref e.2.1) e.2.2) : EntR R g xs (q.map fun e => (e.1, e.2.2)) := by
  unfold EntR adr at *
  generalize hl : q.map (fun e => (e.1, e.2.1)) = l at h
  induction h generalizing q with
  | nil =>
    have : q = [] := by cases q with | nil => rfl | cons _ _ => cases hl
    subst this
    exact .nil
  | cons r _ ih =>
    cases q with
    | nil => cases hl
    | cons e q =>
      rw [List.map_cons] at hl
      injection hl with h1 h2
      subst h1
      exact .cons ⟨r.1, r.2.1, by have : _ = Value.ref e.2.1 := r.2.2; rw [this]; exact hq e (.head _)⟩ (ih (fun e' he => hq e' (.tail _ he)) h2)
theorem keys_adr {κ β : Type} (q : List (κ × Addr × β)) : (adr q).map (·.1) = q.map (·.1) := by unfold adr; rw [List.map_map]; rfl
/-- the place of a key -/
theorem fam_split {κ β : Type} {q : List (κ × Addr × β)} {j : κ} (h : j ∈ q.map (·.1)) : ∃ q1 b y q2, q = q1 ++ (j, b, y) :: q2 := by
  obtain ⟨e, he, rfl⟩ := List.mem_map.mp h
  obtain ⟨q1, q2, rfl⟩ := List.append_of_mem he
  exact ⟨q1, e.2.1, e.2.2, q2, rfl⟩
theorem Fam_split {κ β : Type} {P : β → Obj → Prop} {q1 q2 : List (κ × Addr × β)} {e : κ × Addr × β} : Fam P (q1 ++ e :: q2) = Fam P q1 ++ (e.2.1, P e.2.2) :: Fam P q2 := by unfold Fam; simp
theorem adr_split {κ β : Type} {q1 q2 : List (κ × Addr × β)} {j : κ} {b : Addr} {y y' : β} : adr (q1 ++ (j, b, y) :: q2) = adr (q1 ++ (j, b, y') :: q2) := by unfold adr; simp
theorem In.was1 {dx : Addr} (H : In F g led m s) (hm : F.mu = [dx]) {p : Addr × (Obj → Prop)} (hp : p ∈ led) (hne : p.1 ≠ dx) : F.s0.heap.objs.size ≤ p.1 := ((H.ent p hp).2.2.2).resolve_left (by rw [hm]; simpa using hne)
theorem In.ne2 {p : Addr × (Obj → Prop)} {l1 l2 : Led} {a : Addr} {P : Obj → Prop} (H : In F g (l1 ++ (a, P) :: l2) m s) (hp : p ∈ l1 ∨ p ∈ l2) : p.1 ≠ a := by
  have := H.nodup
  rw [List.map_append, List.map_cons, List.nodup_append] at this
  rcases hp with hp | hp
  · exact this.2.2 _ (List.mem_map_of_mem hp) _ (.head _)
  · intro e
    have h2 := this.2.1
    rw [List.nodup_cons] at h2
    exact h2.1 (List.mem_map.mpr ⟨p, hp, e⟩)
end
end Mine
end

section
open PySem PySem.W PySem.Calls PyProof.Rows
set_option maxRecDepth 100000
namespace Mine
theorem fillK13 (P : Params) : hd.heap_39 P = hd.heap_39 P → PySem.Challenge.rw_bn0044_01 = PySem.Challenge.rw_bn0044_01 := by
  k_fill
  exact fun _ => rfl

section
variable {prog : Program} {w : World} {mg mb : Str → Option Value} {A : Around} {E : Value → Shared → Prop} {s s' : Shared} {F : Fx} {g g' : Heap} {led : Led} {m : Str → Option Value} {env : Env}

theorem methD {pre post : Led} {x C fn dx : Addr} {n : Nat} {f : Str → Option Value} {name : Str} {pl : Sem Bool} {Q : Value × List Value → Shared → Prop} (H : In F g (pre ++ (dx, NsO n f) :: post) m s) (k : KB w mg mb g) (c : Cls w.params C) (hx : g.get? x = some (instObj C dx))
    (hm : Meth w.params C name fn) (hn : f name = none) (h : Q (.ref fn, [.ref x]) s) : wpAny (model prog w) A (getMethod (.ref x) name pl) Q E s := by
  obtain ⟨o, ho, no⟩ := H.get (a := dx) (P := NsO n f) (by simp)
  have hI : Inst s.heap x C f := ⟨dx, H.into _ _ hx, n, o, ho, no⟩
  obtain ⟨dx', _, o', I, n'⟩ := hI.at
  exact method_fn (H.K k) I (plainGet_of (c.pg name)).1 (plainGet_of (c.pg name)).2 hm.f hm.t (by show (lookIn name o').map _ = _; rw [n'.look, hn]; rfl) h

/-- self.productions(), self still being made -/
theorem prod0L {x dx : Addr} {n : Nat} {f : Str → Option Value} {pv : Value} {Q : Value → Shared → Prop} (r : Room A 3 40) (k : KB w mg mb g) (hs : Sub g s.heap) (hx : g.get? x = some (instObj 334 dx)) (hfp : f "_productions" = some pv) (hv : handedIn pv = true)
    (hd1 : ∃ o, s.heap.get? dx = some o ∧ NsO n f o) (hd2 : g.get? dx = none)
    (h : ∀ s' g', Rel [dx] s g s' g' → (∃ o, s'.heap.get? dx = some o ∧ NsO n f o) → Q pv s') : wpAny (model prog w) A (call (.ref 199) [.ref x]) Q E s := by
  refine enterC [("self", .ref x), ("lhs", .none), ("rhs", .none), ("empty", .bool false)] (led := [(dx, NsO n f)]) k hs r.lt (fun p hp => by cases List.mem_singleton.mp hp; exact ⟨hd1, hd2⟩) (by simp) (fun L s H => ?_) (hbind := binds_K (k.X.keeps hs) rfl (by k_is) rfl rfl rfl)
  refine wpAny_mono (E := no) ?_ (fun _ _ q => q) fun _ _ q => q.elim
  have H : In ⟨_, g, [dx], L⟩ g [(L + 1, CP (some .none)), (dx, NsO n f)] _ s := H
  obtain ⟨g1, hc, hs1, H⟩ := H.cellF (Nat.le_succ_of_le H.fresh)
  have k1 := k.mono hs1
  refine ex_if (isTrue_and (isT (nmC H hc (truthy_none ?_))))
  rw [if_neg Bool.false_ne_true, if_neg Bool.false_ne_true]
  refine ex_nil (ex_if (isTrue_and (isTrue_not (isT (nm H rfl (truthy_none ?_))))))
  rw [Bool.not_false, if_pos rfl]
  refine isTrue_and (isTrue_not (isT (nmC H hc (truthy_none ?_))))
  rw [Bool.not_false, if_pos rfl]
  refine isTrue_and_nil ?_
  rw [if_pos rfl]
  refine ex_if (isTrue_not (isT (nm H rfl (tr_b ?_))))
  rw [Bool.not_false, if_pos rfl]
  exact ex_ret (Attribute_any_ (nm H rfl (attrD (pre := []) H k1 (c334 _) (hs1 _ _ hx) (a334_productions _) hfp hv fun s H => h _ _ H.rel (H.get (.head _)))))

theorem a334_categories (P : Params) : findIn (hd.heap_39 P) (.ref 334) "_categories" = some none := by kernel_rfl
theorem a334_imc (P : Params) : findIn (hd.heap_39 P) (.ref 334) "_immediate_leftcorner_categories" = some none := by kernel_rfl
theorem a334_imw (P : Params) : findIn (hd.heap_39 P) (.ref 334) "_immediate_leftcorner_words" = some none := by kernel_rfl
theorem a334_lc (P : Params) : findIn (hd.heap_39 P) (.ref 334) "_leftcorners" = some none := by kernel_rfl
theorem a334_lcw (P : Params) : findIn (hd.heap_39 P) (.ref 334) "_leftcorner_words" = some none := by kernel_rfl
theorem M_productions (P : Params) : Meth P 334 "productions" 199 := ⟨by kernel_rfl, by kernel_rfl, by kernel_rfl⟩
theorem g_tc (P : Params) : nsIn (hd.heap_39 P) mainGlobals "transitive_closure" = some (some (.ref 345)) := by kernel_rfl
theorem kp345 (P : Params) : keepIn (hd.heap_39 P) (.ref 345) = true := by kernel_rfl
theorem cd185 (k : KB w mg mb g) : ∃ P, CodeHd g 185 P := ⟨_, _, _, _, _, _, _, _, _, _, k.X 185 _ (by k_is), rfl, rfl, rfl, rfl, rfl, rfl, rfl, rfl, by decide⟩

theorem KB.gt {h : Heap} (k : KB w mg mb g) (hs : Sub g h) : 403 < h.objs.size := by
  have := k.X 403
  cases hl : (hd.heap_39 w.params).lookup 403 with
  | some o => exact Heap.lt_size (hs _ _ (k.X 403 o hl))
  | none => exact absurd hl (by have : ((hd.heap_39 w.params).lookup 403).isSome = true := by kernel_rfl
                                intro q; rw [q] at this; cases this)
theorem perm_rot {α : Type} {a b c : α} {l r : List α} : (b :: c :: ((l ++ [a]) ++ r)).Perm (a :: b :: c :: (l ++ r)) := by
  rw [List.append_assoc]
  exact List.perm_middle (l₁ := b :: c :: l)
theorem Fam_snoc {κ β : Type} {P : β → Obj → Prop} {q : List (κ × Addr × β)} {e : κ × Addr × β} : Fam P (q ++ [e]) = Fam P q ++ [(e.2.1, P e.2.2)] := by unfold Fam; simp
theorem adr_snoc {κ β : Type} {q : List (κ × Addr × β)} {e : κ × Addr × β} : adr (q ++ [e]) = adr q ++ [(e.1, e.2.1)] := by unfold adr; simp
abbrev SetF (w : World) := Fam (κ := It) (β := List (Int × Value) × List It) fun y => SetL w y.1
abbrev WrdF (w : World) := Fam (κ := It) (β := List Str) fun y => WP w y
theorem SetF_snoc {q : List (It × Addr × (List (Int × Value) × List It))} {e : It × Addr × (List (Int × Value) × List It)} : SetF w (q ++ [e]) = SetF w q ++ [(e.2.1, SetL w e.2.2.1)] := Fam_snoc
theorem WrdF_snoc {q : List (It × Addr × List Str)} {e : It × Addr × List Str} : WrdF w (q ++ [e]) = WrdF w q ++ [(e.2.1, WP w e.2.2)] := Fam_snoc
/-- first items of a symbol's rows -/
def firstN (ps : List Row2) (c j : It) : Prop := ∃ p ∈ ps, p.1 = c ∧ p.2.head? = some j ∧ j.t = false
def firstW (ps : List Row2) (c : It) (x : Str) : Prop := ∃ p ∈ ps, p.1 = c ∧ p.2.head? = some ⟨true, x⟩

theorem firstN_skip {dn : List Row2} {p : Row2} {c j : It} (h : ∀ i, p.2.head? = some i → i.t = true ∨ p.1 ≠ c) : firstN (dn ++ [p]) c j ↔ firstN dn c j := by
  constructor
  · rintro ⟨q, hq, h1', h2', h3'⟩
    rcases List.mem_append.mp hq with hq | hq
    · exact ⟨q, hq, h1', h2', h3'⟩
    · cases List.mem_singleton.mp hq
      rcases h _ h2' with h | h
      · rw [h3'] at h; cases h
      · exact absurd h1' h
  · rintro ⟨q, hq, h'⟩
    exact ⟨q, List.mem_append_left _ hq, h'⟩
theorem firstN_add {dn : List Row2} {p : Row2} {i j : It} (hp : p.2.head? = some i) (hi : i.t = false) : firstN (dn ++ [p]) p.1 j ↔ firstN dn p.1 j ∨ j = i := by
  constructor
  · rintro ⟨q, hq, h1', h2', h3'⟩
    rcases List.mem_append.mp hq with hq | hq
    · exact .inl ⟨q, hq, h1', h2', h3'⟩
    · cases List.mem_singleton.mp hq
      rw [hp] at h2'
      exact .inr (Option.some.inj h2').symm
  · rintro (⟨q, hq, h'⟩ | rfl)
    · exact ⟨q, List.mem_append_left _ hq, h'⟩
    · exact ⟨p, by simp, rfl, hp, hi⟩
theorem firstW_skip {dn : List Row2} {p : Row2} {c : It} {y : Str} (h : ∀ i, p.2.head? = some i → i.t = false ∨ p.1 ≠ c) : firstW (dn ++ [p]) c y ↔ firstW dn c y := by
  constructor
  · rintro ⟨q, hq, h1', h2'⟩
    rcases List.mem_append.mp hq with hq | hq
    · exact ⟨q, hq, h1', h2'⟩
    · cases List.mem_singleton.mp hq
      rcases h _ h2' with h | h
      · cases h
      · exact absurd h1' h
  · rintro ⟨q, hq, h'⟩
    exact ⟨q, List.mem_append_left _ hq, h'⟩
theorem firstW_add {dn : List Row2} {p : Row2} {i : It} {y : Str} (hp : p.2.head? = some i) (hi : i.t = true) : firstW (dn ++ [p]) p.1 y ↔ firstW dn p.1 y ∨ y = i.n := by
  constructor
  · rintro ⟨q, hq, h1', h2'⟩
    rcases List.mem_append.mp hq with hq | hq
    · exact .inl ⟨q, hq, h1', h2'⟩
    · cases List.mem_singleton.mp hq
      rw [hp] at h2'
      have := Option.some.inj h2'
      exact .inr (by rw [this])
  · rintro (⟨q, hq, h'⟩ | rfl)
    · exact ⟨q, List.mem_append_left _ hq, h'⟩
    · exact ⟨p, by simp, rfl, by rw [hp]; cases i; cases hi; rfl⟩

def lcNames : List Str := ["_immediate_leftcorner_categories", "_immediate_leftcorner_words", "_leftcorners", "_leftcorner_words"]
/-- a set of words that rests -/
def WAt (w : World) (g : Heap) (v : Value) (ws : List Str) : Prop := ∃ b o, v = .ref b ∧ g.get? b = some o ∧ WP w ws o
theorem WAt.mono' : ∀ g g' v b, Sub g g' → WAt w g v b → WAt w g' v b := fun _ _ _ _ s h => let ⟨b, o, e, a, c⟩ := h; ⟨b, o, e, s _ _ a, c⟩
theorem EntR.mapV {β γ : Type} {R : Heap → Value → γ → Prop} {f : β → γ} {xs : KVs} {G : List (It × β)} (h : EntR (fun g v y => R g v (f y)) g xs G) : EntR R g xs (G.map fun p => (p.1, f p.2)) :=
  All2.mapR (R := fun (x : List K0 × Addr × Value) (p : It × γ) => x.1 = kN p.1 ∧ KeyAt g (.ref x.2.1) p.1 ∧ R g x.2.2 p.2) (f := fun p : It × β => (p.1, f p.2)) h
/-- set(), to hold words, at rest -/
theorem set0W {Q : Value → Shared → Prop} (H : In F g led m s) (h : ∀ v g' s', Sub g g' → WAt w g' v [] → In F g' led m s' → Q v s') : wpAny (model prog w) A (call (.type "set") []) Q E s := by
  refine call_set_0 fun ledb => ?_
  have hS := H.was (Nat.le_refl s.heap.objs.size)
  have H1 := H.new { cls := .type "set", dict := none, data := .set #[] 0 (.fresh 0 0 ledb) } rfl (WP w []) (by rw [fresh_eq]; exact ⟨[], emptySet _ 0 0 true 0, List.nodup_nil, [], .refl _, .nil⟩)
  obtain ⟨o, g', hP, e, hs, H2⟩ := H1.freeze hS
  exact h _ g' _ hs ⟨_, o, rfl, e, hP⟩ H2
theorem sIterA {js : List It} {v : Value} {Q : Value → Shared → Prop} (H : In F g led m s) (hv : SetAt prog w g v js)
    (h : ∀ I (St : List It → Obj → Prop) is g' s', Sub g g' → is.Perm js → Src prog w g' (KeyAt g') I St → In F g' ((I, St is) :: led) m s' → Q (.ref I) s') : wpAny (model prog w) A (pyIter v) Q E s :=
  sIter H hv fun I St vs is g' s' hs hp hA K H' => h I _ is g' s' hs hp K.map (H'.sharp fun o _ p => ⟨vs, hA, p⟩)
theorem getWrd {v : Value} {G : List (It × List Str)} {j : It} {x : Addr} {dflt : Value} {P : Str → Prop} {Q : Value → Shared → Prop} (hu : A.units + 1 < cLine) (H : In F g led m s) (hv : DictR prog w (WAt w) g v G) (hk : KeyAt g (.ref x) j) (hd : WAt w g dflt [])
    (hin : ∀ ws, (j, ws) ∈ G → ∀ y, y ∈ ws ↔ P y) (hout : j ∉ G.map (·.1) → ∀ y, ¬ P y) (h : ∀ u ws s', In F g led m s' → WAt w g u ws → (∀ y, y ∈ ws ↔ P y) → Q u s') : wpAny (model prog w) A (call (.builtin "dict.get") [v, .ref x, dflt]) Q E s :=
  getR hu H hv hk (fun hn s' H' => h _ [] s' H' hd fun y => ⟨fun q => (nomatch q), fun q => absurd q (hout hn y)⟩) fun ws u s' hm hR H' => h u ws s' H' hR (hin ws hm)
/-- d[k], d at rest -/
theorem ixR {β : Type} {R : Heap → Value → β → Prop} {value slice : PySem.Expr} {v : Value} {G : List (It × β)} {j : It} {y : β} {a : Addr} {Q : Value → Shared → Prop} (hu : A.units + 1 < cLine) (H : In F g led m s) (hv : DictR prog w R g v G) (hk : KeyAt g (.ref a) j) (hm : (j, y) ∈ G)
    (h : ∀ u s', In F g led m s' → R g u y → Q u s') (hs : ∀ d, subscripted slice false (.ref d) (.ref a) = operate [.ref d, .ref a] (getItem (.ref d) (.ref a)) := by intro _; with_unfolding_all rfl) :
    wpAny (model prog w) A (subscriptTail value slice v (.ref a)) Q E s := by
  obtain ⟨hn, d, o, xs, rfl, hd, hod, hD, hE⟩ := hv
  obtain ⟨k', u, hat, hR⟩ := hE.some hn hm
  exact kba_turn (value' := nmX) (fun _ => rfl) (ixD hu H hk.isg (hD.at (H.into _ _ hod) (hE.keys.mono H.into)) hat (fun s' H' => h u s' H' hR) (hs d) (fun _ => rfl))
/-- what the loop over the productions keeps -/
def JProd (prog : Program) (w : World) (D : Addr × (Obj → Prop)) (A1 A2 : List (It × Addr)) (ps : List Row2) (x : Addr) (rest : List Row2) (g : Heap) (led : Led) (m : Str → Option Value) : Prop :=
  ∃ (r1 : List (It × Addr × (List (Int × Value) × List It))) (r2 : List (It × Addr × List Str)) (dn : List Row2), led = (WrdF w r2 ++ SetF w r1) ++ [D] ∧ adr r1 = A1 ∧ adr r2 = A2 ∧ ps = dn ++ rest ∧
    (∀ e ∈ r1, EltN prog w g e.2.2.1 e.2.2.2 ∧ ∀ j, j ∈ e.2.2.2 ↔ j = e.1 ∨ firstN dn e.1 j) ∧ (∀ e ∈ r2, e.2.2.Nodup ∧ ∀ y, y ∈ e.2.2 ↔ firstW dn e.1 y) ∧ m "self" = some (.ref x)

theorem nodup_mid {β : Type} {l1 l2 : List (It × Addr × β)} {c : It} {b : Addr} {y : β} (h : ((adr (l1 ++ (c, b, y) :: l2)).map (·.1)).Nodup) {e : It × Addr × β} (he : e ∈ l1 ∨ e ∈ l2) : e.1 ≠ c := by
  rw [keys_adr, List.map_append, List.map_cons, List.nodup_append] at h
  rcases he with he | he
  · exact h.2.2 _ (List.mem_map_of_mem he) _ (.head _)
  · intro q
    have h2 := h.2.1
    rw [List.nodup_cons] at h2
    exact h2.1 (List.mem_map.mpr ⟨e, he, q⟩)

/-- self._calculate_leftcorners(), the first part: the dicts are made -/
theorem lcs_spec {x dx : Addr} {n : Nat} {f : Str → Option Value} {cv pv : Value} {cats : List It} {ps : List Row2} {Q : Value → Shared → Prop} (r : Room A 4 100) (k : KB w mg mb g) (hs : Sub g s.heap) (hx : g.get? x = some (instObj 334 dx))
    (hfc : f "_categories" = some cv) (hfp : f "_productions" = some pv) (hfn : f "productions" = none) (hcv : Lst KeyAt g cv cats) (hpv : Lst ProdAt g pv ps) (hcn : cats.Nodup) (hcl : cats.length ≤ 4) (hn : n ≤ 900) {U : List It} {Wd : List Str} (hU : U.length ≤ 4) (hUt : ∀ i ∈ U, i.t = false) (hW : Wd.length ≤ 2) (hcU : ∀ c ∈ cats, c ∈ U) (hpc : ∀ p ∈ ps, p.1 ∈ cats) (hpU : ∀ p ∈ ps, ∀ i ∈ p.2, (i.t = false → i ∈ U) ∧ (i.t = true → i.n ∈ Wd)) (hz2 : ∀ p ∈ ps, p.2.length ≤ 1000)
    (hd1 : ∃ o, s.heap.get? dx = some o ∧ NsO n f o) (hd2 : g.get? dx = none)
    (h : ∀ s' g' f' G C W v3 v4, Rel [dx] s g s' g' → (∃ o, s'.heap.get? dx = some o ∧ NsO (n + 4) f' o) → g'.get? dx = none →
      (∀ j k, Step G j k ↔ j ∈ cats ∧ (k = j ∨ firstN ps j k)) → DictR prog w (SetAt prog w) g' v3 C → C.map (·.1) = cats → (∀ p ∈ C, ∀ j, j ∈ p.2 ↔ Reach G p.1 j) →
      DictR prog w (WAt w) g' v4 W → W.map (·.1) = cats → (∀ p ∈ W, ∀ y, y ∈ p.2 ↔ ∃ j, Reach G p.1 j ∧ firstW ps j y) →
      handedIn v3 = true → handedIn v4 = true → f' "_leftcorners" = some v3 → f' "_leftcorner_words" = some v4 → (∀ y : Str, y ∉ lcNames → f' y = f y) → Q .none s') : wpAny (model prog w) A (call (.ref 186) [.ref x]) Q E s := by
  have hgt := k.gt hs
  obtain ⟨cP, hcd⟩ := cd185 k
  obtain ⟨cl, cvs, rfl, hcl1, hca⟩ := hcv
  refine enterL [("self", .ref x)] (led := [(dx, NsO n f)]) k hs r.lt (fun p hp => by cases List.mem_singleton.mp hp; exact ⟨hd1, hd2⟩) (by simp) ?_
  intro L s H
  have r' : ∀ env, Room (A.deeper env) 3 97 := fun env => r.deeper
  refine ex_setA (dcE (cl := []) rfl (Attribute_any_ (nm H rfl (attrD (pre := []) H k (c334 _) hx (a334_categories _) hfc rfl fun s H => itListA H hcl1 hca fun I St s S H => ?_))))
  refine dcV (fun rest xd g1 led1 => ∃ q : List (It × Addr × (List (Int × Value) × List It)), led1 = SetF w q ++ [(dx, NsO n f)] ∧ EntR RefTo g1 xd (adr q) ∧ cats = q.map (·.1) ++ rest ∧ (∀ e ∈ q, EltN prog w g1 e.2.2.1 e.2.2.2 ∧ e.2.2.2 = [e.1])) S (r' _).ult r.hh (.refl _) H ⟨[], rfl, .nil, rfl, fun _ h => nomatch h⟩ (by omega) ?_ ?_
  · rintro F' c rest xd acc g1 led1 m1 s v hg hR H ⟨q, rfl, hE, hcc, hq⟩ hz
    obtain ⟨ca, _, _, rfl, _⟩ := id hR
    have hk1 := hR.mono hg
    refine asN H fun s H => nm H (if_pos rfl) ?_
    refine setD1 (c := 185) (P := cP) (r' _).ult H (CodeHd.keeps hcd hg) rfl fun fa s H => nm H (if_pos rfl) ⟨_, _, _, ca, kN c, rfl, H, key_keeps hk1.isg H.into, fun s H => ?_⟩
    have hcq : c ∉ (adr q).map (·.1) := by
      rw [keys_adr]
      rw [hcc, List.nodup_append] at hcn
      exact fun hm => hcn.2.2 _ hm _ (.head _) rfl
    refine ⟨ca, kN c, g1, SetF w (q ++ [(c, fa, ([((HK prog w).hash (kN c), .ref ca)], [c]))]) ++ [(dx, NsO n f)], _, rfl, hg, hE.keys, hk1.isg, H.perm ?_, _, rfl, ?_, by rw [hcc, List.map_append, List.append_assoc]; rfl, fun e he => ?_⟩
    · rw [SetF_snoc]; exact perm_rot
    · rw [adr_snoc]; exact hE.new hcq hk1 rfl
    · rcases List.mem_append.mp he with he | he
      · exact hq e he
      · cases List.mem_singleton.mp he; exact ⟨.one hk1, rfl⟩
  · intro d1 xd1 g1 led1 s hg1 ⟨q1, e1, hE1, hcc1, hq1⟩ H hdd1
    subst e1
    rw [List.append_nil] at hcc1
    have k1 := k.mono hg1
    refine nm H rfl (setA (pre := (d1, DP prog w xd1) :: SetF w q1) H k1 (c334 _) (H.into _ _ (hg1 _ _ hx)) (by kernel_rfl) (fun s H => ?_) (by omega))
    -- the words
    have hcl1' := isList_mono hcl1 hg1
    have hca1 := hca.imp fun _ _ => KeyAt.mono' _ _ _ _ hg1
    refine ex_setA (dcE (cl := []) rfl (Attribute_any_ (nm H rfl (attrD (pre := (d1, DP prog w xd1) :: SetF w q1) H k1 (c334 _) (hg1 _ _ hx) (a334_categories _) ((if_neg (by decide)).trans hfc) rfl fun s H => itListA H hcl1' hca1 fun I St s S H => ?_))))
    refine dcV (fun rest xd g2 led2 => ∃ q : List (It × Addr × List Str), led2 = WrdF w q ++ ((d1, DP prog w xd1) :: (SetF w q1 ++ [(dx, NsO (n + 1) fun y => if y = "_immediate_leftcorner_categories" then some (.ref d1) else f y)])) ∧ EntR RefTo g2 xd (adr q) ∧ cats = q.map (·.1) ++ rest ∧ (∀ e ∈ q, e.2.2 = [])) S (r' _).ult r.hh (.refl _) H ⟨[], rfl, .nil, rfl, fun _ h => nomatch h⟩ (by omega) ?_ ?_
    · rintro F' c rest xd acc g2 led2 m1 s v hg hR H ⟨q, rfl, hE, hcc, hq⟩ hz
      obtain ⟨ca, _, _, rfl, _⟩ := id hR
      have hk2 := hR.mono hg
      have k2 := k1.mono hg
      refine asN H fun s H => nm H (if_pos rfl) ?_
      refine Call_ (nmB H k2 g_set (e := n_set _) (callT0 (call_set_0 fun ledb => ?_)))
      have H := H.new { cls := .type "set", dict := none, data := .set #[] 0 (.fresh 0 0 ledb) } rfl (WP w []) (by rw [fresh_eq]; exact ⟨[], emptySet _ 0 0 true 0, List.nodup_nil, [], .refl _, .nil⟩)
      generalize s.heap.objs.size = fa at H
      have hcq : c ∉ (adr q).map (·.1) := by
        rw [keys_adr]
        rw [hcc, List.nodup_append] at hcn
        exact fun hm => hcn.2.2 _ hm _ (.head _) rfl
      refine ⟨ca, kN c, g2, WrdF w (q ++ [(c, fa, [])]) ++ _, _, rfl, hg, hE.keys, hk2.isg, H.perm ?_, _, rfl, ?_, by rw [hcc, List.map_append, List.append_assoc]; rfl, fun e he => ?_⟩
      · rw [WrdF_snoc]; exact perm_rot
      · rw [adr_snoc]; exact hE.new hcq hk2 rfl
      · rcases List.mem_append.mp he with he | he
        · exact hq e he
        · cases List.mem_singleton.mp he; rfl
    · intro d2 xd2 g2 led2 s hg2 ⟨q2, e2, hE2, hcc2, hq2⟩ H hdd2
      subst e2
      rw [List.append_nil] at hcc2
      have k2 := k1.mono hg2
      have hxx := hg2 _ _ (hg1 _ _ hx)
      refine nm H rfl (setA (pre := (d2, DP prog w xd2) :: (WrdF w q2 ++ (d1, DP prog w xd1) :: SetF w q1)) (by simpa using H) k2 (c334 _) (H.into _ _ hxx) (by kernel_rfl) (fun s H => ?_) (by omega))
      have ge : ∀ {p : Addr × (Obj → Prop)} {l1 : Led} {P : Obj → Prop} {F : Fx} {g : Heap} {m : Str → Option Value} {s : Shared}, F.mu = [dx] → In F g (l1 ++ [(dx, P)]) m s → p ∈ l1 → F.s0.heap.objs.size ≤ p.1 := fun hm H hp => H.was1 hm (List.mem_append_left _ hp) (H.ne2 (.inl hp))
      -- the two dicts come to rest
      have hd2s := ge (p := (d2, DP prog w xd2)) rfl H (.head _)
      have hd1s := ge (p := (d1, DP prog w xd1)) rfl H (by simp)
      obtain ⟨od2, g3, hD2, hod2, hs3, H⟩ := In.freeze (led := WrdF w q2 ++ (d1, DP prog w xd1) :: SetF w q1 ++ [(dx, _)]) H hd2s
      obtain ⟨od1, g4, hD1, hod1, hs4, H⟩ := In.freeze (led := WrdF w q2 ++ (SetF w q1 ++ [(dx, _)])) (H.perm (by rw [List.append_assoc, List.cons_append]; exact List.perm_middle.symm)) hd1s
      generalize hf2 : (fun y : Str => if y = "_immediate_leftcorner_words" then some (Value.ref d2) else (fun y : Str => if y = "_immediate_leftcorner_categories" then some (Value.ref d1) else f y) y) = f2 at H
      have hs14 := (hg2.trans hs3).trans hs4
      have k4 := k1.mono hs14
      have hx4 := hs14 _ _ (hg1 _ _ hx)
      have hfp2 : f2 "_productions" = some pv := by rw [← hf2]; exact ((if_neg (by decide)).trans (if_neg (by decide))).trans hfp
      have hfn2 : f2 "productions" = none := by rw [← hf2]; exact ((if_neg (by decide)).trans (if_neg (by decide))).trans hfn
      have hfd1 : f2 "_immediate_leftcorner_categories" = some (.ref d1) := by rw [← hf2]; exact (if_neg (by decide)).trans (if_pos rfl)
      have hfd2 : f2 "_immediate_leftcorner_words" = some (.ref d2) := by rw [← hf2]; exact if_pos rfl
      obtain ⟨pl, pvs, rfl, hpl, hpa⟩ := hpv
      rw [← List.append_assoc] at H
      refine ex_for (MethodCall_ (nm H rfl (methD H k4 (c334 _) hx4 (M_productions _) hfn2 (callW0 (H.K k4) (by kernel_rfl) ?_))))
      refine prod0L ((r' _).le (by decide) (by decide)) k4 H.into hx4 hfp2 rfl (H.get (List.mem_append_right _ (.head _))) (H.ne (P := NsO (n + 1 + 1) f2) (List.mem_append_right _ (.head _))) fun s g5 R5 hdx5 => ?_
      have H := H.callT R5 (fun a ha => by cases List.mem_singleton.mp ha; exact List.mem_map_of_mem (a := (dx, NsO (n + 1 + 1) f2)) (List.mem_append_right _ (.head _))) fun p hp hmu => by
        have := led_inj _ H.nodup p hp (dx, NsO (n + 1 + 1) f2) (List.mem_append_right _ (.head _)) (List.mem_singleton.mp hmu)
        subst this; exact hdx5
      have hs45 := hs14.trans R5.sub
      have S05 := hg1.trans hs45
      refine itListA H (isList_mono hpl S05) (hpa.imp fun _ _ => ProdAt.mono' _ _ _ _ S05) fun I St s S H => ?_
      have hE1' : ∀ {g' : Heap}, Sub g4 g' → EntR RefTo g' xd1 (adr q1) := fun hs => hE1.mono RefTo.mono (hs14.trans hs)
      have hE2' : ∀ {g' : Heap}, Sub g4 g' → EntR RefTo g' xd2 (adr q2) := fun hs => hE2.mono RefTo.mono ((hs3.trans hs4).trans hs)
      have hk1n : ((adr q1).map (·.1)).Nodup := by rw [keys_adr, ← hcc1]; exact hcn
      have hk2n : ((adr q2).map (·.1)).Nodup := by rw [keys_adr, ← hcc2]; exact hcn
      have hd21 : d2 ≠ 1 := fun e => by rw [e] at hd2s; exact absurd (Nat.lt_of_lt_of_le hgt hd2s) (by show ¬ 403 < 1; decide)
      have hd11 : d1 ≠ 1 := fun e => by rw [e] at hd1s; exact absurd (Nat.lt_of_lt_of_le hgt hd1s) (by show ¬ 403 < 1; decide)
      refine forL (JProd prog w (dx, NsO (n + 1 + 1) f2) (adr q1) (adr q2) ps x) S r.hh (.refl _) H
        ⟨q1, q2, [], rfl, rfl, rfl, rfl, fun e he => ⟨(hq1 e he).1.mono hs45, fun j => ?_⟩, fun e he => ⟨by rw [hq2 e he]; exact List.nodup_nil, fun y => ?_⟩, rfl⟩ ?_ ?_
      · rw [(hq1 e he).2, List.mem_singleton]
        exact ⟨.inl, fun q => q.elim id fun ⟨p, hp, _⟩ => nomatch hp⟩
      · rw [hq2 e he]
        exact ⟨fun q => (nomatch q), fun ⟨p, hp, _⟩ => nomatch hp⟩
      · rintro p rest g6 led6 m6 s pv hg6 hpp H ⟨r1, r2, dn, rfl, ha1, ha2, hdn, hr1, hr2, hms⟩
        have hpm : p ∈ ps := by rw [hdn]; exact List.mem_append_right _ (.head _)
        have hpp6 := hpp.mono hg6
        obtain ⟨px, plv, T, vs2, rfl, hpI, h1, h2, h3⟩ := id hpp6
        have k6 := k4.mono (R5.sub.trans hg6)
        have hpz : vs2.length ≤ 1000 := by rw [h3.length]; exact hz2 p hpm
        refine asN H fun s H => ex_if (tcmp1 (Call_ (nmB H k6 g_len (e := n_len _) (callB (a1 (nm H (if_pos rfl) (lenP ((r' _).le (by decide) (by decide)) H k6 hpI h2 hpz fun t g7 s hs7 H => cst_i H fun t2 s H => P.gt_int (tr_b ?_))))))))
        have k7 := k6.mono hs7
        have hg7 := hg6.trans hs7
        have hpp7 := hpp6.mono hs7
        cases hp2 : p.2 with
        | nil =>
          have hv0 : vs2 = [] := by rw [hp2] at h3; cases h3; rfl
          subst hv0
          rw [show decide (((List.length ([] : List Value) : Nat) : Int) > 0) = false by decide]
          simp only [Bool.false_eq_true, if_false]
          exact ex_nil (ex_nil ⟨g7, _, _, hg7, H, r1, r2, dn ++ [p], rfl, ha1, ha2, by rw [hdn]; simp, fun e he => ⟨(hr1 e he).1.mono hs7, fun j => by rw [firstN_skip (fun i hi => by rw [hp2] at hi; cases hi)]; exact (hr1 e he).2 j⟩,
            fun e he => ⟨(hr2 e he).1, fun y => by rw [firstW_skip (fun i hi => by rw [hp2] at hi; cases hi)]; exact (hr2 e he).2 y⟩, (if_neg (by decide)).trans hms⟩)
        | cons i is =>
          obtain ⟨y, ys, rfl, hyi⟩ : ∃ y ys, vs2 = y :: ys ∧ ItemAt g6 y i := by rw [hp2] at h3; cases h3 with | cons a b => exact ⟨_, _, rfl, a⟩
          rw [show decide ((((y :: ys).length : Nat) : Int) > 0) = true by simp]
          simp only [if_true]
          refine ex_setTup r.hh (aC (Call_ (nmG H k7 (g_key _) (callW (kp91 _) (a1 (MethodCall_ (nm H (if_pos rfl) (meth H k7 (c155 _) (hpI.mono hs7) (M_lhs _) rfl (callW0 (H.K k7) (M_lhs _).k ?_)))))))))
          refine lhs_spec ((r' _).le (by decide) (by decide)) k7 H.into (hpI.mono hs7) h1.handed fun s g8 R8 => ?_
          have H := H.call0 R8
          have k8 := k7.mono R8.sub
          refine ⟨H.K k8, key_spec ((r' _).le (by decide) (by decide)) k8 H.into (h1.mono (hs7.trans R8.sub)) fun kv s g9 R9 hkv => ?_⟩
          have H := H.call0 R9
          have k9 := k8.mono R9.sub
          have hs69 := (hs7.trans R8.sub).trans R9.sub
          refine a1 (Subscript_ (MethodCall_ (nm H (if_pos rfl) (meth H k9 (c155 _) (hpI.mono hs69) (M_rhs _) rfl (callW0 (H.K k9) (M_rhs _).k ?_)))))
          refine rhs_spec ((r' _).le (by decide) (by decide)) k9 H.into (hpI.mono hs69) fun s ga Ra => cst_i (H.call0 Ra) fun u s H => ?_
          have ka := k9.mono Ra.sub
          have hs6a := hs69.trans Ra.sub
          refine ixH H (isTup_mono h2 hs6a) ⟨_, ga, _, _, kv, y, rfl, H, rfl, fun gb s hsb H => ?_⟩
          have kb := ka.mono hsb
          have hs6b := hs6a.trans hsb
          have hyb := hyi.mono hs6b
          have hkb := (hkv.mono Ra.sub).mono hsb
          obtain ⟨ca, _, _, rfl, _⟩ := id hkb
          have him : i ∈ p.2 := by rw [hp2]; exact .head _
          have hg4b : Sub g4 gb := (R5.sub.trans hg6).trans hs6b
          refine ex_if (isT (Call_ (nmG H kb (g_is_nonterminal _) (callW (kp77 _) (a1 (nm H ((if_neg (by decide)).trans (if_pos rfl)) ⟨H.K kb, ?_⟩))))))
          refine isN_spec ((r' _).le (by decide) (by decide)) kb H.into hyb fun s gc Rc => ?_
          have H := H.call0 Rc
          have kc := kb.mono Rc.sub
          have hg4c := hg4b.trans Rc.sub
          have hms' : (if (Str.ofString "self") = (Str.ofString "cat") then some (Value.ref ca) else if (Str.ofString "self") = (Str.ofString "left") then some y else if (Str.ofString "self") = (Str.ofString "prod") then some (Value.ref px) else m6 (Str.ofString "self")) = some (.ref x) := ((if_neg (by decide)).trans ((if_neg (by decide)).trans (if_neg (by decide)))).trans hms
          refine tr_b ?_
          have hx_c := hg4c _ _ hx4
          have hpc' := hpc p hpm
          cases hit : i.t with
          | false =>
            simp only [Bool.not_false, if_true]
            have hkeys : p.1 ∈ r1.map (·.1) := by rw [← keys_adr, ha1, keys_adr, ← hcc1]; exact hpc'
            obtain ⟨l1, bb, ⟨cs, js⟩, l2, rfl⟩ := fam_split hkeys
            obtain ⟨ka', vb, hat, hvb⟩ := (hE1' hg4c).some hk1n (j := p.1) (y := bb) (by rw [← ha1]; unfold adr; simp)
            have hvb' : vb = .ref bb := hvb
            subst hvb'
            rw [show SetF w (l1 ++ (p.1, bb, cs, js) :: l2) = SetF w l1 ++ (bb, SetL w cs) :: SetF w l2 from Fam_split] at H
            have eL : ((I, St rest) :: (WrdF w r2 ++ (SetF w l1 ++ (bb, SetL w cs) :: SetF w l2) ++ [(dx, NsO (n + 1 + 1) f2)])) = ((I, St rest) :: (WrdF w r2 ++ SetF w l1)) ++ (bb, SetL w cs) :: (SetF w l2 ++ [(dx, NsO (n + 1 + 1) f2)]) := by simp
            have eD : ((I, St rest) :: (WrdF w r2 ++ SetF w l1)) ++ (bb, SetL w cs) :: (SetF w l2 ++ [(dx, NsO (n + 1 + 1) f2)]) = ((I, St rest) :: (WrdF w r2 ++ SetF w l1) ++ (bb, SetL w cs) :: SetF w l2) ++ (dx, NsO (n + 1 + 1) f2) :: [] := by simp
            rw [eL] at H
            have he1 := hr1 _ (List.mem_append_right l1 (.head l2))
            have hEl := ((he1.1.mono hs6b).mono Rc.sub)
            refine ex_expr (MethodCall_ (Subscript_ (Attribute_any_ (nm H hms' (attrD (by rw [eD] at H; exact H) kc (c334 _) hx_c (a334_imc _) hfd1 rfl fun s H => nm H (if_pos rfl) ?_)))))
            have hm1 := hD1.at (H.into _ _ (hg4c _ _ hod1)) ((hE1' hg4c).keys.mono H.into)
            refine kba_turn (value' := nmX) (fun _ => rfl) (ixD ((r' _).u (by decide)) H ((hkb.mono Rc.sub).isg) hm1 hat fun s H => ?_)
            rw [← eD] at H
            refine mAdd (pre := (I, St rest) :: (WrdF w r2 ++ SetF w l1)) H (callB (a1 (Call_ (nmG H kc (g_key _) (callW (kp91 _) (a1 (nm H ((if_neg (by decide)).trans (if_pos rfl)) ⟨H.K kc, ?_⟩)))))))
            refine key_spec ((r' _).le (by decide) (by decide)) kc H.into (hyb.mono Rc.sub) fun kv2 s gd Rd hkd => ?_
            have H := H.call0 Rd
            obtain ⟨ka2, _, _, rfl, _⟩ := id hkd
            have hs6d := (hs6b.trans Rc.sub).trans Rd.sub
            have hhead : p.2.head? = some i := by rw [hp2]; rfl
            have nmid := fun {e} => nodup_mid (l1 := l1) (l2 := l2) (c := p.1) (b := bb) (y := (cs, js)) (by rw [ha1]; exact hk1n) (e := e)
            have fin : ∀ cs' js', EltN prog w gd cs' js' → (∀ j, j ∈ js' ↔ j = p.1 ∨ (firstN dn p.1 j ∨ j = i)) → JProd prog w (dx, NsO (n + 1 + 1) f2) (adr q1) (adr q2) ps x rest gd ((WrdF w r2 ++ SetF w (l1 ++ (p.1, bb, cs', js') :: l2)) ++ [(dx, NsO (n + 1 + 1) f2)]) (fun z => if z = Str.ofString "cat" then some (.ref ca) else if z = Str.ofString "left" then some y else if z = Str.ofString "prod" then some (.ref px) else m6 z) := fun cs' js' hE' hj' =>
              ⟨_, r2, dn ++ [p], rfl, adr_split.trans ha1, ha2, by rw [hdn]; simp, fun e he => by
                rcases List.mem_append.mp he with he | he
                · have := hr1 e (List.mem_append_left _ he)
                  exact ⟨this.1.mono hs6d, fun j => (this.2 j).trans (or_congr Iff.rfl (firstN_skip fun _ _ => .inr fun q => nmid (.inl he) q.symm).symm)⟩
                · rcases List.mem_cons.mp he with rfl | he
                  · exact ⟨hE', fun j => (hj' j).trans (or_congr Iff.rfl (firstN_add hhead hit).symm)⟩
                  · have := hr1 e (List.mem_append_right _ (.tail _ he))
                    exact ⟨this.1.mono hs6d, fun j => (this.2 j).trans (or_congr Iff.rfl (firstN_skip fun _ _ => .inr fun q => nmid (.inr he) q.symm).symm)⟩,
               fun e he => ⟨(hr2 e he).1, fun y' => ((hr2 e he).2 y').trans (firstW_skip fun i' hi' => .inl (by rw [hhead] at hi'; cases hi'; exact hit)).symm⟩, hms'⟩
            have back : ∀ cs' js', ((I, St rest) :: (WrdF w r2 ++ SetF w l1)) ++ (bb, SetL w cs') :: (SetF w l2 ++ [(dx, NsO (n + 1 + 1) f2)]) = (I, St rest) :: ((WrdF w r2 ++ SetF w (l1 ++ (p.1, bb, cs', js') :: l2)) ++ [(dx, NsO (n + 1 + 1) f2)]) := fun cs' js' => by
              rw [show SetF w (l1 ++ (p.1, bb, cs', js') :: l2) = SetF w l1 ++ (bb, SetL w cs') :: SetF w l2 from Fam_split]; simp
            have hjsU : ∀ j ∈ js, j ∈ U := fun j hj => by
              rcases (he1.2 j).mp hj with rfl | ⟨q, hq, _, h2', h3'⟩
              · exact hcU _ hpc'
              · exact ((hpU q (by rw [hdn]; exact List.mem_append_left _ hq)) j (List.mem_of_mem_head? h2')).1 h3'
            refine sAdd (pre := (I, St rest) :: (WrdF w r2 ++ SetF w l1)) ((r' _).u (by decide)) H (hEl.mono Rd.sub) hkd (fun hn => ?_) (fun hj s H => ⟨rfl, ?_⟩) fun hj cs' s hEl' H => ⟨rfl, ?_⟩
            · rw [hEl.len]
              have : (i :: js).length ≤ 4 := Nat.le_trans (nodup_le (List.nodup_cons.mpr ⟨hn, hEl.1⟩) fun j hj => by
                rcases List.mem_cons.mp hj with rfl | hj
                · exact ((hpU p hpm) j him).1 hit
                · exact hjsU j hj) hU
              rw [List.length_cons] at this
              show js.length ≤ 3
              have h5 : js.length + 1 ≤ 4 := this
              omega
            · rw [back cs js] at H
              exact ex_nil (ex_nil (ex_nil ⟨gd, _, _, hg6.trans hs6d, H, fin cs js (hEl.mono Rd.sub) fun j => ⟨fun q => ((he1.2 j).mp q).imp id .inl, fun q => q.elim (fun e => (he1.2 j).mpr (.inl e)) fun q => q.elim (fun e => (he1.2 j).mpr (.inr e)) fun e => e ▸ hj⟩⟩))
            · rw [back cs' (i :: js)] at H
              exact ex_nil (ex_nil (ex_nil ⟨gd, _, _, hg6.trans hs6d, H, fin cs' (i :: js) hEl' fun j => by
                rw [List.mem_cons, he1.2 j]
                exact ⟨fun q => q.elim (fun e => .inr (.inr e)) fun q => q.imp id .inl, fun q => q.elim (fun e => .inr (.inl e)) fun q => q.elim (fun e => .inr (.inr e)) .inl⟩⟩))
          | true =>
            simp only [Bool.not_true, Bool.false_eq_true, if_false]
            have hyw : ∃ tk, y = .str i.n tk := by cases hyi with | word nn tk => exact ⟨tk, rfl⟩ | sym => cases hit
            obtain ⟨tk, rfl⟩ := hyw
            have hkeys : p.1 ∈ r2.map (·.1) := by rw [← keys_adr, ha2, keys_adr, ← hcc2]; exact hpc'
            obtain ⟨l1, bb, ws, l2, rfl⟩ := fam_split hkeys
            obtain ⟨ka', vb, hat, hvb⟩ := (hE2' hg4c).some hk2n (j := p.1) (y := bb) (by rw [← ha2]; unfold adr; simp)
            have hvb' : vb = .ref bb := hvb
            subst hvb'
            rw [show WrdF w (l1 ++ (p.1, bb, ws) :: l2) = WrdF w l1 ++ (bb, WP w ws) :: WrdF w l2 from Fam_split] at H
            have eL : ((I, St rest) :: (WrdF w l1 ++ (bb, WP w ws) :: WrdF w l2 ++ SetF w r1 ++ [(dx, NsO (n + 1 + 1) f2)])) = ((I, St rest) :: WrdF w l1) ++ (bb, WP w ws) :: (WrdF w l2 ++ SetF w r1 ++ [(dx, NsO (n + 1 + 1) f2)]) := by simp
            have eD : ((I, St rest) :: WrdF w l1) ++ (bb, WP w ws) :: (WrdF w l2 ++ SetF w r1 ++ [(dx, NsO (n + 1 + 1) f2)]) = ((I, St rest) :: WrdF w l1 ++ (bb, WP w ws) :: (WrdF w l2 ++ SetF w r1)) ++ (dx, NsO (n + 1 + 1) f2) :: [] := by simp
            rw [eL] at H
            have he1 := hr2 _ (List.mem_append_right l1 (.head l2))
            refine ex_expr (MethodCall_ (Subscript_ (Attribute_any_ (nm H hms' (attrD (by rw [eD] at H; exact H) kc (c334 _) hx_c (a334_imw _) hfd2 rfl fun s H => nm H (if_pos rfl) ?_)))))
            have hm2 := hD2.at (H.into _ _ (hg4c _ _ (hs4 _ _ hod2))) ((hE2' hg4c).keys.mono H.into)
            refine kba_turn (value' := nmX) (fun _ => rfl) (ixD ((r' _).u (by decide)) H ((hkb.mono Rc.sub).isg) hm2 hat fun s H => ?_)
            rw [← eD] at H
            refine mAddW (pre := (I, St rest) :: WrdF w l1) H (callB (a1 (nm H ((if_neg (by decide)).trans (if_pos rfl)) ?_)))
            have hhead : p.2.head? = some i := by rw [hp2]; rfl
            have nmid := fun {e} => nodup_mid (l1 := l1) (l2 := l2) (c := p.1) (b := bb) (y := ws) (by rw [ha2]; exact hk2n) (e := e)
            have hs6c := hs6b.trans Rc.sub
            have fin : ∀ ws', ws'.Nodup → (∀ z, z ∈ ws' ↔ firstW dn p.1 z ∨ z = i.n) → JProd prog w (dx, NsO (n + 1 + 1) f2) (adr q1) (adr q2) ps x rest gc ((WrdF w (l1 ++ (p.1, bb, ws') :: l2) ++ SetF w r1) ++ [(dx, NsO (n + 1 + 1) f2)]) (fun z => if z = Str.ofString "cat" then some (.ref ca) else if z = Str.ofString "left" then some (.str i.n tk) else if z = Str.ofString "prod" then some (.ref px) else m6 z) := fun ws' hN' hw' =>
              ⟨r1, _, dn ++ [p], rfl, ha1, adr_split.trans ha2, by rw [hdn]; simp, fun e he => ⟨(hr1 e he).1.mono hs6c, fun j => ((hr1 e he).2 j).trans (or_congr Iff.rfl (firstN_skip fun i' hi' => .inl (by rw [hhead] at hi'; cases hi'; exact hit)).symm)⟩, fun e he => by
                rcases List.mem_append.mp he with he | he
                · have := hr2 e (List.mem_append_left _ he)
                  exact ⟨this.1, fun z => (this.2 z).trans (firstW_skip fun _ _ => .inr fun q => nmid (.inl he) q.symm).symm⟩
                · rcases List.mem_cons.mp he with rfl | he
                  · exact ⟨hN', fun z => (hw' z).trans (firstW_add hhead hit).symm⟩
                  · have := hr2 e (List.mem_append_right _ (.tail _ he))
                    exact ⟨this.1, fun z => (this.2 z).trans (firstW_skip fun _ _ => .inr fun q => nmid (.inr he) q.symm).symm⟩, hms'⟩
            have back : ∀ ws', ((I, St rest) :: WrdF w l1) ++ (bb, WP w ws') :: (WrdF w l2 ++ SetF w r1 ++ [(dx, NsO (n + 1 + 1) f2)]) = (I, St rest) :: ((WrdF w (l1 ++ (p.1, bb, ws') :: l2) ++ SetF w r1) ++ [(dx, NsO (n + 1 + 1) f2)]) := fun ws' => by
              rw [show WrdF w (l1 ++ (p.1, bb, ws') :: l2) = WrdF w l1 ++ (bb, WP w ws') :: WrdF w l2 from Fam_split]; simp
            have hwsW : ∀ z ∈ ws, z ∈ Wd := fun z hz => by
              obtain ⟨q, hq, _, h2'⟩ := (he1.2 z).mp hz
              exact ((hpU q (by rw [hdn]; exact List.mem_append_left _ hq)) _ (List.mem_of_mem_head? h2')).2 rfl
            have hwl : ws.length ≤ 2 := Nat.le_trans (nodup_le he1.1 hwsW) hW
            refine wAdd (pre := (I, St rest) :: WrdF w l1) H (by omega) (fun hj s H => ⟨rfl, ?_⟩) fun hj s H => ⟨rfl, ?_⟩
            · rw [back ws] at H
              exact ex_nil (ex_nil (ex_nil ⟨gc, _, _, hg6.trans hs6c, H, fin ws he1.1 fun z => ⟨fun q => .inl ((he1.2 z).mp q), fun q => q.elim (fun e => (he1.2 z).mpr e) fun e => e ▸ hj⟩⟩))
            · rw [back (i.n :: ws)] at H
              exact ex_nil (ex_nil (ex_nil ⟨gc, _, _, hg6.trans hs6c, H, fin (i.n :: ws) (List.nodup_cons.mpr ⟨hj, he1.1⟩) fun z => by
                rw [List.mem_cons]
                exact ⟨fun q => q.elim .inr fun q => .inl ((he1.2 z).mp q), fun q => q.elim (fun e => .inr ((he1.2 z).mpr e)) .inl⟩⟩))
      · rintro g6 led6 m6 s hg6 H ⟨r1, r2, dn, rfl, ha1, ha2, hdn, hr1, hr2, hms⟩
        rw [List.append_nil] at hdn
        subst hdn
        rw [List.append_assoc] at H
        obtain ⟨g7, hs7, H, hW7⟩ := In.freezeFam (q := r2) H fun e he => ge (p := (e.2.1, WP w e.2.2)) (l1 := WrdF w r2 ++ SetF w r1) rfl (by rw [List.append_assoc]; exact H) (List.mem_append_left _ (List.mem_map.mpr ⟨e, he, rfl⟩))
        obtain ⟨g8, hs8, H, hS8⟩ := In.freezeFam (q := r1) H fun e he => ge (p := (e.2.1, SetL w e.2.2.1)) (l1 := SetF w r1) rfl H (List.mem_map.mpr ⟨e, he, rfl⟩)
        have hs48 : Sub g4 g8 := ((R5.sub.trans hg6).trans hs7).trans hs8
        have k8 := k4.mono hs48
        have hx8 := hs48 _ _ hx4
        have hD1' : DictR prog w (SetAt prog w) g8 (.ref d1) (r1.map fun e => (e.1, e.2.2.2)) := by
          refine ⟨?_, d1, od1, xd1, rfl, hd11, hs48 _ _ hod1, hD1, ?_⟩
          · have e : (r1.map fun e => (e.1, e.2.2.2)).map (·.1) = (adr r1).map (·.1) := by unfold adr; rw [List.map_map, List.map_map]; rfl
            rw [e, ha1]; exact hk1n
          · have h1 := hE1' hs48
            rw [← ha1] at h1
            have h2 := EntR.ofA (R := fun g v (y : List (Int × Value) × List It) => SetAt prog w g v y.2) h1 fun e he => by
              obtain ⟨o, ho, hP, hl⟩ := hS8 e he
              exact ⟨e.2.1, o, e.2.2.1, rfl, ho, hP, hl.w, (hr1 e he).1.mono (hs7.trans hs8)⟩
            have h3 := h2.mapV (R := SetAt prog w) (f := fun y : List (Int × Value) × List It => y.2)
            rw [List.map_map] at h3
            exact h3
        have hD2' : DictR prog w (WAt w) g8 (.ref d2) (r2.map fun e => (e.1, e.2.2)) := by
          refine ⟨?_, d2, od2, xd2, rfl, hd21, hs48 _ _ (hs4 _ _ hod2), hD2, ?_⟩
          · have e : (r2.map fun e => (e.1, e.2.2)).map (·.1) = (adr r2).map (·.1) := by unfold adr; rw [List.map_map, List.map_map]; rfl
            rw [e, ha2]; exact hk2n
          · have h1 := hE2' hs48
            rw [← ha2] at h1
            exact EntR.ofA (R := WAt w) h1 fun e he => by
              obtain ⟨o, ho, hP⟩ := hW7 e he
              exact ⟨e.2.1, o, rfl, hs8 _ _ ho, hP⟩
        have hG : ∀ j k, Step (r1.map fun e => (e.1, e.2.2.2)) j k ↔ j ∈ cats ∧ (k = j ∨ firstN ps j k) := fun j kk => by
          have hcr : cats = r1.map (·.1) := by rw [hcc1, ← keys_adr, ← keys_adr, ha1]
          unfold Step
          constructor
          · rintro ⟨ks, hm, hk⟩
            obtain ⟨e, he, q⟩ := List.mem_map.mp hm
            cases q
            exact ⟨by rw [hcr]; exact List.mem_map_of_mem he, ((hr1 e he).2 kk).mp hk⟩
          · rintro ⟨hj, hk⟩
            rw [hcr] at hj
            obtain ⟨e, he, rfl⟩ := List.mem_map.mp hj
            exact ⟨e.2.2.2, List.mem_map.mpr ⟨e, he, rfl⟩, ((hr1 e he).2 kk).mpr hk⟩
        refine ex_set (Call_ (nmG H k8 (g_tc _) (callW (kp345 _) (a1 (Attribute_any_ (nm H hms (attrD (pre := []) H k8 (c334 _) hx8 (a334_imc _) hfd1 rfl fun s H => ⟨H.K k8, ?_⟩)))))))
        refine tc_spec (U := U) ((r' _).le (by decide) (by decide)) k8 H.into hD1' hU (fun p hp => ?_) hUt fun v3 C s g9 R9 hC hCk hCr => ?_
        · obtain ⟨e, he, rfl⟩ := List.mem_map.mp hp
          have hec : e.1 ∈ cats := by
            have hcr : cats = r1.map (·.1) := by rw [hcc1, ← keys_adr, ← keys_adr, ha1]
            rw [hcr]; exact List.mem_map_of_mem he
          refine ⟨hcU _ hec, fun j hj => ?_⟩
          rcases ((hr1 e he).2 j).mp hj with q | ⟨q, hq, _, h2', h3'⟩
          · rw [q]; exact hcU _ hec
          · exact ((hpU q hq) j (List.mem_of_mem_head? h2')).1 h3'
        have H := H.call0 R9
        have hC1 : C.map (·.1) = cats := by
          have hcr : cats = r1.map (·.1) := by rw [hcc1, ← keys_adr, ← keys_adr, ha1]
          rw [hCk, List.map_map, hcr]; rfl
        have k9 := k8.mono R9.sub
        have hx9 := R9.sub _ _ hx8
        have hv3 : handedIn v3 = true := by obtain ⟨_, _, _, _, rfl, _⟩ := hC; rfl
        refine st H fun s H => ?_
        refine ex_setA (nm H (if_pos rfl) (nm H ((if_neg (by decide)).trans hms) (setA (pre := []) H k9 (c334 _) (H.into _ _ hx9) (by kernel_rfl) (fun s H => ?_) (by omega))))
        refine ex_setA (dictQ H fun d4 s4 H4 hd4 => ?_)
        have hd4' := H.was hd4
        have H := H4
        refine nm H ((if_neg (by decide)).trans hms) (setA (pre := [(d4, DP prog w [])]) H k9 (c334 _) (H.into _ _ hx9) (by kernel_rfl) (fun s H => ?_) (by omega))
        generalize hf4 : (fun y : Str => if y = "_leftcorner_words" then some (Value.ref d4) else (fun y : Str => if y = "_leftcorners" then some v3 else f2 y) y) = f4 at H
        have hfv3 : f4 "_leftcorners" = some v3 := by rw [← hf4]; exact (if_neg (by decide)).trans (if_pos rfl)
        have hfv4 : f4 "_leftcorner_words" = some (.ref d4) := by rw [← hf4]; exact if_pos rfl
        have hfd2' : f4 "_immediate_leftcorner_words" = some (.ref d2) := by rw [← hf4]; exact ((if_neg (by decide)).trans (if_neg (by decide))).trans hfd2
        refine ex_for (Attribute_any_ (nm H ((if_neg (by decide)).trans hms) (attrD (pre := [(d4, DP prog w [])]) H k9 (c334 _) hx9 (a334_lc _) hfv3 hv3 fun s H => itDictR H hC fun I St s S H => ?_)))
        have hC9 : ∀ {g' : Heap}, Sub g9 g' → DictR prog w (SetAt prog w) g' v3 C := fun hs => hC.mono SetAt.mono' hs
        have hCn : (C.map (·.1)).Nodup := by rw [hC1]; exact hcn
        refine forL (fun rest ga leda ma => ∃ (xd : KVs) (W4 : List (It × Addr × List Str)) (dn : List (It × List It)), leda = (d4, DP prog w xd) :: [(dx, NsO (n + 1 + 1 + 1 + 1) f4)] ∧ EntR RefTo ga xd (adr W4) ∧ C = dn ++ rest ∧ W4.map (·.1) = dn.map (·.1) ∧
          (∀ e ∈ W4, (∃ o, ga.get? e.2.1 = some o ∧ WP w e.2.2 o) ∧ ∀ y, y ∈ e.2.2 ↔ ∃ j, Reach (r1.map fun e => (e.1, e.2.2.2)) e.1 j ∧ firstW ps j y) ∧ ma "self" = some (.ref x)) S r.hh (.refl _) H
          ⟨[], [], [], rfl, .nil, rfl, rfl, fun _ h => (nomatch h), (if_neg (by decide)).trans hms⟩ ?_ ?_
        · rintro ⟨c, js⟩ rest ga leda ma s vc hga ⟨ca, rfl, hkc⟩ H ⟨xd, W4, dn, rfl, hE4, hCd, hWk, hW4, hmx⟩
          have ka := k9.mono hga
          have hxa := hga _ _ hx9
          have hkc1 := hkc.mono hga
          have hCm : (c, js) ∈ C := by rw [hCd]; exact List.mem_append_right _ (.head _)
          refine asN H fun s H => ?_
          refine ex_set (Subscript_ (Attribute_any_ (nm H ((if_neg (by decide)).trans hmx) (attrD (pre := [(I, St rest), (d4, DP prog w xd)]) H ka (c334 _) hxa (a334_lc _) hfv3 hv3 fun s H => nm H (if_pos rfl) ?_))))
          refine ixR ((r' _).u (by decide)) H (hC9 hga) hkc1 hCm fun vs' s H hSC => ?_
          refine st H fun s H => ?_
          refine ex_set2 (Call_ (nmB H ka g_set (e := n_set _) (callT0 (call_set_0 fun ledb => ?_))))
          have He := H.was (Nat.le_refl s.heap.objs.size)
          have H := H.new { cls := .type "set", dict := none, data := .set #[] 0 (.fresh 0 0 ledb) } rfl (WP w []) (by rw [fresh_eq]; exact ⟨[], emptySet _ 0 0 true 0, List.nodup_nil, [], .refl _, .nil⟩)
          generalize s.heap.objs.size = fe at H He
          refine st H fun s H => ?_
          refine Attribute_any_ (nm H (((if_neg (by decide)).trans ((if_neg (by decide)).trans (if_neg (by decide)))).trans hmx) (attrD (pre := [(fe, WP w []), (I, St rest), (d4, DP prog w xd)]) H ka (c334 _) hxa (a334_lcw _) hfv4 rfl fun s H => nm H ((if_neg (by decide)).trans ((if_neg (by decide)).trans (if_pos rfl))) ?_))
          have hc4 : c ∉ (adr W4).map (·.1) := by
            rw [keys_adr, hWk]
            rw [hCd, List.map_append, List.map_cons, List.nodup_append] at hCn
            exact fun hm => hCn.2.2 _ hm _ (.head _) rfl
          refine setD (pre := [(fe, WP w []), (I, St rest)]) ((r' _).u (by decide)) H hE4.keys hkc1.isg ?_ fun s H => ?_
          · rw [hE4.length]
            have h1 : (adr W4).length = dn.length := by have := congrArg List.length hWk; simpa [adr] using this
            have h2 : dn.length ≤ C.length := by rw [hCd]; simp
            have h3 : C.length ≤ 4 := by have := congrArg List.length hC1; simp at this; omega
            omega
          have hE5 := hE4.new (a := ca) (v := .ref fe) (y := fe) hc4 hkc1 rfl
          refine ex_for (nm H (((if_neg (by decide)).trans (if_pos rfl))) (sIterA H hSC fun I2 St2 is gb s hsb hpm S2 H => ?_))
          refine forL (fun rest2 gc ledc mc => ∃ (ws : List Str) (dn2 : List It), ledc = (fe, WP w ws) :: (I, St rest) :: (d4, DP prog w (storedH xd (kN c) ca (.ref fe))) :: [(dx, NsO (n + 1 + 1 + 1 + 1) f4)] ∧ is = dn2 ++ rest2 ∧ (∀ y ∈ ws, y ∈ Wd) ∧ (∀ y, y ∈ ws ↔ ∃ j ∈ dn2, firstW ps j y) ∧ mc "self" = some (.ref x) ∧ mc "lc" = some (.ref fe)) S2 r.hh (.refl _) H
            ⟨[], [], rfl, rfl, fun _ h => (nomatch h), fun y => ⟨fun h => (nomatch h), fun ⟨_, h, _⟩ => nomatch h⟩, (((if_neg (by decide)).trans ((if_neg (by decide)).trans (if_neg (by decide)))).trans hmx), if_pos rfl⟩ ?_ ?_
          · rintro j rest2 gc ledc mc s vj hgc hkj H ⟨ws, dn2, rfl, his, hwW, hws, hmx2, hlc⟩
            have kc := ka.mono (hsb.trans hgc)
            have hgac := hsb.trans hgc
            have hkjc := hkj.mono hgc
            obtain ⟨ja, _, _, rfl, _⟩ := id hkjc
            have hxc := hgac _ _ hxa
            have hDc : DictR prog w (WAt w) gc (.ref d2) (r2.map fun e => (e.1, e.2.2)) := hD2'.mono WAt.mono' ((R9.sub.trans hga).trans hgac)
            refine asN H fun s H => ?_
            refine ex_expr (MethodCall_ (nm H ((if_neg (by decide)).trans hlc) (mUpdW (pre := [(I2, St2 rest2)]) H (callB (a1 ?_)))))
            refine MethodCall_ (Attribute_any_ (nm H ((if_neg (by decide)).trans hmx2) (attrD (pre := [(I2, St2 rest2), (fe, WP w ws), (I, St rest), (d4, DP prog w (storedH xd (kN c) ca (.ref fe)))]) H kc (c334 _) hxc (a334_imw _) hfd2' rfl fun s H => mGetR H hDc (callB (aC (nm H (if_pos rfl) (a1 (Call_ (nmB H kc g_set (e := n_set _) (callT0 (set0W H fun ev gd s hsd hev H => ?_)))))))))))
            have hgcd := hsd
            have hwl : ws.Nodup := by obtain ⟨o, _, cs', _, hE'⟩ := H.get (a := fe) (P := WP w ws) (by simp); exact hE'.1
            have hr2k : (r2.map fun e => (e.1, e.2.2)).map (·.1) = cats := by rw [List.map_map, hcc2, ← keys_adr, ← ha2, keys_adr]; rfl
            refine getWrd (P := fun y => firstW ps j y) ((r' _).u (by decide)) H (hDc.mono WAt.mono' hsd) (hkjc.mono hsd) hev (fun ws2 hm y => ?_) (fun hn y q => ?_) fun u ws2 s H hu hw2 => ?_
            · obtain ⟨e, he, q⟩ := List.mem_map.mp hm
              cases q
              exact (hr2 e he).2 y
            · obtain ⟨p, hp, h1', _⟩ := q
              exact hn (by rw [hr2k, ← h1']; exact hpc p hp)
            obtain ⟨bo, ob, rfl, hbo, hpo⟩ := hu
            have hN2 : ws2.Nodup := by obtain ⟨cs', _, hE'⟩ := hpo; exact hE'.1
            have hW2 : ∀ y ∈ ws2, y ∈ Wd := fun y hy => by
              obtain ⟨q, hq, _, h2'⟩ := (hw2 y).mp hy
              exact ((hpU q hq) _ (List.mem_of_mem_head? h2')).2 rfl
            refine wUpd (pre := [(I2, St2 rest2)]) H hbo hpo (.inr ⟨Nat.le_trans (nodup_le hwl hwW) hW, Nat.le_trans (nodup_le hN2 hW2) hW⟩) (fun ws' hn' hs' => Nat.le_trans (Nat.le_trans (nodup_le hn' fun y hy => (hs' y hy).elim (hwW y) (hW2 y)) hW) (by decide)) fun ws3 s hw3 H => ⟨rfl, ?_⟩
            refine ex_nil ⟨gd, _, _, hgc.trans hsd, H, ws3, dn2 ++ [j], rfl, by rw [his]; simp, fun y hy => ((hw3 y).mp hy).elim (hwW y) (hW2 y), fun y => ?_, (if_neg (by decide)).trans hmx2, (if_neg (by decide)).trans hlc⟩
            rw [hw3 y, hws y, hw2 y]
            constructor
            · rintro (⟨j', hj', q⟩ | q)
              · exact ⟨j', List.mem_append_left _ hj', q⟩
              · exact ⟨j, by simp, q⟩
            · rintro ⟨j', hj', q⟩
              rcases List.mem_append.mp hj' with hj' | hj'
              · exact .inl ⟨j', hj', q⟩
              · cases List.mem_singleton.mp hj'; exact .inr q
          · rintro gc ledc mc s hgc H ⟨ws, dn2, rfl, his, hwW, hws, hmx2, hlc⟩
            rw [List.append_nil] at his
            obtain ⟨oW, gd, hWo, hWg, hsd, H⟩ := H.freeze He
            have hgad := (hsb.trans hgc).trans hsd
            refine ex_nil ⟨gd, _, mc, hga.trans hgad, H, _, W4 ++ [(c, fe, ws)], dn ++ [(c, js)], rfl, by rw [adr_snoc]; exact hE5.mono RefTo.mono hgad, by rw [hCd]; simp, by simp [hWk], fun e he => ?_, hmx2⟩
            rcases List.mem_append.mp he with he | he
            · obtain ⟨⟨o, h1', h2'⟩, h3'⟩ := hW4 e he
              exact ⟨⟨o, hgad _ _ h1', h2'⟩, h3'⟩
            · cases List.mem_singleton.mp he
              refine ⟨⟨oW, hWg, hWo⟩, fun y => (hws y).trans ?_⟩
              rw [← his]
              constructor
              · rintro ⟨j, hj, q⟩
                exact ⟨j, (hCr (c, js) hCm j).mp (hpm.mem_iff.mp hj), q⟩
              · rintro ⟨j, hj, q⟩
                exact ⟨j, hpm.mem_iff.mpr ((hCr (c, js) hCm j).mpr hj), q⟩
        · rintro ga leda ma s hga H ⟨xd, W4, dn, rfl, hE4, hCd, hWk, hW4, hmx⟩
          rw [List.append_nil] at hCd
          subst hCd
          obtain ⟨o4, gb, hD4, hod4, hsb, H⟩ := H.freeze hd4'
          have hd41 : d4 ≠ 1 := fun e => by rw [e] at hd4'; exact absurd (Nat.lt_of_lt_of_le hgt hd4') (by show ¬ 403 < 1; decide)
          refine ex_nil (h s gb f4 _ _ (W4.map fun e => (e.1, e.2.2)) v3 (.ref d4) H.rel (H.get (.head _)) (H.ne (P := NsO (n + 1 + 1 + 1 + 1) f4) (.head _)) hG (hC9 (hga.trans hsb)) hC1 hCr ⟨?_, d4, o4, xd, rfl, hd41, hod4, hD4, ?_⟩ ?_ ?_ hv3 rfl hfv3 hfv4 ?_)
          · rw [List.map_map]
            have : (W4.map fun e => e.1) = cats := hWk.trans hC1
            show (W4.map fun e => e.1).Nodup
            rw [this]; exact hcn
          · exact EntR.ofA (R := WAt w) (hE4.mono RefTo.mono hsb) fun e he => by
              obtain ⟨⟨o, h1', h2'⟩, _⟩ := hW4 e he
              exact ⟨e.2.1, o, rfl, hsb _ _ h1', h2'⟩
          · rw [List.map_map]
            exact hWk.trans hC1
          · intro p hp y
            obtain ⟨e, he, rfl⟩ := List.mem_map.mp hp
            exact (hW4 e he).2 y
          · intro y hy
            have h1 : y ≠ "_leftcorner_words" := fun e => hy (by rw [e]; decide)
            have h2 : y ≠ "_leftcorners" := fun e => hy (by rw [e]; decide)
            have h3 : y ≠ "_immediate_leftcorner_words" := fun e => hy (by rw [e]; decide)
            have h4 : y ≠ "_immediate_leftcorner_categories" := fun e => hy (by rw [e]; decide)
            rw [← hf4, ← hf2]
            simp only [h1, h2, h3, h4, if_false]
end
end Mine
end

section
open PySem PySem.W PySem.Calls PyProof.Rows
set_option maxRecDepth 100000
namespace Mine
theorem fillK14 (P : Params) : hd.heap_39 P = hd.heap_39 P → PySem.Challenge.rw_bn0044_01 = PySem.Challenge.rw_bn0044_01 := by
  k_fill
  exact fun _ => rfl

section
variable {prog : Program} {w : World} {mg mb : Str → Option Value} {A : Around} {E : Value → Shared → Prop} {s s' : Shared} {F : Fx} {g g' : Heap} {led : Led} {m : Str → Option Value} {env : Env}

/-! ## an index: a dict of lists -/
abbrev LstF := Fam (κ := It) (β := List Value) SQ
inductive Push {κ : Type} (q : List (κ × Addr × List Value)) (j : κ) (v : Value) : List (κ × Addr × List Value) → Prop
  | old {l1 b vs l2} : q = l1 ++ (j, b, vs) :: l2 → Push q j v (l1 ++ (j, b, vs ++ [v]) :: l2)
  | new {b} : j ∉ q.map (·.1) → Push q j v (q ++ [(j, b, [v])])

/-- self.attr[kn].append(prod) -/
theorem idxApp {P M T : Led} {x dx d ka : Addr} {n : Nat} {f : Str → Option Value} {kn attr : Str} {xd : KVs} {l1 l2 : List (It × Addr × List Value)} {j : It} {b : Addr} {vs : List Value} {v : Value} {rest : List Stmt} {p1 p2 p3 p4 p5 p6 p7 p8 : Pos} {Q : Flow → Shared → Prop}
    (hu : A.units + 1 < cLine) (k : KB w mg mb g) (hx : g.get? x = some (instObj 334 dx)) (ha : findIn (hd.heap_39 w.params) (.ref 334) attr = some none) (hf : f attr = some (.ref d))
    (H : In F g (P ++ (d, DP prog w xd) :: (M ++ LstF (l1 ++ (j, b, vs) :: l2) ++ T) ++ (dx, NsO n f) :: []) m s) (hE : EntR RefTo g xd (adr (l1 ++ (j, b, vs) :: l2))) (hn : ((adr (l1 ++ (j, b, vs) :: l2)).map (·.1)).Nodup) (hk : KeyAt g (.ref ka) j)
    (hm1 : m "self" = some (.ref x)) (hm2 : m kn = some (.ref ka)) (hm3 : m "prod" = some v) (hz : vs.length ≤ 900)
    (hL : env.locals = F.L) (hkk : env.scope.kind = .function) (hl1 : env.kindOf "self" = some .local) (hl2 : env.kindOf kn = some .local) (hl3 : env.kindOf "prod" = some .local) (hdb : (kn == ("__debug__" : Str)) = false)
    (h : ∀ s', In F g (P ++ (d, DP prog w xd) :: (M ++ LstF (l1 ++ (j, b, vs ++ [v]) :: l2) ++ T) ++ (dx, NsO n f) :: []) m s' → wpAny (model prog w) A (execs rest env) Q E s')
    (hi : interactive env = false) {pl : Sem Bool}
    (he : eval (.Call (.Attribute (.Subscript (.Attribute (.Name "self" p1) attr p2) (.Name kn p3) p4) "append" p5) [.Name "prod" p6] [] p7) env = (do
      let ov ← eval (.Subscript (.Attribute (.Name "self" p1) attr p2) (.Name kn p3) p4) env
      standAt p5.atName
      let (f, first) ← holding [ov] (getMethod ov "append" pl)
      callWith p7 f first (backTo p7 (starEach [.Name "prod" p6] env)) []) := by rfl) :
    wpAny (model prog w) A (execs (.Expr (.Call (.Attribute (.Subscript (.Attribute (.Name "self" p1) attr p2) (.Name kn p3) p4) "append" p5) [.Name "prod" p6] [] p7) p8 :: rest) env) Q E s := by
  have eF : ∀ us : List Value, LstF (l1 ++ (j, b, us) :: l2) = LstF l1 ++ (b, SQ us) :: LstF l2 := fun us => Fam_split
  have eL : ∀ us : List Value, P ++ (d, DP prog w xd) :: (M ++ LstF (l1 ++ (j, b, us) :: l2) ++ T) ++ (dx, NsO n f) :: [] = (P ++ (d, DP prog w xd) :: (M ++ LstF l1)) ++ (b, SQ us) :: (LstF l2 ++ T ++ (dx, NsO n f) :: []) := fun us => by rw [eF]; simp
  have eM : P ++ (d, DP prog w xd) :: (M ++ LstF (l1 ++ (j, b, vs) :: l2) ++ T) ++ (dx, NsO n f) :: [] = P ++ (d, DP prog w xd) :: (M ++ LstF (l1 ++ (j, b, vs) :: l2) ++ T ++ (dx, NsO n f) :: []) := by simp
  obtain ⟨ka', u, hat, hu'⟩ := hE.some hn (j := j) (y := b) (by unfold adr; simp)
  have hu2 : u = .ref b := hu'
  subst hu2
  refine ex_expr (MethodCall_ (pl := pl) (Subscript_ (Attribute_any_ (nm (hL := hL) (hk := hkk) (hl := hl1) H hm1 (attrD H k (c334 _) hx ha hf rfl fun s H => nm (hL := hL) (hk := hkk) (hl := hl2) (hd := hdb) H hm2 ?_)))) he) hi rfl
  rw [eM] at H
  refine kba_turn (value' := nmX) (fun _ => rfl) (ixD hu H hk.isg (H.dict hE.keys) hat (fun s H => ?_) (by with_unfolding_all rfl))
  rw [← eM, eL] at H
  refine mListQ H PySem.F.slot_list_append PySem.F.type_list_append (callB (a1 (nm (hL := hL) (hk := hkk) (hl := hl3) H hm3 (appendQ H (by omega) fun s H => ⟨rfl, h s (by rw [eL]; exact H)⟩))))

theorem perm_last {α : Type} {a : α} {l r : List α} : (l ++ a :: r).Perm (a :: (l ++ r)) := List.perm_middle
/-- if kn not in self.attr: self.attr[kn] = [] -/
theorem idxNew {P M T : Led} {x dx d ka : Addr} {n : Nat} {f : Str → Option Value} {kn attr : Str} {xd : KVs} {q : List (It × Addr × List Value)} {j : It} {rest : List Stmt} {p1 p2 p3 p4 p5 p6 p7 p8 p9 p10 p11 : Pos} {Q : Flow → Shared → Prop}
    (hu : A.units + 1 < cLine) (k : KB w mg mb g) (hx : g.get? x = some (instObj 334 dx)) (ha : findIn (hd.heap_39 w.params) (.ref 334) attr = some none) (hf : f attr = some (.ref d)) (hd1 : d ≠ 1)
    (H : In F g (P ++ (d, DP prog w xd) :: (M ++ LstF q ++ T) ++ (dx, NsO n f) :: []) m s) (hE : EntR RefTo g xd (adr q)) (hn : ((adr q).map (·.1)).Nodup) (hk : KeyAt g (.ref ka) j) (hz : xd.length ≤ 900)
    (hm1 : m "self" = some (.ref x)) (hm2 : m kn = some (.ref ka))
    (hL : env.locals = F.L) (hkk : env.scope.kind = .function) (hl1 : env.kindOf "self" = some .local) (hl2 : env.kindOf kn = some .local) (hdb : (kn == ("__debug__" : Str)) = false)
    (h : ∀ xd' l1 b vs l2 s', (q = l1 ++ (j, b, vs) :: l2 ∨ (j ∉ q.map (·.1) ∧ l1 = q ∧ vs = [] ∧ l2 = [])) → EntR RefTo g xd' (adr (l1 ++ (j, b, vs) :: l2)) → ((adr (l1 ++ (j, b, vs) :: l2)).map (·.1)).Nodup →
      In F g (P ++ (d, DP prog w xd') :: (M ++ LstF (l1 ++ (j, b, vs) :: l2) ++ T) ++ (dx, NsO n f) :: []) m s' → wpAny (model prog w) A (execs rest env) Q E s') :
    wpAny (model prog w) A (execs (.If (.Compare (.Name kn p1) [.NotIn] [.Attribute (.Name "self" p2) attr p3] p4) [.Assign [.Subscript (.Attribute (.Name "self" p5) attr p6) (.Name kn p7) p8] (.List [] p9) p10] [] p11 :: rest) env) Q E s := by
  have eM : ∀ (q : List (It × Addr × List Value)) xd, P ++ (d, DP prog w xd) :: (M ++ LstF q ++ T) ++ (dx, NsO n f) :: [] = P ++ (d, DP prog w xd) :: (M ++ LstF q ++ T ++ (dx, NsO n f) :: []) := fun q xd => by simp
  refine ex_if (tcmp1 (nm (hL := hL) (hk := hkk) (hl := hl2) (hd := hdb) H hm2 (Attribute_any_ (nm (hL := hL) (hk := hkk) (hl := hl1) H hm1 (attrD H k (c334 _) hx ha hf rfl fun s H => ?_)))))
  rw [eM] at H
  refine notInD hu H hk.isg hd1 (H.dict hE.keys) fun s H => tr_b ?_
  by_cases hj : j ∈ q.map (·.1)
  · obtain ⟨l1, b, vs, l2, rfl⟩ := fam_split hj
    obtain ⟨ka', u, hat, _⟩ := hE.some hn (j := j) (y := b) (by unfold adr; simp)
    rw [hat, Option.isSome_some, Bool.not_true, if_neg Bool.false_ne_true]
    rw [← eM] at H
    exact ex_nil (h xd l1 b vs l2 s (.inl rfl) hE hn H)
  · have hj' : j ∉ (adr q).map (·.1) := by rw [keys_adr]; exact hj
    rw [hE.none hj', Option.isSome_none, Bool.not_false, if_pos rfl]
    rw [← eM] at H
    refine ex_setI (listQ (a0 ⟨_, _, _, _, H, Nat.zero_le _, fun b s H _ => ?_⟩))
    have H := H.perm (l := (b, SQ []) :: P ++ (d, DP prog w xd) :: (M ++ LstF q ++ T) ++ (dx, NsO n f) :: []) (by simp)
    refine Attribute_any_ (nm (hL := hL) (hk := hkk) (hl := hl1) H hm1 (attrD (pre := (b, SQ []) :: P ++ (d, DP prog w xd) :: (M ++ LstF q ++ T)) H k (c334 _) hx ha hf rfl fun s H => nm (hL := hL) (hk := hkk) (hl := hl2) (hd := hdb) H hm2 ?_))
    have H := H.perm (l := ((b, SQ []) :: P) ++ (d, DP prog w xd) :: (M ++ LstF q ++ T ++ (dx, NsO n f) :: [])) (by simp)
    refine setD (pre := (b, SQ []) :: P) hu H hE.keys hk.isg (by omega) fun s H => ex_nil ?_
    refine h (storedH xd (kN j) ka (.ref b)) q b [] [] s (.inr ⟨hj, rfl, rfl, rfl⟩) ?_ ?_ (H.perm ?_)
    · rw [show adr (q ++ (j, b, []) :: []) = adr q ++ [(j, b)] from adr_snoc]
      exact hE.new hj' hk rfl
    · rw [show adr (q ++ (j, b, ([] : List Value)) :: []) = adr q ++ [(j, b)] from adr_snoc, List.map_append, List.nodup_append]
      exact ⟨hn, by simp, fun a ha b' hb e => by simp at hb; rw [e, hb] at ha; exact hj' ha⟩
    · rw [show LstF (q ++ (j, b, []) :: []) = LstF q ++ [(b, SQ [])] from Fam_snoc]
      have e1 : P ++ (d, DP prog w (storedH xd (kN j) ka (.ref b))) :: (M ++ (LstF q ++ [(b, SQ [])]) ++ T) ++ (dx, NsO n f) :: [] = (P ++ (d, DP prog w (storedH xd (kN j) ka (.ref b))) :: (M ++ LstF q)) ++ (b, SQ []) :: (T ++ (dx, NsO n f) :: []) := by simp
      rw [e1]
      refine perm_last.trans ?_
      simp

/-! ## a dict keyed by words -/
def SDP (prog : Program) (w : World) (kvs : List (Str × Value)) : Obj → Prop := fun o => ∃ es ep, o.ExactDict ∧ o.data = .dict es ep ∧ KeysOf (PySem.strKind prog w) es ∧ Pairs (PySem.strKind prog w) es.toList kvs ∧ (kvs.map (·.1)).Nodup
theorem SDP.at {h : Heap} {d : Addr} {o : Obj} {kvs : List (Str × Value)} (p : SDP prog w kvs o) (ho : h.get? d = some o) : h.DictOf (PySem.strKind prog w) d kvs := let ⟨es, ep, a, b, c, e, f⟩ := p; ⟨o, es, ep, ho, a, b, c, e, f⟩
theorem SDP.nil {prog : Program} {w : World} : SDP prog w [] { cls := .type "dict", data := .dict #[] } := ⟨#[], 0, ⟨rfl, rfl, rfl⟩, rfl, fun e he => by simp at he, .nil, List.nodup_nil⟩
theorem setdefD {P R : Led} {d : Addr} {kvs : List (Str × Value)} {x : Str} {t : Tok} {dflt : Value} {Q : Value → Shared → Prop} (hd : d ≠ 1) (H : In F g (P ++ (d, SDP prog w kvs) :: R) m s) (hz : kvs.length ≤ 900)
    (h1 : ∀ v s', valueAt kvs x = some v → In F g (P ++ (d, SDP prog w kvs) :: R) m s' → Q v s') (h2 : ∀ s', valueAt kvs x = none → In F g (P ++ (d, SDP prog w (stored kvs x dflt)) :: R) m s' → Q dflt s') :
    wpAny (model prog w) A (call (.builtin "dict.setdefault") [.ref d, .str x t, dflt]) Q E s := by
  obtain ⟨o, ho, p⟩ := H.get (a := d) (P := SDP prog w kvs) (by simp)
  have hm := p.at ho
  refine call_meetsIn PySem.F.slot_dict_setdefault hm.typeIs PySem.F.entry_dict_setdefault (PySem.F.args_dict_setdefault_3 _ _ _) (kt_meets_setdefault (PySem.strKind prog w) d (isX x t) (by simpa [sysModules] using hd) dflt) ⟨kvs, hm, by rw [sizeLine_eq]; omega, fun v hv => h1 v _ hv (H.toks _), fun hn h' hm' hs' => ?_⟩
  obtain ⟨o', es, ep, ho', a, b, c, e, f⟩ := hm'
  exact h2 _ hn (H.put hs' ho' ⟨es, ep, a, b, c, e, f⟩ _)
theorem mSetdef {P R : Led} {d : Addr} {kvs : List (Str × Value)} {pl : Sem Bool} {Q : Value × List Value → Shared → Prop} (H : In F g (P ++ (d, SDP prog w kvs) :: R) m s) (h : Q (.builtin "dict.setdefault", [.ref d]) s) : wpAny (model prog w) A (getMethod (.ref d) "setdefault" pl) Q E s := by
  obtain ⟨o, ho, p⟩ := H.get (a := d) (P := SDP prog w kvs) (by simp)
  obtain ⟨es, ep, a, b, c⟩ := id p
  exact getMethod_builtin (p.at ho).typeIs PySem.F.plainAttrs_dict PySem.F.slot_dict_setdefault PySem.F.type_dict_setdefault (fun b e => by cases e; exact ⟨o, ho, a.2.1⟩) h
abbrev LexF := Fam (κ := Str) (β := List Value) SQ
def lexK (q : List (Str × Addr × List Value)) : List (Str × Value) := q.map fun e => (e.1, .ref e.2.1)
theorem lexK_at {q : List (Str × Addr × List Value)} {x : Str} (hn : (q.map (·.1)).Nodup) : (∃ l1 b vs l2, q = l1 ++ (x, b, vs) :: l2 ∧ valueAt (lexK q) x = some (.ref b)) ∨ (x ∉ q.map (·.1) ∧ valueAt (lexK q) x = none) := by
  by_cases hx : x ∈ q.map (·.1)
  · refine .inl ?_
    obtain ⟨l1, b, vs, l2, rfl⟩ := fam_split hx
    refine ⟨l1, b, vs, l2, rfl, ?_⟩
    unfold valueAt lexK
    rw [List.map_append, List.map_cons, List.nodup_append] at hn
    rw [List.map_append, List.map_cons, List.find?_append]
    have h1 : (l1.map fun e : Str × Addr × List Value => ((e.1, Value.ref e.2.1) : Str × Value)).find? (fun kv => decide (kv.1 = x)) = none := by
      rw [List.find?_eq_none]
      intro y hy
      obtain ⟨e, he, rfl⟩ := List.mem_map.mp hy
      simp only [decide_eq_true_eq]
      exact hn.2.2 _ (List.mem_map_of_mem he) _ (.head _)
    rw [h1, List.find?_cons_of_pos (by simp)]
    rfl
  · refine .inr ⟨hx, ?_⟩
    unfold valueAt lexK
    rw [Option.map_eq_none_iff, List.find?_eq_none]
    intro y hy
    obtain ⟨e, he, rfl⟩ := List.mem_map.mp hy
    simp only [decide_eq_true_eq]
    intro e'
    exact hx (List.mem_map.mpr ⟨e, he, e'⟩)
theorem stored_new {kvs : List (Str × Value)} {x : Str} {v : Value} (h : valueAt kvs x = none) : stored kvs x v = kvs ++ [(x, v)] := by
  unfold stored
  rw [if_neg]
  unfold valueAt at h
  rw [Option.map_eq_none_iff, List.find?_eq_none] at h
  rw [List.any_eq_true]
  rintro ⟨y, hy, e⟩
  exact h y hy e
end
end Mine
end

section
open PySem PySem.W PySem.Calls PyProof.Rows
set_option maxRecDepth 100000
namespace Mine
theorem fillK15 (P : Params) : hd.heap_39 P = hd.heap_39 P → PySem.Challenge.rw_bn0044_01 = PySem.Challenge.rw_bn0044_01 := by
  k_fill
  exact fun _ => rfl

section
variable {prog : Program} {w : World} {mg mb : Str → Option Value} {A : Around} {E : Value → Shared → Prop} {s s' : Shared} {F : Fx} {g g' : Heap} {led : Led} {m : Str → Option Value} {env : Env}

/-! ## an index, plainly -/
structure IxQ (g : Heap) (key : Row2 → Option It) (dn : List Row2) (q : List (It × Addr × List Value)) : Prop where
  nd : (q.map (·.1)).Nodup
  keys : ∀ j, j ∈ q.map (·.1) ↔ ∃ r ∈ dn, key r = some j
  vals : ∀ e ∈ q, All2 (ProdAt g) e.2.2 (dn.filter fun r => decide (key r = some e.1))
theorem IxQ.nil {key : Row2 → Option It} : IxQ g key [] [] := ⟨List.nodup_nil, fun j => ⟨fun h => (nomatch h), fun ⟨_, h, _⟩ => (nomatch h)⟩, fun _ h => nomatch h⟩
theorem IxQ.mono {key : Row2 → Option It} {dn : List Row2} {q : List (It × Addr × List Value)} (h : IxQ g key dn q) (hs : Sub g g') : IxQ g' key dn q := ⟨h.nd, h.keys, fun e he => (h.vals e he).imp fun _ _ => ProdAt.mono' _ _ _ _ hs⟩
theorem IxQ.skip {key : Row2 → Option It} {dn : List Row2} {q : List (It × Addr × List Value)} {p : Row2} (h : IxQ g key dn q) (hp : key p = none) : IxQ g key (dn ++ [p]) q := by
  refine ⟨h.nd, fun j => (h.keys j).trans ⟨fun ⟨r, a, b⟩ => ⟨r, List.mem_append_left _ a, b⟩, fun ⟨r, a, b⟩ => ?_⟩, fun e he => ?_⟩
  · rcases List.mem_append.mp a with a | a
    · exact ⟨r, a, b⟩
    · cases List.mem_singleton.mp a; rw [hp] at b; cases b
  · rw [List.filter_append, List.filter_cons_of_neg (by simp [hp]), List.filter_nil, List.append_nil]; exact h.vals e he
theorem IxQ.push {key : Row2 → Option It} {dn : List Row2} {q l1 l2 : List (It × Addr × List Value)} {b : Addr} {vs : List Value} {p : Row2} {j : It} {v : Value} (h : IxQ g key dn q) (hp : key p = some j) (hv : ProdAt g v p)
    (hq : q = l1 ++ (j, b, vs) :: l2 ∨ (j ∉ q.map (·.1) ∧ l1 = q ∧ vs = [] ∧ l2 = [])) : IxQ g key (dn ++ [p]) (l1 ++ (j, b, vs ++ [v]) :: l2) := by
  have f1 : ∀ i, (dn ++ [p]).filter (fun r => decide (key r = some i)) = dn.filter (fun r => decide (key r = some i)) ++ if j = i then [p] else [] := fun i => by
    rw [List.filter_append]
    by_cases e : j = i
    · rw [if_pos e, List.filter_cons_of_pos (by simp [hp, e])]; rfl
    · rw [if_neg e, List.filter_cons_of_neg (by simp [hp, e])]; rfl
  have kk : ∀ i, (∃ r ∈ dn ++ [p], key r = some i) ↔ (∃ r ∈ dn, key r = some i) ∨ j = i := fun i => by
    constructor
    · rintro ⟨r, a, e⟩
      rcases List.mem_append.mp a with a | a
      · exact .inl ⟨r, a, e⟩
      · cases List.mem_singleton.mp a; rw [hp] at e; exact .inr (Option.some.inj e)
    · rintro (⟨r, a, e⟩ | e)
      · exact ⟨r, List.mem_append_left _ a, e⟩
      · exact ⟨p, by simp, by rw [hp, e]⟩
  rcases hq with rfl | ⟨hn, rfl, rfl, rfl⟩
  · have hnd := h.nd
    have hm : ∀ us : List Value, (l1 ++ (j, b, us) :: l2).map (·.1) = l1.map (·.1) ++ j :: l2.map (·.1) := fun us => by simp
    rw [hm] at hnd
    refine ⟨by rw [hm]; exact hnd, fun i => ?_, fun e he => ?_⟩
    · have h1 := h.keys i
      rw [hm] at h1 ⊢
      rw [kk, ← h1]
      exact ⟨.inl, fun q => q.elim id fun e => by rw [← e]; simp⟩
    · rw [List.nodup_append] at hnd
      rcases List.mem_append.mp he with he | he
      · have := h.vals e (List.mem_append_left _ he)
        rw [f1, if_neg (fun q => hnd.2.2 _ (List.mem_map_of_mem he) _ (.head _) q.symm), List.append_nil]; exact this
      · rcases List.mem_cons.mp he with rfl | he
        · rw [f1, if_pos rfl]; exact (h.vals (j, b, vs) (by simp)).snoc hv
        · have := h.vals e (List.mem_append_right _ (.tail _ he))
          have h2 := hnd.2.1
          rw [List.nodup_cons] at h2
          rw [f1, if_neg (fun q => h2.1 (by rw [q]; exact List.mem_map_of_mem he)), List.append_nil]; exact this
  · refine ⟨?_, fun i => ?_, fun e he => ?_⟩
    · rw [List.map_append, List.nodup_append]
      exact ⟨h.nd, by simp, fun a ha c hc e => by simp at hc; rw [e, hc] at ha; exact hn ha⟩
    · rw [kk, ← h.keys i, List.map_append, List.mem_append]
      exact or_congr Iff.rfl ⟨fun q => by simp at q; exact q.symm, fun q => by simp [q]⟩
    · rcases List.mem_append.mp he with he | he
      · have := h.vals e he
        rw [f1, if_neg (fun q => hn (by rw [q]; exact List.mem_map_of_mem he)), List.append_nil]; exact this
      · cases List.mem_singleton.mp he
        have : dn.filter (fun r => decide (key r = some j)) = [] := by
          rw [List.filter_eq_nil_iff]
          intro r hr q
          simp only [decide_eq_true_eq] at q
          exact hn ((h.keys j).mpr ⟨r, hr, q⟩)
        rw [f1, if_pos rfl, this]
        exact .cons hv .nil
def keyL : Row2 → Option It := fun r => some r.1
def keyR : Row2 → Option It := fun r => r.2.head?
theorem IxQ.bound {key : Row2 → Option It} {dn : List Row2} {q : List (It × Addr × List Value)} (h : IxQ g key dn q) {e : It × Addr × List Value} (he : e ∈ q) : e.2.2.length ≤ dn.length := by
  rw [(h.vals e he).length]; exact List.length_filter_le _ _
theorem IxQ.len {key : Row2 → Option It} {dn : List Row2} {q : List (It × Addr × List Value)} (h : IxQ g key dn q) : q.length ≤ dn.length := by
  have := nodup_le (l := (q.map (·.1)).map some) (U := dn.map key) (by
    have := h.nd
    rw [List.nodup_iff_pairwise_ne] at this ⊢
    rw [List.pairwise_map]
    exact this.imp fun hne e => hne (Option.some.inj e)) (fun x hx => by
      obtain ⟨j, hj, rfl⟩ := List.mem_map.mp hx
      obtain ⟨r, hr, e⟩ := (h.keys j).mp hj
      exact List.mem_map.mpr ⟨r, hr, e⟩)
  simpa using this

/-- the words' index -/
structure LxQ (W : Str → Prop) (c : Nat) (q : List (Str × Addr × List Value)) : Prop where
  nd : (q.map (·.1)).Nodup
  keys : ∀ x, x ∈ q.map (·.1) ↔ W x
  len : q.length ≤ c
  vals : ∀ e ∈ q, e.2.2 ≠ [] ∧ e.2.2.length ≤ c
theorem LxQ.iff {W W' : Str → Prop} {c c' : Nat} {q : List (Str × Addr × List Value)} (h : LxQ W c q) (hW : ∀ x, W x ↔ W' x) (hc : c ≤ c') : LxQ W' c' q := ⟨h.nd, fun x => (h.keys x).trans (hW x), Nat.le_trans h.len hc, fun e he => ⟨(h.vals e he).1, Nat.le_trans (h.vals e he).2 hc⟩⟩
theorem LxQ.push {W : Str → Prop} {c : Nat} {q l1 l2 : List (Str × Addr × List Value)} {x : Str} {b : Addr} {vs : List Value} {v : Value} (h : LxQ W c q) (hq : q = l1 ++ (x, b, vs) :: l2 ∨ (x ∉ q.map (·.1) ∧ l1 = q ∧ vs = [] ∧ l2 = [])) :
    LxQ (fun y => W y ∨ y = x) (c + 1) (l1 ++ (x, b, vs ++ [v]) :: l2) := by
  rcases hq with rfl | ⟨hn, rfl, rfl, rfl⟩
  · have hm : ∀ us : List Value, (l1 ++ (x, b, us) :: l2).map (·.1) = l1.map (·.1) ++ x :: l2.map (·.1) := fun us => by simp
    have hl : (l1 ++ (x, b, vs) :: l2).length ≤ c := h.len
    refine ⟨by rw [hm, ← hm vs]; exact h.nd, fun y => ?_, by simp at hl ⊢; omega, fun e he => ?_⟩
    · rw [hm, ← hm vs, h.keys y]
      exact ⟨.inl, fun q => q.elim id fun e => (h.keys y).mp (by rw [hm, e]; simp)⟩
    · rcases List.mem_append.mp he with he | he
      · have := h.vals e (List.mem_append_left _ he); exact ⟨this.1, by omega⟩
      · rcases List.mem_cons.mp he with rfl | he
        · have := h.vals (x, b, vs) (by simp); exact ⟨by simp, by simp at this ⊢; omega⟩
        · have := h.vals e (List.mem_append_right _ (.tail _ he)); exact ⟨this.1, by omega⟩
  · have hl := h.len
    refine ⟨?_, fun y => ?_, by simp; omega, fun e he => ?_⟩
    · rw [List.map_append, List.nodup_append]
      exact ⟨h.nd, by simp, fun a ha c hc e => by simp at hc; rw [e, hc] at ha; exact hn ha⟩
    · rw [← h.keys y, List.map_append, List.mem_append]
      exact or_congr Iff.rfl (by simp)
    · rcases List.mem_append.mp he with he | he
      · have := h.vals e he; exact ⟨this.1, by omega⟩
      · cases List.mem_singleton.mp he; exact ⟨by simp, by simp⟩

def hasW (ps : List Row2) (x : Str) : Prop := ∃ p ∈ ps, (⟨true, x⟩ : It) ∈ p.2
/-- the words' index, at rest -/
def LexAt (prog : Program) (w : World) (g : Heap) (v : Value) (ps : List Row2) : Prop := ∃ d o kvs, v = .ref d ∧ d ≠ 1 ∧ g.get? d = some o ∧ SDP prog w kvs o ∧ (∀ kv ∈ kvs, ∃ b vs, kv.2 = .ref b ∧ g.IsList b vs ∧ 0 < vs.size ∧ vs.size ≤ 900) ∧ ∀ x, x ∈ kvs.map (·.1) ↔ hasW ps x
theorem LexAt.mono {v : Value} {ps : List Row2} (h : LexAt prog w g v ps) (hs : Sub g g') : LexAt prog w g' v ps :=
  let ⟨d, o, kvs, a, b, c, e, f, i⟩ := h; ⟨d, o, kvs, a, b, hs _ _ c, e, fun kv hkv => let ⟨b, vs, x, y, z⟩ := f kv hkv; ⟨b, vs, x, isList_mono y hs, z⟩, i⟩

abbrev ledI (prog : Program) (w : World) (d1 d2 d3 d4 : Addr) (xd1 xd2 xd3 : KVs) (q1 q2 : List (It × Addr × List Value)) (q4 : List (Str × Addr × List Value)) (D : Addr × (Obj → Prop)) : Led :=
  (d1, DP prog w xd1) :: (d2, DP prog w xd2) :: (d3, DP prog w xd3) :: (d4, SDP prog w (lexK q4)) :: (LstF q1 ++ LstF q2 ++ LexF q4 ++ [D])
structure JIx (prog : Program) (w : World) (dn : List Row2) (W : Str → Prop) (c : Nat) (g : Heap) (xd1 xd2 xd3 : KVs) (q1 q2 : List (It × Addr × List Value)) (q4 : List (Str × Addr × List Value)) : Prop where
  e1 : EntR RefTo g xd1 (adr q1)
  x1 : IxQ g keyL dn q1
  e2 : EntR RefTo g xd2 (adr q2)
  x2 : IxQ g keyR dn q2
  e3 : EntR ProdAt g xd3 (idxE dn)
  x4 : LxQ W c q4
theorem JIx.mono {dn : List Row2} {W : Str → Prop} {c : Nat} {xd1 xd2 xd3 : KVs} {q1 q2 : List (It × Addr × List Value)} {q4 : List (Str × Addr × List Value)} (h : JIx prog w dn W c g xd1 xd2 xd3 q1 q2 q4) (hs : Sub g g') : JIx prog w dn W c g' xd1 xd2 xd3 q1 q2 q4 :=
  ⟨h.e1.mono RefTo.mono hs, h.x1.mono hs, h.e2.mono RefTo.mono hs, h.x2.mono hs, h.e3.mono ProdAt.mono' hs, h.x4⟩

theorem a334_lex_index (P : Params) : findIn (hd.heap_39 P) (.ref 334) "_lexical_index" = some none := by kernel_rfl
theorem g_is_terminal (P : Params) : nsIn (hd.heap_39 P) mainGlobals "is_terminal" = some (some (.ref 84)) := by kernel_rfl
theorem kp84 (P : Params) : keepIn (hd.heap_39 P) (.ref 84) = true := by kernel_rfl

def ixNames : List Str := ["_lhs_index", "_rhs_index", "_empty_index", "_lexical_index"]
theorem idxE_snoc {dn : List Row2} {p : Row2} : idxE (dn ++ [p]) = idxE dn ++ if p.2 = [] then [(p.1, p)] else [] := by
  unfold idxE
  rw [List.filter_append, List.map_append]
  by_cases h : p.2 = []
  · rw [if_pos h, List.filter_cons_of_pos (by simp [h])]; rfl
  · rw [if_neg h, List.filter_cons_of_neg (by simp [h])]; rfl
theorem idxE_not {dn : List Row2} {p : Row2} (hn : (dn ++ [p]).Nodup) (hp : p.2 = []) : p.1 ∉ (idxE dn).map (·.1) := by
  intro q
  obtain ⟨e, he, h1⟩ := List.mem_map.mp q
  obtain ⟨r, hr, rfl⟩ := List.mem_map.mp he
  obtain ⟨hr1, hr2⟩ := List.mem_filter.mp hr
  simp only [decide_eq_true_eq] at hr2
  have : r = p := Prod.ext h1 (hr2.trans hp.symm)
  rw [List.nodup_append] at hn
  exact hn.2.2 _ hr1 _ (.head _) this
end
end Mine
end

section
open PySem PySem.W PySem.Calls PyProof.Rows
set_option maxRecDepth 100000
namespace Mine
theorem fillK16 (P : Params) : hd.heap_39 P = hd.heap_39 P → PySem.Challenge.rw_bn0044_01 = PySem.Challenge.rw_bn0044_01 := by
  k_fill
  exact fun _ => rfl

section
variable {prog : Program} {w : World} {mg mb : Str → Option Value} {A : Around} {E : Value → Shared → Prop} {s s' : Shared} {F : Fx} {g g' : Heap} {led : Led} {m : Str → Option Value} {env : Env}

/-- an if whose two ways meet -/
theorem ex_ifJ {M : Model} {t : PySem.Expr} {b o rest : List Stmt} {pos : Pos} {Q : Flow → Shared → Prop} (I : Shared → Prop)
    (h : wpAny M A (isTrue t env (eval t env)) (fun c s' => if c then wpAny M A (execs b env) (fun f s'' => f = .next ∧ I s'') E s' else wpAny M A (execs o env) (fun f s'' => f = .next ∧ I s'') E s') E s)
    (hr : ∀ s, I s → wpAny M A (execs rest env) Q E s) : wpAny M A (execs (.If t b o pos :: rest) env) Q E s := by
  refine ex_if (wpAny_mono h (fun c s' q => ?_) fun _ _ q => q)
  cases c with
  | true => simp only [if_true] at q ⊢; exact wpAny_mono q (fun f s'' ⟨e, hI⟩ => by subst e; exact hr _ hI) fun _ _ q => q
  | false => simp only [Bool.false_eq_true, if_false] at q ⊢; exact wpAny_mono q (fun f s'' ⟨e, hI⟩ => by subst e; exact hr _ hI) fun _ _ q => q

theorem ofQ {β : Type} {xs : KVs} {q : List (It × Addr × List Value)} {R : Heap → Value → β → Prop} (f : It × Addr × List Value → β) (h : EntR RefTo g xs (adr q)) (hq : ∀ e ∈ q, R g (.ref e.2.1) (f e)) : EntR R g xs (q.map fun e => (e.1, f e)) := by
  have h1 := EntR.ofA (R := R) (q := q.map fun e => (e.1, e.2.1, f e)) (xs := xs) (g := g) (by
    have : adr (q.map fun e => (e.1, e.2.1, f e)) = adr q := by unfold adr; rw [List.map_map]; rfl
    rw [this]; exact h) (fun e he => by obtain ⟨e', he', rfl⟩ := List.mem_map.mp he; exact hq e' he')
  rw [List.map_map] at h1
  exact h1
theorem SQ.is {h : Heap} {a : Addr} {o : Obj} {vs : List Value} (p : SQ vs o) (e : h.get? a = some o) : h.IsList a vs.toArray := by obtain ⟨n, rfl⟩ := p; exact ⟨_, e, rfl, n, rfl⟩
theorem ledI_a {d1 d2 d3 d4 : Addr} {xd1 xd2 xd3 : KVs} {q1 q2 : List (It × Addr × List Value)} {q4 : List (Str × Addr × List Value)} {D e : Addr × (Obj → Prop)} :
    e :: ledI prog w d1 d2 d3 d4 xd1 xd2 xd3 q1 q2 q4 D = [e] ++ (d1, DP prog w xd1) :: ([(d2, DP prog w xd2), (d3, DP prog w xd3), (d4, SDP prog w (lexK q4))] ++ LstF q1 ++ (LstF q2 ++ LexF q4)) ++ D :: [] := by simp [ledI]
theorem ledI_b {d1 d2 d3 d4 : Addr} {xd1 xd2 xd3 : KVs} {q1 q2 : List (It × Addr × List Value)} {q4 : List (Str × Addr × List Value)} {D e : Addr × (Obj → Prop)} :
    e :: ledI prog w d1 d2 d3 d4 xd1 xd2 xd3 q1 q2 q4 D = [e, (d1, DP prog w xd1)] ++ (d2, DP prog w xd2) :: (((d3, DP prog w xd3) :: (d4, SDP prog w (lexK q4)) :: LstF q1) ++ LstF q2 ++ LexF q4) ++ D :: [] := by simp [ledI]
theorem ledI_c {d1 d2 d3 d4 : Addr} {xd1 xd2 xd3 : KVs} {q1 q2 : List (It × Addr × List Value)} {q4 : List (Str × Addr × List Value)} {D e : Addr × (Obj → Prop)} :
    e :: ledI prog w d1 d2 d3 d4 xd1 xd2 xd3 q1 q2 q4 D = [e, (d1, DP prog w xd1), (d2, DP prog w xd2)] ++ (d3, DP prog w xd3) :: ((d4, SDP prog w (lexK q4)) :: (LstF q1 ++ LstF q2 ++ LexF q4 ++ [D])) := rfl
theorem ledI_d {d1 d2 d3 d4 : Addr} {xd1 xd2 xd3 : KVs} {q1 q2 : List (It × Addr × List Value)} {q4 : List (Str × Addr × List Value)} {D e : Addr × (Obj → Prop)} :
    e :: ledI prog w d1 d2 d3 d4 xd1 xd2 xd3 q1 q2 q4 D = (e :: (d1, DP prog w xd1) :: (d2, DP prog w xd2) :: (d3, DP prog w xd3) :: (d4, SDP prog w (lexK q4)) :: (LstF q1 ++ LstF q2 ++ LexF q4)) ++ D :: [] := by simp [ledI]
theorem ledI_e {d1 d2 d3 d4 : Addr} {xd1 xd2 xd3 : KVs} {q1 q2 : List (It × Addr × List Value)} {l1 l2 : List (Str × Addr × List Value)} {x : Str} {b : Addr} {vs : List Value} {D e1 e2 : Addr × (Obj → Prop)} :
    e1 :: e2 :: ledI prog w d1 d2 d3 d4 xd1 xd2 xd3 q1 q2 (l1 ++ (x, b, vs) :: l2) D = (e1 :: e2 :: (d1, DP prog w xd1) :: (d2, DP prog w xd2) :: (d3, DP prog w xd3) :: (d4, SDP prog w (lexK (l1 ++ (x, b, []) :: l2))) :: (LstF q1 ++ LstF q2 ++ LexF l1)) ++ (b, SQ vs) :: (LexF l2 ++ [D]) := by
  have : lexK (l1 ++ (x, b, vs) :: l2) = lexK (l1 ++ (x, b, []) :: l2) := by unfold lexK; simp
  unfold ledI
  rw [this, show LexF (l1 ++ (x, b, vs) :: l2) = LexF l1 ++ (b, SQ vs) :: LexF l2 from Fam_split]
  simp
theorem setdefX {d1 d2 d3 d4 : Addr} {xd1 xd2 xd3 : KVs} {q1 q2 : List (It × Addr × List Value)} {q4 : List (Str × Addr × List Value)} {x : Str} {t : Tok} {fl : Addr} {D e1 e2 : Addr × (Obj → Prop)} {Q : Value → Shared → Prop} (hd : d4 ≠ 1)
    (H : In F g ((fl, SQ []) :: e1 :: e2 :: ledI prog w d1 d2 d3 d4 xd1 xd2 xd3 q1 q2 q4 D) m s) (hn : (q4.map (·.1)).Nodup) (hz : q4.length ≤ 900)
    (h : ∀ l1 b vs l2 s', (q4 = l1 ++ (x, b, vs) :: l2 ∨ (x ∉ q4.map (·.1) ∧ l1 = q4 ∧ vs = [] ∧ l2 = [])) → In F g (e1 :: e2 :: ledI prog w d1 d2 d3 d4 xd1 xd2 xd3 q1 q2 (l1 ++ (x, b, vs) :: l2) D) m s' → Q (.ref b) s') :
    wpAny (model prog w) A (call (.builtin "dict.setdefault") [.ref d4, .str x t, .ref fl]) Q E s := by
  refine setdefD (P := (fl, SQ []) :: e1 :: e2 :: (d1, DP prog w xd1) :: (d2, DP prog w xd2) :: [(d3, DP prog w xd3)]) (R := LstF q1 ++ LstF q2 ++ LexF q4 ++ [D]) (kvs := lexK q4) hd H (by unfold lexK; rw [List.length_map]; exact hz) (fun v s' hv H => ?_) fun s' hv H => ?_
  · rcases lexK_at (x := x) hn with ⟨l1, b, vs, l2, rfl, hat⟩ | ⟨_, hat⟩
    · rw [hv] at hat
      cases hat
      exact h l1 b vs l2 s' (.inl rfl) H.drop
    · rw [hv] at hat; cases hat
  · rcases lexK_at (x := x) hn with ⟨l1, b, vs, l2, rfl, hat⟩ | ⟨hx, _⟩
    · rw [hv] at hat; cases hat
    · refine h q4 fl [] [] s' (.inr ⟨hx, rfl, rfl, rfl⟩) ?_
      rw [stored_new hv, show lexK q4 ++ [(x, Value.ref fl)] = lexK (q4 ++ (x, fl, []) :: []) from by unfold lexK; simp] at H
      rw [ledI_e]
      refine H.perm (perm_last.trans (.cons _ ?_))
      rw [show LexF ([] : List (Str × Addr × List Value)) = [] from rfl]
      simp
theorem newLQ {M : Model} {pos : Pos} {Q : Value → Shared → Prop} (H : In F g led m s) (h : ∀ l s', In F g ((l, SQ []) :: led) m s' → s.heap.objs.size ≤ l → Q (.ref l) s') : wpAny M A (eval (.List [] pos) env) Q E s :=
  listQ (a0 ⟨_, _, _, _, H, Nat.zero_le _, h⟩)

set_option maxHeartbeats 2000000 in
/-- self._calculate_indexes() -/
theorem ixs_spec {s0 : Shared} {x dx : Addr} {n : Nat} {f : Str → Option Value} {pv : Value} {ps : List Row2} {Q : Value → Shared → Prop} (r : Room A 3 90) (k : KB w mg mb g) (hs : Sub g s0.heap) (hx : g.get? x = some (instObj 334 dx))
    (hfp : f "_productions" = some pv) (hpv : Lst ProdAt g pv ps) (hn : n ≤ 900) (hnd : ps.Nodup) (h6 : ps.length ≤ 6) (hz3 : ∀ p ∈ ps, p.2.length ≤ 3)
    (hd1 : ∃ o, s0.heap.get? dx = some o ∧ NsO n f o) (hd2 : g.get? dx = none)
    (h : ∀ s' g' f' v1 G1 v2 G2 v3 v4, Rel [dx] s0 g s' g' → (∃ o, s'.heap.get? dx = some o ∧ NsO (n + 4) f' o) → g'.get? dx = none →
      DictR prog w (Lst ProdAt) g' v1 G1 → IdxL ps G1 → DictR prog w (Lst ProdAt) g' v2 G2 → IdxR ps G2 → DictR prog w ProdAt g' v3 (idxE ps) → LexAt prog w g' v4 ps →
      (handedIn v1 = true ∧ handedIn v2 = true ∧ handedIn v3 = true ∧ handedIn v4 = true) → (f' "_lhs_index" = some v1 ∧ f' "_rhs_index" = some v2 ∧ f' "_empty_index" = some v3 ∧ f' "_lexical_index" = some v4) →
      (∀ y : Str, y ∉ ixNames → f' y = f y) → Q .none s') : wpAny (model prog w) A (call (.ref 181) [.ref x]) Q E s0 := by
  have hgt := k.gt hs
  obtain ⟨pl, pvs, rfl, hpl, hpa⟩ := hpv
  refine enterL [("self", .ref x)] (led := [(dx, NsO n f)]) k hs r.lt (fun p hp => by cases List.mem_singleton.mp hp; exact ⟨hd1, hd2⟩) (by simp) ?_
  intro L s H
  have r' : ∀ env, Room (A.deeper env) 2 87 := fun env => r.deeper
  refine ex_setA (dictQ H fun d1 s1 H1 h1s => ?_)
  have h1s := H.was h1s
  clear H
  refine nm H1 rfl (setA (pre := [(d1, DP prog w [])]) H1 k (c334 _) (H1.into _ _ hx) (by kernel_rfl) (fun s H => ?_) (by omega))
  refine ex_setA (dictQ H fun d2 s1 H2 h2s => ?_)
  have h2s := H.was h2s
  clear H
  refine nm H2 rfl (setA (pre := [(d2, DP prog w []), (d1, DP prog w [])]) H2 k (c334 _) (H2.into _ _ hx) (by kernel_rfl) (fun s H => ?_) (by omega))
  refine ex_setA (dictQ H fun d3 s1 H3 h3s => ?_)
  have h3s := H.was h3s
  clear H
  refine nm H3 rfl (setA (pre := [(d3, DP prog w []), (d2, DP prog w []), (d1, DP prog w [])]) H3 k (c334 _) (H3.into _ _ hx) (by kernel_rfl) (fun s H => ?_) (by omega))
  refine ex_setA (wpAny_Dict_empty ?_)
  have h4s := H.was (Nat.le_refl s.heap.objs.size)
  have H := H.new { cls := .type "dict", data := .dict #[] } rfl (SDP prog w []) SDP.nil
  generalize s.heap.objs.size = d4 at H h4s
  refine nm H rfl (setA (pre := [(d4, SDP prog w []), (d3, DP prog w []), (d2, DP prog w []), (d1, DP prog w [])]) H k (c334 _) (H.into _ _ hx) (by kernel_rfl) (fun s H => ?_) (by omega))
  generalize hf4 : (fun y : Str => if y = "_lexical_index" then some (Value.ref d4) else (fun y : Str => if y = "_empty_index" then some (Value.ref d3) else (fun y : Str => if y = "_rhs_index" then some (Value.ref d2) else (fun y : Str => if y = "_lhs_index" then some (Value.ref d1) else f y) y) y) y) = f4 at H
  have hfp4 : f4 "_productions" = some (.ref pl) := by rw [← hf4]; exact ((if_neg (by decide)).trans ((if_neg (by decide)).trans ((if_neg (by decide)).trans (if_neg (by decide))))).trans hfp
  have hfa : f4 "_lhs_index" = some (.ref d1) := by rw [← hf4]; exact (if_neg (by decide)).trans ((if_neg (by decide)).trans ((if_neg (by decide)).trans (if_pos rfl)))
  have hfb : f4 "_rhs_index" = some (.ref d2) := by rw [← hf4]; exact (if_neg (by decide)).trans ((if_neg (by decide)).trans (if_pos rfl))
  have hfc : f4 "_empty_index" = some (.ref d3) := by rw [← hf4]; exact (if_neg (by decide)).trans (if_pos rfl)
  have hfd : f4 "_lexical_index" = some (.ref d4) := by rw [← hf4]; exact if_pos rfl
  refine ex_for (Attribute_any_ (nm H rfl (attrD (pre := [(d4, SDP prog w []), (d3, DP prog w []), (d2, DP prog w []), (d1, DP prog w [])]) H k (c334 _) hx (a334_productions _) hfp4 rfl fun s H => itListA H hpl hpa fun I St s S H => ?_)))
  have H := H.perm (l := (I, St ps) :: ledI prog w d1 d2 d3 d4 [] [] [] [] [] [] (dx, NsO (n + 1 + 1 + 1 + 1) f4)) (.cons _ ((List.reverse_perm [(d4, SDP prog w []), (d3, DP prog w []), (d2, DP prog w []), (d1, DP prog w [])]).append_right [(dx, NsO (n + 1 + 1 + 1 + 1) f4)]))
  have ge1 : ∀ {d : Addr}, _ ≤ d → d ≠ 1 := fun {d} (h : _ ≤ d) (e : d = 1) => by rw [e] at h; exact absurd (Nat.lt_of_lt_of_le hgt h) (by show ¬ 403 < 1; decide)
  have hd11 := ge1 h1s
  have hd21 : d2 ≠ 1 := ge1 h2s
  have hd31 : d3 ≠ 1 := ge1 h3s
  have hd41 : d4 ≠ 1 := ge1 h4s
  refine forL (fun rest g led m => ∃ xd1 xd2 xd3 q1 q2 q4 dn, led = ledI prog w d1 d2 d3 d4 xd1 xd2 xd3 q1 q2 q4 (dx, NsO (n + 1 + 1 + 1 + 1) f4) ∧ JIx prog w dn (hasW dn) (3 * dn.length) g xd1 xd2 xd3 q1 q2 q4 ∧ ps = dn ++ rest ∧ m "self" = some (.ref x)) S r.hh (.refl _) H
    ⟨[], [], [], [], [], [], [], rfl, ⟨.nil, .nil, .nil, .nil, .nil, ⟨List.nodup_nil, fun y => ⟨fun h => (nomatch h), fun ⟨_, h, _⟩ => (nomatch h)⟩, Nat.le_refl _, fun _ h => nomatch h⟩⟩, rfl, rfl⟩ ?_ ?_
  · rintro p rest g6 led6 m6 s pv hg6 hpp H ⟨xd1, xd2, xd3, q1, q2, q4, dn, rfl, J, hdn, hms⟩
    have hpm : p ∈ ps := by rw [hdn]; exact List.mem_append_right _ (.head _)
    have hpp6 := hpp.mono hg6
    obtain ⟨px, plv, T, vs2, rfl, hpI, h1, h2, h3⟩ := id hpp6
    have k6 := k.mono hg6
    have hx6 := hg6 _ _ hx
    have hdl : dn.length ≤ 5 := by have := congrArg List.length hdn; simp at this; omega
    have hvl : vs2.length = p.2.length := h3.length
    have hp3 := hz3 p hpm
    refine asN H fun s H => ?_
    refine ex_set (Call_ (nmG H k6 (g_key _) (callW (kp91 _) (a1 (Attribute_any_ (nm H (if_pos rfl) (attr H k6 (c155 _) hpI (a155_lhs _) rfl h1.handed fun s H => ⟨H.K k6, ?_⟩)))))))
    refine key_spec ((r' _).le (by decide) (by decide)) k6 H.into h1 fun kv s g7 R7 hkv => ?_
    have H := H.call0 R7
    have k7 := k6.mono R7.sub
    have J7 := J.mono R7.sub
    have hx7 := R7.sub _ _ hx6
    obtain ⟨ka, _, _, rfl, _⟩ := id hkv
    refine st H fun s H => ?_
    rw [ledI_a] at H
    refine idxNew (kn := "lhs") (attr := "_lhs_index") ((r' _).u (by decide)) k7 hx7 (a334_lhs_index _) hfa hd11 H J7.e1 (by rw [keys_adr]; exact J7.x1.nd) hkv
      (by rw [J7.e1.length]; unfold adr; rw [List.length_map]; have := J7.x1.len; omega) (((if_neg (by decide)).trans (if_neg (by decide))).trans hms) (if_pos rfl) rfl rfl (by kernel_rfl) (by kernel_rfl) (by kernel_rfl) fun xd1' l1 b vs l2 s hq1 hE1 hN1 H => ?_
    have x1' := J7.x1.push (key := keyL) (p := p) (j := p.1) (v := .ref px) rfl (hpp6.mono R7.sub) hq1
    have hvb : vs.length ≤ 900 := by
      have := x1'.bound (e := (p.1, b, vs ++ [.ref px])) (by simp)
      simp at this; omega
    refine idxApp (kn := "lhs") (attr := "_lhs_index") ((r' _).u (by decide)) k7 hx7 (a334_lhs_index _) hfa H hE1 hN1 hkv
      (((if_neg (by decide)).trans (if_neg (by decide))).trans hms) (if_pos rfl) ((if_neg (by decide)).trans (if_pos rfl)) hvb rfl rfl (by kernel_rfl) (by kernel_rfl) (by kernel_rfl) (by kernel_rfl) (fun s H => ?_) rfl
    rw [show adr (l1 ++ (p.1, b, vs) :: l2) = adr (l1 ++ (p.1, b, vs ++ [.ref px]) :: l2) from adr_split] at hE1
    generalize l1 ++ (p.1, b, vs ++ [Value.ref px]) :: l2 = q1' at H x1' hE1
    rw [← ledI_a] at H
    refine ex_ifJ (fun s => ∃ g8 xd2' xd3' q2' m8, Sub g7 g8 ∧ In ⟨s0, g, [dx], L⟩ g8 ((I, St rest) :: ledI prog w d1 d2 d3 d4 xd1' xd2' xd3' q1' q2' q4 (dx, NsO (n + 1 + 1 + 1 + 1) f4)) m8 s ∧ JIx prog w (dn ++ [p]) (hasW dn) (3 * dn.length) g8 xd1' xd2' xd3' q1' q2' q4 ∧ m8 "self" = some (.ref x) ∧ m8 "prod" = some (.ref px)) ?_ ?_
    · refine isT (Attribute_any_ (nm H ((if_neg (by decide)).trans (if_pos rfl)) (attr H k7 (c155 _) (hpI.mono R7.sub) (a155_rhs _) rfl rfl fun s H => truthy_tuple (isTup_mono (isTup_mono h2 R7.sub) H.into) (by rw [List.size_toArray]; omega) ?_)))
      have H := H.toks (s.toks + 1 + 1)
      cases hv2 : vs2 with
      | nil =>
        have hp0 : p.2 = [] := by rw [hv2] at hvl; exact List.eq_nil_of_length_eq_zero hvl.symm
        show if (!([] : List Value).toArray.isEmpty) = true then _ else _
        simp only [List.isEmpty_toArray, List.isEmpty_nil, Bool.not_true, Bool.false_eq_true, if_false]
        refine ex_setI (nm H ((if_neg (by decide)).trans (if_pos rfl)) (Attribute_any_ (nm H (((if_neg (by decide)).trans (if_neg (by decide))).trans hms) ?_)))
        rw [ledI_d] at H
        refine attrD H k7 (c334 _) hx7 (a334_empty_index _) hfc rfl fun s H => ?_
        refine Call_ (nmG H k7 (g_key _) (callW (kp91 _) (a1 (MethodCall_ (nm H ((if_neg (by decide)).trans (if_pos rfl)) (meth H k7 (c155 _) (hpI.mono R7.sub) (M_lhs _) rfl (callW0 (H.K k7) (M_lhs _).k ?_)))))))
        refine lhs_spec ((r' _).le (by decide) (by decide)) k7 H.into (hpI.mono R7.sub) h1.handed fun s g8 R8 => ?_
        have H := H.call0 R8
        have k8 := k7.mono R8.sub
        refine ⟨H.K k8, key_spec ((r' _).le (by decide) (by decide)) k8 H.into (h1.mono (R7.sub.trans R8.sub)) fun kv s g9 R9 hkv9 => ?_⟩
        have H := H.call0 R9
        have S79 := R8.sub.trans R9.sub
        obtain ⟨kb, _, _, rfl, _⟩ := id hkv9
        rw [← ledI_d, ledI_c] at H
        have hE3 := (J7.mono S79).e3
        have hnp : (dn ++ [p]).Nodup := by
          rw [hdn, List.append_cons] at hnd
          exact (List.nodup_append.mp hnd).1
        refine setD ((r' _).u (by decide)) H hE3.keys hkv9.isg ?_ fun s H => ex_nil ⟨rfl, ?_⟩
        · rw [hE3.length]; unfold idxE; rw [List.length_map]; exact Nat.le_trans (List.length_filter_le _ _) (by omega)
        rw [← ledI_c] at H
        refine ⟨g9, xd2, _, q2, _, S79, H, ⟨hE1.mono RefTo.mono S79, x1'.mono S79, (J7.mono S79).e2, (J7.mono S79).x2.skip (by unfold keyR; rw [hp0]; rfl), ?_, J7.x4⟩, ((if_neg (by decide)).trans (if_neg (by decide))).trans hms, (if_neg (by decide)).trans (if_pos rfl)⟩
        rw [idxE_snoc, if_pos hp0]
        exact hE3.new (idxE_not hnp hp0) hkv9 ((hpp6.mono R7.sub).mono S79)
      | cons y ys =>
        subst hv2
        show if (!(y :: ys).toArray.isEmpty) = true then _ else _
        simp only [List.isEmpty_toArray, List.isEmpty_cons, Bool.not_false, if_true]
        obtain ⟨i, is, hp2⟩ : ∃ q qs, p.2 = q :: qs := by
          cases hp2 : p.2 with
          | nil => rw [hp2] at hvl; simp at hvl
          | cons q qs => exact ⟨q, qs, rfl⟩
        have hyi : ItemAt g6 y i := by rw [hp2] at h3; cases h3; assumption
        refine ex_set (Call_ (nmG H k7 (g_key _) (callW (kp91 _) (a1 (Subscript_ (Attribute_any_ (nm H ((if_neg (by decide)).trans (if_pos rfl)) (attr H k7 (c155 _) (hpI.mono R7.sub) (a155_rhs _) rfl rfl fun s H => cst_i H fun u s H => ?_))))))))
        refine ixH H (isTup_mono h2 R7.sub) ⟨H.K k7, ?_⟩
        refine key_spec ((r' _).le (by decide) (by decide)) k7 H.into (hyi.mono R7.sub) fun kv s g8 R8 hkv8 => ?_
        have H := H.call0 R8
        have k8 := k7.mono R8.sub
        have J8 := J7.mono R8.sub
        have hx8 := R8.sub _ _ hx7
        obtain ⟨kb, _, _, rfl, _⟩ := id hkv8
        refine st H fun s H => ?_
        rw [ledI_b] at H
        refine idxNew (kn := "rhs0") (attr := "_rhs_index") ((r' _).u (by decide)) k8 hx8 (a334_rhs_index _) hfb hd21 H J8.e2 (by rw [keys_adr]; exact J8.x2.nd) hkv8
          (by rw [J8.e2.length]; unfold adr; rw [List.length_map]; have := J8.x2.len; omega) (((if_neg (by decide)).trans ((if_neg (by decide)).trans (if_neg (by decide)))).trans hms) (if_pos rfl) rfl rfl (by kernel_rfl) (by kernel_rfl) (by kernel_rfl) fun xd2' l1 b vs l2 s hq2 hE2 hN2 H => ?_
        have x2' := J8.x2.push (key := keyR) (p := p) (j := i) (v := .ref px) (by unfold keyR; rw [hp2]; rfl) ((hpp6.mono R7.sub).mono R8.sub) hq2
        have hvb2 : vs.length ≤ 900 := by
          have := x2'.bound (e := (i, b, vs ++ [.ref px])) (by simp)
          simp at this; omega
        refine idxApp (kn := "rhs0") (attr := "_rhs_index") ((r' _).u (by decide)) k8 hx8 (a334_rhs_index _) hfb H hE2 hN2 hkv8
          (((if_neg (by decide)).trans ((if_neg (by decide)).trans (if_neg (by decide)))).trans hms) (if_pos rfl) ((if_neg (by decide)).trans ((if_neg (by decide)).trans (if_pos rfl))) hvb2 rfl rfl (by kernel_rfl) (by kernel_rfl) (by kernel_rfl) (by kernel_rfl) (fun s H => ?_) rfl
        rw [show adr (l1 ++ (i, b, vs) :: l2) = adr (l1 ++ (i, b, vs ++ [.ref px]) :: l2) from adr_split] at hE2
        generalize l1 ++ (i, b, vs ++ [Value.ref px]) :: l2 = q2' at H x2' hE2
        rw [← ledI_b] at H
        refine ex_nil ⟨rfl, g8, xd2', xd3, q2', _, R8.sub, H, ⟨hE1.mono RefTo.mono R8.sub, x1'.mono R8.sub, hE2, x2', ?_, J8.x4⟩, ((if_neg (by decide)).trans ((if_neg (by decide)).trans (if_neg (by decide)))).trans hms, (if_neg (by decide)).trans ((if_neg (by decide)).trans (if_pos rfl))⟩
        rw [idxE_snoc, if_neg (by rw [hp2]; simp), List.append_nil]
        exact J8.e3
    · rintro s ⟨g8, xd2', xd3', q2', m8, S78, H, J8, hm8, hp8⟩
      have k8 := k7.mono S78
      have S68 := R7.sub.trans S78
      have hx8 := S68 _ _ hx6
      clear hE1 x1' J7
      refine ex_for (Attribute_any_ (nm H hp8 (attr H k8 (c155 _) (hpI.mono S68) (a155_rhs _) rfl rfl fun s H => itTupA H (isTup_mono h2 S68) (h3.mono S68) fun I2 St2 s S2 H => ?_)))
      refine forL (fun rest2 g led m => ∃ q4 dn2, led = (I, St rest) :: ledI prog w d1 d2 d3 d4 xd1' xd2' xd3' q1' q2' q4 (dx, NsO (n + 1 + 1 + 1 + 1) f4) ∧ LxQ (fun y => hasW dn y ∨ (⟨true, y⟩ : It) ∈ dn2) (3 * dn.length + dn2.length) q4 ∧ p.2 = dn2 ++ rest2 ∧ m "self" = some (.ref x) ∧ m "prod" = some (.ref px)) S2 r.hh (.refl _) H
        ⟨q4, [], rfl, J8.x4.iff (fun y => by simp) (by simp), rfl, hm8, hp8⟩ ?_ ?_
      · rintro i rest2 g9 led9 m9 s v hg9 hiv H ⟨q4', dn2, rfl, X4, hd2', hm9, hp9⟩
        have k9 := k8.mono hg9
        have hx9 := hg9 _ _ hx8
        have hiv9 := hiv.mono hg9
        have hdl2 : dn2.length ≤ 2 := by have := congrArg List.length hd2'; simp at this; omega
        refine asN H fun s H => ex_if (isT (Call_ (nmG H k9 (g_is_terminal _) (callW (kp84 _) (a1 (nm H (if_pos rfl) ⟨H.K k9, ?_⟩))))))
        refine isT_spec ((r' _).le (by decide) (by decide)) k9 H.into hiv9 fun s gc Rc => ?_
        have H := H.call0 Rc
        have kc := k9.mono Rc.sub
        have hxc := Rc.sub _ _ hx9
        refine tr_b ?_
        cases hit : i.t with
        | false =>
          simp only [Bool.false_eq_true, if_false]
          refine ex_nil (ex_nil ⟨gc, _, _, hg9.trans Rc.sub, H, q4', dn2 ++ [i], rfl, X4.iff (fun y => or_congr Iff.rfl ?_) (by rw [List.length_append]; omega), by rw [hd2']; simp, (if_neg (by decide)).trans hm9, (if_neg (by decide)).trans hp9⟩)
          rw [List.mem_append, List.mem_singleton]
          exact ⟨.inl, fun q => q.elim id fun e => by rw [← e] at hit; cases hit⟩
        | true =>
          simp only [if_true]
          obtain ⟨tk, rfl⟩ : ∃ tk, v = .str i.n tk := by cases hiv with | word nn tk => exact ⟨tk, rfl⟩ | sym => cases hit
          have hi : i = ⟨true, i.n⟩ := by cases i; cases hit; rfl
          refine ex_expr (MethodCall_ (MethodCall_ (Attribute_any_ (nm H ((if_neg (by decide)).trans hm9) ?_))))
          rw [ledI_d, ← List.cons_append] at H
          refine attrD H kc (c334 _) hxc (a334_lex_index _) hfd rfl fun s H => ?_
          rw [List.cons_append, ← ledI_d] at H
          refine mSetdef (P := [(I2, St2 rest2), (I, St rest), (d1, DP prog w xd1'), (d2, DP prog w xd2'), (d3, DP prog w xd3')]) (d := d4) (kvs := lexK q4') (R := LstF q1' ++ LstF q2' ++ LexF q4' ++ [(dx, NsO (n + 1 + 1 + 1 + 1) f4)]) H (callB (aC (nm H (if_pos rfl) (a1 (newLQ H fun fl s H hfl => ?_)))))
          have hW' : ∀ y, (hasW dn y ∨ (⟨true, y⟩ : It) ∈ dn2) ∨ y = i.n ↔ hasW dn y ∨ (⟨true, y⟩ : It) ∈ dn2 ++ [i] := fun y => by
            rw [List.mem_append, List.mem_singleton, or_assoc]
            refine or_congr Iff.rfl (or_congr Iff.rfl ⟨fun e => ?_, fun e => ?_⟩)
            · rw [e]; exact hi.symm
            · rw [← e]
          refine setdefX hd41 H X4.nd (by have := X4.len; omega) fun l1 b vs l2 s hq H => ?_
          have X5 := X4.push (v := .ref px) hq
          have hvl5 : vs.length ≤ 900 := by
            have := (X5.vals (i.n, b, vs ++ [.ref px]) (by simp)).2
            simp at this; omega
          rw [ledI_e] at H
          refine mListQ H PySem.F.slot_list_append PySem.F.type_list_append (callB (a1 (nm H ((if_neg (by decide)).trans hp9) (appendQ H (by omega) fun s H => ⟨rfl, ?_⟩))))
          rw [← ledI_e] at H
          exact ex_nil (ex_nil ⟨gc, _, _, hg9.trans Rc.sub, H, _, dn2 ++ [i], rfl, X5.iff hW' (by rw [List.length_append, List.length_singleton]; omega), by rw [hd2']; simp, (if_neg (by decide)).trans hm9, (if_neg (by decide)).trans hp9⟩)
      · rintro g9 led9 m9 s hg9 H ⟨q4', dn2, rfl, X4, hd2', hm9, hp9⟩
        rw [List.append_nil] at hd2'
        have S69 := S68.trans hg9
        have J9 := J8.mono hg9
        refine ex_nil ⟨g9, _, _, hg6.trans S69, H, xd1', xd2', xd3', q1', q2', q4', dn ++ [p], rfl, ⟨J9.e1, J9.x1, J9.e2, J9.x2, J9.e3, X4.iff (fun y => ?_) ?_⟩, by rw [hdn]; simp, hm9⟩
        · rw [← hd2']
          constructor
          · rintro (⟨r, a, b⟩ | q)
            · exact ⟨r, List.mem_append_left _ a, b⟩
            · exact ⟨p, by simp, q⟩
          · rintro ⟨r, a, b⟩
            rcases List.mem_append.mp a with a | a
            · exact .inl ⟨r, a, b⟩
            · cases List.mem_singleton.mp a; exact .inr b
        · rw [← hd2', List.length_append, List.length_singleton]; omega
  · rintro g6 led6 m6 s hg6 H ⟨xd1, xd2, xd3, q1, q2, q4, dn, rfl, J, hdn, hms⟩
    rw [List.append_nil] at hdn
    subst hdn
    have ge : ∀ {p : Addr × (Obj → Prop)} {l1 : Led} {P : Obj → Prop} {F : Fx} {g : Heap} {m : Str → Option Value} {s : Shared}, F.mu = [dx] → In F g (l1 ++ [(dx, P)]) m s → p ∈ l1 → F.s0.heap.objs.size ≤ p.1 := fun hm H hp => H.was1 hm (List.mem_append_left _ hp) (H.ne2 (.inl hp))
    obtain ⟨o1, g7, hD1, ho1, hs7, H⟩ := H.freeze h1s
    obtain ⟨o2, g8, hD2, ho2, hs8, H⟩ := H.freeze h2s
    obtain ⟨o3, g9, hD3, ho3, hs9, H⟩ := H.freeze h3s
    obtain ⟨o4, ga, hD4, ho4, hsa, H⟩ := H.freeze h4s
    rw [List.append_assoc, List.append_assoc] at H
    obtain ⟨gb, hsb, H, hF1⟩ := In.freezeFam (q := q1) H fun e he => ge (p := (e.2.1, SQ e.2.2)) (l1 := LstF q1 ++ (LstF q2 ++ LexF q4)) rfl (by simpa using H) (List.mem_append_left _ (List.mem_map.mpr ⟨e, he, rfl⟩))
    obtain ⟨gc, hsc, H, hF2⟩ := In.freezeFam (q := q2) H fun e he => ge (p := (e.2.1, SQ e.2.2)) (l1 := LstF q2 ++ LexF q4) rfl (by simpa using H) (List.mem_append_left _ (List.mem_map.mpr ⟨e, he, rfl⟩))
    obtain ⟨gd, hsd, H, hF4⟩ := In.freezeFam (q := q4) H fun e he => ge (p := (e.2.1, SQ e.2.2)) (l1 := LexF q4) rfl H (List.mem_map.mpr ⟨e, he, rfl⟩)
    have Sad := (hsb.trans hsc).trans hsd
    have S9d := hsa.trans Sad
    have S8d := hs9.trans S9d
    have S7d := hs8.trans S8d
    have J := J.mono (hs7.trans S7d)
    refine ex_nil (h s gd f4 (.ref d1) (q1.map fun e => (e.1, ps.filter fun r => decide (r.1 = e.1))) (.ref d2) (q2.map fun e => (e.1, ps.filter fun r => decide (r.2.head? = some e.1))) (.ref d3) (.ref d4) H.rel (H.get (.head _)) (H.ne (P := NsO (n + 1 + 1 + 1 + 1) f4) (.head _)) ?_ ?_ ?_ ?_ ?_ ?_ ⟨rfl, rfl, rfl, rfl⟩ ⟨hfa, hfb, hfc, hfd⟩ ?_)
    · refine ⟨by rw [List.map_map]; exact J.x1.nd, d1, o1, xd1, rfl, hd11, S7d _ _ ho1, hD1, ofQ _ J.e1 fun e he => ?_⟩
      obtain ⟨o, ho, hq⟩ := hF1 e he
      refine ⟨e.2.1, e.2.2, rfl, isList_mono (hq.is ho) (hsc.trans hsd), ?_⟩
      have := J.x1.vals e he
      simpa [keyL] using this
    · refine ⟨fun j => ?_, fun e he => ?_⟩
      · rw [List.map_map]
        refine (J.x1.keys j).trans ?_
        rw [List.mem_map]
        exact ⟨fun ⟨r, a, b⟩ => ⟨r, a, Option.some.inj b⟩, fun ⟨r, a, b⟩ => ⟨r, a, congrArg some b⟩⟩
      · obtain ⟨e', _, rfl⟩ := List.mem_map.mp he; rfl
    · refine ⟨by rw [List.map_map]; exact J.x2.nd, d2, o2, xd2, rfl, hd21, S8d _ _ ho2, hD2, ofQ _ J.e2 fun e he => ?_⟩
      obtain ⟨o, ho, hq⟩ := hF2 e he
      exact ⟨e.2.1, e.2.2, rfl, isList_mono (hq.is ho) hsd, J.x2.vals e he⟩
    · refine ⟨fun j => ?_, fun e he => ?_⟩
      · rw [List.map_map]
        exact J.x2.keys j
      · obtain ⟨e', _, rfl⟩ := List.mem_map.mp he; rfl
    · refine ⟨?_, d3, o3, xd3, rfl, hd31, S9d _ _ ho3, hD3, J.e3⟩
      have : ∀ l : List Row2, l.Nodup → ((idxE l).map (·.1)).Nodup := fun l hl => by
        unfold idxE
        rw [List.map_map, List.nodup_iff_pairwise_ne, List.pairwise_map]
        have h2 := (hl.filter (fun r => decide (r.2 = [])))
        refine List.Pairwise.imp_of_mem (fun {a b} ha hb hne e => hne (Prod.ext e ?_)) h2
        have ha := (List.mem_filter.mp ha).2
        have hb := (List.mem_filter.mp hb).2
        simp only [decide_eq_true_eq] at ha hb
        rw [ha, hb]
      exact this _ hnd
    · refine ⟨d4, o4, lexK q4, rfl, hd41, Sad _ _ ho4, hD4, fun kv hkv => ?_, fun y => ?_⟩
      · obtain ⟨e, he, rfl⟩ := List.mem_map.mp hkv
        obtain ⟨o, ho, hq⟩ := hF4 e he
        obtain ⟨hne, hle⟩ := J.x4.vals e he
        refine ⟨e.2.1, e.2.2.toArray, rfl, hq.is ho, ?_, ?_⟩
        · rw [List.size_toArray]; exact List.length_pos_iff.mpr hne
        · rw [List.size_toArray]; omega
      · rw [← J.x4.keys y]
        unfold lexK
        rw [List.map_map]; rfl
    · intro y hy
      have a1 : y ≠ "_lhs_index" := fun e => hy (by rw [e]; decide)
      have a2 : y ≠ "_rhs_index" := fun e => hy (by rw [e]; decide)
      have a3 : y ≠ "_empty_index" := fun e => hy (by rw [e]; decide)
      have a4 : y ≠ "_lexical_index" := fun e => hy (by rw [e]; decide)
      rw [← hf4]
      simp only [a1, a2, a3, a4, if_false]
end
end Mine
end

section
open PySem PySem.W PySem.Calls PyProof.Rows
set_option maxRecDepth 100000
namespace Mine

/-! ## data, compared -/
theorem layAll {β : Type} {f : β → PyData} : ∀ (l : List β), (∀ x ∈ l, (f x).canLay0 = true) → PyData.canLayAll0 (l.map f) = true
  | [], _ => rfl
  | x :: l, h => by
    show ((f x).canLay0 && PyData.canLayAll0 (l.map f)) = true
    rw [h x (.head _), layAll l fun y hy => h y (.tail _ hy)]; rfl
theorem depAll {β : Type} {f : β → PyData} {n : Nat} (h : ∀ x, (f x).depth ≤ n) : ∀ (l : List β), PyData.depthAll (l.map f) ≤ n
  | [] => Nat.zero_le _
  | x :: l => by
    show max (f x).depth (PyData.depthAll (l.map f)) ≤ n
    exact Nat.max_le.mpr ⟨h x, depAll h l⟩
theorem eqvMap {β : Type} [DecidableEq β] {f : β → PyData} (hf : ∀ a b, PyData.eqv (f a) (f b) = decide (a = b)) : ∀ (l m : List β), PyData.eqvAll (l.map f) (m.map f) = decide (l = m)
  | [], [] => rfl
  | [], _ :: _ => rfl
  | _ :: _, [] => rfl
  | a :: l, b :: m => by
    show (PyData.eqv (f a) (f b) && PyData.eqvAll (l.map f) (m.map f)) = _
    rw [hf, eqvMap hf l m, ← Bool.decide_and]
    exact decide_eq_decide.mpr (by rw [List.cons.injEq])
theorem readsAll {β : Type} {h : Heap} {R : Value → β → Prop} {f : β → PyData} (hR : ∀ v b, R v b → ∃ as, Reads h v (f b) as) : ∀ {vs : List Value} {bs : List β}, All2 R vs bs → ∃ as, ReadsAll h vs (bs.map f) as
  | _, _, .nil => ⟨_, .nil⟩
  | _, _, .cons x r => let ⟨_, a⟩ := hR _ _ x; let ⟨_, b⟩ := readsAll hR r; ⟨_, .cons a b⟩

structure DataR {β : Type} [DecidableEq β] (n : Nat) (R : Heap → Value → β → Prop) (f : β → PyData) (ok : β → Prop) : Prop where
  reads : ∀ h v b, R h v b → ∃ as, Reads h v (f b) as
  eqv : ∀ a b, PyData.eqv (f a) (f b) = decide (a = b)
  mono : ∀ g g' v b, Sub g g' → R g v b → R g' v b
  lay : ∀ b, ok b → (f b).canLay0 = true
  dep : ∀ b, (f b).depth ≤ n

theorem tupDepth {a b : PyData} {n : Nat} (ha : a.depth ≤ n) (hb : b.depth ≤ n) : (PyData.tuple [a, b]).depth ≤ n + 1 := by
  simp [PyData.depth, PyData.depthAll]; omega
theorem dIt' : DataR 1 LIt pyIt okS where
  reads _ _ _ h := ⟨_, h.reads⟩
  eqv := eqvIt
  mono := LIt.mono'
  lay i h := by
    have h' : PyData.strOk i.n = true := h
    simp [pyIt, PyData.canLay0, PyData.canLayAll0, h']
  dep i := tupDepth (Nat.le_refl _) (Nat.le_refl _)
theorem dKey' : DataR 1 KeyAt pyKey okS where
  reads _ _ _ h := ⟨_, h.reads⟩
  eqv := eqvKey
  mono := KeyAt.mono'
  lay i h := by
    have h' : PyData.strOk i.n = true := h
    have h2 : PyData.strOk (if i.t = true then Str.ofString "T" else Str.ofString "N") = true := by cases i.t <;> decide +kernel
    simp [pyKey, PyData.canLay0, PyData.canLayAll0, h', h2]
  dep i := tupDepth (Nat.le_refl _) (Nat.le_refl _)
section
variable {β : Type} [DecidableEq β] {n : Nat} {R : Heap → Value → β → Prop} {f : β → PyData} {ok : β → Prop}
theorem DataR.lst (D : DataR n R f ok) : DataR (n + 1) (Lst R) (fun l => .list (l.map f)) (fun l => ∀ x ∈ l, ok x) where
  reads h v bs := by
    rintro ⟨l, vs, rfl, ⟨o, ho, hc, k, hd⟩, ha⟩
    obtain ⟨as, hr⟩ := readsAll (D.reads h) ha
    exact ⟨_, .list ho hc hd (by simpa using hr)⟩
  eqv a b := eqvMap D.eqv a b
  mono g g' v b s h := h.mono D.mono s
  lay l h := by
    show (PyData.list (l.map f)).canLay0 = true
    unfold PyData.canLay0
    exact layAll l fun x hx => D.lay x (h x hx)
  dep l := by
    have : (PyData.list (l.map f)).depth = PyData.depthAll (l.map f) + 1 := by simp [PyData.depth]; try omega
    rw [this]; exact Nat.succ_le_succ (depAll D.dep l)
end
def okR (p : Row2) : Prop := okS p.1 ∧ ∀ i ∈ p.2, okS i
theorem dRow' : DataR 3 LRow pyRow okR where
  reads h v p := by
    rintro ⟨a, lv, rv, rfl, ⟨o, ho, hc, k, hd⟩, hl, hr⟩
    obtain ⟨as, h1⟩ := dIt'.reads h lv _ hl
    obtain ⟨bs, h2⟩ := dIt'.lst.reads h rv _ hr
    exact ⟨_, .tuple ho hc hd (.cons h1 (.cons h2 .nil))⟩
  eqv p q := by
    obtain ⟨a, l⟩ := p; obtain ⟨b, m⟩ := q
    show (PyData.eqv (pyIt a) (pyIt b) && (PyData.eqvAll (l.map pyIt) (m.map pyIt) && true)) = _
    rw [eqvIt, eqvMap eqvIt, Bool.and_true, ← Bool.decide_and]
    exact decide_eq_decide.mpr (by rw [Prod.mk.injEq])
  mono := LRow.mono'
  lay p h := by
    have h1 := dIt'.lay p.1 h.1
    have h2 := dIt'.lst.lay p.2 h.2
    show (PyData.tuple [pyIt p.1, .list (p.2.map pyIt)]).canLay0 = true
    unfold PyData.canLay0
    show ((pyIt p.1).canLay0 && ((PyData.list (p.2.map pyIt)).canLay0 && true)) = true
    rw [h1, h2]; rfl
  dep p := tupDepth (Nat.le_trans (dIt'.dep p.1) (by decide)) (dIt'.lst.dep p.2)

section
variable {prog : Program} {w : World} {mg mb : Str → Option Value} {A : Around} {E : Value → Shared → Prop} {s s' : Shared} {F : Fx} {g g' : Heap} {led : Led} {m : Str → Option Value} {env : Env}
variable {β : Type} [DecidableEq β] {n : Nat} {R : Heap → Value → β → Prop} {f : β → PyData} {ok : β → Prop}
theorem DataR.sh (D : DataR n R f ok) (hn : n ≤ 60) {b : β} (h : ok b) : SeqAt.shaped (f b) = true := by
  unfold SeqAt.shaped
  rw [D.lay b h, Bool.true_and]
  exact decide_eq_true (Nat.le_trans (D.dep b) (by omega))
theorem DataR.eq (D : DataR n R f ok) (hu : A.units + 64 < cLine) (H : In F g led m s) {v u : Value} {a b : β} {Q : Value → Shared → Prop} (hv : R g v a) (hb : R g u b) (ha : ok a) (hb' : ok b) (h : Q (.bool (decide (a = b))) s) (hn : n ≤ 60 := by decide) :
    wpAny (model prog w) A (compareOp .Eq v u) Q E s := by
  obtain ⟨_, r1⟩ := D.reads _ _ _ (D.mono _ _ _ _ H.into hv)
  obtain ⟨_, r2⟩ := D.reads _ _ _ (D.mono _ _ _ _ H.into hb)
  exact eq_dataH r1 r2 (D.sh hn ha) (D.sh hn hb') hu (by rw [D.eqv]; exact h)
theorem DataR.ne (D : DataR n R f ok) (hu : A.units + 64 < cLine) (H : In F g led m s) {v u : Value} {a b : β} {Q : Value → Shared → Prop} (hv : R g v a) (hb : R g u b) (ha : ok a) (hb' : ok b) (h : Q (.bool (!decide (a = b))) s) (hn : n ≤ 60 := by decide) :
    wpAny (model prog w) A (compareOp .NotEq v u) Q E s := by
  obtain ⟨_, r1⟩ := D.reads _ _ _ (D.mono _ _ _ _ H.into hv)
  obtain ⟨_, r2⟩ := D.reads _ _ _ (D.mono _ _ _ _ H.into hb)
  exact ne_dataH r1 r2 (D.sh hn ha) (D.sh hn hb') hu (by rw [D.eqv]; exact h)
theorem DataR.anyIn (D : DataR n R f ok) (l : List β) (x : β) : ((l.map f).any fun y => PyData.eqv y (f x)) = decide (x ∈ l) := by
  rw [List.any_map, List.any_eq]
  refine decide_eq_decide.mpr ⟨?_, fun h => ⟨x, h, ?_⟩⟩
  · rintro ⟨y, hy, e⟩
    have e : PyData.eqv (f y) (f x) = true := e
    rw [D.eqv, decide_eq_true_eq] at e; rw [← e]; exact hy
  · show PyData.eqv (f x) (f x) = true
    rw [D.eqv]; exact decide_eq_true rfl
theorem DataR.inU (D : DataR n R f ok) (hu : A.units + 64 < cLine) (hn : n ≤ 60) (x : β) (l : List β) : A.units + 1 + min (PyData.depthAll (l.map f)) (f x).depth < cLine := by
  have h1 := D.dep x
  have h2 : min (PyData.depthAll (l.map f)) (f x).depth ≤ (f x).depth := Nat.min_le_right _ _
  omega
/-- x in l, l on the ledger or at rest -/
theorem DataR.inL (D : DataR n R f ok) (hu : A.units + 64 < cLine) (H : In F g led m s) {l : Addr} {vs : List Value} {bs : List β} {v : Value} {b : β} {Q : Value → Shared → Prop} (hl : s.heap.IsList l vs.toArray) (ha : All2 (R g) vs bs) (hv : R g v b) (hok : ∀ x ∈ bs, ok x) (hb : ok b)
    (h : Q (.bool (decide (b ∈ bs))) s) (hn : n ≤ 60 := by decide) : wpAny (model prog w) A (compareOp .In v (.ref l)) Q E s := by
  obtain ⟨_, r1⟩ := D.lst.reads s.heap (.ref l) bs ⟨l, vs, rfl, hl, ha.imp fun _ _ => D.mono _ _ _ _ H.into⟩
  obtain ⟨_, r2⟩ := D.reads _ _ _ (D.mono _ _ _ _ H.into hv)
  exact SeqAt.in_list_reads r1 r2 (layAll bs fun x hx => D.lay x (hok x hx)) (D.lay b hb) (D.inU hu hn b bs) (by rw [D.anyIn]; exact h)
theorem DataR.notInL (D : DataR n R f ok) (hu : A.units + 64 < cLine) (H : In F g led m s) {l : Addr} {vs : List Value} {bs : List β} {v : Value} {b : β} {Q : Value → Shared → Prop} (hl : s.heap.IsList l vs.toArray) (ha : All2 (R g) vs bs) (hv : R g v b) (hok : ∀ x ∈ bs, ok x) (hb : ok b)
    (h : Q (.bool (!decide (b ∈ bs))) s) (hn : n ≤ 60 := by decide) : wpAny (model prog w) A (compareOp .NotIn v (.ref l)) Q E s := by
  obtain ⟨_, r1⟩ := D.lst.reads s.heap (.ref l) bs ⟨l, vs, rfl, hl, ha.imp fun _ _ => D.mono _ _ _ _ H.into⟩
  obtain ⟨_, r2⟩ := D.reads _ _ _ (D.mono _ _ _ _ H.into hv)
  exact SeqAt.notIn_list_reads r1 r2 (layAll bs fun x hx => D.lay x (hok x hx)) (D.lay b hb) (D.inU hu hn b bs) (by rw [D.anyIn]; exact h)
theorem In.sq {pre post : Led} {l : Addr} {vs : List Value} (H : In F g (pre ++ (l, SQ vs) :: post) m s) : s.heap.IsList l vs.toArray := by
  obtain ⟨o, ho, q⟩ := H.get (a := l) (P := SQ vs) (by simp)
  exact q.is ho
end
end Mine
end

section
open PySem PySem.W PySem.Calls PyProof.Rows
set_option maxRecDepth 100000
namespace Mine
theorem fillK17 (P : Params) : hd.heap_39 P = hd.heap_39 P → PySem.Challenge.rw_bn0044_01 = PySem.Challenge.rw_bn0044_01 := by
  k_fill
  exact fun _ => rfl

theorem Rel.dropMu {mu mu' : List Addr} {s s' s'' : Shared} {g g1 g2 : Heap} (x : Rel [] s g s' g1) (y : Rel mu' s' g1 s'' g2) (h : ∀ a ∈ mu', a ∈ mu ∨ s.heap.objs.size ≤ a) : Rel mu s g s'' g2 :=
  ⟨x.sub.trans y.sub, y.into, fun b o e => (y.new b o e).elim (x.new b o) fun h => .inr (Nat.le_trans x.size h), fun b o n e => y.keep b o (fun q => (h b q).elim n fun q => absurd (Heap.lt_size e) (Nat.not_lt.mpr q)) (x.keep b o (by simp) e), Nat.le_trans x.size y.size, y.os.trans x.os, x.gens.trans y.gens⟩

theorem Rel.more {mu mu' : List Addr} {s s' : Shared} {g g' : Heap} (x : Rel mu s g s' g') (h : ∀ a ∈ mu, a ∈ mu') : Rel mu' s g s' g' := ⟨x.sub, x.into, x.new, fun b o n e => x.keep b o (fun q => n (h b q)) e, x.size, x.os, x.gens⟩

section
variable {prog : Program} {w : World} {mg mb : Str → Option Value} {A : Around} {E : Value → Shared → Prop} {s s' : Shared} {F : Fx} {g g' : Heap} {led : Led} {m : Str → Option Value} {env : Env}

/-- an object is made, and the caller's objects in mu are written -/
theorem newObT {mu : List Addr} {C fI : Addr} {args : List Value} {Q : Value → Shared → Prop} (k : KB w mg mb g) (hs : Sub g s.heap) (hm : makesIn (hd.heap_39 w.params) C = true) (hi : findIn (hd.heap_39 w.params) (.ref C) "__init__" = some (some (.ref fI))) (hf : typeIn (hd.heap_39 w.params) (.ref fI) = some (.type "function"))
    (h : ∀ x dx s' g1, Rel [] s g s' g1 → g1.get? x = some (instObj C dx) → g1.get? dx = none → s'.heap.get? dx = some emptyDict → s.heap.objs.size ≤ dx →
      codeAny (model prog w) (A.under (.builtin "type.__call__" ⟨.ref C :: args, []⟩)) (.call (.ref fI) ⟨.ref x :: args, []⟩) (fun r s'' => r = .ok (.ret .none) ∧ ∃ g2 n f o, Rel (dx :: mu) s' g1 s'' g2 ∧ s''.heap.get? dx = some o ∧ NsO n f o ∧
        (∀ g3, Rel mu s g s'' g3 → Sub g2 g3 → Inst g3 x C f → (∀ b, b ≠ dx → g2.get? b = none → g3.get? b = none) → Q (.ref x) s'')) s') :
    wpAny (model prog w) A (call (.ref C) args) Q E s := by
  obtain ⟨hh, gg, d, t, os⟩ := s
  refine wpAny_call (make_core (makes_of (k.X.keeps hs) hm) (looks_findIn (k.X.keeps hs) hi) (fun self => bind_fn (k.X.keeps hs) self hf) (.inl rfl) ?_)
  have R0 : Rel [] ⟨hh, gg, d, t, os⟩ g ⟨(hh.push emptyDict).push (instObj C hh.objs.size), gg, d, t, os⟩ g :=
    ⟨.refl _, fun b o e => Heap.get?_push_of_some _ (Heap.get?_push_of_some _ (hs b o e)), fun _ _ e => .inl e, fun b o _ e => Heap.get?_push_of_some _ (Heap.get?_push_of_some _ e), (by show _ ≤ ((hh.push emptyDict).push (instObj C hh.objs.size)).objs.size; rw [Heap.size_push, Heap.size_push]; exact Nat.le_add_right _ 2), rfl, .refl _⟩
  have hx : ((hh.push emptyDict).push (instObj C hh.objs.size)).get? (hh.objs.size + 1) = some (instObj C hh.objs.size) := by heap_get
  have hdx : ((hh.push emptyDict).push (instObj C hh.objs.size)).get? hh.objs.size = some emptyDict := by heap_get
  have nn : ∀ a, hh.objs.size ≤ a → g.get? a = none := fun a ha => by
    cases q : g.get? a with
    | none => rfl
    | some o => exact absurd (Heap.lt_size (hs _ _ q)) (Nat.not_lt.mpr ha)
  obtain ⟨g1, R1, S1, e1, o1⟩ := R0.freeze hx (nn _ (Nat.le_succ _)) (Nat.le_succ _)
  have n1 : g1.get? hh.objs.size = none := by
    cases q : g1.get? hh.objs.size with
    | none => rfl
    | some o =>
      rcases o1 _ _ q with z | z
      · rw [nn _ (Nat.le_refl _)] at z; cases z
      · exact absurd z (Nat.ne_of_lt (Nat.lt_succ_self _))
  refine codeAny_mono (h (hh.objs.size + 1) hh.objs.size ⟨(hh.push emptyDict).push (instObj C hh.objs.size), gg, d, t, os⟩ g1 R1 e1 n1 hdx (Nat.le_refl _)) fun r s'' q => ?_
  obtain ⟨rfl, g2, n, f, o, R2, ho, hn, fin⟩ := q
  obtain ⟨g3, R3, S3, e3, o3⟩ := (R1.dropMu (mu := mu) R2 (by
    intro a ha
    rcases List.mem_cons.mp ha with rfl | ha
    · exact .inr (Nat.le_refl _)
    · exact .inl ha)).freeze ho (R2.still n1 (Heap.lt_size hdx)) (Nat.le_refl _)
  refine ⟨rfl, fin g3 R3 S3 ⟨hh.objs.size, S3 _ _ (R2.sub _ _ e1), n, o, e3, hn⟩ fun b hb h2 => ?_⟩
  cases q : g3.get? b with
  | none => rfl
  | some o' =>
    rcases o3 _ _ q with z | z
    · rw [h2] at z; cases z
    · exact absurd z hb

/-! ## a grammar at rest -/
inductive LC (ps : List Row2) (i : It) : It → Prop
  | refl : LC ps i i
  | step {j k : It} : LC ps i j → firstN ps j k → LC ps i k
theorem reach_lc {G : List (It × List It)} {ps : List Row2} {cats : List It} (hc : ∀ j, j ∈ cats ↔ j ∈ ps.map (·.1)) (hG : ∀ j k, Step G j k ↔ j ∈ cats ∧ (k = j ∨ firstN ps j k)) (i j : It) : Reach G i j ↔ LC ps i j := by
  constructor
  · intro h
    induction h with
    | refl => exact .refl
    | step _ hs ih =>
      rcases ((hG _ _).mp hs).2 with rfl | hf
      · exact ih
      · exact .step ih hf
  · intro h
    induction h with
    | refl => exact .refl
    | step _ hf ih =>
      refine .step ih ((hG _ _).mpr ⟨?_, .inr hf⟩)
      obtain ⟨p, hp, h1, _⟩ := hf
      exact (hc _).mpr (List.mem_map.mpr ⟨p, hp, h1⟩)
def formNames : List Str := ["_is_lexical", "_is_nonlexical", "_min_len", "_max_len", "_all_unary_are_lexical"]
def allNames : List Str := (["_start", "_productions", "_categories"] : List Str) ++ ixNames ++ formNames ++ lcNames
structure Gram (prog : Program) (w : World) (g : Heap) (f : Str → Option Value) (ps : List Row2) : Prop where
  ix : GramI prog w g f ps
  lex : ∃ v, f "_lexical_index" = some v ∧ handedIn v = true ∧ LexAt prog w g v ps
  frm : ∃ t1 t2, ∀ y ∈ formNames, f y = formF (fun _ => none) ps t1 t2 y
  lc : ∃ v C, f "_leftcorners" = some v ∧ handedIn v = true ∧ DictR prog w (SetAt prog w) g v C ∧ (∀ c, c ∈ C.map (·.1) ↔ c ∈ ps.map (·.1)) ∧ ∀ p ∈ C, ∀ j, j ∈ p.2 ↔ LC ps p.1 j
  lw : ∃ v W, f "_leftcorner_words" = some v ∧ handedIn v = true ∧ DictR prog w (WAt w) g v W ∧ (∀ c, c ∈ W.map (·.1) ↔ c ∈ ps.map (·.1)) ∧ ∀ p ∈ W, ∀ y, y ∈ p.2 ↔ ∃ j, LC ps p.1 j ∧ firstW ps j y
  no : ∀ y, y ∉ allNames → f y = none
theorem Gram.mono {f : Str → Option Value} {ps : List Row2} (h : Gram prog w g f ps) (hs : Sub g g') : Gram prog w g' f ps where
  ix := ⟨let ⟨v, a, b, c⟩ := h.ix.prods; ⟨v, a, b, LstP.mono _ _ _ _ hs c⟩, let ⟨v, G, a, b, c, d⟩ := h.ix.lhs; ⟨v, G, a, b, c.mono LstP.mono hs, d⟩, let ⟨v, G, a, b, c, d⟩ := h.ix.rhs; ⟨v, G, a, b, c.mono LstP.mono hs, d⟩, let ⟨v, a, b, c⟩ := h.ix.emp; ⟨v, a, b, c.mono ProdAt.mono' hs⟩⟩
  lex := let ⟨v, a, b, c⟩ := h.lex; ⟨v, a, b, c.mono hs⟩
  frm := h.frm
  lc := let ⟨v, C, a, b, c, d⟩ := h.lc; ⟨v, C, a, b, c.mono SetAt.mono' hs, d⟩
  lw := let ⟨v, C, a, b, c, d⟩ := h.lw; ⟨v, C, a, b, c.mono WAt.mono' hs, d⟩
  no := h.no

theorem M_ixs (P : Params) : Meth P 334 "_calculate_indexes" 181 := ⟨by kernel_rfl, by kernel_rfl, by kernel_rfl⟩
theorem M_lcs (P : Params) : Meth P 334 "_calculate_leftcorners" 186 := ⟨by kernel_rfl, by kernel_rfl, by kernel_rfl⟩
theorem M_forms (P : Params) : Meth P 334 "_calculate_grammar_forms" 225 := ⟨by kernel_rfl, by kernel_rfl, by kernel_rfl⟩
theorem formF_out {f : Str → Option Value} {ps : List Row2} {t1 t2 : Tok} {y : Str} (hy : y ∉ formNames) : formF f ps t1 t2 y = f y := by
  have a1 : y ≠ "_is_lexical" := fun e => hy (by rw [e]; decide)
  have a2 : y ≠ "_is_nonlexical" := fun e => hy (by rw [e]; decide)
  have a3 : y ≠ "_min_len" := fun e => hy (by rw [e]; decide)
  have a4 : y ≠ "_max_len" := fun e => hy (by rw [e]; decide)
  have a5 : y ≠ "_all_unary_are_lexical" := fun e => hy (by rw [e]; decide)
  unfold formF
  simp only [a1, a2, a3, a4, a5, if_false]
theorem formF_in {f f' : Str → Option Value} {ps : List Row2} {t1 t2 : Tok} {y : Str} (hy : y ∈ formNames) : formF f ps t1 t2 y = formF f' ps t1 t2 y := by
  simp only [formNames, List.mem_cons, List.not_mem_nil, or_false] at hy
  rcases hy with rfl | rfl | rfl | rfl | rfl <;> (unfold formF; simp)
/-- a callee came back that has written one object -/
theorem In.callD {pre : Led} {dx : Addr} {P P' : Obj → Prop} (H : In F g (pre ++ [(dx, P)]) m s) (R : Rel [dx] s g s' g') (hd : ∃ o, s'.heap.get? dx = some o ∧ P' o) : In F g' (pre ++ [(dx, P')]) m s' := by
  have e : (dx, P) ∈ pre ++ [(dx, P)] := by simp
  refine H.after R (fun a ha => by cases List.mem_singleton.mp ha; exact List.mem_map_of_mem e) (fun p hp => ?_) (by simpa using H.nodup)
  rcases List.mem_append.mp hp with hp | hp
  · obtain ⟨⟨o, ho, hP⟩, h2, _, _⟩ := H.ent p (List.mem_append_left _ hp)
    exact ⟨⟨o, R.keep _ _ (by rw [List.mem_singleton]; exact H.ne2 (.inl hp)) ho, hP⟩, R.still h2 (Heap.lt_size ho), .inl (List.mem_map_of_mem (List.mem_append_left _ hp))⟩
  · cases List.mem_singleton.mp hp
    obtain ⟨⟨o, ho, _⟩, h2, _, _⟩ := H.ent _ e
    exact ⟨hd, R.still h2 (Heap.lt_size ho), .inl (List.mem_map.mpr ⟨(dx, P), e, rfl⟩)⟩
/-- three fields, then the rest -/
def baseF (sv pv cv : Value) : Str → Option Value := fun y => if y = "_categories" then some cv else if y = "_productions" then some pv else if y = "_start" then some sv else none

set_option maxHeartbeats 2000000 in
/-- CFG(start, productions) -/
theorem cfg_spec {s0 : Shared} {sv pv : Value} {st : It} {ps : List Row2} {U : List It} {Wd : List Str} {Q : Value → Shared → Prop} (r : Room A 12 130) (k : KB w mg mb g) (hs : Sub g s0.heap) (hsv : ItemAt g sv st) (hst : st.t = false) (hpv : Lst ProdAt g pv ps)
    (hne : ps ≠ []) (hnd : ps.Nodup) (h6 : ps.length ≤ 6) (hz3 : ∀ p ∈ ps, p.2.length ≤ 3) (hok : ∀ p ∈ ps, okR p) (hU : U.length ≤ 4) (hUt : ∀ i ∈ U, i.t = false) (hW : Wd.length ≤ 2) (hpU1 : ∀ p ∈ ps, p.1 ∈ U) (hpU : ∀ p ∈ ps, ∀ i ∈ p.2, (i.t = false → i ∈ U) ∧ (i.t = true → i.n ∈ Wd))
    (ht1 : Tab g 220 s0) (ht2 : Tab g 128 s0)
    (h : ∀ x f s' g', Rel [220, 128] s0 g s' g' → Tab g' 220 s' → Tab g' 128 s' → Inst g' x 334 f → Gram prog w g' f ps → Q (.ref x) s') : wpAny (model prog w) A (call (.ref 334) [sv, pv]) Q E s0 := by
  refine newObT (mu := [220, 128]) (fI := 174) k hs (by kernel_rfl) (by kernel_rfl) (by kernel_rfl) fun x dx s g1 R1 e1 n1 d1 hz => ?_
  have r1 : Room (A.under (.builtin "type.__call__" ⟨.ref 334 :: [sv, pv], []⟩)) 11 129 := r.make
  have k1 := k.mono R1.sub
  have hdx : 403 < dx := Nat.lt_of_lt_of_le (k.gt hs) hz
  have sti : ∀ {P : Addr}, Tab g P s0 → (∃ o, s.heap.get? P = some o ∧ TabP o) ∧ g1.get? P = none := fun ⟨⟨o, ho, hP⟩, hn⟩ => ⟨⟨o, R1.keep0 _ _ ho, hP⟩, R1.still hn (Heap.lt_size ho)⟩
  refine enterI [("self", .ref x), ("start", sv), ("productions", pv), ("calculate_leftcorners", .bool true)] (led := [(220, TabP), (128, TabP), (dx, NsO 0 fun _ => none)]) k1 R1.into r1.lt (fun q hq => ?_) ?_ (fun L s H => ?_) (hbind := binds_K (k1.X.keeps R1.into) rfl (by k_is) rfl rfl rfl)
  · simp only [List.mem_cons, List.not_mem_nil, or_false] at hq
    rcases hq with rfl | rfl | rfl
    · exact sti ht1
    · exact sti ht2
    · exact ⟨⟨_, d1, .emptyD⟩, n1⟩
  · have a1 : (220 : Addr) ≠ dx := fun e => absurd (e ▸ hdx : (403 : Nat) < 220) (by decide)
    have a2 : (128 : Addr) ≠ dx := fun e => absurd (e ▸ hdx : (403 : Nat) < 128) (by decide)
    simp [a1, a2]
  have rr : ∀ env, Room ((A.under (.builtin "type.__call__" ⟨.ref 334 :: [sv, pv], []⟩)).deeper env) 10 126 := fun env => r1.deeper
  obtain ⟨pl, pvs, rfl, hpl, hpa⟩ := hpv
  have hpl1 := isList_mono hpl R1.sub
  have hpa1 := hpa.imp fun _ _ => ProdAt.mono' _ _ _ _ R1.sub
  refine ex_if (isTrue_not (isT (Call_ (nmG H k1 (g_is_nonterminal _) (callW (kp77 _) (a1 (nm H rfl ⟨H.K k1, ?_⟩)))))))
  refine isN_spec ((rr _).le (by decide) (by decide)) k1 H.into (hsv.mono R1.sub) fun s g2 R2 => ?_
  have H := H.call0 R2
  have k2 := k1.mono R2.sub
  have e2 := R2.sub _ _ e1
  refine tr_b ?_
  rw [hst, Bool.not_false, Bool.not_true, if_neg Bool.false_ne_true]
  refine ex_nil ?_
  refine ex_setA (nm H rfl (nm H rfl (setA (pre := [(220, TabP), (128, TabP)]) H k2 (c334 _) (H.into _ _ e2) (by kernel_rfl) (fun s H => ?_))))
  refine ex_setA (nm H rfl (nm H rfl (setA (pre := [(220, TabP), (128, TabP)]) H k2 (c334 _) (H.into _ _ e2) (by kernel_rfl) (fun s H => ?_))))
  refine ex_setA (newLQ H fun cl s1 H1 hcl => ?_)
  have hcl := H.was hcl
  clear H
  refine nm H1 rfl (setA (pre := [(cl, SQ []), (220, TabP), (128, TabP)]) H1 k2 (c334 _) (H1.into _ _ e2) (by kernel_rfl) (fun s H => ?_))
  generalize hf3 : (fun y : Str => if y = "_categories" then some (Value.ref cl) else (fun y : Str => if y = "_productions" then some (Value.ref pl) else (fun y : Str => if y = "_start" then some sv else (fun _ => none) y) y) y) = f3 at H
  have hfp : f3 "_productions" = some (.ref pl) := by rw [← hf3]; exact (if_neg (by decide)).trans (if_pos rfl)
  have hfc : f3 "_categories" = some (.ref cl) := by rw [← hf3]; exact if_pos rfl
  have hfn : ∀ y, y ∉ allNames → f3 y = none := fun y hy => by
    have a1 : y ≠ "_start" := fun e => hy (by rw [e]; decide)
    have a2 : y ≠ "_productions" := fun e => hy (by rw [e]; decide)
    have a3 : y ≠ "_categories" := fun e => hy (by rw [e]; decide)
    rw [← hf3]
    simp only [a1, a2, a3, if_false]
  have hpl2 := isList_mono hpl1 R2.sub
  have hpa2 := hpa1.imp fun _ _ => ProdAt.mono' _ _ _ _ R2.sub
  refine ex_for (nm H rfl (itListA H hpl2 hpa2 fun I St s S H => ?_))
  refine forL (fun rest g led m => ∃ vs cats dn, led = (cl, SQ vs) :: [(220, TabP), (128, TabP), (dx, NsO 3 f3)] ∧ All2 (KeyAt g) vs cats ∧ cats.Nodup ∧ (∀ j, j ∈ cats ↔ j ∈ dn.map (·.1)) ∧ ps = dn ++ rest ∧ m "self" = some (.ref x) ∧ m "calculate_leftcorners" = some (.bool true)) S r.hh (.refl _) H
    ⟨[], [], [], rfl, .nil, List.nodup_nil, fun j => by simp, rfl, rfl, rfl⟩ ?_ ?_
  · rintro p rest g6 led6 m6 s pv hg6 hpp H ⟨vs, cats, dn, rfl, hvs, hcn, hcm, hdn, hms, hmt⟩
    have hpm : p ∈ ps := by rw [hdn]; exact List.mem_append_right _ (.head _)
    have hpp6 := hpp.mono hg6
    obtain ⟨px, plv, T, vs2, rfl, hpI, h1, h2, h3⟩ := id hpp6
    have k6 := k2.mono hg6
    have e6 := hg6 _ _ e2
    refine asN H fun s H => ?_
    refine ex_if (tcmp1 (Call_ (nmG H k6 (g_key _) (callW (kp91 _) (a1 (MethodCall_ (nm H (if_pos rfl) (meth H k6 (c155 _) hpI (M_lhs _) rfl (callW0 (H.K k6) (M_lhs _).k ?_)))))))))
    refine lhs_spec ((rr _).le (by decide) (by decide)) k6 H.into hpI h1.handed fun s g7 R7 => ?_
    have H := H.call0 R7
    have k7 := k6.mono R7.sub
    refine ⟨H.K k7, key_spec ((rr _).le (by decide) (by decide)) k7 H.into (h1.mono R7.sub) fun kv s g8 R8 hkv => ?_⟩
    have H := H.call0 R8
    have k8 := k7.mono R8.sub
    have S68 := R7.sub.trans R8.sub
    have hvs8 := hvs.imp fun _ _ => KeyAt.mono' _ _ _ _ S68
    refine Attribute_any_ (nm H ((if_neg (by decide)).trans hms) (attrD (pre := [(I, St rest), (cl, SQ vs), (220, TabP), (128, TabP)]) H k8 (c334 _) (S68 _ _ e6) (a334_categories _) hfc rfl fun s H => ?_))
    have okc : ∀ j ∈ cats, okS j := fun j hj => by
      obtain ⟨q, hq, rfl⟩ := List.mem_map.mp ((hcm j).mp hj)
      exact (hok q (by rw [hdn]; exact List.mem_append_left _ hq)).1
    refine dKey'.notInL ((rr _).u (by decide)) H (In.sq (pre := [(I, St rest)]) H) hvs8 hkv okc (hok p hpm).1 (tr_b ?_)
    have hlen : cats.length ≤ 4 := Nat.le_trans (nodup_le hcn fun j hj => by
      obtain ⟨q, hq, rfl⟩ := List.mem_map.mp ((hcm j).mp hj)
      exact hpU1 q (by rw [hdn]; exact List.mem_append_left _ hq)) hU
    by_cases hj : p.1 ∈ cats
    · rw [decide_eq_true hj, Bool.not_true, if_neg Bool.false_ne_true]
      refine ex_nil (ex_nil ⟨g8, _, _, hg6.trans S68, H, vs, cats, dn ++ [p], rfl, hvs8, hcn, fun j => ?_, by rw [hdn]; simp, (if_neg (by decide)).trans hms, (if_neg (by decide)).trans hmt⟩)
      rw [List.map_append, List.mem_append, hcm j]
      exact ⟨.inl, fun q => q.elim id fun q => by simp at q; rw [q]; exact (hcm _).mp hj⟩
    · rw [decide_eq_false hj, Bool.not_false, if_pos rfl]
      refine ex_expr (MethodCall_ (Attribute_any_ (nm H ((if_neg (by decide)).trans hms) (attrD (pre := [(I, St rest), (cl, SQ vs), (220, TabP), (128, TabP)]) H k8 (c334 _) (S68 _ _ e6) (a334_categories _) hfc rfl fun s H => ?_))))
      refine mListQ (pre := [(I, St rest)]) H PySem.F.slot_list_append PySem.F.type_list_append (callB (a1 ?_))
      refine Call_ (nmG H k8 (g_key _) (callW (kp91 _) (a1 (MethodCall_ (nm H (if_pos rfl) (meth H k8 (c155 _) (hpI.mono S68) (M_lhs _) rfl (callW0 (H.K k8) (M_lhs _).k ?_)))))))
      refine lhs_spec ((rr _).le (by decide) (by decide)) k8 H.into (hpI.mono S68) h1.handed fun s g9 R9 => ?_
      have H := H.call0 R9
      have k9 := k8.mono R9.sub
      refine ⟨H.K k9, key_spec ((rr _).le (by decide) (by decide)) k9 H.into (h1.mono (S68.trans R9.sub)) fun kv2 s ga Ra hkv2 => ?_⟩
      have H := H.call0 Ra
      have S8a := R9.sub.trans Ra.sub
      refine appendQ (pre := [(I, St rest)]) H (by rw [hvs.length]; omega) fun s H => ⟨rfl, ?_⟩
      refine ex_nil (ex_nil ⟨ga, _, _, hg6.trans (S68.trans S8a), H, _, cats ++ [p.1], dn ++ [p], rfl, (hvs8.imp fun _ _ => KeyAt.mono' _ _ _ _ S8a).snoc hkv2, ?_, fun j => ?_, by rw [hdn]; simp, (if_neg (by decide)).trans hms, (if_neg (by decide)).trans hmt⟩)
      · rw [List.nodup_append]
        exact ⟨hcn, by simp, fun a ha b hb e => by simp at hb; rw [e, hb] at ha; exact hj ha⟩
      · rw [List.map_append, List.mem_append, List.mem_append, hcm j]; simp
  · rintro g6 led6 m6 s hg6 H ⟨vs, cats, dn, rfl, hvs, hcn, hcm, hdn, hms, hmt⟩
    rw [List.append_nil] at hdn
    subst hdn
    obtain ⟨oc, g7, ⟨nc, rfl⟩, ho7, S67, H⟩ := H.freeze hcl
    have S27 := hg6.trans S67
    have S17 := R2.sub.trans S27
    have k7 := k2.mono S27
    have e7 := S27 _ _ e2
    have hcats : Lst KeyAt g7 (.ref cl) cats := ⟨cl, vs, rfl, ⟨_, ho7, rfl, nc, rfl⟩, hvs.imp fun _ _ => KeyAt.mono' _ _ _ _ S67⟩
    have hprods : Lst ProdAt g7 (.ref pl) ps := ⟨pl, pvs, rfl, isList_mono hpl1 S17, hpa1.imp fun _ _ => ProdAt.mono' _ _ _ _ S17⟩
    refine ex_expr (MethodCall_ (nm H hms (methD (pre := [(220, TabP), (128, TabP)]) H k7 (c334 _) e7 (M_ixs _) (hfn _ (by decide)) (callW0 (H.K k7) (M_ixs _).k ?_))))
    have hdxm : (dx, NsO 3 f3) ∈ [(220, TabP), (128, TabP), (dx, NsO 3 f3)] := by simp
    refine ixs_spec ((rr _).le (by decide) (by decide)) k7 H.into e7 hfp hprods (by decide) hnd h6 hz3 (H.get hdxm) (H.ne hdxm) fun s g8 fI v1 G1 v2 G2 v3 v4 R8 hd8 hn8 hD1 hX1 hD2 hX2 hD3 hL4 ⟨hh1, hh2, hh3, hh4⟩ ⟨hfa1, hfa2, hfa3, hfa4⟩ hfo => ⟨rfl, ?_⟩
    have H := H.callD (pre := [(220, TabP), (128, TabP)]) R8 hd8
    have k8 := k7.mono R8.sub
    have e8 := R8.sub _ _ e7
    have hprods8 := LstP.mono _ _ _ _ R8.sub hprods
    have hz2 : ∀ p ∈ ps, p.2.length ≤ 1000 := fun p hp => Nat.le_trans (hz3 p hp) (by decide)
    have hfIn : ∀ y, y ∉ allNames → fI y = none := fun y hy => (hfo y fun q => hy (by unfold allNames; simp [q])).trans (hfn y hy)
    refine ex_expr (MethodCall_ (nm H hms (methD (pre := [(220, TabP), (128, TabP)]) H k8 (c334 _) e8 (M_forms _) (hfIn _ (by decide)) (callW0 (H.K k8) (M_forms _).k ?_))))
    refine forms_spec ((rr _).le (by decide) (by decide)) k8 H.into e8 ((hfo _ (by decide)).trans hfp) hprods8 hne hz2 (by decide) (fun q hq => ⟨(H.ent q hq).1, (H.ent q hq).2.1⟩) H.nodup fun t1 t2 s g9 R9 hl9 => ⟨rfl, ?_⟩
    have H : In _ g9 (ledF dx (7 + 5) (formF fI ps t1 t2)) _ s := H.after R9 (fun a ha => by simpa using ha) (fun q hq => ⟨(hl9 q hq).1, (hl9 q hq).2, .inl (List.mem_map_of_mem (f := (·.1)) hq)⟩) (by simpa using H.nodup)
    have k9 := k8.mono R9.sub
    have e9 := R9.sub _ _ e8
    generalize hff : formF fI ps t1 t2 = fF at H
    have hffo : ∀ y, y ∉ formNames → fF y = fI y := fun y hy => by rw [← hff]; exact formF_out hy
    have hS79 := R8.sub.trans R9.sub
    have hfFn : ∀ y, y ∉ allNames → fF y = none := fun y hy => (hffo y fun q => hy (by unfold allNames; simp [q])).trans (hfIn y hy)
    have hdxm9 : (dx, NsO 12 fF) ∈ [(220, TabP), (128, TabP), (dx, NsO 12 fF)] := by simp
    refine ex_if (isT (nm H hmt (tr_b ?_)))
    rw [if_pos rfl]
    refine ex_expr (MethodCall_ (nm H hms (methD (pre := [(220, TabP), (128, TabP)]) H k9 (c334 _) e9 (M_lcs _) (hfFn _ (by decide)) (callW0 (H.K k9) (M_lcs _).k ?_))))
    have hpc : ∀ j, j ∈ cats ↔ j ∈ ps.map (·.1) := hcm
    refine lcs_spec (n := 12) (cv := .ref cl) (pv := .ref pl) (cats := cats) (U := U) (Wd := Wd) ((rr _).le (by decide) (by decide)) k9 H.into e9 (((hffo _ (by decide)).trans (hfo _ (by decide))).trans hfc) (((hffo _ (by decide)).trans (hfo _ (by decide))).trans hfp) (hfFn _ (by decide))
      (hcats.mono KeyAt.mono' hS79) (LstP.mono _ _ _ _ hS79 hprods) hcn (Nat.le_trans (nodup_le hcn fun j hj => by
        obtain ⟨q, hq, rfl⟩ := List.mem_map.mp ((hcm j).mp hj)
        exact hpU1 q hq) hU) (by decide) hU hUt hW (fun c hc => by
        obtain ⟨q, hq, rfl⟩ := List.mem_map.mp ((hcm c).mp hc)
        exact hpU1 q hq) (fun p hp => (hpc _).mpr (List.mem_map_of_mem hp)) hpU hz2 (H.get hdxm9) (H.ne hdxm9) fun s ga fL G C W v5 v6 Ra hda hna hG hC hC1 hCr hWd hW1 hWr hh5 hh6 hl5 hl6 hlo => ⟨rfl, ?_⟩
    have H := H.callD (pre := [(220, TabP), (128, TabP)]) Ra hda
    obtain ⟨od, hod, hnd'⟩ := H.get (a := dx) (P := NsO 16 fL) (by simp)
    refine ex_nil (ex_nil ⟨rfl, ga, 16, fL, od, H.rel.more (by simp), hod, hnd', fun g3 R3 S3 i hno => ?_⟩)
    have S8 : Sub g8 g3 := (R9.sub.trans Ra.sub).trans S3
    have S7 : Sub g7 g3 := R8.sub.trans S8
    have lo : ∀ y, y ∉ lcNames → y ∉ formNames → fL y = fI y := fun y h1 h2 => (hlo y h1).trans (hffo y h2)
    have lo2 : ∀ y, y ∉ lcNames → y ∉ formNames → y ∉ ixNames → fL y = f3 y := fun y h1 h2 h3 => (lo y h1 h2).trans (hfo y h3)
    refine h x fL _ g3 R3 ⟨H.get (a := 220) (P := TabP) (by simp), hno _ (fun e => absurd (e ▸ hdx : (403 : Nat) < 220) (by decide)) (H.ne (a := 220) (P := TabP) (by simp))⟩
      ⟨H.get (a := 128) (P := TabP) (by simp), hno _ (fun e => absurd (e ▸ hdx : (403 : Nat) < 128) (by decide)) (H.ne (a := 128) (P := TabP) (by simp))⟩ i ?_
    refine ⟨⟨⟨_, (lo2 _ (by decide) (by decide) (by decide)).trans hfp, rfl, LstP.mono _ _ _ _ S7 hprods⟩, ⟨v1, G1, (lo _ (by decide) (by decide)).trans hfa1, hh1, hD1.mono LstP.mono S8, hX1⟩, ⟨v2, G2, (lo _ (by decide) (by decide)).trans hfa2, hh2, hD2.mono LstP.mono S8, hX2⟩, ⟨v3, (lo _ (by decide) (by decide)).trans hfa3, hh3, hD3.mono ProdAt.mono' S8⟩⟩,
      ⟨v4, (lo _ (by decide) (by decide)).trans hfa4, hh4, hL4.mono S8⟩, ⟨t1, t2, fun y hy => ?_⟩, ⟨v5, C, hl5, hh5, hC.mono SetAt.mono' S3, fun c => by rw [hC1]; exact hpc c, fun p hp j => (hCr p hp j).trans (reach_lc hpc hG _ _)⟩, ⟨v6, W, hl6, hh6, hWd.mono WAt.mono' S3, fun c => by rw [hW1]; exact hpc c, fun p hp y => (hWr p hp y).trans ⟨fun ⟨j, a, b⟩ => ⟨j, (reach_lc hpc hG _ _).mp a, b⟩, fun ⟨j, a, b⟩ => ⟨j, (reach_lc hpc hG _ _).mpr a, b⟩⟩⟩, fun y hy => ?_⟩
    · refine (hlo y fun q => ?_).trans ?_
      · simp only [formNames, lcNames, List.mem_cons, List.not_mem_nil, or_false] at hy q
        rcases hy with rfl | rfl | rfl | rfl | rfl <;> revert q <;> decide
      · rw [← hff]; exact formF_in hy
    · exact (hlo y fun q => hy (by unfold allNames; simp [q])).trans (hfFn y hy)
end
end Mine
end

section
open PySem PySem.W PySem.Calls PyProof.Rows
set_option maxRecDepth 100000
namespace Mine
theorem fillK18 (P : Params) : hd.heap_39 P = hd.heap_39 P → PySem.Challenge.rw_bn0044_01 = PySem.Challenge.rw_bn0044_01 := by
  k_fill
  exact fun _ => rfl

section
variable {prog : Program} {w : World} {mg mb : Str → Option Value} {A : Around} {E : Value → Shared → Prop} {s s' : Shared} {F : Fx} {g g' : Heap} {led : Led} {m : Str → Option Value} {env : Env}

/-! ## the truth of a dict, whatever its keys -/
theorem meets_len_any {d : Addr} (hd : d ≠ 1) : MeetsIn prog w (Builtin.«dict.__len__» ⟨[.ref d], []⟩) (fun _ R s => ∃ o es ep, s.heap.get? d = some o ∧ o.ExactDict ∧ o.data = .dict es ep ∧ R (.ok (.ret (.int es.size s.toks))) { s with toks := s.toks + 1 }) :=
  .of_wp fun A R s ⟨o, es, ep, ho, hc, hdat, h⟩ => by
    show wpAny _ _ (dictSize d >>= _) _ _ s
    unfold dictSize
    refine wpAny_bind (wpAny_bind (wpAny_dictEntries ho hdat (wpAny_pure ?_)))
    show wpAny _ _ (Builtin.Dict.pendingCount d >>= _) _ _ s
    refine wpAny_bind (wpAny_pendingCount_other (by simpa [sysModules] using hd) ?_)
    refine wpAny_ret_mkInt ?_
    rw [Nat.add_zero]; exact h
theorem len_any {d : Addr} {o : Obj} {es : Array DictEntry} {ep : Nat} {Q : Value → Shared → Prop} (hd : d ≠ 1) (ho : s.heap.get? d = some o) (hc : o.ExactDict) (hdat : o.data = .dict es ep) (hz : es.size ≤ 1000)
    (h : Q (.int es.size (s.toks + 1)) { s with toks := s.toks + 1 + 1 }) : wpAny (model prog w) A (Builtin.«len» ⟨[.ref d], []⟩) (fun fin s' => ∃ r, fin = .done (.ret r) ∧ Q r s') E s := by
  have hT : s.TypeIs (.ref d) "dict" := ⟨o, ho, hc.1⟩
  unfold Builtin.«len»
  refine wpAny_bind (m := oneArg "len" _) (wpAny_pure ?_)
  refine wpAny_bind (m := callSpecial? (.ref d) (Str.ofString "__len__")) (wpAny_callSpecial?_slot (name := Str.ofString "__len__") hT F.slot_dict_len
    (call_meetsIn F.slot_dict_len hT F.entry_dict_len (F.args_dict_len_1 _) (meets_len_any hd) ⟨o, es, ep, ho, hc, hdat, ?_⟩))
  show wpAny _ _ _ _ _ { s with toks := s.toks + 1 }
  refine wpAny_bind (wpAny_holding (wpAny_pure ?_))
  refine wpAny_bind (wpAny_letGo ?_)
  show wpAny _ _ (if ((es.size : Nat) : Int) < 0 then _ else _) _ _ _
  rw [if_neg (by omega)]
  show wpAny _ _ (if ((es.size : Nat) : Int) ≥ 2 ^ 63 then _ else _) _ _ _
  rw [if_neg (by omega)]
  exact wpAny_bind (wpAny_mkInt (wpAny_pure ⟨_, rfl, h⟩))
theorem truthy_any {d : Addr} {o : Obj} {es : Array DictEntry} {ep : Nat} {Q : Bool → Shared → Prop} (hd : d ≠ 1) (ho : s.heap.get? d = some o) (hc : o.ExactDict) (hdat : o.data = .dict es ep) (hz : es.size ≤ 1000)
    (h : Q (!decide (es.size = 0)) { s with toks := s.toks + 1 + 1 }) : wpAny (model prog w) A (truthy (.ref d)) Q E s := by
  have hT : s.TypeIs (.ref d) "dict" := ⟨o, ho, hc.1⟩
  have hne : ((es.size : Int) != 0) = !decide (es.size = 0) := by by_cases e : es.size = 0 <;> simp [e]
  have key : wpAny (model prog w) A (runValue (.builtin "len" ⟨[.ref d], []⟩)) (fun r s' => r = .int es.size (s.toks + 1) ∧ Q (!decide (es.size = 0)) s') E s := by
    refine wpAny_runValue (codeAny_builtin entry_len ?_)
    rw [Around.under_plainId plain_len _]
    exact wpAny_mono (len_any (Q := fun r s' => r = .int es.size (s.toks + 1) ∧ Q (!decide (es.size = 0)) s') hd ho hc hdat hz ⟨rfl, h⟩)
      (fun fin s' h' => by obtain ⟨r, rfl, hq⟩ := h'; exact hq) fun _ _ e => e
  unfold truthy
  first
    | refine wpAny_bind (wpAny_callSpecial?_none (name := Str.ofString "__bool__") hT noBool_dict ?_)
    | refine wpAny_bind (wpAny_pure (wpAny_bind (wpAny_callSpecial?_none (name := Str.ofString "__bool__") hT noBool_dict ?_)))
  first
    | refine wpAny_bind (wpAny_specialOf (name := Str.ofString "__len__") hT F.slot_dict_len.lookup ?_)
    | refine wpAny_bind (wpAny_pure (wpAny_bind (wpAny_specialOf (name := Str.ofString "__len__") hT F.slot_dict_len.lookup ?_)))
  first
    | exact wpAny_bind (wpAny_mono key (fun r s' h' => by obtain ⟨rfl, hq⟩ := h'; exact wpAny_pure (hne ▸ hq)) fun _ _ e => e)
    | exact wpAny_bind (wpAny_pure (wpAny_bind (wpAny_mono key (fun r s' h' => by obtain ⟨rfl, hq⟩ := h'; exact wpAny_pure (hne ▸ hq)) fun _ _ e => e)))
theorem trD {β : Type} {R : Heap → Value → β → Prop} {v : Value} {G : List (It × β)} {Q : Bool → Shared → Prop} (H : In F g led m s) (hv : DictR prog w R g v G) (hz : G.length ≤ 900) (h : ∀ s', In F g led m s' → Q (!decide (G = [])) s') : wpAny (model prog w) A (truthy v) Q E s := by
  obtain ⟨hn, d, o, xs, rfl, hd, hod, ⟨hc, es, ep, e1, e2, e3⟩, hE⟩ := hv
  have hs : es.size = G.length := by rw [← Array.length_toList, e2, List.length_map, hE.length]
  refine truthy_any hd (H.into _ _ hod) hc e1 (by omega) ?_
  have : decide (es.size = 0) = decide (G = []) := decide_eq_decide.mpr (by rw [hs]; exact List.length_eq_zero_iff)
  rw [this]
  exact h _ (H.toks _)

/-! ## left corners -/
theorem cd205 (k : KB w mg mb g) : ∃ P, CodeHd g 205 P := ⟨_, _, _, _, _, _, _, _, _, _, k.X 205 _ (by k_is), rfl, rfl, rfl, rfl, rfl, rfl, rfl, rfl, by decide⟩
theorem M_leftcorners (P : Params) : Meth P 334 "leftcorners" 206 := ⟨by kernel_rfl, by kernel_rfl, by kernel_rfl⟩
theorem lc_only {ps : List Row2} {i : It} (h : i ∉ ps.map (·.1)) (j : It) : LC ps i j ↔ j = i := by
  constructor
  · intro q
    induction q with
    | refl => rfl
    | step _ hf ih =>
      obtain ⟨p, hp, h1, _⟩ := hf
      exact absurd (List.mem_map.mpr ⟨p, hp, h1.trans ih⟩) h
  · rintro rfl; exact .refl
/-- grammar.leftcorners(cat) -/
theorem lcorn_spec {s0 : Shared} {x : Addr} {f : Str → Option Value} {ps : List Row2} {cv : Value} {i : It} {Q : Value → Shared → Prop} (r : Room A 3 40) (k : KB w mg mb g) (hs : Sub g s0.heap) (hI : Inst g x 334 f) (hG : Gram prog w g f ps) (hi : ItemAt g cv i)
    (h : ∀ v js s' g', Rel [] s0 g s' g' → SetAt prog w g' v js → (∀ j, j ∈ js ↔ LC ps i j) → Q v s') : wpAny (model prog w) A (call (.ref 206) [.ref x, cv]) Q E s0 := by
  obtain ⟨cP, hcd⟩ := cd205 k
  refine enter0 [("self", .ref x), ("cat", cv)] k hs r.lt ?_
  intro L s H
  obtain ⟨v, C, hf, hv, hC, hCk, hCm⟩ := hG.lc
  refine ex_ret (MethodCall_ (Attribute_any_ (nm H rfl (attr H k (c334 _) hI (a334_lc _) hf hv fun s H => mGetR H hC (callB (aC ?_))))))
  refine Call_ (nmG H k (g_key _) (callW (kp91 _) (a1 (nm H rfl ⟨H.K k, ?_⟩))))
  refine key_spec (r.deeper.le (by decide) (by decide)) k H.into hi fun kv s g2 R2 hkv => ?_
  have H := H.call0 R2
  have k2 := k.mono R2.sub
  obtain ⟨ka, _, _, rfl, _⟩ := id hkv
  refine a1 (setD1 (c := 205) (P := cP) (Room.ult (d := 2) (u := 37) r.deeper) H (CodeHd.keeps hcd R2.sub) rfl fun fa s H => ?_)
  refine Call_ (nmG H k2 (g_key _) (callW (kp91 _) (a1 (nm H rfl ⟨H.K k2, ?_⟩))))
  refine key_spec (r.deeper.le (by decide) (by decide)) k2 H.into (hi.mono R2.sub) fun kv2 s g3 R3 hkv2 => ?_
  have H := H.call0 R3
  obtain ⟨kb, _, _, rfl, _⟩ := id hkv2
  refine ⟨g3, _, _, kb, kN i, rfl, H, key_keeps hkv2.isg H.into, fun s H => ?_⟩
  obtain ⟨o2, g4, ⟨hP, hl⟩, e2, hs4, H⟩ := H.freeze (H.was0 rfl (p := (fa, SetL w _)) (.head _))
  have hdf : SetAt prog w g4 (.ref fa) [i] := ⟨fa, o2, _, rfl, e2, hP, hl.w, (EltN.one hkv2).mono hs4⟩
  have S24 := R3.sub.trans hs4
  refine getR ((r.deeper.le (Nat.zero_le _) (Nat.le_refl _)).u (by decide)) H (hC.mono SetAt.mono' (R2.sub.trans S24)) (hkv.mono S24) (fun hn s H => h _ [i] _ g4 H.rel hdf fun j => ?_) fun js u s hm hR H => h _ js _ g4 H.rel hR (hCm _ hm)
  rw [List.mem_singleton, lc_only (fun q => hn ((hCk i).mpr q))]
end
end Mine
end

section
open PySem PySem.W PySem.Calls PyProof.Rows
set_option maxRecDepth 100000
namespace Mine
theorem fillK19 (P : Params) : hd.heap_39 P = hd.heap_39 P → PySem.Challenge.rw_bn0044_01 = PySem.Challenge.rw_bn0044_01 := by
  k_fill
  exact fun _ => rfl

section
variable {prog : Program} {w : World} {mg mb : Str → Option Value} {A : Around} {E : Value → Shared → Prop} {s s' : Shared} {F : Fx} {g g' : Heap} {led : Led} {m : Str → Option Value} {env : Env}

def isLC (ps : List Row2) (i j : It) : Prop := if j.t = false then LC ps i j else ∃ c, LC ps i c ∧ firstW ps c j.n
theorem g_any : bootBuiltins "any" = some (.builtin "any") := by kernel_rfl
/-- grammar.is_leftcorner(cat, left) -/
theorem isLC_spec {s0 : Shared} {x : Addr} {f : Str → Option Value} {ps : List Row2} {cv lv : Value} {i j : It} {Q : Value → Shared → Prop} (r : Room A 5 60) (k : KB w mg mb g) (hs : Sub g s0.heap) (hI : Inst g x 334 f) (hG : Gram prog w g f ps) (hi : ItemAt g cv i) (hj : ItemAt g lv j) (hne : ps ≠ []) (h6 : ps.length ≤ 6)
    (h : ∀ b s' g', Rel [] s0 g s' g' → (b = true ↔ isLC ps i j) → Q (.bool b) s') : wpAny (model prog w) A (call (.ref 213) [.ref x, cv, lv]) Q E s0 := by
  refine enterC [("self", .ref x), ("cat", cv), ("left", lv)] (led := []) k hs r.lt (fun _ h => nomatch h) List.nodup_nil (fun L s H => ?_)
  refine wpAny_mono (E := no) ?_ (fun _ _ q => q) fun _ _ q => q.elim
  have H : In ⟨_, g, [], L⟩ g [(L + 1 + 1, CP (some lv)), (L + 1, CP (some (.ref x)))] _ s := H
  obtain ⟨g1, hcl, hs1, H⟩ := H.cellF (Nat.le_succ_of_le (Nat.le_succ_of_le H.fresh))
  obtain ⟨g2, hcs, hs2, H⟩ := H.cellF (Nat.le_succ_of_le H.fresh)
  have hcl := hcl.mono hs2
  have S2 := hs1.trans hs2
  have k2 := k.mono S2
  have hI2 := hI.mono S2
  have hi2 := hi.mono S2
  have hj2 := hj.mono S2
  have rr : ∀ e, Room (A.deeper e) 4 57 := fun e => r.deeper
  refine ex_if (isT (Call_ (nmG H k2 (g_is_nonterminal _) (callW (kp77 _) (a1 (nmC H hcl ⟨H.K k2, ?_⟩))))))
  refine isN_spec ((rr _).le (by decide) (by decide)) k2 H.into hj2 fun s g3 R3 => tr_b ?_
  have H := H.call0 R3
  have k3 := k2.mono R3.sub
  have S3 := S2.trans R3.sub
  have hcl3 := hcl.mono R3.sub
  have hcs3 := hcs.mono R3.sub
  cases hjt : j.t with
  | false =>
    simp only [Bool.not_false, if_true]
    refine ex_ret (cmp1 (Call_ (nmG H k3 (g_key _) (callW (kp91 _) (a1 (nmC H hcl3 ⟨H.K k3, ?_⟩))))))
    refine key_spec ((rr _).le (by decide) (by decide)) k3 H.into (hj2.mono R3.sub) fun kv s g4 R4 hkv => ?_
    have H := H.call0 R4
    have k4 := k3.mono R4.sub
    have S4 := S3.trans R4.sub
    refine MethodCall_ (nmC H (hcs3.mono R4.sub) (meth H k4 (c334 _) (hI.mono S4) (M_leftcorners _) (hG.no _ (by decide)) (callW (M_leftcorners _).k (a1 (nm H rfl ⟨H.K k4, ?_⟩)))))
    refine lcorn_spec ((rr _).le (by decide) (by decide)) k4 H.into (hI.mono S4) (hG.mono S4) (hi.mono S4) fun v js s g5 R5 hv hjs => ?_
    have H := H.call0 R5
    obtain ⟨ka, _, _, rfl, _⟩ := id hkv
    refine sIn ((rr _).u (by decide)) H hv (hkv.mono R5.sub) fun s H => h _ _ _ H.rel ?_
    rw [decide_eq_true_iff, hjs j]
    unfold isLC; rw [if_pos hjt]
  | true =>
    simp only [Bool.not_true, Bool.false_eq_true, if_false]
    obtain ⟨tk, rfl⟩ : ∃ tk, lv = .str j.n tk := by cases hj with | word nn tk => exact ⟨tk, rfl⟩ | sym => cases hjt
    obtain ⟨v, W, hf, hv, hW, hWk, hWm⟩ := hG.lw
    have hWne : W ≠ [] := fun e => by
      cases ps with
      | nil => exact hne rfl
      | cons p ps => exact absurd ((hWk p.1).mpr (by simp)) (by rw [e]; simp)
    have hWl : W.length ≤ 900 := by
      have := nodup_le (l := W.map (·.1)) (U := ps.map (·.1)) hW.1 fun c hc => (hWk c).mp hc
      rw [List.length_map, List.length_map] at this; omega
    refine ex_if (isT (Attribute_any_ (nmC H hcs3 (attr H k3 (c334 _) (hI.mono S3) (a334_lcw _) hf hv fun s H => trD H (hW.mono WAt.mono' S3) hWl fun s H => ?_))))
    rw [decide_eq_false hWne, Bool.not_false, if_pos rfl]
    refine ex_ret (cmp1 (nmC H hcl3 (MethodCall_ (Attribute_any_ (nmC H hcs3 (attr H k3 (c334 _) (hI.mono S3) (a334_lcw _) hf hv fun s H => mGetR H (hW.mono WAt.mono' S3) (callB (aC ?_))))))))
    refine Call_ (nmG H k3 (g_key _) (callW (kp91 _) (a1 (nm H rfl ⟨H.K k3, ?_⟩))))
    refine key_spec ((rr _).le (by decide) (by decide)) k3 H.into (hi.mono S3) fun kv s g4 R4 hkv => ?_
    have H := H.call0 R4
    have k4 := k3.mono R4.sub
    obtain ⟨ka, _, _, rfl, _⟩ := id hkv
    refine a1 (Call_ (nmB H k4 g_set (e := n_set _) (callT0 (set0W H fun ev g5 s hs5 hev H => ?_))))
    refine getWrd (P := fun y => ∃ c, LC ps i c ∧ firstW ps c y) ((rr _).u (by decide)) H (hW.mono WAt.mono' ((S3.trans R4.sub).trans hs5)) (hkv.mono hs5) hev (fun ws hm y => hWm _ hm y) (fun hn y q => ?_) fun u ws s H hu hw => ?_
    · obtain ⟨c, hc, p, hp, h1, _⟩ := q
      have hn' : i ∉ ps.map (·.1) := fun q => hn ((hWk i).mpr q)
      rw [lc_only hn'] at hc
      exact hn' (List.mem_map.mpr ⟨p, hp, h1.trans hc⟩)
    obtain ⟨bo, ob, rfl, hbo, hpo⟩ := hu
    refine wIn H (H.into _ _ hbo) hpo fun s H => h _ _ _ H.rel ?_
    rw [decide_eq_true_iff, hw]
    unfold isLC; rw [if_neg (by rw [hjt]; decide)]

/-! ## what the grammar says of its form -/
def fLex (ps : List Row2) : Bool := (ps.filterMap fun p => some (lexP p)).all id
def fNon (ps : List Row2) : Bool := (ps.filterMap fun p => if p.2.length ≠ 1 then some (nonP p) else none).all id
def fUna (ps : List Row2) : Bool := (ps.filterMap fun p => if p.2.length = 1 then some (lexP p) else none).all id
def fMin (ps : List Row2) : Nat := bestOf ltN (ps.map fun p => p.2.length)
def fMax (ps : List Row2) : Nat := bestOf gtN (ps.map fun p => p.2.length)
variable {x : Addr} {f : Str → Option Value} {ps : List Row2} {Q : Value → Shared → Prop}
theorem Gram.fLex (h : Gram prog w g f ps) : f "_is_lexical" = some (.bool (fLex ps)) := by
  obtain ⟨t1, t2, e⟩ := h.frm
  rw [e _ (by decide)]; rfl
theorem Gram.fNon (h : Gram prog w g f ps) : f "_is_nonlexical" = some (.bool (fNon ps)) := by
  obtain ⟨t1, t2, e⟩ := h.frm
  rw [e _ (by decide)]; rfl
theorem Gram.fUna (h : Gram prog w g f ps) : f "_all_unary_are_lexical" = some (.bool (fUna ps)) := by
  obtain ⟨t1, t2, e⟩ := h.frm
  rw [e _ (by decide)]; rfl
theorem Gram.fMin (h : Gram prog w g f ps) : ∃ t, f "_min_len" = some (.int (fMin ps : Nat) t) := by
  obtain ⟨t1, t2, e⟩ := h.frm
  exact ⟨t1, by rw [e _ (by decide)]; rfl⟩
theorem Gram.fMax (h : Gram prog w g f ps) : ∃ t, f "_max_len" = some (.int (fMax ps : Nat) t) := by
  obtain ⟨t1, t2, e⟩ := h.frm
  exact ⟨t2, by rw [e _ (by decide)]; rfl⟩
theorem a334_1 (P : Params) : findIn (hd.heap_39 P) (.ref 334) "_is_lexical" = some none := by kernel_rfl
theorem a334_2 (P : Params) : findIn (hd.heap_39 P) (.ref 334) "_is_nonlexical" = some none := by kernel_rfl
theorem a334_3 (P : Params) : findIn (hd.heap_39 P) (.ref 334) "_min_len" = some none := by kernel_rfl
theorem a334_4 (P : Params) : findIn (hd.heap_39 P) (.ref 334) "_max_len" = some none := by kernel_rfl
theorem a334_5 (P : Params) : findIn (hd.heap_39 P) (.ref 334) "_all_unary_are_lexical" = some none := by kernel_rfl
theorem M_1 (P : Params) : Meth P 334 "is_lexical" 232 := ⟨by kernel_rfl, by kernel_rfl, by kernel_rfl⟩
theorem M_2 (P : Params) : Meth P 334 "is_nonlexical" 239 := ⟨by kernel_rfl, by kernel_rfl, by kernel_rfl⟩
theorem M_3 (P : Params) : Meth P 334 "min_len" 246 := ⟨by kernel_rfl, by kernel_rfl, by kernel_rfl⟩
theorem M_4 (P : Params) : Meth P 334 "max_len" 253 := ⟨by kernel_rfl, by kernel_rfl, by kernel_rfl⟩
theorem M_5 (P : Params) : Meth P 334 "is_nonempty" 260 := ⟨by kernel_rfl, by kernel_rfl, by kernel_rfl⟩
theorem M_6 (P : Params) : Meth P 334 "is_binarised" 267 := ⟨by kernel_rfl, by kernel_rfl, by kernel_rfl⟩
theorem M_7 (P : Params) : Meth P 334 "is_flexible_chomsky_normal_form" 274 := ⟨by kernel_rfl, by kernel_rfl, by kernel_rfl⟩
theorem M_8 (P : Params) : Meth P 334 "is_chomsky_normal_form" 281 := ⟨by kernel_rfl, by kernel_rfl, by kernel_rfl⟩
theorem get1 (r : Room A 1 10) (k : KB w mg mb g) (hs : Sub g s.heap) (hI : Inst g x 334 f) (hG : Gram prog w g f ps) (h : ∀ s' g', Rel [] s g s' g' → Q (.bool (fLex ps)) s') : wpAny (model prog w) A (call (.ref 232) [.ref x]) Q E s := by
  refine enter0 [("self", .ref x)] k hs r.lt ?_; intro L s H
  exact ex_ret (Attribute_any_ (nm H rfl (attr H k (c334 _) hI (a334_1 _) hG.fLex rfl fun s H => h _ _ H.rel)))
theorem get2 (r : Room A 1 10) (k : KB w mg mb g) (hs : Sub g s.heap) (hI : Inst g x 334 f) (hG : Gram prog w g f ps) (h : ∀ s' g', Rel [] s g s' g' → Q (.bool (fNon ps)) s') : wpAny (model prog w) A (call (.ref 239) [.ref x]) Q E s := by
  refine enter0 [("self", .ref x)] k hs r.lt ?_; intro L s H
  exact ex_ret (Attribute_any_ (nm H rfl (attr H k (c334 _) hI (a334_2 _) hG.fNon rfl fun s H => h _ _ H.rel)))
theorem get3 (r : Room A 1 10) (k : KB w mg mb g) (hs : Sub g s.heap) (hI : Inst g x 334 f) (hG : Gram prog w g f ps) (h : ∀ t s' g', Rel [] s g s' g' → Q (.int (fMin ps : Nat) t) s') : wpAny (model prog w) A (call (.ref 246) [.ref x]) Q E s := by
  refine enter0 [("self", .ref x)] k hs r.lt ?_; intro L s H
  obtain ⟨t, e⟩ := hG.fMin
  exact ex_ret (Attribute_any_ (nm H rfl (attr H k (c334 _) hI (a334_3 _) e rfl fun s H => h t _ _ H.rel)))
theorem get4 (r : Room A 1 10) (k : KB w mg mb g) (hs : Sub g s.heap) (hI : Inst g x 334 f) (hG : Gram prog w g f ps) (h : ∀ t s' g', Rel [] s g s' g' → Q (.int (fMax ps : Nat) t) s') : wpAny (model prog w) A (call (.ref 253) [.ref x]) Q E s := by
  refine enter0 [("self", .ref x)] k hs r.lt ?_; intro L s H
  obtain ⟨t, e⟩ := hG.fMax
  exact ex_ret (Attribute_any_ (nm H rfl (attr H k (c334 _) hI (a334_4 _) e rfl fun s H => h t _ _ H.rel)))
theorem get5 (r : Room A 1 10) (k : KB w mg mb g) (hs : Sub g s.heap) (hI : Inst g x 334 f) (hG : Gram prog w g f ps) (h : ∀ s' g', Rel [] s g s' g' → Q (.bool (decide (0 < fMin ps))) s') : wpAny (model prog w) A (call (.ref 260) [.ref x]) Q E s := by
  refine enter0 [("self", .ref x)] k hs r.lt ?_; intro L s H
  obtain ⟨t, e⟩ := hG.fMin
  refine ex_ret (cmp1 (Attribute_any_ (nm H rfl (attr H k (c334 _) hI (a334_3 _) e rfl fun s H => cst_i H fun u s H => P.gt_int ?_))))
  have := h _ _ H.rel
  have e2 : decide ((fMin ps : Int) > 0) = decide (0 < fMin ps) := decide_eq_decide.mpr (by omega)
  rw [← e2] at this; exact this
theorem get6 (r : Room A 1 10) (k : KB w mg mb g) (hs : Sub g s.heap) (hI : Inst g x 334 f) (hG : Gram prog w g f ps) (h : ∀ s' g', Rel [] s g s' g' → Q (.bool (decide (fMax ps ≤ 2))) s') : wpAny (model prog w) A (call (.ref 267) [.ref x]) Q E s := by
  refine enter0 [("self", .ref x)] k hs r.lt ?_; intro L s H
  obtain ⟨t, e⟩ := hG.fMax
  refine ex_ret (cmp1 (Attribute_any_ (nm H rfl (attr H k (c334 _) hI (a334_4 _) e rfl fun s H => cst_i H fun u s H => P.le_int ?_))))
  have := h _ _ H.rel
  have e2 : decide ((fMax ps : Int) ≤ 2) = decide (fMax ps ≤ 2) := decide_eq_decide.mpr (by omega)
  rw [← e2] at this; exact this
def fFlex (ps : List Row2) : Bool := decide (0 < fMin ps) && (fNon ps && decide (fMax ps ≤ 2))
theorem get7 (r : Room A 3 40) (k : KB w mg mb g) (hs : Sub g s.heap) (hI : Inst g x 334 f) (hG : Gram prog w g f ps) (h : ∀ s' g', Rel [] s g s' g' → Q (.bool (fFlex ps)) s') : wpAny (model prog w) A (call (.ref 274) [.ref x]) Q E s := by
  refine enter0 [("self", .ref x)] k hs r.lt ?_; intro L s H
  have rr : ∀ e, Room (A.deeper e) 2 37 := fun e => r.deeper
  refine ex_ret (BoolOp_and (MethodCall_ (nm H rfl (meth H k (c334 _) hI (M_5 _) (hG.no _ (by decide)) (callW0 (H.K k) (M_5 _).k ?_)))))
  refine get5 ((rr _).le (by decide) (by decide)) k H.into hI hG fun s g2 R2 => tr_b ?_
  have H := H.call0 R2
  have k2 := k.mono R2.sub
  have hI2 := hI.mono R2.sub
  have hG2 := hG.mono R2.sub
  by_cases h5 : 0 < fMin ps
  · rw [decide_eq_true h5, if_pos rfl]
    refine BoolOp_and (MethodCall_ (nm H rfl (meth H k2 (c334 _) hI2 (M_2 _) (hG.no _ (by decide)) (callW0 (H.K k2) (M_2 _).k ?_))))
    refine get2 ((rr _).le (by decide) (by decide)) k2 H.into hI2 hG2 fun s g3 R3 => tr_b ?_
    have H := H.call0 R3
    have k3 := k2.mono R3.sub
    have hI3 := hI2.mono R3.sub
    have hG3 := hG2.mono R3.sub
    cases hn : fNon ps with
    | true =>
      rw [if_pos rfl]
      refine BoolOp_one (MethodCall_ (nm H rfl (meth H k3 (c334 _) hI3 (M_6 _) (hG.no _ (by decide)) (callW0 (H.K k3) (M_6 _).k ?_))))
      refine get6 ((rr _).le (by decide) (by decide)) k3 H.into hI3 hG3 fun s g4 R4 => ?_
      have := h _ _ (H.call0 R4).rel
      unfold fFlex at this
      rw [decide_eq_true h5, hn, Bool.true_and, Bool.true_and] at this; exact this
    | false =>
      rw [if_neg Bool.false_ne_true]
      have := h _ _ H.rel
      unfold fFlex at this
      rw [hn, Bool.false_and, Bool.and_false] at this; exact this
  · rw [decide_eq_false h5, if_neg Bool.false_ne_true]
    have := h _ _ H.rel
    unfold fFlex at this
    rw [decide_eq_false h5, Bool.false_and] at this; exact this
theorem get8 (r : Room A 4 50) (k : KB w mg mb g) (hs : Sub g s.heap) (hI : Inst g x 334 f) (hG : Gram prog w g f ps) (h : ∀ s' g', Rel [] s g s' g' → Q (.bool (fFlex ps && fUna ps)) s') : wpAny (model prog w) A (call (.ref 281) [.ref x]) Q E s := by
  refine enter0 [("self", .ref x)] k hs r.lt ?_; intro L s H
  have rr : ∀ e, Room (A.deeper e) 3 47 := fun e => r.deeper
  refine ex_ret (BoolOp_and (MethodCall_ (nm H rfl (meth H k (c334 _) hI (M_7 _) (hG.no _ (by decide)) (callW0 (H.K k) (M_7 _).k ?_)))))
  refine get7 ((rr _).le (by decide) (by decide)) k H.into hI hG fun s g2 R2 => tr_b ?_
  have H := H.call0 R2
  have k2 := k.mono R2.sub
  cases hn : fFlex ps with
  | true =>
    rw [if_pos rfl]
    refine BoolOp_one (Attribute_any_ (nm H rfl (attr H k2 (c334 _) (hI.mono R2.sub) (a334_5 _) hG.fUna rfl fun s H => ?_)))
    have := h _ _ H.rel
    rw [hn, Bool.true_and] at this; exact this
  | false =>
    rw [if_neg Bool.false_ne_true]
    have := h _ _ H.rel
    rw [hn, Bool.false_and] at this; exact this
end
end Mine
end

section
open PySem PySem.W PySem.Calls PyProof.Rows
set_option maxRecDepth 100000
namespace Mine
theorem fillK20 (P : Params) : hd.heap_39 P = hd.heap_39 P → PySem.Challenge.rw_bn0044_01 = PySem.Challenge.rw_bn0044_01 := by
  k_fill
  exact fun _ => rfl

/-! ## a raise out of a callee -/
def frs (l : List Env) : List Addr := l.filterMap (·.frame)
structure Thrown (outer : List Env) (s : Shared) (e : Addr) (s' : Shared) : Prop where
  fly : ∃ t, Heap.FlyingW (hideAll s.heap (frs outer)) outer e (.type "ValueError") (.ref t) s'.heap
  slots : s.heap.UpToSlots s'.heap
  os : s'.os = s.os
  gens : GenRel s.gens s'.gens
  size : s.heap.objs.size ≤ s'.heap.objs.size

theorem frs_mem {l : List Env} {env : Env} {a : Addr} (he : env ∈ l) (ha : env.frame = some a) : a ∈ frs l := List.mem_filterMap.mpr ⟨env, he, ha⟩

section
variable {prog : Program} {w : World} {mg mb : Str → Option Value} {A : Around} {E : Value → Shared → Prop} {s s' : Shared} {F : Fx} {g g' : Heap} {led : Led} {m : Str → Option Value} {env : Env}

theorem leaveT {M : Model} {outer : List Env} {base' h' : Heap} {e : Addr} {vs : List Value} {Q : Unit → Shared → Prop} (hfr : A.frames = some outer) (hF : F.s0.heap.FunFrames base' outer) (H : In F g led m s) (hmu : F.mu = []) (hx : Heap.MadeExc s.heap h' e "ValueError" vs)
    (hfrm : env.frame = some F.L) (hk : env.scope.kind ≠ .module) (h : ∀ s'', Thrown outer F.s0 e s'' → Q () s'') : wpAny M (A.deeper env) (leaving env (.ref e)) Q E { s with heap := h' } := by
  have hin : ∀ env ∈ outer, ∀ a, env.frame = some a → a ∈ frs outer := fun env he a ha => frs_mem he ha
  have kp : ∀ b o, F.s0.heap.get? b = some o → s.heap.get? b = some o := fun b o e => H.rel.keep b o (by rw [hmu]; simp) e
  have hL0 : F.s0.heap.get? F.L = none := by
    cases q : F.s0.heap.get? F.L with
    | none => rfl
    | some o => exact absurd (Heap.lt_size q) (Nat.not_lt.mpr H.fresh)
  have hb0 : (hideAll F.s0.heap (frs outer)).get? F.L = none := by
    cases q : (hideAll F.s0.heap (frs outer)).get? F.L with
    | none => rfl
    | some o => have := of_hideAll _ q; rw [hL0] at this; cases this
  obtain ⟨oL, es, ep, hoL, hdL, _⟩ := H.ns
  have hFF := funFrames_hide hF hin
  have hz : F.s0.heap.objs.size ≤ h'.objs.size := Nat.le_trans H.fresh (Nat.le_of_lt (Heap.lt_size (hx.keeps _ _ hoL)))
  refine sz (wpAny_leaves_madeW (base := hideAll F.s0.heap (frs outer)) (h := s.heap) (L := F.L) (Around.frames_deeper hfr) hfrm (fun b o q => kp b o (of_hideAll _ q))
    ⟨hk, ⟨F.L, oL, hfrm, hb0, hoL, fun vs q => by rw [hdL] at q; cases q⟩, hFF.of_keeps fun b o e _ => ⟨o, kp b o e, rfl⟩⟩ hx.of fun h'' t x1 x2 x3 x4 hz' => ?_)
  exact h _ ⟨⟨t, x1⟩, ((Heap.UpToSlots.of_keeps kp).trans (Heap.UpToSlots.of_keeps hx.keeps)).trans x4, H.rel.os, H.rel.gens, Nat.le_trans hz hz'⟩

/-- raise ValueError('..') -/
theorem ex_raise {x : Str} {kk : Nat} {np cp pos cpos : Pos} {rest : List Stmt} {Q : Flow → Shared → Prop} (H : In F g led m s) (k : KB w mg mb g) (hh : A.handled = none)
    (h : ∀ s2 h' e vs, In F g led m s2 → Heap.MadeExc s2.heap h' e "ValueError" vs → E (.ref e) { s2 with heap := h' })
    (he : nsIn (hd.heap_39 w.params) mainGlobals "ValueError" = some none := by kernel_rfl) (hg : env.globals = mainGlobals := by rfl) (hb : env.builtins = builtinsNs := by rfl)
    (hk : env.scope.kind = .function := by rfl) (hx : env.kindOf "ValueError" = some .globalImplicit := by kernel_rfl) :
    wpAny (model prog w) A (execs (.Raise (some (.Call (.Name "ValueError" np) [.Constant (.str x) kk cp] [] cpos)) none pos :: rest) env) Q E s := by
  refine wpAny_execs_cons (Raise_madeB PySem.F.excCall_ValueError PySem.F.excRaise_ValueError hh (nmB H k PyProof.Rows.Boot.«ValueError» (e := he) (hg := hg) (hb := hb) (hk := hk) (hx := hx) ⟨rfl, ?_⟩))
  exact a1 (cst_s H fun t s2 H2 => ⟨by simp [sizeLine_eq], fun h' e hm => h s2 h' e _ H2 hm⟩)

/-- the productions that begin with something, but are empty -/
theorem prodRE {s0 : Shared} {outer : List Env} {base' : Heap} {x : Addr} {rv : Value} {j : It} {Q : Value → Shared → Prop} (hfr : A.frames = some outer) (hF : s0.heap.FunFrames base' outer) (r : Room A 3 90) (k : KB w mg mb g) (hs : Sub g s0.heap) (hj : ItemAt g rv j) (hn : namedI j)
    (h : ∀ e s', Thrown outer s0 e s' → E (.ref e) s') : wpAny (model prog w) A (call (.ref 199) [.ref x] [("rhs", rv), ("empty", .bool true)]) Q E s0 := by
  refine enterC [("self", .ref x), ("lhs", .none), ("rhs", rv), ("empty", .bool true)] (led := []) k hs r.lt (fun _ h => nomatch h) List.nodup_nil (fun L s H => ?_) (hbind := binds_K (k.X.keeps hs) rfl (by k_is) rfl rfl rfl)
  have H : In ⟨_, g, [], L⟩ g [(L + 1, CP (some rv))] _ s := H
  obtain ⟨g1, hc, hs1, H⟩ := H.cellF (Nat.le_succ_of_le H.fresh)
  have k1 := k.mono hs1
  refine ex_if (isTrue_and (isT (nmC H hc (trI H k1 (hj.mono hs1) hn fun s H => ?_))))
  rw [if_pos rfl]
  refine isTrue_and (isT (nm H rfl (tr_b ?_)))
  rw [if_pos rfl]
  refine isTrue_and_nil ?_
  rw [if_pos rfl]
  refine ex_raise H k1 r.hh fun s2 h' e vs H2 hm => ?_
  exact leaveT hfr hF H2 rfl hm rfl (by show ScopeKind.function ≠ .module; decide) fun s'' T => h e s'' T

/-- a list of words -/
def WordAt (_g : Heap) (v : Value) (x : Str) : Prop := ∃ tk, v = .str x tk
theorem WordAt.mono' : ∀ g g' v b, Sub g g' → WordAt g v b → WordAt g' v b := fun _ _ _ _ _ h => h
theorem lexGet {v : Value} {ps : List Row2} {x : Str} {t : Tok} {Q : Value → Shared → Prop} (H : In F g led m s) (hv : LexAt prog w g v ps) (h0 : ¬ hasW ps x → ∀ s', In F g led m s' → Q .none s') (h1 : hasW ps x → ∀ b vs s', g.IsList b vs → 0 < vs.size → vs.size ≤ 900 → In F g led m s' → Q (.ref b) s') :
    wpAny (model prog w) A (call (.builtin "dict.get") [v, .str x t]) Q E s := by
  obtain ⟨d, o, kvs, rfl, hd1, hod, hS, hvs, hks⟩ := hv
  have hm := hS.at (H.into _ _ hod)
  refine call_meetsIn PySem.F.slot_dict_get hm.typeIs PySem.F.entry_dict_get (PySem.F.args_dict_get_2 _ _) (meets_dict_get (PySem.strKind prog w) d (isX x t) (by simpa [sysModules] using hd1)) ⟨_, hm.mapOf, ?_⟩
  cases hva : valueAt kvs x with
  | none =>
    refine h0 (fun q => ?_) _ (H.toks _)
    obtain ⟨kv, hkv, e⟩ := List.mem_map.mp ((hks x).mpr q)
    unfold valueAt at hva
    rw [Option.map_eq_none_iff, List.find?_eq_none] at hva
    exact hva kv hkv (by simpa using e)
  | some u =>
    unfold valueAt at hva
    obtain ⟨kv, hf, rfl⟩ := Option.map_eq_some_iff.mp hva
    have hkv := List.mem_of_find?_eq_some hf
    have hke : kv.1 = x := by simpa using List.find?_some hf
    obtain ⟨b, vs, e, hb, hp, hz⟩ := hvs kv hkv
    show Q kv.2 _
    rw [e]
    exact h1 ((hks x).mp (List.mem_map.mpr ⟨kv, hkv, hke⟩)) b vs _ hb hp hz (H.toks _)
theorem mLexGet {v : Value} {ps : List Row2} {pl : Sem Bool} {Q : Value × List Value → Shared → Prop} (H : In F g led m s) (hv : LexAt prog w g v ps) (h : Q (.builtin "dict.get", [v]) s) : wpAny (model prog w) A (getMethod v "get" pl) Q E s := by
  obtain ⟨d, o, kvs, rfl, hd1, hod, hS, hvs, hks⟩ := hv
  obtain ⟨es, ep, a, b, c⟩ := id hS
  exact getMethod_builtin (hS.at (H.into _ _ hod)).typeIs PySem.F.plainAttrs_dict PySem.F.slot_dict_get PySem.F.type_dict_get (fun b e => by cases e; exact ⟨o, H.into _ _ hod, a.2.1⟩) h
theorem trLst {l : Addr} {vs : List Value} {Q : Bool → Shared → Prop} (H : In F g led m s) (hl : g.IsList l vs.toArray) (hz : vs.length ≤ 1000) (h : ∀ s', In F g led m s' → Q (!vs.isEmpty) s') : wpAny (model prog w) A (truthy (.ref l)) Q E s := by
  refine wpAny_truthy_list (isList_mono hl H.into) (by rw [List.size_toArray]; omega) ?_
  have : (!vs.toArray.isEmpty) = !vs.isEmpty := by cases vs <;> rfl
  rw [this]
  exact h _ (H.toks _)

/-- grammar.check_coverage(tokens) -/
theorem cover_spec {s0 : Shared} {outer : List Env} {base' : Heap} {x : Addr} {f : Str → Option Value} {ps : List Row2} {tv : Value} {ws : List Str} {Q : Value → Shared → Prop} (hfr : A.frames = some outer) (hF : s0.heap.FunFrames base' outer) (r : Room A 3 90) (k : KB w mg mb g) (hs : Sub g s0.heap) (hI : Inst g x 334 f) (hG : Gram prog w g f ps) (ht : Lst WordAt g tv ws) (hz : ws.length ≤ 900)
    (h0 : (∀ x ∈ ws, hasW ps x) → ∀ s' g', Rel [] s0 g s' g' → Q .none s') (h1 : (∃ x ∈ ws, ¬ hasW ps x) → ∀ e s', Thrown outer s0 e s' → E (.ref e) s') : wpAny (model prog w) A (call (.ref 218) [.ref x, tv]) Q E s0 := by
  obtain ⟨tl, tvs, rfl, htl, hta⟩ := ht
  refine enterC [("self", .ref x), ("tokens", .ref tl)] (led := []) k hs r.lt (fun _ h => nomatch h) List.nodup_nil (fun L s H => ?_)
  have H : In ⟨_, g, [], L⟩ g [(L + 1, CP (some (.ref x)))] _ s := H
  obtain ⟨g1, hc, hs1, H⟩ := H.cellF (Nat.le_succ_of_le H.fresh)
  have k1 := k.mono hs1
  obtain ⟨v, hf, hv, hL⟩ := hG.lex
  have hL1 := hL.mono hs1
  have hta1 : All2 (WordAt g1) tvs ws := hta
  refine ex_setC (cl := [("self", L + 1)]) rfl (nm H rfl (itListA H (isList_mono htl hs1) hta1 fun I St s S H => ?_))
  refine lcU (JSel ws g1 [] WordAt (fun y o => o = (open Classical in if hasW ps y then none else some y))) S r.hh (.refl _) H .init (by omega) ?_ ?_
  · rintro F' y rest out acc g2 led2 m2 s v2 hg ⟨tk, rfl⟩ H J
    have k2 := k1.mono hg
    refine asN H fun s H => tests1 (isTrue_not (isT (MethodCall_ (Attribute_any_ (nmC H (hc.mono hg) (attr H k2 (c334 _) ((hI.mono hs1).mono hg) (a334_lex_index _) hf hv fun s H => mLexGet H (hL1.mono hg) (callB (a1 (nm H (if_pos rfl) ?_)))))))))
    refine lexGet H (hL1.mono hg) (fun hw s H => truthy_none ?_) fun hw b vs s hb hp hz' H => ?_
    · rw [Bool.not_false, if_pos rfl]
      exact nm H (if_pos rfl) ⟨g2, led2, _, hg, H, J.step WordAt.mono' (.refl _) ⟨tk, rfl⟩ (by rw [if_neg hw])⟩
    · refine wpAny_truthy_list (isList_mono hb H.into) (by omega) ?_
      have : (!vs.isEmpty) = true := by
        cases h : vs.isEmpty with
        | false => rfl
        | true => rw [Array.isEmpty_iff_size_eq_zero] at h; omega
      rw [this, Bool.not_true, if_neg Bool.false_ne_true]
      exact ⟨g2, led2, _, hg, H.toks _, J.pass WordAt.mono' (.refl _) (by rw [if_pos hw])⟩
  · intro l out g3 g4 led4 s hg3 hg4 hl J H
    obtain ⟨rfl, S4, ha⟩ := J.fin WordAt.mono' hg4
    have hlen : out.length ≤ 900 := by rw [ha.length]; exact Nat.le_trans (List.length_filterMap_le _ _) hz
    have k4 := k1.mono S4
    refine ex_if (isT (nm H (if_pos rfl) (trLst H hl (by omega) fun s H => ?_)))
    cases out with
    | nil =>
      have hall : ∀ x ∈ ws, hasW ps x := fun x hx => by
        have e : ws.filterMap (fun y => open Classical in if hasW ps y then none else some y) = [] := List.eq_nil_of_length_eq_zero ha.length.symm
        rw [List.filterMap_eq_nil_iff] at e
        have := e x hx
        by_cases q : hasW ps x
        · exact q
        · rw [if_neg q] at this; cases this
      show if (!([] : List Value).isEmpty) = true then _ else _
      simp only [List.isEmpty_nil, Bool.not_true, Bool.false_eq_true, if_false]
      exact ex_nil (ex_nil (h0 hall _ _ H.rel))
    | cons y ys =>
      show if (!(y :: ys).isEmpty) = true then _ else _
      simp only [List.isEmpty_cons, Bool.not_false, if_true]
      have hex : ∃ x ∈ ws, ¬ hasW ps x := by
        obtain ⟨x, hx, _⟩ := ha.mem_l (.head _)
        obtain ⟨z, hz1, hz2⟩ := List.mem_filterMap.mp hx
        by_cases q : hasW ps z
        · rw [if_pos q] at hz2; cases hz2
        · exact ⟨z, hz1, q⟩
      refine ex_raise H k4 r.hh fun s2 h' e vs H2 hm => ?_
      exact leaveT hfr hF H2 rfl hm rfl (by show ScopeKind.function ≠ .module; decide) fun s'' T => h1 hex e s'' T

/-! ## and caught -/
def FrP (o0 : Obj) : Obj → Prop := fun o => (∃ sl, o = { o0 with slots := sl }) ∧ ∀ vs, o.data ≠ .fields vs
theorem In.thrown {outer : List Env} {e : Addr} {cls a0 : Value} (H : In F g led m s) (hfl : Heap.FlyingW (hideAll s.heap (frs (env :: outer))) (env :: outer) e cls a0 s'.heap) (hsl : s.heap.UpToSlots s'.heap) (ho : s'.os = s.os) (hg : GenRel s.gens s'.gens) (hz : s.heap.objs.size ≤ s'.heap.objs.size)
    (hL : env.frame = some F.L) (hout : ∀ a ∈ frs outer, ∃ o0, (a, FrP o0) ∈ led) : In F g led m s' := by
  have st : ∀ b o, b ∉ frs (env :: outer) → s.heap.get? b = some o → s'.heap.get? b = some o := fun b o n q => hfl.1 b o (hideAll_get _ q n)
  have hfr : ∀ b, b ∈ frs (env :: outer) → b = F.L ∨ ∃ o0, (b, FrP o0) ∈ led := fun b hb => by
    unfold frs at hb
    rw [List.filterMap_cons, hL] at hb
    rcases List.mem_cons.mp hb with h | h
    · exact .inl h
    · exact .inr (hout b h)
  have nog : ∀ b o, g.get? b = some o → b ∉ frs (env :: outer) := fun b o q hb => by
    rcases hfr b hb with rfl | ⟨o0, h0⟩
    · rw [H.off] at q; cases q
    · rw [H.ne h0] at q; cases q
  have nos : ∀ b o, b ∉ F.mu → F.s0.heap.get? b = some o → b ∉ frs (env :: outer) := fun b o n q hb => by
    rcases hfr b hb with rfl | ⟨o0, h0⟩
    · exact absurd (Heap.lt_size q) (Nat.not_lt.mpr H.fresh)
    · rcases (H.ent _ h0).2.2.2 with h | h
      · exact n h
      · exact absurd (Heap.lt_size q) (Nat.not_lt.mpr h)
  refine ⟨⟨H.rel.sub, fun b o q => st b o (nog b o q) (H.into b o q), H.rel.new, fun b o n q => st b o (nos b o n q) (H.rel.keep b o n q), Nat.le_trans H.rel.size hz, ho.trans H.rel.os, H.rel.gens.trans hg⟩, hsl.ns H.ns, H.fresh, H.off, fun p hp => ?_, H.nodup⟩
  obtain ⟨⟨o, ho, hP⟩, h2, h3, h4⟩ := H.ent p hp
  refine ⟨?_, h2, h3, h4⟩
  by_cases hb : p.1 ∈ frs (env :: outer)
  · rcases hfr _ hb with hb | ⟨o0, h0⟩
    · exact absurd hb h3
    · have := led_inj led H.nodup p hp _ h0 rfl
      rw [this] at hP ho ⊢
      obtain ⟨⟨sl, e⟩, hd⟩ := hP
      obtain ⟨sl', e'⟩ := hsl _ o ho hd
      exact ⟨_, e', ⟨sl', by rw [e]⟩, hd⟩
  · exact ⟨o, st _ o hb ho, hP⟩

theorem catchT {outer : List Env} {e : Addr} {np pos : Pos} {b₀ : Stmt} {suite : List Stmt} {rest : List ExceptHandler} {Q : Flow → Shared → Prop} (H : In F g led m s) (k : KB w mg mb g) (hA : A.frames = some (env :: outer)) (hL : env.frame = some F.L) (T : Thrown (env :: outer) s e s')
    (hout : ∀ a ∈ frs outer, ∃ o0, (a, FrP o0) ∈ led)
    (h : ∀ s2, In F g led m s2 → wpAny (model prog w) (A.mark (some (.ref e))) (execs (b₀ :: suite) env) Q no s2)
    (he : nsIn (hd.heap_39 w.params) mainGlobals "ValueError" = some none := by kernel_rfl) (hg : env.globals = mainGlobals := by rfl) (hb : env.builtins = builtinsNs := by rfl)
    (hk : env.scope.kind = .function := by rfl) (hx : env.kindOf "ValueError" = some .globalImplicit := by kernel_rfl) :
    wpAny (model prog w) A (noteFrame (.ref e) env) (fun _ s₂ => wpAny (model prog w) A (setFlight (.ref e) none) (fun _ s₃ =>
      wpAny (model prog w) A (handleBy (.ref e) env (.ExceptHandler (some (.Name "ValueError" np)) none (b₀ :: suite) pos :: rest)) Q no s₃) no s₂) no s' := by
  obtain ⟨⟨t, hfl⟩, hsl, ho, hg', hz⟩ := T
  refine sz (wpAny_looks_onW hA hL hfl fun h₄ hheld₄ hsm₄ hz4 => ?_)
  refine sz (wpAny_landsW hheld₄ fun h₅ hheld hsm₅' hz5 => ?_)
  have hsm₅ := hsm₄.trans hsm₅'
  have H5 : In F g led m { s' with heap := h₅ } := H.thrown (s' := { s' with heap := h₅ }) hheld (hsl.trans hsm₅) ho hg' (Nat.le_trans hz (Nat.le_trans hz4 hz5)) hL hout
  obtain ⟨ob, hob, hobc⟩ := hheld.there
  refine wpAny_handleBy_builtin (X := "ValueError") (T := "ValueError") (b := true) PySem.F.isExc_ValueError PySem.F.notTuple_ValueError (by rw [isSubtype_type]; kernel_rfl) (nmB H5 k PyProof.Rows.Boot.«ValueError» (e := he) (hg := hg) (hb := hb) (hk := hk) (hx := hx) ⟨rfl, ⟨ob, hob, hobc⟩, ?_⟩)
  refine sz (lands_againW hheld fun h₆ hfl₆ hsm₆ hz6 => ?_)
  have H6 : In F g led m { s' with heap := h₆ } := H.thrown (s' := { s' with heap := h₆ }) hfl₆ (hsl.trans (hsm₅.trans hsm₆)) ho hg' (Nat.le_trans hz (Nat.le_trans hz4 (Nat.le_trans hz5 hz6))) hL hout
  exact wpAny_passesOwnAt .never (h _ H6)
end
end Mine
end

section
open PySem PySem.W PySem.Calls PyProof.Rows
set_option maxRecDepth 100000
namespace Mine
theorem fillK21 (P : Params) : hd.heap_39 P = hd.heap_39 P → PySem.Challenge.rw_bn0044_01 = PySem.Challenge.rw_bn0044_01 := by
  k_fill
  exact fun _ => rfl

section
variable {prog : Program} {w : World} {mg mb : Str → Option Value} {A : Around} {E : Value → Shared → Prop} {s s' : Shared} {F : Fx} {g g' : Heap} {led : Led} {m : Str → Option Value} {env : Env}

/-- a callee came back that has written one object -/
theorem In.callM {pre post : Led} {dx : Addr} {P P' : Obj → Prop} (H : In F g (pre ++ (dx, P) :: post) m s) (R : Rel [dx] s g s' g') (hd : ∃ o, s'.heap.get? dx = some o ∧ P' o) : In F g' (pre ++ (dx, P') :: post) m s' := by
  have e : (dx, P) ∈ pre ++ (dx, P) :: post := by simp
  refine H.after R (fun a ha => by cases List.mem_singleton.mp ha; exact List.mem_map.mpr ⟨(dx, P), e, rfl⟩) (fun p hp => ?_) (by simpa using H.nodup)
  have old : ∀ p, p ∈ pre ∨ p ∈ post → (∃ o, s'.heap.get? p.1 = some o ∧ p.2 o) ∧ g'.get? p.1 = none ∧ (p.1 ∈ (pre ++ (dx, P) :: post).map (·.1) ∨ s.heap.objs.size ≤ p.1) := fun p hp => by
    have hm : p ∈ pre ++ (dx, P) :: post := by rcases hp with hp | hp <;> simp [hp]
    obtain ⟨⟨o, ho, hP⟩, h2, _, _⟩ := H.ent p hm
    exact ⟨⟨o, R.keep _ _ (by rw [List.mem_singleton]; exact H.ne2 hp) ho, hP⟩, R.still h2 (Heap.lt_size ho), .inl (List.mem_map_of_mem hm)⟩
  rcases List.mem_append.mp hp with hp | hp
  · exact old p (.inl hp)
  · rcases List.mem_cons.mp hp with rfl | hp
    · obtain ⟨⟨o, ho, _⟩, h2, _, _⟩ := H.ent _ e
      exact ⟨hd, R.still h2 (Heap.lt_size ho), .inl (List.mem_map.mpr ⟨(dx, P), e, rfl⟩)⟩
    · exact old p (.inr hp)

def CelV (_g : Heap) (v : Value) (c : Nat) : Prop := (∃ t, v = .int (c : Nat) t) ∧ c < 2000000
theorem CelV.mono' : ∀ g g' v b, Sub g g' → CelV g v b → CelV g' v b := fun _ _ _ _ _ h => h
def CellsAt (g : Heap) (c : Addr) : Prop := ∃ cs : List Nat, Lst CelV g (.ref c) cs ∧ 0 < cs.length ∧ cs.length ≤ 100
theorem CellsAt.mono {c : Addr} (h : CellsAt g c) (hs : Sub g g') : CellsAt g' c := let ⟨cs, a, b⟩ := h; ⟨cs, a.mono CelV.mono' hs, b⟩
/-- the tape: its cells and a place -/
def TapeP (c : Addr) : Obj → Prop := fun o => ∃ (at' : Nat) (tk : Tok), LP [.ref c, .int (at' : Nat) tk] o

/-- _law_take(tape, most) -/
theorem take_spec {s0 : Shared} {T c : Addr} {M : Nat} {tM : Tok} {Q : Value → Shared → Prop} (r : Room A 1 20) (k : KB w mg mb g) (hs : Sub g s0.heap) (hc : CellsAt g c) (hT : ∃ o, s0.heap.get? T = some o ∧ TapeP c o) (hn : g.get? T = none) (hM : 0 < M) 
    (h : ∀ (n : Nat) t s' g', n < M → Rel [T] s0 g s' g' → (∃ o, s'.heap.get? T = some o ∧ TapeP c o) → Q (.int (n : Nat) t) s') : wpAny (model prog w) A (call (.ref 357) [.ref T, .int (M : Nat) tM]) Q E s0 := by
  refine enterL [("tape", .ref T), ("most", .int (M : Nat) tM)] (led := [(T, TapeP c)]) k hs r.lt (fun p hp => by cases List.mem_singleton.mp hp; exact ⟨hT, hn⟩) (by simp) ?_
  intro L s H
  obtain ⟨o, ho, at', tk, hL⟩ := H.get (.head _)
  have hLt : s.heap.IsList T [.ref c, .int (at' : Nat) tk].toArray := hL.is ho
  have H : In ⟨s0, g, [T], L⟩ g [(T, LP [.ref c, .int (at' : Nat) tk])] _ s := H.sharp fun o' ho' _ => by rw [ho] at ho'; cases ho'; exact hL
  refine ex_set (Subscript_ (nm H rfl (cst_i H fun u s H => PyProof.Rows.item_list (In.list (pre := []) H) (by decide) (by decide) (x := .int (at' : Nat) tk) rfl (st H fun s H => ?_))))
  refine ex_setI (wpAny_BinOp (nm H (if_pos rfl) (cst_i H fun u s H => PyProof.Rows.add_int ?_)))
  have H := H.toks (s.toks + 1)
  refine nm H ((if_neg (by decide)).trans rfl) (cst_i H fun u s H => wpAny_setItem_list (In.list (pre := []) H) (by decide) (by decide) (by simp) fun h' hl hsb => ?_)
  obtain ⟨o2, ho2, hc2, hd2⟩ := hl
  have H := H.put (pre := []) (P' := LP [.ref c, .int ((at' + 1 : Nat) : Int) _]) hsb ho2 ⟨hc2, by simpa using hd2⟩ s.toks
  refine ex_set (Subscript_ (nm H ((if_neg (by decide)).trans rfl) (cst_i H fun u s H => PyProof.Rows.item_list (In.list (pre := []) H) (by decide) (by decide) (x := .ref c) rfl (st H fun s H => ?_))))
  obtain ⟨cs, ⟨cl, cvs, e, hcl, hca⟩, hc0, hc1⟩ := hc
  cases e
  have hcl' : ∀ {s}, Sub g s.heap → (s : Shared).heap.IsList c cvs.toArray := fun hs => isList_mono hcl hs
  have hlen : cvs.length = cs.length := hca.length
  have hlt : (at' % cs.length) < cs.length := Nat.mod_lt _ hc0
  obtain ⟨cv, hcv, ⟨tc, e⟩, hcz⟩ := hca.get' (i := at' % cs.length) (b := cs[at' % cs.length]) (List.getElem?_eq_getElem hlt)
  have hfit : ((cvs.toArray.size : Nat) : Int) < 2 ^ 63 := by rw [List.size_toArray]; omega
  have hlnz : ((cvs.toArray.size : Nat) : Int) ≠ 0 := by rw [List.size_toArray]; omega
  refine ex_ret (wpAny_BinOp (wpAny_BinOp (Subscript_ (nm H (if_pos rfl) (wpAny_BinOp (nm H ((if_neg (by decide)).trans (if_pos rfl)) (Call_ (nmB H k g_len (e := n_len _) (callB (a1 (nm H (if_pos rfl) (PyProof.Rows.len_list (hcl' H.into) hfit ?_))))))))))))
  have H := H.toks (s.toks + 1 + 1)
  refine PyProof.Rows.mod_int hlnz ?_
  have e1 : (at' : Int).fmod ((cvs.toArray.size : Nat) : Int) = ((at' % cs.length : Nat) : Int) := by
    rw [List.size_toArray, hlen, Int.fmod_eq_emod_of_nonneg _ (by omega)]; rfl
  rw [e1]
  have H := H.toks (s.toks + 1 + 1 + 1)
  refine PyProof.Rows.item_list (hcl' H.into) (by omega) (by omega) (x := cv) (by rw [Int.toNat_natCast, List.getElem?_toArray]; exact hcv) ?_
  rw [e]
  refine wpAny_BinOp (cst_i H fun u s H => wpAny_BinOp (nm H ((if_neg (by decide)).trans (if_pos rfl)) (Call_ (nmB H k g_len (e := n_len _) (callB (a1 (nm H (if_pos rfl) (PyProof.Rows.len_list (hcl' H.into) hfit ?_))))))))
  have H := H.toks (s.toks + 1 + 1)
  refine PyProof.Rows.floordiv_int hlnz ?_ (.inl (PyProof.noPylong_small (by rw [List.size_toArray]; omega)))
  have e2 : (at' : Int).fdiv ((cvs.toArray.size : Nat) : Int) = ((at' / cs.length : Nat) : Int) := by
    rw [List.size_toArray, hlen, Int.fdiv_eq_ediv_of_nonneg _ (by omega)]; rfl
  rw [e2]
  have H := H.toks (s.toks + 1 + 1 + 1)
  refine PyProof.Rows.mul_int ?_ (IntMulOk.of_left (by decide +kernel))
  have H := H.toks (s.toks + 1 + 1 + 1 + 1)
  refine PyProof.Rows.add_int ?_
  have H := H.toks (s.toks + 1 + 1 + 1 + 1 + 1)
  refine nm H ((if_neg (by decide)).trans ((if_neg (by decide)).trans rfl)) (PyProof.Rows.mod_int (by omega) ?_)
  have H := H.toks (s.toks + 1 + 1 + 1 + 1 + 1 + 1)
  generalize hq : cs[at' % cs.length] = cq at *
  have e3 : ((cq : Int) + 31 * ((at' / cs.length : Nat) : Int)).fmod (M : Int) = (((cq + 31 * (at' / cs.length)) % M : Nat) : Int) := by
    rw [Int.fmod_eq_emod_of_nonneg _ (by omega)]; rfl
  rw [e3]
  obtain ⟨o3, ho3, hL3⟩ := H.get (.head _)
  exact h _ _ _ g (Nat.mod_lt _ hM) H.rel ⟨o3, ho3, at' + 1, _, hL3⟩

theorem takeIn {pre post : Led} {T c : Addr} {M : Nat} {tM : Tok} {Q : Value → Shared → Prop} (r : Room A 1 20) (k : KB w mg mb g) (H : In F g (pre ++ (T, TapeP c) :: post) m s) (hc : CellsAt g c) (hM : 0 < M)
    (h : ∀ (n : Nat) t g' s', n < M → Sub g g' → In F g' (pre ++ (T, TapeP c) :: post) m s' → Q (.int (n : Nat) t) s') : wpAny (model prog w) A (call (.ref 357) [.ref T, .int (M : Nat) tM]) Q E s :=
  take_spec r k H.into hc (H.get (a := T) (P := TapeP c) (by simp)) (H.ne (a := T) (P := TapeP c) (by simp)) hM fun n t s' g' hn R hT => h n t g' s' hn R.sub (H.callM R hT)
end
end Mine
end

section
open PySem PySem.W PySem.Calls PyProof.Rows
set_option maxRecDepth 100000
namespace Mine
theorem fillK22 (P : Params) : hd.heap_39 P = hd.heap_39 P → PySem.Challenge.rw_bn0044_01 = PySem.Challenge.rw_bn0044_01 := by
  k_fill
  exact fun _ => rfl

section
variable {prog : Program} {w : World} {mg mb : Str → Option Value} {A : Around} {E : Value → Shared → Prop} {s s' : Shared} {F : Fx} {g g' : Heap} {led : Led} {m : Str → Option Value} {env : Env}

theorem addLL {l b : Addr} {β : Type} {R : Heap → Value → β → Prop} {xs ys : List β} {Q : Value → Shared → Prop} (hm : ∀ g g' v b, Sub g g' → R g v b → R g' v b) (H : In F g led m s) (hl : Lst R g (.ref l) xs) (hb : Lst R g (.ref b) ys) (hz : xs.length + ys.length ≤ 1000)
    (h : ∀ v g' s', Sub g g' → Lst R g' v (xs ++ ys) → In F g' led m s' → Q v s') : wpAny (model prog w) A (binaryOp .Add (.ref l) (.ref b)) Q E s := by
  obtain ⟨_, vs, e1, hl, ha⟩ := hl
  obtain ⟨_, ws, e2, hb, hb2⟩ := hb
  cases e1; cases e2
  obtain ⟨⟨cls, dd, data, sl⟩, ho, hc, n, hd⟩ := isList_mono hl H.into
  obtain ⟨⟨cls2, dd2, data2, sl2⟩, ho2, hc2, n2, hd2⟩ := isList_mono hb H.into
  simp only at hc hd hc2 hd2
  subst hc hd hc2 hd2
  have e : vs.toArray ++ ws.toArray = (vs ++ ws).toArray := by simp
  refine concat_meets ⟨_, ho, rfl⟩ ⟨_, ho2, rfl⟩ noFill_list_add seq_list_add PySem.F.slot_list_add PySem.F.entry_list_add (PySem.F.args_list_add_2 _ _) (list_addW l b vs.toArray ws.toArray n n2 dd dd2 sl sl2 (by rw [List.size_toArray, List.size_toArray, ha.length, hb2.length, sizeLine_eq]; omega)) ⟨ho, ho2, ?_⟩
  rw [e]
  have H1 := H.new { cls := .type "list", data := .seq (vs ++ ws).toArray } rfl (SQ (vs ++ ws)) ⟨0, rfl⟩
  obtain ⟨o, g', hP, e3, hs, H2⟩ := H1.freeze (H.was (Nat.le_refl _))
  exact h _ g' _ hs ⟨_, vs ++ ws, rfl, hP.is e3, (ha.append hb2).imp fun _ _ => hm _ _ _ _ hs⟩ H2

/-- xs[:24] of a list -/
theorem slice24 {β : Type} {R : Heap → Value → β → Prop} {value : PySem.Expr} {p p2 : Pos} {kk : Nat} {l : Addr} {xs : List β} {Q : Value → Shared → Prop} (hm : ∀ g g' v b, Sub g g' → R g v b → R g' v b) (H : In F g led m s) (hl : Lst R g (.ref l) xs) (hz : xs.length ≤ 1000)
    (h : ∀ v g' s', Sub g g' → Lst R g' v (xs.take 24) → In F g' led m s' → Q v s')
    (hs : ∀ i, subscripted (.Slice none (some (.Constant (.int 24) kk p2)) none p) false (.ref l) (.ref i) = operate [.ref i, .ref l] (getItem (.ref l) (.ref i)) := by intro _; with_unfolding_all rfl)
    (ht : ∀ r, letTemporaryGo value (.ref l) r = pure () := by intro _; with_unfolding_all rfl) :
    wpAny (model prog w) A (eval (.Slice none (some (.Constant (.int 24) kk p2)) none p) env) (fun i s₂ => wpAny (model prog w) A (subscriptTail value (.Slice none (some (.Constant (.int 24) kk p2)) none p) (.ref l) i) Q E s₂) E s := by
  refine wpAny_Slice (wpAny_pure ?_)
  show wpAny _ _ (eval (.Constant (.int 24) kk p2) env) _ _ _
  refine cst_i H fun u s H => wpAny_pure ?_
  obtain ⟨_, vs, e, hl, ha⟩ := hl
  cases e
  have hl' := isList_mono hl H.into
  have H1 := (H.new { cls := .type "slice", data := .fields #[.none, .int 24 u, .none] } rfl (fun _ => True) trivial).drop
  refine subscriptTail_ops (Heap.IsList.typeIs (hl'.push _)) list_getitem_lookup (wpAny_getItem_list_slice (hl'.push _) (Heap.IsSliceOf.new ..) .none (.int _ _) .none (by simp) ?_ (by rw [List.size_toArray, ha.length, sizeLine_eq]; omega)) (hs _) ht
  rw [show (24 : Int) = ((24 : Nat) : Int) from rfl, slicePick_upto']
  have H2 := H1.new { cls := .type "list", data := .seq (vs.take 24).toArray } rfl (SQ (vs.take 24)) ⟨0, rfl⟩
  obtain ⟨o, g', hP, e3, hs', H3⟩ := H2.freeze (H1.was (Nat.le_refl _))
  exact h _ g' _ hs' ⟨_, vs.take 24, rfl, hP.is e3, (All2.take 24 ha).1.imp fun _ _ => hm _ _ _ _ hs'⟩ H3

def IntV (_g : Heap) (v : Value) (n : Int) : Prop := ∃ t, v = .int n t
theorem IntV.mono' : ∀ g g' v b, Sub g g' → IntV g v b → IntV g' v b := fun _ _ _ _ _ h => h
theorem g_abs : bootBuiltins "abs" = some (.builtin "abs") := by kernel_rfl
theorem n_abs (P : Params) : nsIn (hd.heap_39 P) mainGlobals "abs" = some none := by kernel_rfl
/-- _law_tape(script) -/
theorem tape_spec {s0 : Shared} {sv : Value} {ns : List Int} {Q : Value → Shared → Prop} (r : Room A 1 20) (k : KB w mg mb g) (hs : Sub g s0.heap) (hsv : Lst IntV g sv ns) (hz : ns.length ≤ 63)
    (h : ∀ T c s' g', Rel [] s0 g s' g' → CellsAt g' c → (∃ o, s'.heap.get? T = some o ∧ TapeP c o) → g'.get? T = none → s0.heap.objs.size ≤ T → Q (.ref T) s') : wpAny (model prog w) A (call (.ref 350) [sv]) Q E s0 := by
  obtain ⟨sl, svs, rfl, hsl, hsa⟩ := hsv
  refine enter0 [("script", .ref sl)] k hs r.lt ?_
  intro L s H
  refine ex_ret (List_ (aC (wpAny_BinOp (lcE (cl := []) rfl (Subscript_ (nm H rfl (slice24 IntV.mono' H ⟨sl, svs, rfl, hsl, hsa⟩ (by omega) fun v g2 s hs2 hv H => ?_)))))))
  obtain ⟨l2, vs2, rfl, hl2, ha2⟩ := hv
  have k2 := k.mono hs2
  have hlen : (ns.take 24).length ≤ 24 := by rw [List.length_take]; omega
  refine itListA H hl2 ha2 fun I St s S H => ?_
  refine lcV (JSel (ns.take 24) g2 [] CelV (fun n o => o = some (n.natAbs % 1000003))) S r.hh (.refl _) H .init (by omega) ?_ ?_
  · rintro F' n rest out acc g3 led3 m3 s v hg ⟨t, rfl⟩ H J
    have k3 := k2.mono hg
    refine asN H fun s H => tests0 ?_
    rw [if_pos rfl]
    refine wpAny_BinOp (Call_ (nmB H k3 g_abs (e := n_abs _) (callB (a1 (nm H (if_pos rfl) (call_abs_int fun u tk => cst_i (H.toks tk) fun u2 s H => PyProof.Rows.mod_int (by decide) ?_))))))
    have e1 : (if n < 0 then -n else n).fmod 1000003 = ((n.natAbs % 1000003 : Nat) : Int) := by
      rw [Int.fmod_eq_emod_of_nonneg _ (by decide)]
      have : (if n < 0 then -n else n) = (n.natAbs : Int) := by split <;> omega
      rw [this]; rfl
    rw [e1]
    exact ⟨g3, led3, _, hg, H.toks _, J.step CelV.mono' (.refl _) ⟨⟨_, rfl⟩, by omega⟩ rfl⟩
  · intro l out g3 g4 led4 s hg3 hg4 hl J H
    obtain ⟨rfl, S4, ha⟩ := J.fin CelV.mono' hg4
    refine List_ (aC (cst_i H fun t1 s H => aC (cst_i H fun t2 s H => a1 (cst_i H fun t3 s H => ?_))))
    refine listL (R := CelV) H [7, 2, 5] (.cons ⟨⟨_, rfl⟩, by decide⟩ (.cons ⟨⟨_, rfl⟩, by decide⟩ (.cons ⟨⟨_, rfl⟩, by decide⟩ .nil))) (by simp) fun v g5 s hs5 hv H => ?_
    have hv := hv CelV.mono'
    obtain ⟨l3, _, rfl, _⟩ := id hv
    have hln : ((ns.take 24).filterMap fun n => some (n.natAbs % 1000003)).length ≤ 24 := Nat.le_trans (List.length_filterMap_le _ _) hlen
    refine addLL CelV.mono' H ⟨l, out, rfl, isList_mono hl hs5, ha⟩ hv (by simp at hln ⊢; omega) fun v2 g6 s hs6 hv2 H => ?_
    obtain ⟨c, _, rfl, _⟩ := id hv2
    refine a1 (cst_i H fun t s H => wpAny_newList ?_ (by rw [sizeLine_eq]; simp))
    have hT := H.was (Nat.le_refl s.heap.objs.size)
    have H1 := H.new (seqObj "list" [.ref c, .int 0 t].toArray 0) rfl (TapeP c) ⟨0, t, rfl, 0, rfl⟩
    exact h _ c _ _ H1.rel ⟨_, hv2, by simp, by simp at hln ⊢; omega⟩ (H1.get (.head _)) (H1.ne (.head _)) hT
end
end Mine
end

section
open PySem PySem.W PySem.Calls PyProof.Rows
set_option maxRecDepth 100000
namespace Mine
theorem fillK23 (P : Params) : hd.heap_39 P = hd.heap_39 P → PySem.Challenge.rw_bn0044_01 = PySem.Challenge.rw_bn0044_01 := by
  k_fill
  exact fun _ => rfl

def itW (x : Str) : It := ⟨true, x⟩
/-- what the law builds with -/
def itsL : List It := [iN "S", iN "A", iN "B", iN "x", itW "x", itW "y"]
def catsL : List It := [iN "S", iN "A", iN "B", iN "x"]
structure Case (ps : List Row2) : Prop where
  ne : ps ≠ []
  nd : ps.Nodup
  six : ps.length ≤ 6
  lhs : ∀ p ∈ ps, p.1 ∈ catsL
  three : ∀ p ∈ ps, p.2.length ≤ 3
  rhs : ∀ p ∈ ps, ∀ i ∈ p.2, i ∈ itsL
theorem okS_its {i : It} (h : i ∈ itsL) : okS i := by
  have : itsL.all (fun i => PyData.strOk i.n) = true := by decide +kernel
  exact List.all_eq_true.mp this i h
theorem cats_its {i : It} (h : i ∈ catsL) : i ∈ itsL := by
  simp only [catsL, itsL, List.mem_cons, List.not_mem_nil, or_false] at h ⊢
  rcases h with h | h | h | h <;> simp [h]
theorem Case.ok {ps : List Row2} (c : Case ps) : ∀ p ∈ ps, okR p := fun p hp => ⟨okS_its (cats_its (c.lhs p hp)), fun i hi => okS_its (c.rhs p hp i hi)⟩

theorem Sel.allIn {α β : Type} {L : List β} {as : List α} {bs : List β} (h : Sel (fun (_ : α) o => ∃ i ∈ L, o = some i) as bs) : ∀ b ∈ bs, b ∈ L := by
  induction h with
  | nil => exact fun _ h => nomatch h
  | skip x _ ih => exact ih
  | take x _ ih =>
    obtain ⟨i, hi, e⟩ := x
    cases e
    intro b hb
    rcases List.mem_cons.mp hb with rfl | hb
    · exact hi
    · exact ih b hb
theorem decT {p : Prop} {i : Decidable p} (h : p) : @decide p i = true := @decide_eq_true p i h
theorem decF {p : Prop} {i : Decidable p} (h : ¬ p) : @decide p i = false := @decide_eq_false p i h
section
variable {prog : Program} {w : World} {mg mb : Str → Option Value} {A : Around} {E : Value → Shared → Prop} {s s' : Shared} {F : Fx} {g g' : Heap} {led : Led} {m : Str → Option Value} {env : Env}

theorem In.cast {led' : Led} (H : In F g led m s) (e : led = led') : In F g led' m s := e ▸ H
theorem tup0 (H : In F g led m s) {x : Str} {k1 k2 kk : Nat} {p1 p2 pos : Pos} {Q : Value → Shared → Prop} (h : ∀ v g' s', Sub g g' → LIt g' v ⟨false, x⟩ → In F g' led m s' → Q v s') :
    wpAny (model prog w) A (eval (.Tuple [.Constant (.int 0) k1 p1, .Constant (.str x) k2 p2] kk pos) env) Q E s :=
  tup (aC (cst_i H fun t1 s H => a1 (cst_s H fun t2 s H => newT H fun a g' s hs ht H => h _ g' s hs ⟨a, t1, t2, rfl, ht⟩ H)))
theorem tup1 (H : In F g led m s) {x : Str} {k1 k2 kk : Nat} {p1 p2 pos : Pos} {Q : Value → Shared → Prop} (h : ∀ v g' s', Sub g g' → LIt g' v ⟨true, x⟩ → In F g' led m s' → Q v s') :
    wpAny (model prog w) A (eval (.Tuple [.Constant (.int 1) k1 p1, .Constant (.str x) k2 p2] kk pos) env) Q E s :=
  tup (aC (cst_i H fun t1 s H => a1 (cst_s H fun t2 s H => newT H fun a g' s hs ht H => h _ g' s hs ⟨a, t1, t2, rfl, ht⟩ H)))

theorem pickL {β : Type} {R : Heap → Value → β → Prop} {value slice : PySem.Expr} {l : Addr} {xs : List β} {n : Nat} {u : Tok} {Q : Value → Shared → Prop} (H : In F g led m s) (hl : Lst R g (.ref l) xs) (hn : n < xs.length) (hz : xs.length ≤ 1000) (h : ∀ v, R g v xs[n] → Q v s)
    (hs : subscripted slice false (.ref l) (.int (n : Nat) u) = operate [.ref l, .int (n : Nat) u] (getItem (.ref l) (.int (n : Nat) u)) := by with_unfolding_all rfl) : wpAny (model prog w) A (subscriptTail value slice (.ref l) (.int (n : Nat) u)) Q E s := by
  obtain ⟨_, vs, e, hl, ha⟩ := hl
  cases e
  obtain ⟨v, hv, hR⟩ := ha.get' (i := n) (b := xs[n]) (List.getElem?_eq_getElem hn)
  exact kba_turn (value' := nmX) (fun _ => rfl) (PyProof.Rows.item_list (isList_mono hl H.into) (by omega) (by omega) (x := v) (by rw [Int.toNat_natCast, List.getElem?_toArray]; exact hv) (h v hR) hs (fun _ => rfl))

theorem g_take (P : Params) : nsIn (hd.heap_39 P) mainGlobals "_law_take" = some (some (.ref 357)) := by kernel_rfl
theorem kp357 (P : Params) : keepIn (hd.heap_39 P) (.ref 357) = true := by kernel_rfl
theorem g_range : bootBuiltins "range" = some (.type "range") := by kernel_rfl
theorem n_range (P : Params) : nsIn (hd.heap_39 P) mainGlobals "range" = some none := by kernel_rfl

def NatV (_g : Heap) (v : Value) (n : Nat) : Prop := ∃ t, v = .int (n : Nat) t
theorem NatV.mono' : ∀ g g' v b, Sub g g' → NatV g v b → NatV g' v b := fun _ _ _ _ _ h => h

set_option maxHeartbeats 2000000 in
/-- _law_case(tape) -/
theorem case_spec {s0 : Shared} {T c : Addr} {Q : Value → Shared → Prop} (r : Room A 4 90) (k : KB w mg mb g) (hs : Sub g s0.heap) (hc : CellsAt g c) (hT : ∃ o, s0.heap.get? T = some o ∧ TapeP c o) (hn : g.get? T = none)
    (h : ∀ v ps s' g', Rel [T] s0 g s' g' → (∃ o, s'.heap.get? T = some o ∧ TapeP c o) → Lst LRow g' v ps → Case ps → Q v s') : wpAny (model prog w) A (call (.ref 381) [.ref T]) Q E s0 := by
  refine enterC [("tape", .ref T)] (led := [(T, TapeP c)]) k hs r.lt (fun p hp => by cases List.mem_singleton.mp hp; exact ⟨hT, hn⟩) (by simp) (fun L s H => ?_)
  refine wpAny_noRaise ?_
  have H := H.cast (led' := [(L + 1 + 1, CP none), (L + 1, CP (some (.ref T))), (T, TapeP c)]) (by kernel_rfl)
  have rr : ∀ e, Room (A.deeper e) 3 87 := fun e => r.deeper
  refine ex_set ?_
  refine List_ ?_
  refine aC ?_
  refine tup0 (by exact H) ?_
  intro v1 g1 s hs1 h1 H
  refine aC ?_
  refine tup0 (by exact H) ?_
  intro v2 g2 s hs2 h2 H
  refine aC ?_
  refine tup0 (by exact H) ?_
  intro v3 g3 s hs3 h3 H
  refine aC ?_
  refine tup0 (by exact H) ?_
  intro v4 g4 s hs4 h4 H
  refine aC ?_
  refine tup1 (by exact H) ?_
  intro v5 g5 s hs5 h5 H
  refine a1 ?_
  refine tup1 (by exact H) ?_
  intro v6 g6 s hs6 h6 H
  have S56 := hs6
  have S46 := hs5.trans S56
  have S36 := hs4.trans S46
  have S26 := hs3.trans S36
  have S16 := hs2.trans S26
  have S06 := hs1.trans S16
  refine listL (R := LIt) (by exact H) itsL (.cons (h1.mono S16) (.cons (h2.mono S26) (.cons (h3.mono S36) (.cons (h4.mono S46) (.cons (h5.mono S56) (.cons h6 .nil)))))) (by simp) fun v g7 s hs7 hv H => ?_
  have hv := hv LIt.mono'
  have k7 := k.mono (S06.trans hs7)
  obtain ⟨il, _, rfl, _⟩ := id hv
  refine stC (pre := []) H fun s H => ?_
  obtain ⟨g8, hci, hs8, H⟩ := H.cellF (Nat.le_succ_of_le (Nat.le_succ_of_le H.fresh))
  obtain ⟨g9, hct, hs9, H⟩ := H.cellF (Nat.le_succ_of_le H.fresh)
  have hci := hci.mono hs9
  have S79 := hs8.trans hs9
  have hv9 := hv.mono LIt.mono' S79
  have k9 := k7.mono S79
  have hc9 := hc.mono ((S06.trans hs7).trans S79)
  refine ex_set ?_
  refine newLQ (by exact H) ?_
  intro rl s1 H1 hrl
  have hrl := H.was hrl
  clear H
  refine st H1 fun s H => ?_
  have hc9' : ∀ {g'}, Sub g9 g' → CellsAt g' c := fun hs => hc9.mono hs
  refine ex_for ?_
  refine Call_ (nmB H k9 g_range (e := n_range _) (callT (a1 (wpAny_BinOp (cst_i H fun t1 s H => Call_ (nmG H k9 (g_take _) (callW (kp357 _) (aC (nmC H hct (a1 (cst_i H fun t2 s H => ⟨H.K k9, ?_⟩)))))))))))
  refine takeIn (pre := [(rl, SQ [])]) (M := 6) ((rr _).le (by decide) (by decide)) k9 H hc9 (by decide) fun n6 t ga s hn6 hsa H => ?_
  refine PyProof.Rows.add_int ?_
  have H := H.toks (s.toks + 1)
  have e6 : (1 : Int) + (n6 : Nat) = ((1 + n6 : Nat) : Int) := by omega
  rw [e6]
  refine itRange H (by omega) fun I St s S H => ?_
  have ka := k9.mono hsa
  refine forL (fun rest g led m => ∃ vs ps, led = (rl, SQ vs) :: [(T, TapeP c)] ∧ All2 (LRow g) vs ps ∧ (rest.length < 1 + n6 → ps ≠ []) ∧ ps.Nodup ∧ ps.length + rest.length ≤ 6 ∧ (∀ p ∈ ps, p.1 ∈ catsL ∧ p.2.length ≤ 3 ∧ ∀ i ∈ p.2, i ∈ itsL) ∧ m "rows" = some (.ref rl)) S r.hh (.refl _) H
    ⟨[], [], rfl, .nil, fun h => absurd h (by rw [List.length_range]; exact Nat.lt_irrefl _), List.nodup_nil, by rw [List.length_range]; simp; omega, fun _ h => (nomatch h), if_pos rfl⟩ ?_ ?_
  · rintro kx rest gb ledb m1 s v hgb ⟨tk, rfl⟩ H ⟨vs, ps, rfl, hvs, hne, hnd, hlen, hgood, hmr⟩
    have S9b := hsa.trans hgb
    have kb := ka.mono hgb
    have hcib := hci.mono S9b
    have hctb := hct.mono S9b
    have hvb := hv9.mono LIt.mono' S9b
    have hcb := hc9' S9b
    refine asN H fun s H => ex_set (wpAny_mono (E := no) (Q := fun v s => ∃ g' it, Sub gb g' ∧ it ∈ catsL ∧ LIt g' v it ∧ In ⟨s0, g, [T], L⟩ g' ((I, St rest) :: (rl, SQ vs) :: [(T, TapeP c)]) (fun y => if y = "k" then some (.int (kx : Nat) tk) else m1 y) s) ?_ ?_ fun _ _ q => q.elim)
    · refine Subscript_ (nmC H hcib (IfExp_ (tcmp1 (nm H (if_pos rfl) (cst_i H fun u s H => P.eq_int (tr_b ?_))))))
      by_cases hk0 : kx = 0
      · rw [show ((kx : Int) == 0) = true by simp [hk0], if_pos rfl]
        exact cst_i H fun u s H => pickL (n := 0) H hvb (by decide) (by decide) fun v hR => ⟨gb, _, .refl _, by decide, hR, H⟩
      · rw [show ((kx : Int) == 0) = false by simp [hk0], if_neg Bool.false_ne_true]
        refine Call_ (nmG H kb (g_take _) (callW (kp357 _) (aC (nmC H hctb (a1 (cst_i H fun t2 s H => ⟨H.K kb, ?_⟩))))))
        refine takeIn (pre := [(I, St rest), (rl, SQ vs)]) (M := 4) ((rr _).le (by decide) (by decide)) kb H hcb (by decide) fun n4 t gc s hn4 hsc H => ?_
        refine pickL (n := n4) H (hvb.mono LIt.mono' hsc) (by show n4 < 6; omega) (by decide) fun v hR => ⟨gc, _, hsc, ?_, hR, H⟩
        have : ∀ n, n < 4 → ∀ h : n < itsL.length, itsL[n] ∈ catsL := by decide
        exact this n4 hn4 _
    · rintro lv s ⟨gc, it, hsc, hit, hlv, H⟩
      have S9c := S9b.trans hsc
      have kc := kb.mono hsc
      refine st H fun s H => ?_
      refine ex_setC (cl := [("tape", L + 1), ("items", L + 1 + 1)]) rfl ?_
      refine Call_ (nmB H kc g_range (e := n_range _) (callT (a1 ?_)))
      refine Subscript_ (List_ (aC (cst_i (by exact H) ?_)))
      intro t1 s H
      refine aC (cst_i H fun t2 s H => aC (cst_i H fun t3 s H => aC (cst_i H fun t4 s H => a1 (cst_i H fun t5 s H => ?_))))
      refine listL (R := NatV) H [1, 2, 1, 3, 0] (.cons ⟨_, rfl⟩ (.cons ⟨_, rfl⟩ (.cons ⟨_, rfl⟩ (.cons ⟨_, rfl⟩ (.cons ⟨_, rfl⟩ .nil))))) (by simp) fun mv gd s hsd hmv H => ?_
      have hmv := hmv NatV.mono'
      obtain ⟨ml, _, rfl, _⟩ := id hmv
      have kd := kc.mono hsd
      have S9d := S9c.trans hsd
      refine Call_ (nmG H kd (g_take _) (callW (kp357 _) (aC (nmC H (hct.mono S9d) (a1 (cst_i H fun t2 s H => ⟨H.K kd, ?_⟩))))))
      refine takeIn (pre := [(I, St rest), (rl, SQ vs)]) (M := 5) ((rr _).le (by decide) (by decide)) kd H (hc9' S9d) (by decide) fun n5 t ge s hn5 hse H => ?_
      have ke := kd.mono hse
      have S9e := S9d.trans hse
      refine pickL (n := n5) H (hmv.mono NatV.mono' hse) (by show n5 < 5; omega) (by decide) ?_
      rintro v ⟨t6, rfl⟩
      have hcnt : ∀ n, n < 5 → ∀ h : n < [1, 2, 1, 3, 0].length, [1, 2, 1, 3, 0][n] ≤ 3 := by decide
      have hcnt := hcnt n5 hn5 (by show n5 < 5; omega)
      generalize [1, 2, 1, 3, 0][n5] = cnt at hcnt
      refine itRange H (by omega) fun I2 St2 s S2 H => ?_
      refine lcU (JSel (List.range cnt) ge ((I, St rest) :: (rl, SQ vs) :: [(T, TapeP c)]) LIt (fun _ o => ∃ i ∈ itsL, o = some i)) S2 r.hh (.refl _) H .init (by rw [List.length_range]; omega) ?_ ?_
      · rintro F' x2 rest2 out acc gf led2 m2 s v hg ⟨tk2, rfl⟩ H J
        have e := J.1
        subst e
        have kf := ke.mono hg
        have S9f := S9e.trans hg
        refine asN H fun s H => tests0 ?_
        rw [if_pos rfl]
        refine Subscript_ (nmC H (hci.mono S9f) (Call_ (nmG H kf (g_take _) (callW (kp357 _) (aC (nmC H (hct.mono S9f) (a1 (cst_i H fun t2 s H => ⟨H.K kf, ?_⟩))))))))
        refine takeIn (pre := [(I2, St2 rest2), (acc, LP out), (I, St rest), (rl, SQ vs)]) (M := 6) ((rr _).le (by decide) (by decide)) kf H (hc9' S9f) (by decide) fun n6 t gg s hn6 hsg H => ?_
        refine pickL (n := n6) H (hv9.mono LIt.mono' (S9f.trans hsg)) hn6 (by decide) fun v hR => ⟨gg, _, _, hg.trans hsg, H, J.step LIt.mono' hsg hR ⟨_, List.getElem_mem _, rfl⟩⟩
      · intro l out gf gg led4 s hgf hgg hl J H
        obtain ⟨e, S, bs, hSel, ha⟩ := J.done LIt.mono' hgg
        subst e
        have hbl : bs.length ≤ 3 := by have := hSel.length_le; rw [List.length_range] at this; omega
        have hbi : ∀ i ∈ bs, i ∈ itsL := hSel.allIn
        have S9g := S9e.trans S
        have kg := ke.mono S
        have Sbg := (hsc.trans hsd).trans (hse.trans S)
        have hlvg := hlv.mono ((hsd.trans hse).trans S)
        refine ex_if (tcmp1 (tup (aC (nm H ((if_neg (by decide)).trans (if_pos rfl)) (a1 (nm H (if_pos rfl) (newT H fun a gh s hsh ht H => nm H (((if_neg (by decide)).trans ((if_neg (by decide)).trans (if_neg (by decide)))).trans hmr) ?_)))))))
        have hrow : LRow gh (.ref a) (it, bs) := ⟨a, lv, .ref l, rfl, ht, hlvg.mono hsh, ⟨l, out, rfl, isList_mono hl hsh, ha.imp fun _ _ => LIt.mono' _ _ _ _ hsh⟩⟩
        have okp : ∀ p ∈ ps, okR p := fun p hp => ⟨okS_its (cats_its (hgood p hp).1), fun i hi => okS_its ((hgood p hp).2.2 i hi)⟩
        have hvsh := hvs.imp fun _ _ => LRow.mono' _ _ _ _ (Sbg.trans hsh)
        refine dRow'.notInL ((rr _).u (by decide)) H (In.sq (pre := [(I, St rest)]) H) hvsh hrow okp ⟨okS_its (cats_its hit), fun i hi => okS_its (hbi i hi)⟩ (tr_b ?_)
        have hlr : (kx :: rest).length = rest.length + 1 := rfl
        by_cases hj : ((it, bs) : Row2) ∈ ps
        · rw [decT hj, Bool.not_true, if_neg Bool.false_ne_true]
          refine ex_nil (ex_nil ⟨gh, _, _, hgb.trans (Sbg.trans hsh), H, vs, ps, rfl, hvsh, fun _ e => (by rw [e] at hj; cases hj), hnd, by omega, hgood, ((if_neg (by decide)).trans ((if_neg (by decide)).trans (if_neg (by decide)))).trans hmr⟩)
        · rw [decF hj, Bool.not_false, if_pos rfl]
          refine ex_expr (MethodCall_ (nm H (((if_neg (by decide)).trans ((if_neg (by decide)).trans (if_neg (by decide)))).trans hmr) (mListQ (pre := [(I, St rest)]) H PySem.F.slot_list_append PySem.F.type_list_append (callB (a1 (tup (aC (nm H ((if_neg (by decide)).trans (if_pos rfl)) (a1 (nm H (if_pos rfl) (newT H fun a2 gi s hsi ht2 H => ?_)))))))))))
          have hrow2 : LRow gi (.ref a2) (it, bs) := ⟨a2, lv, .ref l, rfl, ht2, hlvg.mono (hsh.trans hsi), ⟨l, out, rfl, isList_mono hl (hsh.trans hsi), ha.imp fun _ _ => LIt.mono' _ _ _ _ (hsh.trans hsi)⟩⟩
          refine appendQ (pre := [(I, St rest)]) H (by rw [hvs.length]; omega) fun s H => ⟨rfl, ?_⟩
          refine ex_nil (ex_nil ⟨gi, _, _, hgb.trans (Sbg.trans (hsh.trans hsi)), H, _, ps ++ [(it, bs)], rfl, (hvsh.imp fun _ _ => LRow.mono' _ _ _ _ hsi).snoc hrow2, fun _ e => by simp at e, ?_, by rw [List.length_append, List.length_singleton]; omega, fun p hp => ?_, ((if_neg (by decide)).trans ((if_neg (by decide)).trans (if_neg (by decide)))).trans hmr⟩)
          · rw [List.nodup_append]
            exact ⟨hnd, by simp, fun a ha b hb e => by simp at hb; rw [e, hb] at ha; exact hj ha⟩
          · rcases List.mem_append.mp hp with hp | hp
            · exact hgood p hp
            · cases List.mem_singleton.mp hp; exact ⟨hit, hbl, hbi⟩
  · rintro gb ledb mb s hgb H ⟨vs, ps, rfl, hvs, hne, hnd, hlen, hgood, hmr⟩
    refine ex_ret (nm H hmr ?_)
    obtain ⟨o, gc, hq, ho, hsc, H⟩ := H.freeze hrl
    refine h (.ref rl) ps _ gc H.rel (H.get (.head _)) ⟨rl, vs, rfl, hq.is ho, hvs.imp fun _ _ => LRow.mono' _ _ _ _ hsc⟩ ⟨hne (by show 0 < 1 + n6; omega), hnd, by simpa using hlen, fun p hp => (hgood p hp).1, fun p hp => (hgood p hp).2.1, fun p hp => (hgood p hp).2.2⟩
end
end Mine
end

section
open PySem PySem.W PySem.Calls PyProof.Rows
set_option maxRecDepth 100000
namespace Mine
theorem fillK24 (P : Params) : hd.heap_39 P = hd.heap_39 P → PySem.Challenge.rw_bn0044_01 = PySem.Challenge.rw_bn0044_01 := by
  k_fill
  exact fun _ => rfl

/-! ## corners, plainly -/
def Closed (ps : List Row2) (F : List It) : Prop := ∀ p ∈ ps, p.1 ∈ F → ∀ i, p.2.head? = some i → i.t = false → i ∈ F
structure FI (ps : List Row2) (cat : It) (F : List It) : Prop where
  nd : F.Nodup
  here : cat ∈ F
  sub : ∀ x ∈ F, LC ps cat x
theorem FI.add {ps : List Row2} {cat i : It} {F : List It} {p : Row2} (h : FI ps cat F) (hp : p ∈ ps) (hl : p.1 ∈ F) (hh : p.2.head? = some i) (ht : i.t = false) (hn : i ∉ F) : FI ps cat (F ++ [i]) where
  nd := by rw [List.nodup_append]; exact ⟨h.nd, by simp, fun a ha b hb e => by simp at hb; rw [e, hb] at ha; exact hn ha⟩
  here := List.mem_append_left _ h.here
  sub x hx := by
    rcases List.mem_append.mp hx with hx | hx
    · exact h.sub x hx
    · cases List.mem_singleton.mp hx
      exact .step (h.sub _ hl) ⟨p, hp, rfl, hh, ht⟩
theorem FI.fin {ps : List Row2} {cat : It} {F : List It} (h : FI ps cat F) (hc : Closed ps F) (x : It) : x ∈ F ↔ LC ps cat x := by
  refine ⟨h.sub x, fun q => ?_⟩
  induction q with
  | refl => exact h.here
  | step _ hf ih =>
    obtain ⟨p, hp, h1, h2, h3⟩ := hf
    exact hc p hp (by rw [h1]; exact ih) _ h2 h3
theorem canon_ext {a b : List It} (h : ∀ x, x ∈ a ↔ x ∈ b) : canon a = canon b := by
  unfold canon
  refine List.filter_congr fun x _ => ?_
  have : (a.contains x = true) ↔ (b.contains x = true) := by rw [List.contains_iff_mem, List.contains_iff_mem]; exact h x
  exact Bool.eq_iff_iff.mpr this
theorem mem_canon {a : List It} (h : ∀ x ∈ a, x ∈ isN) (x : It) : x ∈ canon a ↔ x ∈ a := by
  unfold canon
  rw [List.mem_filter, List.contains_iff_mem]
  refine ⟨fun q => q.2, fun q => ⟨?_, q⟩⟩
  have := h x q
  simp only [isN, isNs, List.mem_cons, List.not_mem_nil, or_false] at this ⊢
  rcases this with h | h | h | h | h <;> simp [h]
theorem okS_isN {i : It} (h : i ∈ isN) : okS i := by
  have : isN.all (fun i => PyData.strOk i.n) = true := by decide +kernel
  exact List.all_eq_true.mp this i h
theorem isN_t {i : It} (h : i ∈ isN) : i.t = false := by
  have : isN.all (fun i => !i.t) = true := by decide +kernel
  have := List.all_eq_true.mp this i h
  simpa using this

section
variable {prog : Program} {w : World} {mg mb : Str → Option Value} {A : Around} {E : Value → Shared → Prop} {s s' : Shared} {F : Fx} {g g' : Heap} {led : Led} {m : Str → Option Value} {env : Env}

theorem ixT0 {value slice : PySem.Expr} {t : Addr} {v0 v1 : Value} {u : Tok} {Q : Value → Shared → Prop} (H : In F g led m s) (ht : IsTup g t #[v0, v1]) (h : Q v0 s)
    (hs : subscripted slice false (.ref t) (.int 0 u) = operate [.ref t, .int 0 u] (getItem (.ref t) (.int 0 u)) := by with_unfolding_all rfl) : wpAny (model prog w) A (subscriptTail value slice (.ref t) (.int 0 u)) Q E s :=
  kba_turn (value' := nmX) (fun _ => rfl) (ix0 H ht h hs (fun _ => rfl))
theorem lenLs {β : Type} {R : Heap → Value → β → Prop} {v : Value} {xs : List β} {Q : Value → Shared → Prop} (H : In F g led m s) (hl : Lst R g v xs) (hz : xs.length ≤ 1000) (h : ∀ t s', In F g led m s' → Q (.int (xs.length : Nat) t) s') : wpAny (model prog w) A (call (.builtin "len") [v]) Q E s := by
  obtain ⟨l, vs, rfl, hl, ha⟩ := hl
  refine PyProof.Rows.len_list (isList_mono hl H.into) (by rw [List.size_toArray, ha.length]; omega) ?_
  rw [List.size_toArray, ha.length]
  exact h _ _ (H.toks _)

set_option maxHeartbeats 2000000 in
/-- _law_corners(rows, cat) -/
theorem corn_spec {s0 : Shared} {rv cv : Value} {ps : List Row2} {cat : It} {U : List It} {Q : Value → Shared → Prop} (r : Room A 2 90) (k : KB w mg mb g) (hs : Sub g s0.heap) (hr : Lst LRow g rv ps) (hc : LIt g cv cat) (hok : ∀ p ∈ ps, okR p) (hz : ps.length ≤ 900) (hz2 : ∀ p ∈ ps, p.2.length ≤ 900)
    (hU : U.length ≤ 4) (hUi : ∀ x ∈ U, x ∈ isN) (hLC : ∀ x, LC ps cat x → x ∈ U)
    (h : ∀ v fs s' g', Rel [] s0 g s' g' → Lst LIt g' v (canon fs) → (∀ x, x ∈ fs ↔ LC ps cat x) → Q v s') : wpAny (model prog w) A (call (.ref 388) [rv, cv]) Q E s0 := by
  obtain ⟨rl, rvs, rfl, hrl, hra⟩ := hr
  refine enter0 [("rows", .ref rl), ("cat", cv)] k hs r.lt ?_
  intro L s H
  have rr : ∀ e, Room (A.deeper e) 1 87 := fun e => r.deeper
  have okU : ∀ {F}, FI ps cat F → ∀ x ∈ F, okS x := fun hF x hx => okS_isN (hUi x (hLC x (hF.sub x hx)))
  have lenU : ∀ {F}, FI ps cat F → F.length ≤ 4 := fun hF => Nat.le_trans (nodup_le hF.nd fun x hx => hLC x (hF.sub x hx)) hU
  refine ex_set (listQ (a1 (nm H rfl ⟨_, _, _, _, H, by simp, fun fl s1 H1 hfl => ?_⟩)))
  have hfl := H.was hfl
  clear H
  refine st H1 fun s H => ?_
  refine ex_for (Call_ (nmB H k g_range (e := n_range _) (callT (a1 (cst_i H fun t s H => ?_)))))
  refine itRange (n := 5) H (by omega) fun I St s S H => ?_
  refine forL (fun rest g led m => ∃ vs fs, led = [(fl, SQ vs)] ∧ All2 (LIt g) vs fs ∧ FI ps cat fs ∧ (Closed ps fs ∨ 6 ≤ fs.length + rest.length) ∧ m "rows" = some (.ref rl) ∧ m "found" = some (.ref fl)) S r.hh (.refl _) H
    ⟨[cv], [cat], rfl, .cons hc .nil, ⟨by simp, by simp, fun x hx => by cases List.mem_singleton.mp hx; exact .refl⟩, .inr (by simp), (if_neg (by decide)).trans rfl, if_pos rfl⟩ ?_ ?_
  · rintro kx rest gb ledb m1 s v hgb ⟨tk, rfl⟩ H ⟨vs0, fs0, rfl, hvs0, hF0, hcl0, hmr, hmf⟩
    have kb := k.mono hgb
    refine asN H fun s H => ?_
    have hra' : All2 (fun v p => LRow gb v p ∧ p ∈ ps) rvs ps := (hra.imp fun _ _ => LRow.mono' _ _ _ _ hgb).andR fun p hp => hp
    refine ex_for (nm H ((if_neg (by decide)).trans hmr) (itListA H (isList_mono hrl hgb) hra' fun I2 St2 s S2 H => ?_))
    refine forL (fun rest2 g led m => ∃ vs fs ad dn, led = [(I, St rest), (fl, SQ vs)] ∧ All2 (LIt g) vs fs ∧ FI ps cat fs ∧ fs = fs0 ++ ad ∧ ps = dn ++ rest2 ∧ (ad = [] → Closed dn fs0) ∧ (Closed ps fs0 → ad = []) ∧ m "rows" = some (.ref rl) ∧ m "found" = some (.ref fl)) S2 r.hh (.refl _) H
      ⟨vs0, fs0, [], [], rfl, hvs0, hF0, by simp, rfl, fun _ p hp => (nomatch hp), fun _ => rfl, (if_neg (by decide)).trans hmr, (if_neg (by decide)).trans hmf⟩ ?_ ?_
    · rintro p rest2 gc ledc m2 s v hgc ⟨⟨a, lv, rv, rfl, ht, hl, hr⟩, hpm⟩ H ⟨vs, fs, ad, dn, rfl, hvs, hF, hfs, hdn, hcd, hca, hmr2, hmf2⟩
      have kc := kb.mono hgc
      have hlc := hl.mono hgc
      have hrc := hr.mono LIt.mono' hgc
      have okp := hok p hpm
      have hzp := hz2 p hpm
      refine asP H r.hh (isTup_mono ht hgc) fun s H => ?_
      have hmr3 : ∀ x : Value, ∀ y : Value, (fun z => if z = Str.ofString "right" then some y else if z = Str.ofString "left" then some x else m2 z) "rows" = some (.ref rl) := fun _ _ => ((if_neg (by decide)).trans (if_neg (by decide))).trans hmr2
      have hmf3 : ∀ x : Value, ∀ y : Value, (fun z => if z = Str.ofString "right" then some y else if z = Str.ofString "left" then some x else m2 z) "found" = some (.ref fl) := fun _ _ => ((if_neg (by decide)).trans (if_neg (by decide))).trans hmf2
      -- a row that adds nothing
      have skip : ∀ s gd, Sub gc gd → In ⟨s0, g, [], L⟩ gd ((I2, St2 rest2) :: [(I, St rest), (fl, SQ vs)]) (fun z => if z = Str.ofString "right" then some rv else if z = Str.ofString "left" then some lv else m2 z) s → (p.1 ∈ fs0 → ad = [] → ∀ i, p.2.head? = some i → i.t = false → i ∈ fs0) →
          Nxt ⟨s0, g, [], L⟩ gb I2 St2 (fun rest2 g led m => ∃ vs fs ad dn, led = [(I, St rest), (fl, SQ vs)] ∧ All2 (LIt g) vs fs ∧ FI ps cat fs ∧ fs = fs0 ++ ad ∧ ps = dn ++ rest2 ∧ (ad = [] → Closed dn fs0) ∧ (Closed ps fs0 → ad = []) ∧ m "rows" = some (.ref rl) ∧ m "found" = some (.ref fl)) rest2 s := fun s gd hsd H hq =>
        ⟨gd, _, _, hgc.trans hsd, H, vs, fs, ad, dn ++ [p], rfl, hvs.imp fun _ _ => LIt.mono' _ _ _ _ hsd, hF, hfs, by rw [hdn]; simp, fun e q hq' h1 => by
          rcases List.mem_append.mp hq' with hq' | hq'
          · exact hcd e q hq' h1
          · cases List.mem_singleton.mp hq'; exact hq h1 e, hca, hmr3 _ _, hmf3 _ _⟩
      refine ex_if (isTrue_and (tcmp1 (nm H ((if_neg (by decide)).trans (if_pos rfl)) (nm H (hmf3 _ _) (dIt'.inL ((rr _).u (by decide)) H (In.sq (pre := [(I2, St2 rest2), (I, St rest)]) H) hvs hlc (okU hF) okp.1 (tr_b ?_))))))
      by_cases hlm : p.1 ∈ fs
      · rw [decT hlm, if_pos rfl]
        refine isTrue_and (tcmp1 (Call_ (nmB H kc g_len (e := n_len _) (callB (a1 (nm H (if_pos rfl) (lenLs H hrc (by omega) fun t s H => cst_i H fun t2 s H => P.gt_int (tr_b ?_))))))))
        cases hp2 : p.2 with
        | nil =>
          rw [show decide (((([] : List It).length : Nat) : Int) > 0) = false by decide, if_neg Bool.false_ne_true, if_neg Bool.false_ne_true]
          exact ex_nil (ex_nil (skip _ _ (.refl _) H fun _ _ i hi => by rw [hp2] at hi; cases hi))
        | cons i is =>
          rw [show decide ((((i :: is).length : Nat) : Int) > 0) = true by simp, if_pos rfl]
          have hlen0 : 0 < p.2.length := by rw [hp2]; simp
          have hi0 : p.2[0] = i := by simp [hp2]
          obtain ⟨rrl, _, rfl, _⟩ := id hrc
          refine isTrue_and (tcmp1 (Subscript_ (Subscript_ (nm H (if_pos rfl) (cst_i H fun t s H => pickL (n := 0) H hrc hlen0 (by omega) fun v hR => ?_)))))
          rw [hi0] at hR
          obtain ⟨ia, ti1, ti2, rfl, hit⟩ := id hR
          refine cst_i H fun t s H => ixT0 H hit (cst_i H fun t s H => P.eq_int (tr_b ?_))
          cases hti : i.t with
          | true =>
            rw [show (tagI i == 0) = false by simp [tagI, hti], if_neg Bool.false_ne_true, if_neg Bool.false_ne_true]
            exact ex_nil (ex_nil (skip _ _ (.refl _) H fun _ _ j hj hjt => by rw [hp2] at hj; cases hj; rw [hti] at hjt; cases hjt))
          | false =>
            rw [show (tagI i == 0) = true by simp [tagI, hti], if_pos rfl]
            refine isTrue_and (tcmp1 (Subscript_ (nm H (if_pos rfl) (cst_i H fun t s H => pickL (n := 0) H hrc hlen0 (by omega) fun v hR2 => ?_))))
            rw [hi0] at hR2
            refine nm H (hmf3 _ _) (dIt'.notInL ((rr _).u (by decide)) H (In.sq (pre := [(I2, St2 rest2), (I, St rest)]) H) hvs hR2 (okU hF) (okp.2 i (by rw [hp2]; exact .head _)) (tr_b ?_))
            by_cases him : i ∈ fs
            · rw [decT him, Bool.not_true, if_neg Bool.false_ne_true, if_neg Bool.false_ne_true]
              exact ex_nil (ex_nil (skip _ _ (.refl _) H fun _ e j hj _ => by rw [hp2] at hj; cases hj; rw [hfs, e, List.append_nil] at him; exact him))
            · rw [decF him, Bool.not_false, if_pos rfl]
              refine isTrue_and_nil ?_
              rw [if_pos rfl]
              refine ex_expr (MethodCall_ (nm H (hmf3 _ _) (mListQ (pre := [(I2, St2 rest2), (I, St rest)]) H PySem.F.slot_list_append PySem.F.type_list_append (callB (a1 (Subscript_ (nm H (if_pos rfl) (cst_i H fun t s H => pickL (n := 0) H hrc hlen0 (by omega) fun v hR3 => ?_))))))))
              rw [hi0] at hR3
              refine appendQ (pre := [(I2, St2 rest2), (I, St rest)]) H (by rw [hvs.length]; have := lenU hF; omega) fun s H => ⟨rfl, ?_⟩
              have hh : p.2.head? = some i := by rw [hp2]; rfl
              refine ex_nil (ex_nil ⟨gc, _, _, hgc, H, _, fs ++ [i], ad ++ [i], dn ++ [p], rfl, hvs.snoc hR3, hF.add hpm hlm hh hti him, by rw [hfs]; simp, by rw [hdn]; simp, fun e => by simp at e, fun e => ?_, hmr3 _ _, hmf3 _ _⟩)
              have e0 := hca e
              rw [hfs, e0, List.append_nil] at him hlm
              exact absurd (e p hpm hlm i hh hti) him
      · rw [decF hlm, if_neg Bool.false_ne_true, if_neg Bool.false_ne_true]
        exact ex_nil (ex_nil (skip _ _ (.refl _) H fun h1 e => absurd (by rw [hfs, e, List.append_nil]; exact h1) hlm))
    · rintro gc ledc m2 s hgc H ⟨vs, fs, ad, dn, rfl, hvs, hF, hfs, hdn, hcd, hca, hmr2, hmf2⟩
      rw [List.append_nil] at hdn
      refine ex_nil ⟨gc, _, _, hgb.trans hgc, H, vs, fs, rfl, hvs, hF, ?_, hmr2, hmf2⟩
      cases ad with
      | nil =>
        rw [List.append_nil] at hfs
        rw [hfs]
        exact .inl (by rw [hdn]; exact hcd rfl)
      | cons i ad =>
        refine .inr ?_
        rcases hcl0 with hc0 | hc0
        · exact absurd (hca hc0) (by simp)
        · rw [hfs]; simp at hc0 ⊢; omega
  · rintro gb ledb m1 s hgb H ⟨vs, fs, rfl, hvs, hF, hcl, hmr, hmf⟩
    have kb := k.mono hgb
    have hcl : Closed ps fs := hcl.resolve_right (by have := lenU hF; simp; omega)
    obtain ⟨o, gc, hq, ho, hsc, H⟩ := H.freeze hfl
    refine ex_ret (Call_ (nmB H (kb.mono hsc) g_sorted (e := n_sorted _) (callB (a1 (nm H hmf ?_)))))
    exact sortedL ((rr _).u (by decide)) H (hq.is ho) (hvs.imp fun _ _ => LIt.mono' _ _ _ _ hsc) (fun x hx => hUi x (hLC x (hF.sub x hx))) hF.nd (lenU hF) fun v gd s hsd hv H => h v fs _ gd H.rel hv (hF.fin hcl)
end
end Mine
end

section
open PySem PySem.W PySem.Calls PyProof.Rows
set_option maxRecDepth 100000
namespace Mine

def BoolV (_g : Heap) (v : Value) (b : Bool) : Prop := v = .bool b
theorem BoolV.mono' : ∀ g g' v b, Sub g g' → BoolV g v b → BoolV g' v b := fun _ _ _ _ _ h => h
theorem dB' : DataR 0 BoolV PyData.bool (fun _ => True) where
  reads _ _ _ h := by cases h; exact ⟨_, .bool _⟩
  eqv a b := by cases a <;> cases b <;> rfl
  mono := BoolV.mono'
  lay _ _ := rfl
  dep _ := Nat.le_refl _
theorem dN' : DataR 0 NatV (fun n => PyData.int (n : Nat)) (fun _ => True) where
  reads _ _ _ h := by obtain ⟨t, rfl⟩ := h; exact ⟨_, .int _ _⟩
  eqv a b := by
    show ((a : Int) == (b : Int)) = _
    by_cases h : a = b
    · subst h; simp
    · have h2 : ¬ ((a : Int) = b) := by omega
      simp [h, h2]
  mono := NatV.mono'
  lay _ _ := rfl
  dep _ := Nat.le_refl _

theorem best_lt : ∀ (l : List Nat) (x : Nat), (l.foldl (fun b y => if ltN y b then y else b) x) ∈ x :: l ∧ ∀ a ∈ x :: l, (l.foldl (fun b y => if ltN y b then y else b) x) ≤ a
  | [], x => ⟨.head _, fun a ha => by cases List.mem_singleton.mp ha; exact Nat.le_refl _⟩
  | y :: l, x => by
    rw [List.foldl_cons]
    obtain ⟨h1, h2⟩ := best_lt l (if ltN y x then y else x)
    have hx : (if ltN y x = true then y else x) ≤ x ∧ (if ltN y x = true then y else x) ≤ y ∧ ((if ltN y x = true then y else x) = x ∨ (if ltN y x = true then y else x) = y) := by
      unfold ltN
      by_cases q : y < x
      · rw [if_pos (by simpa using q)]; omega
      · rw [if_neg (by simpa using q)]; omega
    refine ⟨?_, fun a ha => ?_⟩
    · rcases List.mem_cons.mp h1 with h | h
      · rcases hx.2.2 with q | q
        · rw [h, q]; exact .head _
        · rw [h, q]; exact .tail _ (.head _)
      · exact .tail _ (.tail _ h)
    · have h3 := h2 _ (.head _)
      rcases List.mem_cons.mp ha with rfl | ha
      · exact Nat.le_trans h3 hx.1
      · rcases List.mem_cons.mp ha with rfl | ha
        · exact Nat.le_trans h3 hx.2.1
        · exact h2 a (.tail _ ha)
theorem best_gt : ∀ (l : List Nat) (x : Nat), (l.foldl (fun b y => if gtN y b then y else b) x) ∈ x :: l ∧ ∀ a ∈ x :: l, a ≤ (l.foldl (fun b y => if gtN y b then y else b) x)
  | [], x => ⟨.head _, fun a ha => by cases List.mem_singleton.mp ha; exact Nat.le_refl _⟩
  | y :: l, x => by
    rw [List.foldl_cons]
    obtain ⟨h1, h2⟩ := best_gt l (if gtN y x then y else x)
    have hx : x ≤ (if gtN y x = true then y else x) ∧ y ≤ (if gtN y x = true then y else x) ∧ ((if gtN y x = true then y else x) = x ∨ (if gtN y x = true then y else x) = y) := by
      unfold gtN
      by_cases q : y > x
      · rw [if_pos (by simpa using q)]; omega
      · rw [if_neg (by simpa using q)]; omega
    refine ⟨?_, fun a ha => ?_⟩
    · rcases List.mem_cons.mp h1 with h | h
      · rcases hx.2.2 with q | q
        · rw [h, q]; exact .head _
        · rw [h, q]; exact .tail _ (.head _)
      · exact .tail _ (.tail _ h)
    · have h3 := h2 _ (.head _)
      rcases List.mem_cons.mp ha with rfl | ha
      · exact Nat.le_trans hx.1 h3
      · rcases List.mem_cons.mp ha with rfl | ha
        · exact Nat.le_trans hx.2.1 h3
        · exact h2 a (.tail _ ha)
theorem bestLt_mem {l : List Nat} (h : l ≠ []) : bestOf ltN l ∈ l ∧ ∀ a ∈ l, bestOf ltN l ≤ a := by
  cases l with
  | nil => exact absurd rfl h
  | cons x l => exact best_lt l x
theorem bestGt_mem {l : List Nat} (h : l ≠ []) : bestOf gtN l ∈ l ∧ ∀ a ∈ l, a ≤ bestOf gtN l := by
  cases l with
  | nil => exact absurd rfl h
  | cons x l => exact best_gt l x

theorem All2.range {β : Type} {R : Value → β → Prop} {vs : List Value} {f : Nat → β} {n : Nat} (hl : vs.length = n) (h : ∀ i v, vs[i]? = some v → R v (f i)) : All2 R vs ((List.range n).map f) := by
  subst hl
  have key : ∀ (us : List Value) (k : Nat), (∀ i v, us[i]? = some v → R v (f (k + i))) → All2 R us ((List.range' k us.length).map f) := by
    intro us
    induction us with
    | nil => intro k _; exact .nil
    | cons u us ih =>
      intro k hk
      rw [List.length_cons, List.range'_succ, List.map_cons]
      refine .cons (by simpa using hk 0 u rfl) (ih (k + 1) fun i v e => ?_)
      have := hk (i + 1) v (by simpa using e)
      rwa [show k + (i + 1) = k + 1 + i by omega] at this
  rw [List.range_eq_range']
  exact key vs 0 fun i v e => by rw [Nat.zero_add]; exact h i v e
theorem natToks : ∀ {vs : List Value} {ns : List Nat}, All2 (fun v n => ∃ t, v = .int (n : Nat) t) vs ns → ∃ xs : List (Int × Tok), vs = xs.map (fun p => .int p.1 p.2) ∧ xs.map (·.1) = ns.map Int.ofNat
  | _, _, .nil => ⟨[], rfl, rfl⟩
  | _, n :: _, .cons ⟨t, e⟩ r => let ⟨xs, a, b⟩ := natToks r; ⟨((n : Int), t) :: xs, by subst a e; rfl, by rw [List.map_cons, b]; rfl⟩

section
variable {prog : Program} {w : World} {mg mb : Str → Option Value} {A : Around} {E : Value → Shared → Prop} {s s' : Shared} {F : Fx} {g g' : Heap} {led : Led} {m : Str → Option Value} {env : Env}

theorem In.keptT (H : In F g led m s) {h' : Heap} {tk : Nat} (hk : ∀ b o, s.heap.get? b = some o → h'.get? b = some o) : In F g led m { s with heap := h', toks := tk } :=
  H.kept (s' := { s with heap := h', toks := tk }) hk rfl (.refl _)
/-- all(a list of bools) -/
theorem allB {v : Value} {bs : List Bool} {Q : Value → Shared → Prop} (hh : A.handled = none) (H : In F g led m s) (hl : Lst BoolV g v bs) (h : ∀ s', In F g led m s' → Q (.bool (bs.all id)) s') : wpAny (model prog w) A (call (.builtin "all") [v]) Q E s := by
  obtain ⟨l, vs, rfl, hl, hb⟩ := hl
  have hl := isList_mono hl H.into
  have hlt : l < s.heap.objs.size := by obtain ⟨_, e, _⟩ := hl; exact Heap.lt_size e
  refine call_all_walk (wpAny_pyIter_list hl ?_)
  refine ⟨s.heap.objs.size, [s.heap.objs.size, l], [s.heap.objs.size], vs.toArray.size, _, _, fun i => (bs[i]?).getD true, rfl, Walks.list (A := A.in1) hh _ l (Nat.ne_of_lt hlt) vs.toArray,
    ⟨⟨_, Heap.get?_push_size _ rfl, rfl, rfl⟩, hl.push _⟩, fun i v s' Q' E' hP hQ => ?_, fun h' tk hk => ?_⟩
  · obtain ⟨b, e, hv⟩ := hb.get (i := i) (a := v) (by simpa using hP)
    cases hv
    simp only [e, Option.getD_some] at hQ
    exact wpAny_truthy_bool hQ
  · have e : ((List.range vs.toArray.size).all fun i => (bs[i]?).getD true) = bs.all id := by
      rw [List.size_toArray, hb.length]; exact LSm.range_all bs
    rw [e]
    exact h _ (H.keptT (LSm.kept_iter hk))
theorem minL {v : Value} {ns : List Nat} {Q : Value → Shared → Prop} (hh : A.handled = none) (H : In F g led m s) (hl : Lst NatV g v ns) (hne : ns ≠ []) (h : ∀ t s', In F g led m s' → Q (.int (bestOf ltN ns : Nat) t) s') : wpAny (model prog w) A (call (.builtin "min") [v]) Q E s := by
  obtain ⟨l, vs, rfl, hl, hb⟩ := hl
  obtain ⟨xs, rfl, hxs⟩ := natToks hb
  have e0 : (xs.map (fun p => Value.int p.1 p.2)).toArray = intItems xs.toArray := by unfold intItems; simp
  have hl := isList_mono hl H.into
  rw [e0] at hl
  have hsz : 0 < xs.toArray.size := by
    have : xs.length = ns.length := by have := congrArg List.length hxs; simpa using this
    rw [List.size_toArray, this]; exact List.length_pos_iff.mpr hne
  refine min_intList hh hl hsz fun v h' tk hv hk => ?_
  obtain ⟨t, rfl⟩ := intItems_at hv
  obtain ⟨h1, h2⟩ := argBest_lt (numAt xs.toArray) (xs.toArray.size - 1)
  have hnum : ∀ i, i < xs.length → numAt xs.toArray i = ((ns.getD i 0 : Nat) : Int) := fun i hi => by
    have hi2 : i < ns.length := by have := congrArg List.length hxs; simp at this; omega
    have := congrArg (fun l : List Int => l[i]?) hxs
    simp only [List.getElem?_map, List.getElem?_eq_getElem hi, List.getElem?_eq_getElem hi2, Option.map_some, Option.some.injEq] at this
    unfold numAt
    rw [List.getElem?_toArray, List.getElem?_eq_getElem hi, List.getD_eq_getElem?_getD, List.getElem?_eq_getElem hi2]
    exact this
  have hlen : xs.length = ns.length := by have := congrArg List.length hxs; simpa using this
  rw [List.size_toArray] at h1 h2 hsz
  generalize argBest (fun i j => decide (numAt xs.toArray i < numAt xs.toArray j)) (xs.length - 1) = k at h1 h2
  have hk1 : k < xs.length := by omega
  obtain ⟨b1, b2⟩ := bestLt_mem hne
  have e1 : numAt xs.toArray k = ((bestOf ltN ns : Nat) : Int) := by
    obtain ⟨j, hj, ej⟩ := List.getElem_of_mem b1
    have h3 := h2 j (by omega)
    rw [hnum k hk1, hnum j (by omega)] at h3
    have h4 := b2 (ns.getD k 0) (by rw [List.getD_eq_getElem?_getD, List.getElem?_eq_getElem (by omega)]; exact List.getElem_mem _)
    have h5 : ns.getD j 0 = bestOf ltN ns := by rw [List.getD_eq_getElem?_getD, List.getElem?_eq_getElem hj]; exact ej
    rw [hnum k hk1]
    omega
  rw [e1]
  exact h t _ (H.keptT hk)
theorem maxL {v : Value} {ns : List Nat} {Q : Value → Shared → Prop} (hh : A.handled = none) (H : In F g led m s) (hl : Lst NatV g v ns) (hne : ns ≠ []) (h : ∀ t s', In F g led m s' → Q (.int (bestOf gtN ns : Nat) t) s') : wpAny (model prog w) A (call (.builtin "max") [v]) Q E s := by
  obtain ⟨l, vs, rfl, hl, hb⟩ := hl
  obtain ⟨xs, rfl, hxs⟩ := natToks hb
  have e0 : (xs.map (fun p => Value.int p.1 p.2)).toArray = intItems xs.toArray := by unfold intItems; simp
  have hl := isList_mono hl H.into
  rw [e0] at hl
  have hsz : 0 < xs.toArray.size := by
    have : xs.length = ns.length := by have := congrArg List.length hxs; simpa using this
    rw [List.size_toArray, this]; exact List.length_pos_iff.mpr hne
  refine max_intList hh hl hsz fun v h' tk hv hk => ?_
  obtain ⟨t, rfl⟩ := intItems_at hv
  obtain ⟨h1, h2⟩ := argBest_gt (numAt xs.toArray) (xs.toArray.size - 1)
  have hnum : ∀ i, i < xs.length → numAt xs.toArray i = ((ns.getD i 0 : Nat) : Int) := fun i hi => by
    have hi2 : i < ns.length := by have := congrArg List.length hxs; simp at this; omega
    have := congrArg (fun l : List Int => l[i]?) hxs
    simp only [List.getElem?_map, List.getElem?_eq_getElem hi, List.getElem?_eq_getElem hi2, Option.map_some, Option.some.injEq] at this
    unfold numAt
    rw [List.getElem?_toArray, List.getElem?_eq_getElem hi, List.getD_eq_getElem?_getD, List.getElem?_eq_getElem hi2]
    exact this
  have hlen : xs.length = ns.length := by have := congrArg List.length hxs; simpa using this
  rw [List.size_toArray] at h1 h2 hsz
  generalize argBest (fun i j => decide (numAt xs.toArray i > numAt xs.toArray j)) (xs.length - 1) = k at h1 h2
  have hk1 : k < xs.length := by omega
  obtain ⟨b1, b2⟩ := bestGt_mem hne
  have e1 : numAt xs.toArray k = ((bestOf gtN ns : Nat) : Int) := by
    obtain ⟨j, hj, ej⟩ := List.getElem_of_mem b1
    have h3 := h2 j (by omega)
    rw [hnum k hk1, hnum j (by omega)] at h3
    have h4 := b2 (ns.getD k 0) (by rw [List.getD_eq_getElem?_getD, List.getElem?_eq_getElem (by omega)]; exact List.getElem_mem _)
    have h5 : ns.getD j 0 = bestOf gtN ns := by rw [List.getD_eq_getElem?_getD, List.getElem?_eq_getElem hj]; exact ej
    rw [hnum k hk1]
    omega
  rw [e1]
  exact h t _ (H.keptT hk)

/-- list(range(n)) -/
theorem listRange {n : Nat} {t : Tok} {Q : Value → Shared → Prop} (hh : A.handled = none) (H : In F g led m s) (hn : n ≤ 1000) (h : ∀ v g' s', Sub g g' → Lst NatV g' v (List.range n) → In F g' led m s' → Q v s') :
    wpAny (model prog w) A (call (.type "range") [.int (n : Nat) t]) (fun v s' => wpAny (model prog w) A (call (.type "list") [v]) Q E s') E s := by
  refine call_range_1 ?_
  have hsz : Builtin.Range.rangeSize 0 n 1 = (n : Int) := by rw [rangeSize_one]; split <;> omega
  have H1 := ((H.new { cls := .type "range", data := .fields #[.int 0 s.toks, .int n t, .int 1 (s.toks + 1)] } rfl (fun _ => True) trivial).drop).toks (s.toks + 1 + 1)
  refine sz (call_list_range (n := n) hh (IsRange.new ..) (small_one (by decide) (by decide) (by omega) (by omega)) hsz (by omega) fun h' tk acc' c' hk hS hI hz => ?_)
  obtain ⟨hi1, hi2⟩ := hI
  have H2 := H1.new' (s' := { heap := h', gens := s.gens, drawn := s.drawn, toks := tk, os := s.os }) (P := LP acc'.toList) hk hz rfl (.refl _) hS (Nat.le_refl _) ⟨rfl, c', by simp⟩
  obtain ⟨o, g', hP, e3, hs, H3⟩ := H2.freeze (H1.was (Nat.le_refl _))
  refine h _ g' _ hs ⟨_, acc'.toList, rfl, hP.is e3, ?_⟩ H3
  have := All2.range (R := fun v x => ∃ t, v = .int (x : Nat) t) (vs := acc'.toList) (f := id) (n := n) (by simpa using hi1) fun i v e => by
    obtain ⟨t, e2⟩ := hi2 i v (by simpa using e)
    exact ⟨t, by rw [e2]; congr 1; simp⟩
  rw [List.map_id] at this
  exact this
end
end Mine
end

section
open PySem PySem.W PySem.Calls PyProof.Rows
set_option maxRecDepth 100000
namespace Mine
theorem fillK25 (P : Params) : hd.heap_39 P = hd.heap_39 P → PySem.Challenge.rw_bn0044_01 = PySem.Challenge.rw_bn0044_01 := by
  k_fill
  exact fun _ => rfl

/-! ## the forms, plainly -/
def szs (ps : List Row2) : List Nat := ps.map fun p => p.2.length
def cntW (p : Row2) : Nat := (p.2.filterMap fun i => if i.t = true then some i else none).length
def wds (ps : List Row2) : List Nat := ps.map cntW
def apartF (ps : List Row2) (k : Nat) : Option Bool := if (szs ps).getD k 0 ≠ 1 then some (decide ((wds ps).getD k 0 = 0)) else none
def unaryF (ps : List Row2) (k : Nat) : Option Bool := if (szs ps).getD k 0 = 1 then some (decide (0 < (wds ps).getD k 0)) else none
def apartB (ps : List Row2) : Bool := ((List.range ps.length).filterMap (apartF ps)).all id
def unaryB (ps : List Row2) : Bool := ((List.range ps.length).filterMap (unaryF ps)).all id
def lexB (ps : List Row2) : Bool := ((wds ps).filterMap fun n => some (decide (0 < n))).all id
theorem cntW_zero (p : Row2) : cntW p = 0 ↔ nonP p = true := by
  unfold cntW nonP
  rw [List.length_eq_zero_iff, List.filterMap_eq_nil_iff, List.all_eq_true]
  refine ⟨fun h i hi => ?_, fun h i hi => ?_⟩
  · have := h i hi
    cases q : i.t with
    | false => rfl
    | true => rw [if_pos q] at this; cases this
  · have := h i hi
    cases q : i.t with
    | false => rw [if_neg Bool.false_ne_true]
    | true => rw [q] at this; cases this
theorem nonP_eq (p : Row2) : decide (cntW p = 0) = nonP p := by
  cases q : nonP p with
  | true => exact decide_eq_true ((cntW_zero p).mpr q)
  | false => exact decide_eq_false fun e => by rw [(cntW_zero p).mp e] at q; cases q
theorem lexP_eq (p : Row2) : decide (0 < cntW p) = lexP p := by
  have h : lexP p = !nonP p := rfl
  rw [h, ← nonP_eq]
  by_cases q : cntW p = 0
  · rw [decide_eq_true q, q]; rfl
  · rw [decide_eq_false q]; exact decide_eq_true (by omega)
theorem lex_eq (ps : List Row2) : fLex ps = lexB ps := by
  unfold fLex lexB wds
  rw [List.filterMap_map]
  congr 2
  funext p
  show some (lexP p) = some (decide (0 < cntW p))
  rw [lexP_eq]
theorem neI1 (a : Nat) : ((a : Int) != 1) = !decide (a = 1) := by
  by_cases h : a = 1
  · subst h; rfl
  · rw [decide_eq_false h]; have : ¬ ((a : Int) = 1) := by omega
    simp [this]
theorem eqI1 (a : Nat) : ((a : Int) == 1) = decide (a = 1) := by
  by_cases h : a = 1
  · subst h; rfl
  · rw [decide_eq_false h]; have : ¬ ((a : Int) = 1) := by omega
    simp [this]
theorem eqI0 (a : Nat) : ((a : Int) == 0) = decide (a = 0) := by
  by_cases h : a = 0
  · subst h; rfl
  · rw [decide_eq_false h]; simp [h]
theorem gtI0 (a : Nat) : decide ((a : Int) > 0) = decide (0 < a) := decide_eq_decide.mpr (by omega)
theorem ltI3 (a : Nat) : decide ((a : Int) < 3) = decide (a < 3) := decide_eq_decide.mpr (by omega)
theorem fm_congr {β γ : Type} {f g : β → Option γ} : ∀ (l : List β), (∀ x ∈ l, f x = g x) → l.filterMap f = l.filterMap g
  | [], _ => rfl
  | a :: l, h => by
    rw [List.filterMap_cons, List.filterMap_cons, h a (.head _), fm_congr l fun x hx => h x (.tail _ hx)]
theorem range_fm {β γ : Type} (f : β → Option γ) (d : Nat → Option γ) (l : List β) (h : ∀ k (hk : k < l.length), d k = f l[k]) : (List.range l.length).filterMap d = l.filterMap f := by
  have e : l.filterMap f = ((List.range l.length).map fun k => l[k]?).filterMap (fun o => o.bind f) := by
    have : ((List.range l.length).map fun k => l[k]?) = l.map some := by
      apply List.ext_getElem
      · simp
      · intro i h1 h2; simp at h1; simp [h1]
    rw [this, List.filterMap_map]
    rfl
  rw [e, List.filterMap_map]
  refine fm_congr _ fun k hk => ?_
  have hk' : k < l.length := by simpa using hk
  show d k = (l[k]?).bind f
  rw [List.getElem?_eq_getElem hk', h k hk']; rfl
theorem szs_at {ps : List Row2} {k : Nat} (hk : k < ps.length) : (szs ps).getD k 0 = ps[k].2.length := by
  unfold szs; rw [List.getD_eq_getElem?_getD, List.getElem?_map, List.getElem?_eq_getElem hk]; rfl
theorem wds_at {ps : List Row2} {k : Nat} (hk : k < ps.length) : (wds ps).getD k 0 = cntW ps[k] := by
  unfold wds; rw [List.getD_eq_getElem?_getD, List.getElem?_map, List.getElem?_eq_getElem hk]; rfl
theorem non_eq (ps : List Row2) : fNon ps = apartB ps := by
  unfold fNon apartB
  rw [range_fm (fun p : Row2 => if p.2.length ≠ 1 then some (nonP p) else none) (apartF ps) ps fun k hk => ?_]
  unfold apartF
  rw [szs_at hk, wds_at hk, nonP_eq]
theorem una_eq (ps : List Row2) : fUna ps = unaryB ps := by
  unfold fUna unaryB
  rw [range_fm (fun p : Row2 => if p.2.length = 1 then some (lexP p) else none) (unaryF ps) ps fun k hk => ?_]
  unfold unaryF
  rw [szs_at hk, wds_at hk, lexP_eq]
theorem szs_ne {ps : List Row2} (h : ps ≠ []) : szs ps ≠ [] := by unfold szs; simpa using h
theorem min_eq (ps : List Row2) : bestOf ltN (szs ps) = fMin ps := rfl
theorem max_eq (ps : List Row2) : bestOf gtN (szs ps) = fMax ps := rfl
theorem pos_eq {ps : List Row2} (h : ps ≠ []) : decide (0 < fMin ps) = !decide (0 ∈ szs ps) := by
  obtain ⟨h1, h2⟩ := bestLt_mem (szs_ne h)
  by_cases q : 0 ∈ szs ps
  · have := h2 0 q
    rw [decide_eq_true q]
    exact decide_eq_false (by rw [min_eq] at this; omega)
  · rw [decide_eq_false q]
    refine decide_eq_true (Nat.pos_of_ne_zero fun e => q ?_)
    rw [← e, ← min_eq]; exact h1
theorem two_eq (ps : List Row2) : decide (fMax ps ≤ 2) = decide (fMax ps < 3) := decide_eq_decide.mpr (by omega)

section
variable {prog : Program} {w : World} {mg mb : Str → Option Value} {A : Around} {E : Value → Shared → Prop} {s s' : Shared} {F : Fx} {g g' : Heap} {led : Led} {m : Str → Option Value} {env : Env}

/-- a local is stored, and what the others hold is told -/
theorem stG {M : Model} {x : Str} {v : Value} {Q : Unit → Shared → Prop} (H : In F g led m s) (h : ∀ m' s', m' x = some v → (∀ y, y ≠ x → m' y = m y) → In F g led m' s' → Q () s') (hL : env.locals = F.L := by rfl)
    (hk : env.scope.kind = .function := by rfl) (hl : env.kindOf x = some .local := by kernel_rfl) : wpAny M A (storeName env x v) Q E s :=
  st H (fun s' H' => h _ s' (if_pos rfl) (fun y hy => if_neg hy) H') hL hk hl

set_option maxHeartbeats 2000000 in
/-- _law_forms(grammar, rows) -/
theorem lforms_spec {s0 : Shared} {x : Addr} {f : Str → Option Value} {rv : Value} {ps : List Row2} {Q : Value → Shared → Prop} (r : Room A 6 90) (k : KB w mg mb g) (hs : Sub g s0.heap) (hI : Inst g x 334 f) (hG : Gram prog w g f ps) (hr : Lst LRow g rv ps) (hne : ps ≠ []) (h6 : ps.length ≤ 6) (hz2 : ∀ p ∈ ps, p.2.length ≤ 900)
    (h : ∀ s' g', Rel [] s0 g s' g' → Q (.bool true) s') : wpAny (model prog w) A (call (.ref 393) [.ref x, rv]) Q E s0 := by
  obtain ⟨rl, rvs, rfl, hrl, hra⟩ := hr
  refine enterC [("grammar", .ref x), ("rows", .ref rl)] (led := []) k hs r.lt (fun _ h => nomatch h) List.nodup_nil (fun L s H => ?_)
  refine wpAny_noRaise ?_
  have H := H.cast (led' := [(L + 1 + 1, CP none), (L + 1, CP none)]) (by kernel_rfl)
  have rr : ∀ e, Room (A.deeper e) 5 87 := fun e => r.deeper
  have hra0 : All2 (fun v p => LRow g v p ∧ p ∈ ps) rvs ps := hra.andR fun p hp => hp
  -- sizes
  refine ex_set (hs := by kernel_rfl) (lcE (cl := []) rfl (nm H rfl (itListA H hrl hra0 fun I St s S H => ?_)))
  refine lcV (JSel ps g [(L + 1 + 1, CP none), (L + 1, CP none)] NatV (fun p o => o = some p.2.length)) S r.hh (.refl _) H .init (by omega) ?_ ?_
  · rintro F' p rest out acc g2 led2 m2 s v hg ⟨⟨a, lv, rv, rfl, ht, hl, hr⟩, hpm⟩ H J
    have k2 := k.mono hg
    refine asP H r.hh (isTup_mono ht hg) fun s H => tests0 ?_
    rw [if_pos rfl]
    refine Call_ (nmB H k2 g_len (e := n_len _) (callB (a1 (nm H (if_pos rfl) (lenLs H (hr.mono LIt.mono' hg) (by have := hz2 p hpm; omega) fun t s H => ?_)))))
    exact ⟨g2, _, _, hg, H, J.step NatV.mono' (.refl _) ⟨t, rfl⟩ rfl⟩
  intro l1 out1 g1' g1 led1 s hg1' hg1 hl1 J H
  obtain ⟨rfl, S1, ha1⟩ := J.fin NatV.mono' hg1
  clear J
  have hsz : Lst NatV g1 (.ref l1) (szs ps) := ⟨l1, out1, rfl, hl1, by rw [List.filterMap_eq_map'] at ha1; exact ha1⟩
  refine stC (pre := [(L + 1 + 1, CP none)]) H fun s H => ?_
  -- words
  have k1 := k.mono S1
  have mv : ∀ {g'}, Sub g g' → All2 (fun v p => LRow g' v p ∧ p ∈ ps) rvs ps := fun hs => (hra.imp fun _ _ => LRow.mono' _ _ _ _ hs).andR fun p hp => hp
  refine ex_set (hs := by kernel_rfl) (lcE (cl := []) rfl (nm H rfl (itListA H (isList_mono hrl S1) (mv S1) fun I St s S H => ?_)))
  refine lcV (JSel ps g1 [(L + 1 + 1, CP none), (L + 1, CP (some (.ref l1)))] NatV (fun p o => o = some (cntW p))) S r.hh (.refl _) H .init (by omega) ?_ ?_
  · rintro F' p rest out acc g2 led2 m2 s v hg ⟨⟨a, lv, rv, rfl, ht, hl, hr⟩, hpm⟩ H J
    have k2 := k1.mono hg
    obtain ⟨rl2, rvs2, rfl, hrl2, hra2⟩ := hr
    refine asP H r.hh (isTup_mono ht hg) fun s H => tests0 ?_
    rw [if_pos rfl]
    refine Call_ (nmB H k2 g_len (e := n_len _) (callB (a1 (lcE (cl := []) rfl (nm H (if_pos rfl) (itListA H (isList_mono hrl2 hg) (hra2.imp fun _ _ => LIt.mono' _ _ _ _ hg) fun I2 St2 s S2 H => ?_))))))
    have hz := hz2 p hpm
    refine lcV (JSel p.2 g2 _ LIt (fun i o => o = if i.t = true then some i else none)) S2 r.hh (.refl _) H .init (by omega) ?_ ?_
    · rintro F2 i rest2 out2 acc2 g3 led3 m3 s v hg3 ⟨ia, t1, t2, rfl, hit⟩ H J2
      refine asN H fun s H => tests1 (tcmp1 (Subscript_ (nm H (if_pos rfl) (cst_i H fun t s H => ix0 H (isTup_mono hit hg3) (cst_i H fun t s H => P.eq_int (tr_b ?_))))))
      cases hti : i.t with
      | true =>
        rw [show (tagI i == 1) = true by simp [tagI, hti], if_pos rfl]
        exact nm H (if_pos rfl) ⟨g3, _, _, hg3, H, J2.step LIt.mono' (.refl _) ⟨ia, t1, t2, rfl, isTup_mono hit hg3⟩ (by rw [if_pos hti])⟩
      | false =>
        rw [show (tagI i == 1) = false by simp [tagI, hti], if_neg Bool.false_ne_true]
        exact ⟨g3, _, _, hg3, H, J2.pass LIt.mono' (.refl _) (by rw [if_neg (by rw [hti]; decide)])⟩
    · intro l2 out2 g3 g4 led4 s hg3 hg4 hl2 J2 H
      obtain ⟨e4, S4, ha2⟩ := J2.fin LIt.mono' hg4
      subst e4
      refine lenLs H ⟨l2, out2, rfl, hl2, ha2⟩ (Nat.le_trans (List.length_filterMap_le _ _) (by omega)) fun t s H => ?_
      exact ⟨g4, _, _, hg.trans S4, H, J.step NatV.mono' S4 ⟨t, rfl⟩ rfl⟩
  intro l2 out2 g2' g2 led2 s hg2' hg2 hl2 J H
  obtain ⟨rfl, S2, ha2⟩ := J.fin NatV.mono' hg2
  clear J
  have hwd : Lst NatV g2 (.ref l2) (wds ps) := ⟨l2, out2, rfl, hl2, by rw [List.filterMap_eq_map'] at ha2; exact ha2⟩
  refine stC (pre := []) H fun s H => ?_
  obtain ⟨g3, hcw, hs3, H⟩ := H.cellF (Nat.le_succ_of_le (Nat.le_succ_of_le H.fresh))
  obtain ⟨g4, hcs, hs4, H⟩ := H.cellF (Nat.le_succ_of_le H.fresh)
  have S34 := hs3.trans hs4
  have hcw := hcw.mono hs4
  have hwd := hwd.mono NatV.mono' S34
  have hsz := hsz.mono NatV.mono' (S2.trans S34)
  have S04 := S1.trans (S2.trans S34)
  have k4 := k.mono S04
  -- many
  refine ex_set (Call_ (nmB H k4 g_list (e := n_list _) (callT (a1 (Call_ (nmB H k4 g_range (e := n_range _) (callT (a1 (Call_ (nmB H k4 g_len (e := n_len _) (callB (a1 (nm H rfl (lenLs H ⟨rl, rvs, rfl, isList_mono hrl S04, hra.imp fun _ _ => LRow.mono' _ _ _ _ S04⟩ (by omega) fun t s H => ?_))))))))))))))
  refine listRange r.hh H (by omega) fun mv5 g5 s hs5 hm5 H => ?_
  obtain ⟨ml, mvs, rfl, hml, hma⟩ := hm5
  refine stG H fun m5 s hm5 hm5' H => ?_
  have k5 := k4.mono hs5
  have hcw := hcw.mono hs5
  have hcs := hcs.mono hs5
  have hwd := hwd.mono NatV.mono' hs5
  have hsz := hsz.mono NatV.mono' hs5
  have S05 := S04.trans hs5
  have hlz : (szs ps).length = ps.length := by unfold szs; simp
  have hlw : (wds ps).length = ps.length := by unfold wds; simp
  have mm : ∀ {g'}, Sub g5 g' → All2 (fun v n => NatV g' v n ∧ n ∈ List.range ps.length) mvs (List.range ps.length) := fun hs => (hma.imp fun _ _ => NatV.mono' _ _ _ _ hs).andR fun p hp => hp
  -- apart
  refine ex_set (Call_ (nmB H k5 g_all (e := n_all _) (callB (a1 (lcE (cl := [("words", L + 1 + 1), ("sizes", L + 1)]) rfl (nm H hm5 (itListA H hml (mm (.refl _)) fun I St s S H => ?_)))))))
  refine lcV (JSel (List.range ps.length) g5 [] BoolV (fun n o => o = apartF ps n)) S r.hh (.refl _) H .init (by rw [List.length_range]; omega) ?_ ?_
  · rintro F' n rest out acc g6 led6 m6 s v hg ⟨⟨t, rfl⟩, hnm⟩ H J
    have hn : n < ps.length := by simpa using hnm
    refine asN H fun s H => tests1 (tcmp1 (Subscript_ (nmC H (hcs.mono hg) (nm H (if_pos rfl) (pickL (n := n) H (hsz.mono NatV.mono' hg) (by omega) (by omega) fun v hv => ?_)))))
    obtain ⟨t2, rfl⟩ := hv
    have ez : (szs ps)[n]'(by omega) = (szs ps).getD n 0 := by rw [List.getD_eq_getElem?_getD, List.getElem?_eq_getElem (by omega)]; rfl
    rw [ez]
    refine cst_i H fun t s H => P.ne_int (tr_b ?_)
    rw [neI1]
    by_cases q : (szs ps).getD n 0 = 1
    · rw [decT q, Bool.not_true, if_neg Bool.false_ne_true]
      exact ⟨g6, _, _, hg, H, J.pass BoolV.mono' (.refl _) (by unfold apartF; rw [if_neg (by simpa using q)])⟩
    · rw [decF q, Bool.not_false, if_pos rfl]
      refine cmp1 (Subscript_ (nmC H (hcw.mono hg) (nm H (if_pos rfl) (pickL (n := n) H (hwd.mono NatV.mono' hg) (by omega) (by omega) fun v hv => ?_))))
      obtain ⟨t3, rfl⟩ := hv
      have ew : (wds ps)[n]'(by omega) = (wds ps).getD n 0 := by rw [List.getD_eq_getElem?_getD, List.getElem?_eq_getElem (by omega)]; rfl
      rw [ew]
      refine cst_i H fun t s H => P.eq_int ?_
      rw [eqI0]
      exact ⟨g6, _, _, hg, H, J.step BoolV.mono' (.refl _) rfl (b := decide ((wds ps).getD n 0 = 0)) (by unfold apartF; rw [if_pos q])⟩
  intro l6 out6 g6' g6 led6 s hg6' hg6 hl6 J H
  obtain ⟨rfl, S6, ha6⟩ := J.fin BoolV.mono' hg6
  clear J
  refine allB r.hh H ⟨l6, out6, rfl, hl6, ha6⟩ fun s H => ?_
  refine stG H fun m6 s hm6 hm6' H => ?_
  have k6 := k5.mono S6
  have hcw := hcw.mono S6
  have hcs := hcs.mono S6
  have hwd := hwd.mono NatV.mono' S6
  have hsz := hsz.mono NatV.mono' S6
  have S06 := S05.trans S6
  -- unary
  refine ex_set (Call_ (nmB H k6 g_all (e := n_all _) (callB (a1 (lcE (cl := [("words", L + 1 + 1), ("sizes", L + 1)]) rfl (nm H ((hm6' _ (by decide)).trans hm5) (itListA H (isList_mono hml S6) (mm S6) fun I St s S H => ?_)))))))
  refine lcV (JSel (List.range ps.length) g6 [] BoolV (fun n o => o = unaryF ps n)) S r.hh (.refl _) H .init (by rw [List.length_range]; omega) ?_ ?_
  · rintro F' n rest out acc g7 led7 m7 s v hg ⟨⟨t, rfl⟩, hnm⟩ H J
    have hn : n < ps.length := by simpa using hnm
    refine asN H fun s H => tests1 (tcmp1 (Subscript_ (nmC H (hcs.mono hg) (nm H (if_pos rfl) (pickL (n := n) H (hsz.mono NatV.mono' hg) (by omega) (by omega) fun v hv => ?_)))))
    obtain ⟨t2, rfl⟩ := hv
    have ez : (szs ps)[n]'(by omega) = (szs ps).getD n 0 := by rw [List.getD_eq_getElem?_getD, List.getElem?_eq_getElem (by omega)]; rfl
    rw [ez]
    refine cst_i H fun t s H => P.eq_int (tr_b ?_)
    rw [eqI1]
    by_cases q : (szs ps).getD n 0 = 1
    rotate_left
    · rw [decF q, if_neg Bool.false_ne_true]
      exact ⟨g7, _, _, hg, H, J.pass BoolV.mono' (.refl _) (by unfold unaryF; rw [if_neg q])⟩
    · rw [decT q, if_pos rfl]
      refine cmp1 (Subscript_ (nmC H (hcw.mono hg) (nm H (if_pos rfl) (pickL (n := n) H (hwd.mono NatV.mono' hg) (by omega) (by omega) fun v hv => ?_))))
      obtain ⟨t3, rfl⟩ := hv
      have ew : (wds ps)[n]'(by omega) = (wds ps).getD n 0 := by rw [List.getD_eq_getElem?_getD, List.getElem?_eq_getElem (by omega)]; rfl
      rw [ew]
      refine cst_i H fun t s H => P.gt_int ?_
      rw [gtI0]
      exact ⟨g7, _, _, hg, H, J.step BoolV.mono' (.refl _) rfl (b := decide (0 < (wds ps).getD n 0)) (by unfold unaryF; rw [if_pos q])⟩
  intro l7 out7 g7' g7 led7 s hg7' hg7 hl7 J H
  obtain ⟨rfl, S7, ha7⟩ := J.fin BoolV.mono' hg7
  clear J
  refine allB r.hh H ⟨l7, out7, rfl, hl7, ha7⟩ fun s H => ?_
  refine stG H fun m7 s hm7 hm7' H => ?_
  have k7 := k6.mono S7
  have hcw := hcw.mono S7
  have hcs := hcs.mono S7
  have hwd := hwd.mono NatV.mono' S7
  have hsz := hsz.mono NatV.mono' S7
  have S07 := S06.trans S7
  have hgr : m7 "grammar" = some (.ref x) := (hm7' _ (by decide)).trans ((hm6' _ (by decide)).trans ((hm5' _ (by decide)).trans rfl))
  have hap : m7 "apart" = some (.bool (apartB ps)) := (hm7' _ (by decide)).trans hm6
  have hun : m7 "unary" = some (.bool (unaryB ps)) := hm7
  -- is_lexical
  refine ex_if (isTrue_or (tcmp1 (MethodCall_ (nm H hgr (meth H k7 (c334 _) (hI.mono S07) (M_1 _) (hG.no _ (by decide)) (callW0 (H.K k7) (M_1 _).k ?_))))))
  refine get1 ((rr _).le (by decide) (by decide)) k7 H.into (hI.mono S07) (hG.mono S07) fun s g8 R8 => ?_
  have H := H.call0 R8
  have k8 := k7.mono R8.sub
  have hcw8 := hcw.mono R8.sub
  obtain ⟨wl, wvs, e, hwl, hwa⟩ := hwd.mono NatV.mono' R8.sub
  cases e
  refine Call_ (nmB H k8 g_all (e := n_all _) (callB (a1 (lcE (cl := []) rfl (nmC H hcw8 (itListA H hwl hwa fun I St s S H => ?_))))))
  refine lcV (JSel (wds ps) g8 [] BoolV (fun n o => o = some (decide (0 < n)))) S r.hh (.refl _) H .init (by omega) ?_ ?_
  · rintro F' n rest out acc g9 led9 m9 s v hg ⟨t, rfl⟩ H J
    refine asN H fun s H => tests0 ?_
    rw [if_pos rfl]
    refine cmp1 (nm H (if_pos rfl) (cst_i H fun t s H => P.gt_int ?_))
    rw [gtI0]
    exact ⟨g9, _, _, hg, H, J.step BoolV.mono' (.refl _) rfl rfl⟩
  intro l9 out9 g9' g9 led9 s hg9' hg9 hl9 J H
  obtain ⟨rfl, S9, ha9⟩ := J.fin BoolV.mono' hg9
  clear J
  refine allB r.hh H ⟨l9, out9, rfl, hl9, ha9⟩ fun s H => dB'.ne ((rr _).u (by decide)) H rfl rfl trivial trivial (tr_b ?_)
  rw [decT (show fLex ps = ((wds ps).filterMap fun n => some (decide (0 < n))).all id from lex_eq ps), Bool.not_true, if_neg Bool.false_ne_true]
  have S79 := R8.sub.trans S9
  have k9 := k8.mono S9
  have S09 := S07.trans S79
  have hszA : ∀ {g'}, Sub g7 g' → Lst NatV g' (.ref l1) (szs ps) := fun hs => hsz.mono NatV.mono' hs
  have szz : szs ps ≠ [] := szs_ne hne
  -- is_nonlexical
  refine isTrue_or (tcmp1 (MethodCall_ (nm H hgr (meth H k9 (c334 _) (hI.mono S09) (M_2 _) (hG.no _ (by decide)) (callW0 (H.K k9) (M_2 _).k ?_)))))
  refine get2 ((rr _).le (by decide) (by decide)) k9 H.into (hI.mono S09) (hG.mono S09) fun s ga Ra => ?_
  have H := H.call0 Ra
  have ka := k9.mono Ra.sub
  have S7a := S79.trans Ra.sub
  have S0a := S09.trans Ra.sub
  refine nm H hap (dB'.ne ((rr _).u (by decide)) H rfl rfl trivial trivial (tr_b ?_))
  rw [decT (non_eq ps), Bool.not_true, if_neg Bool.false_ne_true]
  refine isTrue_or_nil ?_
  rw [if_neg Bool.false_ne_true]
  refine ex_nil ?_
  -- min_len
  refine ex_if (isTrue_or (tcmp1 (MethodCall_ (nm H hgr (meth H ka (c334 _) (hI.mono S0a) (M_3 _) (hG.no _ (by decide)) (callW0 (H.K ka) (M_3 _).k ?_))))))
  refine get3 ((rr _).le (by decide) (by decide)) ka H.into (hI.mono S0a) (hG.mono S0a) fun t1 s gb Rb => ?_
  have H := H.call0 Rb
  have kb := ka.mono Rb.sub
  have S7b := S7a.trans Rb.sub
  have S0b := S0a.trans Rb.sub
  refine Call_ (nmB H kb g_min (e := n_min _) (callB (a1 (nmC H (hcs.mono S7b) (minL r.hh H (hszA S7b) szz fun t2 s H => ?_)))))
  refine dN'.ne ((rr _).u (by decide)) H ⟨t1, rfl⟩ ⟨t2, rfl⟩ trivial trivial (tr_b ?_)
  rw [decT (min_eq ps).symm, Bool.not_true, if_neg Bool.false_ne_true]
  -- max_len
  refine isTrue_or (tcmp1 (MethodCall_ (nm H hgr (meth H kb (c334 _) (hI.mono S0b) (M_4 _) (hG.no _ (by decide)) (callW0 (H.K kb) (M_4 _).k ?_)))))
  refine get4 ((rr _).le (by decide) (by decide)) kb H.into (hI.mono S0b) (hG.mono S0b) fun t1 s gc Rc => ?_
  have H := H.call0 Rc
  have kc := kb.mono Rc.sub
  have S7c := S7b.trans Rc.sub
  have S0c := S0b.trans Rc.sub
  refine Call_ (nmB H kc g_max (e := n_max _) (callB (a1 (nmC H (hcs.mono S7c) (maxL r.hh H (hszA S7c) szz fun t2 s H => ?_)))))
  refine dN'.ne ((rr _).u (by decide)) H ⟨t1, rfl⟩ ⟨t2, rfl⟩ trivial trivial (tr_b ?_)
  rw [decT (max_eq ps).symm, Bool.not_true, if_neg Bool.false_ne_true]
  -- is_nonempty
  refine isTrue_or (tcmp1 (MethodCall_ (nm H hgr (meth H kc (c334 _) (hI.mono S0c) (M_5 _) (hG.no _ (by decide)) (callW0 (H.K kc) (M_5 _).k ?_)))))
  refine get5 ((rr _).le (by decide) (by decide)) kc H.into (hI.mono S0c) (hG.mono S0c) fun s gd Rd => ?_
  have H := H.call0 Rd
  have kd := kc.mono Rd.sub
  have S7d := S7c.trans Rd.sub
  have S0d := S0c.trans Rd.sub
  obtain ⟨_, svs, e, hsl, hsa⟩ := hszA S7d
  cases e
  refine cmp1 (cst_i H fun t0 s H => nmC H (hcs.mono S7d) (dN'.notInL (b := 0) ((rr _).u (by decide)) H (isList_mono hsl H.into) hsa ⟨t0, rfl⟩ (fun _ _ => trivial) trivial ?_))
  refine dB'.ne ((rr _).u (by decide)) H rfl rfl trivial trivial (tr_b ?_)
  rw [decT (show decide (0 < fMin ps) = !_ from pos_eq hne), Bool.not_true, if_neg Bool.false_ne_true]
  refine isTrue_or_nil ?_
  rw [if_neg Bool.false_ne_true]
  refine ex_nil ?_
  -- flexible
  have hszd := hszA S7d
  refine ex_set (wpAny_mono (E := no) (Q := fun v s => v = .bool (decide (0 < fMin ps) && (apartB ps && decide (fMax ps < 3))) ∧ In ⟨s0, g, [], L⟩ gd [] m7 s) ?_ ?_ fun _ _ q => q.elim)
  · refine BoolOp_and (cmp1 (Call_ (nmB H kd g_min (e := n_min _) (callB (a1 (nmC H (hcs.mono S7d) (minL r.hh H hszd szz fun t2 s H => cst_i H fun t s H => P.gt_int (tr_b ?_))))))))
    rw [gtI0, min_eq]
    by_cases q1 : 0 < fMin ps
    · rw [decT q1, if_pos rfl, Bool.true_and]
      refine BoolOp_and (nm H hap (tr_b ?_))
      cases q2 : apartB ps with
      | true =>
        rw [if_pos rfl, Bool.true_and]
        refine BoolOp_one (cmp1 (Call_ (nmB H kd g_max (e := n_max _) (callB (a1 (nmC H (hcs.mono S7d) (maxL r.hh H hszd szz fun t2 s H => cst_i H fun t s H => P.lt_int ?_)))))))
        rw [ltI3, max_eq]
        exact ⟨rfl, H⟩
      | false =>
        rw [if_neg Bool.false_ne_true, Bool.false_and]
        exact ⟨rfl, H⟩
    · rw [decF q1, if_neg Bool.false_ne_true, Bool.false_and]
      exact ⟨rfl, H⟩
  rintro _ s ⟨rfl, H⟩
  refine stG H fun m8 s hm8 hm8' H => ?_
  have hgr8 : m8 "grammar" = some (.ref x) := (hm8' _ (by decide)).trans hgr
  have hun8 : m8 "unary" = some (.bool (unaryB ps)) := (hm8' _ (by decide)).trans hun
  have eflex : fFlex ps = (decide (0 < fMin ps) && (apartB ps && decide (fMax ps < 3))) := by unfold fFlex; rw [non_eq, two_eq]
  generalize hFX : (decide (0 < fMin ps) && (apartB ps && decide (fMax ps < 3))) = FX at hm8 eflex
  -- is_binarised
  refine ex_if (isTrue_or (tcmp1 (MethodCall_ (nm H hgr8 (meth H kd (c334 _) (hI.mono S0d) (M_6 _) (hG.no _ (by decide)) (callW0 (H.K kd) (M_6 _).k ?_))))))
  refine get6 ((rr _).le (by decide) (by decide)) kd H.into (hI.mono S0d) (hG.mono S0d) fun s ge Re => ?_
  have H := H.call0 Re
  have ke := kd.mono Re.sub
  have S7e := S7d.trans Re.sub
  have S0e := S0d.trans Re.sub
  refine cmp1 (Call_ (nmB H ke g_max (e := n_max _) (callB (a1 (nmC H (hcs.mono S7e) (maxL r.hh H (hszA S7e) szz fun t2 s H => cst_i H fun t s H => P.lt_int ?_))))))
  rw [ltI3, max_eq]
  refine dB'.ne ((rr _).u (by decide)) H rfl rfl trivial trivial (tr_b ?_)
  rw [decT (two_eq ps), Bool.not_true, if_neg Bool.false_ne_true]
  -- is_flexible
  refine isTrue_or (tcmp1 (MethodCall_ (nm H hgr8 (meth H ke (c334 _) (hI.mono S0e) (M_7 _) (hG.no _ (by decide)) (callW0 (H.K ke) (M_7 _).k ?_)))))
  refine get7 ((rr _).le (by decide) (by decide)) ke H.into (hI.mono S0e) (hG.mono S0e) fun s gf Rf => ?_
  have H := H.call0 Rf
  have kf := ke.mono Rf.sub
  have S0f := S0e.trans Rf.sub
  refine nm H hm8 (dB'.ne ((rr _).u (by decide)) H rfl rfl trivial trivial (tr_b ?_))
  rw [decT eflex, Bool.not_true, if_neg Bool.false_ne_true]
  refine isTrue_or_nil ?_
  rw [if_neg Bool.false_ne_true]
  refine ex_nil ?_
  -- is_chomsky
  refine ex_ret (cmp1 (MethodCall_ (nm H hgr8 (meth H kf (c334 _) (hI.mono S0f) (M_8 _) (hG.no _ (by decide)) (callW0 (H.K kf) (M_8 _).k ?_)))))
  refine get8 ((rr _).le (by decide) (by decide)) kf H.into (hI.mono S0f) (hG.mono S0f) fun s gg Rg => ?_
  have H := H.call0 Rg
  refine BoolOp_and (nm H hm8 (tr_b ?_))
  have fin : ∀ env b s, In ⟨s0, g, [], L⟩ gg [] m8 s → b = (FX && unaryB ps) → wpAny (model prog w) (A.deeper env) (compareOp .Eq (.bool (fFlex ps && fUna ps)) (.bool b)) (fun v s' => Q v s') no s := fun env b s H hb => by
    refine dB'.eq ((rr _).u (by decide)) H rfl rfl trivial trivial ?_
    rw [decT (by rw [hb, eflex, una_eq])]
    exact h _ _ H.rel
  cases q : FX with
  | true =>
    rw [if_pos rfl]
    exact BoolOp_one (nm H hun8 (fin _ _ _ H (by rw [q]; rfl)))
  | false =>
    rw [if_neg Bool.false_ne_true]
    exact fin _ _ _ H (by rw [q]; rfl)
end
end Mine
end

section
open PySem PySem.W PySem.Calls PyProof.Rows
set_option maxRecDepth 100000
namespace Mine
theorem fillK26 (P : Params) : hd.heap_39 P = hd.heap_39 P → PySem.Challenge.rw_bn0044_01 = PySem.Challenge.rw_bn0044_01 := by
  k_fill
  exact fun _ => rfl

theorem filterMap_if {β : Type} (c : β → Bool) : ∀ l : List β, (l.filterMap fun p => if c p = true then some p else none) = l.filter c
  | [] => rfl
  | a :: l => by
    rw [List.filterMap_cons, List.filter_cons]
    by_cases h : c a = true
    · rw [if_pos h, if_pos h, filterMap_if c l]
    · rw [if_neg h, if_neg h, filterMap_if c l]

section
variable {prog : Program} {w : World} {mg mb : Str → Option Value} {A : Around} {E : Value → Shared → Prop} {s s' : Shared} {F : Fx} {g g' : Heap} {led : Led} {m : Str → Option Value} {env : Env}

/-- [row for row in .. if tst] -/
theorem rowsV {tst iter : PySem.Expr} {scope : Scope} {pos p1 p2 : Pos} {cl : List (Str × Addr)} {Q : Value → Shared → Prop} {I : Addr} {St : List Row2 → Obj → Prop} {ps : List Row2} (c : Row2 → Bool)
    (S : Src prog w g (LRow g) I St) (hh : A.handled = none) (H0 : In F g ((I, St ps) :: led) m s) (hz : ps.length ≤ 1000)
    (htest : ∀ F' p rest out acc g2 m2 s2 v, p ∈ ps → Sub g g2 → LRow g2 v p → In F' g2 ((I, St rest) :: (acc, LP out) :: led) m2 s2 → m2 "row" = some v →
      wpAny (model prog w) A (isTrue tst (compEnvC scope cl (Fx.L F') env) (eval tst (compEnvC scope cl (Fx.L F') env))) (fun b s3 => b = c p ∧ ∃ g3, Sub g2 g3 ∧ In F' g3 ((I, St rest) :: (acc, LP out) :: led) m2 s3) no s2)
    (fin : ∀ v g' s', Sub g g' → Lst LRow g' v (ps.filter c) → In F g' led m s' → Q v s')
    (hcell : ∀ y ∈ scope.names, y.2 ≠ .cell := by decide) (hkind : scope.kind = .function := by rfl) (hk : ∀ L, (compEnvC scope cl L env).scope.kind = .function := by intro _; rfl) (hl : ∀ L, (compEnvC scope cl L env).kindOf "row" = some .local := by intro _; kernel_rfl) :
    wpAny (model prog w) A (newList []) (fun acc s₃ => wpAny (model prog w) A (newFunctionEnv scope env.globals cl [] env.qual none .none (some env)) (fun cenv s₄ =>
      codeAny (model prog w) A (.compStart (.ListComp (.Name "row" p1) [⟨.Name "row" p2, iter, [tst], 0⟩] scope pos) 0 (.ref I) acc { cenv with scope := relabel scope env }) (compPost (model prog w) A E none Q acc cenv.locals) s₄) E s₃) E s := by
  refine lcV (JSel ps g led LRow (fun p o => o = if c p = true then some p else none)) S hh (.refl _) H0 .init hz ?_ ?_ hcell hkind
  · intro F' p rest out acc g2 led2 m2 s v hg hR H J
    have e := J.1
    subst e
    have hR2 := LRow.mono' _ _ _ _ hg hR
    refine asN H (fun s H => tests1 (wpAny_mono (htest F' p rest out acc g2 _ s v J.mem hg hR2 H (if_pos rfl)) (fun b s3 h3 => ?_) fun _ _ q => q)) rfl (hk _) (hl _)
    obtain ⟨rfl, g3, hs3, H⟩ := h3
    by_cases q : c p = true
    · rw [if_pos q]
      exact nm H (if_pos rfl) ⟨g3, _, _, hg.trans hs3, H, J.step LRow.mono' hs3 (LRow.mono' _ _ _ _ hs3 hR2) (by rw [if_pos q])⟩ rfl (hk _) (hl _)
    · rw [if_neg q]
      exact ⟨g3, _, _, hg.trans hs3, H, J.pass LRow.mono' hs3 (by rw [if_neg q])⟩
  · intro l out g3 g4 led4 s hg3 hg4 hl2 J H
    obtain ⟨rfl, S4, ha⟩ := J.fin LRow.mono' hg4
    rw [filterMap_if] at ha
    exact fin (.ref l) g4 s S4 ⟨l, out, rfl, hl2, ha⟩ H

/-- x = [row for row in .. if tst] -/
theorem rowsU {tst iter : PySem.Expr} {scope : Scope} {pos p1 p2 py : Pos} {y : Str} {cl : List (Str × Addr)} {Q : Value → Shared → Prop} {I : Addr} {St : List Row2 → Obj → Prop} {ps : List Row2} (c : Row2 → Bool)
    (S : Src prog w g (LRow g) I St) (hh : A.handled = none) (H0 : In F g ((I, St ps) :: led) m s) (hz : ps.length ≤ 1000)
    (htest : ∀ F' p rest out acc g2 m2 s2 v, p ∈ ps → Sub g g2 → LRow g2 v p → In F' g2 ((I, St rest) :: (acc, LP out) :: led) m2 s2 → m2 "row" = some v →
      wpAny (model prog w) A (isTrue tst (compEnvC scope cl (Fx.L F') env) (eval tst (compEnvC scope cl (Fx.L F') env))) (fun b s3 => b = c p ∧ ∃ g3, Sub g2 g3 ∧ In F' g3 ((I, St rest) :: (acc, LP out) :: led) m2 s3) no s2)
    (fin : ∀ v g' m' s', Sub g g' → Lst LRow g' v (ps.filter c) → m' y = some v → (∀ z, z ≠ y → m' z = m z) → In F g' led m' s' → Q .none s')
    (hcell : ∀ y ∈ scope.names, y.2 ≠ .cell := by decide) (hkind : scope.kind = .function := by rfl) (hk : ∀ L, (compEnvC scope cl L env).scope.kind = .function := by intro _; rfl) (hl : ∀ L, (compEnvC scope cl L env).kindOf "row" = some .local := by intro _; kernel_rfl)
    (hL : env.locals = F.L := by rfl) (hk2 : env.scope.kind = .function := by rfl) (hl2 : env.kindOf y = some .local := by kernel_rfl) :
    wpAny (model prog w) A (newList []) (fun acc s₃ => wpAny (model prog w) A (newFunctionEnv scope env.globals cl [] env.qual none .none (some env)) (fun cenv s₄ =>
      codeAny (model prog w) A (.compStart (.ListComp (.Name "row" p1) [⟨.Name "row" p2, iter, [tst], 0⟩] scope pos) 0 (.ref I) acc { cenv with scope := relabel scope env }) (compPost (model prog w) A E (some (assign (.Name y py) env)) Q acc cenv.locals) s₄) E s₃) E s := by
  refine lcU (JSel ps g led LRow (fun p o => o = if c p = true then some p else none)) S hh (.refl _) H0 .init hz ?_ ?_ hcell hkind hL hk2 hl2
  · intro F' p rest out acc g2 led2 m2 s v hg hR H J
    have e := J.1
    subst e
    have hR2 := LRow.mono' _ _ _ _ hg hR
    refine asN H (fun s H => tests1 (wpAny_mono (htest F' p rest out acc g2 _ s v J.mem hg hR2 H (if_pos rfl)) (fun b s3 h3 => ?_) fun _ _ q => q)) rfl (hk _) (hl _)
    obtain ⟨rfl, g3, hs3, H⟩ := h3
    by_cases q : c p = true
    · rw [if_pos q]
      exact nm H (if_pos rfl) ⟨g3, _, _, hg.trans hs3, H, J.step LRow.mono' hs3 (LRow.mono' _ _ _ _ hs3 hR2) (by rw [if_pos q])⟩ rfl (hk _) (hl _)
    · rw [if_neg q]
      exact ⟨g3, _, _, hg.trans hs3, H, J.pass LRow.mono' hs3 (by rw [if_neg q])⟩
  · intro l out g3 g4 led4 s hg3 hg4 hl2 J H
    obtain ⟨rfl, S4, ha⟩ := J.fin LRow.mono' hg4
    rw [filterMap_if] at ha
    exact fin (.ref l) g4 _ s S4 ⟨l, out, rfl, hl2, ha⟩ (if_pos rfl) (fun z hz => if_neg hz) H

/-- xs[:1] of a list -/
theorem slice1 {β : Type} {R : Heap → Value → β → Prop} {value : PySem.Expr} {p p2 : Pos} {kk : Nat} {l : Addr} {xs : List β} {Q : Value → Shared → Prop} (hm : ∀ g g' v b, Sub g g' → R g v b → R g' v b) (H : In F g led m s) (hl : Lst R g (.ref l) xs) (hz : xs.length ≤ 1000)
    (h : ∀ v g' s', Sub g g' → Lst R g' v (xs.take 1) → In F g' led m s' → Q v s')
    (hs : ∀ i, subscripted (.Slice none (some (.Constant (.int 1) kk p2)) none p) false (.ref l) (.ref i) = operate [.ref i, .ref l] (getItem (.ref l) (.ref i)) := by intro _; with_unfolding_all rfl) :
    wpAny (model prog w) A (eval (.Slice none (some (.Constant (.int 1) kk p2)) none p) env) (fun i s₂ => wpAny (model prog w) A (subscriptTail value (.Slice none (some (.Constant (.int 1) kk p2)) none p) (.ref l) i) Q E s₂) E s := by
  refine wpAny_Slice (wpAny_pure ?_)
  show wpAny _ _ (eval (.Constant (.int 1) kk p2) env) _ _ _
  refine cst_i H fun u s H => wpAny_pure ?_
  obtain ⟨_, vs, e, hl, ha⟩ := hl
  cases e
  have hl' := isList_mono hl H.into
  have H1 := (H.new { cls := .type "slice", data := .fields #[.none, .int 1 u, .none] } rfl (fun _ => True) trivial).drop
  refine kba_turn (value' := nmX) (fun _ => rfl) (subscriptTail_ops (Heap.IsList.typeIs (hl'.push _)) list_getitem_lookup (wpAny_getItem_list_slice (hl'.push _) (Heap.IsSliceOf.new ..) .none (.int _ _) .none (by simp) ?_ (by rw [List.size_toArray, ha.length, sizeLine_eq]; omega)) (hs _) (fun _ => rfl))
  rw [show (1 : Int) = ((1 : Nat) : Int) from rfl, slicePick_upto']
  have H2 := H1.new { cls := .type "list", data := .seq (vs.take 1).toArray } rfl (SQ (vs.take 1)) ⟨0, rfl⟩
  obtain ⟨o, g', hP, e3, hs', H3⟩ := H2.freeze (H1.was (Nat.le_refl _))
  exact h _ g' _ hs' ⟨_, vs.take 1, rfl, hP.is e3, (All2.take 1 ha).1.imp fun _ _ => hm _ _ _ _ hs'⟩ H3

theorem g_law_rows (P : Params) : nsIn (hd.heap_39 P) mainGlobals "_law_rows" = some (some (.ref 376)) := by kernel_rfl
theorem kp376 (P : Params) : keepIn (hd.heap_39 P) (.ref 376) = true := by kernel_rfl
theorem g_law_item (P : Params) : nsIn (hd.heap_39 P) mainGlobals "_law_item" = some (some (.ref 364)) := by kernel_rfl
theorem kp364 (P : Params) : keepIn (hd.heap_39 P) (.ref 364) = true := by kernel_rfl
theorem named_its {i : It} (h : i ∈ itsL) : namedI i := by
  have : itsL.all (fun i => decide (0 < i.n.length) && decide (i.n.length ≤ 1000)) = true := by decide +kernel
  have := List.all_eq_true.mp this i h
  simp only [Bool.and_eq_true, decide_eq_true_eq] at this
  exact this
theorem cats_isN {i : It} (h : i ∈ catsL) : i ∈ isN := by
  simp only [catsL, isN, List.mem_cons, List.not_mem_nil, or_false] at h ⊢
  rcases h with h | h | h | h <;> simp [h]

theorem empNodup {ps : List Row2} (h : ps.Nodup) : ((ps.filter fun r => decide (r.2 = [])).map (·.1)).Nodup := by
  rw [List.nodup_iff_pairwise_ne, List.pairwise_map]
  refine List.Pairwise.imp_of_mem (fun {a b} ha hb hne e => hne (Prod.ext e ?_)) (h.filter (fun r => decide (r.2 = [])))
  have ha := (List.mem_filter.mp ha).2
  have hb := (List.mem_filter.mp hb).2
  simp only [decide_eq_true_eq] at ha hb
  rw [ha, hb]
theorem okCan {is : List It} : ∀ x ∈ (canon is).map (fun i => ((i, []) : Row2)), okR x := fun x hx => by
  obtain ⟨i, hi, rfl⟩ := List.mem_map.mp hx
  refine ⟨?_, fun _ h => nomatch h⟩
  unfold canon at hi
  have hi := (List.mem_filter.mp hi).1
  have : isNs.all (fun i => PyData.strOk i.n) = true := by decide +kernel
  exact List.all_eq_true.mp this i hi
theorem dcd {p q : Prop} {i : Decidable p} {j : Decidable q} (h : p ↔ q) : @decide p i = @decide q j := decide_eq_decide.mpr h

set_option maxHeartbeats 2000000 in
/-- _law_chosen(grammar, rows, tape) -/
theorem chosen_spec {s0 : Shared} {env0 : Env} {L0 : Addr} {o0 : Obj} {x T c : Addr} {f : Str → Option Value} {rv : Value} {ps : List Row2} {Q : Value → Shared → Prop} (hfr : A.frames = some [env0]) (hf0 : env0.frame = some L0) (hkm : env0.scope.kind ≠ .module)
    (r : Room A 8 130) (k : KB w mg mb g) (hs : Sub g s0.heap) (hI : Inst g x 334 f) (hG : Gram prog w g f ps) (hr : Lst LRow g rv ps) (hC : Case ps) (hc : CellsAt g c)
    (hT : ∃ o, s0.heap.get? T = some o ∧ TapeP c o) (hn : g.get? T = none) (hL0 : ∃ o, s0.heap.get? L0 = some o ∧ FrP o0 o) (hnL : g.get? L0 = none) (hTL : T ≠ L0)
    (h : ∀ s' g', Rel [T, L0] s0 g s' g' → (∃ o, s'.heap.get? T = some o ∧ TapeP c o) → (∃ o, s'.heap.get? L0 = some o ∧ FrP o0 o) → Q (.bool true) s') : wpAny (model prog w) A (call (.ref 398) [.ref x, rv, .ref T]) Q E s0 := by
  obtain ⟨rl, rvs, rfl, hrl, hra⟩ := hr
  refine enterC [("grammar", .ref x), ("rows", .ref rl), ("tape", .ref T)] (led := [(T, TapeP c), (L0, FrP o0)]) k hs r.lt (fun p hp => ?_) (by simp [hTL]) (fun L s H => ?_)
  · simp only [List.mem_cons, List.not_mem_nil, or_false] at hp
    rcases hp with rfl | rfl
    · exact ⟨hT, hn⟩
    · exact ⟨hL0, hnL⟩
  refine wpAny_noRaise ?_
  have H := H.cast (led' := [(L + 1 + 1, CP none), (L + 1, CP none), (T, TapeP c), (L0, FrP o0)]) (by kernel_rfl)
  have rr : ∀ e, Room (A.deeper e) 7 127 := fun e => r.deeper
  have okp := hC.ok
  have h6 := hC.six
  have hz2 : ∀ p ∈ ps, p.2.length ≤ 1000 := fun p hp => Nat.le_trans (hC.three p hp) (by decide)
  refine ex_set ?_
  refine List_ ?_
  refine aC ?_
  refine tup0 (by exact H) ?_
  intro v1 g1 s hs1 h1 H
  refine aC ?_
  refine tup0 (by exact H) ?_
  intro v2 g2 s hs2 h2 H
  refine aC ?_
  refine tup0 (by exact H) ?_
  intro v3 g3 s hs3 h3 H
  refine a1 ?_
  refine tup0 (by exact H) ?_
  intro v4 g4 s hs4 h4 H
  have S34 := hs4
  have S24 := hs3.trans S34
  have S14 := hs2.trans S24
  have S04 := hs1.trans S14
  refine listL (R := LIt) (by exact H) catsL (.cons (h1.mono S14) (.cons (h2.mono S24) (.cons (h3.mono S34) (.cons h4 .nil)))) (by simp) ?_
  intro v g5 s hs5 hv H
  have hcv := hv LIt.mono'
  obtain ⟨ccl, _, rfl, _⟩ := id hcv
  refine stG (by exact H) ?_
  intro m1 s hm1 hm1' H
  refine ex_set ?_
  refine wpAny_BinOp ?_
  refine nm (by exact H) hm1 ?_
  refine List_ ?_
  refine aC ?_
  refine tup1 (by exact H) ?_
  intro va ga s hsa hfa H
  refine a1 ?_
  refine tup1 (by exact H) ?_
  intro vb gb s hsb hfb H
  refine listL (R := LIt) (by exact H) [itW "x", itW "y"] (.cons (hfa.mono hsb) (.cons hfb .nil)) (by simp) ?_
  intro v gc s hsc hv H
  have hv := hv LIt.mono'
  obtain ⟨l2, _, rfl, _⟩ := id hv
  refine addLL LIt.mono' H (hcv.mono LIt.mono' (hsa.trans (hsb.trans hsc))) hv (by decide) fun fv gd s hsd hfv H => ?_
  have S5d := (hsa.trans (hsb.trans hsc)).trans hsd
  have S0d := (S04.trans hs5).trans S5d
  have hcv := hcv.mono LIt.mono' S5d
  have hfv : Lst LIt gd fv itsL := hfv
  obtain ⟨fl, _, rfl, _⟩ := id hfv
  refine stG H fun m2 s hm2 hm2' H => ?_
  have hgr : m2 "grammar" = some (.ref x) := (hm2' _ (by decide)).trans ((hm1' _ (by decide)).trans rfl)
  have hro : m2 "rows" = some (.ref rl) := (hm2' _ (by decide)).trans ((hm1' _ (by decide)).trans rfl)
  have hta : m2 "tape" = some (.ref T) := (hm2' _ (by decide)).trans ((hm1' _ (by decide)).trans rfl)
  have hca : m2 "cats" = some (.ref ccl) := (hm2' _ (by decide)).trans hm1
  have hfi : m2 "firsts" = some (.ref fl) := hm2
  have kd := k.mono S0d
  have hId := hI.mono S0d
  have hGd := hG.mono S0d
  have hrd : Lst LRow gd (.ref rl) ps := ⟨rl, rvs, rfl, isList_mono hrl S0d, hra.imp fun _ _ => LRow.mono' _ _ _ _ S0d⟩
  have hcd := hc.mono S0d
  clear hm1 hm1' hm2 hm2'
  -- the productions are the rows
  refine ex_if (tcmp1 (Call_ (nmG H kd (g_law_rows _) (callW (kp376 _) (a1 (MethodCall_ (nm H hgr (meth H kd (c334 _) hId (M_productions _) (hG.no _ (by decide)) (callW0 (H.K kd) (M_productions _).k ?_)))))))))
  refine prod0 ((rr _).le (by decide) (by decide)) kd H.into hId hGd.ix fun v s ge Re hv => ?_
  have H := H.call0 Re
  have ke := kd.mono Re.sub
  refine ⟨H.K ke, lrows_spec ((rr _).le (by decide) (by decide)) ke H.into hv (by omega) hz2 fun v2 s gf Rf hv2 => ?_⟩
  have H := H.call0 Rf
  have Sdf := Re.sub.trans Rf.sub
  have kf := kd.mono Sdf
  refine nm H hro (dRow'.lst.ne ((rr _).u (by decide)) H hv2 (hrd.mono LRow.mono' Sdf) okp okp (tr_b ?_))
  rw [decT rfl, Bool.not_true, if_neg Bool.false_ne_true]
  refine ex_nil ?_
  -- the empty ones
  refine ex_if (tcmp1 (Call_ (nmB H kf g_sorted (e := n_sorted _) (callB (a1 (Call_ (nmG H kf (g_law_rows _) (callW (kp376 _) (a1 (methodCall_KW (nm H hgr (meth H kf (c334 _) (hId.mono Sdf) (M_productions _) (hG.no _ (by decide)) (callWith_KW0 (H.K kf) (M_productions _).k rfl (kwAll_cons (cst_b (kwAll_nil ⟨H.K kf, ?_⟩))))))))))))))))
  refine prodE ((rr _).le (by decide) (by decide)) kf H.into (hId.mono Sdf) (hGd.mono Sdf).ix (by omega) fun v s gg Rg hv => ?_
  have H := H.call0 Rg
  have kg := kf.mono Rg.sub
  have hle : (ps.filter fun r => decide (r.2 = [])).length ≤ 6 := Nat.le_trans (List.length_filter_le _ _) h6
  have hmf : ∀ p ∈ (ps.filter fun r => decide (r.2 = [])), p ∈ ps ∧ p.2 = [] := fun p hp => ⟨(List.mem_filter.mp hp).1, by simpa using (List.mem_filter.mp hp).2⟩
  refine ⟨H.K kg, lrows_spec ((rr _).le (by decide) (by decide)) kg H.into hv (by omega) (fun p hp => hz2 p (hmf p hp).1) fun v2 s gh Rh hv2 => ?_⟩
  have H := H.call0 Rh
  have kh := kg.mono Rh.sub
  obtain ⟨l7, vs7, rfl, hl7, ha7⟩ := hv2
  have hNe : ∀ p ∈ (ps.filter fun r => decide (r.2 = [])), p.1 ∈ isN := fun p hp => cats_isN (hC.lhs p (hmf p hp).1)
  have h4e : (ps.filter fun r => decide (r.2 = [])).length ≤ 4 := by
    have := nodup_le (U := catsL) (empNodup hC.nd) fun i hi => by
      obtain ⟨p, hp, rfl⟩ := List.mem_map.mp hi
      exact hC.lhs p (hmf p hp).1
    rw [List.length_map] at this; exact this
  refine sortedR ((rr _).u (by decide)) H hl7 ha7 hNe (empNodup hC.nd) h4e (fun p hp => (hmf p hp).2) fun v3 gi s hsi hv3 H => ?_
  have Sdi := Sdf.trans ((Rg.sub.trans Rh.sub).trans hsi)
  have ki := kd.mono Sdi
  obtain ⟨_, rvs2, e, hrl2, hra2⟩ := hrd.mono LRow.mono' Sdi
  cases e
  refine Call_ (nmB H ki g_sorted (e := n_sorted _) (callB (a1 (lcE (cl := []) rfl (nm H hro (itListA H hrl2 hra2 fun I St s S H => ?_))))))
  refine rowsV (fun r => decide (r.2 = [])) S r.hh H (by omega) ?_ ?_
  · intro F' p rest out acc gj m3 s3 v hp hg hR H hm
    obtain ⟨a, lv, rv, rfl, ht, hl, hr⟩ := hR
    refine tcmp1 (Subscript_ (nm H hm (cst_i H fun t s H => ix1 H ht (nilL (R := LIt) H fun ev g3 s hs3 hev H => dIt'.lst.eq ((rr _).u (by decide)) H (hr.mono LIt.mono' hs3) hev (okp p hp).2 (fun _ h => nomatch h) (tr_b ⟨dcd Iff.rfl, g3, hs3, H⟩)))))
  intro v gj s hsj hv H
  obtain ⟨l8, vs8, rfl, hl8, ha8⟩ := hv
  refine sortedR ((rr _).u (by decide)) H hl8 ha8 hNe (empNodup hC.nd) h4e (fun p hp => (hmf p hp).2) fun v9 gk s hsk hv9 H => ?_
  refine dRow'.lst.ne ((rr _).u (by decide)) H (hv3.mono LRow.mono' (hsj.trans hsk)) hv9 okCan okCan (tr_b ?_)
  rw [decT rfl, Bool.not_true, if_neg Bool.false_ne_true]
  refine ex_nil ?_
  have Sdk := Sdi.trans (hsj.trans hsk)
  -- by symbol
  obtain ⟨_, cvs, e, hccl, hcca⟩ := hcv.mono LIt.mono' Sdk
  cases e
  have hcca2 : All2 (fun v i => LIt gk v i ∧ i ∈ catsL) cvs catsL := hcca.andR fun i hi => hi
  refine ex_for (nm H hca (itListA H hccl hcca2 fun I St s S H => ?_))
  refine forL (fun rest g led m => ∃ cv iv, led = [(L + 1 + 1, CP iv), (L + 1, CP cv), (T, TapeP c), (L0, FrP o0)] ∧ m = m2) S r.hh (.refl _) H ⟨none, none, rfl, rfl⟩ ?_ ?_
  · rintro ct rest gb ledb m s v hgb ⟨hlt0, hmem⟩ H ⟨cv0, iv0, rfl, hmm⟩
    rw [hmm] at H
    have hlt := hlt0.mono hgb
    have Sdb := Sdk.trans hgb
    have kb := kd.mono Sdb
    have hnam := named_its (cats_its hmem)
    have oct := okS_its (cats_its hmem)
    refine wpAny_assign_Name (stC (pre := [(I, St rest), (L + 1 + 1, CP iv0)]) H fun s H => ?_)
    refine ex_if (tcmp1 (Call_ (nmG H kb (g_law_rows _) (callW (kp376 _) (a1 (methodCall_KW (nm H hgr (meth H kb (c334 _) (hId.mono Sdb) (M_productions _) (hG.no _ (by decide)) (callWith_KW0 (H.K kb) (M_productions _).k rfl (kwAll_cons (Call_ (nmG H kb (g_law_item _) (callW (kp364 _) (a1 (nmCl (pre := [(I, St rest), (L + 1 + 1, CP iv0)]) H ⟨H.K kb, ?_⟩)))))))))))))))
    refine litem_spec ((rr _).le (by decide) (by decide)) kb H.into hlt fun iv s g1 R1 hiv => ?_
    have H := H.call0 R1
    have k1 := kb.mono R1.sub
    have Sd1 := Sdb.trans R1.sub
    refine kwAll_nil ⟨H.K k1, ?_⟩
    refine prodL ((rr _).le (by decide) (by decide)) k1 H.into (hId.mono Sd1) (hGd.mono Sd1).ix hiv hnam fun v s g2 R2 hv => ?_
    have H := H.call0 R2
    have k2 := k1.mono R2.sub
    refine ⟨H.K k2, lrows_spec ((rr _).le (by decide) (by decide)) k2 H.into hv (Nat.le_trans (List.length_filter_le _ _) (by omega)) (fun p hp => hz2 p (List.mem_filter.mp hp).1) fun v2 s g3 R3 hv2 => ?_⟩
    have H := H.call0 R3
    have k3 := k2.mono R3.sub
    have Sd3 := Sd1.trans (R2.sub.trans R3.sub)
    have hlt3 := hlt.mono (R1.sub.trans (R2.sub.trans R3.sub))
    obtain ⟨_, rvs3, e, hrl3, hra3⟩ := hrd.mono LRow.mono' Sd3
    cases e
    refine lcE (cl := [("cat", L + 1)]) rfl (nm H hro (itListA H hrl3 hra3 fun I2 St2 s S2 H => ?_))
    refine rowsV (fun r => decide (r.1 = ct)) S2 r.hh H (by omega) ?_ ?_
    · intro F' p rest2 out acc gj m3 s3 v' hp hg hR H hm
      obtain ⟨a, lv, rv, rfl, ht, hl, hr⟩ := hR
      exact tcmp1 (Subscript_ (nm H hm (cst_i H fun t s H => ix0 H ht (nmCl (pre := [(I2, St2 rest2), (acc, LP out), (I, St rest), (L + 1 + 1, CP iv0)]) H (dIt'.eq ((rr _).u (by decide)) H hl (hlt3.mono hg) (okp p hp).1 oct (tr_b ⟨dcd Iff.rfl, gj, .refl _, H⟩))))))
    intro v3 g4 s hs4 hv3 H
    refine dRow'.lst.ne ((rr _).u (by decide)) H (hv2.mono LRow.mono' hs4) hv3 (fun p hp => okp p (List.mem_filter.mp hp).1) (fun p hp => okp p (List.mem_filter.mp hp).1) (tr_b ?_)
    rw [decT rfl, Bool.not_true, if_neg Bool.false_ne_true]
    refine ex_nil ?_
    have k4 := k3.mono hs4
    have Sd4 := Sd3.trans hs4
    have hlt4 := hlt3.mono hs4
    -- and empty
    refine ex_if (tcmp1 (Call_ (nmG H k4 (g_law_rows _) (callW (kp376 _) (a1 (methodCall_KW (nm H hgr (meth H k4 (c334 _) (hId.mono Sd4) (M_productions _) (hG.no _ (by decide)) (callWith_KW0 (H.K k4) (M_productions _).k rfl (kwAll_cons (Call_ (nmG H k4 (g_law_item _) (callW (kp364 _) (a1 (nmCl (pre := [(I, St rest), (L + 1 + 1, CP iv0)]) H ⟨H.K k4, ?_⟩)))))))))))))))
    refine litem_spec ((rr _).le (by decide) (by decide)) k4 H.into hlt4 fun iv s g5 R5 hiv => ?_
    have H := H.call0 R5
    have k5 := k4.mono R5.sub
    have Sd5 := Sd4.trans R5.sub
    refine kwAll_cons (cst_b (kwAll_nil ⟨H.K k5, ?_⟩))
    refine prodLE ((rr _).le (by decide) (by decide)) k5 H.into (hId.mono Sd5) (hGd.mono Sd5).ix hiv hnam hC.nd fun v s g6 R6 hv => ?_
    have H := H.call0 R6
    have k6 := k5.mono R6.sub
    refine ⟨H.K k6, lrows_spec ((rr _).le (by decide) (by decide)) k6 H.into hv (Nat.le_trans (List.length_filter_le _ _) (by omega)) (fun p hp => hz2 p (List.mem_filter.mp hp).1) fun v2 s g7 R7 hv2 => ?_⟩
    have H := H.call0 R7
    have k7 := k6.mono R7.sub
    have Sd7 := Sd5.trans (R6.sub.trans R7.sub)
    have hlt7 := hlt4.mono (R5.sub.trans (R6.sub.trans R7.sub))
    obtain ⟨_, rvs7, e, hrl7, hra7⟩ := hrd.mono LRow.mono' Sd7
    cases e
    refine lcE (cl := [("cat", L + 1)]) rfl (nm H hro (itListA H hrl7 hra7 fun I2 St2 s S2 H => ?_))
    refine rowsV (fun r => decide (r = (ct, []))) S2 r.hh H (by omega) ?_ ?_
    · intro F' p rest2 out acc gj m3 s3 v' hp hg hR H hm
      refine tcmp1 (nm H hm (tup (aC (nmCl (pre := [(I2, St2 rest2), (acc, LP out), (I, St rest), (L + 1 + 1, CP iv0)]) H (a1 (nilL (R := LIt) H fun ev g8 s hs8 hev H => newT H fun a g9 s hs9 ht H => ?_))))))
      refine dRow'.eq (b := (ct, [])) ((rr _).u (by decide)) H (LRow.mono' _ _ _ _ (hs8.trans hs9) hR) ⟨a, _, _, rfl, ht, hlt7.mono (hg.trans (hs8.trans hs9)), hev.mono LIt.mono' hs9⟩ (okp p hp) ⟨oct, fun _ h => nomatch h⟩ (tr_b ⟨dcd Iff.rfl, g9, hs8.trans hs9, H⟩)
    intro v3 g8 s hs8 hv3 H
    refine dRow'.lst.ne ((rr _).u (by decide)) H (hv2.mono LRow.mono' hs8) hv3 (fun p hp => okp p (List.mem_filter.mp hp).1) (fun p hp => okp p (List.mem_filter.mp hp).1) (tr_b ?_)
    rw [decT rfl, Bool.not_true, if_neg Bool.false_ne_true]
    refine ex_nil (ex_nil ⟨g8, _, _, hgb.trans (R1.sub.trans (R2.sub.trans (R3.sub.trans (hs4.trans (R5.sub.trans (R6.sub.trans (R7.sub.trans hs8))))))), H, _, _, rfl, rfl⟩)
  rintro gb ledb m s hgb H ⟨cv0, iv0, rfl, hmm⟩
  rw [hmm] at H
  clear hmm
  have Sdb := Sdk.trans hgb
  -- by first item
  obtain ⟨_, fvs, e, hffl, hffa⟩ := hfv.mono LIt.mono' Sdb
  cases e
  have hffa2 : All2 (fun v i => LIt gb v i ∧ i ∈ itsL) fvs itsL := hffa.andR fun i hi => hi
  refine ex_for (nm H hfi (itListA H hffl hffa2 fun I St s S H => ?_))
  refine forL (fun rest g led m => ∃ cv iv, led = [(L + 1 + 1, CP iv), (L + 1, CP cv), (T, TapeP c), (L0, FrP o0)] ∧ ∀ z, z ≠ Str.ofString "due" → m z = m2 z) S r.hh (.refl _) H ⟨cv0, iv0, rfl, fun _ _ => rfl⟩ ?_ ?_
  · rintro it rest gb2 ledb m s itv hgb2 ⟨hlt0, hmem⟩ H ⟨cv0, iv0, rfl, hmm⟩
    have hlt := hlt0.mono hgb2
    have Sd0 := Sdb.trans hgb2
    have k0 := kd.mono Sd0
    have hnam := named_its hmem
    have oit := okS_its hmem
    refine wpAny_assign_Name (stC (pre := [(I, St rest)]) H fun s H => ?_)
    obtain ⟨_, rvs0, e, hrl0, hra0⟩ := hrd.mono LRow.mono' Sd0
    cases e
    refine ex_setC (cl := [("item", L + 1 + 1)]) rfl (nm H ((hmm _ (by decide)).trans hro) (itListA H hrl0 hra0 fun I2 St2 s S2 H => ?_))
    refine rowsU (fun r => decide (r.2.head? = some it)) S2 r.hh H (by omega) ?_ ?_
    · intro F' p rest2 out acc gj m3 s3 v' hp hg hR H hm
      obtain ⟨a, lv, rv, rfl, ht, hl, hr⟩ := hR
      obtain ⟨rrl, _, rfl, _⟩ := id hr
      have hpz := hz2 p hp
      refine tcmp1 (Subscript_ (Subscript_ (nm H hm (cst_i H fun t s H => ix1 H ht (slice1 LIt.mono' H hr (by omega) fun v9 g3 s hs3 hv9 H => ?_)))))
      refine List_ (a1 (nmCl (pre := [(I2, St2 rest2), (acc, LP out), (I, St rest)]) H ?_))
      refine listL (R := LIt) H [it] (.cons (hlt.mono (hg.trans hs3)) .nil) (by simp) fun v8 g4 s hs4 hv8 H => ?_
      refine dIt'.lst.eq ((rr _).u (by decide)) H (hv9.mono LIt.mono' hs4) (hv8 LIt.mono') (fun i hi => (okp p hp).2 i (List.mem_of_mem_take hi)) (fun i hi => by cases List.mem_singleton.mp hi; exact oit) (tr_b ⟨dcd ?_, g4, hs3.trans hs4, H⟩)
      cases p.2 with
      | nil => simp
      | cons a l => simp
    intro dv g1 m1' s hs1 hdv hdue hoth H
    have Sd1 := Sd0.trans hs1
    have k1 := k0.mono hs1
    have hlt1 := hlt.mono hs1
    have hold : ∀ z, z ≠ Str.ofString "due" → m1' z = m2 z := fun z hz => (hoth z hz).trans (hmm z hz)
    have hgr1 : m1' "grammar" = some (.ref x) := (hold _ (by decide)).trans hgr
    -- rhs
    refine ex_if (tcmp1 (Call_ (nmG H k1 (g_law_rows _) (callW (kp376 _) (a1 (methodCall_KW (nm H hgr1 (meth H k1 (c334 _) (hId.mono Sd1) (M_productions _) (hG.no _ (by decide)) (callWith_KW0 (H.K k1) (M_productions _).k rfl (kwAll_cons (Call_ (nmG H k1 (g_law_item _) (callW (kp364 _) (a1 (nmCl (pre := [(I, St rest)]) H ⟨H.K k1, ?_⟩)))))))))))))))
    refine litem_spec ((rr _).le (by decide) (by decide)) k1 H.into hlt1 fun iv s g5 R5 hiv => ?_
    have H := H.call0 R5
    have k5 := k1.mono R5.sub
    have Sd5 := Sd1.trans R5.sub
    refine kwAll_nil ⟨H.K k5, ?_⟩
    refine prodR ((rr _).le (by decide) (by decide)) k5 H.into (hId.mono Sd5) (hGd.mono Sd5).ix hiv hnam fun v s g6 R6 hv => ?_
    have H := H.call0 R6
    have k6 := k5.mono R6.sub
    refine ⟨H.K k6, lrows_spec ((rr _).le (by decide) (by decide)) k6 H.into hv (Nat.le_trans (List.length_filter_le _ _) (by omega)) (fun p hp => hz2 p (List.mem_filter.mp hp).1) fun v2 s g7 R7 hv2 => ?_⟩
    have H := H.call0 R7
    have k7 := k6.mono R7.sub
    have S17 := R5.sub.trans (R6.sub.trans R7.sub)
    have Sd7 := Sd1.trans S17
    refine nm H hdue (dRow'.lst.ne ((rr _).u (by decide)) H hv2 (hdv.mono LRow.mono' S17) (fun p hp => okp p (List.mem_filter.mp hp).1) (fun p hp => okp p (List.mem_filter.mp hp).1) (tr_b ?_))
    rw [decT rfl, Bool.not_true, if_neg Bool.false_ne_true]
    refine ex_nil ?_
    -- a symbol by the tape
    refine ex_set (Subscript_ (nm H ((hold _ (by decide)).trans hca) (Call_ (nmG H k7 (g_take _) (callW (kp357 _) (aC (nm H ((hold _ (by decide)).trans hta) (a1 (cst_i H fun t s H => ⟨H.K k7, ?_⟩)))))))))
    refine takeIn (pre := [(I, St rest), (L + 1 + 1, CP (some itv)), (L + 1, CP cv0)]) (M := 4) ((rr _).le (by decide) (by decide)) k7 H (hcd.mono Sd7) (by decide) fun n4 t g8 s hn4 hs8 H => ?_
    refine pickL (n := n4) H (hcv.mono LIt.mono' (Sd7.trans hs8)) (by show n4 < 4; omega) (by decide) fun cv hcl => ?_
    have hcm : catsL[n4]'(by show n4 < 4; omega) ∈ catsL := List.getElem_mem _
    generalize catsL[n4]'(by show n4 < 4; omega) = ct at hcl hcm
    refine stC (pre := [(I, St rest), (L + 1 + 1, CP (some itv))]) H fun s H => ?_
    have k8 := k7.mono hs8
    have S18 := S17.trans hs8
    have Sd8 := Sd7.trans hs8
    have hlt8 := hlt1.mono S18
    have hnc := named_its (cats_its hcm)
    have oct := okS_its (cats_its hcm)
    -- both
    refine ex_if (tcmp1 (Call_ (nmG H k8 (g_law_rows _) (callW (kp376 _) (a1 (methodCall_KW (nm H hgr1 (meth H k8 (c334 _) (hId.mono Sd8) (M_productions _) (hG.no _ (by decide)) (callWith_KW0 (H.K k8) (M_productions _).k rfl (kwAll_cons (Call_ (nmG H k8 (g_law_item _) (callW (kp364 _) (a1 (nmCl (pre := [(I, St rest), (L + 1 + 1, CP (some itv))]) H ⟨H.K k8, ?_⟩)))))))))))))))
    refine litem_spec ((rr _).le (by decide) (by decide)) k8 H.into hcl fun cv2 s g9 R9 hcv2 => ?_
    have H := H.call0 R9
    have k9 := k8.mono R9.sub
    refine kwAll_cons (Call_ (nmG H k9 (g_law_item _) (callW (kp364 _) (a1 (nmCl (pre := [(I, St rest)]) H ⟨H.K k9, ?_⟩)))))
    refine litem_spec ((rr _).le (by decide) (by decide)) k9 H.into (hlt8.mono R9.sub) fun iv2 s ga Ra hiv2 => ?_
    have H := H.call0 Ra
    have ka := k9.mono Ra.sub
    have Sda := Sd8.trans (R9.sub.trans Ra.sub)
    refine kwAll_nil ⟨H.K ka, ?_⟩
    refine prodLR ((rr _).le (by decide) (by decide)) ka H.into (hId.mono Sda) (hGd.mono Sda).ix (hcv2.mono Ra.sub) hnc hiv2 hnam (by omega) hz2 oit (fun p hp => (okp p hp).2) fun v s gb3 Rb hv => ?_
    have H := H.call0 Rb
    have kb3 := ka.mono Rb.sub
    refine ⟨H.K kb3, lrows_spec ((rr _).le (by decide) (by decide)) kb3 H.into hv (Nat.le_trans (List.length_filter_le _ _) (Nat.le_trans (List.length_filter_le _ _) (by omega))) (fun p hp => hz2 p (List.mem_filter.mp (List.mem_filter.mp hp).1).1) fun v2 s gc3 Rc hv2 => ?_⟩
    have H := H.call0 Rc
    have kc3 := kb3.mono Rc.sub
    have S8c := R9.sub.trans (Ra.sub.trans (Rb.sub.trans Rc.sub))
    have S1c := S18.trans S8c
    have hclc := hcl.mono S8c
    obtain ⟨dl, dvs, rfl, hdl, hda⟩ := hdv.mono LRow.mono' S1c
    refine lcE (cl := [("cat", L + 1)]) rfl (nm H hdue (itListA H hdl hda fun I2 St2 s S2 H => ?_))
    refine rowsV (fun r => decide (r.1 = ct)) S2 r.hh H (Nat.le_trans (List.length_filter_le _ _) (by omega)) ?_ ?_
    · intro F' p rest2 out acc gj m3 s3 v' hp hg hR H hm
      obtain ⟨a, lv, rv, rfl, ht, hl, hr⟩ := hR
      exact tcmp1 (Subscript_ (nm H hm (cst_i H fun t s H => ix0 H ht (nmCl (pre := [(I2, St2 rest2), (acc, LP out), (I, St rest), (L + 1 + 1, CP (some itv))]) H (dIt'.eq ((rr _).u (by decide)) H hl (hclc.mono hg) (okp p (List.mem_filter.mp hp).1).1 oct (tr_b ⟨dcd Iff.rfl, gj, .refl _, H⟩))))))
    intro v3 gd3 s hsd3 hv3 H
    refine dRow'.lst.ne ((rr _).u (by decide)) H (hv2.mono LRow.mono' hsd3) hv3 (fun p hp => okp p (List.mem_filter.mp (List.mem_filter.mp hp).1).1) (fun p hp => okp p (List.mem_filter.mp (List.mem_filter.mp hp).1).1) (tr_b ?_)
    rw [decT (by rw [List.filter_filter, List.filter_filter]; congr 1; funext p; exact Bool.and_comm _ _), Bool.not_true, if_neg Bool.false_ne_true]
    exact ex_nil (ex_nil ⟨gd3, _, _, hgb2.trans (hs1.trans (S1c.trans hsd3)), H, _, _, rfl, hold⟩)
  rintro gz ledb m s hgz H ⟨cv0, iv0, rfl, hmm⟩
  have Sdz := Sdb.trans hgz
  have kz := kd.mono Sdz
  -- refused
  refine wpAny_execs_cons (wpAny_Try_except ?_)
  refine ex_expr (methodCall_KW (nm H ((hmm _ (by decide)).trans hgr) (meth H kz (c334 _) (hId.mono Sdz) (M_productions _) (hG.no _ (by decide)) (callWith_KW0 (H.K kz) (M_productions _).k rfl (kwAll_cons (Call_ (nmG H kz (g_law_item _) (callW (kp364 _) (a1 (Subscript_ (nm H ((hmm _ (by decide)).trans hfi) (Call_ (nmG H kz (g_take _) (callW (kp357 _) (aC (nm H ((hmm _ (by decide)).trans hta) (a1 (cst_i H fun t s H => ⟨H.K kz, ?_⟩))))))))))))))))))
  refine takeIn (pre := [(L + 1 + 1, CP iv0), (L + 1, CP cv0)]) (M := 6) ((rr _).le (by decide) (by decide)) kz H (hcd.mono Sdz) (by decide) fun n6 t g1 s hn6 hs1 H => ?_
  have k1 := kz.mono hs1
  refine pickL (n := n6) H (hfv.mono LIt.mono' (Sdz.trans hs1)) (by show n6 < 6; omega) (by decide) fun iv hil => ?_
  have him : itsL[n6]'(by show n6 < 6; omega) ∈ itsL := List.getElem_mem _
  generalize itsL[n6]'(by show n6 < 6; omega) = it at hil him
  refine ⟨H.K k1, litem_spec ((rr _).le (by decide) (by decide)) k1 H.into hil fun iv2 s g2 R2 hiv2 => ?_⟩
  have H := H.call0 R2
  have k2 := k1.mono R2.sub
  refine kwAll_cons (cst_b (kwAll_nil ⟨H.K k2, ?_⟩))
  have hLe : (L0, FrP o0) ∈ [(L + 1 + 1, CP iv0), (L + 1, CP cv0), (T, TapeP c), (L0, FrP o0)] := by simp
  obtain ⟨oL, es, ep, hoL, hdL, _⟩ := H.ns
  obtain ⟨oL0, hoL0, _, hdL0⟩ := H.get hLe
  refine prodRE (base' := g2) (Around.frames_deeper hfr) ⟨by show ScopeKind.function ≠ .module; decide, ⟨L, oL, rfl, H.off, hoL, fun vs q => by rw [hdL] at q; cases q⟩, ⟨hkm, ⟨L0, oL0, hf0, H.ne hLe, hoL0, hdL0⟩, trivial⟩⟩ ((rr _).le (by decide) (by decide)) k2 H.into hiv2 (named_its him) fun e s' Th => ?_
  refine catchT H k2 (Around.frames_deeper hfr) rfl Th (fun a ha => ?_) fun s2 H2 => ?_
  · unfold frs at ha
    rw [List.filterMap_cons, hf0] at ha
    cases List.mem_singleton.mp ha
    exact ⟨o0, hLe⟩
  · exact ex_ret (cst_b (h _ _ H2.rel (H2.get (a := T) (P := TapeP c) (by simp)) (H2.get hLe)))
end
end Mine
end

section
open PySem PySem.W PySem.Calls PyProof.Rows
set_option maxRecDepth 100000
namespace Mine

section
variable {prog : Program} {w : World} {mg mb : Str → Option Value} {A : Around} {E : Value → Shared → Prop} {s s' : Shared} {F : Fx} {g g' : Heap} {led : Led} {m : Str → Option Value} {env : Env}

/-- a callee came back that has written the tape, and has turned the slots of this frame's names -/
theorem In.afterL {pre post : Led} {T : Addr} {P : Obj → Prop} {o0 : Obj} (H : In F g (pre ++ (T, P) :: post) m s) (R : Rel [T, F.L] s g s' g') (hT : ∃ o, s'.heap.get? T = some o ∧ P o) (ho0 : s.heap.get? F.L = some o0) (hL : ∃ o, s'.heap.get? F.L = some o ∧ FrP o0 o) : In F g' (pre ++ (T, P) :: post) m s' := by
  have e : (T, P) ∈ pre ++ (T, P) :: post := by simp
  have hTL : T ≠ F.L := (H.ent _ e).2.2.1
  refine ⟨⟨H.rel.sub.trans R.sub, R.into, fun b o q => (R.new b o q).elim (H.rel.new b o) fun h => .inr (H.was h), fun b o n q => ?_, Nat.le_trans H.rel.size R.size, R.os.trans H.rel.os, H.rel.gens.trans R.gens⟩, ?_, H.fresh, R.still H.off H.lt, fun p hp => ?_, H.nodup⟩
  · have h1 := H.rel.keep b o n q
    refine R.keep b o (fun hb => ?_) h1
    simp only [List.mem_cons, List.not_mem_nil, or_false] at hb
    rcases hb with rfl | rfl
    · rcases (H.ent _ e).2.2.2 with h | h
      · exact n h
      · exact absurd (Heap.lt_size q) (Nat.not_lt.mpr h)
    · exact absurd (Heap.lt_size q) (Nat.not_lt.mpr H.fresh)
  · obtain ⟨o, es, ep, ho, hd, r⟩ := H.ns
    rw [ho0] at ho
    cases ho
    obtain ⟨o', ho', ⟨sl, e'⟩, _⟩ := hL
    exact ⟨o', es, ep, ho', by rw [e']; exact hd, r⟩
  · obtain ⟨⟨o, ho, hP⟩, h2, h3, h4⟩ := H.ent p hp
    refine ⟨?_, R.still h2 (Heap.lt_size ho), h3, h4⟩
    by_cases q : p.1 = T
    · have := led_inj _ H.nodup p hp _ e q
      subst this
      exact hT
    · exact ⟨o, R.keep _ _ (by simp only [List.mem_cons, List.not_mem_nil, or_false]; rintro (h | h); exact q h; exact h3 h) ho, hP⟩

/-! ## dicts keyed by the law's pairs -/
def EntL {β : Type} (R : Heap → Value → β → Prop) (g : Heap) (xs : KVs) (G : List (It × β)) : Prop := All2 (fun x p => x.1 = kL p.1 ∧ LIt g (.ref x.2.1) p.1 ∧ R g x.2.2 p.2) xs G
theorem LIt.isg {a : Addr} {j : It} (h : LIt g (.ref a) j) : (HK prog w).is g (kL j) a := by
  obtain ⟨b, t1, t2, e, o, ho, hc, n, hd⟩ := h
  cases e
  exact ⟨o, _, n, ho, hc, hd, .cons (by simp [mixKind, K0.is, Value.isInt]) (.cons (by simp [mixKind, K0.is, Value.isStrOf]) .nil)⟩
section
variable {β : Type} {R : Heap → Value → β → Prop} {xs : KVs} {G : List (It × β)} {j : It}
theorem EntL.mono (hm : ∀ g g' v b, Sub g g' → R g v b → R g' v b) (h : EntL R g xs G) (hs : Sub g g') : EntL R g' xs G := h.imp fun _ _ ⟨a, b, c⟩ => ⟨a, b.mono hs, hm _ _ _ _ hs c⟩
theorem EntL.keys (h : EntL R g xs G) : KeysIn prog w g xs := fun x hx => by
  obtain ⟨p, _, e, hk, _⟩ := h.mem_l hx
  rw [e]; exact hk.isg
theorem EntL.none (h : EntL R g xs G) (hj : j ∉ G.map (·.1)) : atKey xs (kL j) = none := by
  unfold atKey
  rw [Option.map_eq_none_iff, List.find?_eq_none]
  intro x hx
  obtain ⟨p, hp, e, _, _⟩ := h.mem_l hx
  simp only [decide_eq_true_eq]
  intro q
  rw [e] at q
  exact hj (List.mem_map.mpr ⟨p, hp, kL_inj q⟩)
theorem EntL.some (h : EntL R g xs G) {y : β} (hn : (G.map (·.1)).Nodup) (hj : (j, y) ∈ G) : ∃ a v, atKey xs (kL j) = some (a, v) ∧ R g v y := by
  unfold atKey
  induction h with
  | nil => cases hj
  | @cons x p xs G r hr ih =>
    obtain ⟨e, hk, hR⟩ := r
    rw [List.map_cons, List.nodup_cons] at hn
    rcases List.mem_cons.mp hj with q | q
    · rw [List.find?_cons_of_pos (by rw [e, ← q]; simp)]
      exact ⟨x.2.1, x.2.2, rfl, by rw [← q] at hR; exact hR⟩
    · rw [List.find?_cons_of_neg (by rw [e]; simp only [decide_eq_true_eq]; intro q'; rw [kL_inj q'] at hn; exact hn.1 (List.mem_map.mpr ⟨_, q, rfl⟩))]
      exact ih hn.2 q
theorem EntL.new (h : EntL R g xs G) {y : β} {a : Addr} {v : Value} (hj : j ∉ G.map (·.1)) (hk : LIt g (.ref a) j) (hR : R g v y) : EntL R g (storedH xs (kL j) a v) (G ++ [(j, y)]) := by
  rw [storedH_new (h.none hj)]
  exact h.snoc ⟨rfl, hk, hR⟩
end
/-- a dict keyed by the law's pairs, at rest -/
def DictL {β : Type} (prog : Program) (w : World) (R : Heap → Value → β → Prop) (g : Heap) (v : Value) (G : List (It × β)) : Prop := (G.map (·.1)).Nodup ∧ ∃ d o xs, v = .ref d ∧ d ≠ 1 ∧ g.get? d = some o ∧ DP prog w xs o ∧ EntL R g xs G
theorem DictL.mono {β : Type} {R : Heap → Value → β → Prop} {v : Value} {G : List (It × β)} (hm : ∀ g g' v b, Sub g g' → R g v b → R g' v b) (h : DictL prog w R g v G) (hs : Sub g g') : DictL prog w R g' v G :=
  let ⟨n, d, o, xs, e, h1, h2, h3, h4⟩ := h; ⟨n, d, o, xs, e, h1, hs _ _ h2, h3, h4.mono hm hs⟩
theorem ixL {β : Type} {R : Heap → Value → β → Prop} {value slice : PySem.Expr} {v : Value} {G : List (It × β)} {j : It} {y : β} {a : Addr} {Q : Value → Shared → Prop} (hu : A.units + 1 < cLine) (H : In F g led m s) (hv : DictL prog w R g v G) (hk : LIt g (.ref a) j) (hm : (j, y) ∈ G)
    (h : ∀ u s', In F g led m s' → R g u y → Q u s') (hs : ∀ d, subscripted slice false (.ref d) (.ref a) = operate [.ref d, .ref a] (getItem (.ref d) (.ref a)) := by intro _; with_unfolding_all rfl) :
    wpAny (model prog w) A (subscriptTail value slice v (.ref a)) Q E s := by
  obtain ⟨hn, d, o, xs, rfl, hd, hod, hD, hE⟩ := hv
  obtain ⟨k', u, hat, hR⟩ := hE.some hn hm
  exact kba_turn (value' := nmX) (fun _ => rfl) (ixD hu H hk.isg (hD.at (H.into _ _ hod) (hE.keys.mono H.into)) hat (fun s' H' => h u s' H' hR) (hs d) (fun _ => rfl))

/-! ## two clauses -/
theorem lcE2 {elt t1 i1 t2 i2 : PySem.Expr} {scope : Scope} {pos : Pos} {cl : List (Str × Addr)} {Q : Value → Shared → Prop}
    (hclos : closureFor scope env = pure cl)
    (h : wpAny (model prog w) A (eval i1 env) (fun x s₁ => wpAny (model prog w) A (pyIter x) (fun it s₂ => wpAny (model prog w) A (newList []) (fun acc s₃ => wpAny (model prog w) A (newFunctionEnv scope env.globals cl [] env.qual none .none (some env)) (fun cenv s₄ =>
      codeAny (model prog w) A (.compStart (.ListComp elt [⟨t1, i1, [], 0⟩, ⟨t2, i2, [], 0⟩] scope pos) 0 it acc { cenv with scope := relabel scope env }) (compPost (model prog w) A E none Q acc cenv.locals) s₄) E s₃) E s₂) E s₁) E s)
    (hkind : scope.kind = .function := by rfl) (hnames : ∀ x ∈ scope.names, x.2 = .local → scope.names.lookup x.1 = some .local := by decide) (hs : ∀ x, foldedSetIterable i1 env x = pure x := by intro _; rfl) :
    wpAny (model prog w) A (eval (.ListComp elt [⟨t1, i1, [], 0⟩, ⟨t2, i2, [], 0⟩] scope pos) env) Q E s := by
  rw [eval_ListComp]
  exact wpAny_comprehension_free (use := none) rfl hs hclos hkind hnames h

/-- [item for left, right in rows for item in right] -/
theorem flatV {p1 p2 p3 p4 p5 p6 pos : Pos} {k1 : Nat} {iter : PySem.Expr} {scope : Scope} {cl : List (Str × Addr)} {Q : Value → Shared → Prop} {I : Addr} {St : List Row2 → Obj → Prop} {ps : List Row2}
    (S : Src prog w g (LRow g) I St) (hh : A.handled = none) (H0 : In F g ((I, St ps) :: led) m s) (hz : ps.length ≤ 6) (hz3 : ∀ p ∈ ps, p.2.length ≤ 3)
    (fin : ∀ v g' s', Sub g g' → Lst LIt g' v (ps.flatMap (·.2)) → In F g' led m s' → Q v s')
    (hcell : ∀ y ∈ scope.names, y.2 ≠ .cell := by decide) (hkind : scope.kind = .function := by rfl) (hk : ∀ L, (compEnvC scope cl L env).scope.kind = .function := by intro _; rfl)
    (hl : ∀ L, (compEnvC scope cl L env).kindOf "left" = some .local := by intro _; kernel_rfl) (hr : ∀ L, (compEnvC scope cl L env).kindOf "right" = some .local := by intro _; kernel_rfl) (hi : ∀ L, (compEnvC scope cl L env).kindOf "item" = some .local := by intro _; kernel_rfl) :
    wpAny (model prog w) A (newList []) (fun acc s₃ => wpAny (model prog w) A (newFunctionEnv scope env.globals cl [] env.qual none .none (some env)) (fun cenv s₄ =>
      codeAny (model prog w) A (.compStart (.ListComp (.Name "item" p1) [⟨.Tuple [.Name "left" p2, .Name "right" p3] k1 p4, iter, [], 0⟩, ⟨.Name "item" p5, .Name "right" p6, [], 0⟩] scope pos) 0 (.ref I) acc { cenv with scope := relabel scope env }) (compPost (model prog w) A E none Q acc cenv.locals) s₄) E s₃) E s := by
  refine wpAny_newObj_type ?_ (by size_fits)
  have hacc := H0.was (Nat.le_refl s.heap.objs.size)
  have H0 : In F g ((I, St ps) :: (s.heap.objs.size, LP []) :: led) m _ := (H0.newL []).perm (List.Perm.swap ..)
  generalize s.heap.objs.size = acc at H0 hacc ⊢
  refine compEnter (env := env) H0 hcell hkind fun L' s1 H1 => ?_
  refine compS (d := 0) S (.refl _) H1 ?_ rfl rfl rfl rfl rfl
  generalize hE : PySem.Expr.ListComp (.Name "item" p1) [⟨.Tuple [.Name "left" p2, .Name "right" p3] k1 p4, iter, [], 0⟩, ⟨.Name "item" p5, .Name "right" p6, [], 0⟩] scope pos = ex
  refine compL (d := 0) (target := .Tuple [.Name "left" p2, .Name "right" p3] k1 p4) (ifs := []) (p := iter.pos) (body := do
      let x ← eval (.Name "right" p6) (compEnvC scope cl L' env)
      standAt p6
      let x ← foldedSetIterable (.Name "right" p6) (compEnvC scope cl L' env) x
      let _ ← runOwn (.compStart ex 1 (← holding [x] (pyIter x)) (.ref acc) (compEnvC scope cl L' env)) (compEnvC scope cl L' env))
    (fun rest g' L m => ∃ out dn, L = (acc, LP out) :: led ∧ Sub g g' ∧ ps = dn ++ rest ∧ All2 (LIt g') out (dn.flatMap (·.2)) ∧ out.length ≤ 3 * dn.length) S hh (.refl _) H1 ⟨[], [], rfl, .refl _, rfl, .nil, by simp⟩ ?_ ?_ ?_ ?_ ?_ ?_
  · rintro p rest g2 led2 m2 s2 v hg hR H ⟨out, dn, rfl, hsg, hdn, hout, hlen⟩
    obtain ⟨a, lv, rv, rfl, ht, hl1, hr1⟩ := LRow.mono' _ _ _ _ hg hR
    have hpm : p ∈ ps := by rw [hdn]; exact List.mem_append_right _ (.head _)
    have hp3 := hz3 p hpm
    have hd6 : dn.length < 6 := by have := congrArg List.length hdn; simp at this; omega
    refine asP H hh ht (fun s H => tests0 ?_) rfl (hk _) (hl _) (hr _)
    rw [if_pos rfl]
    obtain ⟨rl, rvs, rfl, hrl, hra⟩ := hr1
    refine wpAny_bind (nm H (if_pos rfl) (wpAny_bind (wpAny_standAt (wpAny_bind (wpAny_pure (wpAny_bind (wpAny_holding (itListA H hrl hra fun I2 St2 s S2 H => ?_))))))) rfl (hk _) (hr _))
    refine wpAny_bind (wpAny_runOwn ?_)
    subst hE
    refine compS (d := 1) S2 (.refl _) H ?_ rfl rfl rfl rfl rfl
    refine compL (d := 1) (target := .Name "item" p5) (ifs := []) (p := p6) (body := do let _ ← call (.builtin "list.append") [.ref acc, ← eval (.Name "item" p1) (compEnvC scope cl L' env)])
      (fun rest2 g' L m => ∃ out2 dn2, L = (I, St rest) :: (acc, LP out2) :: led ∧ Sub g2 g' ∧ p.2 = dn2 ++ rest2 ∧ All2 (LIt g') out2 (dn.flatMap (·.2) ++ dn2) ∧ out2.length ≤ 3 * dn.length + dn2.length) S2 hh (.refl _) H ⟨out, [], rfl, .refl _, rfl, by rw [List.append_nil]; exact hout, hlen⟩ ?_ ?_ rfl rfl rfl rfl
    · rintro i rest2 g3 led3 m3 s3 v hg3 hR3 H ⟨out2, dn2, rfl, hs23, hdn2, hout2, hlen2⟩
      have hd2 : dn2.length < 3 := by have := congrArg List.length hdn2; simp at this; omega
      refine asN H (fun s H => tests0 ?_) rfl (hk _) (hi _)
      rw [if_pos rfl]
      refine wpAny_bind (nm H (if_pos rfl) (wpAny_bind (appendL (pre := [(I2, St2 rest2), (I, St rest)]) H (by omega) fun s5 H5 => wpAny_pure ?_)) rfl (hk _) (hi _))
      exact ⟨g3, _, _, hg3, H5, out2 ++ [v], dn2 ++ [i], rfl, hs23, by rw [hdn2]; simp, by rw [← List.append_assoc]; exact hout2.snoc (hR3.mono hs23), by rw [List.length_append, List.length_append]; simp; omega⟩
    · rintro g3 led3 m3 s3 hg3 H ⟨out2, dn2, rfl, hs23, hdn2, hout2, hlen2⟩
      rw [List.append_nil] at hdn2
      refine wpAny_pure ?_
      exact ⟨g3, _, _, hg.trans hs23, H, out2, dn ++ [p], rfl, hsg.trans hs23, by rw [hdn]; simp, by rw [List.flatMap_append, show [p].flatMap (·.2) = dn2 by simp [hdn2]]; exact hout2, by rw [List.length_append, List.length_singleton]; rw [← hdn2] at hlen2; omega⟩
  · rintro g1 led1 m1 t hg1 H1 ⟨out, dn, rfl, hsg, hdn, hout, hlen⟩
    rw [List.append_nil] at hdn
    subst hdn
    refine ⟨rfl, g1, _, m1, H1, ?_⟩
    intro s'' H2
    obtain ⟨o, g2, hP, ho, hs, H3⟩ := H2.freeze hacc
    exact fin (.ref acc) g2 s'' (hg1.trans hs) ⟨acc, out, rfl, hP.is ho, hout.imp fun _ _ => LIt.mono' _ _ _ _ hs⟩ H3
  · subst hE
    unfold turnOf
    show (standAt iter.pos >>= fun _ => pyNext (.ref I) >>= fun r => _) = (standAt iter.pos >>= fun _ => pyNext (.ref I) >>= fun r => _)
    congr 1; funext _; congr 1; funext r
    cases r with
    | none => rfl
    | some v =>
      show (letOwnedTupleGo _ _ v >>= fun _ => assign _ _ v >>= fun _ => _ >>= fun ok => _) = (letOwnedTupleGo _ _ v >>= fun _ => assign _ _ v >>= fun _ => tests [] _ >>= fun ok => _)
      congr 1; funext _; congr 1; funext _; congr 1; funext ok
      cases ok with
      | false => rfl
      | true =>
        show _ = ((_ : Sem Unit) >>= fun _ => _)
        simp only [bind_assoc]
        rfl
  all_goals (subst hE; rfl)

/-- a sign of a text -/
theorem ixS {value slice : PySem.Expr} {x : Str} {t u : Tok} {n ch : Nat} {Q : Value → Shared → Prop} (H : In F g led m s) (hn : n < 1000) (hc : (seqIndex? (n : Nat) x.length).bind (x.cps[·]?) = some ch) (h : ∀ t s', In F g led m s' → Q (.str ⟨#[ch]⟩ t) s')
    (hs : subscripted slice false (.str x t) (.int (n : Nat) u) = operate [.str x t, .int (n : Nat) u] (getItem (.str x t) (.int (n : Nat) u)) := by with_unfolding_all rfl) : wpAny (model prog w) A (subscriptTail value slice (.str x t) (.int (n : Nat) u)) Q E s :=
  kba_turn (value' := nmX) (fun _ => rfl) (subscriptTail_builtin (typeIs_str s x t) PySem.F.slot_str_getitem.lookup (P.getItem_str (by simp; omega) hc (h _ _ (H.toks _))) hs (fun _ => rfl))

/-- a def of the text's with cells, that does not raise -/
theorem enterCI {name qual : Str} {params : Arguments} {body : List Stmt} {scope : Scope} {dV kV doc pm cdv ct oc : Value} {an od : Option Addr} {osl : Array (Option Value)} {f : Addr} {args : List Value} {kw : List (Str × Value)} {R : Result → Shared → Prop} (binds : List (Str × Value))
    (k : KB w mg mb g) (hs : Sub g s.heap) (hr : A.depth < recursionLimit)
    (hl : ∀ p ∈ led, (∃ o, s.heap.get? p.1 = some o ∧ p.2 o) ∧ g.get? p.1 = none) (hn : (led.map (·.1)).Nodup)
    (h : ∀ L s1, In ⟨s, g, led.map (·.1), L⟩ g ((cellsFrom (L + 1) scope.names []).map (fun x => (x.2, CP (bindC (envOfC qual scope L f cdv).kindOf binds (fun _ => none) x.1))) ++ led) (bindL (envOfC qual scope L f cdv).kindOf binds fun _ => none) s1 →
      wpAny (model prog w) (A.deeper (envOfC qual scope L f cdv)) (execs body (envOfC qual scope L f cdv)) (fun fl s' => R (.ok (.ret (match fl with | .ret v => v | _ => .none))) s') no s1)
    (ho : (hd.heap_39 w.params).lookup f = some ⟨oc, od, .func (fnOf name qual params body scope dV kV doc pm an cdv ct), osl⟩ := by k_is) (hcd : codeIn (hd.heap_39 w.params) cdv qual = true := by k_is)
    (hbind : BindsTo s (fnOf name qual params body scope dV kV doc pm an cdv ct) ⟨args, kw⟩ binds := by exact BindsTo.of_eq (by kernel_rfl)) (hloc : (binds.all fun y => decide (scope.names.lookup y.1 = some .local) || decide (scope.names.lookup y.1 = some .cell)) = true := by kernel_rfl)
    (hnd : (scope.names.map (·.1)).Nodup := by decide) (hco : scope.isCoroutine = false := by exact rfl) (hgen : scope.isGenerator = false := by exact rfl) (hk : scope.kind = .function := by exact rfl) :
    codeAny (model prog w) A (.call (.ref f) ⟨args, kw⟩) R s :=
  enterCA k hs hr ho hcd hbind hloc hl hn (fun L s1 H => wpAny_mono (h L s1 H) (fun _ _ q => q) fun _ _ q => q.elim) hnd hco hgen hk
end
end Mine
end

section
open PySem PySem.W PySem.Calls PyProof.Rows
set_option maxRecDepth 100000
namespace Mine
theorem fillK27 (P : Params) : hd.heap_39 P = hd.heap_39 P → PySem.Challenge.rw_bn0044_01 = PySem.Challenge.rw_bn0044_01 := by
  k_fill
  exact fun _ => rfl

def cats5 : List It := [iN "S", iN "A", iN "B", iN "x", iN "Z"]
theorem its_t {i : It} (h : i ∈ itsL) : (i.t = false → i ∈ catsL) ∧ (i.t = true → i.n ∈ ([Str.ofString "x", Str.ofString "y"] : List Str)) := by
  simp only [itsL, List.mem_cons, List.not_mem_nil, or_false] at h
  rcases h with rfl | rfl | rfl | rfl | rfl | rfl
  · exact ⟨fun _ => by decide, fun e => by cases e⟩
  · exact ⟨fun _ => by decide, fun e => by cases e⟩
  · exact ⟨fun _ => by decide, fun e => by cases e⟩
  · exact ⟨fun _ => by decide, fun e => by cases e⟩
  · exact ⟨fun e => (by cases e), fun _ => by decide⟩
  · exact ⟨fun e => (by cases e), fun _ => by decide⟩
theorem LC_U {ps : List Row2} (hC : Case ps) {ct : It} (h : ct ∈ cats5) : ∃ U : List It, U.length ≤ 4 ∧ (∀ x ∈ U, x ∈ isN) ∧ ∀ x, LC ps ct x → x ∈ U := by
  by_cases hc : ct ∈ catsL
  · refine ⟨catsL, by decide, fun x hx => cats_isN hx, fun x hx => ?_⟩
    induction hx with
    | refl => exact hc
    | step _ hf _ =>
      obtain ⟨p, hp, _, h2, h3⟩ := hf
      exact (its_t (hC.rhs p hp _ (List.mem_of_mem_head? h2))).1 h3
  · refine ⟨[ct], by simp, fun x hx => ?_, fun x hx => ?_⟩
    · cases List.mem_singleton.mp hx
      simp only [cats5, isN, List.mem_cons, List.not_mem_nil, or_false] at h ⊢
      exact h
    · rw [List.mem_singleton]
      refine (lc_only (fun q => ?_) x).mp hx
      obtain ⟨p, hp, e⟩ := List.mem_map.mp q
      exact hc (by rw [← e]; exact hC.lhs p hp)
theorem cats5_isN {i : It} (h : i ∈ cats5) : i ∈ isN := h
theorem okS_x {x : Str} (h : x ∈ ([Str.ofString "x", Str.ofString "y", Str.ofString "z"] : List Str)) : okS (itW x) := by
  have : ([Str.ofString "x", Str.ofString "y", Str.ofString "z"] : List Str).all PyData.strOk = true := by decide +kernel
  exact List.all_eq_true.mp this x h

section
variable {prog : Program} {w : World} {mg mb : Str → Option Value} {A : Around} {E : Value → Shared → Prop} {s s' : Shared} {F : Fx} {g g' : Heap} {led : Led} {m : Str → Option Value} {env : Env}

theorem In.takeNew (H : In F g led m s) (R : Rel [] s g s' g') {T : Addr} {P : Obj → Prop} (hT : ∃ o, s'.heap.get? T = some o ∧ P o) (hn : g'.get? T = none) (hz : s.heap.objs.size ≤ T) : In F g' ((T, P) :: led) m s' := by
  obtain ⟨o, ho, hP⟩ := hT
  refine (H.call0 R).take ho hP hn (fun e => ?_) (H.was hz) fun q => ?_
  · exact absurd H.lt (Nat.not_lt.mpr (e ▸ hz))
  · obtain ⟨p, hp, e⟩ := List.mem_map.mp q
    obtain ⟨⟨o', ho', _⟩, _⟩ := H.ent p hp
    exact absurd (Heap.lt_size ho') (Nat.not_lt.mpr (e ▸ hz))
theorem g_law_tape (P : Params) : nsIn (hd.heap_39 P) mainGlobals "_law_tape" = some (some (.ref 350)) := by kernel_rfl
theorem kp350 (P : Params) : keepIn (hd.heap_39 P) (.ref 350) = true := by kernel_rfl
theorem g_law_case (P : Params) : nsIn (hd.heap_39 P) mainGlobals "_law_case" = some (some (.ref 381)) := by kernel_rfl
theorem kp381 (P : Params) : keepIn (hd.heap_39 P) (.ref 381) = true := by kernel_rfl
theorem g_law_corners (P : Params) : nsIn (hd.heap_39 P) mainGlobals "_law_corners" = some (some (.ref 388)) := by kernel_rfl
theorem kp388 (P : Params) : keepIn (hd.heap_39 P) (.ref 388) = true := by kernel_rfl
theorem g_law_forms (P : Params) : nsIn (hd.heap_39 P) mainGlobals "_law_forms" = some (some (.ref 393)) := by kernel_rfl
theorem kp393 (P : Params) : keepIn (hd.heap_39 P) (.ref 393) = true := by kernel_rfl
theorem g_law_chosen (P : Params) : nsIn (hd.heap_39 P) mainGlobals "_law_chosen" = some (some (.ref 398)) := by kernel_rfl
theorem kp398 (P : Params) : keepIn (hd.heap_39 P) (.ref 398) = true := by kernel_rfl
theorem g_CFG (P : Params) : nsIn (hd.heap_39 P) mainGlobals "CFG" = some (some (.ref 334)) := by kernel_rfl
theorem kp334 (P : Params) : keepIn (hd.heap_39 P) (.ref 334) = true := by kernel_rfl
theorem g_Production (P : Params) : nsIn (hd.heap_39 P) mainGlobals "Production" = some (some (.ref 155)) := by kernel_rfl
theorem kp155 (P : Params) : keepIn (hd.heap_39 P) (.ref 155) = true := by kernel_rfl
theorem kp66 (P : Params) : keepIn (hd.heap_39 P) (.ref 66) = true := by kernel_rfl
theorem M_is_leftcorner (P : Params) : Meth P 334 "is_leftcorner" 213 := ⟨by kernel_rfl, by kernel_rfl, by kernel_rfl⟩
theorem M_check_coverage (P : Params) : Meth P 334 "check_coverage" 218 := ⟨by kernel_rfl, by kernel_rfl, by kernel_rfl⟩

def CanV (g : Heap) (v : Value) (fs : List It) : Prop := Lst LIt g v (canon fs)
theorem CanV.mono' : ∀ g g' v b, Sub g g' → CanV g v b → CanV g' v b := fun _ _ _ _ s h => h.mono LIt.mono' s
def knownL (ps : List Row2) : List It := ps.map (·.1) ++ ps.flatMap (·.2)
theorem known_w {ps : List Row2} (hC : Case ps) (x : Str) : itW x ∈ knownL ps ↔ hasW ps x := by
  unfold knownL hasW
  rw [List.mem_append, List.mem_flatMap]
  refine ⟨fun h => h.elim (fun q => ?_) id, .inr⟩
  obtain ⟨p, hp, e⟩ := List.mem_map.mp q
  have := isN_t (cats_isN (hC.lhs p hp))
  rw [e] at this
  cases this

def begF (fs : List It) (p : Row2) : Option It := if p.1 ∈ canon fs then p.2.head? else none
def dueB (fs bl : List It) (lf : It) : Bool := if lf.t = false then decide (lf ∈ canon fs) else decide (lf ∈ bl)
theorem due_iff {ps : List Row2} {ct lf : It} {fs : List It} (hf : ∀ y, y ∈ fs ↔ LC ps ct y) (hN : ∀ y ∈ fs, y ∈ isN) : dueB fs (ps.filterMap (begF fs)) lf = true ↔ isLC ps ct lf := by
  unfold dueB isLC
  by_cases h : lf.t = false
  · rw [if_pos h, if_pos h, decide_eq_true_iff, mem_canon hN, hf]
  · rw [if_neg h, if_neg h, decide_eq_true_iff, List.mem_filterMap]
    have hl : lf = ⟨true, lf.n⟩ := by
      cases lf with
      | mk t n => cases t with
        | true => rfl
        | false => exact absurd rfl h
    constructor
    · rintro ⟨p, hp, e⟩
      unfold begF at e
      by_cases q : p.1 ∈ canon fs
      · rw [if_pos q] at e
        exact ⟨p.1, (hf _).mp ((mem_canon hN _).mp q), p, hp, rfl, by rw [e, ← hl]⟩
      · rw [if_neg q] at e; cases e
    · rintro ⟨c, hc, p, hp, h1, h2⟩
      refine ⟨p, hp, ?_⟩
      unfold begF
      rw [if_pos ((mem_canon hN _).mpr ((hf _).mpr (h1 ▸ hc))), h2, ← hl]
theorem eqT0 (i : It) : (tagI i == 0) = decide (i.t = false) := by
  cases h : i.t <;> simp [tagI, h]
def lawN : List Str := ["begun", "left", "due"]
theorem okCanon {is : List It} : ∀ x ∈ canon is, okS x := fun x hx => by
  unfold canon at hx
  have hi := (List.mem_filter.mp hx).1
  have : isNs.all (fun i => PyData.strOk i.n) = true := by decide +kernel
  exact List.all_eq_true.mp this x hi
theorem canon_len {is : List It} : (canon is).length ≤ 5 := Nat.le_trans (List.length_filter_le _ _) (by decide)

set_option maxHeartbeats 4000000 in
/-- law(script) -/
theorem law_spec {s0 : Shared} {sv : Value} {ns : List Int} {R : Result → Shared → Prop} (hfr : A.frames = some []) (r : Room A 16 200) (k : KB w mg mb g) (hs : Sub g s0.heap) (hsv : Lst IntV g sv ns) (hz : ns.length ≤ 63) (ht1 : Tab g 220 s0) (ht2 : Tab g 128 s0)
    (h : ∀ s' g', Rel [220, 128] s0 g s' g' → Tab g' 220 s' → Tab g' 128 s' → R (.ok (.ret (.bool true))) s') : codeAny (model prog w) A (.call (.ref 403) ⟨[sv], []⟩) R s0 := by
  refine enterCI [("script", sv)] (led := [(220, TabP), (128, TabP)]) k hs r.lt (fun p hp => ?_) (by simp) (fun L s H => ?_)
  · simp only [List.mem_cons, List.not_mem_nil, or_false] at hp
    rcases hp with rfl | rfl
    · exact ht1
    · exact ht2
  have H := H.cast (led' := [(L + 1 + 1 + 1 + 1, CP none), (L + 1 + 1 + 1, CP none), (L + 1 + 1, CP none), (L + 1, CP none), (220, TabP), (128, TabP)]) (by kernel_rfl)
  have rr : ∀ e, Room (A.deeper e) 15 197 := fun e => r.deeper
  -- tape
  refine ex_set (Call_ (nmG H k (g_law_tape _) (callW (kp350 _) (a1 (nm H rfl ⟨H.K k, ?_⟩)))))
  refine tape_spec ((rr _).le (by decide) (by decide)) k H.into hsv hz fun T c s g1 R1 hc hT hTn hTz => ?_
  have H := H.takeNew R1 hT hTn hTz
  have k1 := k.mono R1.sub
  refine stC (pre := [(T, TapeP c), (L + 1 + 1 + 1 + 1, CP none), (L + 1 + 1 + 1, CP none), (L + 1 + 1, CP none)]) H fun s H => ?_
  have H := H.perm (l := (L + 1, CP (some (.ref T))) :: [(T, TapeP c), (L + 1 + 1 + 1 + 1, CP none), (L + 1 + 1 + 1, CP none), (L + 1 + 1, CP none), (220, TabP), (128, TabP)]) (List.perm_middle (l₁ := [(T, TapeP c), (L + 1 + 1 + 1 + 1, CP none), (L + 1 + 1 + 1, CP none), (L + 1 + 1, CP none)])).symm
  obtain ⟨g2, hct, hs2, H⟩ := H.cellF (Nat.le_succ_of_le H.fresh)
  have k2 := k1.mono hs2
  have hc2 := hc.mono hs2
  -- rows
  refine ex_set (Call_ (nmG H k2 (g_law_case _) (callW (kp381 _) (a1 (nmC H hct ⟨H.K k2, ?_⟩)))))
  refine case_spec ((rr _).le (by decide) (by decide)) k2 H.into hc2 (H.get (.head _)) (H.ne (P := TapeP c) (.head _)) fun rv ps s g3 R3 hT3 hrv hC => ?_
  have H := H.callM (pre := []) R3 hT3
  have k3 := k2.mono R3.sub
  refine stG H fun m3 s hm3 hm3' H => ?_
  have okp := hC.ok
  have h6 := hC.six
  have hz2 : ∀ p ∈ ps, p.2.length ≤ 900 := fun p hp => Nat.le_trans (hC.three p hp) (by decide)
  obtain ⟨rl, rvs, rfl, hrl, hra⟩ := id hrv
  -- the grammar
  refine ex_set (Call_ (nmG H k3 (g_CFG _) (callW (kp334 _) (aC (Call_ (nmG H k3 (g_Nonterminal _) (callW (kp66 _) (a1 (cst_s H fun t s H => ⟨H.K k3, ?_⟩)))))))))
  refine newN ((rr _).le (by decide) (by decide)) k3 H.into fun nx s g4 R4 hnx => ?_
  have H := H.call0 R4
  have k4 := k3.mono R4.sub
  refine a1 (lcE (cl := []) rfl (nm H hm3 (itListA H (isList_mono hrl R4.sub) (hra.imp fun _ _ => LRow.mono' _ _ _ _ R4.sub) fun I St s S H => ?_)))
  refine lcV (JSel ps g4 [(T, TapeP c), (L + 1 + 1 + 1 + 1, CP none), (L + 1 + 1 + 1, CP none), (L + 1 + 1, CP none), (220, TabP), (128, TabP)] ProdAt (fun p o => o = some p)) S r.hh (.refl _) H .init (by omega) ?_ ?_
  · intro F' p rest out acc g5 led5 m5 s v hg hR H J
    obtain ⟨a, lv, rv, rfl, ht, hl, hr⟩ := LRow.mono' _ _ _ _ hg hR
    have k5 := k4.mono hg
    refine asP H r.hh ht fun s H => tests0 ?_
    rw [if_pos rfl]
    refine Call_ (nmG H k5 (g_Production _) (callW (kp155 _) (aC (Call_ (nmG H k5 (g_law_item _) (callW (kp364 _) (a1 (nm H ((if_neg (by decide)).trans (if_pos rfl)) ⟨H.K k5, ?_⟩))))))))
    refine litem_spec ((rr _).le (by decide) (by decide)) k5 H.into hl fun iv s g6 R6 hiv => ?_
    have H := H.call0 R6
    have k6 := k5.mono R6.sub
    obtain ⟨rl2, rvs2, rfl, hrl2, hra2⟩ := hr.mono LIt.mono' R6.sub
    refine a1 (lcE (cl := []) rfl (nm H (if_pos rfl) (itListA H hrl2 hra2 fun I2 St2 s S2 H => ?_)))
    have hzp := hz2 p J.mem
    refine lcV (JSel p.2 g6 _ ItemAt (fun i o => o = some i)) S2 r.hh (.refl _) H .init (by omega) ?_ ?_
    · intro F2 i rest2 out2 acc2 g7 led7 m7 s v hg7 hi H J2
      have k7 := k6.mono hg7
      refine asN H fun s H => tests0 ?_
      rw [if_pos rfl]
      refine Call_ (nmG H k7 (g_law_item _) (callW (kp364 _) (a1 (nm H (if_pos rfl) ⟨H.K k7, ?_⟩))))
      exact litem_spec ((rr _).le (by decide) (by decide)) k7 H.into (hi.mono hg7) fun iv2 s g8 R8 hiv2 => ⟨g8, _, _, hg7.trans R8.sub, H.call0 R8, J2.step ItemAt.mono' R8.sub hiv2 rfl⟩
    · intro l2 out2 g7 g8 led8 s hg7 hg8 hl2 J2 H
      obtain ⟨e8, S8, ha2⟩ := J2.fin ItemAt.mono' hg8
      subst e8
      have k8 := k6.mono S8
      have ha2 : ItemsAt g8 out2 p.2 := by
        have e : p.2.filterMap (fun i => some i) = p.2 := by rw [List.filterMap_eq_map']; simp
        rw [e] at ha2; exact ha2
      refine ⟨H.K k8, newP (p := p) ((rr _).le (by decide) (by decide)) k8 H.into (hiv.mono S8) hl2 ha2 (by omega) fun x s g9 R9 hP => ?_⟩
      exact ⟨g9, _, _, hg.trans (R6.sub.trans (S8.trans R9.sub)), H.call0 R9, J.step ProdAt.mono' (R6.sub.trans (S8.trans R9.sub)) hP rfl⟩
  intro pl pout g5' g5 led5 s hg5' hg5 hpl J H
  obtain ⟨rfl, S5, hpa⟩ := J.fin ProdAt.mono' hg5
  clear J
  have hpa : All2 (ProdAt g5) pout ps := by
    have e : ps.filterMap (fun i => some i) = ps := by rw [List.filterMap_eq_map']; simp
    rw [e] at hpa; exact hpa
  have k5 := k4.mono S5
  have m220 : ((220 : Addr), TabP) ∈ [(T, TapeP c), (L + 1 + 1 + 1 + 1, CP none), (L + 1 + 1 + 1, CP none), (L + 1 + 1, CP none), (220, TabP), (128, TabP)] := by simp
  have m128 : ((128 : Addr), TabP) ∈ [(T, TapeP c), (L + 1 + 1 + 1 + 1, CP none), (L + 1 + 1 + 1, CP none), (L + 1 + 1, CP none), (220, TabP), (128, TabP)] := by simp
  refine ⟨H.K k5, cfg_spec (U := catsL) (Wd := [Str.ofString "x", Str.ofString "y"]) ((rr _).le (by decide) (by decide)) k5 H.into (hnx.mono S5) rfl ⟨pl, pout, rfl, hpl, hpa⟩ hC.ne hC.nd h6 hC.three okp (by decide) (fun i hi => isN_t (cats_isN hi)) (by decide) hC.lhs (fun p hp i hi => its_t (hC.rhs p hp i hi)) (H.tabM m220) (H.tabM m128) fun x f s g6 R6 t1 t2 hI hG => ?_⟩
  have H := H.callT R6 (fun a ha => by
    simp only [List.mem_cons, List.not_mem_nil, or_false] at ha
    rcases ha with rfl | rfl
    · exact List.mem_map.mpr ⟨_, m220, rfl⟩
    · exact List.mem_map.mpr ⟨_, m128, rfl⟩) (fun p hp hmu => by
    simp only [List.mem_cons, List.not_mem_nil, or_false] at hmu
    rcases hmu with e | e
    · have := led_inj _ H.nodup p hp _ m220 e; subst this; exact t1.1
    · have := led_inj _ H.nodup p hp _ m128 e; subst this; exact t2.1)
  have k6 := k5.mono R6.sub
  refine stG H fun m6 s hm6 hm6' H => ?_
  have S36 := R4.sub.trans (S5.trans R6.sub)
  have hrv6 : Lst LRow g6 (.ref rl) ps := hrv.mono LRow.mono' S36
  have hct6 := hct.mono (R3.sub.trans S36)
  have hc6 := hc2.mono (R3.sub.trans S36)
  have hro : m6 "rows" = some (.ref rl) := (hm6' _ (by decide)).trans hm3
  have hgr : m6 "grammar" = some (.ref x) := hm6
  clear hm3 hm3' hm6 hm6'
  -- the forms
  refine ex_if (isTrue_or (isTrue_not (isT (Call_ (nmG H k6 (g_law_forms _) (callW (kp393 _) (aC (nm H hgr (a1 (nm H hro ⟨H.K k6, ?_⟩))))))))))
  refine lforms_spec ((rr _).le (by decide) (by decide)) k6 H.into hI hG hrv6 hC.ne h6 hz2 fun s g7 R7 => tr_b ?_
  have H := H.call0 R7
  have k7 := k6.mono R7.sub
  rw [Bool.not_true, if_neg Bool.false_ne_true]
  -- the chosen
  refine isTrue_or (isTrue_not (isT (Call_ (nmG H k7 (g_law_chosen _) (callW (kp398 _) (aC (nm H hgr (aC (nm H hro (a1 (nmC H (hct6.mono R7.sub) ⟨H.K k7, ?_⟩)))))))))))
  obtain ⟨oL, es, ep, hoL, hdL, hrest⟩ := id H.ns
  have hFr : FrP oL oL := ⟨⟨oL.slots, rfl⟩, fun vs q => by rw [hdL] at q; cases q⟩
  refine chosen_spec (o0 := oL) (Around.frames_deeper hfr) rfl (by show ScopeKind.function ≠ .module; decide) ((rr _).le (by decide) (by decide)) k7 H.into (hI.mono R7.sub) (hG.mono R7.sub) (hrv6.mono LRow.mono' R7.sub) hC (hc6.mono R7.sub) (H.get (.head _)) (H.ne (P := TapeP c) (.head _)) ⟨oL, hoL, hFr⟩ H.off (H.ent _ (.head _)).2.2.1 fun s g8 R8 hT8 hL8 => tr_b ?_
  have H := H.afterL (pre := []) R8 hT8 hoL hL8
  have k8 := k7.mono R8.sub
  rw [Bool.not_true, if_neg Bool.false_ne_true]
  refine isTrue_or_nil ?_
  rw [if_neg Bool.false_ne_true]
  refine ex_nil ?_
  have S68 := R7.sub.trans R8.sub
  have hI8 := hI.mono S68
  have hG8 := hG.mono S68
  have hrv8 := hrv6.mono LRow.mono' S68
  have hct8 := hct6.mono S68
  have hc8 := hc6.mono S68
  clear hoL hdL hrest hFr hL8 hT8
  -- what is known
  obtain ⟨_, rvs8, e, hrl8, hra8⟩ := id hrv8
  cases e
  refine ex_set (wpAny_BinOp (lcE (cl := []) rfl (nm H hro (itListA H hrl8 hra8 fun I St s S H => ?_))))
  refine lcV (JSel ps g8 [(T, TapeP c), (L + 1 + 1 + 1 + 1, CP none), (L + 1 + 1 + 1, CP none), (L + 1 + 1, CP none), (220, TabP), (128, TabP)] LIt (fun p o => o = some p.1)) S r.hh (.refl _) H .init (by omega) ?_ ?_
  · intro F' p rest out acc g9 led9 m9 s v hg hR H J
    obtain ⟨a, lv, rv, rfl, ht, hl, hr⟩ := LRow.mono' _ _ _ _ hg hR
    refine asP H r.hh ht fun s H => tests0 ?_
    rw [if_pos rfl]
    exact nm H ((if_neg (by decide)).trans (if_pos rfl)) ⟨g9, _, _, hg, H, J.step LIt.mono' (.refl _) hl rfl⟩
  intro l1 out1 g9' g9 led9 s hg9' hg9 hl1 J H
  obtain ⟨rfl, S9, ha1⟩ := J.fin LIt.mono' hg9
  clear J
  refine lcE2 (cl := []) rfl (nm H hro (itListA H (isList_mono hrl8 S9) (hra8.imp fun _ _ => LRow.mono' _ _ _ _ S9) fun I St s S H => ?_))
  refine flatV S r.hh H h6 hC.three fun kv ga s hsa hkv H => ?_
  obtain ⟨l2, _, rfl, _⟩ := id hkv
  have hfm : ps.filterMap (fun p => some p.1) = ps.map (·.1) := by rw [List.filterMap_eq_map']
  rw [hfm] at ha1
  have hfl : (ps.flatMap (·.2)).length ≤ 18 := by
    have : ∀ l : List Row2, (∀ p ∈ l, p.2.length ≤ 3) → (l.flatMap (·.2)).length ≤ 3 * l.length := fun l => by
      induction l with
      | nil => intro _; exact Nat.le_refl _
      | cons a l ih =>
        intro hq
        have h1 := hq a (.head _)
        have h2 := ih fun p hp => hq p (.tail _ hp)
        rw [List.flatMap_cons, List.length_append, List.length_cons]; omega
    have := this ps hC.three
    omega
  refine addLL LIt.mono' H ⟨l1, out1, rfl, isList_mono hl1 hsa, ha1.imp fun _ _ => LIt.mono' _ _ _ _ hsa⟩ hkv (by rw [List.length_map]; omega) fun kn gb s hsb hkn H => ?_
  have hkn : Lst LIt gb kn (knownL ps) := hkn
  refine stC (pre := [(T, TapeP c), (L + 1 + 1 + 1 + 1, CP none), (L + 1 + 1 + 1, CP none)]) H fun s H => ?_
  have H := H.perm (l := (L + 1 + 1, CP (some kn)) :: [(T, TapeP c), (L + 1 + 1 + 1 + 1, CP none), (L + 1 + 1 + 1, CP none), (220, TabP), (128, TabP)]) (List.perm_middle (l₁ := [(T, TapeP c), (L + 1 + 1 + 1 + 1, CP none), (L + 1 + 1 + 1, CP none)])).symm
  obtain ⟨gc, hck, hsc, H⟩ := H.cellF (Nat.le_succ_of_le (Nat.le_succ_of_le H.fresh))
  have S8c := S9.trans (hsa.trans (hsb.trans hsc))
  have kc := k8.mono S8c
  have hkn := hkn.mono LIt.mono' hsc
  -- the symbols
  refine ex_set ?_
  refine List_ ?_
  refine aC ?_
  refine tup0 (by exact H) ?_
  intro v1 q1 s hq1 h1 H
  refine aC ?_
  refine tup0 (by exact H) ?_
  intro v2 q2 s hq2 h2 H
  refine aC ?_
  refine tup0 (by exact H) ?_
  intro v3 q3 s hq3 h3 H
  refine aC ?_
  refine tup0 (by exact H) ?_
  intro v4 q4 s hq4 h4 H
  refine a1 ?_
  refine tup0 (by exact H) ?_
  intro v5 q5 s hq5 h5 H
  refine listL (R := LIt) (by exact H) cats5 (.cons (h1.mono (hq2.trans (hq3.trans (hq4.trans hq5)))) (.cons (h2.mono (hq3.trans (hq4.trans hq5))) (.cons (h3.mono (hq4.trans hq5)) (.cons (h4.mono hq5) (.cons h5 .nil))))) (by simp) ?_
  intro v gd s hsd hv H
  have hcv := hv LIt.mono'
  obtain ⟨ccl, cvs, rfl, hccl, hcca⟩ := id hcv
  have Scd := hq1.trans (hq2.trans (hq3.trans (hq4.trans (hq5.trans hsd))))
  refine stG (by exact H) ?_
  intro m7 s hm7 hm7' H
  have kd := kc.mono Scd
  have S8d := S8c.trans Scd
  have hro7 : m7 "rows" = some (.ref rl) := (hm7' _ (by decide)).trans hro
  have hgr7 : m7 "grammar" = some (.ref x) := (hm7' _ (by decide)).trans hgr
  have hrvd := hrv8.mono LRow.mono' S8d
  -- the corners
  refine ex_set (dictQ H fun dc s1 H1 hdc => ?_)
  have hdcz := H.was hdc
  have hdc1 : dc ≠ 1 := fun e => by rw [e] at hdcz; exact absurd (Nat.lt_of_lt_of_le (k.gt hs) hdcz) (by show ¬ 403 < 1; decide)
  clear H
  refine stC (pre := [(dc, DP prog w []), (T, TapeP c), (L + 1 + 1 + 1 + 1, CP none)]) H1 fun s H => ?_
  have H := H.perm (l := (L + 1 + 1 + 1, CP (some (.ref dc))) :: [(dc, DP prog w []), (T, TapeP c), (L + 1 + 1 + 1 + 1, CP none), (220, TabP), (128, TabP)]) (List.perm_middle (l₁ := [(dc, DP prog w []), (T, TapeP c), (L + 1 + 1 + 1 + 1, CP none)])).symm
  obtain ⟨ge, hcc, hse, H⟩ := H.cellF (Nat.le_succ_of_le (Nat.le_succ_of_le (Nat.le_succ_of_le H.fresh)))
  have ke := kd.mono hse
  have S8e := S8d.trans hse
  have hra5 : All2 (fun v i => LIt ge v i ∧ i ∈ cats5) cvs cats5 := (hcca.imp fun _ _ => LIt.mono' _ _ _ _ hse).andR fun i hi => hi
  refine ex_for (nm H hm7 (itListA H (isList_mono hccl hse) hra5 fun I St s S H => ?_))
  refine forL (fun rest g led m => ∃ cv xd G dn, led = (dc, DP prog w xd) :: [(T, TapeP c), (L + 1 + 1 + 1 + 1, CP cv), (220, TabP), (128, TabP)] ∧ EntL CanV g xd G ∧ cats5 = dn ++ rest ∧ G.map (·.1) = dn ∧ (∀ p ∈ G, ∀ y, y ∈ p.2 ↔ LC ps p.1 y) ∧ m = m7) S r.hh (.refl _) H
    ⟨none, [], [], [], rfl, .nil, rfl, rfl, fun _ h => (nomatch h), rfl⟩ ?_ ?_
  · rintro ct rest gf ledf m s cv hgf ⟨hlt0, hmem⟩ H ⟨cv0, xd, G, dn, rfl, hEn, hdn, hGk, hGv, hmm⟩
    rw [hmm] at H
    have kf := ke.mono hgf
    have hltf := hlt0.mono hgf
    obtain ⟨ca, _, _, rfl, _⟩ := id hltf
    refine wpAny_assign_Name (stC (pre := [(I, St rest), (dc, DP prog w xd), (T, TapeP c)]) H fun s H => ?_)
    refine ex_setI (Call_ (nmG H kf (g_law_corners _) (callW (kp388 _) (aC (nm H hro7 (a1 (nmCl (pre := [(I, St rest), (dc, DP prog w xd), (T, TapeP c)]) H ⟨H.K kf, ?_⟩)))))))
    obtain ⟨U, hU1, hU2, hU3⟩ := LC_U hC hmem
    refine corn_spec ((rr _).le (by decide) (by decide)) kf H.into (hrvd.mono LRow.mono' (hse.trans hgf)) hltf okp (by omega) hz2 hU1 hU2 hU3 fun v fs s gg Rg hv hfs => ?_
    have H := H.call0 Rg
    refine nmC H (hcc.mono (hgf.trans Rg.sub)) (nmCl (pre := [(I, St rest), (dc, DP prog w xd), (T, TapeP c)]) H ?_)
    have hEg := hEn.mono CanV.mono' Rg.sub
    have hltg := hltf.mono Rg.sub
    have hcG : ct ∉ G.map (·.1) := by
      rw [hGk]
      have hn5 : cats5.Nodup := by decide
      rw [hdn, List.nodup_append] at hn5
      exact fun q => hn5.2.2 _ q _ (.head _) rfl
    have hxl : xd.length ≤ 5 := by
      have h1 := hEn.length
      have h2 : G.length = dn.length := by rw [← hGk, List.length_map]
      have h3 := congrArg List.length hdn
      simp [cats5] at h3
      omega
    refine setD (pre := [(I, St rest)]) ((rr _).u (by decide)) H hEg.keys hltg.isg (by omega) fun s H => ex_nil ?_
    refine ⟨gg, _, _, hgf.trans Rg.sub, H, _, _, G ++ [(ct, fs)], dn ++ [ct], rfl, hEg.new hcG hltg hv, by rw [hdn]; simp, by rw [List.map_append, hGk]; rfl, fun p hp => ?_, rfl⟩
    rcases List.mem_append.mp hp with hp | hp
    · exact hGv p hp
    · cases List.mem_singleton.mp hp; exact hfs
  rintro gf ledf m s hgf H ⟨cv0, xd, G, dn, rfl, hEn, hdn, hGk, hGv, hmm⟩
  rw [hmm] at H
  clear hmm
  rw [List.append_nil] at hdn
  subst hdn
  obtain ⟨od, gg, hDP, hod, hsg, H⟩ := H.freeze hdcz
  have hDc : DictL prog w CanV gg (.ref dc) G := ⟨by rw [hGk]; decide, dc, od, xd, rfl, hdc1, hod, hDP, hEn.mono CanV.mono' hsg⟩
  have Seg := hgf.trans hsg
  have S8g := S8e.trans Seg
  have kg := ke.mono Seg
  have hccg := hcc.mono Seg
  have hckg := hck.mono (Scd.trans (hse.trans Seg))
  have hkng := hkn.mono LIt.mono' (Scd.trans (hse.trans Seg))
  have hcvg := hcv.mono LIt.mono' (hse.trans Seg)
  have hIg := hI8.mono S8g
  have hGg := hG8.mono S8g
  have hrvg := hrv8.mono LRow.mono' S8g
  have hctg := hct8.mono S8g
  have hcg := hc8.mono S8g
  clear hEn hdcz hDP hod
  -- by symbol
  obtain ⟨_, cvs2, e, hcclg, hccag⟩ := id hcvg
  cases e
  have hra6 : All2 (fun v i => LIt gg v i ∧ i ∈ cats5) cvs2 cats5 := hccag.andR fun i hi => hi
  refine ex_for (nm H hm7 (itListA H hcclg hra6 fun I St s S H => ?_))
  refine forL (fun rest g led m => ∃ cv, led = [(T, TapeP c), (L + 1 + 1 + 1 + 1, CP cv), (220, TabP), (128, TabP)] ∧ ∀ z, z ∉ lawN → m z = m7 z) S r.hh (.refl _) H ⟨cv0, rfl, fun _ _ => rfl⟩ ?_ ?_
  · rintro ct rest gh ledh m s cv hgh ⟨hlt0, hmem⟩ H ⟨cv1, rfl, hmm⟩
    have kh := kg.mono hgh
    have hlth := hlt0.mono hgh
    obtain ⟨ca, _, _, rfl, _⟩ := id hlth
    obtain ⟨pG, hpG, hpe⟩ := List.mem_map.mp (show ct ∈ G.map (·.1) by rw [hGk]; exact hmem)
    have hpm : (ct, pG.2) ∈ G := by rw [← hpe]; exact hpG
    have hfs : ∀ y, y ∈ pG.2 ↔ LC ps ct y := fun y => by have := hGv pG hpG y; rw [hpe] at this; exact this
    generalize pG.2 = fs at hpm hfs
    clear hpG hpe
    obtain ⟨U, hU1, hU2, hU3⟩ := LC_U hC hmem
    have hfN : ∀ y ∈ fs, y ∈ isN := fun y hy => hU2 y (hU3 y ((hfs y).mp hy))
    have octt := okS_isN (cats5_isN hmem)
    have hgr2 : m "grammar" = some (.ref x) := (hmm _ (by decide)).trans hgr7
    have hro2 : m "rows" = some (.ref rl) := (hmm _ (by decide)).trans hro7
    have hca2 : m "cats" = some (.ref ccl) := (hmm _ (by decide)).trans hm7
    refine wpAny_assign_Name (stC (pre := [(I, St rest), (T, TapeP c)]) H fun s H => ?_)
    refine ex_if (tcmp1 (Call_ (nmB H kh g_sorted (e := n_sorted _) (callB (a1 (lcE (cl := []) rfl (MethodCall_ (nm H hgr2 (meth H kh (c334 _) (hIg.mono hgh) (M_leftcorners _) (hGg.no _ (by decide)) (callW (M_leftcorners _).k (a1 (Call_ (nmG H kh (g_law_item _) (callW (kp364 _) (a1 (nmCl (pre := [(I, St rest), (T, TapeP c)]) H ⟨H.K kh, ?_⟩))))))))))))))))
    refine litem_spec ((rr _).le (by decide) (by decide)) kh H.into hlth fun iv s g1 R1 hiv => ?_
    have H := H.call0 R1
    have k1 := kh.mono R1.sub
    have Sg1 := hgh.trans R1.sub
    refine ⟨H.K k1, lcorn_spec ((rr _).le (by decide) (by decide)) k1 H.into (hIg.mono Sg1) (hGg.mono Sg1) hiv fun v js s g2 R2 hv hjs => ?_⟩
    have H := H.call0 R2
    have hjn : js.Nodup := by obtain ⟨_, _, _, _, _, _, _, hE⟩ := hv; exact hE.1
    have hjl : js.length ≤ 4 := Nat.le_trans (nodup_le hjn fun y hy => hU3 y ((hjs y).mp hy)) hU1
    refine sIterA H hv fun I2 St2 is g3 s hs3 hpm3 S2 H => ?_
    have Sg3 := Sg1.trans (R2.sub.trans hs3)
    have k3' := kg.mono Sg3
    refine lcV (JSel is g3 [(I, St rest), (T, TapeP c), (L + 1 + 1 + 1 + 1, CP (some (.ref ca))), (220, TabP), (128, TabP)] LIt (fun j o => o = some j)) S2 r.hh (.refl _) H .init (by rw [hpm3.length_eq]; omega) ?_ ?_
    · intro F' j rest2 out acc g4 led4 m4 s v hg hR H J
      have k4' := k3'.mono hg
      refine asN H fun s H => tests0 ?_
      rw [if_pos rfl]
      refine Call_ (nmG H k4' (g_law_pair _) (callW (kp371 _) (a1 (nm H (if_pos rfl) ⟨H.K k4', ?_⟩))))
      exact lpair_spec ((rr _).le (by decide) (by decide)) k4' H.into (.inl (hR.mono hg)) fun v2 s g5 R5 hv2 => ⟨g5, _, _, hg.trans R5.sub, H.call0 R5, J.step LIt.mono' R5.sub hv2 rfl⟩
    intro l4 out4 g4' g4 led4 s hg4' hg4 hl4 J H
    obtain ⟨rfl, S34, ha4⟩ := J.fin LIt.mono' hg4
    clear J
    have ha4 : All2 (LIt g4) out4 is := by
      have e : is.filterMap (fun i => some i) = is := by rw [List.filterMap_eq_map']; simp
      rw [e] at ha4; exact ha4
    have hiLC : ∀ y, y ∈ is ↔ LC ps ct y := fun y => hpm3.mem_iff.trans (hjs y)
    refine sortedL ((rr _).u (by decide)) H hl4 ha4 (fun y hy => hU2 y (hU3 y ((hiLC y).mp hy))) (hpm3.nodup_iff.mpr hjn) (by rw [hpm3.length_eq]; exact hjl) fun v5 g5 s hs5 hv5 H => ?_
    have Sg5 := Sg3.trans (S34.trans hs5)
    have hlt5 := hlt0.mono Sg5
    refine Subscript_ (nmC H (hccg.mono Sg5) (nmCl (pre := [(I, St rest), (T, TapeP c)]) H (ixL (j := ct) (y := fs) ((rr _).u (by decide)) H (hDc.mono CanV.mono' Sg5) hlt5 hpm fun u s H hu => ?_)))
    refine dIt'.lst.ne ((rr _).u (by decide)) H hv5 hu okCanon okCanon (tr_b ?_)
    rw [decT (canon_ext fun y => (hiLC y).trans (hfs y).symm), Bool.not_true, if_neg Bool.false_ne_true]
    refine ex_nil ?_
    -- begun
    have k5' := kg.mono Sg5
    obtain ⟨_, rvs5, e, hrl5, hra5⟩ := hrvg.mono LRow.mono' Sg5
    cases e
    refine ex_setC (cl := [("corners", L + 1 + 1 + 1), ("cat", L + 1 + 1 + 1 + 1)]) rfl (nm H hro2 (itListA H hrl5 hra5 fun I2 St2 s S2 H => ?_))
    refine lcU (JSel ps g5 [(I, St rest), (T, TapeP c), (L + 1 + 1 + 1 + 1, CP (some (.ref ca))), (220, TabP), (128, TabP)] LIt (fun p o => o = begF fs p)) S2 r.hh (.refl _) H .init (by omega) ?_ ?_
    · intro F' p rest2 out acc g6 led6 m6 s v hg hR H J
      have e := J.1
      subst e
      obtain ⟨a, lv, rv, rfl, ht, hl, hr⟩ := LRow.mono' _ _ _ _ hg hR
      have k6' := k5'.mono hg
      have hpm6 := J.mem
      have hzp := hz2 p hpm6
      refine asP H r.hh ht fun s H => tests1 (isTrue_and (tcmp1 (nm H ((if_neg (by decide)).trans (if_pos rfl)) (Subscript_ (nmC H (hccg.mono (Sg5.trans hg)) (nmCl (pre := [(I2, St2 rest2), (acc, LP out), (I, St rest), (T, TapeP c)]) H (ixL (j := ct) (y := fs) ((rr _).u (by decide)) H (hDc.mono CanV.mono' (Sg5.trans hg)) (hlt5.mono hg) hpm fun u s H hu => ?_)))))))
      obtain ⟨cl, cvs7, rfl, hcl, hca⟩ := hu
      refine dIt'.inL ((rr _).u (by decide)) H (isList_mono hcl H.into) hca hl okCanon (okp p hpm6).1 (tr_b ?_)
      by_cases q : p.1 ∈ canon fs
      · rw [decT q, if_pos rfl]
        refine isTrue_and (tcmp1 (Call_ (nmB H k6' g_len (e := n_len _) (callB (a1 (nm H (if_pos rfl) (lenLs H hr (by omega) fun t s H => cst_i H fun t2 s H => P.gt_int (tr_b ?_))))))))
        rw [gtI0]
        cases hp2 : p.2 with
        | nil =>
          rw [decF (by simp), if_neg Bool.false_ne_true, if_neg Bool.false_ne_true]
          exact ⟨g6, _, _, hg, H, J.pass LIt.mono' (.refl _) (by unfold begF; rw [if_pos q, hp2]; rfl)⟩
        | cons i is2 =>
          rw [decT (by simp), if_pos rfl]
          refine isTrue_and_nil ?_
          rw [if_pos rfl]
          obtain ⟨rrl, _, rfl, _⟩ := id hr
          refine Subscript_ (nm H (if_pos rfl) (cst_i H fun t s H => pickL (n := 0) H hr (by rw [hp2]; simp) (by omega) fun v hR3 => ?_))
          rw [show p.2[0]'(by rw [hp2]; simp) = i by simp [hp2]] at hR3
          exact ⟨g6, _, _, hg, H, J.step LIt.mono' (.refl _) hR3 (by unfold begF; rw [if_pos q, hp2]; rfl)⟩
      · rw [decF q, if_neg Bool.false_ne_true, if_neg Bool.false_ne_true]
        exact ⟨g6, _, _, hg, H, J.pass LIt.mono' (.refl _) (by unfold begF; rw [if_neg q])⟩
    intro bl bout g6' g6 led6 s hg6' hg6 hbl J H
    obtain ⟨e6, S56, hba⟩ := J.fin LIt.mono' hg6
    subst e6
    clear J
    have Sg6 := Sg5.trans S56
    have k6' := kg.mono Sg6
    have hbi : ∀ y ∈ ps.filterMap (begF fs), okS y := fun y hy => by
      obtain ⟨p, hp, e⟩ := List.mem_filterMap.mp hy
      unfold begF at e
      by_cases q : p.1 ∈ canon fs
      · rw [if_pos q] at e; exact (okp p hp).2 y (List.mem_of_mem_head? e)
      · rw [if_neg q] at e; cases e
    generalize hm3 : (fun z => if z = Str.ofString "begun" then some (Value.ref bl) else m z) = m3 at H
    have hb3 : m3 "begun" = some (.ref bl) := by rw [← hm3]; exact if_pos rfl
    have ho3 : ∀ z, z ∉ lawN → m3 z = m7 z := fun z hz => by rw [← hm3]; exact (if_neg (fun e => hz (by rw [e]; decide))).trans (hmm z hz)
    clear hm3
    have hcv6 := hcvg.mono LIt.mono' Sg6
    refine ex_for ?_
    refine wpAny_BinOp ?_
    refine nm (by exact H) ((ho3 _ (by decide)).trans hm7) ?_
    refine List_ ?_
    refine aC ?_
    refine tup1 (by exact H) ?_
    intro va ga s hsa hfa H
    refine aC ?_
    refine tup1 (by exact H) ?_
    intro vb gb' s hsb hfb H
    refine a1 ?_
    refine tup1 (by exact H) ?_
    intro vc gc' s hsc' hfc H
    refine listL (R := LIt) (by exact H) [itW "x", itW "y", itW "z"] (.cons (hfa.mono (hsb.trans hsc')) (.cons (hfb.mono hsc') (.cons hfc .nil))) (by simp) ?_
    intro v gd' s hsd' hv H
    have hv := hv LIt.mono'
    obtain ⟨l2, _, rfl, _⟩ := id hv
    refine addLL LIt.mono' H (hcv6.mono LIt.mono' (hsa.trans (hsb.trans (hsc'.trans hsd')))) hv (by decide) fun fv ge' s hse' hfv H => ?_
    have S6e := (hsa.trans (hsb.trans (hsc'.trans hsd'))).trans hse'
    obtain ⟨ll, lvs, rfl, hll, hla⟩ := hfv
    refine itListA H hll (hla.andR fun i hi => hi) fun I2 St2 s S2 H => ?_
    have Sge := Sg6.trans S6e
    refine forL (fun rest2 g led m => led = [(I, St rest), (T, TapeP c), (L + 1 + 1 + 1 + 1, CP (some (.ref ca))), (220, TabP), (128, TabP)] ∧ m "begun" = some (.ref bl) ∧ ∀ z, z ∉ lawN → m z = m7 z) S2 r.hh (.refl _) H ⟨rfl, hb3, ho3⟩ ?_ ?_
    · rintro lf rest2 gi ledi mi s lv hgi ⟨hlf0, hlmem⟩ H ⟨rfl, hbi', hoi⟩
      have Sgi := Sge.trans hgi
      have ki := kg.mono Sgi
      have hlf := hlf0.mono hgi
      have hlti := hlt0.mono Sgi
      have olf : okS lf := by
        have : (cats5 ++ [itW "x", itW "y", itW "z"]).all (fun i => PyData.strOk i.n) = true := by decide +kernel
        exact List.all_eq_true.mp this lf hlmem
      obtain ⟨la, lt1, lt2, rfl, hla2⟩ := id hlf
      refine asN H fun s H => ?_
      generalize hm4 : (fun z => if z = Str.ofString "left" then some (Value.ref la) else mi z) = mj at H
      have hl4 : mj "left" = some (.ref la) := by rw [← hm4]; exact if_pos rfl
      have hb4 : mj "begun" = some (.ref bl) := by rw [← hm4]; exact (if_neg (by decide)).trans hbi'
      have ho4 : ∀ z, z ∉ lawN → mj z = m7 z := fun z hz => by rw [← hm4]; exact (if_neg (fun e => hz (by rw [e]; decide))).trans (hoi z hz)
      clear hm4
      refine ex_set (wpAny_mono (E := no) (Q := fun v s' => v = .bool (dueB fs (ps.filterMap (begF fs)) lf) ∧ In ⟨s0, g, List.map (fun x => x.1) [((220 : Addr), TabP), (128, TabP)], L⟩ gi [(I2, St2 rest2), (I, St rest), (T, TapeP c), (L + 1 + 1 + 1 + 1, CP (some (.ref ca))), (220, TabP), (128, TabP)] mj s') (IfExp_ (tcmp1 (Subscript_ (nm H hl4 (cst_i H fun t s H => ixT0 H hla2 (cst_i H fun u s H => P.eq_int (tr_b ?_))))))) (fun v s' q => ?_) fun _ _ q => q.elim)
      · rw [eqT0]
        by_cases q : lf.t = false
        · rw [decT q, if_pos rfl]
          refine cmp1 (nm H hl4 (Subscript_ (nmC H (hccg.mono Sgi) (nmCl (pre := [(I2, St2 rest2), (I, St rest), (T, TapeP c)]) H (ixL (j := ct) (y := fs) ((rr _).u (by decide)) H (hDc.mono CanV.mono' Sgi) hlti hpm fun u s H hu => ?_)))))
          obtain ⟨cl, cvs7, rfl, hcl, hca⟩ := hu
          exact dIt'.inL ((rr _).u (by decide)) H (isList_mono hcl H.into) hca hlf okCanon olf ⟨by unfold dueB; rw [if_pos q], H⟩
        · rw [decF q, if_neg Bool.false_ne_true]
          exact cmp1 (nm H hl4 (nm H hb4 (dIt'.inL ((rr _).u (by decide)) H (isList_mono hbl ((S6e.trans hgi).trans H.into)) (hba.imp fun _ _ => LIt.mono' _ _ _ _ (S6e.trans hgi)) hlf hbi olf ⟨by unfold dueB; rw [if_neg q], H⟩)))
      obtain ⟨rfl, H⟩ := q
      refine stG H fun mk s hmk hmk' H => ?_
      have hlk : mk "left" = some (.ref la) := (hmk' _ (by decide)).trans hl4
      have hbk : mk "begun" = some (.ref bl) := (hmk' _ (by decide)).trans hb4
      have hok : ∀ z, z ∉ lawN → mk z = m7 z := fun z hz => (hmk' _ (fun e => hz (by rw [e]; decide))).trans (ho4 z hz)
      have hgrk : mk "grammar" = some (.ref x) := (hok _ (by decide)).trans hgr7
      refine ex_if (tcmp1 (MethodCall_ (nm H hgrk (meth H ki (c334 _) (hIg.mono Sgi) (M_is_leftcorner _) (hGg.no _ (by decide)) (callW (M_is_leftcorner _).k (aC (Call_ (nmG H ki (g_law_item _) (callW (kp364 _) (a1 (nmCl (pre := [(I2, St2 rest2), (I, St rest), (T, TapeP c)]) H ⟨H.K ki, ?_⟩)))))))))))
      refine litem_spec ((rr _).le (by decide) (by decide)) ki H.into hlti fun iv s g1 R1 hiv => ?_
      have H := H.call0 R1
      have k1 := ki.mono R1.sub
      refine a1 (Call_ (nmG H k1 (g_law_item _) (callW (kp364 _) (a1 (nm H hlk ⟨H.K k1, ?_⟩)))))
      refine litem_spec ((rr _).le (by decide) (by decide)) k1 H.into (hlf.mono R1.sub) fun iv2 s g2 R2 hiv2 => ?_
      have H := H.call0 R2
      have k2 := k1.mono R2.sub
      have Sg2 := Sgi.trans (R1.sub.trans R2.sub)
      refine ⟨H.K k2, isLC_spec ((rr _).le (by decide) (by decide)) k2 H.into (hIg.mono Sg2) (hGg.mono Sg2) (hiv.mono R2.sub) hiv2 hC.ne h6 fun b s g3 R3 hb => ?_⟩
      have H := H.call0 R3
      refine nm H hmk (dB'.ne ((rr _).u (by decide)) H rfl rfl trivial trivial (tr_b ?_))
      rw [decT (Bool.eq_iff_iff.mpr (hb.trans (due_iff hfs hfN).symm)), Bool.not_true, if_neg Bool.false_ne_true]
      exact ex_nil (ex_nil ⟨g3, _, _, hgi.trans (R1.sub.trans (R2.sub.trans R3.sub)), H, rfl, hbk, hok⟩)
    rintro gi ledi mi s hgi H ⟨rfl, hbi', hoi⟩
    exact ex_nil ⟨gi, _, _, Sge.trans hgi, H, some _, rfl, hoi⟩
  rintro gz ledz mz s hgz H ⟨cvz, rfl, hoz⟩
  have kz := kg.mono hgz
  have hctz := hctg.mono hgz
  have hcz := hcg.mono hgz
  obtain ⟨knl, kvs, hkne, hknl, hkna⟩ := id hkng
  have hckg : CellAt gg (L + 1 + 1) (.ref knl) := hkne ▸ hckg
  have hokn : ∀ i ∈ knownL ps, okS i := fun i hi => by
    unfold knownL at hi
    rcases List.mem_append.mp hi with q | q
    · obtain ⟨p, hp, rfl⟩ := List.mem_map.mp q
      exact (okp p hp).1
    · obtain ⟨p, hp, q⟩ := List.mem_flatMap.mp q
      exact (okp p hp).2 i q
  refine ex_setC (cl := [("tape", L + 1)]) rfl ?_
  refine Call_ (nmB H kz g_range (e := n_range _) (callT (a1 (Call_ (nmG H kz (g_take _) (callW (kp357 _) (aC (nmC H hctz (a1 (cst_i H fun t2 s H => ⟨H.K kz, ?_⟩))))))))))
  refine takeIn (pre := []) (M := 4) ((rr _).le (by decide) (by decide)) kz H hcz (by decide) fun n4 t ga s hn4 hsa H => ?_
  have ka := kz.mono hsa
  refine itRange H (by omega) fun I St s S H => ?_
  refine lcU (JSel (List.range n4) ga [(T, TapeP c), (L + 1 + 1 + 1 + 1, CP cvz), (220, TabP), (128, TabP)] WordAt (fun _ o => ∃ y ∈ [Str.ofString "x", Str.ofString "y", Str.ofString "z"], o = some y)) S r.hh (.refl _) H .init (by rw [List.length_range]; omega) ?_ ?_
  · rintro F' x2 rest2 out acc gf led2 m2 s v hg ⟨tk2, rfl⟩ H J
    have e := J.1
    subst e
    have kf := ka.mono hg
    refine asN H fun s H => tests0 ?_
    rw [if_pos rfl]
    refine Subscript_ (cst_s H fun ts s H => Call_ (nmG H kf (g_take _) (callW (kp357 _) (aC (nmC H (hctz.mono (hsa.trans hg)) (a1 (cst_i H fun t2 s H => ⟨H.K kf, ?_⟩)))))))
    refine takeIn (pre := [(I, St rest2), (acc, LP out)]) (M := 3) ((rr _).le (by decide) (by decide)) kf H (hcz.mono (hsa.trans hg)) (by decide) fun n3 t gg' s hn3 hsg H => ?_
    have hch : ∃ ch, (seqIndex? (n3 : Nat) (Str.ofString "xyz").length).bind ((Str.ofString "xyz").cps[·]?) = some ch ∧ (⟨#[ch]⟩ : Str) ∈ [Str.ofString "x", Str.ofString "y", Str.ofString "z"] := by
      have : n3 = 0 ∨ n3 = 1 ∨ n3 = 2 := by omega
      rcases this with rfl | rfl | rfl
      · exact ⟨120, by decide +kernel, by decide +kernel⟩
      · exact ⟨121, by decide +kernel, by decide +kernel⟩
      · exact ⟨122, by decide +kernel, by decide +kernel⟩
    obtain ⟨ch, hch, hchm⟩ := hch
    exact ixS H (by omega) hch fun t s H => ⟨gg', _, _, hg.trans hsg, H, J.step WordAt.mono' hsg ⟨_, rfl⟩ ⟨_, hchm, rfl⟩⟩
  intro wl wout gb' gb ledb s hgb' hgb hwl J H
  obtain ⟨e, Sab, ws, hSel, hwa⟩ := J.done WordAt.mono' hgb
  subst e
  clear J
  have hwz : ws.length ≤ 3 := by have := hSel.length_le; rw [List.length_range] at this; omega
  have hwx : ∀ y ∈ ws, y ∈ [Str.ofString "x", Str.ofString "y", Str.ofString "z"] := hSel.allIn
  generalize hm5 : (fun z => if z = Str.ofString "words" then some (Value.ref wl) else mz z) = m5 at H
  have hw5 : m5 "words" = some (.ref wl) := by rw [← hm5]; exact if_pos rfl
  have ho5 : ∀ z, z ∉ lawN → z ≠ Str.ofString "words" → m5 z = m7 z := fun z hz h2 => by rw [← hm5]; exact (if_neg h2).trans (hoz z hz)
  clear hm5
  have Sgb := hgz.trans (hsa.trans Sab)
  have kb := kg.mono Sgb
  -- covered
  refine ex_set (cmp1 (Call_ (nmB H kb g_len (e := n_len _) (callB (a1 (lcE (cl := [("known", L + 1 + 1)]) rfl (nm H hw5 (itListA H hwl hwa fun I St s S H => ?_))))))))
  refine lcV (JSel ws gb [(T, TapeP c), (L + 1 + 1 + 1 + 1, CP cvz), (220, TabP), (128, TabP)] WordAt (fun y o => o = if itW y ∈ knownL ps then none else some y)) S r.hh (.refl _) H .init (by omega) ?_ ?_
  · intro F' y rest out acc gd led6 m6 s v hg hR H J
    have e := J.1
    subst e
    obtain ⟨tk, rfl⟩ := id hR
    refine asN H fun s H => tests1 (tcmp1 (tup (aC (cst_i H fun t1 s H => a1 (nm H (if_pos rfl) (newT H fun a g8 s hs8 ht H => ?_))))))
    have Sg8 := Sgb.trans (hg.trans hs8)
    refine nmC H (hckg.mono Sg8) (dIt'.notInL (b := itW y) ((rr _).u (by decide)) H (isList_mono hknl (Sg8.trans H.into)) (hkna.imp fun _ _ => LIt.mono' _ _ _ _ Sg8) ⟨a, t1, tk, rfl, ht⟩ hokn (okS_x (hwx y J.mem)) (tr_b ?_))
    by_cases q : itW y ∈ knownL ps
    · rw [decT q, Bool.not_true, if_neg Bool.false_ne_true]
      exact ⟨g8, _, _, hg.trans hs8, H, J.pass WordAt.mono' hs8 (by rw [if_pos q])⟩
    · rw [decF q, Bool.not_false, if_pos rfl]
      exact nm H (if_pos rfl) ⟨g8, _, _, hg.trans hs8, H, J.step WordAt.mono' hs8 hR (by rw [if_neg q])⟩
  intro l7 out7 gd' gd led7 s hgd' hgd hl7 J H
  obtain ⟨rfl, Sbd, ha7⟩ := J.fin WordAt.mono' hgd
  clear J
  refine lenLs (xs := ws.filterMap fun y => if itW y ∈ knownL ps then none else some y) H ⟨l7, out7, rfl, hl7, ha7⟩ (Nat.le_trans (List.length_filterMap_le _ _) (by omega)) fun t s H => cst_i H fun t2 s H => P.eq_int ?_
  rw [eqI0]
  have hcov : decide ((ws.filterMap fun y => if itW y ∈ knownL ps then none else some y).length = 0) = true ↔ ∀ y ∈ ws, hasW ps y := by
    rw [decide_eq_true_iff, List.length_eq_zero_iff, List.filterMap_eq_nil_iff]
    refine forall_congr' fun y => forall_congr' fun _ => ?_
    rw [← known_w hC y]
    by_cases q : itW y ∈ knownL ps
    · simp [q]
    · simp [q]
  generalize decide ((ws.filterMap fun y => if itW y ∈ knownL ps then none else some y).length = 0) = cb at hcov
  refine stG H fun m8 s hm8 hm8' H => ?_
  have hw8 : m8 "words" = some (.ref wl) := (hm8' _ (by decide)).trans hw5
  have hgr8 : m8 "grammar" = some (.ref x) := (hm8' _ (by decide)).trans ((ho5 _ (by decide) (by decide)).trans hgr7)
  have hro8 : m8 "rows" = some (.ref rl) := (hm8' _ (by decide)).trans ((ho5 _ (by decide) (by decide)).trans hro7)
  have Sgd := Sgb.trans Sbd
  have kd' := kg.mono Sgd
  -- the sentence
  refine wpAny_execs_cons (wpAny_Try_except ?_)
  refine ex_expr (MethodCall_ (nm H hgr8 (meth H kd' (c334 _) (hIg.mono Sgd) (M_check_coverage _) (hGg.no _ (by decide)) (callW (M_check_coverage _).k (a1 (nm H hw8 ⟨H.K kd', ?_⟩))))))
  obtain ⟨oL, es, ep, hoL, hdL, _⟩ := H.ns
  refine cover_spec (base' := gd) (Around.frames_deeper hfr) ⟨by show ScopeKind.function ≠ .module; decide, ⟨L, oL, rfl, H.off, hoL, fun vs q => by rw [hdL] at q; cases q⟩, trivial⟩ ((rr _).le (by decide) (by decide)) kd' H.into (hIg.mono Sgd) (hGg.mono Sgd) ⟨wl, wout, rfl, isList_mono hwl Sbd, hwa.imp fun _ _ => WordAt.mono' _ _ _ _ Sbd⟩ (by omega) (fun hall s gf R1 => ?_) fun hex e s' Th => ?_
  · have H := H.call0 R1
    have kf := kd'.mono R1.sub
    refine ⟨rfl, ex_nil (ex_nil (ex_ret (BoolOp_and (nm H hm8 (tr_b ?_)))))⟩
    rw [hcov.mpr hall, if_pos rfl]
    refine BoolOp_one (cmp1 (Call_ (nmG H kf (g_law_rows _) (callW (kp376 _) (a1 (MethodCall_ (nm H hgr8 (meth H kf (c334 _) (hIg.mono (Sgd.trans R1.sub)) (M_productions _) (hGg.no _ (by decide)) (callW0 (H.K kf) (M_productions _).k ?_)))))))))
    refine prod0 ((rr _).le (by decide) (by decide)) kf H.into (hIg.mono (Sgd.trans R1.sub)) (hGg.mono (Sgd.trans R1.sub)).ix fun v s gh2 R2 hv => ?_
    have H := H.call0 R2
    have kh := kf.mono R2.sub
    refine ⟨H.K kh, lrows_spec ((rr _).le (by decide) (by decide)) kh H.into hv (by omega) (fun p hp => Nat.le_trans (hz2 p hp) (by decide)) fun v2 s gi2 R3 hv2 => ?_⟩
    have H := H.call0 R3
    refine nm H hro8 (dRow'.lst.eq ((rr _).u (by decide)) H hv2 (hrvg.mono LRow.mono' (Sgd.trans (R1.sub.trans (R2.sub.trans R3.sub)))) okp okp ?_)
    rw [decT rfl]
    exact h _ _ H.rel (H.tabM (by simp)) (H.tabM (by simp))
  · refine catchT H kd' (Around.frames_deeper hfr) rfl Th (fun a ha => nomatch ha) fun s2 H2 => ?_
    refine ex_ret (UnaryOp_ (nm H2 hm8 (not_of (tr_b ?_))))
    have hcf : cb = false := by
      cases hb : cb with
      | false => rfl
      | true =>
        obtain ⟨y, hy, hn⟩ := hex
        exact absurd (hcov.mp hb y hy) hn
    rw [hcf]
    exact h _ _ H2.rel (H2.tabM (by simp)) (H2.tabM (by simp))
end
end Mine
end

section
open PySem PySem.W PySem.Calls PyProof.Rows
set_option maxRecDepth 100000
namespace Mine
/-- the head's part, and the two tables of genexpr codes that the walk writes to -/
noncomputable def K2 : Params → Frag := fun P => hd.heap_39 P ++ [(128, tabE), (220, tabE)]
theorem no128 (P : Params) : (hd.heap_39 P).lookup 128 = none := by kernel_rfl
theorem no220 (P : Params) : (hd.heap_39 P).lookup 220 = none := by kernel_rfl
theorem n_law (P : Params) : nsIn (hd.heap_39 P) mainGlobals "law" = some (some (.ref 403)) := by kernel_rfl
theorem lookup_app {α β : Type} [BEq α] : ∀ (l r : List (α × β)) (a : α), (l ++ r).lookup a = (l.lookup a).or (r.lookup a)
  | [], _, _ => rfl
  | p :: l, r, a => by
    rw [List.cons_append, List.lookup_cons, List.lookup_cons]
    split
    · rfl
    · exact lookup_app l r a
theorem intsAll : ∀ {vs : List Value} {ns : List Int} (g : Heap), IntsAre vs ns → All2 (IntV g) vs ns
  | _, _, _, .nil => .nil
  | _, _, g, .cons n t h => .cons ⟨t, rfl⟩ (intsAll g h)
theorem law_row {p : Program} {prog : Program} {w : World} {mg mb : Str → Option Value} {loose : List Str} {mean : ExcName → Option Value} {s1 : Shared} {sl fa : Addr} {vs : List Value} {ns : List Int} {R : Result → Shared → Prop}
    (T : Top p loose mean mg mb s1.heap) (KX : (K2 w.params).In s1.heap) (hg : s1.gens = #[]) (hmg : mg "law" = some (.ref fa))
    (hL : s1.heap.IsList sl vs.toArray) (hI : IntsAre vs ns) (hz : ns.length ≤ 63)
    (h : ∀ s', OldK s1.heap s'.heap → s'.os = s1.os → AllBare s'.gens → R (.ok (.ret (.bool true))) s') : codeAny (model prog w) callerA (.call (.ref fa) ⟨[.ref sl], []⟩) R s1 := by
  obtain ⟨bm, ob, M⟩ := bmod_of_top T
  have hX0 : (hd.heap_39 w.params).In s1.heap := fun a o e => KX a o (by unfold K2; rw [lookup_app, e]; rfl)
  have o128 : s1.heap.get? 128 = some tabE := KX 128 _ (by unfold K2; rw [lookup_app, no128]; rfl)
  have o220 : s1.heap.get? 220 = some tabE := KX 220 _ (by unfold K2; rw [lookup_app, no220]; rfl)
  have hfa : fa = 403 := by
    have := mg_of hX0 T.g (n_law w.params)
    rw [this] at hmg
    cases hmg; rfl
  subst hfa
  have hsub : Sub (hideAll s1.heap [128, 220]) s1.heap := fun b o e => of_hideAll _ e
  have hkeep : ∀ b o, s1.heap.get? b = some o → b ≠ 128 → b ≠ 220 → (hideAll s1.heap [128, 220]).get? b = some o := fun b o e h1 h2 => hideAll_get _ e (by
    intro q
    simp only [List.mem_cons, List.not_mem_nil, or_false] at q
    rcases q with q | q
    · exact h1 q
    · exact h2 q)
  have hcls : ∀ b o, s1.heap.get? b = some o → o.cls ≠ .none → (hideAll s1.heap [128, 220]).get? b = some o := fun b o e hc => hkeep b o e
    (fun q => by rw [q, o128] at e; cases e; exact hc rfl) (fun q => by rw [q, o220] at e; cases e; exact hc rfl)
  have ns : ∀ a f, a ≠ 128 → a ≠ 220 → s1.heap.Ns a f → (hideAll s1.heap [128, 220]).Ns a f := fun a f h1 h2 ⟨o, es, ep, e, r⟩ => ⟨o, es, ep, hkeep _ _ e h1 h2, r⟩
  have k : KB w mg mb (hideAll s1.heap [128, 220]) := by
    refine ⟨fun a o e => hkeep _ _ (hX0 a o e) (fun q => by rw [q, no128] at e; cases e) (fun q => by rw [q, no220] at e; cases e), ns _ _ (by decide) (by decide) T.g, ns _ _ (by decide) (by decide) T.b, ?_, T.builtins, ?_⟩
    · obtain ⟨mc, a, b⟩ := T.nolimit
      exact ⟨mc, ns _ _ (by decide) (by decide) a, b⟩
    · exact ⟨bm, ob, ns _ _ (by decide) (by decide) T.g, M.name, M.ne, hcls _ _ M.obj (by rw [M.cls]; intro q; cases q), M.cls, M.dict, M.data⟩
  have t1 : Tab (hideAll s1.heap [128, 220]) 220 s1 := ⟨⟨_, o220, #[], rfl, trivial⟩, hideAll_none _ (by simp)⟩
  have t2 : Tab (hideAll s1.heap [128, 220]) 128 s1 := ⟨⟨_, o128, #[], rfl, trivial⟩, hideAll_none _ (by simp)⟩
  have T128 : s1.heap.TableAt 132 128 #[] := ((cd132 k).keeps hsub).tab o128
  have T220 : s1.heap.TableAt 224 220 #[] := ((cd224 k).keeps hsub).tab o220
  refine law_spec rfl ⟨rfl, by decide, by decide⟩ k hsub ⟨sl, vs, rfl, ?_, intsAll _ hI⟩ hz t1 t2 fun s' g' R' u1 u2 => h s' ⟨fun b o e => ?_, fun b o e => ?_⟩ R'.os fun y hy => ?_
  · obtain ⟨o, e, hc, r⟩ := hL
    exact ⟨o, hcls _ _ e (by rw [hc]; intro q; cases q), hc, r⟩
  · by_cases h1 : b = 128
    · subst h1
      rw [o128] at e
      cases e
      obtain ⟨⟨o', ho', ps, rfl, _⟩, _⟩ := u2
      exact .inr (.inl ⟨T128.isCodeTable, rfl, #[], ps, rfl, by rw [ho']; simp [tabObj]⟩)
    · by_cases h2 : b = 220
      · subst h2
        rw [o220] at e
        cases e
        obtain ⟨⟨o', ho', ps, rfl, _⟩, _⟩ := u1
        exact .inr (.inl ⟨T220.isCodeTable, rfl, #[], ps, rfl, by rw [ho']; simp [tabObj]⟩)
      · exact .inl (R'.keep b o (by simp [h1, h2]) e)
  · by_cases h1 : b = 128
    · subst h1
      obtain ⟨⟨o', ho', _⟩, _⟩ := u2
      exact ⟨o', ho'⟩
    · by_cases h2 : b = 220
      · subst h2
        obtain ⟨⟨o', ho', _⟩, _⟩ := u1
        exact ⟨o', ho'⟩
      · exact ⟨o, R'.keep b o (by simp [h1, h2]) e⟩
  · obtain ⟨_, _, hb⟩ := R'.gens
    obtain ⟨i, hi, rfl⟩ := Array.mem_iff_getElem.mp hy
    exact hb i _ (by rw [hg]; exact Nat.zero_le _) (Array.getElem?_eq_getElem hi)
end Mine
end

section
open PySem PySem.W PySem.Calls PyProof.Rows Mine
set_option maxRecDepth 100000 in
set_option maxHeartbeats 8000000 in
theorem PySem.Challenge.cw_bn0044_01_holds : PySem.Challenge.rw_bn0044_01.Holds := by
  w_on
  refine hd ?_
  w_strict (
    intro w s₀ s₁ mg mb G Y fa o pm cd doc dV kV ho hd hcd hD hmg hg args vals as hpre hlay hrd hwl hlo
    have KX := kIn_of Y
    refine Ground.open G ?_
    intro T B D TE TW
    clear B D TE TW Y G ho hd hcd hD
    wrow_args hpre hlay hrd hwl hlo
    refine enter_call ?_
    refine law_row T KX hg hmg (by assumption) (by assumption) (by omega) fun s' h1 h2 h3 => ?_
    exact ⟨.inl ⟨_, _, _, rfl, raisesW_false (by wrow_none_raised), .bool true, by wrow_post, unshared_nil⟩, h1, h2, h3⟩)
end
