import PyProof.Rows.All
import Wide.All
import OpenK.AllK
import Wide.FinOn
import PySem.Challenge.RW_pe0056_01
open PySem PySem.W PyProof.Rows PySem.Calls
set_option Elab.async false
set_option maxRecDepth 100000
set_option maxHeartbeats 8000000
set_option linter.unusedVariables false
namespace Mine
open_top hd for PySem.Challenge.rw_pe0056_01
end Mine

namespace Mine

/-- every object of h stands in h' as it was -/
def Keep (h h' : Heap) : Prop := ∀ b o, h.get? b = some o → h'.get? b = some o
theorem Keep.refl (h : Heap) : Keep h h := fun _ _ e => e
theorem Keep.trans {a b c : Heap} (x : Keep a b) (y : Keep b c) : Keep a c := fun p o e => y p o (x p o e)
theorem Keep.push (h : Heap) (o : Obj) : Keep h (h.push o) := fun _ _ e => Heap.get?_push_of_some o e

/-- the heap h cut down to the addresses in P -/
noncomputable def mask (h : Heap) (P : Addr → Prop) : Heap := by
  classical exact ⟨h.objs.mapIdx fun i o => if P i then o else { cls := .none, data := .freed }, h.life⟩
theorem mask_get (h : Heap) (P : Addr → Prop) (b : Addr) (o : Obj) : (mask h P).get? b = some o ↔ h.get? b = some o ∧ P b := by
  classical
  rw [Heap.get?_some_iff, Heap.get?_some_iff]
  unfold mask
  simp only [Array.getElem?_mapIdx]
  cases hb : h.objs[b]? with
  | none => simp
  | some x =>
    by_cases hp : P b
    · simp [hp]
    · simp only [hp, if_false, Option.map_some, Option.some.injEq, and_false, iff_false, not_and]
      rintro rfl
      simp [Obj.isFreed]
theorem mask_keep (h : Heap) (P : Addr → Prop) : Keep (mask h P) h := fun b o e => ((mask_get h P b o).mp e).1

theorem none_of_ge {h : Heap} {a : Addr} (ha : h.objs.size ≤ a) : h.get? a = none := by
  cases e : h.get? a with
  | none => rfl
  | some o => exact absurd (Heap.lt_size e) (Nat.not_lt.mpr ha)
theorem none_of_keep {h h' : Heap} {a : Addr} (k : Keep h h') (e : h'.get? a = none) : h.get? a = none := by
  cases q : h.get? a with
  | none => rfl
  | some o => rw [k _ _ q] at e; cases e

/-- what a run of statements leaves: B the frozen part of h (all of B₀ and new things alone), X what it may turn -/
structure St (X : List Addr) (B₀ h₀ B h : Heap) : Prop where
  keep : Keep B h
  sub : Keep B₀ B
  old : ∀ b o, b ∉ X → h₀.get? b = some o → h.get? b = some o
  new : ∀ b o, B.get? b = some o → B₀.get? b = some o ∨ h₀.get? b = none
  off : ∀ b ∈ X, B.get? b = none
  live : ∀ b ∈ X, ∃ o, h.get? b = some o

/-- what a call leaves -/
structure Grow (B₀ h₀ B h : Heap) : Prop where
  keep : Keep B h
  sub : Keep B₀ B
  old : Keep h₀ h
  new : ∀ b o, B.get? b = some o → B₀.get? b = some o ∨ h₀.get? b = none

theorem Grow.refl {B h : Heap} (k : Keep B h) : Grow B h B h := ⟨k, Keep.refl _, Keep.refl _, fun _ _ e => .inl e⟩
theorem Grow.step {B h h' : Heap} (k : Keep B h) (k' : Keep h h') : Grow B h B h' := ⟨k.trans k', Keep.refl _, k', fun _ _ e => .inl e⟩
theorem Grow.trans {B₀ h₀ B₁ h₁ B₂ h₂ : Heap} (x : Grow B₀ h₀ B₁ h₁) (y : Grow B₁ h₁ B₂ h₂) : Grow B₀ h₀ B₂ h₂ where
  keep := y.keep
  sub := x.sub.trans y.sub
  old := x.old.trans y.old
  new := fun b o e => by
    rcases y.new b o e with h | h
    · exact x.new b o h
    · exact .inr (none_of_keep x.old h)
/-- an object of the new heap is taken into the frozen part -/
theorem Grow.freeze {B₀ h₀ B h : Heap} (x : Grow B₀ h₀ B h) {a : Addr} {o : Obj} (ha : h.get? a = some o) (hn : h₀.get? a = none) :
    ∃ B', Grow B₀ h₀ B' h ∧ Keep B B' ∧ B'.get? a = some o := by
  refine ⟨mask h fun b => (∃ o, B.get? b = some o) ∨ b = a, ⟨mask_keep _ _, fun b o e => ?_, x.old, fun b o e => ?_⟩, fun b o e => ?_, ?_⟩
  · exact (mask_get _ _ _ _).mpr ⟨x.keep _ _ (x.sub _ _ e), .inl ⟨o, x.sub _ _ e⟩⟩
  · obtain ⟨e1, q | rfl⟩ := (mask_get _ _ _ _).mp e
    · obtain ⟨o', q⟩ := q
      have := x.keep _ _ q; rw [e1] at this; cases this
      exact x.new _ _ q
    · exact .inr hn
  · exact (mask_get _ _ _ _).mpr ⟨x.keep _ _ e, .inl ⟨o, e⟩⟩
  · exact (mask_get _ _ _ _).mpr ⟨ha, .inr rfl⟩

theorem St.refl {X : List Addr} {B h : Heap} (k : Keep B h) (off : ∀ b ∈ X, B.get? b = none) (live : ∀ b ∈ X, ∃ o, h.get? b = some o) : St X B h B h :=
  ⟨k, Keep.refl _, fun _ _ _ e => e, fun _ _ e => .inl e, off, live⟩
theorem St.again {X : List Addr} {B₀ h₀ B h : Heap} (S : St X B₀ h₀ B h) : St X B h B h := St.refl S.keep S.off S.live
theorem St.trans {X : List Addr} {B₀ h₀ B₁ h₁ B₂ h₂ : Heap} (x : St X B₀ h₀ B₁ h₁) (y : St X B₁ h₁ B₂ h₂) : St X B₀ h₀ B₂ h₂ where
  keep := y.keep
  sub := x.sub.trans y.sub
  old := fun b o hb e => y.old b o hb (x.old b o hb e)
  new := fun b o e => by
    rcases y.new b o e with h | h
    · exact x.new b o h
    · right
      by_cases hb : b ∈ X
      · obtain ⟨o', e'⟩ := x.live b hb; rw [e'] at h; cases h
      · cases q : h₀.get? b with
        | none => rfl
        | some o' => rw [x.old b o' hb q] at h; cases h
  off := y.off
  live := y.live

/-- a store at a place of X -/
theorem St.set {X : List Addr} {B₀ h₀ B h h' : Heap} {a : Addr} (S : St X B₀ h₀ B h) (ha : a ∈ X) (hs : Heap.ExtBut a h h') (hl : ∃ o, h'.get? a = some o) : St X B₀ h₀ B h' where
  keep := fun b o e => hs b o (fun q => by subst q; rw [S.off _ ha] at e; cases e) (S.keep b o e)
  sub := S.sub
  old := fun b o hb e => hs b o (fun q => hb (q ▸ ha)) (S.old b o hb e)
  new := S.new
  off := S.off
  live := fun b hb => by
    by_cases q : b = a
    · subst q; exact hl
    · obtain ⟨o, e⟩ := S.live b hb; exact ⟨o, hs b o q e⟩
/-- a call of a def -/
theorem St.call {X : List Addr} {B₀ h₀ B h B' h' : Heap} (S : St X B₀ h₀ B h) (g : Grow B h B' h') : St X B₀ h₀ B' h' where
  keep := g.keep
  sub := S.sub.trans g.sub
  old := fun b o hb e => g.old b o (S.old b o hb e)
  new := fun b o e => by
    rcases g.new b o e with q | q
    · exact S.new b o q
    · by_cases hb : b ∈ X
      · obtain ⟨o', e'⟩ := S.live b hb; rw [e'] at q; cases q
      · right
        cases r : h₀.get? b with
        | none => rfl
        | some o' => rw [S.old b o' hb r] at q; cases q
  off := fun b hb => by
    cases e : B'.get? b with
    | none => rfl
    | some o =>
      rcases g.new b o e with q | q
      · rw [S.off b hb] at q; cases q
      · obtain ⟨o', e'⟩ := S.live b hb; rw [e'] at q; cases q
  live := fun b hb => let ⟨o, e⟩ := S.live b hb; ⟨o, g.old b o e⟩

/-- what the frame at hand may turn -/
def Xof (env : Env) (own : List Addr) (pins : List (Addr × Obj)) : List Addr := env.locals :: (own ++ pins.map (·.1))

structure Fx (env : Env) (own : List Addr) (B₀ h₀ B h : Heap) (m cm : Str → Option Value) (pins : List (Addr × Obj)) : Prop where
  st : St (Xof env own pins) B₀ h₀ B h
  ns : h.Ns env.locals m
  cell : ∀ n c, env.cells.lookup n = some c → h.IsCell c (cm n)
  cellX : ∀ n c, env.cells.lookup n = some c → c ∈ own ∨ c ∉ Xof env own pins
  pin : ∀ p ∈ pins, h.get? p.1 = some p.2
  nd : (Xof env own pins).Nodup

namespace Fx
variable {env : Env} {own : List Addr} {B₀ h₀ B h h' : Heap} {m m' cm : Str → Option Value} {pins : List (Addr × Obj)}
theorem keep (F : Fx env own B₀ h₀ B h m cm pins) : Keep B h := F.st.keep
theorem mem_pin {p : Addr × Obj} (hp : p ∈ pins) : p.1 ∈ Xof env own pins := List.mem_cons_of_mem _ (List.mem_append_right _ (List.mem_map.mpr ⟨_, hp, rfl⟩))
theorem mem_own {c : Addr} (hc : c ∈ own) : c ∈ Xof env own pins := List.mem_cons_of_mem _ (List.mem_append_left _ hc)
theorem loc_ne_cell (F : Fx env own B₀ h₀ B h m cm pins) {n : Str} {c : Addr} (hc : env.cells.lookup n = some c) : c ≠ env.locals := fun q => by
  rcases F.cellX n c hc with h | h
  · exact (List.nodup_cons.mp F.nd).1 (q ▸ List.mem_append_left _ h)
  · exact h (q ▸ List.mem_cons_self ..)
theorem loc_ne_pin (F : Fx env own B₀ h₀ B h m cm pins) {p : Addr × Obj} (hp : p ∈ pins) : p.1 ≠ env.locals := fun q =>
  (List.nodup_cons.mp F.nd).1 (q ▸ List.mem_append_right _ (List.mem_map.mpr ⟨_, hp, rfl⟩))
theorem cell_ne_pin (F : Fx env own B₀ h₀ B h m cm pins) {n : Str} {c : Addr} (hc : env.cells.lookup n = some c) {p : Addr × Obj} (hp : p ∈ pins) : c ≠ p.1 := fun q => by
  rcases F.cellX n c hc with h | h
  · exact (List.nodup_append.mp (List.nodup_cons.mp F.nd).2).2.2 c h p.1 (List.mem_map.mpr ⟨_, hp, rfl⟩) q
  · exact h (q ▸ mem_pin hp)
theorem again (F : Fx env own B₀ h₀ B h m cm pins) : Fx env own B h B h m cm pins := ⟨F.st.again, F.ns, F.cell, F.cellX, F.pin, F.nd⟩
/-- a local name is stored -/
theorem setLoc (F : Fx env own B₀ h₀ B h m cm pins) (hn : h'.Ns env.locals m') (hs : Heap.SameBut env.locals h h') : Fx env own B₀ h₀ B h' m' cm pins where
  st := F.st.set (List.mem_cons_self ..) hs.extBut (let ⟨o, _, _, e, _⟩ := hn; ⟨o, e⟩)
  ns := hn
  cell := fun n c hc => (F.cell n c hc).sameBut hs (F.loc_ne_cell hc)
  cellX := F.cellX
  pin := fun p hp => (hs.2 _ (F.loc_ne_pin hp)).trans (F.pin p hp)
  nd := F.nd
/-- an own cell is stored -/
theorem setCell {n : Str} {c : Addr} {v : Value} (F : Fx env own B₀ h₀ B h m cm pins) (hc : env.cells.lookup n = some c) (ho : c ∈ own) (hinj : ∀ n', env.cells.lookup n' = some c → n' = n) (hv : h'.IsCell c (some v)) (hs : Heap.SameBut c h h') :
    Fx env own B₀ h₀ B h' m (fun y => if y = n then some v else cm y) pins where
  st := F.st.set (mem_own ho) hs.extBut (let ⟨o, e, _⟩ := hv; ⟨o, e⟩)
  ns := F.ns.sameBut hs (Ne.symm (F.loc_ne_cell hc))
  cell := fun n' c' hc' => by
    by_cases q : n' = n
    · subst q; rw [hc] at hc'; cases hc'; simpa using hv
    · rw [if_neg q]
      exact (F.cell n' c' hc').sameBut hs fun e => q (hinj n' (e ▸ hc'))
  cellX := F.cellX
  pin := fun p hp => (hs.2 _ (Ne.symm (F.cell_ne_pin hc hp))).trans (F.pin p hp)
  nd := F.nd
/-- a call of a def; new temporary objects -/
theorem call {B' : Heap} (F : Fx env own B₀ h₀ B h m cm pins) (g : Grow B h B' h') : Fx env own B₀ h₀ B' h' m cm pins where
  st := F.st.call g
  ns := F.ns.keeps g.old
  cell := fun n c hc => (F.cell n c hc).keeps g.old
  cellX := F.cellX
  pin := fun p hp => g.old _ _ (F.pin p hp)
  nd := F.nd
theorem step (F : Fx env own B₀ h₀ B h m cm pins) (k : Keep h h') : Fx env own B₀ h₀ B h' m cm pins := F.call (Grow.step F.keep k)
theorem push (F : Fx env own B₀ h₀ B h m cm pins) (o : Obj) : Fx env own B₀ h₀ B (h.push o) m cm pins := F.step (Keep.push h o)
/-- things outside turn (an iterator) -/
theorem other {wr : List Addr} (F : Fx env own B₀ h₀ B h m cm pins) (hw : ∀ b ∈ wr, B.get? b = none ∧ h₀.get? b = none ∧ b ∉ Xof env own pins ∧ ∀ n, env.cells.lookup n ≠ some b) (hk : ∀ b o, b ∉ wr → h.get? b = some o → h'.get? b = some o) :
    Fx env own B₀ h₀ B h' m cm pins where
  st := ⟨fun b o e => hk b o (fun q => by rw [(hw b q).1] at e; cases e) (F.keep b o e), F.st.sub, fun b o hb e => hk b o (fun q => by rw [(hw b q).2.1] at e; cases e) (F.st.old b o hb e), F.st.new, F.st.off,
    fun b hb => let ⟨o, e⟩ := F.st.live b hb; ⟨o, hk b o (fun q => (hw b q).2.2.1 hb) e⟩⟩
  ns := F.ns.at' fun o e => hk _ o (fun q => (hw _ q).2.2.1 (List.mem_cons_self ..)) e
  cell := fun n c hc => let ⟨o, e, d⟩ := F.cell n c hc; ⟨o, hk _ o (fun q => (hw _ q).2.2.2 n hc) e, d⟩
  cellX := F.cellX
  pin := fun p hp => hk _ _ (fun q => (hw _ q).2.2.1 (mem_pin hp)) (F.pin p hp)
  nd := F.nd
/-- a new object that is to be turned -/
theorem addPin (F : Fx env own B₀ h₀ B h m cm pins) {o : Obj} (ho : o.isFreed = false) : Fx env own B₀ h₀ B (h.push o) m cm ((h.objs.size, o) :: pins) := by
  have G := F.push o
  have hB : B.get? h.objs.size = none := none_of_keep F.keep (none_of_ge (Nat.le_refl _))
  have hx : h.objs.size ∉ Xof env own pins := fun q => by obtain ⟨o', e⟩ := F.st.live _ q; exact absurd (Heap.lt_size e) (Nat.lt_irrefl _)
  have mem : ∀ b, b ∈ Xof env own ((h.objs.size, o) :: pins) ↔ b = h.objs.size ∨ b ∈ Xof env own pins := fun b => by
    simp only [Xof, List.map_cons, List.mem_cons, List.mem_append]
    constructor
    · rintro (h | h | h | h)
      · exact .inr (.inl h)
      · exact .inr (.inr (.inl h))
      · exact .inl h
      · exact .inr (.inr (.inr h))
    · rintro (h | h | h | h)
      · exact .inr (.inr (.inl h))
      · exact .inl h
      · exact .inr (.inl h)
      · exact .inr (.inr (.inr h))
  refine ⟨⟨G.keep, G.st.sub, fun b o' hb e => G.st.old b o' (fun q => hb ((mem b).mpr (.inr q))) e, G.st.new, fun b hb => ?_, fun b hb => ?_⟩, G.ns, G.cell, fun n c hc => ?_, fun p hp => ?_, ?_⟩
  · rcases (mem b).mp hb with rfl | hb
    · exact hB
    · exact G.st.off b hb
  · rcases (mem b).mp hb with rfl | hb
    · exact ⟨_, Heap.get?_push_size _ ho⟩
    · exact G.st.live b hb
  · rcases G.cellX n c hc with q | q
    · exact .inl q
    · refine .inr fun q' => ?_
      rcases (mem c).mp q' with rfl | q'
      · exact absurd (F.cell n _ hc).lt (Nat.lt_irrefl _)
      · exact q q'
  · rcases List.mem_cons.mp hp with rfl | hp
    · exact Heap.get?_push_size _ ho
    · exact G.pin p hp
  · have hperm : (Xof env own ((h.objs.size, o) :: pins)).Perm (h.objs.size :: Xof env own pins) := by
      simp only [Xof, List.map_cons]
      refine .trans ?_ (.swap _ _ _)
      exact .cons _ List.perm_middle
    exact hperm.nodup_iff.mpr (List.nodup_cons.mpr ⟨hx, F.nd⟩)
/-- the pinned object in front is turned -/
theorem setPin {D : Addr} {o o' : Obj} (F : Fx env own B₀ h₀ B h m cm ((D, o) :: pins)) (hD : h'.get? D = some o') (hs : Heap.SameBut D h h') : Fx env own B₀ h₀ B h' m cm ((D, o') :: pins) where
  st := (show St (Xof env own ((D, o) :: pins)) B₀ h₀ B h' from F.st.set (mem_pin (p := (D, o)) (List.mem_cons_self ..)) hs.extBut ⟨_, hD⟩)
  ns := F.ns.sameBut hs (Ne.symm (F.loc_ne_pin (p := (D, o)) (List.mem_cons_self ..)))
  cell := fun n c hc => (F.cell n c hc).sameBut hs (F.cell_ne_pin hc (p := (D, o)) (List.mem_cons_self ..))
  cellX := F.cellX
  pin := fun p hp => by
    rcases List.mem_cons.mp hp with rfl | hp
    · exact hD
    · refine (hs.2 _ ?_).trans (F.pin p (List.mem_cons_of_mem _ hp))
      intro q
      have := (List.nodup_append.mp (List.nodup_cons.mp F.nd).2).2.1
      simp only [List.map_cons] at this
      exact (List.nodup_cons.mp this).1 (q ▸ List.mem_map.mpr ⟨p, hp, rfl⟩)
  nd := F.nd
theorem pin_get {D : Addr} {o : Obj} (F : Fx env own B₀ h₀ B h m cm ((D, o) :: pins)) : h.get? D = some o := F.pin (D, o) (List.mem_cons_self ..)
/-- the pinned object in front is turned no more: it goes over to the frozen part -/
theorem freeze {D : Addr} {o : Obj} (F : Fx env own B₀ h₀ B h m cm ((D, o) :: pins)) (hn : h₀.get? D = none) :
    ∃ B', Keep B B' ∧ B'.get? D = some o ∧ Fx env own B₀ h₀ B' h m cm pins := by
  have hD := F.pin_get
  have nd2 := (List.nodup_cons.mp F.nd)
  have hDX : D ∉ Xof env own pins := fun q => by
    have hperm : (Xof env own ((D, o) :: pins)).Perm (D :: Xof env own pins) := by
      simp only [Xof, List.map_cons]
      refine .trans ?_ (.swap _ _ _)
      exact .cons _ List.perm_middle
    exact (List.nodup_cons.mp (hperm.nodup_iff.mp F.nd)).1 q
  have mem : ∀ b, b ∈ Xof env own pins → b ∈ Xof env own ((D, o) :: pins) := fun b hb => by
    simp only [Xof, List.map_cons, List.mem_cons, List.mem_append] at hb ⊢
    rcases hb with h | h | h
    · exact .inl h
    · exact .inr (.inl h)
    · exact .inr (.inr (.inr h))
  have mem' : ∀ b, b ∈ Xof env own ((D, o) :: pins) → b = D ∨ b ∈ Xof env own pins := fun b hb => by
    simp only [Xof, List.map_cons, List.mem_cons, List.mem_append] at hb ⊢
    rcases hb with h | h | h | h
    · exact .inr (.inl h)
    · exact .inr (.inr (.inl h))
    · exact .inl h
    · exact .inr (.inr (.inr h))
  refine ⟨mask h fun b => (∃ o, B.get? b = some o) ∨ b = D, fun b o e => ?_, ?_, ⟨⟨mask_keep _ _, fun b o e => ?_, fun b o hb e => ?_, fun b o e => ?_, fun b hb => ?_, fun b hb => F.st.live b (mem b hb)⟩, F.ns, F.cell, fun n c hc => (F.cellX n c hc).imp id fun q q' => q (mem c q'), fun p hp => F.pin p (List.mem_cons_of_mem _ hp), ?_⟩⟩
  · exact (mask_get _ _ _ _).mpr ⟨F.keep _ _ e, .inl ⟨o, e⟩⟩
  · exact (mask_get _ _ _ _).mpr ⟨hD, .inr rfl⟩
  · exact (mask_get _ _ _ _).mpr ⟨F.keep _ _ (F.st.sub _ _ e), .inl ⟨o, F.st.sub _ _ e⟩⟩
  · refine F.st.old b o (fun q => ?_) e
    rcases mem' b q with rfl | q
    · rw [hn] at e; cases e
    · exact hb q
  · obtain ⟨e1, q | rfl⟩ := (mask_get _ _ _ _).mp e
    · obtain ⟨o', q⟩ := q
      have := F.keep _ _ q; rw [e1] at this; cases this
      exact F.st.new _ _ q
    · exact .inr hn
  · cases e : (mask h fun b => (∃ o, B.get? b = some o) ∨ b = D).get? b with
    | none => rfl
    | some x =>
      obtain ⟨e1, q | rfl⟩ := (mask_get _ _ _ _).mp e
      · obtain ⟨o', q⟩ := q; rw [F.st.off b (mem b hb)] at q; cases q
      · exact absurd hb hDX
  · have hperm : (Xof env own ((D, o) :: pins)).Perm (D :: Xof env own pins) := by
      simp only [Xof, List.map_cons]
      refine .trans ?_ (.swap _ _ _)
      exact .cons _ List.perm_middle
    exact (List.nodup_cons.mp (hperm.nodup_iff.mp F.nd)).2
/-- an object that stands, no one's to turn, is taken into the frozen part -/
theorem take {a : Addr} {o : Obj} (F : Fx env own B₀ h₀ B h m cm pins) (ha : h.get? a = some o) (hn : h₀.get? a = none) (hx : a ∉ Xof env own pins) :
    ∃ B', Keep B B' ∧ B'.get? a = some o ∧ Fx env own B₀ h₀ B' h m cm pins := by
  refine ⟨mask h fun b => (∃ o, B.get? b = some o) ∨ b = a, fun b o e => ?_, ?_, ⟨⟨mask_keep _ _, fun b o e => ?_, F.st.old, fun b o e => ?_, fun b hb => ?_, F.st.live⟩, F.ns, F.cell, F.cellX, F.pin, F.nd⟩⟩
  · exact (mask_get _ _ _ _).mpr ⟨F.keep _ _ e, .inl ⟨o, e⟩⟩
  · exact (mask_get _ _ _ _).mpr ⟨ha, .inr rfl⟩
  · exact (mask_get _ _ _ _).mpr ⟨F.keep _ _ (F.st.sub _ _ e), .inl ⟨o, F.st.sub _ _ e⟩⟩
  · obtain ⟨e1, q | rfl⟩ := (mask_get _ _ _ _).mp e
    · obtain ⟨o', q⟩ := q
      have := F.keep _ _ q; rw [e1] at this; cases this
      exact F.st.new _ _ q
    · exact .inr hn
  · cases e : (mask h fun b => (∃ o, B.get? b = some o) ∨ b = a).get? b with
    | none => rfl
    | some x =>
      obtain ⟨e1, q | rfl⟩ := (mask_get _ _ _ _).mp e
      · obtain ⟨o', q⟩ := q; rw [F.st.off b hb] at q; cases q
      · exact absurd hb hx
end Fx
end Mine

namespace Mine

abbrev NE : Value → Shared → Prop := fun _ _ => False
theorem anyE {α : Type} {M : Model} {A : Around} {t : Sem α} {Q : α → Shared → Prop} {E : Value → Shared → Prop} {s : Shared} (h : wpAny M A t Q NE s) : wpAny M A t Q E s :=
  wpAny_mono h (fun _ _ x => x) fun _ _ f => f.elim

theorem Xof_eq {env : Env} {own : List Addr} {p q : List (Addr × Obj)} (e : p.map (·.1) = q.map (·.1)) : Xof env own p = Xof env own q := by unfold Xof; rw [e]

namespace Fx
variable {env : Env} {own : List Addr} {B₀ h₀ B h h' : Heap} {m m' cm : Str → Option Value} {pins : List (Addr × Obj)}
theorem fresh (F : Fx env own B₀ h₀ B h m cm pins) {I : Addr} (hI : h.objs.size ≤ I) : B.get? I = none ∧ h₀.get? I = none ∧ I ∉ Xof env own pins ∧ ∀ n, env.cells.lookup n ≠ some I := by
  have hx : I ∉ Xof env own pins := fun q => by obtain ⟨o, e⟩ := F.st.live _ q; exact absurd (Heap.lt_size e) (Nat.not_lt.mpr hI)
  refine ⟨none_of_keep F.keep (none_of_ge hI), ?_, hx, fun n hn => absurd (F.cell n I hn).lt (Nat.not_lt.mpr hI)⟩
  cases e : h₀.get? I with
  | none => rfl
  | some o => exact absurd (Heap.lt_size (F.st.old I o hx e)) (Nat.not_lt.mpr hI)
theorem trans {B₁ h₁ B₂ h₂ : Heap} {m₁ m₂ : Str → Option Value} {p₁ p₂ : List (Addr × Obj)} (x : Fx env own B₀ h₀ B₁ h₁ m₁ cm p₁) (y : Fx env own B₁ h₁ B₂ h₂ m₂ cm p₂) (e : p₂.map (·.1) = p₁.map (·.1)) :
    Fx env own B₀ h₀ B₂ h₂ m₂ cm p₂ := ⟨by rw [Xof_eq e]; exact x.st.trans (Xof_eq (env := env) (own := own) e ▸ y.st), y.ns, y.cell, y.cellX, y.pin, y.nd⟩
end Fx

/-- the names of built-ins that the text asks -/
def biNames : List Str := ["len", "range", "list", "sum", "isinstance", "tuple", "zip"]

/-- what stands at the top -/
structure Gl (mg mb : Str → Option Value) (h : Heap) : Prop where
  g : h.Ns mainGlobals mg
  b : h.Ns builtinsNs mb
  lim : h.NoLimit
  bi : ∀ x ∈ biNames, mg x = none ∧ mb x = bootBuiltins x
  fn : ∀ d ∈ PySem.defsOf PySem.Challenge.pw_pe0056_01, ∃ a o pm code doc, mg d.name = some (.ref a) ∧ h.get? a = some o ∧ o.data = .func (docDef d.name d.params d.body d.scope pm code doc) ∧ h.CodeRec code d.name
  low : ∀ a, (a = mainGlobals ∨ a = builtinsNs ∨ a = sysModules) → ∃ o, h.get? a = some o

theorem Gl.keeps {mg mb : Str → Option Value} {h h' : Heap} (G : Gl mg mb h) (k : Keep h h') : Gl mg mb h' where
  g := G.g.keeps k
  b := G.b.keeps k
  lim := G.lim.keeps k
  bi := G.bi
  fn := fun d hd => let ⟨a, o, pm, code, doc, h1, h2, h3, h4⟩ := G.fn d hd; ⟨a, o, pm, code, doc, h1, k _ _ h2, h3, h4.keeps k⟩
  low := fun a ha => let ⟨o, e⟩ := G.low a ha; ⟨o, k _ _ e⟩

section
variable {M : Model} {A : Around} {E : Value → Shared → Prop} {s : Shared} {env : Env} {own : List Addr} {B₀ h₀ B : Heap} {m cm mg mb : Str → Option Value} {pins : List (Addr × Obj)} {x : Str} {pos : Pos} {v : Value}

theorem nmL {Q : Value → Shared → Prop} (F : Fx env own B₀ h₀ B s.heap m cm pins) (hv : m x = some v) (h : Q v s)
    (hk : env.scope.kind = .function := by rfl) (hl : env.kindOf x = some .local := by rfl) (hd : (x == ("__debug__" : Str)) = false := by decide) :
    wpAny M A (eval (.Name x pos) env) Q E s := wpAny_Name (wpAny_loadName_local hk hl F.ns hv h) hd
theorem nmC {Q : Value → Shared → Prop} {c : Addr} (F : Fx env own B₀ h₀ B s.heap m cm pins) (hc : env.cells.lookup x = some c) (hv : cm x = some v) (h : Q v s)
    (hk : env.scope.kind = .function := by rfl) (hl : env.kindOf x = some .cell := by rfl) (hd : (x == ("__debug__" : Str)) = false := by decide) :
    wpAny M A (eval (.Name x pos) env) Q E s := wpAny_Name (wpAny_loadName_cell hk hl hc (hv ▸ F.cell x c hc) h) hd
theorem nmF {Q : Value → Shared → Prop} {c : Addr} (F : Fx env own B₀ h₀ B s.heap m cm pins) (hc : env.cells.lookup x = some c) (hv : cm x = some v) (h : Q v s)
    (hk : env.scope.kind = .function := by rfl) (hl : env.kindOf x = some .free := by rfl) (hd : (x == ("__debug__" : Str)) = false := by decide) (hn : (x == ("__classdict__" : Str)) = false := by decide) :
    wpAny M A (eval (.Name x pos) env) Q E s := wpAny_Name (wpAny_loadName_free hk hl hc (hv ▸ F.cell x c hc) h hn) hd
theorem nmG {Q : Value → Shared → Prop} (F : Fx env own B₀ h₀ B s.heap m cm pins) (G : Gl mg mb B) (hv : mg x = some v) (h : Q v s)
    (hg : env.globals = mainGlobals := by rfl)
    (hk : env.scope.kind = .function := by rfl) (hl : env.kindOf x = some .globalImplicit := by rfl) (hd : (x == ("__debug__" : Str)) = false := by decide) :
    wpAny M A (eval (.Name x pos) env) Q E s := Name_function_global hk hl (loadGlobal_global (by rw [hg]; exact G.g.keeps F.keep) hv h) hd
theorem nmB {Q : Value → Shared → Prop} (F : Fx env own B₀ h₀ B s.heap m cm pins) (G : Gl mg mb B) (hx : x ∈ biNames) (hv : bootBuiltins x = some v) (h : Q v s)
    (hg : env.globals = mainGlobals := by rfl) (hb : env.builtins = builtinsNs := by rfl)
    (hk : env.scope.kind = .function := by rfl) (hl : env.kindOf x = some .globalImplicit := by rfl) (hd : (x == ("__debug__" : Str)) = false := by decide) :
    wpAny M A (eval (.Name x pos) env) Q E s :=
  Name_function_global hk hl (loadGlobal_builtin (by rw [hg]; exact G.g.keeps F.keep) (G.bi x hx).1 (by rw [hb]; exact G.b.keeps F.keep) ((G.bi x hx).2.trans hv) h) hd
theorem stLs {Q : Unit → Shared → Prop} (F : Fx env own B₀ h₀ B s.heap m cm pins)
    (h : ∀ h', Fx env own B₀ h₀ B h' (fun y => if y = x then some v else m y) cm pins → Heap.SameBut env.locals s.heap h' → Q () { s with heap := h', toks := s.toks + 1 })
    (hl : env.kindOf x = some .local := by rfl) (hp : (env.scope.kind == .class || (env.scope.kind == .module && env.locals != env.globals)) = false := by rfl) :
    wpAny M A (storeName env x v) Q E s := wpAny_storeName_local hl F.ns (fun h' hn hs => h h' (F.setLoc hn hs) hs) hp
theorem stL {Q : Unit → Shared → Prop} (F : Fx env own B₀ h₀ B s.heap m cm pins)
    (h : ∀ h', Fx env own B₀ h₀ B h' (fun y => if y = x then some v else m y) cm pins → Q () { s with heap := h', toks := s.toks + 1 })
    (hl : env.kindOf x = some .local := by rfl) (hp : (env.scope.kind == .class || (env.scope.kind == .module && env.locals != env.globals)) = false := by rfl) :
    wpAny M A (storeName env x v) Q E s := wpAny_storeName_local hl F.ns (fun h' hn hs => h h' (F.setLoc hn hs)) hp
end

section
variable {prog : Program} {w : World} {A : Around} {s : Shared} {env : Env} {own : List Addr} {B₀ h₀ B : Heap} {m cm : Str → Option Value} {pins : List (Addr × Obj)}

theorem fl_name {R : Result → Shared → Prop} {x : Str} {px : Pos} {body : List Stmt} {I : Addr} {fp : List Addr} {n : Nat} {P : Nat → Value → Prop} {St' : Nat → Heap → Prop}
    (W : Walks prog w A I fp [I] n P St') (live : ∀ i h, St' i h → ∃ o, h.get? I = some o)
    (hx : env.kindOf x = some .local) (hp : (env.scope.kind == .class || (env.scope.kind == .module && env.locals != env.globals)) = false)
    (F : Fx env own B₀ h₀ B s.heap m cm pins) (hst : St' 0 s.heap)
    (hI : B.get? I = none ∧ h₀.get? I = none ∧ I ∉ Xof env own pins ∧ ∀ n, env.cells.lookup n ≠ some I) (hfp : ∀ b ∈ fp, b ∉ Xof env own pins)
    (J : Nat → Heap → (Str → Option Value) → List (Addr × Obj) → Prop) (j0 : J 0 B m pins)
    (turn : ∀ i v B₁ h₁ m₁ pins₁ tk, i < n → P i v → J i B₁ m₁ pins₁ → Keep B B₁ → pins₁.map (·.1) = pins.map (·.1) →
      Fx env own B₁ h₁ B₁ h₁ (fun y => if y = x then some v else m₁ y) cm pins₁ →
      wpAny (model prog w) A (execs body env) (fun f s' => f = .next ∧ ∃ B₂ h₂ m₂ pins₂ tk₂, s' = { s with heap := h₂, toks := tk₂ } ∧ pins₂.map (·.1) = pins.map (·.1) ∧ Fx env own B₁ h₁ B₂ h₂ m₂ cm pins₂ ∧ J (i + 1) B₂ m₂ pins₂) NE { s with heap := h₁, toks := tk })
    (done : ∀ B' h' m' pins' tk', J n B' m' pins' → Keep B B' → pins'.map (·.1) = pins.map (·.1) → Fx env own B₀ h₀ B' h' m' cm pins' → R (.ok .next) { s with heap := h', toks := tk' }) :
    codeAny (model prog w) A (.forLoop (.Name x px) (.ref I) body [] env) R s := by
  refine codeAny_forLoop (fun k s' => ∃ i B' h' m' pins' tk', s' = { s with heap := h', toks := tk' } ∧ J i B' m' pins' ∧ Keep B B' ∧ pins'.map (·.1) = pins.map (·.1) ∧ Fx env own B₀ h₀ B' h' m' cm pins' ∧ St' i h' ∧
    B'.get? I = none ∧ i ≤ n ∧ k = n + 1 - i) ?_ (n + 1) ⟨0, B, s.heap, m, pins, s.toks, rfl, j0, Keep.refl _, rfl, F, hst, hI.1, Nat.zero_le _, rfl⟩
  rintro k s' ⟨i, B', h', m', pins', tk', rfl, hj, hk, hpn, F', hst', hIB, hi, rfl⟩
  have hX : Xof env own pins' = Xof env own pins := Xof_eq hpn
  have hw : ∀ b ∈ [I], B'.get? b = none ∧ h₀.get? b = none ∧ b ∉ Xof env own pins' ∧ ∀ n, env.cells.lookup n ≠ some b := fun b hb => by
    rw [List.mem_singleton.mp hb, hX]; exact ⟨hIB, hI.2.1, hI.2.2⟩
  by_cases hlt : i < n
  · refine W.item i _ _ _ hlt hst' fun v h₁ tk₁ hPv hst₁ hk₁ => ?_
    have F₁ : Fx env own B₀ h₀ B' h₁ m' cm pins' := F'.other hw hk₁
    refine wpAny_assign_Name (stLs F₁ (fun h₂ F₂ hs₂ => ?_) hx hp)
    have hst₂ : St' (i + 1) h₂ := W.frame _ _ _ hst₁ fun b hb o e => hs₂.extBut b o (fun q => hfp b hb (q ▸ List.mem_cons_self ..)) e
    · refine wpAny_mono (turn i v B' h₂ m' pins' (tk₁ + 1) hlt hPv hj hk hpn F₂.again) (fun f s₃ h₃ => ?_) fun _ _ e => e.elim
      obtain ⟨rfl, B₂, h₃, m₂, pins₂, tk₂, rfl, hpn₂, F₃, hj₂⟩ := h₃
      refine ⟨n + 1 - (i + 1), by omega, i + 1, B₂, h₃, m₂, pins₂, tk₂, rfl, hj₂, hk.trans F₃.st.sub, hpn₂, F₂.trans F₃ (hpn₂.trans hpn.symm), W.frame _ _ _ hst₂ fun b hb o e => ?_, ?_, hlt, rfl⟩
      · exact F₃.st.old b o (by rw [Xof_eq (hpn₂)]; exact hfp b hb) e
      · obtain ⟨oI, eI⟩ := live _ _ hst₂
        cases e : B₂.get? I with
        | none => rfl
        | some o =>
          rcases F₃.st.new I o e with q | q
          · rw [hIB] at q; cases q
          · rw [eI] at q; cases q
  · have hin : i = n := by omega
    subst hin
    refine W.done _ _ _ hst' fun h₁ tk₁ hk₁ => wpAny_execs_nil ?_
    exact done B' h₁ m' pins' tk₁ hj hk hpn (F'.other hw hk₁)

/-- a loop over a dict's items, two names -/
theorem fl_items {K : Type} [DecidableEq K] {knd : KeyKind prog w K} {R : Result → Shared → Prop} {xk xv : Str} {pk pv pt : Pos} {x1 : Nat} {body : List Stmt} {I d : Addr} {kvs : List (K × Value)} {ep : Nat}
    (hh : A.handled = none) (hxk : env.kindOf xk = some .local) (hxv : env.kindOf xv = some .local)
    (hp : (env.scope.kind == .class || (env.scope.kind == .module && env.locals != env.globals)) = false)
    (F : Fx env own B₀ h₀ B s.heap m cm pins) (hit : IsItemIter s.heap I d 0 kvs.length ep .none .none) (hm : B.DictAt knd d kvs ep)
    (hI : B.get? I = none ∧ h₀.get? I = none ∧ I ∉ Xof env own pins ∧ ∀ n, env.cells.lookup n ≠ some I)
    (J : Nat → Heap → (Str → Option Value) → List (Addr × Obj) → Prop) (j0 : J 0 B m pins)
    (turn : ∀ i k v key B₁ h₁ m₁ pins₁ tk, kvs[i]? = some (k, v) → knd.is k key = true → J i B₁ m₁ pins₁ → Keep B B₁ → pins₁.map (·.1) = pins.map (·.1) →
      Fx env own B₁ h₁ B₁ h₁ (fun y => if y = xv then some v else if y = xk then some key else m₁ y) cm pins₁ →
      wpAny (model prog w) A (execs body env) (fun f s' => f = .next ∧ ∃ B₂ h₂ m₂ pins₂ tk₂, s' = { s with heap := h₂, toks := tk₂ } ∧ pins₂.map (·.1) = pins.map (·.1) ∧ Fx env own B₁ h₁ B₂ h₂ m₂ cm pins₂ ∧ J (i + 1) B₂ m₂ pins₂) NE { s with heap := h₁, toks := tk })
    (done : ∀ B' h' m' pins' tk', J kvs.length B' m' pins' → Keep B B' → pins'.map (·.1) = pins.map (·.1) → Fx env own B₀ h₀ B' h' m' cm pins' → R (.ok .next) { s with heap := h', toks := tk' }) :
    codeAny (model prog w) A (.forLoop (.Tuple [.Name xk pk, .Name xv pv] x1 pt) (.ref I) body [] env) R s := by
  refine codeAny_forLoop_any (fun k s' => ∃ i B' h' m' pins' tk' ok ov, s' = { s with heap := h', toks := tk' } ∧ J i B' m' pins' ∧ Keep B B' ∧ pins'.map (·.1) = pins.map (·.1) ∧ Fx env own B₀ h₀ B' h' m' cm pins' ∧
    IsItemIter h' I d i kvs.length ep ok ov ∧ B'.get? I = none ∧ i ≤ kvs.length ∧ k = kvs.length + 1 - i) ?_ (kvs.length + 1) ⟨0, B, s.heap, m, pins, s.toks, .none, .none, rfl, j0, Keep.refl _, rfl, F, hit, hI.1, Nat.zero_le _, rfl⟩
  rintro k s' ⟨i, B', h', m', pins', tk', ok, ov, rfl, hj, hk, hpn, F', hit', hIB, hi, rfl⟩
  have hX : Xof env own pins' = Xof env own pins := Xof_eq hpn
  have hw : ∀ b ∈ [I], B'.get? b = none ∧ h₀.get? b = none ∧ b ∉ Xof env own pins' ∧ ∀ n, env.cells.lookup n ≠ some b := fun b hb => by
    rw [List.mem_singleton.mp hb, hX]; exact ⟨hIB, hI.2.1, hI.2.2⟩
  have hm' : h'.DictAt knd d kvs ep := hm.keep (hk.trans F'.keep)
  cases hv : kvs[i]? with
  | none =>
    have hsz : i = kvs.length := Nat.le_antisymm hi (by simpa using hv)
    subst hsz
    refine wpAny_pyNext_items_end hh hit' hm' hv fun h₁ he₁ => wpAny_execs_nil ?_
    exact done B' h₁ m' pins' tk' hj hk hpn (F'.other hw fun b o hb e => he₁ b o (fun q => hb (q ▸ List.mem_singleton_self _)) e)
  | some kv =>
    obtain ⟨k, v⟩ := kv
    have hlt : i < kvs.length := (List.getElem?_eq_some_iff.mp hv).1
    refine wpAny_pyNext_items_item hit' hm' hv fun key h₁ hkey hit₁ ht₁ hz₁ hk₁ => ?_
    have F₁ : Fx env own B₀ h₀ B' h₁ m' cm pins' := F'.other hw fun b o hb e => hk₁ b o (fun q => hb (q ▸ List.mem_singleton_self _)) e
    refine wpAny_letOwnedTupleGo_items hit₁ fun h₂ hit₂ hs₂ => ?_
    have F₂ : Fx env own B₀ h₀ B' h₂ m' cm pins' := F₁.other hw fun b o hb e => hs₂.extBut b o (fun q => hb (q ▸ List.mem_singleton_self _)) e
    have hiH : I < h'.objs.size := Heap.lt_size hit'
    have ht₂ : h₂.IsTuple h'.objs.size #[key, v] := ⟨_, (hs₂.2 _ (Nat.ne_of_gt hiH)).trans ht₁, rfl, _, rfl⟩
    refine wpAny_assign_Tuple hh ht₂ rfl rfl fun h₃ hx₃ => ?_
    have hz₂ : h₂.objs.size = h'.objs.size + 1 := hs₂.1.trans hz₁
    have F₃ : Fx env own B₀ h₀ B' h₃ m' cm pins' := F₂.step fun b o e => hx₃ b o (Nat.ne_of_lt (Heap.lt_size e)) e
    have hit₃ : IsItemIter h₃ I d (i + 1) kvs.length ep key v := hx₃ I _ (Nat.ne_of_lt (Heap.lt_size hit₂)) hit₂
    show wpAny _ _ (do holding [v] (assign (.Name xk pk) env key); do holding [] (assign (.Name xv pv) env v); pure ()) _ _ _
    have hIL : I ≠ env.locals := fun q => hI.2.2.1 (q ▸ List.mem_cons_self ..)
    refine wpAny_bind (wpAny_holding (wpAny_assign_Name (stLs F₃ (fun h₄ F₄ hs₄ => ?_) hxk hp)))
    refine wpAny_bind (wpAny_holding (wpAny_assign_Name (stLs F₄ (fun h₅ F₅ hs₅ => wpAny_pure ?_) hxv hp)))
    have hit₅ : IsItemIter h₅ I d (i + 1) kvs.length ep key v := (hs₅.2 I hIL).trans ((hs₄.2 I hIL).trans hit₃)
    refine wpAny_mono (turn i k v key B' h₅ m' pins' _ hv hkey hj hk hpn F₅.again) (fun f s₃ h₃ => ?_) fun _ _ e => e.elim
    obtain ⟨rfl, B₂, h₆, m₂, pins₂, tk₂, rfl, hpn₂, F₆, hj₂⟩ := h₃
    refine ⟨kvs.length + 1 - (i + 1), by omega, i + 1, B₂, h₆, m₂, pins₂, tk₂, key, v, rfl, hj₂, hk.trans F₆.st.sub, hpn₂, F₅.trans F₆ (hpn₂.trans hpn.symm), ?_, ?_, hlt, rfl⟩
    · exact F₆.st.old I _ (by rw [Xof_eq hpn₂]; exact hI.2.2.1) hit₅
    · cases e : B₂.get? I with
      | none => rfl
      | some o =>
        rcases F₆.st.new I o e with q | q
        · rw [hIB] at q; cases q
        · rw [hit₅] at q; cases q

theorem for_items {K : Type} [DecidableEq K] {knd : KeyKind prog w K} {E : Value → Shared → Prop} {Q : Flow → Shared → Prop} {xk xv : Str} {pk pv pt apos cpos pos : Pos} {x1 : Nat} {oe : Expr} {body : List Stmt} {d : Addr} {kvs : List (K × Value)}
    (hh : A.handled = none) (F : Fx env own B₀ h₀ B s.heap m cm pins) (hds : (d == sysModules) = false) (hm : B.DictOf knd d kvs)
    (ho : ∀ Q' : Value → Shared → Prop, Q' (.ref d) s → wpAny (model prog w) A (eval oe env) Q' E s)
    (J : Nat → Heap → (Str → Option Value) → List (Addr × Obj) → Prop) (j0 : J 0 B m pins)
    (turn : ∀ i k v key B₁ h₁ m₁ pins₁ tk, kvs[i]? = some (k, v) → knd.is k key = true → J i B₁ m₁ pins₁ → Keep B B₁ → pins₁.map (·.1) = pins.map (·.1) →
      Fx env own B₁ h₁ B₁ h₁ (fun y => if y = xv then some v else if y = xk then some key else m₁ y) cm pins₁ →
      wpAny (model prog w) A (execs body env) (fun f s' => f = .next ∧ ∃ B₂ h₂ m₂ pins₂ tk₂, s' = { s with heap := h₂, toks := tk₂ } ∧ pins₂.map (·.1) = pins.map (·.1) ∧ Fx env own B₁ h₁ B₂ h₂ m₂ cm pins₂ ∧ J (i + 1) B₂ m₂ pins₂) NE { s with heap := h₁, toks := tk })
    (done : ∀ B' h' m' pins' tk', J kvs.length B' m' pins' → Keep B B' → pins'.map (·.1) = pins.map (·.1) → Fx env own B₀ h₀ B' h' m' cm pins' → Q .next { s with heap := h', toks := tk' })
    (hbase : attributeBase oe "items" env (eval oe env) = eval oe env := by rfl) (hline : (apos.endLine == cpos.line) = true := by rfl)
    (hs : ∀ x, foldedSetIterable (.Call (.Attribute oe "items" apos) [] [] cpos) env x = pure x := by intro _; rfl)
    (hxk : env.kindOf xk = some .local := by rfl) (hxv : env.kindOf xv = some .local := by rfl)
    (hp : (env.scope.kind == .class || (env.scope.kind == .module && env.locals != env.globals)) = false := by rfl) :
    wpAny (model prog w) A (exec (.For (.Tuple [.Name xk pk, .Name xv pv] x1 pt) (.Call (.Attribute oe "items" apos) [] [] cpos) body [] pos) env) Q E s := by
  obtain ⟨ep, hat⟩ := hm.dictAt
  refine wpAny_For ?_ hs
  refine wpAny_Call_items hds (hm.keep F.keep) hbase hline ho ?_
  have F1 := F.push { cls := .type "dict_items", data := .fields #[.ref d] }
  refine wpAny_pyIter_items ⟨_, Heap.get?_push_size _ rfl, rfl, rfl⟩ (hat.keep F1.keep) ?_
  have hI := F1.fresh (Nat.le_refl _)
  have F2 := F1.push { cls := .type "dict_itemiterator", data := .fields #[.none, .bool false, .ref d, .int 0 0, .int kvs.length 0, .int ep 0, .none, .none] }
  exact fl_items hh hxk hxv hp F2 (Heap.get?_push_size _ rfl) hat hI J j0 turn done

theorem call_values {K : Type} [DecidableEq K] {knd : KeyKind prog w K} {E : Value → Shared → Prop}
    {o : Expr} {apos pos : Pos} {d : Addr} {kvs : List (K × Value)} {Q : Value → Shared → Prop} (hdS : (d == sysModules) = false) (hm : s.heap.DictOf knd d kvs)
    (ho : ∀ Q' : Value → Shared → Prop, Q' (.ref d) s → wpAny (model prog w) A (eval o env) Q' E s)
    (hQ : Q (.ref s.heap.objs.size) { s with heap := s.heap.push { cls := .type "dict_values", data := .fields #[.ref d] } })
    (hbase : attributeBase o "values" env (eval o env) = eval o env := by rfl) (hline : (apos.endLine == pos.line) = true := by rfl) :
    wpAny (model prog w) A (eval (.Call (.Attribute o "values" apos) [] [] pos) env) Q E s := by
  refine wpAny_Call_method (T := "dict") (id := "dict.values") hbase rfl hline PySem.F.plainAttrs_dict PySem.F.slot_dict_values PySem.F.type_dict_values (ho _ ⟨hm.typeIs, hm.mapOf.noDict, ?_⟩)
  show wpAny _ _ (callWith pos (.builtin "dict.values") [.ref d] [] []) Q E s
  exact method_meetsIn PySem.F.slot_dict_values PySem.F.entry_dict_values rfl (PyProof.Rows.evalArgs_none ⟨rfl, hm.typeIs, PySem.F.args_dict_values_1 _, _, meets_dict_values knd d hdS, ⟨kvs, hm⟩, hQ⟩)

theorem for_values {K : Type} [DecidableEq K] {knd : KeyKind prog w K} {E : Value → Shared → Prop} {Q : Flow → Shared → Prop} {x : Str} {px apos cpos pos : Pos} {oe : Expr} {body : List Stmt} {d : Addr} {kvs : List (K × Value)}
    (hh : A.handled = none) (F : Fx env own B₀ h₀ B s.heap m cm pins) (hds : (d == sysModules) = false) (hm : B.DictOf knd d kvs)
    (ho : ∀ Q' : Value → Shared → Prop, Q' (.ref d) s → wpAny (model prog w) A (eval oe env) Q' E s)
    (J : Nat → Heap → (Str → Option Value) → List (Addr × Obj) → Prop) (j0 : J 0 B m pins)
    (turn : ∀ i k v B₁ h₁ m₁ pins₁ tk, kvs[i]? = some (k, v) → J i B₁ m₁ pins₁ → Keep B B₁ → pins₁.map (·.1) = pins.map (·.1) →
      Fx env own B₁ h₁ B₁ h₁ (fun y => if y = x then some v else m₁ y) cm pins₁ →
      wpAny (model prog w) A (execs body env) (fun f s' => f = .next ∧ ∃ B₂ h₂ m₂ pins₂ tk₂, s' = { s with heap := h₂, toks := tk₂ } ∧ pins₂.map (·.1) = pins.map (·.1) ∧ Fx env own B₁ h₁ B₂ h₂ m₂ cm pins₂ ∧ J (i + 1) B₂ m₂ pins₂) NE { s with heap := h₁, toks := tk })
    (done : ∀ B' h' m' pins' tk', J kvs.length B' m' pins' → Keep B B' → pins'.map (·.1) = pins.map (·.1) → Fx env own B₀ h₀ B' h' m' cm pins' → Q .next { s with heap := h', toks := tk' })
    (hbase : attributeBase oe "values" env (eval oe env) = eval oe env := by rfl) (hline : (apos.endLine == cpos.line) = true := by rfl)
    (hs : ∀ x, foldedSetIterable (.Call (.Attribute oe "values" apos) [] [] cpos) env x = pure x := by intro _; rfl)
    (hx : env.kindOf x = some .local := by rfl)
    (hp : (env.scope.kind == .class || (env.scope.kind == .module && env.locals != env.globals)) = false := by rfl) :
    wpAny (model prog w) A (exec (.For (.Name x px) (.Call (.Attribute oe "values" apos) [] [] cpos) body [] pos) env) Q E s := by
  obtain ⟨ep, hat⟩ := hm.dictAt
  refine wpAny_For ?_ hs
  refine call_values hds (hm.keep F.keep) ho ?_ hbase hline
  have F1 := F.push { cls := .type "dict_values", data := .fields #[.ref d] }
  refine wpAny_pyIter_values ⟨_, Heap.get?_push_size _ rfl, rfl, rfl⟩ (hat.keep F1.keep) ?_
  have hI := F1.fresh (Nat.le_refl _)
  have hne : d ≠ (s.heap.push { cls := .type "dict_values", data := .fields #[.ref d] }).objs.size := Nat.ne_of_lt (hat.keep F1.keep).lt_size
  have F2 := F1.push { cls := .type "dict_valueiterator", data := .fields #[.ref d, .int 0 0, .int kvs.length 0, .int ep 0] }
  refine fl_name (s := { s with heap := _ }) (Walks.dictValues (knd := knd) hh _ d hne kvs ep) (fun i h st => let ⟨o, e, _⟩ := st.1; ⟨o, e⟩) hx hp F2 ⟨⟨_, Heap.get?_push_size _ rfl, rfl, rfl⟩, hat.keep F2.keep⟩ hI ?_ J j0
    (fun i v B₁ h₁ m₁ pins₁ tk _ ⟨k, hk⟩ => turn i k v B₁ h₁ m₁ pins₁ tk hk) done
  intro b hb
  rcases List.mem_cons.mp hb with rfl | hb
  · exact hI.2.2.1
  · rw [List.mem_singleton.mp hb]; exact fun q => by
      have := F.st.off _ q
      obtain ⟨o, _, ho, _⟩ := hat
      rw [ho] at this; cases this

/-- the signs of a text -/
theorem iter_str {E : Value → Shared → Prop} {x : Str} {t : Tok} {Q : Value → Shared → Prop}
    (hQ : ∀ (o : Obj) (St : Nat → Heap → Prop), (∀ A' : Around, A'.handled = none → Walks prog w A' s.heap.objs.size [s.heap.objs.size] [s.heap.objs.size] x.cps.size (SignAt x) St) → St 0 (s.heap.push o) → o.isFreed = false →
      (∀ i h, St i h → ∃ o, h.get? s.heap.objs.size = some o) →
      Q (.ref s.heap.objs.size) { s with heap := s.heap.push o }) : wpAny (model prog w) A (pyIter (.str x t)) Q E s := by
  cases ha : x.cps.all (· < 128)
  · exact wpAny_pyIter_wide ha (hQ _ _ (fun A' hA => Walks.strWide hA _ x t) ⟨_, Heap.get?_push_size _ rfl, rfl, rfl⟩ rfl fun i h ⟨o, e, _⟩ => ⟨o, e⟩)
  · exact wpAny_pyIter_ascii ha (hQ _ _ (fun A' hA => Walks.strAscii hA _ x t) ⟨_, Heap.get?_push_size _ rfl, rfl, rfl⟩ rfl fun i h ⟨o, e, _⟩ => ⟨o, e⟩)

/-- a loop over the signs of a text; the source is any expression -/
theorem for_str {E : Value → Shared → Prop} {Q : Flow → Shared → Prop} {x : Str} {px pos : Pos} {iter : Expr} {body : List Stmt} {z : Str} {t : Tok} {tk₀ : Nat} {h₁ : Heap}
    (hh : A.handled = none) (F : Fx env own B₀ h₀ B h₁ m cm pins)
    (ho : ∀ Q' : Value → Shared → Prop, Q' (.str z t) { s with heap := h₁, toks := tk₀ } → wpAny (model prog w) A (eval iter env) Q' E s)
    (J : Nat → Heap → (Str → Option Value) → List (Addr × Obj) → Prop) (j0 : J 0 B m pins)
    (turn : ∀ i c u B₁ h₁ m₁ pins₁ tk, z.cps[i]? = some c → J i B₁ m₁ pins₁ → Keep B B₁ → pins₁.map (·.1) = pins.map (·.1) →
      Fx env own B₁ h₁ B₁ h₁ (fun y => if y = x then some (.str ⟨#[c]⟩ u) else m₁ y) cm pins₁ →
      wpAny (model prog w) A (execs body env) (fun f s' => f = .next ∧ ∃ B₂ h₂ m₂ pins₂ tk₂, s' = { s with heap := h₂, toks := tk₂ } ∧ pins₂.map (·.1) = pins.map (·.1) ∧ Fx env own B₁ h₁ B₂ h₂ m₂ cm pins₂ ∧ J (i + 1) B₂ m₂ pins₂) NE { s with heap := h₁, toks := tk })
    (done : ∀ B' h' m' pins' tk', J z.cps.size B' m' pins' → Keep B B' → pins'.map (·.1) = pins.map (·.1) → Fx env own B₀ h₀ B' h' m' cm pins' → Q .next { s with heap := h', toks := tk' })
    (hs : ∀ x, foldedSetIterable iter env x = pure x := by intro _; rfl)
    (hx : env.kindOf x = some .local := by rfl)
    (hp : (env.scope.kind == .class || (env.scope.kind == .module && env.locals != env.globals)) = false := by rfl) :
    wpAny (model prog w) A (exec (.For (.Name x px) iter body [] pos) env) Q E s := by
  refine wpAny_For (ho _ ?_) hs
  refine iter_str fun o St W st0 hf live => ?_
  have hI := F.fresh (Nat.le_refl _)
  refine fl_name (s := { s with heap := _, toks := tk₀ }) (W A hh) live hx hp (F.push o) st0 hI (fun b hb => by rw [List.mem_singleton.mp hb]; exact hI.2.2.1) J j0
    (fun i v B₁ h₁ m₁ pins₁ tk _ ⟨c, u, hc, e⟩ => by subst e; exact turn i c u B₁ h₁ m₁ pins₁ tk hc) done
end
end Mine

namespace Mine

theorem Fx.ofFr {s : Shared} {h₁ B : Heap} {m cm : Str → Option Value} {name : Str} {scope : Scope} {a : Addr} {cd : Value} (hB : Keep B s.heap) (F : Fr s.heap s.heap.objs.size h₁ m) :
    Fx (envOf name scope s.heap.objs.size a cd) [] B s.heap B h₁ m cm [] where
  st := ⟨hB.trans F.keep, Keep.refl _, fun b o _ e => F.keep b o e, fun _ _ e => .inl e, fun b hb => by
      rw [show b = s.heap.objs.size from by simpa [Xof, envOf] using hb]
      exact none_of_keep hB (none_of_ge (Nat.le_refl _)), fun b hb => by
      rw [show b = s.heap.objs.size from by simpa [Xof, envOf] using hb]
      obtain ⟨o, _, _, e, _⟩ := F.ns; exact ⟨o, e⟩⟩
  ns := F.ns
  cell := fun n c hc => by simp [envOf] at hc
  cellX := fun n c hc => by simp [envOf] at hc
  pin := fun p hp => nomatch hp
  nd := by simp [Xof, envOf]

/-- a def without cells is left -/
theorem Fx.leave {name : Str} {scope : Scope} {a : Addr} {cd : Value} {B B' h₀ h' : Heap} {m cm : Str → Option Value} {pins : List (Addr × Obj)} (F : Fx (envOf name scope h₀.objs.size a cd) [] B h₀ B' h' m cm pins)
    (hp : pins.map (·.1) = ([] : List (Addr × Obj)).map (·.1)) : Grow B h₀ B' h' := by
  have hp : pins = [] := by simpa using hp
  subst hp
  refine ⟨F.keep, F.st.sub, fun b o e => F.st.old b o ?_ e, F.st.new⟩
  intro hb
  have : b = h₀.objs.size := by simpa [Xof, envOf] using hb
  rw [this, none_of_ge (Nat.le_refl _)] at e; cases e

section
variable {prog : Program} {w : World} {A : Around} {s : Shared} {mg mb : Str → Option Value} {B : Heap}

/-- a def without cells is entered -/
theorem enter {d : DefRec} {f : Value} {args : List Value} {binds : List (Str × Value)} {Q E : Value → Shared → Prop}
    (hm : d ∈ PySem.defsOf PySem.Challenge.pw_pe0056_01) (G : Gl mg mb B) (hB : Keep B s.heap) (hf : mg d.name = some f) (hd : A.depth < recursionLimit)
    (hbind : ∀ pm cd doc, bindArgs (docDef d.name d.params d.body d.scope pm cd doc) ⟨args, []⟩ = pure binds)
    (h : ∀ a cd h₁ tk, Fx (envOf d.name d.scope s.heap.objs.size a cd) [] B s.heap B h₁ (fun x => binds.reverse.lookup x) (fun _ => none) [] →
      wpAny (model prog w) (A.deeper (envOf d.name d.scope s.heap.objs.size a cd)) (execs d.body (envOf d.name d.scope s.heap.objs.size a cd)) (fun fl s' => Q (match fl with | .ret v => v | _ => .none) s') NE { s with heap := h₁, toks := tk })
    (hco : d.scope.isCoroutine = false := by rfl) (hgen : d.scope.isGenerator = false := by rfl) (hk : d.scope.kind = .function := by rfl)
    (hcell : ∀ x ∈ d.scope.names, x.2 ≠ .cell := by decide) (hloc : ∀ x ∈ binds, d.scope.names.lookup x.1 = some .local := by exact locs rfl) : wpAny (model prog w) A (call f args) Q E s := by
  obtain ⟨a, o, pm, cd, doc, hmg, ho, hdat, hcd⟩ := G.fn d hm
  obtain rfl : f = .ref a := Option.some.inj (hf.symm.trans hmg)
  exact wpAny_call (call_plain_ret hd (hB _ _ ho) hdat (G.lim.keeps hB) (hcd.keeps hB) (hbind pm cd doc) hloc (fun h₁ F => h a cd h₁ _ (Fx.ofFr hB F)) hco hgen hk hcell)
end

theorem lookup_of_mem {l : List (Str × Addr)} (hn : (l.map (·.1)).Nodup) {x : Str} {c : Addr} (h : (x, c) ∈ l) : l.lookup x = some c := by
  induction l with
  | nil => cases h
  | cons p r ih =>
    obtain ⟨y, d⟩ := p
    rw [List.map_cons] at hn
    rw [List.lookup_cons]
    rcases List.mem_cons.mp h with e | h'
    · cases e; simp
    · have hne : x ≠ y := fun q => (List.nodup_cons.mp hn).1 (q ▸ List.mem_map.mpr ⟨_, h', rfl⟩)
      rw [beq_eq_false_iff_ne.mpr hne]
      exact ih (List.nodup_cons.mp hn).2 h'
theorem cellsFrom_fst : ∀ (names : List (Str × NameKind)) (n n' : Nat) (acc acc' : List (Str × Addr)), acc.map (·.1) = acc'.map (·.1) → (cellsFrom n names acc).map (·.1) = (cellsFrom n' names acc').map (·.1)
  | [], _, _, _, _, h => h
  | (y, k) :: r, n, n', acc, acc', h => by
    unfold cellsFrom
    split
    · exact cellsFrom_fst r _ _ _ _ (by simp [h])
    · exact cellsFrom_fst r _ _ _ _ h
theorem cells_found {names : List (Str × NameKind)} (hn : ((cellsFrom 0 names []).map (·.1)).Nodup) (n : Nat) (c : Addr) (hc : c ∈ (cellsFrom n names []).map (·.2)) : ∃ x, (cellsFrom n names []).lookup x = some c := by
  obtain ⟨p, hp, rfl⟩ := List.mem_map.mp hc
  exact ⟨p.1, lookup_of_mem (by rw [cellsFrom_fst names n 0 [] [] rfl]; exact hn) hp⟩
theorem cellsFrom_ge : ∀ (names : List (Str × NameKind)) (n m : Nat) (acc : List (Str × Addr)), m ≤ n → (∀ p ∈ acc, m ≤ p.2) → ∀ p ∈ cellsFrom n names acc, m ≤ p.2
  | [], _, _, _, _, h => h
  | (y, k) :: r, n, m, acc, hm, h => by
    unfold cellsFrom
    split
    · refine cellsFrom_ge r (n + 1) m _ (Nat.le_succ_of_le hm) fun p hp => ?_
      rcases List.mem_cons.mp hp with rfl | hp
      · exact hm
      · exact h p hp
    · exact cellsFrom_ge r n m acc hm h
/-- a def with cells of its own is entered -/
theorem Fx.ofCl {s : Shared} {h₁ B : Heap} {m cm : Str → Option Value} {name : Str} {scope : Scope} {a : Addr} {cd : Value} (hB : Keep B s.heap) (F : Fr s.heap s.heap.objs.size h₁ m)
    (C : Cl s.heap.objs.size (cellsFrom (s.heap.objs.size + 1) scope.names []) h₁ cm) (hl : ∀ c ∈ (cellsFrom (s.heap.objs.size + 1) scope.names []).map (·.2), ∃ n, (cellsFrom (s.heap.objs.size + 1) scope.names []).lookup n = some c) :
    Fx (envOfC name scope s.heap.objs.size a cd) ((cellsFrom (s.heap.objs.size + 1) scope.names []).map (·.2)) B s.heap B h₁ m cm [] where
  st := ⟨hB.trans F.keep, Keep.refl _, fun b o _ e => F.keep b o e, fun _ _ e => .inl e, fun b hb => by
      refine none_of_keep hB (none_of_ge ?_)
      rcases List.mem_cons.mp hb with rfl | hb
      · exact Nat.le_refl _
      · simp only [List.map_nil, List.append_nil] at hb
        obtain ⟨p, hp, rfl⟩ := List.mem_map.mp hb; exact Nat.le_of_lt (C.above p.1 p.2 hp), fun b hb => by
      rcases List.mem_cons.mp hb with rfl | hb
      · obtain ⟨o, _, _, e, _⟩ := F.ns; exact ⟨o, e⟩
      · simp only [List.map_nil, List.append_nil] at hb
        obtain ⟨n, hn⟩ := hl b hb
        obtain ⟨o, e, _⟩ := C.cell n b hn; exact ⟨o, e⟩⟩
  ns := F.ns
  cell := C.cell
  cellX := fun n c hc => .inl (List.mem_map.mpr ⟨_, mem_of_lookup hc, rfl⟩)
  pin := fun p hp => nomatch hp
  nd := by
    unfold Xof
    simp only [List.map_nil, List.append_nil]
    refine List.nodup_cons.mpr ⟨fun hm => ?_, ?_⟩
    · obtain ⟨p, hp, e⟩ := List.mem_map.mp hm
      have := C.above p.1 p.2 hp
      rw [e] at this; exact Nat.lt_irrefl _ this
    · exact List.pairwise_map.mpr C.apart
theorem Fx.leaveC {name : Str} {scope : Scope} {a : Addr} {cd : Value} {B B' h₀ h' : Heap} {m cm : Str → Option Value} {pins : List (Addr × Obj)}
    (F : Fx (envOfC name scope h₀.objs.size a cd) ((cellsFrom (h₀.objs.size + 1) scope.names []).map (·.2)) B h₀ B' h' m cm pins)
    (hp : pins.map (·.1) = ([] : List (Addr × Obj)).map (·.1)) : Grow B h₀ B' h' := by
  have hab : ∀ c ∈ (cellsFrom (h₀.objs.size + 1) scope.names []).map (·.2), h₀.objs.size ≤ c := fun c hc => by
    obtain ⟨p, hp, rfl⟩ := List.mem_map.mp hc
    exact cellsFrom_ge scope.names _ _ _ (Nat.le_succ _) (fun _ h => absurd h List.not_mem_nil) p hp
  have hp : pins = [] := by simpa using hp
  subst hp
  refine ⟨F.keep, F.st.sub, fun b o e => F.st.old b o ?_ e, F.st.new⟩
  intro hb
  have hge : h₀.objs.size ≤ b := by
    rcases List.mem_cons.mp hb with rfl | hb
    · exact Nat.le_refl _
    · simp only [List.map_nil, List.append_nil] at hb
      exact hab b hb
  rw [none_of_ge hge] at e; cases e
section
variable {prog : Program} {w : World} {A : Around} {s : Shared} {mg mb : Str → Option Value} {B : Heap}
theorem enterC {d : DefRec} {f : Value} {args : List Value} {binds : List (Str × Value)} {Q E : Value → Shared → Prop}
    (hm : d ∈ PySem.defsOf PySem.Challenge.pw_pe0056_01) (G : Gl mg mb B) (hB : Keep B s.heap) (hf : mg d.name = some f) (hd : A.depth < recursionLimit)
    (hbind : ∀ pm cd doc, bindArgs (docDef d.name d.params d.body d.scope pm cd doc) ⟨args, []⟩ = pure binds)
    (h : ∀ a cd h₁ tk, Fx (envOfC d.name d.scope s.heap.objs.size a cd) ((cellsFrom (s.heap.objs.size + 1) d.scope.names []).map (·.2)) B s.heap B h₁
        (bindL (envOfC d.name d.scope s.heap.objs.size a cd).kindOf binds fun _ => none) (bindC (envOfC d.name d.scope s.heap.objs.size a cd).kindOf binds fun _ => none) [] →
      wpAny (model prog w) (A.deeper (envOfC d.name d.scope s.heap.objs.size a cd)) (execs d.body (envOfC d.name d.scope s.heap.objs.size a cd)) (fun fl s' => Q (match fl with | .ret v => v | _ => .none) s') NE { s with heap := h₁, toks := tk })
    (hnd : ((cellsFrom 0 d.scope.names []).map (·.1)).Nodup := by decide)
    (hkind : (binds.all fun y => d.scope.names.lookup y.1 == some .local || d.scope.names.lookup y.1 == some .cell) = true := by rfl)
    (hco : d.scope.isCoroutine = false := by rfl) (hgen : d.scope.isGenerator = false := by rfl) (hk : d.scope.kind = .function := by rfl) : wpAny (model prog w) A (call f args) Q E s := by
  obtain ⟨a, o, pm, cd, doc, hmg, ho, hdat, hcd⟩ := G.fn d hm
  obtain rfl : f = .ref a := Option.some.inj (hf.symm.trans hmg)
  exact wpAny_call (call_cells_ret hd (hB _ _ ho) hdat (G.lim.keeps hB) (hcd.keeps hB) (hbind pm cd doc) (kindsX hkind _) (fun h₁ tk F C => h a cd h₁ tk (Fx.ofCl hB F C fun c hc => cells_found hnd _ c hc)) hco hgen hk)
end

/-! tables, plain -/
def put (t : List (Str × Int)) (k : Str) (n : Int) : List (Str × Int) := if t.any (fun e => e.1 = k) then t.map (fun e => if e.1 = k then (e.1, n) else e) else t ++ [(k, n)]
def getT (t : List (Str × Int)) (k : Str) : Option Int := (t.find? fun e => e.1 = k).map (·.2)
def addTo (t : List (Str × Int)) (e : Str × Int) : List (Str × Int) := match getT t e.1 with
  | some n => put t e.1 (n + e.2)
  | none => put t e.1 e.2
def merge (t u : List (Str × Int)) : List (Str × Int) := u.foldl addTo t
theorem put_length (t : List (Str × Int)) (k : Str) (n : Int) : (put t k n).length ≤ t.length + 1 := by
  unfold put; split <;> simp
theorem addTo_length (t : List (Str × Int)) (e : Str × Int) : (addTo t e).length ≤ t.length + 1 := by
  unfold addTo; split <;> exact put_length ..
theorem merge_length (u : List (Str × Int)) : ∀ t, (merge t u).length ≤ t.length + u.length := by
  induction u with
  | nil => intro t; simp [merge]
  | cons e u ih => intro t; have h1 := ih (addTo t e); have h2 := addTo_length t e; simp only [merge, List.foldl_cons, List.length_cons] at h1 ⊢; omega

abbrev Row3 := Str × Int × Tok
abbrev bare (vals : List Row3) : List (Str × Int) := vals.map fun x => (x.1, x.2.1)
theorem stored_bare (vals : List Row3) (k : Str) (n : Int) (u : Tok) : ∃ vals', stored (intPairs vals) k (.int n u) = intPairs vals' ∧ bare vals' = put (bare vals) k n := by
  have hany : (intPairs vals).any (fun kv => kv.1 = k) = (bare vals).any fun e => e.1 = k := by
    simp [intPairs, bare, List.any_map, Function.comp_def]
  unfold stored put
  rw [hany]
  split
  · refine ⟨vals.map fun x => if x.1 = k then (x.1, n, u) else x, ?_, ?_⟩
    · simp only [intPairs, List.map_map]
      refine List.map_congr_left fun x _ => ?_
      simp only [Function.comp_apply]
      by_cases h : x.1 = k <;> simp [h]
    · simp only [bare, List.map_map]
      refine List.map_congr_left fun x _ => ?_
      simp only [Function.comp_apply]
      by_cases h : x.1 = k <;> simp [h]
  · exact ⟨vals ++ [(k, n, u)], by simp [intPairs], by simp [bare]⟩
theorem valueAt_bare (vals : List Row3) (k : Str) : (∃ n u, valueAt (intPairs vals) k = some (.int n u) ∧ getT (bare vals) k = some n) ∨ (valueAt (intPairs vals) k = none ∧ getT (bare vals) k = none) := by
  rw [valueAt_intPairs]
  have e : getT (bare vals) k = (vals.find? fun x => x.1 = k).map (·.2.1) := by
    simp only [getT, bare, List.find?_map, Option.map_map, Function.comp_def]
  rw [e]
  cases h : vals.find? fun x => x.1 = k with
  | none => right; simp
  | some x => left; exact ⟨x.2.1, x.2.2, rfl, rfl⟩

section
variable {prog : Program} {w : World}
/-- a dict object that holds the table t -/
def TabO (prog : Program) (w : World) (o : Obj) (t : List (Str × Int)) : Prop := ∃ vals : List Row3, o.IsDictOf (strKind prog w) (intPairs vals) ∧ bare vals = t
/-- a table: a dict of ints under strs, at v -/
def Tab (prog : Program) (w : World) (B : Heap) (v : Value) (t : List (Str × Int)) : Prop := ∃ a o, v = .ref a ∧ (a == sysModules) = false ∧ B.get? a = some o ∧ TabO prog w o t
theorem Tab.keep {B B' : Heap} {v : Value} {t : List (Str × Int)} (x : Tab prog w B v t) (k : Keep B B') : Tab prog w B' v t :=
  let ⟨a, o, h1, h2, h3, h4⟩ := x; ⟨a, o, h1, h2, k _ _ h3, h4⟩

variable {A : Around} {E : Value → Shared → Prop} {s : Shared} {env : Env} {own : List Addr} {B₀ h₀ B : Heap} {m cm mg mb : Str → Option Value} {pins : List (Addr × Obj)}
theorem tabO_new : TabO prog w { cls := .type "dict", data := .dict #[] } [] := by
  refine ⟨[], ?_, rfl⟩
  obtain ⟨o, ho, h⟩ := Heap.dictOf_iff.mp (Heap.DictOf.new (knd := strKind prog w) {})
  rw [Heap.get?_push_size _ rfl] at ho; cases ho; exact h

theorem set_pin {D : Addr} {o : Obj} {T : List (Str × Int)} {k : Str} {t u : Tok} {n : Int} {Q : Unit → Shared → Prop} (F : Fx env own B₀ h₀ B s.heap m cm ((D, o) :: pins)) (hT : TabO prog w o T) (hlen : T.length ≤ 5000)
    (h : ∀ h' o', Fx env own B₀ h₀ B h' m cm ((D, o') :: pins) → TabO prog w o' (put T k n) → Q () { s with heap := h', toks := s.toks + 1 }) :
    wpAny (model prog w) A (setItem (.ref D) (.str k t) (.int n u)) Q E s := by
  obtain ⟨vals, hv, rfl⟩ := hT
  refine wpAny_setItem_pairs (strKind_is prog w k t) (Heap.dictOf_iff.mpr ⟨o, F.pin_get, hv⟩) (fun h' hd' hs' => ?_) ?_
  · obtain ⟨vals', e1, e2⟩ := stored_bare vals k n u
    rw [e1] at hd'
    obtain ⟨o', ho', hv'⟩ := Heap.dictOf_iff.mp hd'
    exact h h' o' (F.setPin ho' hs') ⟨vals', hv', e2⟩
  · have : (intPairs vals).length = (bare vals).length := by simp [intPairs, bare]
    rw [this, sizeLine_eq]; omega
theorem get_pin {D : Addr} {o : Obj} {T : List (Str × Int)} {k : Str} {t : Tok} {n : Int} {Q : Value → Shared → Prop} (F : Fx env own B₀ h₀ B s.heap m cm ((D, o) :: pins)) (hT : TabO prog w o T) (hn : getT T k = some n)
    (h : ∀ u, Q (.int n u) { s with toks := s.toks + 1 }) : wpAny (model prog w) A (getItem (.ref D) (.str k t)) Q E s := by
  obtain ⟨vals, hv, rfl⟩ := hT
  have hd : s.heap.DictOf (strKind prog w) D (intPairs vals) := Heap.dictOf_iff.mpr ⟨o, F.pin_get, hv⟩
  rcases valueAt_bare vals k with ⟨n', u, e1, e2⟩ | ⟨_, e2⟩
  · rw [hn] at e2; cases e2
    exact wpAny_getItem_of (strKind_is prog w k t) hd.mapOf e1 (h u)
  · rw [hn] at e2; cases e2
theorem in_pin {D : Addr} {o : Obj} {T : List (Str × Int)} {k : Str} {t : Tok} {Q : Value → Shared → Prop} (F : Fx env own B₀ h₀ B s.heap m cm ((D, o) :: pins)) (hD : (D == sysModules) = false) (hT : TabO prog w o T)
    (h : Q (.bool (getT T k).isSome) { s with toks := s.toks + 1 }) : wpAny (model prog w) A (compareOp .In (.str k t) (.ref D)) Q E s := by
  obtain ⟨vals, hv, rfl⟩ := hT
  have hd : s.heap.DictOf (strKind prog w) D (intPairs vals) := Heap.dictOf_iff.mpr ⟨o, F.pin_get, hv⟩
  refine wpAny_in_of (strKind_is prog w k t) hD hd.mapOf ?_
  rcases valueAt_bare vals k with ⟨n', u, e1, e2⟩ | ⟨e1, e2⟩
  · rw [e2] at h; rw [e1]; exact h
  · rw [e2] at h; rw [e1]; exact h
end

section
variable {prog : Program} {w : World} {A : Around} {s : Shared} {mg mb : Str → Option Value} {B : Heap}
theorem add_callers_spec {f t u : Value} {kt ku : List (Str × Int)} {Q : Value → Shared → Prop} {E : Value → Shared → Prop}
    (G : Gl mg mb B) (hB : Keep B s.heap) (hf : mg (Str.ofString "add_callers") = some f) (hA : A.handled = none) (hd : A.depth < recursionLimit)
    (ht : Tab prog w B t kt) (hu : Tab prog w B u ku) (hlen : kt.length + ku.length ≤ 1000)
    (hQ : ∀ v B' h' tk', Grow B s.heap B' h' → Tab prog w B' v (merge kt ku) → Q v { s with heap := h', toks := tk' }) : wpAny (model prog w) A (call f [t, u]) Q E s := by
  refine enter (List.mem_of_getElem? (show (PySem.defsOf PySem.Challenge.pw_pe0056_01)[1]? = some _ from rfl)) G hB hf hd (binds := [(Str.ofString "target", t), (Str.ofString "source", u)]) (fun _ _ _ => rfl) fun a cd h₁ tk F => ?_
  obtain ⟨at', ot, rfl, hst, htd, vt, hvt, rfl⟩ := ht
  obtain ⟨au, ou, rfl, hsu, hud, vu, hvu, rfl⟩ := hu
  dsimp only at F ⊢
  have hD0 : s.heap.get? h₁.objs.size = none := none_of_ge (by
    obtain ⟨o, e⟩ := F.st.live _ (List.mem_cons_self ..)
    exact Nat.le_of_lt (Heap.lt_size e))
  refine wpAny_execs_cons ?_
  refine wpAny_Assign_Name (wpAny_Dict_empty ?_)
  replace F := F.addPin (o := { cls := .type "dict", data := .dict #[] }) rfl
  generalize hDe : h₁.objs.size = D at F hD0 ⊢
  have hDs : (D == sysModules) = false := by
    obtain ⟨o, e⟩ := G.low sysModules (.inr (.inr rfl))
    cases q : D == sysModules with
    | false => rfl
    | true => rw [beq_iff_eq.mp q] at hD0; rw [hB _ _ e] at hD0; cases hD0
  refine stL F fun h₂ F => ?_
  dsimp only
  have hdt : B.DictOf (strKind prog w) at' (intPairs vt) := Heap.dictOf_iff.mpr ⟨ot, htd, hvt⟩
  have hdu : B.DictOf (strKind prog w) au (intPairs vu) := Heap.dictOf_iff.mpr ⟨ou, hud, hvu⟩
  refine wpAny_execs_cons ?_
  have hnt : ((bare vt).map (·.1)).Nodup := by
    obtain ⟨_, _, _, _, _, _, _, _, hn⟩ := hdt
    simpa [bare, intPairs, List.map_map, Function.comp_def] using hn
  refine for_items (knd := strKind prog w) hA F hst hdt (fun Q' h => nmL F rfl h)
    (fun i B' m' pins' => m' (Str.ofString "new_callers") = some (.ref D) ∧ m' (Str.ofString "source") = some (.ref au) ∧ ∃ o, pins' = [(D, o)] ∧ TabO prog w o ((bare vt).take i))
    ⟨rfl, rfl, _, rfl, tabO_new⟩ ?_ ?_
  · rintro i k v key B₁ h₃ m₁ pins₁ tk₁ hi hkey ⟨hm1, hm2, o, rfl, ho⟩ hBB hpn F
    obtain ⟨tkk, rfl⟩ := Value.isStrOf_shape hkey
    have hk1 : i < vt.length := by have := (List.getElem?_eq_some_iff.mp hi).1; simpa [intPairs] using this
    obtain ⟨n, u, rfl⟩ : ∃ n u, v = .int n u := by
      simp only [intPairs, List.getElem?_map, Option.map_eq_some_iff] at hi
      obtain ⟨x, _, e⟩ := hi; cases e; exact ⟨_, _, rfl⟩
    have hbi : (bare vt)[i]? = some (k, n) := by
      simp only [intPairs, bare, List.getElem?_map, Option.map_eq_some_iff] at hi ⊢
      obtain ⟨x, e1, e⟩ := hi; cases e; exact ⟨x, e1, rfl⟩
    refine wpAny_execs_cons (wpAny_Assign_Subscript (nmL F rfl (nmL F hm1 (nmL F rfl ?_))))
    refine set_pin F ho (by simp [bare] at hlen ⊢; omega) fun h₄ o' F ho' => wpAny_execs_nil ⟨rfl, B₁, h₄, _, [(D, o')], _, rfl, rfl, F, hm1, hm2, o', rfl, ?_⟩
    have e : put ((bare vt).take i) k n = (bare vt).take (i + 1) := by
      have hno : k ∉ ((bare vt).take i).map (·.1) := by
        intro hmem
        have h2 : ((bare vt).map (·.1))[i]? = some k := by rw [List.getElem?_map, hbi]; rfl
        rw [List.map_take] at hmem
        obtain ⟨j, hj, e⟩ := List.getElem_of_mem hmem
        rw [List.getElem_take] at e
        have hji : j < i := by have := hj; simp at this; omega
        have hlt : i < ((bare vt).map (·.1)).length := (List.getElem?_eq_some_iff.mp h2).1
        have h3 := (List.getElem?_eq_some_iff.mp h2).2
        exact (List.pairwise_iff_getElem.mp hnt) j i (by omega) hlt hji (e.trans h3.symm)
      rw [List.take_add_one, hbi]
      unfold put
      rw [if_neg]
      · rfl
      · simp only [List.any_eq_true, decide_eq_true_eq, not_exists, not_and]
        intro x hx e
        exact hno (List.mem_map.mpr ⟨x, hx, e⟩)
    rw [← e]; exact ho'
  · rintro B' h' m' pins' tk' ⟨hm1, hm2, o, rfl, ho⟩ hBB hpn F
    replace ho : TabO prog w o (bare vt) := by
      have : (bare vt).take (intPairs vt).length = bare vt := List.take_of_length_le (by simp [bare, intPairs])
      rw [this] at ho; exact ho
    dsimp only
    refine wpAny_execs_cons ?_
    refine for_items (knd := strKind prog w) hA F hsu (hdu.keep hBB) (fun Q' h => nmL F hm2 h)
      (fun i B' m' pins' => m' (Str.ofString "new_callers") = some (.ref D) ∧ ∃ o, pins' = [(D, o)] ∧ TabO prog w o (merge (bare vt) ((bare vu).take i)))
      ⟨hm1, _, rfl, ho⟩ ?_ ?_
    · rintro i k v key B₁ h₃ m₁ pins₁ tk₁ hi hkey ⟨hm1, o, rfl, ho⟩ hBB1 hpn F
      have G1 := G.keeps (hBB.trans hBB1)
      obtain ⟨tkk, rfl⟩ := Value.isStrOf_shape hkey
      obtain ⟨n, u, rfl⟩ : ∃ n u, v = .int n u := by
        simp only [intPairs, List.getElem?_map, Option.map_eq_some_iff] at hi
        obtain ⟨x, _, e⟩ := hi; cases e; exact ⟨_, _, rfl⟩
      have hbi : (bare vu)[i]? = some (k, n) := by
        simp only [intPairs, bare, List.getElem?_map, Option.map_eq_some_iff] at hi ⊢
        obtain ⟨x, e1, e⟩ := hi; cases e; exact ⟨x, e1, rfl⟩
      have hL : (merge (bare vt) ((bare vu).take i)).length ≤ 5000 := by
        have h1 := merge_length ((bare vu).take i) (bare vt)
        have h2 : ((bare vu).take i).length ≤ (bare vu).length := by rw [List.length_take]; exact Nat.min_le_right ..
        omega
      have hstep : merge (bare vt) ((bare vu).take (i + 1)) = addTo (merge (bare vt) ((bare vu).take i)) (k, n) := by
        rw [List.take_add_one, hbi]; simp [merge]
      rw [hstep]
      refine wpAny_execs_cons (wpAny_If (wpAny_isTrue_Compare1 (nmL F rfl (nmL F hm1 (in_pin F hDs ho (wpAny_truthy_bool ?_))))))
      unfold addTo
      cases hg : getT (merge (bare vt) ((bare vu).take i)) k with
      | none =>
        simp only [Option.isSome_none, Bool.false_eq_true, if_false]
        refine wpAny_execs_cons (wpAny_Assign_Subscript (nmL F rfl (nmL F hm1 (nmL F rfl ?_))))
        refine set_pin F ho hL fun h₄ o' F ho' => wpAny_execs_nil (wpAny_execs_nil ⟨rfl, B₁, h₄, _, [(D, o')], _, rfl, rfl, F, hm1, o', rfl, ho'⟩)
      | some n' =>
        simp only [Option.isSome_some, if_true]
        refine wpAny_execs_cons (wpAny_If (isTrue_plain ?_))
        refine Call_ (nmB F G1 (by decide) boot_isinstance ?_)
        refine PyProof.Rows.callWith_builtin1 ?_
        refine args_cons (nmL F rfl ?_)
        refine args_cons ?_
        refine nmB F G1 (by decide) boot_tuple ?_
        refine args_nil ?_
        refine PySem.IsiPair.int_tuple (wpAny_truthy_bool ?_)
        simp only [Bool.false_eq_true, if_false]
        refine wpAny_execs_cons (wpAny_AugAssign_Subscript (nmL F hm1 (nmL F rfl ?_)))
        refine get_pin F ho hg fun u' => ?_
        refine nmL F rfl ?_
        with_reducible refine iadd_int ?_
        refine set_pin F ho hL fun h₄ o' F ho' => wpAny_execs_nil (wpAny_execs_nil (wpAny_execs_nil ⟨rfl, B₁, h₄, _, [(D, o')], _, rfl, rfl, F, hm1, o', rfl, ho'⟩))
    · rintro B₂ h₂ m₂ pins₂ tk₂ ⟨hm1, o, rfl, ho⟩ hBB2 hpn F
      have e : (bare vu).take (intPairs vu).length = bare vu := List.take_of_length_le (by simp [bare, intPairs])
      rw [e] at ho
      refine wpAny_execs_cons (wpAny_Return_some (nmL F hm1 ?_))
      obtain ⟨B₃, hk3, hD3, F⟩ := F.freeze hD0
      exact hQ _ B₃ _ _ (F.leave rfl) ⟨D, o, rfl, hDs, hD3, ho⟩
end
end Mine

namespace Mine

def sumT (t : List (Str × Int)) : Int := (t.map (·.2)).sum

section
variable {prog : Program} {w : World} {A : Around} {s : Shared} {mg mb : Str → Option Value} {B : Heap}
theorem count_calls_spec {f t : Value} {kt : List (Str × Int)} {Q : Value → Shared → Prop} {E : Value → Shared → Prop}
    (G : Gl mg mb B) (hB : Keep B s.heap) (hf : mg (Str.ofString "count_calls") = some f) (hA : A.handled = none) (hd : A.depth < recursionLimit)
    (ht : Tab prog w B t kt)
    (hQ : ∀ B' h' tk' u, Grow B s.heap B' h' → Q (.int (sumT kt) u) { s with heap := h', toks := tk' }) : wpAny (model prog w) A (call f [t]) Q E s := by
  refine enter (List.mem_of_getElem? (show (PySem.defsOf PySem.Challenge.pw_pe0056_01)[2]? = some _ from rfl)) G hB hf hd (binds := [(Str.ofString "callers", t)]) (fun _ _ _ => rfl) fun a cd h₁ tk F => ?_
  obtain ⟨at', ot, rfl, hst, htd, vt, hvt, rfl⟩ := ht
  have hdt : B.DictOf (strKind prog w) at' (intPairs vt) := Heap.dictOf_iff.mpr ⟨ot, htd, hvt⟩
  dsimp only at F ⊢
  refine wpAny_execs_cons (wpAny_Assign_Name (wpAny_Constant_int (stL F fun h₂ F => ?_)))
  dsimp only
  refine wpAny_execs_cons ?_
  refine for_values (knd := strKind prog w) hA F hst hdt (fun Q' h => nmL F rfl h) (fun i B' m' pins' => ∃ u, m' (Str.ofString "nc") = some (.int (sumT ((bare vt).take i)) u)) ⟨_, rfl⟩ ?_ ?_
  · rintro i k v B₁ h₃ m₁ pins₁ tk₁ hk ⟨u, hm⟩ hBB hpn F
    obtain ⟨n, u', rfl⟩ : ∃ n u, v = .int n u := by
      simp only [intPairs, List.getElem?_map, Option.map_eq_some_iff] at hk
      obtain ⟨x, _, e⟩ := hk; cases e; exact ⟨_, _, rfl⟩
    have hbi : (bare vt)[i]? = some (k, n) := by
      simp only [intPairs, bare, List.getElem?_map, Option.map_eq_some_iff] at hk ⊢
      obtain ⟨x, e1, e⟩ := hk; cases e; exact ⟨x, e1, rfl⟩
    refine wpAny_execs_cons (wpAny_AugAssign_Name (wpAny_loadName_local rfl rfl F.ns hm (nmL F rfl ?_)))
    with_reducible refine PyProof.Rows.iadd_int ?_
    refine stL F fun h₄ F => wpAny_execs_nil ⟨rfl, B₁, h₄, _, pins₁, _, rfl, hpn, F, tk₁, ?_⟩
    have : sumT ((bare vt).take (i + 1)) = sumT ((bare vt).take i) + n := by
      rw [List.take_add_one, hbi]; simp [sumT]
    rw [this]; rfl
  · rintro B₂ h₄ m₂ pins₂ tk₂ ⟨u, hm⟩ hBB hpn F
    have e : (bare vt).take (intPairs vt).length = bare vt := List.take_of_length_le (by simp [bare, intPairs])
    rw [e] at hm
    refine wpAny_execs_cons (wpAny_Return_some (nmL F hm ?_))
    exact hQ _ _ _ _ (F.leave hpn)
end
end Mine

namespace Mine

section
variable {prog : Program} {w : World} {A : Around} {s : Shared} {env : Env} {own : List Addr} {B₀ h₀ B : Heap} {m cm : Str → Option Value} {pins : List (Addr × Obj)}

/-- what an iterable expression gives: n items, the i-th of them as P says -/
def Src (prog : Program) (w : World) (A : Around) (env : Env) (B : Heap) (s : Shared) (iter : Expr) (n : Nat) (P : Nat → Value → Prop) : Prop :=
  ∀ Q' : Value → Shared → Prop, (∀ I fp St' h' tk', Keep s.heap h' → s.heap.get? I = none → Walks prog w A I fp [I] n P St' → (∀ i h, St' i h → ∃ o, h.get? I = some o) → St' 0 h' →
      (∀ b ∈ fp, b < h'.objs.size ∧ ((∃ o, B.get? b = some o) ∨ s.heap.get? b = none)) → Q' (.ref I) { s with heap := h', toks := tk' }) →
    wpAny (model prog w) A (eval iter env) (fun xv s₁ => wpAny (model prog w) A (pyIter xv) Q' NE s₁) NE s

theorem Fx.srcI (F : Fx env own B₀ h₀ B s.heap m cm pins) {I : Addr} (hI : s.heap.get? I = none) : B.get? I = none ∧ h₀.get? I = none ∧ I ∉ Xof env own pins ∧ ∀ n, env.cells.lookup n ≠ some I := by
  have hx : I ∉ Xof env own pins := fun q => by obtain ⟨o, e⟩ := F.st.live _ q; rw [hI] at e; cases e
  refine ⟨none_of_keep F.keep hI, ?_, hx, fun n hn => by obtain ⟨o, e, _⟩ := F.cell n I hn; rw [hI] at e; cases e⟩
  cases e : h₀.get? I with
  | none => rfl
  | some o => have := F.st.old I o hx e; rw [hI] at this; cases this
theorem Fx.srcF (F : Fx env own B₀ h₀ B s.heap m cm pins) {b : Addr} (hb : (∃ o, B.get? b = some o) ∨ s.heap.get? b = none) : b ∉ Xof env own pins := fun q => by
  rcases hb with ⟨o, e⟩ | e
  · rw [F.st.off b q] at e; cases e
  · obtain ⟨o, e'⟩ := F.st.live b q; rw [e] at e'; cases e'

theorem for_src {E : Value → Shared → Prop} {Q : Flow → Shared → Prop} {x : Str} {px pos : Pos} {iter : Expr} {body : List Stmt} {n : Nat} {P : Nat → Value → Prop}
    (F : Fx env own B₀ h₀ B s.heap m cm pins) (hS : Src prog w A env B s iter n P)
    (J : Nat → Heap → (Str → Option Value) → List (Addr × Obj) → Prop) (j0 : J 0 B m pins)
    (turn : ∀ i v B₁ h₁ m₁ pins₁ tk, i < n → P i v → J i B₁ m₁ pins₁ → Keep B B₁ → pins₁.map (·.1) = pins.map (·.1) →
      Fx env own B₁ h₁ B₁ h₁ (fun y => if y = x then some v else m₁ y) cm pins₁ →
      wpAny (model prog w) A (execs body env) (fun f s' => f = .next ∧ ∃ B₂ h₂ m₂ pins₂ tk₂, s' = { s with heap := h₂, toks := tk₂ } ∧ pins₂.map (·.1) = pins.map (·.1) ∧ Fx env own B₁ h₁ B₂ h₂ m₂ cm pins₂ ∧ J (i + 1) B₂ m₂ pins₂) NE { s with heap := h₁, toks := tk })
    (done : ∀ B' h' m' pins' tk', J n B' m' pins' → Keep B B' → pins'.map (·.1) = pins.map (·.1) → Fx env own B₀ h₀ B' h' m' cm pins' → Q .next { s with heap := h', toks := tk' })
    (hs : ∀ x, foldedSetIterable iter env x = pure x := by intro _; rfl)
    (hx : env.kindOf x = some .local := by rfl)
    (hp : (env.scope.kind == .class || (env.scope.kind == .module && env.locals != env.globals)) = false := by rfl) :
    wpAny (model prog w) A (exec (.For (.Name x px) iter body [] pos) env) Q E s := by
  refine wpAny_For (wpAny_mono (hS (fun it s₂ => codeAny (model prog w) A (.forLoop (.Name x px) it body [] env) (fun r s' => match r with | .ok f => Q f s' | .error e => cameBackBy (model prog w) A env E e s') s₂) ?_)
    (fun _ _ h => anyE h) fun _ _ f => f.elim) hs
  intro I fp St' h' tk' hk hI W live hst hfp
  exact fl_name (s := { s with heap := h', toks := tk' }) W live hx hp (F.step hk) hst (F.srcI hI) (fun b hb => F.srcF (hfp b hb).2) J j0 turn done

/-- a comprehension's own frame; hS is the heap ahead of it, h the heap behind its source -/
theorem Fx.comp {oD oC : Obj} {h₁ hS h : Heap} {m₁ : Str → Option Value} {scope : Scope} {cl : List (Str × Addr)} (F : Fx env own B₀ h₀ B hS m cm pins) (hk : Keep hS h) (hf : oD.isFreed = false) (hns : h₁.Ns (h.push oD).objs.size m₁)
    (hsb : Heap.SameBut (h.push oD).objs.size ((h.push oD).push oC) h₁) (hcl : ∀ n c, cl.lookup n = some c → env.cells.lookup n = some c) :
    Fx (compEnvC scope cl (h.push oD).objs.size env) [] B hS B h₁ m₁ cm [(h.objs.size, oD)] ∧ Keep h h₁ := by
  have hC : (h.push oD).objs.size = h.objs.size + 1 := Heap.size_push ..
  have hDC : h.objs.size ≠ (h.push oD).objs.size := by rw [hC]; exact Nat.ne_of_lt (Nat.lt_succ_self _)
  have old : Keep h h₁ := fun b o e => hsb.extBut b o (by rw [hC]; exact Nat.ne_of_lt (Nat.lt_succ_of_lt (Heap.lt_size e))) (Heap.get?_push_of_some _ (Heap.get?_push_of_some _ e))
  have hD : h₁.get? h.objs.size = some oD := hsb.extBut _ _ hDC (Heap.get?_push_of_some _ (Heap.get?_push_size _ hf))
  have hX : ∀ b, b ∈ Xof (compEnvC scope cl (h.push oD).objs.size env) [] [(h.objs.size, oD)] ↔ b = (h.push oD).objs.size ∨ b = h.objs.size := fun b => by simp [Xof, compEnvC]
  have F' := F.step hk
  refine ⟨⟨⟨F'.keep.trans old, Keep.refl _, fun b o _ e => old b o (hk b o e), fun _ _ e => .inl e, fun b hb => ?_, fun b hb => ?_⟩, hns, fun n c hc => (F'.cell n c (hcl n c hc)).keeps old, fun n c hc => .inr fun q => ?_, fun p hp => ?_, ?_⟩, old⟩
  · refine none_of_keep F'.keep (none_of_ge ?_)
    rcases (hX b).mp hb with rfl | rfl
    · rw [hC]; exact Nat.le_succ _
    · exact Nat.le_refl _
  · rcases (hX b).mp hb with rfl | rfl
    · obtain ⟨o, _, _, e, _⟩ := hns; exact ⟨o, e⟩
    · exact ⟨_, hD⟩
  · have hlt : c < h.objs.size := (F'.cell n c (hcl n c hc)).lt
    have hX' := (hX c).mp q
    rw [hC] at hX'
    rcases hX' with e | e
    · rw [e] at hlt; exact absurd hlt (by simp)
    · rw [e] at hlt; exact absurd hlt (Nat.lt_irrefl _)
  · rw [List.mem_singleton.mp hp]; exact hD
  · unfold Xof compEnvC
    simp only [List.map_cons, List.map_nil, List.nil_append]
    exact List.nodup_cons.mpr ⟨fun q => hDC (List.mem_singleton.mp q).symm, List.pairwise_singleton _ _⟩

/-- the turns of a list comprehension -/
theorem cl_list {R : Result → Shared → Prop} {elt iter : Expr} {x : Str} {px pos : Pos} {scope : Scope} {I D : Addr} {k₀ : Nat} {fp : List Addr} {n : Nat} {P : Nat → Value → Prop} {St' : Nat → Heap → Prop}
    (W : Walks prog w A I fp [I] n P St') (live : ∀ i h, St' i h → ∃ o, h.get? I = some o) (hsz : n ≤ 10000)
    (hx : env.kindOf x = some .local) (hp : (env.scope.kind == .class || (env.scope.kind == .module && env.locals != env.globals)) = false)
    (F : Fx env own B₀ h₀ B s.heap m cm [(D, { cls := .type "list", data := .seq #[] k₀ })]) (hst : St' 0 s.heap)
    (hI : B.get? I = none ∧ h₀.get? I = none ∧ I ∉ Xof env own [(D, ({ cls := .type "list", data := .seq #[] k₀ } : Obj))] ∧ ∀ n, env.cells.lookup n ≠ some I)
    (hfp : ∀ b ∈ fp, b ∉ Xof env own [(D, ({ cls := .type "list", data := .seq #[] k₀ } : Obj))])
    (J : Nat → Heap → List Value → Prop) (j0 : J 0 B [])
    (turn : ∀ (i : Nat) (v : Value) (B₁ h₁ : Heap) (m₁ : Str → Option Value) (od₁ : Obj) (ys : List Value) (tk : Nat), i < n → P i v → J i B₁ ys → Keep B B₁ →
      Fx env own B₁ h₁ B₁ h₁ (fun y => if y = x then some v else m₁ y) cm [(D, od₁)] →
      wpAny (model prog w) A (eval elt env) (fun y s' => ∃ B₂ h₂ m₂ tk₂, s' = { s with heap := h₂, toks := tk₂ } ∧ Fx env own B₁ h₁ B₂ h₂ m₂ cm [(D, od₁)] ∧ J (i + 1) B₂ (ys ++ [y])) NE { s with heap := h₁, toks := tk })
    (done : ∀ (B' h' : Heap) (m' : Str → Option Value) (ys : List Value) (k tk' : Nat), J n B' ys → Keep B B' → Fx env own B₀ h₀ B' h' m' cm [(D, { cls := .type "list", data := .seq ys.toArray k })] → R (.ok .next) { s with heap := h', toks := tk' }) :
    codeAny (model prog w) A (.compLoop (.ListComp elt [⟨.Name x px, iter, [], 0⟩] scope pos) 0 (.ref I) (.ref D) env) R s := by
  refine codeAny_compLoop_list (fun q s' => ∃ i B' h' m' ys k tk', s' = { s with heap := h', toks := tk' } ∧ J i B' ys ∧ ys.length = i ∧ Keep B B' ∧ Fx env own B₀ h₀ B' h' m' cm [(D, { cls := .type "list", data := .seq ys.toArray k })] ∧ St' i h' ∧
    B'.get? I = none ∧ i ≤ n ∧ q = n + 1 - i) ?_ (n + 1) ⟨0, B, s.heap, m, [], k₀, s.toks, rfl, j0, rfl, Keep.refl _, F, hst, hI.1, Nat.zero_le _, rfl⟩
  rintro q s' ⟨i, B', h', m', ys, k, tk', rfl, hj, hlen, hk, F', hst', hIB, hi, rfl⟩
  have hw : ∀ b ∈ [I], B'.get? b = none ∧ h₀.get? b = none ∧ b ∉ Xof env own [(D, ({ cls := .type "list", data := .seq ys.toArray k } : Obj))] ∧ ∀ n, env.cells.lookup n ≠ some b := fun b hb => by
    rw [List.mem_singleton.mp hb]; exact ⟨hIB, hI.2.1, hI.2.2.1, hI.2.2.2⟩
  by_cases hlt : i < n
  · refine W.item i _ _ _ hlt hst' fun v h₁ tk₁ hPv hst₁ hk₁ => ?_
    have F₁ := F'.other hw hk₁
    refine wpAny_assign_Name (stLs F₁ (fun h₂ F₂ hs₂ => ?_) hx hp)
    have hst₂ : St' (i + 1) h₂ := W.frame _ _ _ hst₁ fun b hb o e => hs₂.extBut b o (fun q => hfp b hb (q ▸ List.mem_cons_self ..)) e
    refine wpAny_mono (turn i v B' h₂ m' _ ys (tk₁ + 1) hlt hPv hj hk F₂.again) (fun y s₃ h₃ => ?_) fun _ _ e => e.elim
    obtain ⟨B₂, h₃, m₂, tk₂, rfl, F₃, hj₂⟩ := h₃
    have hst₃ : St' (i + 1) h₃ := W.frame _ _ _ hst₂ fun b hb o e => F₃.st.old b o (hfp b hb) e
    refine wpAny_list_append_plain (items := ys.toArray) ⟨k, F₃.pin_get⟩ (fun h₄ hl₄ hs₄ => ?_) (by rw [List.size_toArray, sizeLine_eq]; omega)
    obtain ⟨k', hl₄⟩ := hl₄
    have e4 : ys.toArray.push y = (ys ++ [y]).toArray := by simp
    rw [e4] at hl₄
    have F₄ := (F₂.trans F₃ rfl).setPin hl₄ hs₄
    have hDf : ∀ b ∈ fp, b ≠ D := fun b hb e => by
      subst e
      exact hfp b hb (Fx.mem_pin (p := (b, ({ cls := .type "list", data := .seq #[] k₀ } : Obj))) (List.mem_singleton_self _))
    refine ⟨n + 1 - (i + 1), by omega, i + 1, B₂, h₄, m₂, ys ++ [y], k', tk₂, rfl, hj₂, by simp [hlen], hk.trans F₃.st.sub, F₄, W.frame _ _ _ hst₃ fun b hb o e => hs₄.extBut b o (hDf b hb) e, ?_, hlt, rfl⟩
    obtain ⟨oI, eI⟩ := live _ _ hst₂
    cases e : B₂.get? I with
    | none => rfl
    | some o =>
      rcases F₃.st.new I o e with q | q
      · rw [hIB] at q; cases q
      · rw [eI] at q; cases q
  · have hin : i = n := by omega
    subst hin
    refine W.done _ _ _ hst' fun h₁ tk₁ hk₁ => ?_
    exact done B' h₁ m' ys k tk₁ hj hk (F'.other hw hk₁)

/-- what stands behind a list comprehension -/
theorem lc_block {elt iter : Expr} {x : Str} {px pos : Pos} {scope : Scope} {cl : List (Str × Addr)} {n : Nat} {P : Nat → Value → Prop} {RR : Value → Addr → Result → Shared → Prop}
    (F : Fx env own B₀ h₀ B s.heap m cm pins) (hsz : n ≤ 10000) (hcell : ∀ y ∈ scope.names, y.2 ≠ .cell) (hkind : scope.kind = .function) (hx : scope.names.lookup x = some .local)
    (hcl : ∀ n c, cl.lookup n = some c → env.cells.lookup n = some c)
    {I : Addr} {fp : List Addr} {St' : Nat → Heap → Prop} {h' : Heap} {tk' : Nat} (hk : Keep s.heap h') (hI : s.heap.get? I = none) (W : Walks prog w A I fp [I] n P St') (live : ∀ i h, St' i h → ∃ o, h.get? I = some o) (hst : St' 0 h')
    (hfp : ∀ b ∈ fp, b < h'.objs.size)
    (J : Nat → Heap → List Value → Prop) (j0 : J 0 B [])
    (turn : ∀ (C D i : Nat) (v : Value) (B₁ h₁ : Heap) (m₁ : Str → Option Value) (od₁ : Obj) (ys : List Value) (tk : Nat), i < n → P i v → J i B₁ ys → Keep B B₁ →
      Fx (compEnvC scope cl C env) [] B₁ h₁ B₁ h₁ (fun y => if y = x then some v else m₁ y) cm [(D, od₁)] →
      wpAny (model prog w) A (eval elt (compEnvC scope cl C env)) (fun y s' => ∃ B₂ h₂ m₂ tk₂, s' = { s with heap := h₂, toks := tk₂ } ∧ Fx (compEnvC scope cl C env) [] B₁ h₁ B₂ h₂ m₂ cm [(D, od₁)] ∧ J (i + 1) B₂ (ys ++ [y])) NE { s with heap := h₁, toks := tk })
    (fin : ∀ (D C : Addr) (B' B'' h'' : Heap) (mC : Str → Option Value) (ys : List Value) (tk : Nat), J n B' ys → Keep B' B'' → Grow B s.heap B'' h'' → B''.PlainList D ys.toArray → s.heap.get? C = none → B''.get? C = none → h''.Ns C mC →
      RR (.ref D) C (.ok .next) { s with heap := h'', toks := tk }) :
    wpAny (model prog w) A (newList []) (fun acc s₃ => wpAny (model prog w) A (newFunctionEnv scope env.globals cl [] env.qual none .none (some env)) (fun cenv s₄ =>
      codeAny (model prog w) A (.compStart (.ListComp elt [⟨.Name x px, iter, [], 0⟩] scope pos) 0 (.ref I) acc { cenv with scope := relabel scope env }) (RR acc cenv.locals) s₄) NE s₃) NE { s with heap := h', toks := tk' } := by
  refine wpAny_newObj_type (wpAny_newFunctionEnv hcell (by intro y hy; simp at hy) (fun h₁ hns₁ hsb₁ => ?_) hkind)
  dsimp only at hns₁ hsb₁ ⊢
  obtain ⟨F1, hk1⟩ := F.comp (scope := scope) (cl := cl) hk rfl hns₁ hsb₁ hcl
  have hIlt : I < h'.objs.size := let ⟨o, e⟩ := live _ _ hst; Heap.lt_size e
  have hXn : ∀ b, b < h'.objs.size → b ∉ Xof (compEnvC scope cl (h'.push { cls := .type "list", dict := none, data := .seq ([] : List Value).toArray }).objs.size env) [] [(h'.objs.size, ({ cls := .type "list", data := .seq #[] } : Obj))] := fun b hb q => by
    have hC : (h'.push { cls := .type "list", dict := none, data := .seq ([] : List Value).toArray }).objs.size = h'.objs.size + 1 := Heap.size_push ..
    simp only [Xof, compEnvC, List.map_cons, List.map_nil, List.nil_append, List.mem_cons, List.not_mem_nil, or_false, hC] at q
    rcases q with q | q <;> (rw [q] at hb; exact absurd hb (by simp))
  have hD0 : s.heap.get? h'.objs.size = none := none_of_keep hk (none_of_ge (Nat.le_refl _))
  have hC0 : s.heap.get? (h'.push { cls := .type "list", dict := none, data := .seq ([] : List Value).toArray }).objs.size = none := none_of_keep hk (none_of_ge (by rw [Heap.size_push]; exact Nat.le_succ _))
  have loop : ∀ s₃ : Shared, s₃ = { s with heap := h₁, toks := tk' + ([] : List (Str × Value)).length } →
      codeAny (model prog w) A (.compLoop (.ListComp elt [⟨.Name x px, iter, [], 0⟩] scope pos) 0 (.ref I) (.ref h'.objs.size) (compEnvC scope cl (h'.push { cls := .type "list", dict := none, data := .seq ([] : List Value).toArray }).objs.size env))
        (RR (.ref h'.objs.size) (h'.push { cls := .type "list", dict := none, data := .seq ([] : List Value).toArray }).objs.size) s₃ := by
    rintro s₃ rfl
    refine cl_list (s := { s with heap := h₁, toks := _ }) (k₀ := 0) W live hsz (lookup_relabel_local hx) (by simp [compEnvC, relabel, hkind]) F1 (W.frame _ _ _ hst fun b _ o e => hk1 b o e)
      ⟨none_of_keep F.keep hI, hI, hXn I hIlt, fun n hn => ?_⟩ (fun b hb => hXn b (hfp b hb)) J j0 (turn _ _) ?_
    · obtain ⟨o, e, _⟩ := F.cell n I (hcl n I hn); rw [hI] at e; cases e
    · intro B' h'' m' ys k tk₁ hj hkB F2
      have hnC := F2.ns
      obtain ⟨B'', hk2, hD2, F3⟩ := F2.freeze hD0
      refine fin _ _ B' B'' h'' m' ys tk₁ hj hk2 ⟨F3.keep, F3.st.sub, fun b o e => F3.st.old b o (fun q => ?_) e, F3.st.new⟩ ⟨k, hD2⟩ hC0 (F3.st.off _ (List.mem_cons_self ..)) hnC
      simp only [Xof, compEnvC, List.map_nil, List.nil_append, List.mem_cons, List.not_mem_nil, or_false] at q
      rw [q, hC0] at e; cases e
  exact codeAny_compStart_list (loop _ rfl) (W.self 0 _ _ _ (W.frame _ _ _ hst fun b _ o e => hk1 b o e) (loop _ rfl))

/-- a list comprehension -/
theorem lc_src {E : Value → Shared → Prop} {elt iter : Expr} {x : Str} {px pos : Pos} {scope : Scope} {cl : List (Str × Addr)} {n : Nat} {P : Nat → Value → Prop} {Q : Value → Shared → Prop}
    (F : Fx env own B₀ h₀ B s.heap m cm pins) (hS : Src prog w A env B s iter n P) (hclos : closureFor scope env = pure cl)
    (J : Nat → Heap → List Value → Prop) (j0 : J 0 B [])
    (turn : ∀ (C D i : Nat) (v : Value) (B₁ h₁ : Heap) (m₁ : Str → Option Value) (od₁ : Obj) (ys : List Value) (tk : Nat), i < n → P i v → J i B₁ ys → Keep B B₁ →
      Fx (compEnvC scope cl C env) [] B₁ h₁ B₁ h₁ (fun y => if y = x then some v else m₁ y) cm [(D, od₁)] →
      wpAny (model prog w) A (eval elt (compEnvC scope cl C env)) (fun y s' => ∃ B₂ h₂ m₂ tk₂, s' = { s with heap := h₂, toks := tk₂ } ∧ Fx (compEnvC scope cl C env) [] B₁ h₁ B₂ h₂ m₂ cm [(D, od₁)] ∧ J (i + 1) B₂ (ys ++ [y])) NE { s with heap := h₁, toks := tk })
    (fin : ∀ (D : Addr) (B' B'' h'' : Heap) (ys : List Value) (tk : Nat), J n B' ys → Keep B' B'' → Grow B s.heap B'' h'' → B''.PlainList D ys.toArray → Q (.ref D) { s with heap := h'', toks := tk })
    (hsz : n ≤ 10000) (hcl : ∀ n c, cl.lookup n = some c → env.cells.lookup n = some c)
    (hs : ∀ x, foldedSetIterable iter env x = pure x := by intro _; rfl)
    (hcell : ∀ y ∈ scope.names, y.2 ≠ .cell := by decide) (hkind : scope.kind = .function := by rfl) (hx : scope.names.lookup x = some .local := by rfl)
    (hnames : ∀ y ∈ scope.names, y.2 = .local → scope.names.lookup y.1 = some .local := by decide) :
    wpAny (model prog w) A (eval (.ListComp elt [⟨.Name x px, iter, [], 0⟩] scope pos) env) Q E s := by
  refine anyE ?_
  rw [eval_ListComp]
  refine wpAny_comprehension_free (use := none) rfl hs hclos hkind hnames (hS _ ?_)
  intro I fp St' h' tk' hk hI W live hst hfp
  refine lc_block (RR := fun acc C => compPost (model prog w) A NE none Q acc C) F hsz hcell hkind hx hcl hk hI W live hst (fun b hb => (hfp b hb).1) J j0 turn ?_
  intro D C B' B'' h'' mC ys tk hj hk2 g hD hC hCB hn
  exact ⟨mC, hn, fun h3 hs3 => fin D B' B'' h3 ys tk hj hk2 ⟨fun b o e => hs3.extBut b o (fun q => by subst q; rw [hCB] at e; cases e) (g.keep b o e), g.sub,
    fun b o e => hs3.extBut b o (fun q => by subst q; rw [hC] at e; cases e) (g.old b o e), g.new⟩ hD⟩
end
end Mine

namespace Mine

section
variable {prog : Program} {w : World} {A : Around} {s : Shared} {env : Env} {own : List Addr} {B₀ h₀ B : Heap} {m cm : Str → Option Value} {pins : List (Addr × Obj)}

/-- how a name is stored: fm, fc say what becomes of the locals and of the cells -/
def Sto (prog : Program) (w : World) (A : Around) (env : Env) (own : List Addr) (y : Str) (fm fc : Value → (Str → Option Value) → Str → Option Value) : Prop :=
  ∀ (s : Shared) (v : Value) (B₀ h₀ B : Heap) (m cm : Str → Option Value) (pins : List (Addr × Obj)) (Q : Unit → Shared → Prop), Fx env own B₀ h₀ B s.heap m cm pins →
    (∀ h' tk, Fx env own B₀ h₀ B h' (fm v m) (fc v cm) pins → (∀ b o, b ∉ Xof env own pins → s.heap.get? b = some o → h'.get? b = some o) → Q () { s with heap := h', toks := tk }) → wpAny (model prog w) A (storeName env y v) Q NE s
theorem sto_local {y : Str} (hl : env.kindOf y = some .local) (hp : (env.scope.kind == .class || (env.scope.kind == .module && env.locals != env.globals)) = false) :
    Sto prog w A env own y (fun v m z => if z = y then some v else m z) (fun _ cm => cm) := fun _ _ _ _ _ _ _ _ _ F h =>
  stLs F (fun h' F' hs => h h' _ F' fun b o hb e => hs.extBut b o (fun q => hb (q ▸ List.mem_cons_self ..)) e) hl hp
theorem sto_cell {y : Str} {c : Addr} (hk : env.scope.kind = .function) (hl : env.kindOf y = some .cell) (hc : env.cells.lookup y = some c) (ho : c ∈ own) (hinj : ∀ n', env.cells.lookup n' = some c → n' = y) :
    Sto prog w A env own y (fun _ m => m) (fun v cm z => if z = y then some v else cm z) := fun _ _ _ _ _ _ _ _ _ F h =>
  wpAny_storeName_cell hk hl hc (F.cell y c hc) fun h' hv hs => h h' _ (F.setCell hc ho hinj hv hs) fun b o hb e => hs.extBut b o (fun q => hb (q ▸ Fx.mem_own ho)) e
/-- a plain assignment to a name -/
theorem as_name {E : Value → Shared → Prop} {y : Str} {py pos : Pos} {value : Expr} {fm fc : Value → (Str → Option Value) → Str → Option Value} {Q : Flow → Shared → Prop} (hst : Sto prog w A env own y fm fc)
    (h : wpAny (model prog w) A (eval value env) (fun v s₁ => ∃ B₀ h₀ B m cm pins, Fx env own B₀ h₀ B s₁.heap m cm pins ∧ ∀ h' tk, Fx env own B₀ h₀ B h' (fm v m) (fc v cm) pins → Q .next { s₁ with heap := h', toks := tk }) E s)
    (hs : swapsWith value (some (.Name y py)) pos.line env = pure false := by rfl) :
    wpAny (model prog w) A (exec (.Assign [.Name y py] value pos) env) Q E s :=
  wpAny_Assign_Name (wpAny_mono h (fun v s₁ ⟨B₀, h₀, B, m, cm, pins, F, k⟩ => anyE (hst s₁ v B₀ h₀ B m cm pins _ F fun h' tk F' _ => k h' tk F')) fun _ _ x => x) hs

/-- a list comprehension assigned to a name -/
theorem as_lc {E : Value → Shared → Prop} {elt iter : Expr} {x y : Str} {px py pos spos : Pos} {scope : Scope} {cl : List (Str × Addr)} {n : Nat} {P : Nat → Value → Prop} {Q : Flow → Shared → Prop}
    {fm fc : Value → (Str → Option Value) → Str → Option Value} (hst : Sto prog w A env own y fm fc)
    (F : Fx env own B₀ h₀ B s.heap m cm pins) (hS : Src prog w A env B s iter n P) (hclos : closureFor scope env = pure cl)
    (J : Nat → Heap → List Value → Prop) (j0 : J 0 B [])
    (turn : ∀ (C D i : Nat) (v : Value) (B₁ h₁ : Heap) (m₁ : Str → Option Value) (od₁ : Obj) (ys : List Value) (tk : Nat), i < n → P i v → J i B₁ ys → Keep B B₁ →
      Fx (compEnvC scope cl C env) [] B₁ h₁ B₁ h₁ (fun y => if y = x then some v else m₁ y) cm [(D, od₁)] →
      wpAny (model prog w) A (eval elt (compEnvC scope cl C env)) (fun y s' => ∃ B₂ h₂ m₂ tk₂, s' = { s with heap := h₂, toks := tk₂ } ∧ Fx (compEnvC scope cl C env) [] B₁ h₁ B₂ h₂ m₂ cm [(D, od₁)] ∧ J (i + 1) B₂ (ys ++ [y])) NE { s with heap := h₁, toks := tk })
    (fin : ∀ (D : Addr) (B' B'' h'' : Heap) (ys : List Value) (tk : Nat), J n B' ys → Keep B' B'' → Keep B B'' → B''.PlainList D ys.toArray → Fx env own B₀ h₀ B'' h'' (fm (.ref D) m) (fc (.ref D) cm) pins → Q .next { s with heap := h'', toks := tk })
    (hsz : n ≤ 10000) (hcl : ∀ n c, cl.lookup n = some c → env.cells.lookup n = some c)
    (hsw : swapsWith (.ListComp elt [⟨.Name x px, iter, [], 0⟩] scope pos) (some (.Name y py)) spos.line env = pure true := by rfl)
    (hs : ∀ x, foldedSetIterable iter env x = pure x := by intro _; rfl)
    (hcell : ∀ y ∈ scope.names, y.2 ≠ .cell := by decide) (hkind : scope.kind = .function := by rfl) (hx : scope.names.lookup x = some .local := by rfl)
    (hnames : ∀ y ∈ scope.names, y.2 = .local → scope.names.lookup y.1 = some .local := by decide) :
    wpAny (model prog w) A (exec (.Assign [.Name y py] (.ListComp elt [⟨.Name x px, iter, [], 0⟩] scope pos) spos) env) Q E s := by
  refine anyE ?_
  rw [exec_Assign_Name_used _ _ _ _ hsw]
  refine wpAny_bind (wpAny_standAt (wpAny_bind ?_))
  show wpAny _ A (do let _ ← comprehension (.ListComp elt [⟨.Name x px, iter, [], 0⟩] scope pos) scope env _ (newList []) false (eval iter env) (some (assign (.Name y py) env))) _ _ s
  refine wpAny_bind (wpAny_mono (wpAny_comprehension_free (use := some (assign (.Name y py) env)) (Q := fun _ s' => Q .next s') rfl hs hclos hkind hnames (hS _ ?_)) (fun _ s' hq => wpAny_pure (wpAny_pure hq)) fun _ _ e => e)
  intro I fp St' h' tk' hk hI W live hst' hfp
  refine lc_block (RR := fun acc C => compPost (model prog w) A NE (some (assign (.Name y py) env)) (fun _ s' => Q .next s') acc C) F hsz hcell hkind hx hcl hk hI W live hst' (fun b hb => (hfp b hb).1) J j0 turn ?_
  intro D C B' B'' h'' mC ys tk hj hk2 g hD hC hCB hn
  have F2 := F.call g
  have hCX := F.srcI hC
  show wpAny _ A (assign (.Name y py) env (.ref D)) _ _ _
  refine wpAny_assign_Name (hst { s with heap := h'', toks := tk } (.ref D) B₀ h₀ B'' m cm pins _ F2 fun h3 tk3 F3 hk3 => ?_)
  refine ⟨mC, hn.at' fun o e => hk3 C o hCX.2.2.1 e, fun h4 hs4 => fin D B' B'' h4 ys tk3 hj hk2 g.sub hD (F3.other (wr := [C]) (fun b hb => ?_) fun b o hb e => hs4.extBut b o (fun q => hb (q ▸ List.mem_singleton_self _)) e)⟩
  rw [List.mem_singleton.mp hb]; exact ⟨hCB, hCX.2.1, hCX.2.2.1, hCX.2.2.2⟩

/-! dict comprehensions over texts as keys -/
theorem cl_dict {R : Result → Shared → Prop} {kx vx iter : Expr} {x : Str} {px pos : Pos} {scope : Scope} {I D : Addr} {od : Obj} {fp : List Addr} {n : Nat} {P : Nat → Value → Prop} {St' : Nat → Heap → Prop}
    (W : Walks prog w A I fp [I] n P St') (live : ∀ i h, St' i h → ∃ o, h.get? I = some o) (hsz : n ≤ 10000)
    (hx : env.kindOf x = some .local) (hp : (env.scope.kind == .class || (env.scope.kind == .module && env.locals != env.globals)) = false)
    (F : Fx env own B₀ h₀ B s.heap m cm [(D, od)]) (hod : od.IsDictOf (strKind prog w) []) (hst : St' 0 s.heap)
    (hI : B.get? I = none ∧ h₀.get? I = none ∧ I ∉ Xof env own [(D, od)] ∧ ∀ n, env.cells.lookup n ≠ some I)
    (hfp : ∀ b ∈ fp, b ∉ Xof env own [(D, od)])
    (J : Nat → Heap → List (Str × Value) → Prop) (j0 : J 0 B [])
    (turn : ∀ (i : Nat) (v : Value) (B₁ h₁ : Heap) (m₁ : Str → Option Value) (od₁ : Obj) (kvs : List (Str × Value)) (tk : Nat), i < n → P i v → J i B₁ kvs → Keep B B₁ →
      Fx env own B₁ h₁ B₁ h₁ (fun y => if y = x then some v else m₁ y) cm [(D, od₁)] →
      wpAny (model prog w) A (eval kx env) (fun kv s₄ => ∃ k t, kv = .str k t ∧ wpAny (model prog w) A (eval vx env) (fun vv s' => ∃ B₂ h₂ m₂ tk₂, s' = { s with heap := h₂, toks := tk₂ } ∧ Fx env own B₁ h₁ B₂ h₂ m₂ cm [(D, od₁)] ∧ J (i + 1) B₂ (stored kvs k vv)) NE s₄) NE { s with heap := h₁, toks := tk })
    (done : ∀ (B' h' : Heap) (m' : Str → Option Value) (kvs : List (Str × Value)) (od' : Obj) (tk' : Nat), J n B' kvs → Keep B B' → od'.IsDictOf (strKind prog w) kvs → Fx env own B₀ h₀ B' h' m' cm [(D, od')] → R (.ok .next) { s with heap := h', toks := tk' }) :
    codeAny (model prog w) A (.compLoop (.DictComp kx vx [⟨.Name x px, iter, [], 0⟩] scope pos) 0 (.ref I) (.ref D) env) R s := by
  refine codeAny_compLoop_testsD (fun q s' => ∃ i B' h' m' kvs od' tk', s' = { s with heap := h', toks := tk' } ∧ J i B' kvs ∧ kvs.length ≤ i ∧ Keep B B' ∧ od'.IsDictOf (strKind prog w) kvs ∧ Fx env own B₀ h₀ B' h' m' cm [(D, od')] ∧ St' i h' ∧
    B'.get? I = none ∧ i ≤ n ∧ q = n + 1 - i) ?_ (n + 1) ⟨0, B, s.heap, m, [], od, s.toks, rfl, j0, Nat.le_refl _, Keep.refl _, hod, F, hst, hI.1, Nat.zero_le _, rfl⟩
  rintro q s' ⟨i, B', h', m', kvs, od', tk', rfl, hj, hlen, hk, hod', F', hst', hIB, hi, rfl⟩
  have hw : ∀ b ∈ [I], B'.get? b = none ∧ h₀.get? b = none ∧ b ∉ Xof env own [(D, od')] ∧ ∀ n, env.cells.lookup n ≠ some b := fun b hb => by
    rw [List.mem_singleton.mp hb]; exact ⟨hIB, hI.2.1, hI.2.2.1, hI.2.2.2⟩
  by_cases hlt : i < n
  · refine W.item i _ _ _ hlt hst' fun v h₁ tk₁ hPv hst₁ hk₁ => ?_
    have F₁ := F'.other hw hk₁
    refine wpAny_assign_Name (stLs F₁ (fun h₂ F₂ hs₂ => ?_) hx hp)
    have hst₂ : St' (i + 1) h₂ := W.frame _ _ _ hst₁ fun b hb o e => hs₂.extBut b o (fun q => hfp b hb (q ▸ List.mem_cons_self ..)) e
    refine wpAny_pure (a := true) ?_
    simp only [if_true]
    refine wpAny_mono (turn i v B' h₂ m' _ kvs (tk₁ + 1) hlt hPv hj hk F₂.again) (fun kv s₃ h₃ => ?_) fun _ _ e => e.elim
    obtain ⟨k, t, rfl, h₃⟩ := h₃
    refine wpAny_mono h₃ (fun vv s₄ h₄ => ?_) fun _ _ e => e.elim
    obtain ⟨B₂, h₃, m₂, tk₂, rfl, F₃, hj₂⟩ := h₄
    have hst₃ : St' (i + 1) h₃ := W.frame _ _ _ hst₂ fun b hb o e => F₃.st.old b o (hfp b hb) e
    refine wpAny_dictSet_pairs (strKind_is prog w k t) (Heap.dictOf_iff.mpr ⟨_, F₃.pin_get, hod'⟩) (fun h₄ hd₄ hs₄ => ?_) (by rw [sizeLine_eq]; omega)
    obtain ⟨od₄, hD₄, hod₄⟩ := Heap.dictOf_iff.mp hd₄
    have F₄ := (F₂.trans F₃ rfl).setPin hD₄ hs₄
    have hDf : ∀ b ∈ fp, b ≠ D := fun b hb e => by
      subst e
      exact hfp b hb (Fx.mem_pin (p := (b, od)) (List.mem_singleton_self _))
    have hlen' := stored_length_le kvs k vv
    refine ⟨n + 1 - (i + 1), by omega, i + 1, B₂, h₄, m₂, stored kvs k vv, od₄, _, rfl, hj₂, by omega, hk.trans F₃.st.sub, hod₄, F₄, W.frame _ _ _ hst₃ fun b hb o e => hs₄.extBut b o (hDf b hb) e, ?_, hlt, rfl⟩
    obtain ⟨oI, eI⟩ := live _ _ hst₂
    cases e : B₂.get? I with
    | none => rfl
    | some o =>
      rcases F₃.st.new I o e with q | q
      · rw [hIB] at q; cases q
      · rw [eI] at q; cases q
  · have hin : i = n := by omega
    subst hin
    refine W.done _ _ _ hst' fun h₁ tk₁ hk₁ => ?_
    exact done B' h₁ m' kvs od' tk₁ hj hk hod' (F'.other hw hk₁)

theorem dictO_new : ({ cls := .type "dict", data := .dict #[] } : Obj).IsDictOf (strKind prog w) [] := by
  obtain ⟨o, ho, h⟩ := Heap.dictOf_iff.mp (Heap.DictOf.new (knd := strKind prog w) {})
  rw [Heap.get?_push_size _ rfl] at ho; cases ho; exact h

theorem dc_block {kx vx iter : Expr} {x : Str} {px pos : Pos} {scope : Scope} {cl : List (Str × Addr)} {n : Nat} {P : Nat → Value → Prop} {RR : Value → Addr → Result → Shared → Prop}
    (F : Fx env own B₀ h₀ B s.heap m cm pins) (hsz : n ≤ 10000) (hcell : ∀ y ∈ scope.names, y.2 ≠ .cell) (hkind : scope.kind = .function) (hx : scope.names.lookup x = some .local)
    (hcl : ∀ n c, cl.lookup n = some c → env.cells.lookup n = some c)
    {I : Addr} {fp : List Addr} {St' : Nat → Heap → Prop} {h' : Heap} {tk' : Nat} (hk : Keep s.heap h') (hI : s.heap.get? I = none) (W : Walks prog w A I fp [I] n P St') (live : ∀ i h, St' i h → ∃ o, h.get? I = some o) (hst : St' 0 h')
    (hfp : ∀ b ∈ fp, b < h'.objs.size)
    (J : Nat → Heap → List (Str × Value) → Prop) (j0 : J 0 B [])
    (turn : ∀ (C D i : Nat) (v : Value) (B₁ h₁ : Heap) (m₁ : Str → Option Value) (od₁ : Obj) (kvs : List (Str × Value)) (tk : Nat), i < n → P i v → J i B₁ kvs → Keep B B₁ →
      Fx (compEnvC scope cl C env) [] B₁ h₁ B₁ h₁ (fun y => if y = x then some v else m₁ y) cm [(D, od₁)] →
      wpAny (model prog w) A (eval kx (compEnvC scope cl C env)) (fun kv s₄ => ∃ k t, kv = .str k t ∧ wpAny (model prog w) A (eval vx (compEnvC scope cl C env)) (fun vv s' => ∃ B₂ h₂ m₂ tk₂, s' = { s with heap := h₂, toks := tk₂ } ∧
        Fx (compEnvC scope cl C env) [] B₁ h₁ B₂ h₂ m₂ cm [(D, od₁)] ∧ J (i + 1) B₂ (stored kvs k vv)) NE s₄) NE { s with heap := h₁, toks := tk })
    (fin : ∀ (D C : Addr) (B' B'' h'' : Heap) (mC : Str → Option Value) (kvs : List (Str × Value)) (tk : Nat), J n B' kvs → Keep B' B'' → Grow B s.heap B'' h'' → s.heap.get? D = none → B''.DictOf (strKind prog w) D kvs → s.heap.get? C = none → B''.get? C = none → h''.Ns C mC →
      RR (.ref D) C (.ok .next) { s with heap := h'', toks := tk }) :
    wpAny (model prog w) A newDict (fun acc s₃ => wpAny (model prog w) A (newFunctionEnv scope env.globals cl [] env.qual none .none (some env)) (fun cenv s₄ =>
      codeAny (model prog w) A (.compStart (.DictComp kx vx [⟨.Name x px, iter, [], 0⟩] scope pos) 0 (.ref I) acc { cenv with scope := relabel scope env }) (RR acc cenv.locals) s₄) NE s₃) NE { s with heap := h', toks := tk' } := by
  refine wpAny_newObj_type (wpAny_newFunctionEnv hcell (by intro y hy; simp at hy) (fun h₁ hns₁ hsb₁ => ?_) hkind)
  dsimp only at hns₁ hsb₁ ⊢
  obtain ⟨F1, hk1⟩ := F.comp (scope := scope) (cl := cl) hk rfl hns₁ hsb₁ hcl
  have hIlt : I < h'.objs.size := let ⟨o, e⟩ := live _ _ hst; Heap.lt_size e
  have hXn : ∀ b, b < h'.objs.size → b ∉ Xof (compEnvC scope cl (h'.push { cls := .type "dict", dict := none, data := .dict #[] }).objs.size env) [] [(h'.objs.size, ({ cls := .type "dict", data := .dict #[] } : Obj))] := fun b hb q => by
    have hC : (h'.push { cls := .type "dict", dict := none, data := .dict #[] }).objs.size = h'.objs.size + 1 := Heap.size_push ..
    simp only [Xof, compEnvC, List.map_cons, List.map_nil, List.nil_append, List.mem_cons, List.not_mem_nil, or_false, hC] at q
    rcases q with q | q <;> (rw [q] at hb; exact absurd hb (by simp))
  have hD0 : s.heap.get? h'.objs.size = none := none_of_keep hk (none_of_ge (Nat.le_refl _))
  have hC0 : s.heap.get? (h'.push { cls := .type "dict", dict := none, data := .dict #[] }).objs.size = none := none_of_keep hk (none_of_ge (by rw [Heap.size_push]; exact Nat.le_succ _))
  have loop : ∀ s₃ : Shared, s₃ = { s with heap := h₁, toks := tk' + ([] : List (Str × Value)).length } →
      codeAny (model prog w) A (.compLoop (.DictComp kx vx [⟨.Name x px, iter, [], 0⟩] scope pos) 0 (.ref I) (.ref h'.objs.size) (compEnvC scope cl (h'.push { cls := .type "dict", dict := none, data := .dict #[] }).objs.size env))
        (RR (.ref h'.objs.size) (h'.push { cls := .type "dict", dict := none, data := .dict #[] }).objs.size) s₃ := by
    rintro s₃ rfl
    refine cl_dict (s := { s with heap := h₁, toks := _ }) W live hsz (lookup_relabel_local hx) (by simp [compEnvC, relabel, hkind]) F1 dictO_new (W.frame _ _ _ hst fun b _ o e => hk1 b o e)
      ⟨none_of_keep F.keep hI, hI, hXn I hIlt, fun n hn => ?_⟩ (fun b hb => hXn b (hfp b hb)) J j0 (turn _ _) ?_
    · obtain ⟨o, e, _⟩ := F.cell n I (hcl n I hn); rw [hI] at e; cases e
    · intro B' h'' m' kvs od' tk₁ hj hkB hod' F2
      have hnC := F2.ns
      obtain ⟨B'', hk2, hD2, F3⟩ := F2.freeze hD0
      refine fin _ _ B' B'' h'' m' kvs tk₁ hj hk2 ⟨F3.keep, F3.st.sub, fun b o e => F3.st.old b o (fun q => ?_) e, F3.st.new⟩ hD0 (Heap.dictOf_iff.mpr ⟨_, hD2, hod'⟩) hC0 (F3.st.off _ (List.mem_cons_self ..)) hnC
      simp only [Xof, compEnvC, List.map_nil, List.nil_append, List.mem_cons, List.not_mem_nil, or_false] at q
      rw [q, hC0] at e; cases e
  exact codeAny_compStart_dict (loop _ rfl) (W.self 0 _ _ _ (W.frame _ _ _ hst fun b _ o e => hk1 b o e) (loop _ rfl))

theorem dc_src {E : Value → Shared → Prop} {kx vx iter : Expr} {x : Str} {px pos : Pos} {scope : Scope} {cl : List (Str × Addr)} {n : Nat} {P : Nat → Value → Prop} {Q : Value → Shared → Prop}
    (F : Fx env own B₀ h₀ B s.heap m cm pins) (hS : Src prog w A env B s iter n P) (hclos : closureFor scope env = pure cl)
    (J : Nat → Heap → List (Str × Value) → Prop) (j0 : J 0 B [])
    (turn : ∀ (C D i : Nat) (v : Value) (B₁ h₁ : Heap) (m₁ : Str → Option Value) (od₁ : Obj) (kvs : List (Str × Value)) (tk : Nat), i < n → P i v → J i B₁ kvs → Keep B B₁ →
      Fx (compEnvC scope cl C env) [] B₁ h₁ B₁ h₁ (fun y => if y = x then some v else m₁ y) cm [(D, od₁)] →
      wpAny (model prog w) A (eval kx (compEnvC scope cl C env)) (fun kv s₄ => ∃ k t, kv = .str k t ∧ wpAny (model prog w) A (eval vx (compEnvC scope cl C env)) (fun vv s' => ∃ B₂ h₂ m₂ tk₂, s' = { s with heap := h₂, toks := tk₂ } ∧
        Fx (compEnvC scope cl C env) [] B₁ h₁ B₂ h₂ m₂ cm [(D, od₁)] ∧ J (i + 1) B₂ (stored kvs k vv)) NE s₄) NE { s with heap := h₁, toks := tk })
    (fin : ∀ (D : Addr) (B' B'' h'' : Heap) (kvs : List (Str × Value)) (tk : Nat), J n B' kvs → Keep B' B'' → Grow B s.heap B'' h'' → s.heap.get? D = none → B''.DictOf (strKind prog w) D kvs → Q (.ref D) { s with heap := h'', toks := tk })
    (hsz : n ≤ 10000) (hcl : ∀ n c, cl.lookup n = some c → env.cells.lookup n = some c)
    (hs : ∀ x, foldedSetIterable iter env x = pure x := by intro _; rfl)
    (hcell : ∀ y ∈ scope.names, y.2 ≠ .cell := by decide) (hkind : scope.kind = .function := by rfl) (hx : scope.names.lookup x = some .local := by rfl)
    (hnames : ∀ y ∈ scope.names, y.2 = .local → scope.names.lookup y.1 = some .local := by decide) :
    wpAny (model prog w) A (eval (.DictComp kx vx [⟨.Name x px, iter, [], 0⟩] scope pos) env) Q E s := by
  refine anyE ?_
  rw [arm_eval_DictComp]
  refine wpAny_comprehension_free (use := none) rfl hs hclos hkind hnames (hS _ ?_)
  intro I fp St' h' tk' hk hI W live hst hfp
  refine dc_block (RR := fun acc C => compPost (model prog w) A NE none Q acc C) F hsz hcell hkind hx hcl hk hI W live hst (fun b hb => (hfp b hb).1) J j0 turn ?_
  intro D C B' B'' h'' mC kvs tk hj hk2 g hD0 hD hC hCB hn
  exact ⟨mC, hn, fun h3 hs3 => fin D B' B'' h3 kvs tk hj hk2 ⟨fun b o e => hs3.extBut b o (fun q => by subst q; rw [hCB] at e; cases e) (g.keep b o e), g.sub,
    fun b o e => hs3.extBut b o (fun q => by subst q; rw [hC] at e; cases e) (g.old b o e), g.new⟩ hD0 hD⟩

theorem as_dc {E : Value → Shared → Prop} {kx vx iter : Expr} {x y : Str} {px py pos spos : Pos} {scope : Scope} {cl : List (Str × Addr)} {n : Nat} {P : Nat → Value → Prop} {Q : Flow → Shared → Prop}
    {fm fc : Value → (Str → Option Value) → Str → Option Value} (hst : Sto prog w A env own y fm fc)
    (F : Fx env own B₀ h₀ B s.heap m cm pins) (hS : Src prog w A env B s iter n P) (hclos : closureFor scope env = pure cl)
    (J : Nat → Heap → List (Str × Value) → Prop) (j0 : J 0 B [])
    (turn : ∀ (C D i : Nat) (v : Value) (B₁ h₁ : Heap) (m₁ : Str → Option Value) (od₁ : Obj) (kvs : List (Str × Value)) (tk : Nat), i < n → P i v → J i B₁ kvs → Keep B B₁ →
      Fx (compEnvC scope cl C env) [] B₁ h₁ B₁ h₁ (fun y => if y = x then some v else m₁ y) cm [(D, od₁)] →
      wpAny (model prog w) A (eval kx (compEnvC scope cl C env)) (fun kv s₄ => ∃ k t, kv = .str k t ∧ wpAny (model prog w) A (eval vx (compEnvC scope cl C env)) (fun vv s' => ∃ B₂ h₂ m₂ tk₂, s' = { s with heap := h₂, toks := tk₂ } ∧
        Fx (compEnvC scope cl C env) [] B₁ h₁ B₂ h₂ m₂ cm [(D, od₁)] ∧ J (i + 1) B₂ (stored kvs k vv)) NE s₄) NE { s with heap := h₁, toks := tk })
    (fin : ∀ (D : Addr) (B' B'' h'' : Heap) (kvs : List (Str × Value)) (tk : Nat), J n B' kvs → Keep B' B'' → Keep B B'' → s.heap.get? D = none → B''.DictOf (strKind prog w) D kvs → Fx env own B₀ h₀ B'' h'' (fm (.ref D) m) (fc (.ref D) cm) pins → Q .next { s with heap := h'', toks := tk })
    (hsz : n ≤ 10000) (hcl : ∀ n c, cl.lookup n = some c → env.cells.lookup n = some c)
    (hsw : swapsWith (.DictComp kx vx [⟨.Name x px, iter, [], 0⟩] scope pos) (some (.Name y py)) spos.line env = pure true := by rfl)
    (hs : ∀ x, foldedSetIterable iter env x = pure x := by intro _; rfl)
    (hcell : ∀ y ∈ scope.names, y.2 ≠ .cell := by decide) (hkind : scope.kind = .function := by rfl) (hx : scope.names.lookup x = some .local := by rfl)
    (hnames : ∀ y ∈ scope.names, y.2 = .local → scope.names.lookup y.1 = some .local := by decide) :
    wpAny (model prog w) A (exec (.Assign [.Name y py] (.DictComp kx vx [⟨.Name x px, iter, [], 0⟩] scope pos) spos) env) Q E s := by
  refine anyE ?_
  rw [exec_Assign_Name_used _ _ _ _ hsw]
  refine wpAny_bind (wpAny_standAt (wpAny_bind ?_))
  show wpAny _ A (do let _ ← comprehension (.DictComp kx vx [⟨.Name x px, iter, [], 0⟩] scope pos) scope env _ newDict false (eval iter env) (some (assign (.Name y py) env))) _ _ s
  refine wpAny_bind (wpAny_mono (wpAny_comprehension_free (use := some (assign (.Name y py) env)) (Q := fun _ s' => Q .next s') rfl hs hclos hkind hnames (hS _ ?_)) (fun _ s' hq => wpAny_pure (wpAny_pure hq)) fun _ _ e => e)
  intro I fp St' h' tk' hk hI W live hst' hfp
  refine dc_block (RR := fun acc C => compPost (model prog w) A NE (some (assign (.Name y py) env)) (fun _ s' => Q .next s') acc C) F hsz hcell hkind hx hcl hk hI W live hst' (fun b hb => (hfp b hb).1) J j0 turn ?_
  intro D C B' B'' h'' mC kvs tk hj hk2 g hD0 hD hC hCB hn
  have F2 := F.call g
  have hCX := F.srcI hC
  show wpAny _ A (assign (.Name y py) env (.ref D)) _ _ _
  refine wpAny_assign_Name (hst { s with heap := h'', toks := tk } (.ref D) B₀ h₀ B'' m cm pins _ F2 fun h3 tk3 F3 hk3 => ?_)
  refine ⟨mC, hn.at' fun o e => hk3 C o hCX.2.2.1 e, fun h4 hs4 => fin D B' B'' h4 kvs tk3 hj hk2 g.sub hD0 hD (F3.other (wr := [C]) (fun b hb => ?_) fun b o hb e => hs4.extBut b o (fun q => hb (q ▸ List.mem_singleton_self _)) e)⟩
  rw [List.mem_singleton.mp hb]; exact ⟨hCB, hCX.2.1, hCX.2.2.1, hCX.2.2.2⟩
end
end Mine

namespace Mine

section
variable {prog : Program} {w : World} {A : Around} {s : Shared} {env : Env} {own : List Addr} {B₀ h₀ B : Heap} {m cm mg mb : Str → Option Value} {pins : List (Addr × Obj)}

/-- an expression that turns nothing: its value as V says -/
def Ev (prog : Program) (w : World) (A : Around) (env : Env) (s : Shared) (e : Expr) (V : Value → Prop) : Prop :=
  ∀ (Q' : Value → Shared → Prop) (E : Value → Shared → Prop) (h : Heap) (tk : Nat), Keep s.heap h → (∀ v h' tk', Keep h h' → V v → Q' v { s with heap := h', toks := tk' }) → wpAny (model prog w) A (eval e env) Q' E { s with heap := h, toks := tk }
theorem Ev.here {e : Expr} {V : Value → Prop} {Q : Value → Shared → Prop} {E : Value → Shared → Prop} (x : Ev prog w A env s e V) (h : ∀ v h' tk', Keep s.heap h' → V v → Q v { s with heap := h', toks := tk' }) : wpAny (model prog w) A (eval e env) Q E s :=
  x Q E s.heap s.toks (Keep.refl _) h
theorem Ev.mono {e : Expr} {V V' : Value → Prop} (x : Ev prog w A env s e V) (h : ∀ v, V v → V' v) : Ev prog w A env s e V' := fun Q' E hp tk hk k => x Q' E hp tk hk fun v h' tk' hk' hv => k v h' tk' hk' (h v hv)

abbrev IsI (n : Int) (v : Value) : Prop := ∃ t, v = .int n t
abbrev IsS (x : Str) (v : Value) : Prop := ∃ t, v = .str x t

theorem ev_int {n : Int} {k pos} : Ev prog w A env s (.Constant (.int n) k pos) (IsI n) := fun _ _ _ _ _ h => wpAny_Constant_int (h _ _ _ (Keep.refl _) ⟨_, rfl⟩)
theorem ev_str {x : Str} {k pos} : Ev prog w A env s (.Constant (.str x) k pos) (IsS x) := fun _ _ _ _ _ h => wpAny_Constant_str (h _ _ _ (Keep.refl _) ⟨_, rfl⟩)
theorem ev_loc {x : Str} {pos : Pos} {v : Value} (F : Fx env own B₀ h₀ B s.heap m cm pins) (hv : m x = some v)
    (hk : env.scope.kind = .function := by rfl) (hl : env.kindOf x = some .local := by rfl) (hd : (x == ("__debug__" : Str)) = false := by decide) : Ev prog w A env s (.Name x pos) (· = v) :=
  fun _ _ hp tk hkk h => nmL (s := { s with heap := hp, toks := tk }) (F.step hkk) hv (h _ _ _ (Keep.refl _) rfl) hk hl hd
theorem ev_cell {x : Str} {pos : Pos} {v : Value} {c : Addr} (F : Fx env own B₀ h₀ B s.heap m cm pins) (hc : env.cells.lookup x = some c) (hv : cm x = some v)
    (hk : env.scope.kind = .function := by rfl) (hl : env.kindOf x = some .cell := by rfl) (hd : (x == ("__debug__" : Str)) = false := by decide) : Ev prog w A env s (.Name x pos) (· = v) :=
  fun _ _ hp tk hkk h => nmC (s := { s with heap := hp, toks := tk }) (F.step hkk) hc hv (h _ _ _ (Keep.refl _) rfl) hk hl hd
theorem ev_locI {x : Str} {pos : Pos} {n : Int} {t : Tok} (F : Fx env own B₀ h₀ B s.heap m cm pins) (hv : m x = some (.int n t))
    (hk : env.scope.kind = .function := by rfl) (hl : env.kindOf x = some .local := by rfl) (hd : (x == ("__debug__" : Str)) = false := by decide) : Ev prog w A env s (.Name x pos) (IsI n) := (ev_loc F hv hk hl hd).mono fun _ e => ⟨t, e⟩
theorem ev_locS {x : Str} {pos : Pos} {y : Str} {t : Tok} (F : Fx env own B₀ h₀ B s.heap m cm pins) (hv : m x = some (.str y t))
    (hk : env.scope.kind = .function := by rfl) (hl : env.kindOf x = some .local := by rfl) (hd : (x == ("__debug__" : Str)) = false := by decide) : Ev prog w A env s (.Name x pos) (IsS y) := (ev_loc F hv hk hl hd).mono fun _ e => ⟨t, e⟩
theorem ev_cellI {x : Str} {pos : Pos} {n : Int} {t : Tok} {c : Addr} (F : Fx env own B₀ h₀ B s.heap m cm pins) (hc : env.cells.lookup x = some c) (hv : cm x = some (.int n t))
    (hk : env.scope.kind = .function := by rfl) (hl : env.kindOf x = some .cell := by rfl) (hd : (x == ("__debug__" : Str)) = false := by decide) : Ev prog w A env s (.Name x pos) (IsI n) := (ev_cell F hc hv hk hl hd).mono fun _ e => ⟨t, e⟩
theorem ev_cellS {x : Str} {pos : Pos} {y : Str} {t : Tok} {c : Addr} (F : Fx env own B₀ h₀ B s.heap m cm pins) (hc : env.cells.lookup x = some c) (hv : cm x = some (.str y t))
    (hk : env.scope.kind = .function := by rfl) (hl : env.kindOf x = some .cell := by rfl) (hd : (x == ("__debug__" : Str)) = false := by decide) : Ev prog w A env s (.Name x pos) (IsS y) := (ev_cell F hc hv hk hl hd).mono fun _ e => ⟨t, e⟩

theorem ev_bin {l r : Expr} {op : Operator} {pos : Pos} {Vl Vr V : Value → Prop} (hl : Ev prog w A env s l Vl) (hr : Ev prog w A env s r Vr)
    (h : ∀ a b, Vl a → Vr b → ∀ (Q' : Value → Shared → Prop) (E : Value → Shared → Prop) (s' : Shared), Keep s.heap s'.heap → (∀ v tk', V v → Q' v { s' with toks := tk' }) → wpAny (model prog w) A (binaryOp op a b) Q' E s') : Ev prog w A env s (.BinOp l op r pos) V :=
  fun _ _ _ _ hk k => wpAny_BinOp (hl _ _ _ _ hk fun a h1 t1 k1 ha => hr _ _ _ _ (hk.trans k1) fun b h2 t2 k2 hb => h a b ha hb _ _ _ (hk.trans (k1.trans k2)) fun v tk' hv => k v h2 tk' (k1.trans k2) hv)

theorem ev_add {l r : Expr} {pos : Pos} {a b : Int} (hl : Ev prog w A env s l (IsI a)) (hr : Ev prog w A env s r (IsI b)) : Ev prog w A env s (.BinOp l .Add r pos) (IsI (a + b)) :=
  ev_bin hl hr fun _ _ ⟨_, e⟩ ⟨_, e'⟩ _ _ _ _ k => by subst e e'; exact PyProof.Rows.add_int (k _ _ ⟨_, rfl⟩)
theorem ev_sub {l r : Expr} {pos : Pos} {a b : Int} (hl : Ev prog w A env s l (IsI a)) (hr : Ev prog w A env s r (IsI b)) : Ev prog w A env s (.BinOp l .Sub r pos) (IsI (a - b)) :=
  ev_bin hl hr fun _ _ ⟨_, e⟩ ⟨_, e'⟩ _ _ _ _ k => by subst e e'; exact PyProof.Rows.sub_int (k _ _ ⟨_, rfl⟩)
theorem ev_mod {l r : Expr} {pos : Pos} {a b : Int} (hl : Ev prog w A env s l (IsI a)) (hr : Ev prog w A env s r (IsI b)) (hb : b ≠ 0) : Ev prog w A env s (.BinOp l .Mod r pos) (IsI (a.fmod b)) :=
  ev_bin hl hr fun _ _ ⟨_, e⟩ ⟨_, e'⟩ _ _ _ _ k => by subst e e'; exact PyProof.Rows.mod_int' hb (k _ _ ⟨_, rfl⟩)
theorem ev_mul {l r : Expr} {pos : Pos} {a b : Int} (hl : Ev prog w A env s l (IsI a)) (hr : Ev prog w A env s r (IsI b)) (hm : IntMulOk a b) : Ev prog w A env s (.BinOp l .Mult r pos) (IsI (a * b)) :=
  ev_bin hl hr fun _ _ ⟨_, e⟩ ⟨_, e'⟩ _ _ _ _ k => by subst e e'; exact PyProof.Rows.mul_int (k _ _ ⟨_, rfl⟩) hm
theorem ev_pow {l r : Expr} {pos : Pos} {a b : Int} (hl : Ev prog w A env s l (IsI a)) (hr : Ev prog w A env s r (IsI b)) (hb : 0 ≤ b) (hb2 : b ≤ 1000000) (ha : a.natAbs < 2 ^ 64) : Ev prog w A env s (.BinOp l .Pow r pos) (IsI (a ^ b.toNat)) :=
  ev_bin hl hr fun _ _ ⟨_, e⟩ ⟨_, e'⟩ _ _ _ _ k => by subst e e'; exact PyProof.Rows.pow_int_small hb hb2 ha (k _ _ ⟨_, rfl⟩)
theorem ev_fdiv {l r : Expr} {pos : Pos} {a b : Int} (hl : Ev prog w A env s l (IsI a)) (hr : Ev prog w A env s r (IsI b)) (hb : b ≠ 0) (hp : Builtin.divisionGoesByPylong a b = false ∨ ∀ s', Keep s.heap s'.heap → PySem.PylongRoom (model prog w) A s') : Ev prog w A env s (.BinOp l .FloorDiv r pos) (IsI (a.fdiv b)) :=
  ev_bin hl hr fun _ _ ⟨_, e⟩ ⟨_, e'⟩ _ _ _ hk k => by subst e e'; exact PyProof.Rows.floordiv_int hb (k _ _ ⟨_, rfl⟩) (hp.imp id fun h => h _ hk)

/-! items -/
theorem ev_item {value slice : Expr} {pos : Pos} {Vo Vi V : Value → Prop} (ho : Ev prog w A env s value Vo) (hi : Ev prog w A env s slice Vi)
    (h : ∀ o i, Vo o → Vi i → ∀ (Q' : Value → Shared → Prop) (E : Value → Shared → Prop) (h' : Heap) (tk : Nat), Keep s.heap h' → (∀ v tk', V v → Q' v { s with heap := h', toks := tk' }) →
      ∃ T id, ({ s with heap := h', toks := tk } : Shared).TypeIs o T ∧ typeLookup (.type T) "__getitem__" = pure (some (.builtin id)) ∧ wpAny (model prog w) A (getItem o i) Q' E { s with heap := h', toks := tk })
    (hs : ∀ o i, subscripted slice false o i = operate [o, i] (getItem o i) := by intro _ _; rfl) : Ev prog w A env s (.Subscript value slice pos) V :=
  fun Q' E hp tk hk k => Subscript_ (ho _ _ _ _ hk fun o h1 t1 k1 hvo => hi _ _ _ _ (hk.trans k1) fun i h2 t2 k2 hvi => by
    obtain ⟨T, id, hT, hl, hg⟩ := h o i hvo hvi Q' E h2 t2 (hk.trans (k1.trans k2)) fun v tk' hv => k v h2 tk' (k1.trans k2) hv
    exact tail_any hT hl hg (hs o i))
theorem ev_item_str {value slice : Expr} {pos : Pos} {x : Str} {i : Int} {c : Nat} (ho : Ev prog w A env s value (IsS x)) (hi : Ev prog w A env s slice (IsI i)) (h0 : 0 ≤ i) (h1 : i < 1000000) (hc : x.cps[i.toNat]? = some c)
    (hs : ∀ o i, subscripted slice false o i = operate [o, i] (getItem o i) := by intro _ _; rfl) : Ev prog w A env s (.Subscript value slice pos) (IsS ⟨#[c]⟩) :=
  ev_item ho hi (fun o j ⟨t, e⟩ ⟨u, e'⟩ Q' E h' tk hk k => by
    subst e e'
    refine ⟨"str", _, typeIs_str _ _ _, PySem.F.slot_str_getitem.lookup, PySem.P.getItem_str (c := c) ?_ ?_ (k _ _ ⟨_, rfl⟩)⟩
    · simp only [Bool.or_eq_false_iff, decide_eq_false_iff_not]; omega
    · have hlt : i.toNat < x.length := (Array.getElem?_eq_some_iff.mp hc).1
      have e : seqIndex? i x.length = some i.toNat := seqIndex_of h0 (by omega)
      rw [e]; exact hc) hs
theorem ev_item_list {value slice : Expr} {pos : Pos} {l : Addr} {items : List Value} {i : Int} {v : Value} (ho : Ev prog w A env s value (· = .ref l)) (hi : Ev prog w A env s slice (IsI i)) (hl : s.heap.IsList l items.toArray) (h0 : 0 ≤ i) (h1 : i < 1000000) (hv : items[i.toNat]? = some v)
    (hs : ∀ o i, subscripted slice false o i = operate [o, i] (getItem o i) := by intro _ _; rfl) : Ev prog w A env s (.Subscript value slice pos) (· = v) :=
  ev_item ho hi (fun o j e ⟨u, e'⟩ Q' E h' tk hk k => by
    subst e e'
    have hl' : ({ s with heap := h', toks := tk } : Shared).heap.IsList l items.toArray := hl.at fun o e => hk l o e
    exact ⟨"list", _, hl'.typeIs, PySem.F.slot_list_getitem.lookup, wpAny_getItem_list hl' h0 (by omega) (by simpa using hv) (k _ _ rfl)⟩) hs
theorem ev_item_dict {value slice : Expr} {pos : Pos} {d : Addr} {kvs : List (Str × Value)} {x : Str} {v : Value} (ho : Ev prog w A env s value (· = .ref d)) (hi : Ev prog w A env s slice (IsS x)) (hd : s.heap.DictOf (strKind prog w) d kvs) (hv : valueAt kvs x = some v)
    (hs : ∀ o i, subscripted slice false o i = operate [o, i] (getItem o i) := by intro _ _; rfl) : Ev prog w A env s (.Subscript value slice pos) (· = v) :=
  ev_item ho hi (fun o j e ⟨u, e'⟩ Q' E h' tk hk k => by
    subst e e'
    have hd' : ({ s with heap := h', toks := tk } : Shared).heap.DictOf (strKind prog w) d kvs := hd.keep hk
    exact ⟨"dict", _, hd'.typeIs, PySem.F.slot_dict_getitem.lookup, wpAny_getItem_of (strKind_is prog w x u) hd'.mapOf hv (k _ _ rfl)⟩) hs
theorem ev_item_tup {value slice : Expr} {pos : Pos} {l : Addr} {items : List Value} {i : Int} {v : Value} (ho : Ev prog w A env s value (· = .ref l)) (hi : Ev prog w A env s slice (IsI i)) (hl : s.heap.IsTuple l items.toArray) (h0 : 0 ≤ i) (h1 : i < 1000000) (hv : items[i.toNat]? = some v)
    (hs : ∀ o i, subscripted slice false o i = operate [o, i] (getItem o i) := by intro _ _; rfl) : Ev prog w A env s (.Subscript value slice pos) (· = v) :=
  ev_item ho hi (fun o j e ⟨u, e'⟩ Q' E h' tk hk k => by
    subst e e'
    have hl' : IsTup h' l items.toArray := hl.at fun o e => hk l o e
    have hlt : i.toNat < items.length := (List.getElem?_eq_some_iff.mp hv).1
    exact ⟨"tuple", _, hl'.typeIs (s := { s with heap := h', toks := tk }), PySem.F.slot_tuple_getitem.lookup, getItem_tuple (j := i.toNat) hl' (by omega) (by omega) (seqIndex_of h0 (by rw [List.size_toArray]; omega)) (by simpa using hv) (k _ _ rfl)⟩) hs

/-! sources -/
theorem iter_range {E : Value → Shared → Prop} {r : Addr} {a b c : Int} {t u v : Tok} {Q : Value → Shared → Prop} {n : Nat} (hh : A.handled = none) (hr : IsRange s.heap r a b c t u v) (hsm : Builtin.Range.small a b c = true) (hn : Builtin.Range.rangeSize a b c = n)
    (h : ∀ I h', Keep s.heap h' → s.heap.get? I = none → Walks prog w A I [I] [I] n (fun i v => ∃ t, v = .int (a + i * c) t) (fun i h => IsRangeIter h I (a + (i : Nat) * c) ((n : Int) - (i : Nat)) c) →
      IsRangeIter h' I (a + (0 : Nat) * c) ((n : Int) - (0 : Nat)) c → Q (.ref I) { s with heap := h' }) : wpAny (model prog w) A (pyIter (.ref r)) Q E s := by
  refine wpAny_pyIter_range hr hsm ?_
  refine h _ _ (Keep.push _ _) (none_of_ge (Nat.le_refl _)) (Walks.range hh _ a c n) ?_
  have := Heap.get?_push_size s.heap (o := { cls := .type "range_iterator", data := .fields #[rawInt a, rawInt (Builtin.Range.rangeSize a b c), rawInt c] }) rfl
  simpa [IsRangeIter, hn] using this

theorem src_range {e : Expr} {rp rpos : Pos} {k : Int} {n : Nat} (hh : A.handled = none) (F : Fx env own B₀ h₀ B s.heap m cm pins) (G : Gl mg mb B) (he : Ev prog w A env s e (IsI k)) (hkn : k = n) (hn : n ≤ 10000)
    (hg : env.globals = mainGlobals := by rfl) (hb : env.builtins = builtinsNs := by rfl) (hk : env.scope.kind = .function := by rfl) (hl : env.kindOf (Str.ofString "range") = some .globalImplicit := by rfl)
    (hse : starEach [e] env = (false, eval e env) :: starEach [] env := by rfl) (hcall : eval (.Call (.Name (Str.ofString "range") rp) [e] [] rpos) env = (do callWith rpos (← eval (.Name (Str.ofString "range") rp) env) [] (backTo rpos (starEach [e] env)) (backToKw rpos (keywordEach [] env))) := by rfl) :
    Src prog w A env B s (.Call (.Name (Str.ofString "range") rp) [e] [] rpos) n (fun i v => ∃ t, v = .int (0 + i * 1) t) := fun Q' hQ' => by
  subst hkn
  refine Call_ (nmB F G (by decide) boot_range ?_ hg hb hk hl) hcall
  refine PyProof.Rows.callWith_type1 (args_cons (he.here fun v h1 tk' hk1 hv => args_nil ?_) hse) hse rfl
  obtain ⟨t, rfl⟩ := hv
  refine call_range_1 ?_
  refine iter_range (n := n) hh (IsRange.new _ 0 n 1 _ _ _) (small_one (by decide) (by decide) (by omega) (by omega)) (by rw [rangeSize_one]; split <;> omega) ?_
  intro I h' hk' hI W hst
  have hk2 : Keep s.heap h' := hk1.trans ((Keep.push _ _).trans hk')
  have hI2 : s.heap.get? I = none := none_of_keep (hk1.trans (Keep.push _ _)) hI
  refine hQ' I [I] _ h' _ hk2 hI2 W (fun i h st => ⟨_, st⟩) hst ?_
  intro b hb
  rw [List.mem_singleton.mp hb]
  exact ⟨Heap.lt_size hst, .inr hI2⟩

theorem src_range3 {e₁ e₂ e₃ : Expr} {rp rpos : Pos} {a b c : Int} {n : Nat} (hh : A.handled = none) (F : Fx env own B₀ h₀ B s.heap m cm pins) (G : Gl mg mb B) (he₁ : Ev prog w A env s e₁ (IsI a)) (he₂ : Ev prog w A env s e₂ (IsI b)) (he₃ : Ev prog w A env s e₃ (IsI c))
    (hc : c ≠ 0) (hp : Builtin.divisionGoesByPylong (b - a) c = false) (hsm : Builtin.Range.small a b c = true) (hn : Builtin.Range.rangeSize a b c = n)
    (hg : env.globals = mainGlobals := by rfl) (hb : env.builtins = builtinsNs := by rfl) (hk : env.scope.kind = .function := by rfl) (hl : env.kindOf (Str.ofString "range") = some .globalImplicit := by rfl)
    (hse : starEach [e₁, e₂, e₃] env = (false, eval e₁ env) :: starEach [e₂, e₃] env := by rfl) (hse2 : starEach [e₂, e₃] env = (false, eval e₂ env) :: starEach [e₃] env := by rfl) (hse3 : starEach [e₃] env = (false, eval e₃ env) :: starEach [] env := by rfl)
    (hany : (backTo rpos (starEach [e₂, e₃] env)).any (·.1) = false := by rfl)
    (hcall : eval (.Call (.Name (Str.ofString "range") rp) [e₁, e₂, e₃] [] rpos) env = (do callWith rpos (← eval (.Name (Str.ofString "range") rp) env) [] (backTo rpos (starEach [e₁, e₂, e₃] env)) (backToKw rpos (keywordEach [] env))) := by rfl) :
    Src prog w A env B s (.Call (.Name (Str.ofString "range") rp) [e₁, e₂, e₃] [] rpos) n (fun i v => ∃ t, v = .int (a + i * c) t) := fun Q' hQ' => by
  refine Call_ (nmB F G (by decide) boot_range ?_ hg hb hk hl) hcall
  refine PyProof.Rows.callWith_type1 (args_cons (he₁.here fun v₁ h1 t1 k1 hv₁ => args_cons (he₂ _ _ _ _ k1 fun v₂ h2 t2 k2 hv₂ => args_cons (he₃ _ _ _ _ (k1.trans k2) fun v₃ h3 t3 k3 hv₃ => args_nil ?_) hse3) hse2) hse) hse hany
  obtain ⟨t, rfl⟩ := hv₁
  obtain ⟨u, rfl⟩ := hv₂
  obtain ⟨v, rfl⟩ := hv₃
  refine call_range_3 hc ?_ (.inl hp)
  refine iter_range (n := n) hh (IsRange.new _ a b c _ _ _) hsm hn ?_
  intro I h' hk' hI W hst
  have hk1 : Keep s.heap h3 := k1.trans (k2.trans k3)
  have hk2 : Keep s.heap h' := hk1.trans ((Keep.push _ _).trans hk')
  have hI2 : s.heap.get? I = none := none_of_keep (hk1.trans (Keep.push _ _)) hI
  refine hQ' I [I] _ h' _ hk2 hI2 W (fun i h st => ⟨_, st⟩) hst ?_
  intro b hb
  rw [List.mem_singleton.mp hb]
  exact ⟨Heap.lt_size hst, .inr hI2⟩

theorem src_str {iter : Expr} {x : Str} (hh : A.handled = none) (_F : Fx env own B₀ h₀ B s.heap m cm pins) (he : Ev prog w A env s iter (IsS x)) : Src prog w A env B s iter x.cps.size (SignAt x) := fun Q' hQ' => by
  refine he.here fun v h1 tk' hk1 hv => ?_
  obtain ⟨t, rfl⟩ := hv
  refine iter_str fun o St W st0 hf live => ?_
  have hI2 : s.heap.get? h1.objs.size = none := none_of_keep hk1 (none_of_ge (Nat.le_refl _))
  refine hQ' h1.objs.size [h1.objs.size] St _ tk' (hk1.trans (Keep.push _ _)) hI2 (W A hh) live st0 ?_
  intro b hb
  rw [List.mem_singleton.mp hb]
  exact ⟨by rw [Heap.size_push]; exact Nat.lt_succ_self _, .inr hI2⟩

theorem src_list {iter : Expr} {l : Addr} {items : List Value} (hh : A.handled = none) (F : Fx env own B₀ h₀ B s.heap m cm pins) (hl : B.IsList l items.toArray) (he : Ev prog w A env s iter (· = .ref l)) :
    Src prog w A env B s iter items.length (fun i v => items[i]? = some v) := fun Q' hQ' => by
  refine he.here fun v h1 tk' hk1 hv => ?_
  subst hv
  have hls : h1.IsList l items.toArray := hl.at fun o e => hk1 l o (F.keep l o e)
  refine wpAny_pyIter_list hls ?_
  obtain ⟨ol, hol, _⟩ := id hl
  have hlt : l < h1.objs.size := Heap.lt_size (hk1 _ _ (F.keep _ _ hol))
  have W := Walks.list (prog := prog) (w := w) hh h1.objs.size l (Nat.ne_of_lt hlt) items.toArray
  simp only [List.size_toArray, List.getElem?_toArray] at W
  have hI2 : s.heap.get? h1.objs.size = none := none_of_keep hk1 (none_of_ge (Nat.le_refl _))
  refine hQ' h1.objs.size [h1.objs.size, l] _ _ tk' (hk1.trans (Keep.push _ _)) hI2 W (fun i h st => let ⟨o, e, _⟩ := st.1; ⟨o, e⟩)
    ⟨⟨_, Heap.get?_push_size _ rfl, rfl, rfl⟩, hls.at fun o e => Heap.get?_push_of_some _ e⟩ ?_
  intro b hb
  rcases List.mem_cons.mp hb with rfl | hb
  · exact ⟨by rw [Heap.size_push]; exact Nat.lt_succ_self _, .inr hI2⟩
  · rw [List.mem_singleton.mp hb]
    exact ⟨by rw [Heap.size_push]; exact Nat.lt_succ_of_lt hlt, .inl ⟨ol, hol⟩⟩
end
end Mine

namespace Mine

/-- all that a step has made is taken into the frozen part -/
theorem Grow.all {B h h' : Heap} (k : Keep B h) (k' : Keep h h') : ∃ B', Grow B h B' h' ∧ ∀ b o, h.get? b = none → h'.get? b = some o → B'.get? b = some o := by
  refine ⟨mask h' fun b => (∃ o, B.get? b = some o) ∨ h.get? b = none, ⟨mask_keep _ _, fun b o e => ?_, k', fun b o e => ?_⟩, fun b o hn e => ?_⟩
  · exact (mask_get _ _ _ _).mpr ⟨k' _ _ (k _ _ e), .inl ⟨o, e⟩⟩
  · obtain ⟨e1, q | q⟩ := (mask_get _ _ _ _).mp e
    · obtain ⟨o', q⟩ := q
      have := k' _ _ (k _ _ q); rw [e1] at this; cases this
      exact .inl q
    · exact .inr q
  · exact (mask_get _ _ _ _).mpr ⟨e, .inr hn⟩

def itemsD (t : List (Str × Int)) : PyData := .list (t.map fun e => .tuple [.str e.1, .int e.2])

section
variable {prog : Program} {w : World} {A : Around} {s : Shared} {env : Env} {own : List Addr} {B₀ h₀ B : Heap} {m cm mg mb : Str → Option Value} {pins : List (Addr × Obj)}

theorem readsAll_of {h : Heap} : ∀ {vs : List Value} {ds : List PyData}, vs.length = ds.length → (∀ (j : Nat) (v : Value) (d : PyData), vs[j]? = some v → ds[j]? = some d → ∃ as, Reads h v d as) → ∃ as, ReadsAll h vs ds as
  | [], [], _, _ => ⟨_, .nil⟩
  | v :: vs, d :: ds, hl, hx => by
    obtain ⟨as, h1⟩ := hx 0 v d rfl rfl
    obtain ⟨bs, h2⟩ := readsAll_of (vs := vs) (ds := ds) (by simpa using hl) fun j v' d' e e' => hx (j + 1) v' d' (by simpa using e) (by simpa using e')
    exact ⟨_, .cons h1 h2⟩

/-- list(d.items()), the dict any expression -/
theorem list_items {E : Value → Shared → Prop} {o : Expr} {apos cpos lp pos : Pos} {Q : Value → Shared → Prop} {t : List (Str × Int)} (hh : A.handled = none)
    (ho : wpAny (model prog w) A (eval o env) (fun v s₁ => ∃ d B₁, v = .ref d ∧ (d == sysModules) = false ∧ Keep B₁ s₁.heap ∧ Tab prog w B₁ v t ∧ t.length ≤ 5000 ∧
      ∀ D B' h' tk', Grow B₁ s₁.heap B' h' → (∃ as, Reads B' (.ref D) (itemsD t) as) → Q (.ref D) { s₁ with heap := h', toks := tk' }) NE s)
    (hl : ∀ Q' : Value → Shared → Prop, Q' (.type "list") s → wpAny (model prog w) A (eval (.Name (Str.ofString "list") lp) env) Q' NE s)
    (hbase : attributeBase o "items" env (eval o env) = eval o env := by rfl) (hline : (apos.endLine == cpos.line) = true := by rfl)
    (hse : starEach [Expr.Call (.Attribute o "items" apos) [] [] cpos] env = (false, eval (.Call (.Attribute o "items" apos) [] [] cpos) env) :: starEach [] env := by rfl)
    (hcall : eval (.Call (.Name (Str.ofString "list") lp) [.Call (.Attribute o "items" apos) [] [] cpos] [] pos) env = (do callWith pos (← eval (.Name (Str.ofString "list") lp) env) [] (backTo pos (starEach [.Call (.Attribute o "items" apos) [] [] cpos] env)) (backToKw pos (keywordEach [] env))) := by rfl) :
    wpAny (model prog w) A (eval (.Call (.Name (Str.ofString "list") lp) [.Call (.Attribute o "items" apos) [] [] cpos] [] pos) env) Q E s := by
  refine anyE ?_
  refine Call_ (hl _ ?_) hcall
  refine PyProof.Rows.callWith_type1 (args_cons ?_ hse) hse rfl
  refine wpAny_Call_method (T := "dict") (id := "dict.items") hbase rfl hline PySem.F.plainAttrs_dict PySem.F.slot_dict_items PySem.F.type_dict_items (wpAny_mono ho (fun v s₁ h => ?_) fun _ _ x => x)
  obtain ⟨a, B₁, rfl, hds, hk, ⟨a', od, e, _, hod, vals, hvals, rfl⟩, hlen, hQ⟩ := h
  obtain rfl : a = a' := by cases e; rfl
  have hm : s₁.heap.DictOf (strKind prog w) a (intPairs vals) := Heap.dictOf_iff.mpr ⟨od, hk _ _ hod, hvals⟩
  obtain ⟨ep, hat⟩ := hm.dictAt
  refine ⟨hm.typeIs, hm.mapOf.noDict, ?_⟩
  show wpAny _ _ (callWith cpos (.builtin "dict.items") [.ref a] [] []) _ _ s₁
  refine method_meetsIn PySem.F.slot_dict_items PySem.F.entry_dict_items rfl (PyProof.Rows.evalArgs_none ⟨rfl, hm.typeIs, PySem.F.args_dict_items_1 _, _, meets_dict_items (strKind prog w) a hds, ⟨_, hm⟩, ?_⟩)
  refine args_nil ?_
  have hview : (s₁.heap.push { cls := .type "dict_items", data := .fields #[.ref a] }).IsItemsView s₁.heap.objs.size a := ⟨_, Heap.get?_push_size _ rfl, rfl, rfl⟩
  have hlenv : (intPairs vals).length = (bare vals).length := by simp [intPairs, bare]
  refine kdx_call (knd := strKind prog w) (kvs := intPairs vals) (ep := ep) hh hview (hat.push _) (by rw [hlenv, sizeLine_eq]; omega) ?_
  intro h' tk acc c as hk' hS hlas hG hacc
  have hk1 : Keep s₁.heap h' := (Keep.push _ _).trans hk'
  obtain ⟨B', g, hall⟩ := Grow.all hk hk1
  have hsz : (s₁.heap.push { cls := .type "dict_items", data := .fields #[.ref a] }).objs.size = s₁.heap.objs.size + 1 := Heap.size_push ..
  have hS' := hall _ _ (none_of_ge (by rw [hsz]; exact Nat.le_succ _)) hS
  refine hQ _ B' h' tk g ?_
  obtain ⟨bs, hb⟩ := readsAll_of (h := B') (vs := acc.toList) (ds := (bare vals).map fun e => PyData.tuple [.str e.1, .int e.2]) (by rw [hacc]; simp [hlas, intPairs, bare]) fun j v d hv hd => by
    rw [hacc, List.getElem?_map, Option.map_eq_some_iff] at hv
    obtain ⟨b, hb, rfl⟩ := hv
    obtain ⟨key, k, x, hkv, hkey, hget⟩ := hG.pairs j b hb
    have hab := hG.above b (List.mem_of_getElem? hb)
    rw [hsz] at hab
    have hget' := hall b _ (none_of_ge (Nat.le_of_lt (Nat.lt_of_succ_lt hab))) hget
    obtain ⟨tk0, rfl⟩ := Value.isStrOf_shape hkey
    simp only [intPairs, bare, List.getElem?_map, Option.map_eq_some_iff] at hkv hd
    obtain ⟨row, hrow, e⟩ := hkv
    cases e
    obtain ⟨q, ⟨row', hrow', rfl⟩, rfl⟩ := hd
    rw [hrow] at hrow'; cases hrow'
    exact ⟨_, .tuple hget' rfl rfl (.cons (.str _ _) (.cons (.int _ _) .nil))⟩
  exact ⟨_, .list hS' rfl rfl hb⟩
end

/-! what _law_told says -/
abbrev one (c : Nat) : Str := ⟨#[c]⟩
def toldOf (u : List Nat) : List (Str × Int) := u.foldl (fun t c => put t (one c) (Txt.count ⟨u.toArray⟩ (one c))) []
theorem fold_len (f : List (Str × Int) → Nat → List (Str × Int)) (hf : ∀ t c, (f t c).length ≤ t.length + 1) : ∀ (u : List Nat) t, (u.foldl f t).length ≤ t.length + u.length
  | [], t => by simp
  | c :: u, t => by have := fold_len f hf u (f t c); have := hf t c; simp only [List.foldl_cons, List.length_cons]; omega

section
variable {prog : Program} {w : World} {A : Around} {s : Shared} {mg mb : Str → Option Value} {B : Heap}
theorem told_spec {f : Value} {u : List Nat} {t : Tok} {Q : Value → Shared → Prop} {E : Value → Shared → Prop}
    (G : Gl mg mb B) (hB : Keep B s.heap) (hf : mg (Str.ofString "_law_told") = some f) (hA : A.handled = none) (hd : A.depth < recursionLimit) (hlen : u.length ≤ 1000)
    (hQ : ∀ v B' h' tk', Grow B s.heap B' h' → (∃ as, Reads B' v (itemsD (toldOf u)) as) → Q v { s with heap := h', toks := tk' }) : wpAny (model prog w) A (call f [.str ⟨u.toArray⟩ t]) Q E s := by
  refine enterC (List.mem_of_getElem? (show (PySem.defsOf PySem.Challenge.pw_pe0056_01)[8]? = some _ from rfl)) G hB hf hd (binds := [(Str.ofString "ahead", .str ⟨u.toArray⟩ t)]) (fun _ _ _ => rfl) fun a cd h₁ tk F => ?_
  dsimp only at F ⊢
  have hcell : ∀ x : Value, x = .str ⟨u.toArray⟩ t → True := fun _ _ => trivial
  refine wpAny_execs_cons (wpAny_Return_some ?_)
  refine list_items (t := toldOf u) hA ?_ (fun Q' h => nmB F G (by decide) boot_list h)
  refine dc_src F (src_str hA F (ev_cellS F (c := s.heap.objs.size + 1) rfl rfl)) (cl := [(Str.ofString "ahead", s.heap.objs.size + 1)]) rfl
    (fun i B' kvs => ∃ vals : List Row3, kvs = intPairs vals ∧ bare vals = (u.take i).foldl (fun t c => put t (one c) (Txt.count ⟨u.toArray⟩ (one c))) []) ⟨[], rfl, rfl⟩ ?_ ?_ ?_ ?_
  · rintro C D i v B₁ h₂ m₁ od kvs tk₁ hi ⟨c, uu, hc, rfl⟩ ⟨vals, rfl, hb⟩ hBB F
    refine nmL F rfl ⟨one c, uu, rfl, ?_⟩
    refine MethodCall_ (nmC F (c := s.heap.objs.size + 1) rfl rfl ?_)
    refine PySem.GM.count ?_
    refine PyProof.Rows.callWith_method1 (args_cons (nmL F rfl (args_nil ?_)))
    refine PySem.SC.count ?_
    refine ⟨B₁, h₂, _, _, rfl, F, ?_⟩
    obtain ⟨vals', e1, e2⟩ := stored_bare vals (one c) (Txt.count ⟨u.toArray⟩ (one c)) tk₁
    refine ⟨vals', e1, ?_⟩
    have hc' : u[i]? = some c := by simpa using hc
    rw [e2, hb, List.take_add_one, hc']
    simp
  · rintro D B' B'' h'' kvs tk₁ ⟨vals, rfl, hb⟩ hk2 g hD hdict
    have hb' : bare vals = toldOf u := by rw [hb, List.take_of_length_le (by simp)]; rfl
    obtain ⟨od, hod, hisd⟩ := Heap.dictOf_iff.mp hdict
    have hDs : (D == sysModules) = false := by
      obtain ⟨o, e⟩ := G.low sysModules (.inr (.inr rfl))
      cases q : D == sysModules with
      | false => rfl
      | true => rw [beq_iff_eq.mp q] at hD; rw [F.keep _ _ e] at hD; cases hD
    refine ⟨D, B'', rfl, hDs, g.keep, ⟨D, od, rfl, hDs, hod, vals, hisd, hb'⟩, ?_, ?_⟩
    · have := fold_len (fun t c => put t (one c) (Txt.count ⟨u.toArray⟩ (one c))) (fun t c => put_length ..) u []
      unfold toldOf; simp at this; omega
    · intro D2 B3 h3 tk3 g3 hr
      exact hQ _ B3 h3 tk3 ((F.call (g.trans g3)).leaveC rfl) hr
  · have : (⟨u.toArray⟩ : Str).cps.size = u.length := by simp
    omega
  · intro n c h
    exact h
end
end Mine

namespace Mine

def figOf (d : Int) (k : Nat) : Int := (d.fdiv (3 ^ k)).fmod 3
def wordOf (d : Int) (n : Nat) : List Nat := (List.range n).map fun k => 97 + (figOf d k).toNat
theorem figOf_range (d : Int) (k : Nat) : 0 ≤ figOf d k ∧ figOf d k < 3 := ⟨Int.fmod_nonneg_of_pos _ (by decide), Int.fmod_lt_of_pos _ (by decide)⟩
theorem abc_at {i : Int} (h0 : 0 ≤ i) (h3 : i < 3) : (Str.ofString "abc").cps[i.toNat]? = some (97 + i.toNat) := by
  have : i = 0 ∨ i = 1 ∨ i = 2 := by omega
  rcases this with rfl | rfl | rfl <;> decide
theorem join_ones : ∀ (u : List Nat), Txt.join (Str.ofString "") (u.map one) = ⟨u.toArray⟩ := by
  intro u
  show Builtin.Str.glued (Str.ofString "") (u.map one) = _
  rw [StrLaws.glued_eq_join, show Str.ofString "" = (⟨#[]⟩ : Str) by decide]
  induction u with
  | nil => rfl
  | cons c u ih =>
    rw [List.map_cons, PyProof.Rows.join_nil_cons, ih]
    show (⟨#[c] ++ u.toArray⟩ : Str) = _
    simp
theorem joinOk_ones (u : List Nat) (h : u.length ≤ 1000) : JoinOk (Str.ofString "") (u.map one) = true := by
  unfold JoinOk
  rw [StrLaws.joinTotal]
  have e : ((u.map one).map (·.length)).sum = u.length := by
    rw [List.map_map]
    have : ((fun x : Str => x.length) ∘ one) = fun _ => 1 := by funext c; rfl
    rw [this, List.map_const', List.sum_replicate_nat]; simp
  rw [e]
  have e2 : (Str.ofString "").length = 0 := by decide
  rw [e2]
  simp only [Builtin.Str.tooLong, Bool.not_eq_true', decide_eq_false_iff_not, sizeLine_eq]
  omega

section
variable {prog : Program} {w : World} {A : Around} {s : Shared} {mg mb : Str → Option Value} {B : Heap}
theorem word_spec {f : Value} {d : Int} {n : Nat} {t u : Tok} {Q : Value → Shared → Prop} {E : Value → Shared → Prop}
    (G : Gl mg mb B) (hB : Keep B s.heap) (hf : mg (Str.ofString "_law_word") = some f) (hA : A.handled = none) (hd : A.depth < recursionLimit) (hn : n ≤ 15)
    (hQ : ∀ B' h' tk' t', Grow B s.heap B' h' → Q (.str ⟨(wordOf d n).toArray⟩ t') { s with heap := h', toks := tk' }) : wpAny (model prog w) A (call f [.int d t, .int n u]) Q E s := by
  refine enterC (List.mem_of_getElem? (show (PySem.defsOf PySem.Challenge.pw_pe0056_01)[4]? = some _ from rfl)) G hB hf hd (binds := [(Str.ofString "drawn", .int d t), (Str.ofString "size", .int n u)]) (fun _ _ _ => rfl) fun a cd h₁ tk F => ?_
  dsimp only at F ⊢
  refine wpAny_execs_cons (wpAny_Return_some ?_)
  refine MethodCall_ (wpAny_Constant_str ?_)
  refine PySem.GM.join ?_
  refine PyProof.Rows.callWith_method1 (args_cons ?_)
  refine lc_src F (src_range hA F G (ev_locI F rfl) rfl (by omega)) (cl := [(Str.ofString "drawn", s.heap.objs.size + 1)]) rfl
    (fun i B' ys => ∃ l : List (Str × Tok), ys = strValues l ∧ l.map (·.1) = (wordOf d i).map one) ⟨[], rfl, rfl⟩ ?_ ?_ (by omega) ?_
  · rintro C D i v B₁ h₂ m₁ od ys tk₁ hi ⟨t', rfl⟩ ⟨l, rfl, hl⟩ hBB F
    have hf := figOf_range d i
    refine Ev.here (V := IsS (one (97 + (figOf d i).toNat))) ?_ ?_
    · refine ev_item_str ev_str (i := figOf d i) ?_ hf.1 (by omega) (abc_at hf.1 hf.2)
      have e : figOf d i = (d.fdiv (3 ^ ((0 + (i : Int) * 1).toNat))).fmod 3 := by
        have : (0 + (i : Int) * 1).toNat = i := by omega
        rw [this]; rfl
      rw [e]
      refine ev_mod (ev_fdiv (ev_cellI F (c := s.heap.objs.size + 1) rfl rfl) (ev_pow ev_int (ev_locI F rfl) (by omega) (by omega) (by decide)) ?_ (.inl (PyProof.noPylong_small ?_))) ev_int (by decide)
      · exact Int.ne_of_gt (Int.pow_pos (by decide))
      · have hi' : (0 + (i : Int) * 1).toNat = i := by omega
        rw [hi', Int.natAbs_pow]
        have : (3 : Nat) ^ i ≤ 3 ^ 15 := Nat.pow_le_pow_right (by decide) (by omega)
        have h2 : (3 : Nat) ^ 15 < 1073741824 := by decide
        show (3 : Nat) ^ i < _
        omega
    · rintro v h3 tk3 hk3 ⟨t3, rfl⟩
      refine ⟨B₁, h3, _, tk3, rfl, F.step hk3, l ++ [(one (97 + (figOf d i).toNat), t3)], by simp [strValues], ?_⟩
      rw [List.map_append, hl]
      simp [wordOf, List.range_succ]
  · rintro D B' B'' h'' ys tk₁ ⟨l, rfl, hl⟩ hk2 g hD
    refine args_nil ?_
    have hlist : h''.IsList D (strValues l).toArray := (hD.at fun o e => g.keep _ _ e).isList
    refine PySem.SC.join hlist hl (joinOk_ones _ (by simp [wordOf]; omega)) fun t' k => ?_
    rw [join_ones]
    exact hQ _ _ _ _ ((F.call g).leaveC rfl)
  · intro n c h
    simp only [List.lookup_cons, List.lookup_nil] at h ⊢
    exact h
end
end Mine

namespace Mine

/-! one sign gives way to a text -/
def sub1 (x : List Nat) (c : Nat) (z : List Nat) : List Nat := x.flatMap fun k => if k = c then z else [k]
theorem sub1_append (a b : List Nat) (c : Nat) (z : List Nat) : sub1 (a ++ b) c z = sub1 a c z ++ sub1 b c z := by simp [sub1]
theorem sub1_free (c : Nat) (z : List Nat) : ∀ a : List Nat, c ∉ a → sub1 a c z = a
  | [], _ => rfl
  | k :: r, h => by
    have h1 : k ≠ c := fun e => h (e ▸ List.mem_cons_self ..)
    have ih := sub1_free c z r fun m => h (List.mem_cons_of_mem _ m)
    unfold sub1 at ih ⊢
    rw [List.flatMap_cons, if_neg h1, ih]; rfl
theorem sub1_join (c : Nat) (z : Str) : ∀ parts : List Str, (∀ p ∈ parts, c ∉ p.cps.toList) → sub1 (Str.join (one c) parts).cps.toList c z.cps.toList = (Str.join z parts).cps.toList
  | [], _ => rfl
  | [p], h => sub1_free c _ _ (h p (List.mem_singleton.mpr rfl))
  | p :: q :: r, h => by
    have ih := sub1_join c z (q :: r) fun a ha => h a (List.mem_cons_of_mem _ ha)
    show sub1 (p ++ one c ++ Str.join (one c) (q :: r)).cps.toList c z.cps.toList = (p ++ z ++ Str.join z (q :: r)).cps.toList
    simp only [Str.cps_append, Array.toList_append]
    rw [sub1_append, sub1_append, ih, sub1_free c _ _ (h p (List.mem_cons_self ..))]
    simp [sub1]
theorem join_split_one (x z : Str) (c : Nat) : Txt.join z (Txt.split x (one c)) = ⟨(sub1 x.cps.toList c z.cps.toList).toArray⟩ := by
  show Builtin.Str.glued z _ = _
  rw [StrLaws.glued_eq_join]
  have h := sub1_join c z (Txt.split x (one c)) fun p hp => StrLaws.split_free x c p hp
  rw [StrLaws.join_split] at h
  refine Str.ext' ?_
  rw [← Array.toList_inj, ← h]
theorem sub1_length (c : Nat) (z : List Nat) : ∀ a : List Nat, (sub1 a c z).length ≤ a.length * (z.length + 1)
  | [] => by simp [sub1]
  | k :: r => by
    have ih := sub1_length c z r
    have : (sub1 (k :: r) c z).length = (if k = c then z else [k]).length + (sub1 r c z).length := by simp [sub1]
    rw [this, List.length_cons, Nat.succ_mul]
    split <;> simp <;> omega
theorem split_joinOk (x z : Str) (c : Nat) (hx : x.length ≤ 1000000) (hz : z.length ≤ 4) : JoinOk z (Txt.split x (one c)) = true := by
  unfold JoinOk
  rw [StrLaws.joinTotal]
  have h := congrArg Str.length (StrLaws.join_split x (one c))
  cases hp : Txt.split x (one c) with
  | nil => simp [Builtin.Str.tooLong]
  | cons p r =>
    rw [hp, len_join_cons] at h
    have e1 : (one c).length = 1 := rfl
    rw [e1] at h
    have h2 : (p :: r).length * z.length ≤ (p :: r).length * 4 := Nat.mul_le_mul_left _ hz
    rw [List.length_cons] at h2
    simp only [Builtin.Str.tooLong, Bool.not_eq_true', decide_eq_false_iff_not, sizeLine_eq, List.length_cons]
    omega

def subAll (x : List Nat) : List (Nat × List Nat) → List Nat
  | [] => x
  | (c, z) :: ps => subAll (sub1 x c z) ps

def PairsAre : List Value → List (Nat × List Nat) → Prop
  | [], [] => True
  | v :: u :: r, (c, z) :: ps => IsS (one c) v ∧ IsS ⟨z.toArray⟩ u ∧ z.length ≤ 4 ∧ PairsAre r ps
  | _, _ => False

section
variable {prog : Program} {w : World} {A : Around} {s : Shared} {env : Env} {own : List Addr} {B₀ h₀ B : Heap} {m cm mg mb : Str → Option Value} {pins : List (Addr × Obj)}

/-- text.split(sign) -/
theorem call_split {E : Value → Shared → Prop} {x : Str} {c : Nat} {t u : Tok} {Q : Value → Shared → Prop} (hx : x.length ≤ 1000000)
    (hq : ∀ D l h' tk', l.map (·.1) = Txt.split x (one c) → Keep s.heap h' → h'.IsList D (strValues l).toArray → Q (.ref D) { s with heap := h', toks := tk' }) :
    wpAny (model prog w) A (call (.builtin "str.split") [.str x t, .str (one c) u]) Q E s := by
  refine PySem.SCG.split1 (Fm := fun s' => ∃ h' tk', s' = { s with heap := h', toks := tk' } ∧ Keep s.heap h') ?_ ⟨s.heap, s.toks, rfl, Keep.refl _⟩ rfl (fun D l s' hl hF hL => ?_) (by rw [sizeLine_eq]; omega) ?_
  · rintro s' ob k ⟨h', tk', rfl, hk⟩
    exact ⟨_, _, rfl, hk.trans (Keep.push _ _)⟩
  · obtain ⟨h', tk', rfl, hk⟩ := hF
    exact hq D l h' tk' hl hk hL
  · have h1 := StrLaws.occ_length_le x (one c) 0 x.length (x.length + 1)
    rw [StrLaws.partsBetween_eq]
    have h2 : ∀ (cuts : List Nat) (a : Nat), (StrLaws.partsFrom x (one c).length a cuts).length = cuts.length + 1 := by
      intro cuts
      induction cuts with
      | nil => intro a; rfl
      | cons i r ih => intro a; simp [StrLaws.partsFrom, ih]
    rw [h2, sizeLine_eq]; omega

/-- pairs[2:] -/
theorem ev_tail {value : Expr} {pos p pk : Pos} {k0 : Nat} {E : Value → Shared → Prop} {Q : Value → Shared → Prop} {l : Addr} {items : List Value} (ho : Ev prog w A env s value (· = .ref l)) (hl : IsTup s.heap l items.toArray) (h2 : 2 ≤ items.length) (hsz : items.length ≤ 1000)
    (h : ∀ h' tk', Keep s.heap h' → s.heap.get? (h'.objs.size) = none → Q (.ref h'.objs.size) { s with heap := h'.push { cls := .type "tuple", data := .seq (items.drop 2).toArray }, toks := tk' }) :
    wpAny (model prog w) A (eval (.Subscript value (.Slice (some (.Constant (.int 2) k0 pk)) none none p) pos) env) Q E s := by
  refine Subscript_ (ho.here fun v h1 t1 k1 hv => ?_)
  subst hv
  refine wpAny_Slice ?_
  rw [evalPart_some]
  refine wpAny_Constant_int ?_
  rw [evalPart_none]
  refine wpAny_pure (wpAny_pure ?_)
  have ht : IsTup (h1.push { cls := .type "slice", data := .fields #[.int 2 t1, .none, .none] }) l items.toArray := by
    obtain ⟨o, e, r⟩ := hl; exact ⟨o, Heap.get?_push_of_some _ (k1 _ _ e), r⟩
  have hsl : (h1.push { cls := .type "slice", data := .fields #[.int 2 t1, .none, .none] }).IsSliceOf h1.objs.size (.int 2 t1) .none .none := Heap.IsSliceOf.new _ _ _ _
  refine tail_any (ops := [.ref h1.objs.size, .ref l]) (T := "tuple") (ht.typeIs (s := { s with heap := _, toks := _ })) PySem.F.slot_tuple_getitem.lookup (getItem_tuple_from (a := 2) ht hsl (by decide) (by rw [List.size_toArray]; exact h2) ?_ (by rw [List.size_toArray, sizeLine_eq]; omega)) rfl
  exact h (h1.push { cls := .type "slice", data := .fields #[.int 2 t1, .none, .none] }) _ (k1.trans (Keep.push _ _)) (none_of_keep (k1.trans (Keep.push _ _)) (none_of_ge (Nat.le_refl _)))

/-- a def without cells, with a star parameter behind one name -/
theorem Fx.leave' {B' h' : Heap} (F : Fx env [] B₀ h₀ B' h' m cm []) (hL : h₀.get? env.locals = none) : Grow B₀ h₀ B' h' := by
  refine ⟨F.keep, F.st.sub, fun b o e => F.st.old b o ?_ e, F.st.new⟩
  intro hb
  have : b = env.locals := by simpa [Xof] using hb
  rw [this, hL] at e; cases e
theorem enterV {d : DefRec} {f : Value} {args rest : List Value} {binds : Value → List (Str × Value)} {Q E : Value → Shared → Prop}
    (hm : d ∈ PySem.defsOf PySem.Challenge.pw_pe0056_01) (G : Gl mg mb B) (hB : Keep B s.heap) (hf : mg d.name = some f) (hd : A.depth < recursionLimit) (hrest : rest.length ≤ 1000)
    (hbind : ∀ pm cd doc, bindArgs (docDef d.name d.params d.body d.scope pm cd doc) ⟨args, []⟩ = newTuple rest >>= fun v => pure (binds v))
    (h : ∀ a cd h₁ tk L T B₁, Grow B s.heap B₁ h₁ → s.heap.get? L = none → IsTup B₁ T rest.toArray → Fx (envOf d.name d.scope L a cd) [] B s.heap B₁ h₁ (fun x => (binds (.ref T)).reverse.lookup x) (fun _ => none) [] →
      wpAny (model prog w) (A.deeper (envOf d.name d.scope L a cd)) (execs d.body (envOf d.name d.scope L a cd)) (fun fl s' => Q (match fl with | .ret v => v | _ => .none) s') NE { s with heap := h₁, toks := tk })
    (hco : d.scope.isCoroutine = false := by rfl) (hgen : d.scope.isGenerator = false := by rfl) (hk : d.scope.kind = .function := by rfl)
    (hcell : ∀ x ∈ d.scope.names, x.2 ≠ .cell := by decide) (hloc : ∀ v, ∀ x ∈ binds v, d.scope.names.lookup x.1 = some .local := by exact fun _ => locs rfl) : wpAny (model prog w) A (call f args) Q E s := by
  obtain ⟨a, o, pm, cd, doc, hmg, ho, hdat, hcd⟩ := G.fn d hm
  obtain rfl : f = .ref a := Option.some.inj (hf.symm.trans hmg)
  refine wpAny_call (codeAny_call_function hd (hB _ _ ho) hdat hco hgen rfl (hcd.keeps hB) ?_)
  rw [hbind]
  refine wpAny_bind (wpAny_newTuple (wpAny_pure ?_) (by rw [sizeLine_eq]; omega))
  refine wpAny_newFunctionEnv hcell (hloc _) (fun h₁ hns hsb => ⟨(G.lim.keeps (hB.trans (Keep.push _ _))).fresh _ hsb, ?_⟩) hk
  have hkk : Keep (s.heap.push { cls := .type "tuple", data := .seq rest.toArray }) h₁ := fun b o e => hsb.extBut b o (Nat.ne_of_lt (Heap.lt_size e)) (Heap.get?_push_of_some _ e)
  have hL0 : s.heap.get? (s.heap.push { cls := .type "tuple", data := .seq rest.toArray }).objs.size = none := none_of_ge (by rw [Heap.size_push]; exact Nat.le_succ _)
  have F0 : Fx (envOf d.name d.scope (s.heap.push { cls := .type "tuple", data := .seq rest.toArray }).objs.size a cd) [] B s.heap B h₁ (fun x => (binds (.ref s.heap.objs.size)).reverse.lookup x) (fun _ => none) [] := by
    refine ⟨⟨hB.trans ((Keep.push _ _).trans hkk), Keep.refl _, fun b o _ e => hkk b o (Heap.get?_push_of_some _ e), fun _ _ e => .inl e, fun b hb => ?_, fun b hb => ?_⟩, hns, fun n c hc => ?_, fun n c hc => ?_, fun p hp => absurd hp List.not_mem_nil, ?_⟩
    · rw [show b = (s.heap.push { cls := .type "tuple", data := .seq rest.toArray }).objs.size from by simpa [Xof, envOf] using hb]
      exact none_of_keep hB hL0
    · rw [show b = (s.heap.push { cls := .type "tuple", data := .seq rest.toArray }).objs.size from by simpa [Xof, envOf] using hb]
      obtain ⟨o, _, _, e, _⟩ := hns; exact ⟨o, e⟩
    · simp [envOf] at hc
    · simp [envOf] at hc
    · simp [Xof, envOf]
  have hT : h₁.get? s.heap.objs.size = some { cls := .type "tuple", data := .seq rest.toArray } := hkk _ _ (Heap.get?_push_size _ rfl)
  obtain ⟨B₁, hk1, hT1, F1⟩ := F0.take hT (none_of_ge (Nat.le_refl _)) (fun q => by
    have : s.heap.objs.size = (s.heap.push { cls := .type "tuple", data := .seq rest.toArray }).objs.size := by simpa [Xof, envOf] using q
    rw [Heap.size_push] at this; exact absurd this (Nat.ne_of_lt (Nat.lt_succ_self _)))
  show codeAny _ _ (.func d.body (envOf d.name d.scope (s.heap.push { cls := .type "tuple", data := .seq rest.toArray }).objs.size a cd)) _ _
  refine codeAny_func (wpAny_mono (h a cd h₁ _ _ s.heap.objs.size B₁ (F1.leave' hL0) hL0 ⟨_, hT1, rfl, _, rfl⟩ F1) (fun _ _ x => x) (fun _ _ x => x.elim))
end
end Mine

namespace Mine

theorem slen (l : List Nat) : (⟨l.toArray⟩ : Str).length = l.length := by simp [Str.length]
theorem join_split_l (y z : List Nat) (c : Nat) : Txt.join ⟨z.toArray⟩ (Txt.split ⟨y.toArray⟩ (one c)) = ⟨(sub1 y c z).toArray⟩ := by rw [join_split_one]
theorem PairsAre.cases {r : List Value} {qs : List (Nat × List Nat)} (h : PairsAre r qs) : (r = [] ∧ qs = []) ∨ ∃ tv tu r' c z qs', r = .str (one c) tv :: .str ⟨z.toArray⟩ tu :: r' ∧ qs = (c, z) :: qs' ∧ z.length ≤ 4 ∧ PairsAre r' qs' := by
  match r, qs, h with
  | [], [], _ => exact .inl ⟨rfl, rfl⟩
  | v :: u :: r', (c, z) :: qs', ⟨⟨tv, hv⟩, ⟨tu, hu⟩, hz, hP⟩ => subst hv hu; exact .inr ⟨tv, tu, r', c, z, qs', rfl, rfl, hz, hP⟩

section
variable {prog : Program} {w : World} {A : Around} {s : Shared} {mg mb : Str → Option Value} {B : Heap}
theorem replace_spec {f : Value} {x : List Nat} {t : Tok} {v1 v2 v3 v4 v5 v6 v7 v8 v9 v10 v11 v12 : Value} {ps : List (Nat × List Nat)} {Q : Value → Shared → Prop} {E : Value → Shared → Prop}
    (G : Gl mg mb B) (hB : Keep B s.heap) (hf : mg (Str.ofString "replace") = some f) (hA : A.handled = none) (hd : A.depth < recursionLimit)
    (hP : PairsAre [v1, v2, v3, v4, v5, v6, v7, v8, v9, v10, v11, v12] ps) (hx : x.length * 5 ^ ps.length ≤ 1000000)
    (hQ : ∀ B' h' tk' t', Grow B s.heap B' h' → Q (.str ⟨(subAll x ps).toArray⟩ t') { s with heap := h', toks := tk' }) :
    wpAny (model prog w) A (call f [.str ⟨x.toArray⟩ t, v1, v2, v3, v4, v5, v6, v7, v8, v9, v10, v11, v12]) Q E s := by
  refine enterV (List.mem_of_getElem? (show (PySem.defsOf PySem.Challenge.pw_pe0056_01)[3]? = some _ from rfl)) G hB hf hd (rest := [v1, v2, v3, v4, v5, v6, v7, v8, v9, v10, v11, v12]) (by simp)
    (binds := fun v => [(Str.ofString "text", .str ⟨x.toArray⟩ t), (Str.ofString "pairs", v)]) (fun _ _ _ => rfl) fun a cd h₁ tk L T B₁ g hL hT F => ?_
  dsimp only at F ⊢
  generalize hrest : [v1, v2, v3, v4, v5, v6, v7, v8, v9, v10, v11, v12] = rest at hP hT F ⊢
  have hlen : rest.length ≤ 1000 := by rw [← hrest]; simp
  refine wpAny_execs_cons (wpAny_While ?_)
  refine codeAny_whileLoop (fun n s' => ∃ B₂ h₂ m₂ tk₂ y r qs T' t', s' = { s with heap := h₂, toks := tk₂ } ∧ Fx (envOf (Str.ofString "replace") _ L a cd) [] B s.heap B₂ h₂ m₂ (fun _ => none) [] ∧
      m₂ (Str.ofString "text") = some (.str ⟨y.toArray⟩ t') ∧ m₂ (Str.ofString "pairs") = some (.ref T') ∧ IsTup B₂ T' r.toArray ∧ r.length ≤ 1000 ∧ PairsAre r qs ∧ y.length * 5 ^ qs.length ≤ 1000000 ∧ subAll y qs = subAll x ps ∧ n = qs.length) ?_ ps.length
    ⟨B₁, h₁, _, tk, x, rest, ps, T, t, rfl, F, rfl, rfl, hT, hlen, hP, hx, rfl, rfl⟩
  rintro n s' ⟨B₂, h₂, m₂, tk₂, y, r, qs, T', t', rfl, F, hm1, hm2, hT', hr, hP', hy, hsub, rfl⟩
  have hT2 : IsTup h₂ T' r.toArray := by obtain ⟨o, e, q⟩ := hT'; exact ⟨o, F.keep _ _ e, q⟩
  refine isTrue_plain (nmL F hm2 (truthy_tuple hT2 (by rw [List.size_toArray]; omega) ?_))
  rcases hP'.cases with ⟨rfl, rfl⟩ | ⟨tv, tu, r', c, z, qs', rfl, rfl, hz, hP''⟩
  · simp only [List.isEmpty_toArray, List.isEmpty_nil, Bool.not_true, Bool.false_eq_true, if_false]
    refine wpAny_execs_nil ?_
    refine wpAny_execs_cons (wpAny_Return_some (nmL (s := { s with heap := h₂, toks := _ }) F hm1 ?_))
    have hfin : y = subAll x ps := hsub
    subst hfin
    exact hQ _ _ _ _ (F.leave' hL)
  · simp only [List.isEmpty_toArray, List.isEmpty_cons, Bool.not_false, if_true]
    have hy1 : y.length ≤ 1000000 := by
      have : 1 ≤ 5 ^ ((c, z) :: qs').length := Nat.one_le_pow _ _ (by decide)
      calc y.length = y.length * 1 := (Nat.mul_one _).symm
        _ ≤ _ := Nat.mul_le_mul_left _ this
        _ ≤ _ := hy
    refine wpAny_execs_cons (wpAny_Assign_Name ?_)
    refine MethodCall_ ?_
    refine Ev.here (V := (· = .str ⟨z.toArray⟩ tu)) (ev_item_tup (ev_loc F hm2) ev_int hT2 (by decide) (by decide) rfl) fun v3 h3 tk3 k3 hv3 => ?_
    subst hv3
    refine PySem.GM.join ?_
    refine PyProof.Rows.callWith_method1 (args_cons ?_)
    have F3 := F.step k3
    refine MethodCall_ (nmL (s := { s with heap := h3, toks := tk3 }) F3 hm1 ?_)
    refine PySem.GM.split ?_
    refine PyProof.Rows.callWith_method1 (args_cons ?_)
    have hT3 : IsTup h3 T' (Value.str (one c) tv :: Value.str ⟨z.toArray⟩ tu :: r').toArray := by obtain ⟨o, e, q⟩ := hT2; exact ⟨o, k3 _ _ e, q⟩
    refine Ev.here (V := (· = .str (one c) tv)) (ev_item_tup (s := { s with heap := h3, toks := tk3 }) (ev_loc F3 hm2) ev_int hT3 (by decide) (by decide) rfl) fun v4 h4 tk4 k4 hv4 => ?_
    subst hv4
    refine args_nil ?_
    refine call_split (s := { s with heap := h4, toks := tk4 }) (by rw [slen]; exact hy1) fun D l h5 tk5 hl k5 hL5 => ?_
    refine args_nil ?_
    refine PySem.SC.join hL5 hl (split_joinOk _ _ _ (by rw [slen]; exact hy1) (by rw [slen]; exact hz)) fun t6 tk6 => ?_
    rw [join_split_l]
    have F6 := F3.step (k4.trans k5)
    refine stL (s := { s with heap := h5, toks := tk6 }) F6 fun h7 F7 => ?_
    dsimp only
    refine wpAny_execs_cons (wpAny_Assign_Name ?_)
    have hT7 : IsTup h7 T' (Value.str (one c) tv :: Value.str ⟨z.toArray⟩ tu :: r').toArray := by obtain ⟨o, e, q⟩ := hT'; exact ⟨o, F7.keep _ _ e, q⟩
    refine ev_tail (s := { s with heap := h7, toks := _ }) (ev_loc F7 hm2) hT7 (by simp) (by simpa using hr) fun h8 tk8 k8 hn8 => ?_
    have F8 := (F7.step k8).push { cls := .type "tuple", data := .seq r'.toArray }
    obtain ⟨B9, k9, hT9, F9⟩ := F8.take (Heap.get?_push_size _ rfl) (F7.srcI (s := { s with heap := h7, toks := tk6 }) hn8).2.1 (F7.srcI (s := { s with heap := h7, toks := tk6 }) hn8).2.2.1
    refine stL (s := { s with heap := _, toks := _ }) F9 fun h10 F10 => wpAny_execs_nil ?_
    refine ⟨qs'.length, by simp, B9, h10, _, _, sub1 y c z, r', qs', _, t6, rfl, F10, ?_, rfl, ⟨_, hT9, rfl, _, rfl⟩, by simp at hr; omega, hP'', ?_, hsub, rfl⟩
    · rfl
    · have h1 := sub1_length c z y
      have h2 : y.length * (z.length + 1) ≤ y.length * 5 := Nat.mul_le_mul_left _ (by omega)
      have h3 : (sub1 y c z).length * 5 ^ qs'.length ≤ (y.length * 5) * 5 ^ qs'.length := Nat.mul_le_mul_right _ (Nat.le_trans h1 h2)
      have h4 : (y.length * 5) * 5 ^ qs'.length = y.length * 5 ^ ((c, z) :: qs').length := by
        rw [List.length_cons, Nat.pow_succ, Nat.mul_assoc, Nat.mul_comm (5 ^ qs'.length) 5]
      omega
end
end Mine

namespace Mine

/-! letters and their words -/
def Ltr (c : Nat) : Prop := c = 97 ∨ c = 98 ∨ c = 99
def Ltrs (u : List Nat) : Prop := ∀ c ∈ u, Ltr c
structure Words where
  a : List Nat
  b : List Nat
  c : List Nat
def Words.at (W : Words) (l : Nat) : List Nat := if l = 97 then W.a else if l = 98 then W.b else W.c
structure Words.Ok (W : Words) (n : Nat) : Prop where
  ltrs : ∀ l, Ltrs (W.at l)
  len : ∀ l, (W.at l).length = n
def grow (W : Words) (u : List Nat) : List Nat := u.flatMap W.at
def growN (W : Words) : Nat → List Nat → List Nat
  | 0, u => u
  | n + 1, u => grow W (growN W n u)
def up (u : List Nat) : List Nat := u.map (· - 32)
theorem Words.Ok.grow {W : Words} {n : Nat} (h : W.Ok n) {u : List Nat} : Ltrs (grow W u) := fun c hc => by
  obtain ⟨l, _, hl⟩ := List.mem_flatMap.mp hc
  exact h.ltrs l c hl
theorem Words.Ok.growN {W : Words} {n : Nat} (h : W.Ok n) {u : List Nat} (hu : Ltrs u) : ∀ k, Ltrs (growN W k u)
  | 0 => hu
  | k + 1 => h.grow
theorem grow_length {W : Words} {n : Nat} (h : W.Ok n) : ∀ u : List Nat, (grow W u).length = u.length * n
  | [] => by simp [grow]
  | c :: u => by
    have ih := grow_length h u
    have : (grow W (c :: u)).length = (W.at c).length + (grow W u).length := by simp [grow]
    rw [this, ih, h.len, List.length_cons, Nat.succ_mul]; omega
theorem growN_length {W : Words} {n : Nat} (h : W.Ok n) (u : List Nat) : ∀ k, (growN W k u).length = u.length * n ^ k
  | 0 => by simp [Mine.growN]
  | k + 1 => by rw [Mine.growN, grow_length h, growN_length h u k, Nat.pow_succ, Nat.mul_assoc]

theorem upper_ltrs {u : List Nat} (h : Ltrs u) : Txt.upper ⟨u.toArray⟩ = ⟨(up u).toArray⟩ := by
  unfold Txt.upper
  rw [PyProof.Rows.placed_single (g := (· - 32))]
  · simp [up]
  · intro i c hc
    have hc' : Ltr c := h c (List.mem_of_getElem? (by simpa using hc))
    rcases hc' with rfl | rfl | rfl <;> decide +kernel

/-- the six swaps of _law_grown -/
def swaps (W : Words) : List (Nat × List Nat) := [(97, up W.a), (98, up W.b), (99, up W.c), (65, [97]), (66, [98]), (67, [99])]
theorem subAll_append (ps : List (Nat × List Nat)) : ∀ x y : List Nat, subAll (x ++ y) ps = subAll x ps ++ subAll y ps := by
  induction ps with
  | nil => intro x y; rfl
  | cons p ps ih => intro x y; obtain ⟨c, z⟩ := p; show subAll (sub1 (x ++ y) c z) ps = _; rw [sub1_append, ih]; rfl
theorem subAll_nil (ps : List (Nat × List Nat)) : subAll [] ps = [] := by
  induction ps with
  | nil => rfl
  | cons p ps ih => obtain ⟨c, z⟩ := p; exact ih
/-- capital letters go back -/
theorem caps_back : ∀ {w : List Nat}, Ltrs w → subAll (up w) [(65, [97]), (66, [98]), (67, [99])] = w
  | [], _ => subAll_nil _
  | c :: w, h => by
    have ih := caps_back (w := w) fun d hd => h d (List.mem_cons_of_mem _ hd)
    have e : up (c :: w) = [c - 32] ++ up w := rfl
    rw [e, subAll_append, ih]
    rcases h c (List.mem_cons_self ..) with rfl | rfl | rfl <;> rfl
theorem caps_free {w : List Nat} (h : Ltrs w) {c : Nat} (hc : 97 ≤ c) : c ∉ up w := by
  intro hm
  obtain ⟨d, hd, rfl⟩ := List.mem_map.mp hm
  rcases h d hd with rfl | rfl | rfl <;> omega
theorem swaps_one {W : Words} {n : Nat} (h : W.Ok n) {c : Nat} (hc : Ltr c) : subAll [c] (swaps W) = W.at c := by
  have ha : Ltrs W.a := by simpa [Words.at] using h.ltrs 97
  have hb : Ltrs W.b := by simpa [Words.at] using h.ltrs 98
  have hcc : Ltrs W.c := by simpa [Words.at] using h.ltrs 99
  unfold swaps
  rcases hc with rfl | rfl | rfl
  · have e1 : sub1 [97] 97 (up W.a) = up W.a := by simp [sub1]
    show subAll (sub1 (sub1 (sub1 [97] 97 (up W.a)) 98 (up W.b)) 99 (up W.c)) _ = _
    rw [e1, sub1_free 98 _ _ (caps_free ha (by decide)), sub1_free 99 _ _ (caps_free ha (by decide)), caps_back ha]; rfl
  · have e1 : sub1 [98] 97 (up W.a) = [98] := by simp [sub1]
    have e2 : sub1 [98] 98 (up W.b) = up W.b := by simp [sub1]
    show subAll (sub1 (sub1 (sub1 [98] 97 (up W.a)) 98 (up W.b)) 99 (up W.c)) _ = _
    rw [e1, e2, sub1_free 99 _ _ (caps_free hb (by decide)), caps_back hb]; rfl
  · have e1 : sub1 [99] 97 (up W.a) = [99] := by simp [sub1]
    have e2 : sub1 [99] 98 (up W.b) = [99] := by simp [sub1]
    have e3 : sub1 [99] 99 (up W.c) = up W.c := by simp [sub1]
    show subAll (sub1 (sub1 (sub1 [99] 97 (up W.a)) 98 (up W.b)) 99 (up W.c)) _ = _
    rw [e1, e2, e3, caps_back hcc]; rfl
theorem swaps_grow {W : Words} {n : Nat} (h : W.Ok n) : ∀ {u : List Nat}, Ltrs u → subAll u (swaps W) = grow W u
  | [], _ => subAll_nil _
  | c :: u, hu => by
    have ih := swaps_grow h (u := u) fun d hd => hu d (List.mem_cons_of_mem _ hd)
    rw [show c :: u = [c] ++ u from rfl, subAll_append, ih, swaps_one h (hu c (List.mem_cons_self ..))]
    simp [grow]

section
variable {prog : Program} {w : World} {A : Around} {s : Shared} {env : Env} {own : List Addr} {B₀ h₀ B : Heap} {m cm mg mb : Str → Option Value} {pins : List (Addr × Obj)}

/-- a call of one of the text's defs -/
theorem call_own {E : Value → Shared → Prop} {d : DefRec} {np pos : Pos} {e : Expr} {rest : List Expr} {Q : Value → Shared → Prop} (hm : d ∈ PySem.defsOf PySem.Challenge.pw_pe0056_01) (G : Gl mg mb B) (F : Fx env own B₀ h₀ B s.heap m cm pins)
    (h : ∀ f, mg d.name = some f → wpAny (model prog w) A (spliced (backTo pos (starEach (e :: rest) env))) (fun vs s₁ => Keep B s₁.heap ∧ wpAny (model prog w) A (call f vs) Q E s₁) E s)
    (hg : env.globals = mainGlobals := by rfl) (hk : env.scope.kind = .function := by rfl) (hl : env.kindOf d.name = some .globalImplicit := by rfl) (hd : (d.name == ("__debug__" : Str)) = false := by decide)
    (hse : starEach (e :: rest) env = (false, eval e env) :: starEach rest env := by rfl)
    (hcall : eval (.Call (.Name d.name np) (e :: rest) [] pos) env = (do callWith pos (← eval (.Name d.name np) env) [] (backTo pos (starEach (e :: rest) env)) (backToKw pos (keywordEach [] env))) := by rfl) :
    wpAny (model prog w) A (eval (.Call (.Name d.name np) (e :: rest) [] pos) env) Q E s := by
  obtain ⟨a, o, pm, cd, doc, hmg, ho, hdat, hcd⟩ := G.fn d hm
  refine Call_ (nmG F G hmg ?_ hg hk hl hd) hcall
  refine callWith_def hdat (wpAny_mono (h _ hmg) (fun vs s₁ ⟨k, h1⟩ => ⟨k _ _ ho, h1⟩) fun _ _ x => x) hse

/-- the arguments of a call, none of which turns anything -/
inductive ArgsEv (prog : Program) (w : World) (A : Around) (env : Env) (s : Shared) : List Expr → List (Value → Prop) → Prop
  | nil : ArgsEv prog w A env s [] []
  | cons {e : Expr} {es : List Expr} {V : Value → Prop} {Vs : List (Value → Prop)} : starEach (e :: es) env = (false, eval e env) :: starEach es env → Ev prog w A env s e V → ArgsEv prog w A env s es Vs → ArgsEv prog w A env s (e :: es) (V :: Vs)
inductive AllV : List (Value → Prop) → List Value → Prop
  | nil : AllV [] []
  | cons {V : Value → Prop} {Vs : List (Value → Prop)} {v : Value} {vs : List Value} : V v → AllV Vs vs → AllV (V :: Vs) (v :: vs)
theorem AllV.uncons {V : Value → Prop} {Vs : List (Value → Prop)} {vs : List Value} (h : AllV (V :: Vs) vs) : ∃ v vs', vs = v :: vs' ∧ V v ∧ AllV Vs vs' := by cases h with | cons a b => exact ⟨_, _, rfl, a, b⟩
theorem AllV.unnil {vs : List Value} (h : AllV [] vs) : vs = [] := by cases h; rfl
theorem args_ev' {E : Value → Shared → Prop} {pos : Pos} {es : List Expr} {Vs : List (Value → Prop)} (x : ArgsEv prog w A env s es Vs) : ∀ {Q : List Value → Shared → Prop} {h : Heap} {tk : Nat}, Keep s.heap h →
    (∀ vs h' tk', Keep h h' → AllV Vs vs → Q vs { s with heap := h', toks := tk' }) → wpAny (model prog w) A (spliced (backTo pos (starEach es env))) Q E { s with heap := h, toks := tk } := by
  induction x with
  | nil => intro Q h tk hk k; exact args_nil (k _ _ _ (Keep.refl _) .nil)
  | cons hse he _ ih =>
    intro Q h tk hk k
    exact args_cons (he _ _ _ _ hk fun v h1 t1 k1 hv => ih (hk.trans k1) fun vs h2 t2 k2 hvs => k _ _ _ (k1.trans k2) (.cons hv hvs)) hse
theorem args_ev {E : Value → Shared → Prop} {pos : Pos} {es : List Expr} {Vs : List (Value → Prop)} {Q : List Value → Shared → Prop} (x : ArgsEv prog w A env s es Vs)
    (k : ∀ vs h' tk', Keep s.heap h' → AllV Vs vs → Q vs { s with heap := h', toks := tk' }) : wpAny (model prog w) A (spliced (backTo pos (starEach es env))) Q E s := args_ev' x (h := s.heap) (tk := s.toks) (Keep.refl _) k

theorem ev_upper {o : Expr} {apos pos : Pos} {u : List Nat} {pl : Sem Bool} (ho : Ev prog w A env s o (IsS ⟨u.toArray⟩)) (hu : Ltrs u) (hlen : u.length ≤ 1000)
    (he : eval (.Call (.Attribute o (Str.ofString "upper") apos) [] [] pos) env = (do
      let ov ← eval o env
      standAt apos.atName
      let (f, first) ← holding [ov] (getMethod ov (Str.ofString "upper") pl)
      callWith pos f first (backTo pos (starEach [] env)) []) := by rfl) :
    Ev prog w A env s (.Call (.Attribute o (Str.ofString "upper") apos) [] [] pos) (IsS ⟨(up u).toArray⟩) := fun Q' E hp tk hk k => by
  refine MethodCall_ (ho _ _ _ _ hk fun v h1 t1 k1 hv => ?_) he
  obtain ⟨t, rfl⟩ := hv
  refine PySem.GM.upper ?_
  refine PyProof.Rows.callWith_method0 ?_
  have e := upper_ltrs hu
  refine PySem.SC.upper (by rw [e, slen]; simp only [Builtin.Str.tooLong, decide_eq_false_iff_not, sizeLine_eq, up, List.length_map]; omega) ?_
  rw [e]
  exact k _ _ _ k1 ⟨_, rfl⟩

/-- the dict of the three words -/
def WordsAt (prog : Program) (w : World) (B : Heap) (v : Value) (W : Words) : Prop := ∃ d kvs, v = .ref d ∧ B.DictOf (strKind prog w) d kvs ∧ ∀ l, Ltr l → ∃ t, valueAt kvs (one l) = some (.str ⟨(W.at l).toArray⟩ t)
theorem WordsAt.keep {B B' : Heap} {v : Value} {W : Words} (x : WordsAt prog w B v W) (k : Keep B B') : WordsAt prog w B' v W := let ⟨d, kvs, h1, h2, h3⟩ := x; ⟨d, kvs, h1, h2.keep k, h3⟩
end

section
variable {prog : Program} {w : World} {A : Around} {s : Shared} {mg mb : Str → Option Value} {B : Heap}
theorem grown_spec {f vw : Value} {x : List Nat} {t u : Tok} {W : Words} {n r : Nat} {Q : Value → Shared → Prop} {E : Value → Shared → Prop}
    (G : Gl mg mb B) (hB : Keep B s.heap) (hf : mg (Str.ofString "_law_grown") = some f) (hA : A.handled = none) (hd : A.depth + 1 < recursionLimit)
    (hW : WordsAt prog w B vw W) (hWo : W.Ok n) (hn : n ≤ 4) (hx : Ltrs x) (hlen : ∀ i, i < r → (growN W i x).length ≤ 64) (hr : r ≤ 100)
    (hQ : ∀ B' h' tk' t', Grow B s.heap B' h' → Q (.str ⟨(growN W r x).toArray⟩ t') { s with heap := h', toks := tk' }) :
    wpAny (model prog w) A (call f [.str ⟨x.toArray⟩ t, vw, .int r u]) Q E s := by
  obtain ⟨dw, kvs, rfl, hdw, hval⟩ := hW
  refine enter (List.mem_of_getElem? (show (PySem.defsOf PySem.Challenge.pw_pe0056_01)[5]? = some _ from rfl)) G hB hf (by omega) (binds := [(Str.ofString "row", .str ⟨x.toArray⟩ t), (Str.ofString "words", .ref dw), (Str.ofString "rounds", .int r u)]) (fun _ _ _ => rfl) fun a cd h₁ tk F => ?_
  dsimp only at F ⊢
  refine wpAny_execs_cons ?_
  refine for_src F (src_range hA F G (ev_locI F rfl) rfl (by omega)) (fun i B' m' pins' => m' (Str.ofString "words") = some (.ref dw) ∧ ∃ t', m' (Str.ofString "row") = some (.str ⟨(growN W i x).toArray⟩ t')) ⟨rfl, t, rfl⟩ ?_ ?_
  · rintro i v B₁ h₂ m₁ pins₁ tk₁ hi ⟨ti, rfl⟩ ⟨hm1, t', hm2⟩ hBB hpn F
    have G1 := G.keeps hBB
    refine wpAny_execs_cons (wpAny_Assign_Name ?_)
    refine call_own (List.mem_of_getElem? (show (PySem.defsOf PySem.Challenge.pw_pe0056_01)[3]? = some _ from rfl)) G1 F fun fr hfr => ?_
    have hdw2 : h₂.DictOf (strKind prog w) dw kvs := hdw.keep (hBB.trans F.keep)
    obtain ⟨ta, hva⟩ := hval 97 (.inl rfl)
    obtain ⟨tb, hvb⟩ := hval 98 (.inr (.inl rfl))
    obtain ⟨tc, hvc⟩ := hval 99 (.inr (.inr rfl))
    rw [show one 97 = Str.ofString "a" by decide] at hva
    rw [show one 98 = Str.ofString "b" by decide] at hvb
    rw [show one 99 = Str.ofString "c" by decide] at hvc
    have la : Ltrs W.a ∧ W.a.length = n := ⟨by simpa [Words.at] using hWo.ltrs 97, by simpa [Words.at] using hWo.len 97⟩
    have lb : Ltrs W.b ∧ W.b.length = n := ⟨by simpa [Words.at] using hWo.ltrs 98, by simpa [Words.at] using hWo.len 98⟩
    have lc : Ltrs W.c ∧ W.c.length = n := ⟨by simpa [Words.at] using hWo.ltrs 99, by simpa [Words.at] using hWo.len 99⟩
    have evw := fun (pos : Pos) (A' : Around) => ev_loc (prog := prog) (w := w) (A := A') (pos := pos) (x := Str.ofString "words") (v := .ref dw) (s := { s with heap := h₂, toks := tk₁ }) F hm1
    refine args_ev (.cons rfl (ev_locS F hm2) (.cons rfl ev_str (.cons rfl (ev_upper (u := W.a) ((ev_item_dict (evw _ _) ev_str hdw2 hva).mono fun _ e => ⟨ta, e⟩) la.1 (by omega)) (.cons rfl ev_str (.cons rfl (ev_upper (u := W.b) ((ev_item_dict (evw _ _) ev_str hdw2 hvb).mono fun _ e => ⟨tb, e⟩) lb.1 (by omega))
      (.cons rfl ev_str (.cons rfl (ev_upper (u := W.c) ((ev_item_dict (evw _ _) ev_str hdw2 hvc).mono fun _ e => ⟨tc, e⟩) lc.1 (by omega)) (.cons rfl ev_str (.cons rfl ev_str (.cons rfl ev_str (.cons rfl ev_str (.cons rfl ev_str (.cons rfl ev_str .nil))))))))))))) fun vs h3 tk3 k3 hvs => ?_
    obtain ⟨w0, vs0, rfl, ⟨t0, rfl⟩, hvs0⟩ := hvs.uncons
    obtain ⟨w1, vs1, rfl, h1, hvs1⟩ := hvs0.uncons
    obtain ⟨w2, vs2, rfl, h2, hvs2⟩ := hvs1.uncons
    obtain ⟨w3, vs3, rfl, h3', hvs3⟩ := hvs2.uncons
    obtain ⟨w4, vs4, rfl, h4, hvs4⟩ := hvs3.uncons
    obtain ⟨w5, vs5, rfl, h5, hvs5⟩ := hvs4.uncons
    obtain ⟨w6, vs6, rfl, h6, hvs6⟩ := hvs5.uncons
    obtain ⟨w7, vs7, rfl, h7, hvs7⟩ := hvs6.uncons
    obtain ⟨w8, vs8, rfl, h8, hvs8⟩ := hvs7.uncons
    obtain ⟨w9, vs9, rfl, h9, hvs9⟩ := hvs8.uncons
    obtain ⟨w10, vs10, rfl, h10, hvs10⟩ := hvs9.uncons
    obtain ⟨w11, vs11, rfl, h11, hvs11⟩ := hvs10.uncons
    obtain ⟨w12, vs12, rfl, h12, hvs12⟩ := hvs11.uncons
    obtain rfl := hvs12.unnil
    have F3 := F.step k3
    refine ⟨F3.keep, ?_⟩
    have hul : ∀ l : List Nat, l.length = n → (up l).length ≤ 4 := fun l hl => by simp [up]; omega
    refine replace_spec (s := { s with heap := h3, toks := tk3 }) (ps := swaps W) G1 F3.keep hfr hA (by show A.depth + 1 < _; omega) ⟨h1, h2, hul _ la.2, h3', h4, hul _ lb.2, h5, h6, hul _ lc.2, h7, h8, by decide, h9, h10, by decide, h11, h12, by decide, trivial⟩ ?_ ?_
    · have := hlen i hi
      show _ * 5 ^ 6 ≤ _
      omega
    · intro B' h' tk' t'' g
      rw [swaps_grow hWo (hWo.growN hx i)]
      have F4 := F3.call g
      refine stL (s := { s with heap := h', toks := tk' }) F4 fun h5 F5 => wpAny_execs_nil ⟨rfl, B', h5, _, pins₁, _, rfl, hpn, F5, hm1, t'', rfl⟩
  · rintro B₂ h₄ m₂ pins₂ tk₂ ⟨hm1, t', hm2⟩ hBB hpn F
    refine wpAny_execs_cons (wpAny_Return_some (nmL (s := { s with heap := h₄, toks := tk₂ }) F hm2 ?_))
    exact hQ _ _ _ _ (F.leave hpn)
end
end Mine

namespace Mine

section
variable {prog : Program} {w : World} {A : Around} {s : Shared} {env : Env} {own : List Addr} {B₀ h₀ B : Heap} {m cm mg mb : Str → Option Value} {pins : List (Addr × Obj)}

theorem not_sys (G : Gl mg mb B) {h : Heap} (hk : Keep B h) {D : Addr} (hD : h.get? D = none) : (D == sysModules) = false := by
  obtain ⟨o, e⟩ := G.low sysModules (.inr (.inr rfl))
  cases q : D == sysModules with
  | false => rfl
  | true => rw [beq_iff_eq.mp q, hk _ _ e] at hD; cases hD

/-- a display of one pair: a str and an int -/
theorem dict_one {E : Value → Shared → Prop} {k v : Expr} {pos : Pos} {x : Str} {n : Int} {Q : Value → Shared → Prop} (F : Fx env own B₀ h₀ B s.heap m cm pins) (G : Gl mg mb B) (hk : Ev prog w A env s k (IsS x)) (hv : Ev prog w A env s v (IsI n))
    (h : ∀ D B' h' tk', Fx env own B₀ h₀ B' h' m cm pins → Keep B B' → Tab prog w B' (.ref D) [(x, n)] → Q (.ref D) { s with heap := h', toks := tk' }) : wpAny (model prog w) A (eval (.Dict [some k] [v] pos) env) Q E s := by
  refine wpAny_Dict_walk (knd := strKind prog w) rfl rfl (by simp) (by simp) ?_
  have hD0 : s.heap.get? s.heap.objs.size = none := none_of_ge (Nat.le_refl _)
  refine pairTrees_cons_walk (hk _ _ (s.heap.push { cls := .type "dict", data := .dict #[] }) _ (Keep.push _ _) fun kv h1 t1 k1 hkv => hv _ _ _ _ ((Keep.push _ _).trans k1) fun vv h2 t2 k2 hvv => pairTrees_nil_walk ?_)
  obtain ⟨tk0, rfl⟩ := hkv
  obtain ⟨tv0, rfl⟩ := hvv
  refine display_done_str rfl (by simp [strPairs]) ((Heap.DictOf.new s.heap).keep (k1.trans k2)) fun h' hd hs => ?_
  have hk' : Keep s.heap h' := fun b o e => hs.extBut b o (Nat.ne_of_lt (Heap.lt_size e)) (k2 _ _ (k1 _ _ (Heap.get?_push_of_some _ e)))
  obtain ⟨od, hod, hisd⟩ := Heap.dictOf_iff.mp hd
  obtain ⟨B', kB, hB', F'⟩ := (F.step hk').take hod (F.srcI hD0).2.1 (F.srcI hD0).2.2.1
  exact h _ B' h' _ F' kB ⟨_, od, rfl, not_sys G F.keep hD0, hB', [(x, n, tv0)], hisd, rfl⟩

/-- name.append(e), the list pinned in front -/
theorem append_pin {E : Value → Shared → Prop} {L : Addr} {items : Array Value} {k : Nat} {y : Str} {yp apos cpos epos : Pos} {e : Expr} {v : Value} {Q : Flow → Shared → Prop} (F : Fx env own B₀ h₀ B s.heap m cm ((L, { cls := .type "list", data := .seq items k }) :: pins))
    (hy : m y = some (.ref L)) (he : Ev prog w A env s e (· = v)) (hsz : items.size ≤ 1000)
    (h : ∀ h' k' tk', Fx env own B₀ h₀ B h' m cm ((L, { cls := .type "list", data := .seq (items.push v) k' }) :: pins) → Q .next { s with heap := h', toks := tk' })
    (hi : interactive env = false := by rfl) (hs : swapsWith (.Call (.Attribute (.Name y yp) (Str.ofString "append") apos) [e] [] cpos) none epos.line env = pure false := by rfl)
    (hbase : attributeBase (.Name y yp) (Str.ofString "append") env (eval (.Name y yp) env) = eval (.Name y yp) env := by rfl)
    (hfew : ((backTo cpos (starEach [e] env)).all (fun x => !x.1) && (backToKw cpos (keywordEach [] env)).all (fun x => x.1.isSome)
      && decide (([e] : List Expr).length + ([] : List Keyword).length + (if ([] : List Keyword).isEmpty then 0 else 1) < 30)) = true := by rfl)
    (hline : (apos.endLine == cpos.line) = true := by rfl)
    (hse : starEach [e] env = (false, eval e env) :: starEach [] env := by rfl)
    (hk : env.scope.kind = .function := by rfl) (hl : env.kindOf y = some .local := by rfl) (hd : (y == ("__debug__" : Str)) = false := by decide) :
    wpAny (model prog w) A (exec (.Expr (.Call (.Attribute (.Name y yp) (Str.ofString "append") apos) [e] [] cpos) epos) env) Q E s := by
  refine wpAny_Expr ?_ hi hs
  refine wpAny_Call_method (T := "list") (id := "list.append") hbase hfew hline PySem.F.plainAttrs_list PySem.F.slot_list_append PySem.F.type_list_append (nmL F hy ⟨⟨_, F.pin_get, rfl⟩, fun a ha => ?_, ?_⟩ hk hl hd)
  · cases ha; exact ⟨_, F.pin_get, rfl⟩
  · refine PyProof.Rows.callWith_method1 (args_cons (he.here fun v' h1 t1 k1 hv' => args_nil ?_) hse) hse rfl
    subst hv'
    have F1 := F.step k1
    refine wpAny_list_append_plain (items := items) ⟨k, F1.pin_get⟩ (fun h2 ⟨k2, hl2⟩ hs2 => ?_) (by rw [sizeLine_eq]; omega)
    exact h h2 k2 _ (F1.setPin hl2 hs2)

/-- d[k] = v, the dict pinned in front -/
theorem set_pinV {E : Value → Shared → Prop} {D : Addr} {o : Obj} {kvs : List (Str × Value)} {x : Str} {t : Tok} {v : Value} {Q : Unit → Shared → Prop} (F : Fx env own B₀ h₀ B s.heap m cm ((D, o) :: pins)) (hT : o.IsDictOf (strKind prog w) kvs) (hlen : kvs.length ≤ 1000)
    (h : ∀ h' o', Fx env own B₀ h₀ B h' m cm ((D, o') :: pins) → o'.IsDictOf (strKind prog w) (stored kvs x v) → Q () { s with heap := h', toks := s.toks + 1 }) :
    wpAny (model prog w) A (setItem (.ref D) (.str x t) v) Q E s := by
  refine wpAny_setItem_pairs (strKind_is prog w x t) (Heap.dictOf_iff.mpr ⟨o, F.pin_get, hT⟩) (fun h' hd' hs' => ?_) (by rw [sizeLine_eq]; omega)
  obtain ⟨o', ho', hv'⟩ := Heap.dictOf_iff.mp hd'
  exact h h' o' (F.setPin ho' hs') hv'

/-- a table for each letter -/
def LedAt (prog : Program) (w : World) (B : Heap) (v : Value) (T : Nat → List (Str × Int)) : Prop := ∃ d kvs, v = .ref d ∧ B.DictOf (strKind prog w) d kvs ∧ ∀ l, Ltr l → ∃ v', valueAt kvs (one l) = some v' ∧ Tab prog w B v' (T l)
theorem LedAt.keep {B B' : Heap} {v : Value} {T : Nat → List (Str × Int)} (x : LedAt prog w B v T) (k : Keep B B') : LedAt prog w B' v T :=
  let ⟨d, kvs, h1, h2, h3⟩ := x; ⟨d, kvs, h1, h2.keep k, fun l hl => let ⟨v', a, b⟩ := h3 l hl; ⟨v', a, b.keep k⟩⟩
/-- letters done so far: abc.take j -/
def abc : List Nat := [97, 98, 99]
def Part (prog : Program) (w : World) (B : Heap) (kvs : List (Str × Value)) (T : Nat → List (Str × Int)) (j : Nat) : Prop := kvs.length ≤ j ∧ ∀ l, l ∈ abc.take j → ∃ v', valueAt kvs (one l) = some v' ∧ Tab prog w B v' (T l)
theorem Part.keep {B B' : Heap} {kvs : List (Str × Value)} {T : Nat → List (Str × Int)} {j : Nat} (x : Part prog w B kvs T j) (k : Keep B B') : Part prog w B' kvs T j := ⟨x.1, fun l hl => let ⟨v', a, b⟩ := x.2 l hl; ⟨v', a, b.keep k⟩⟩
theorem valueAt_stored {kvs : List (Str × Value)} {x y : Str} {v : Value} : valueAt (stored kvs x v) y = if y = x then some v else valueAt kvs y := by
  unfold stored valueAt
  by_cases hany : (kvs.any fun kv => decide (kv.1 = x)) = true
  · rw [if_pos hany, List.find?_map]
    have e : ((fun kv : Str × Value => decide (kv.1 = y)) ∘ fun kv => if kv.1 = x then (kv.1, v) else kv) = fun kv => decide (kv.1 = y) := by
      funext kv
      by_cases h : kv.1 = x <;> simp [h]
    rw [e]
    by_cases hy : y = x
    · subst hy
      rw [if_pos rfl]
      cases hf : kvs.find? (fun kv => decide (kv.1 = y)) with
      | none =>
        obtain ⟨p, hp, hq⟩ := List.any_eq_true.mp hany
        exact absurd hq (List.find?_eq_none.mp hf p hp)
      | some p =>
        have hp : p.1 = y := by simpa using List.find?_some hf
        simp [hp]
    · rw [if_neg hy]
      cases hf : kvs.find? (fun kv => decide (kv.1 = y)) with
      | none => rfl
      | some p =>
        have hp : p.1 = y := by simpa using List.find?_some hf
        simp [hp, hy]
  · rw [if_neg hany, List.find?_append]
    by_cases hy : y = x
    · subst hy
      have : kvs.find? (fun kv => decide (kv.1 = y)) = none := by
        rw [List.find?_eq_none]
        intro p hp hq
        exact hany (List.any_eq_true.mpr ⟨p, hp, hq⟩)
      rw [this]; simp
    · rw [if_neg hy]
      cases kvs.find? (fun kv => decide (kv.1 = y)) with
      | some p => rfl
      | none =>
        have : ¬ x = y := fun e => hy e.symm
        simp [this]
theorem Part.store {kvs : List (Str × Value)} {T : Nat → List (Str × Int)} {j l : Nat} {v : Value} (x : Part prog w B kvs T j) (hl : abc[j]? = some l) (hv : Tab prog w B v (T l)) : Part prog w B (stored kvs (one l) v) T (j + 1) := by
  refine ⟨Nat.le_trans (stored_length_le ..) (Nat.succ_le_succ x.1), fun l' hl' => ?_⟩
  rw [valueAt_stored]
  by_cases h : one l' = one l
  · have : l' = l := by simpa [one] using h
    subst this
    exact ⟨v, by simp, hv⟩
  · rw [if_neg h]
    rw [List.take_add_one, hl] at hl'
    rcases List.mem_append.mp hl' with q | q
    · exact x.2 l' q
    · have : l' = l := by simpa using q
      exact absurd (by rw [this]) h
theorem Part.whole {kvs : List (Str × Value)} {T : Nat → List (Str × Int)} {d : Addr} (x : Part prog w B kvs T 3) (hd : B.DictOf (strKind prog w) d kvs) : LedAt prog w B (.ref d) T :=
  ⟨d, kvs, rfl, hd, fun l hl => x.2 l (by rcases hl with rfl | rfl | rfl <;> decide)⟩
end
end Mine

namespace Mine

/-- the tables of a row of letters, put together behind t -/
def mergeAll (T : Nat → List (Str × Int)) (u : List Nat) (t : List (Str × Int)) : List (Str × Int) := u.foldl (fun tab c => merge tab (T c)) t
def led (W : Words) : Nat → Nat → List (Str × Int)
  | 0, l => [(one l, 1)]
  | t + 1, l => mergeAll (led W t) (W.at l) []
theorem mergeAll_len {T : Nat → List (Str × Int)} {K : Nat} : ∀ {u : List Nat} {t : List (Str × Int)}, (∀ c ∈ u, (T c).length ≤ K) → (mergeAll T u t).length ≤ t.length + u.length * K
  | [], t, _ => by simp [mergeAll]
  | c :: u, t, h => by
    have h1 := mergeAll_len (T := T) (u := u) (t := merge t (T c)) fun d hd => h d (List.mem_cons_of_mem _ hd)
    have h2 := merge_length (T c) t
    have h3 := h c (List.mem_cons_self ..)
    have : mergeAll T (c :: u) t = mergeAll T u (merge t (T c)) := rfl
    rw [this, List.length_cons, Nat.succ_mul]; omega
theorem led_len {W : Words} {n : Nat} (h : W.Ok n) : ∀ t l, (led W t l).length ≤ n ^ t
  | 0, l => by simp [led]
  | t + 1, l => by
    have := mergeAll_len (T := led W t) (K := n ^ t) (u := W.at l) (t := []) fun c _ => led_len h t c
    rw [h.len] at this
    rw [led, Nat.pow_succ, Nat.mul_comm]; simpa using this

section
variable {prog : Program} {w : World} {A : Around} {s : Shared} {env : Env} {own : List Addr} {B₀ h₀ B : Heap} {m cm mg mb : Str → Option Value} {pins : List (Addr × Obj)}

/-- for sign in ..: table = add_callers(table, ledgers[y][sign]) -/
theorem row_loop {E : Value → Shared → Prop} {Q : Flow → Shared → Prop} {iter : Expr} {y : Str} {u : List Nat} {LL : Addr} {items : List Value} {Lv tv : Value} {T : Nat → List (Str × Int)} {t0 : List (Str × Int)} {k K : Nat} {tk0 : Tok} {p1 p2 p3 p4 p5 p6 p7 p8 p9 p10 p11 p12 : Pos}
    (hA : A.handled = none) (hd : A.depth < recursionLimit) (G : Gl mg mb B) (F : Fx env own B₀ h₀ B s.heap m cm pins)
    (hit : Ev prog w A env s iter (IsS ⟨u.toArray⟩)) (hu : Ltrs u) (hul : u.length ≤ 1000)
    (hlist : ∀ B₀ h₀ B₁ h' m', Keep B B₁ → Fx env own B₀ h₀ B₁ h' m' cm pins → h'.IsList LL items.toArray)
    (hmL : m (Str.ofString "ledgers") = some (.ref LL)) (hmy : m y = some (.int k tk0)) (hk1 : k < 1000) (hik : items[k]? = some Lv) (hLv : LedAt prog w B Lv T)
    (hmt : m (Str.ofString "table") = some tv) (htv : Tab prog w B tv t0) (hK : ∀ c ∈ u, (T c).length ≤ K) (hlen : t0.length + u.length * K ≤ 900) (hK9 : K ≤ 100)
    (hyt : y ≠ Str.ofString "table") (hys : y ≠ Str.ofString "sign")
    (done : ∀ B' h' m' tk' tv', Keep B B' → m' (Str.ofString "table") = some tv' → Tab prog w B' tv' (mergeAll T u t0) → (∀ z, z ≠ Str.ofString "table" → z ≠ Str.ofString "sign" → m' z = m z) → Fx env own B₀ h₀ B' h' m' cm pins → Q .next { s with heap := h', toks := tk' })
    (hs : ∀ x, foldedSetIterable iter env x = pure x := by intro _; rfl)
    (hg : env.globals = mainGlobals := by rfl) (hk : env.scope.kind = .function := by rfl) (hl1 : env.kindOf (Str.ofString "sign") = some .local := by rfl) (hl2 : env.kindOf (Str.ofString "table") = some .local := by rfl) (hl3 : env.kindOf (Str.ofString "ledgers") = some .local := by rfl) (hl4 : env.kindOf y = some .local := by rfl)
    (hyd : (y == ("__debug__" : Str)) = false := by decide) (hl5 : env.kindOf (Str.ofString "add_callers") = some .globalImplicit := by rfl) :
    wpAny (model prog w) A (exec (.For (.Name (Str.ofString "sign") p1) iter [.Assign [.Name (Str.ofString "table") p2] (.Call (.Name (Str.ofString "add_callers") p3) [.Name (Str.ofString "table") p4, .Subscript (.Subscript (.Name (Str.ofString "ledgers") p5) (.Name y p6) p7) (.Name (Str.ofString "sign") p8) p9] [] p10) p11] [] p12) env) Q E s := by
  have hp : (env.scope.kind == .class || (env.scope.kind == .module && env.locals != env.globals)) = false := by rw [hk]; rfl
  obtain ⟨ld, kvs, rfl, hld, hlv⟩ := hLv
  refine for_src F (src_str hA F hit) (fun i B' m' pins' => pins' = pins ∧ (∃ tv', m' (Str.ofString "table") = some tv' ∧ Tab prog w B' tv' (mergeAll T (u.take i) t0)) ∧ ∀ z, z ≠ Str.ofString "table" → z ≠ Str.ofString "sign" → m' z = m z) ⟨rfl, ⟨tv, hmt, htv⟩, fun _ _ _ => rfl⟩ ?_ ?_ hs hl1 hp
  · rintro i v B₁ h₂ m₁ pins₁ tk₁ hi ⟨c, uu, hc, rfl⟩ ⟨rfl, ⟨tv', hm1, htb⟩, hmz⟩ hBB hpn F
    have G1 := G.keeps hBB
    have hc' : u[i]? = some c := by simpa using hc
    have hcm : c ∈ u := List.mem_of_getElem? hc'
    obtain ⟨vt, hvt, htT⟩ := hlv c (hu c hcm)
    refine wpAny_execs_cons (wpAny_Assign_Name ?_)
    refine call_own (List.mem_of_getElem? (show (PySem.defsOf PySem.Challenge.pw_pe0056_01)[1]? = some _ from rfl)) G1 F (fun fr hfr => ?_) hg hk hl5
    have hL2 := hlist _ _ _ _ _ hBB F
    have hmL' : (fun z => if z = Str.ofString "sign" then some (Value.str ⟨#[c]⟩ uu) else m₁ z) (Str.ofString "ledgers") = some (.ref LL) := by
      show (if Str.ofString "ledgers" = Str.ofString "sign" then _ else _) = _
      rw [if_neg (by decide), hmz _ (by decide) (by decide), hmL]
    have hmy' : (fun z => if z = Str.ofString "sign" then some (Value.str ⟨#[c]⟩ uu) else m₁ z) y = some (.int k tk0) := by
      show (if y = Str.ofString "sign" then _ else _) = _
      rw [if_neg hys, hmz _ hyt hys, hmy]
    have hmt' : (fun z => if z = Str.ofString "sign" then some (Value.str ⟨#[c]⟩ uu) else m₁ z) (Str.ofString "table") = some tv' := by
      show (if Str.ofString "table" = Str.ofString "sign" then _ else _) = _
      rw [if_neg (by decide), hm1]
    have ev1 : Ev prog w A env { s with heap := h₂, toks := tk₁ } (.Subscript (.Name (Str.ofString "ledgers") p5) (.Name y p6) p7) (· = .ref ld) :=
      ev_item_list (ev_loc (s := { s with heap := h₂, toks := tk₁ }) F hmL' hk hl3) (ev_locI (s := { s with heap := h₂, toks := tk₁ }) F hmy' hk hl4 hyd) hL2 (by omega) (by omega) (by simpa using hik)
    have ev2 : Ev prog w A env { s with heap := h₂, toks := tk₁ } (.Subscript (.Subscript (.Name (Str.ofString "ledgers") p5) (.Name y p6) p7) (.Name (Str.ofString "sign") p8) p9) (· = vt) :=
      ev_item_dict ev1 (ev_locS (s := { s with heap := h₂, toks := tk₁ }) (x := Str.ofString "sign") (y := one c) (t := uu) F (if_pos rfl) hk hl1) (hld.keep (hBB.trans F.keep)) hvt
    refine args_ev (.cons rfl (ev_loc (s := { s with heap := h₂, toks := tk₁ }) F hmt' hk hl2) (.cons rfl ev2 .nil)) fun vs h3 tk3 k3 hvs => ?_
    obtain ⟨w0, vs0, rfl, rfl, hvs0⟩ := hvs.uncons
    obtain ⟨w1, vs1, rfl, rfl, hvs1⟩ := hvs0.uncons
    obtain rfl := hvs1.unnil
    have F3 := F.step k3
    refine ⟨F3.keep, ?_⟩
    have hl6 := mergeAll_len (T := T) (K := K) (u := u.take i) (t := t0) fun d hd => hK d (List.mem_of_mem_take hd)
    have hl7 : (u.take i).length * K ≤ u.length * K := Nat.mul_le_mul_right _ (by rw [List.length_take]; exact Nat.min_le_right ..)
    have hl8 := hK c hcm
    refine add_callers_spec (s := { s with heap := h3, toks := tk3 }) G1 F3.keep hfr hA hd htb (htT.keep hBB) (by omega) ?_
    intro vv B' h' tk' g htab
    have F4 := F3.call g
    refine stL (s := { s with heap := h', toks := tk' }) F4 (fun h5 F5 => wpAny_execs_nil ⟨rfl, B', h5, _, pins₁, _, rfl, rfl, F5, rfl, ⟨vv, if_pos rfl, ?_⟩, fun z hz hz' => ?_⟩) hl2 hp
    · rw [List.take_add_one, hc']
      simpa [mergeAll] using htab
    · rw [if_neg hz, if_neg hz']; exact hmz z hz hz'
  · rintro B₂ h₄ m₂ pins₂ tk₂ ⟨rfl, ⟨tv', hm1, htb⟩, hmz⟩ hBB hpn F
    rw [List.take_of_length_le (by simp)] at htb
    exact done _ _ _ _ tv' hBB hm1 htb hmz F
end
end Mine

namespace Mine

theorem abc_str {i c : Nat} (h : (Str.ofString "abc").cps[i]? = some c) : abc[i]? = some c := by
  have e : (Str.ofString "abc").cps = #[97, 98, 99] := by decide
  rw [e] at h; simpa [abc] using h
theorem abc_ltr {i c : Nat} (h : abc[i]? = some c) : Ltr c := by
  have := List.mem_of_getElem? h
  simpa [abc, Ltr] using this

section
variable {prog : Program} {w : World} {A : Around} {s : Shared} {mg mb : Str → Option Value} {B : Heap}
theorem ledgers_spec {f vw : Value} {u : Tok} {W : Words} {n r : Nat} {Q : Value → Shared → Prop} {E : Value → Shared → Prop}
    (G : Gl mg mb B) (hB : Keep B s.heap) (hf : mg (Str.ofString "_law_ledgers") = some f) (hA : A.handled = none) (hd : A.depth + 1 < recursionLimit)
    (hW : WordsAt prog w B vw W) (hWo : W.Ok n) (hn : n ≤ 4) (hr : r ≤ 100) (hnr : ∀ i, i < r → n ^ i ≤ 64)
    (hQ : ∀ (l : Addr) (B' h' : Heap) (tk' : Nat) (items : List Value), Grow B s.heap B' h' → B'.IsList l items.toArray → items.length = r + 1 → (∀ j v, items[j]? = some v → LedAt prog w B' v (led W j)) → Q (.ref l) { s with heap := h', toks := tk' }) :
    wpAny (model prog w) A (call f [vw, .int r u]) Q E s := by
  obtain ⟨dw, kvs, rfl, hdw, hval⟩ := hW
  refine enter (List.mem_of_getElem? (show (PySem.defsOf PySem.Challenge.pw_pe0056_01)[6]? = some _ from rfl)) G hB hf (by omega) (binds := [(Str.ofString "words", .ref dw), (Str.ofString "rounds", .int r u)]) (fun _ _ _ => rfl) fun a cd h₁ tk F => ?_
  dsimp only at F ⊢
  refine wpAny_execs_cons (wpAny_Assign_Name (wpAny_List (args_cons ?_ rfl)))
  refine dc_src F (src_str hA F ev_str) (cl := []) rfl (fun i B' kvs => Part prog w B' kvs (led W 0) i) ⟨Nat.le_refl _, fun l hl => absurd hl (by simp)⟩ ?_ ?_ (by decide) (fun _ _ h => h)
  · rintro C D i v B₁ h₂ m₁ od kvs' tk₁ hi ⟨c, uu, hc, rfl⟩ hJ hBB F
    have G1 := G.keeps hBB
    refine nmL F rfl ⟨one c, uu, rfl, ?_⟩
    refine dict_one (s := { s with heap := h₂, toks := tk₁ }) (x := one c) (n := 1) F G1 (ev_locS (s := { s with heap := h₂, toks := tk₁ }) F rfl) ev_int ?_
    intro D' B' h' tk' F' kB htab
    exact ⟨B', h', _, tk', rfl, F', (hJ.keep kB).store (abc_str hc) htab⟩
  · rintro D B' B'' h'' kvs' tk₁ hJ hk2 g hD hdict
    refine args_nil ⟨by simp [sizeLine_eq], ?_⟩
    have hled0 := (hJ.keep hk2).whole hdict
    have F1 := F.call g
    have hL0 := F1.fresh (Nat.le_refl _)
    replace F := F1.addPin (o := { cls := .type "list", data := .seq [Value.ref D].toArray }) rfl
    generalize hLe : h''.objs.size = L at F hL0 ⊢
    refine stL (s := { s with heap := _, toks := tk₁ }) F fun h₂ F => ?_
    have G2 := G.keeps F1.st.sub
    refine wpAny_execs_cons ?_
    refine for_src (s := { s with heap := h₂, toks := tk₁ + 1 }) F (src_range hA F G2 (ev_locI F rfl) rfl (by omega))
      (fun i B' m' pins' => m' (Str.ofString "words") = some (.ref dw) ∧ m' (Str.ofString "ledgers") = some (.ref L) ∧ ∃ (items : List Value) (k : Nat), pins' = [(L, { cls := .type "list", data := .seq items.toArray k })] ∧ items.length = i + 1 ∧ ∀ j v, items[j]? = some v → LedAt prog w B' v (led W j))
      ⟨rfl, rfl, [.ref D], 0, rfl, rfl, fun j v hj => ?_⟩ ?_ ?_
    · cases j with
      | zero => cases hj; exact hled0
      | succ j => simp at hj
    · rintro i v B₁ h₃ m₁ pins₁ tk₂ hi ⟨ti, rfl⟩ ⟨hm1, hm2, items, k, rfl, hlen, hitems⟩ hBB hpn F
      have G3 := G2.keeps hBB
      have hdw3 := hdw.keep (F1.st.sub.trans hBB)
      refine wpAny_execs_cons (wpAny_Assign_Name (wpAny_Dict_empty ?_))
      have hg0 : h₃.get? h₃.objs.size = none := none_of_ge (Nat.le_refl _)
      replace F := F.addPin (o := { cls := .type "dict", data := .dict #[] }) rfl
      generalize hGe : h₃.objs.size = Gd at F hg0 ⊢
      refine stL (s := { s with heap := _, toks := tk₂ }) F fun h₄ F => ?_
      refine wpAny_execs_cons ?_
      refine for_src (s := { s with heap := h₄, toks := tk₂ + 1 }) F (src_str hA F ev_str)
        (fun j B' m' pins' => m' (Str.ofString "words") = some (.ref dw) ∧ m' (Str.ofString "ledgers") = some (.ref L) ∧ m' (Str.ofString "turn") = some (.int (0 + i * 1) ti) ∧ m' (Str.ofString "grown") = some (.ref Gd) ∧
          ∃ od kvs2, pins' = [(Gd, od), (L, { cls := .type "list", data := .seq items.toArray k })] ∧ od.IsDictOf (strKind prog w) kvs2 ∧ Part prog w B' kvs2 (led W (i + 1)) j)
        ⟨hm1, hm2, rfl, rfl, _, [], rfl, dictO_new, Nat.le_refl _, fun l hl => absurd hl (by simp)⟩ ?_ ?_
      · rintro j v B₂ h₅ m₂ pins₂ tk₃ hj ⟨c, uu, hc, rfl⟩ ⟨hn1, hn2, hn3, hn4, od, kvs2, rfl, hod, hpart⟩ hBB2 hpn2 F
        have hc' := abc_str hc
        refine wpAny_execs_cons (wpAny_Assign_Name (wpAny_Dict_empty ?_))
        have hfr := F.fresh (Nat.le_refl _)
        have hns := not_sys G3 (hBB2.trans F.keep) (none_of_ge (h := h₅) (Nat.le_refl _))
        obtain ⟨B₃, kB3, hB3, F⟩ := (F.push { cls := .type "dict", data := .dict #[] }).take (Heap.get?_push_size _ rfl) hfr.2.1 hfr.2.2.1
        have htab0 : Tab prog w B₃ (.ref h₅.objs.size) [] := ⟨_, _, rfl, hns, hB3, tabO_new⟩
        refine stL (s := { s with heap := _, toks := tk₃ }) F fun h₆ F => ?_
        have G4 := G3.keeps (hBB2.trans kB3)
        obtain ⟨tw, hvw⟩ := hval c (abc_ltr hc')
        have hdw4 : B₃.DictOf (strKind prog w) dw kvs := hdw3.keep (hBB2.trans kB3)
        have hik : i < items.length := by omega
        refine wpAny_execs_cons ?_
        refine row_loop (s := { s with heap := h₆, toks := tk₃ + 1 }) (u := W.at c) (LL := L) (items := items) (k := i) (K := n ^ i) (T := led W i) (t0 := []) (Lv := items[i]) (tk0 := ti) hA (by show A.depth + 1 < _; omega) G4 F
          ((ev_item_dict (ev_loc (s := { s with heap := h₆, toks := tk₃ + 1 }) (x := Str.ofString "words") (v := .ref dw) F hn1) (ev_locS (s := { s with heap := h₆, toks := tk₃ + 1 }) (x := Str.ofString "letter") (y := one c) (t := uu) F rfl) (hdw4.keep F.keep) hvw).mono fun _ e => ⟨tw, e⟩) (hWo.ltrs c) (by rw [hWo.len]; omega)
          (fun B₀ h₀ B₁ h' m' hBk F' => ⟨_, F'.pin (L, _) (List.mem_cons_of_mem _ (List.mem_singleton_self _)), rfl, k, rfl⟩) hn2 ?_ (by omega) (by simp [hik]) ((hitems i _ (by simp [hik])).keep (hBB2.trans kB3))
          rfl htab0 (fun d _ => led_len hWo i d) ?_ ?_ (by decide) (by decide) ?_
        · show m₂ (Str.ofString "turn") = _
          rw [hn3]; congr 2; omega
        · rw [hWo.len]
          have := hnr i hi
          have : n * n ^ i ≤ 4 * 64 := Nat.mul_le_mul hn this
          simp; omega
        · have := hnr i hi
          omega
        · intro B₄ h₇ m₃ tk₄ tv hk4 hmt htv hmz F
          refine wpAny_execs_cons (wpAny_Assign_Subscript (nmL (s := { s with heap := h₇, toks := tk₄ }) F hmt (nmL (s := { s with heap := h₇, toks := tk₄ }) F (v := .ref Gd) ?_ (nmL (s := { s with heap := h₇, toks := tk₄ }) F (v := .str (one c) uu) ?_ ?_))))
          · rw [hmz _ (by decide) (by decide)]; exact hn4
          · rw [hmz _ (by decide) (by decide)]; rfl
          refine set_pinV (s := { s with heap := h₇, toks := tk₄ }) F hod ?_ ?_
          · have := hpart.1
            have : (Str.ofString "abc").cps.size = 3 := by decide
            omega
          · intro h₈ o' F ho'
            refine wpAny_execs_nil ⟨rfl, B₄, h₈, _, [(Gd, o'), (L, { cls := .type "list", data := .seq items.toArray k })], _, rfl, rfl, F, ?_, ?_, ?_, ?_, o', _, rfl, ho', ?_⟩
            · rw [hmz _ (by decide) (by decide)]; exact hn1
            · rw [hmz _ (by decide) (by decide)]; exact hn2
            · rw [hmz _ (by decide) (by decide)]; exact hn3
            · rw [hmz _ (by decide) (by decide)]; exact hn4
            · exact ((hpart.keep (kB3.trans hk4)).store hc' htv)
      · rintro B₂ h₅ m₂ pins₂ tk₃ ⟨hn1, hn2, hn3, hn4, od, kvs2, rfl, hod, hpart⟩ hBB2 hpn2 F
        have hpart : Part prog w B₂ kvs2 (led W (i + 1)) 3 := hpart
        obtain ⟨B₃, kB3, hB3, F⟩ := F.freeze hg0
        have hl : LedAt prog w B₃ (.ref Gd) (led W (i + 1)) := (hpart.keep kB3).whole (Heap.dictOf_iff.mpr ⟨od, hB3, hod⟩)
        refine wpAny_execs_cons ?_
        refine append_pin (s := { s with heap := h₅, toks := tk₃ }) F hn2 (ev_loc (s := { s with heap := h₅, toks := tk₃ }) F hn4) (by rw [List.size_toArray]; omega) ?_
        intro h₆ k' tk₄ F
        refine wpAny_execs_nil ⟨rfl, B₃, h₆, _, [(L, { cls := .type "list", data := .seq (items.toArray.push (.ref Gd)) k' })], _, rfl, rfl, F, hn1, hn2, items ++ [.ref Gd], k', by simp, by simp [hlen], fun j v hj => ?_⟩
        rcases Nat.lt_trichotomy j items.length with q | q | q
        · rw [List.getElem?_append_left q] at hj
          exact (hitems j v hj).keep (hBB2.trans kB3)
        · subst q
          simp at hj; subst hj
          rw [hlen]; exact hl
        · rw [List.getElem?_append_right (by omega)] at hj
          have : j - items.length ≠ 0 := by omega
          cases hjj : j - items.length with
          | zero => omega
          | succ q => rw [hjj] at hj; simp at hj
    · rintro B₁ h₃ m₁ pins₁ tk₂ ⟨hm1, hm2, items, k, rfl, hlen, hitems⟩ hBB hpn F
      refine wpAny_execs_cons (wpAny_Return_some (nmL (s := { s with heap := h₃, toks := tk₂ }) F hm2 ?_))
      obtain ⟨B₃, kB3, hB3, F⟩ := F.freeze hL0.2.1
      exact hQ L B₃ _ _ items (F.leave rfl) ⟨_, hB3, rfl, k, rfl⟩ hlen fun j v hj => (hitems j v hj).keep kB3
end
end Mine

namespace Mine

namespace Fx
variable {env : Env} {own : List Addr} {B₀ h₀ B B' h h' : Heap} {m cm : Str → Option Value} {pins : List (Addr × Obj)}
theorem mem_front {P : Addr} {o : Obj} (b : Addr) : b ∈ Xof env own ((P, o) :: pins) ↔ b = P ∨ b ∈ Xof env own pins := by
  simp only [Xof, List.map_cons, List.mem_cons, List.mem_append]
  constructor
  · rintro (h | h | h | h)
    · exact .inr (.inl h)
    · exact .inr (.inr (.inl h))
    · exact .inl h
    · exact .inr (.inr (.inr h))
  · rintro (h | h | h | h)
    · exact .inr (.inr (.inl h))
    · exact .inl h
    · exact .inr (.inl h)
    · exact .inr (.inr (.inr h))
theorem perm_front {P : Addr} {o : Obj} : (Xof env own ((P, o) :: pins)).Perm (P :: Xof env own pins) := by
  simp only [Xof, List.map_cons]
  refine .trans ?_ (.swap _ _ _)
  exact .cons _ List.perm_middle
/-- an old object is to be turned from here on -/
theorem pinOld {P : Addr} {o : Obj} (F : Fx env own B₀ h₀ B h m cm pins) (hP : h.get? P = some o) (hB : B.get? P = none) (hx : P ∉ Xof env own pins) (hc : ∀ n, env.cells.lookup n ≠ some P) :
    Fx env own B₀ h₀ B h m cm ((P, o) :: pins) := by
  refine ⟨⟨F.keep, F.st.sub, fun b o' hb e => F.st.old b o' (fun q => hb ((mem_front b).mpr (.inr q))) e, F.st.new, fun b hb => ?_, fun b hb => ?_⟩, F.ns, F.cell, fun n c hcc => ?_, fun p hp => ?_, ?_⟩
  · rcases (mem_front b).mp hb with rfl | hb
    · exact hB
    · exact F.st.off b hb
  · rcases (mem_front b).mp hb with rfl | hb
    · exact ⟨_, hP⟩
    · exact F.st.live b hb
  · rcases F.cellX n c hcc with q | q
    · exact .inl q
    · refine .inr fun q' => ?_
      rcases (mem_front c).mp q' with rfl | q'
      · exact hc n hcc
      · exact q q'
  · rcases List.mem_cons.mp hp with rfl | hp
    · exact hP
    · exact F.pin p hp
  · exact perm_front.nodup_iff.mpr (List.nodup_cons.mpr ⟨hx, F.nd⟩)
theorem front_ne {P : Addr} {o : Obj} (F : Fx env own B₀ h₀ B h m cm ((P, o) :: pins)) {p : Addr × Obj} (hp : p ∈ pins) : p.1 ≠ P := fun q =>
  (List.nodup_cons.mp (perm_front.nodup_iff.mp F.nd)).1 (q ▸ mem_pin hp)
/-- a call that may turn the pinned object in front -/
theorem callP {P : Addr} {o o' : Obj} (F : Fx env own B₀ h₀ B h m cm ((P, o) :: pins)) (S : St [P] B h B' h') (hP : h'.get? P = some o') : Fx env own B₀ h₀ B' h' m cm ((P, o') :: pins) := by
  have hX : Xof env own ((P, o') :: pins) = Xof env own ((P, o) :: pins) := rfl
  have hPX : P ∈ Xof env own ((P, o) :: pins) := (mem_front P).mpr (.inl rfl)
  have kk : ∀ b o, b ≠ P → h.get? b = some o → h'.get? b = some o := fun b o hb e => S.old b o (fun q => hb (List.mem_singleton.mp q)) e
  refine ⟨⟨S.keep, F.st.sub.trans S.sub, fun b o₁ hb e => kk b o₁ (fun q => hb (q ▸ hPX)) (F.st.old b o₁ hb e), fun b o₁ e => ?_, fun b hb => ?_, fun b hb => ?_⟩, ?_, fun n c hc => ?_, F.cellX, fun p hp => ?_, F.nd⟩
  · rcases S.new b o₁ e with q | q
    · exact F.st.new b o₁ q
    · by_cases hb : b ∈ Xof env own ((P, o) :: pins)
      · obtain ⟨o₂, e₂⟩ := F.st.live b hb; rw [e₂] at q; cases q
      · right
        cases r : h₀.get? b with
        | none => rfl
        | some o₂ => rw [F.st.old b o₂ hb r] at q; cases q
  · cases e : B'.get? b with
    | none => rfl
    | some o₁ =>
      rcases S.new b o₁ e with q | q
      · rw [F.st.off b hb] at q; cases q
      · obtain ⟨o₂, e₂⟩ := F.st.live b hb; rw [e₂] at q; cases q
  · by_cases q : b = P
    · subst q; exact ⟨_, hP⟩
    · obtain ⟨o₂, e₂⟩ := F.st.live b hb; exact ⟨o₂, kk b o₂ q e₂⟩
  · exact F.ns.at' fun o e => kk _ o (Ne.symm (F.loc_ne_pin (p := (P, _)) (List.mem_cons_self ..))) e
  · obtain ⟨o₁, e, d⟩ := F.cell n c hc
    exact ⟨o₁, kk _ _ (F.cell_ne_pin hc (p := (P, _)) (List.mem_cons_self ..)) e, d⟩
  · rcases List.mem_cons.mp hp with rfl | hp
    · exact hP
    · exact kk _ _ (F.front_ne hp) (F.pin p (List.mem_cons_of_mem _ hp))
/-- the two pins in front change places -/
theorem swap {p q : Addr × Obj} (F : Fx env own B₀ h₀ B h m cm (p :: q :: pins)) : Fx env own B₀ h₀ B h m cm (q :: p :: pins) := by
  have mem : ∀ b, b ∈ Xof env own (q :: p :: pins) ↔ b ∈ Xof env own (p :: q :: pins) := fun b => by
    simp only [Xof, List.map_cons, List.mem_cons, List.mem_append]
    constructor <;> (rintro (h | h | h | h | h) <;> simp [h])
  refine ⟨⟨F.keep, F.st.sub, fun b o hb e => F.st.old b o (fun z => hb ((mem b).mpr z)) e, F.st.new, fun b hb => F.st.off b ((mem b).mp hb), fun b hb => F.st.live b ((mem b).mp hb)⟩, F.ns, F.cell, fun n c hc => ?_, fun r hr => F.pin r ?_, ?_⟩
  · exact (F.cellX n c hc).imp id fun z z' => z ((mem c).mp z')
  · simp only [List.mem_cons] at hr ⊢
    rcases hr with h | h | h <;> simp [h]
  · have hp : (Xof env own (q :: p :: pins)).Perm (Xof env own (p :: q :: pins)) := by
      simp only [Xof, List.map_cons]
      exact .cons _ (List.Perm.append_left _ (.swap _ _ _))
    exact hp.nodup_iff.mpr F.nd
/-- a frame is left; P may have been turned -/
theorem leaveG {P : Addr} {o : Obj} (F : Fx env own B h₀ B' h' m cm [(P, o)]) (hl : h₀.get? env.locals = none) (ho : ∀ c ∈ own, h₀.get? c = none) : St [P] B h₀ B' h' := by
  refine ⟨F.keep, F.st.sub, fun b o' hb e => F.st.old b o' (fun q => ?_) e, F.st.new, fun b hb => F.st.off b ?_, fun b hb => F.st.live b ?_⟩
  · simp only [Xof, List.map_cons, List.map_nil, List.mem_cons, List.mem_append, List.not_mem_nil, or_false] at q
    rcases q with rfl | q | q
    · rw [hl] at e; cases e
    · rw [ho b q] at e; cases e
    · exact hb (List.mem_singleton.mpr q)
  · rw [List.mem_singleton.mp hb]; exact (mem_front P).mpr (.inl rfl)
  · rw [List.mem_singleton.mp hb]; exact (mem_front P).mpr (.inl rfl)
end Fx

/-- what is written at P alone -/
theorem St.turn {P : Addr} {B h h' : Heap} {o' : Obj} (k : Keep B h) (hB : B.get? P = none) (hx : Heap.ExtBut P h h') (hP : h'.get? P = some o') : St [P] B h B h' :=
  ⟨fun b o e => hx b o (fun q => by subst q; rw [hB] at e; cases e) (k b o e), Keep.refl _, fun b o hb e => hx b o (fun q => hb (List.mem_singleton.mpr q)) e, fun _ _ e => .inl e, fun b hb => by rw [List.mem_singleton.mp hb]; exact hB, fun b hb => by rw [List.mem_singleton.mp hb]; exact ⟨_, hP⟩⟩

section
variable {prog : Program} {w : World} {A : Around} {s : Shared} {env : Env} {own : List Addr} {B₀ h₀ B : Heap} {m cm mg mb : Str → Option Value} {pins : List (Addr × Obj)}
theorem ev_rsh {l r : Expr} {pos : Pos} {a b : Int} (hl : Ev prog w A env s l (IsI a)) (hr : Ev prog w A env s r (IsI b)) (hb : 0 ≤ b) : Ev prog w A env s (.BinOp l .RShift r pos) (IsI (a.fdiv (2 ^ b.toNat))) :=
  ev_bin hl hr fun _ _ ⟨_, e⟩ ⟨_, e'⟩ _ _ _ _ k => by subst e e'; exact PyProof.Rows.rshift_int hb (k _ _ ⟨_, rfl⟩)
theorem ev_lsh {l r : Expr} {pos : Pos} {a b : Int} (hl : Ev prog w A env s l (IsI a)) (hr : Ev prog w A env s r (IsI b)) (hb : 0 ≤ b) (hb2 : b ≤ 1000000) (ha : a.natAbs < 2 ^ 64) : Ev prog w A env s (.BinOp l .LShift r pos) (IsI (a * 2 ^ b.toNat)) :=
  ev_bin hl hr fun _ _ ⟨_, e⟩ ⟨_, e'⟩ _ _ _ _ k => by subst e e'; exact PyProof.Rows.lshift_int_small hb hb2 ha (k _ _ ⟨_, rfl⟩)
theorem ev_xor {l r : Expr} {pos : Pos} {a b : Int} (hl : Ev prog w A env s l (IsI a)) (hr : Ev prog w A env s r (IsI b)) : Ev prog w A env s (.BinOp l .BitXor r pos) (IsI (Builtin.bitXor a b)) :=
  ev_bin hl hr fun _ _ ⟨_, e⟩ ⟨_, e'⟩ _ _ _ _ k => by subst e e'; exact PyProof.Rows.xor_int (k _ _ ⟨_, rfl⟩)
theorem Ev.int {e : Expr} {a b : Int} (x : Ev prog w A env s e (IsI a)) (h : a = b) : Ev prog w A env s e (IsI b) := h ▸ x
theorem ev_free {x : Str} {pos : Pos} {v : Value} {c : Addr} (F : Fx env own B₀ h₀ B s.heap m cm pins) (hc : env.cells.lookup x = some c) (hv : cm x = some v)
    (hk : env.scope.kind = .function := by rfl) (hl : env.kindOf x = some .free := by rfl) (hd : (x == ("__debug__" : Str)) = false := by decide) (hn : (x == ("__classdict__" : Str)) = false := by decide) : Ev prog w A env s (.Name x pos) (· = v) :=
  fun _ _ hp tk hkk h => nmF (s := { s with heap := hp, toks := tk }) (F.step hkk) hc hv (h _ _ _ (Keep.refl _) rfl) hk hl hd hn
theorem ev_freeI {x : Str} {pos : Pos} {n : Int} {t : Tok} {c : Addr} (F : Fx env own B₀ h₀ B s.heap m cm pins) (hc : env.cells.lookup x = some c) (hv : cm x = some (.int n t))
    (hk : env.scope.kind = .function := by rfl) (hl : env.kindOf x = some .free := by rfl) (hd : (x == ("__debug__" : Str)) = false := by decide) (hn : (x == ("__classdict__" : Str)) = false := by decide) : Ev prog w A env s (.Name x pos) (IsI n) := (ev_free F hc hv hk hl hd hn).mono fun _ e => ⟨t, e⟩

/-- a closure is entered -/
theorem enterX {fd : FuncData} {body : List Stmt} {f : Addr} {o : Obj} {args : List Value} {binds : List (Str × Value)} {Q E : Value → Shared → Prop} (ho : s.heap.get? f = some o) (hdat : o.data = .func fd) (hbody : fd.body = .stmts body)
    (hlim : s.heap.NoLimit) (hcd : s.heap.CodeRec fd.code fd.qualname) (hd : A.depth < recursionLimit) (hbind : bindArgs fd ⟨args, []⟩ = pure binds) (hB : Keep B s.heap)
    (hcl : ∀ n c, fd.closure.lookup n = some c → s.heap.IsCell c (cm n))
    (h : ∀ h₁ tk, Fx (callEnv fd s.heap.objs.size f) [] B s.heap B h₁ (fun x => binds.reverse.lookup x) cm [] → Keep s.heap h₁ →
      wpAny (model prog w) (A.deeper (callEnv fd s.heap.objs.size f)) (execs body (callEnv fd s.heap.objs.size f)) (fun fl s' => Q (match fl with | .ret v => v | _ => .none) s') NE { s with heap := h₁, toks := tk })
    (hcell : ∀ x ∈ fd.scope.names, x.2 ≠ .cell := by decide) (hloc : ∀ x ∈ binds, fd.scope.names.lookup x.1 = some .local := by exact locs rfl)
    (hco : fd.scope.isCoroutine = false := by rfl) (hgen : fd.scope.isGenerator = false := by rfl) (hk : fd.scope.kind = .function := by rfl) : wpAny (model prog w) A (call (.ref f) args) Q E s := by
  refine wpAny_call (codeAny_call_def hd ho hdat hlim hcd hbody (BindsTo.of_eq hbind) hcell hloc (fun h₁ hns hk₁ => ?_) hco hgen hk)
  refine wpAny_mono (h h₁ _ ?_ hk₁) (fun _ _ x => x) fun _ _ x => x.elim
  have hloc0 : (callEnv fd s.heap.objs.size f).locals = s.heap.objs.size := rfl
  refine ⟨⟨hB.trans hk₁, Keep.refl _, fun b o _ e => hk₁ b o e, fun _ _ e => .inl e, fun b hb => ?_, fun b hb => ?_⟩, hns, fun n c hc => (hcl n c hc).keeps hk₁, fun n c hc => .inr fun q => ?_, fun p hp => absurd hp List.not_mem_nil, by simp [Xof]⟩
  · rw [show b = s.heap.objs.size from by simpa [Xof, hloc0] using hb]
    exact none_of_keep hB (none_of_ge (Nat.le_refl _))
  · rw [show b = s.heap.objs.size from by simpa [Xof, hloc0] using hb]
    obtain ⟨o, _, _, e, _⟩ := hns; exact ⟨o, e⟩
  · have : c = s.heap.objs.size := by simpa [Xof, hloc0] using q
    have hlt := (hcl n c hc).lt
    rw [this] at hlt; exact absurd hlt (Nat.lt_irrefl _)

/-- a list, so many times -/
theorem mul_list0 {E : Value → Shared → Prop} {l : Addr} {items : Array Value} {k : Nat} {x : Int} {u : Tok} {Q : Value → Shared → Prop}
    (hl : s.heap.get? l = some { cls := .type "list", dict := none, data := .seq items k, slots := #[] })
    (hlo : -(2 ^ 63 : Int) ≤ x) (hhi : x < 2 ^ 63) (hsz : items.size * x.toNat ≤ 2 ^ 24)
    (h : Q (.ref s.heap.objs.size) { s with heap := s.heap.push { cls := .type "list", data := .seq (List.foldl (fun x1 x2 => x1 ++ x2) #[] (List.replicate (if items.isEmpty = true then 0 else x.toNat) items)) } }) :
    wpAny (model prog w) A (binaryOp .Mult (.ref l) (.int x u)) Q E s :=
  wpAny_binaryOp_repeat_ref (T := "list") (U := "int") (by decide) ⟨_, hl, rfl⟩ (fun s' => typeIs_int s' x u) noFill_list_mul F.fills_int_mul F.slot_int_rmul repeat_list F.slot_int_index.lookup
    (call_meets F.slot_int_rmul (typeIs_int s x u) F.entry_int_rmul (F.args_int_rmul_2 _ _) (int___rmul___int_list x u l items k)
      ⟨hl, rfl, ⟨_, hl, rfl⟩, call_meets F.slot_list_mul ⟨_, hl, rfl⟩ F.entry_list_mul (F.args_list_mul_2 _ _)
        (AutoListH.list___mul___list_int_3 l items k x u (by simp [Builtin.List.listFitsIndex]; omega) (by omega) (by simp [Builtin.List.listTooLong, sizeLine]; omega))
        ⟨hl, h⟩⟩)
end
end Mine

namespace Mine

/-! the figures, plain -/
def digs (n : Nat) : Nat → Int → Nat → Nat → List Int → List Int
  | 0, _, _, _, ds => ds
  | k + 1, x, L, R, ds => if L + 1 = R then ds.set L x else
      digs n k (x.fdiv (2 ^ (((L + R) / 2 - L) * n))) ((L + R) / 2) R
        (digs n k (Builtin.bitXor x (x.fdiv (2 ^ (((L + R) / 2 - L) * n)) * 2 ^ (((L + R) / 2 - L) * n))) L ((L + R) / 2) ds)
def digsOk (n len : Nat) : Nat → Int → Nat → Nat → Bool
  | 0, _, _, _ => false
  | k + 1, x, L, R => if L + 1 = R then decide (L < len) && decide (L < 1000) else
      decide (L + 1 < R) && decide (R ≤ 1000) && decide ((x.fdiv (2 ^ (((L + R) / 2 - L) * n))).natAbs < 2 ^ 64) && digsOk n len k (Builtin.bitXor x (x.fdiv (2 ^ (((L + R) / 2 - L) * n)) * 2 ^ (((L + R) / 2 - L) * n))) L ((L + R) / 2)
        && digsOk n len k (x.fdiv (2 ^ (((L + R) / 2 - L) * n))) ((L + R) / 2) R
theorem digs_len (n : Nat) : ∀ (k : Nat) (x : Int) (L R : Nat) (ds : List Int), (digs n k x L R ds).length = ds.length
  | 0, _, _, _, _ => rfl
  | k + 1, x, L, R, ds => by
    unfold digs; split
    · simp
    · rw [digs_len n k, digs_len n k]
def Ints (ds : List Int) (items : List Value) : Prop := items.length = ds.length ∧ ∀ (i : Nat) (d : Int), ds[i]? = some d → ∃ t : Tok, items[i]? = some (Value.int d t)
theorem Ints.set {ds : List Int} {items : List Value} (h : Ints ds items) (i : Nat) (d : Int) (t : Tok) : Ints (ds.set i d) (items.set i (.int d t)) := by
  refine ⟨by simp [h.1], fun j e hj => ?_⟩
  rw [List.getElem?_set] at hj ⊢
  split at hj
  · rename_i q
    subst q
    split at hj
    · rename_i hlt
      cases hj
      exact ⟨t, by rw [if_pos rfl, if_pos (by rw [h.1]; exact hlt)]⟩
    · cases hj
  · rename_i q
    obtain ⟨t', e'⟩ := h.2 j e hj
    exact ⟨t', by rw [if_neg q, e']⟩

def innerOf : Option (Arguments × List Stmt × Scope) := match (PySem.defsOf PySem.Challenge.pw_pe0056_01)[0]? with
  | some d => (match d.body with
    | _ :: .FunctionDef _ args body _ _ _ scope _ _ _ :: _ => some (args, body, scope)
    | _ => none)
  | none => none
abbrev qIn : Str := Str.ofString "_int2digits.<locals>.inner"
abbrev innerFd (params : Arguments) (body : List Stmt) (scope : Scope) (cn ci ca : Addr) (doc pm : Value) (c' : Addr) (ctv : Value) : FuncData :=
  fnX (Str.ofString "inner") qIn params body scope [(Str.ofString "n", cn), (Str.ofString "inner", ci), (Str.ofString "a_digits", ca)] .none .none doc pm none (.ref c') ctv

def InnerSpec (prog : Program) (w : World) (n : Nat) (params : Arguments) (body : List Stmt) (scope : Scope) : Prop :=
  ∀ (k : Nat) (A : Around) (s : Shared) (B : Heap) (f cn ci ca DL c' : Addr) (o : Obj) (doc pm ctv : Value) (tn t1 t2 t3 : Tok) (x : Int) (L R : Nat) (ds : List Int) (items : List Value) (Q E : Value → Shared → Prop),
    Keep B s.heap → B.NoLimit → B.get? f = some o → o.data = .func (innerFd params body scope cn ci ca doc pm c' ctv) → B.CodeRec (.ref c') qIn →
    s.heap.IsCell cn (some (.int n tn)) → s.heap.IsCell ci (some (.ref f)) → s.heap.IsCell ca (some (.ref DL)) → B.get? DL = none → s.heap.IsList DL items.toArray → Ints ds items →
    digsOk n ds.length k x L R = true → A.depth + k < recursionLimit →
    (∀ (B' h' : Heap) (tk' : Nat) (items' : List Value), St [DL] B s.heap B' h' → h'.IsList DL items'.toArray → Ints (digs n k x L R ds) items' → Q .none { s with heap := h', toks := tk' }) →
    wpAny (model prog w) A (call (.ref f) [.int x t1, .int L t2, .int R t3]) Q E s

theorem half_cast (L R : Nat) : ((L : Int) + R).fdiv (2 ^ (1 : Int).toNat) = ((L + R) / 2 : Nat) := by
  have e : ((2 : Int) ^ (1 : Int).toNat) = 2 := by decide
  rw [e, Int.fdiv_eq_ediv_of_nonneg _ (by decide)]; omega
theorem shift_cast {L R n : Nat} (h : L + 1 < R) : (((L + R) / 2 : Nat) - (L : Int)) * n = ((((L + R) / 2 - L) * n : Nat) : Int) := by
  have : (((L + R) / 2 : Nat) : Int) - L = (((L + R) / 2 - L : Nat) : Int) := by omega
  rw [this, Int.natCast_mul]

section
variable {prog : Program} {w : World}
theorem inner_ex (n : Nat) (hn : n ≤ 100) : ∃ params body scope, innerOf = some (params, body, scope) ∧ InnerSpec prog w n params body scope := by
  refine ⟨_, _, _, rfl, ?_⟩
  intro k
  induction k with
  | zero => intro A s B f cn ci ca DL c' o doc pm ctv tn t1 t2 t3 x L R ds items Q E _ _ _ _ _ _ _ _ _ _ _ hok; simp [digsOk] at hok
  | succ k ih =>
    intro A s B f cn ci ca DL c' o doc pm ctv tn t1 t2 t3 x L R ds items Q E hB hlim hf hdat hcd hcn hci hca hDL hlist hints hok hdep hQ
    have hvar : ∀ b, b ≠ DL → ∀ y c, ([(Str.ofString "n", cn), (Str.ofString "inner", ci), (Str.ofString "a_digits", ca)] : List (Str × Addr)).lookup y = some c → c ≠ DL := fun _ _ y c hy q => by
      subst q
      have hl := hlist
      obtain ⟨oL, e1, hc, nn, hdd⟩ := hl
      have nocell : ∀ v, ¬ s.heap.IsCell c (some v) := fun v hcell => by
        obtain ⟨o', e2, hd2⟩ := hcell
        rw [e1] at e2; cases e2; rw [hdd] at hd2; cases hd2
      simp only [List.lookup_cons, List.lookup_nil] at hy
      split at hy
      · cases hy; exact nocell _ hcn
      · split at hy
        · cases hy; exact nocell _ hci
        · split at hy
          · cases hy; exact nocell _ hca
          · cases hy
    refine enterX (B := B) (cm := fun y => if y = Str.ofString "n" then some (.int n tn) else if y = Str.ofString "inner" then some (.ref f) else some (.ref DL)) (hB _ _ hf) hdat rfl (hlim.keeps hB) (hcd.keeps hB) (by omega)
      (binds := [(Str.ofString "x", .int x t1), (Str.ofString "L", .int L t2), (Str.ofString "R", .int R t3)]) rfl hB ?_ ?_ (by dsimp only [innerFd, fnX]; decide)
    · intro y c hy
      simp only [List.lookup_cons, List.lookup_nil] at hy
      split at hy
      · rename_i q
        have q := beq_iff_eq.mp q
        subst q; cases hy; simpa using hcn
      · split at hy
        · rename_i q0 q
          have q := beq_iff_eq.mp q
          subst q; cases hy; rw [if_neg (by decide), if_pos rfl]; exact hci
        · split at hy
          · rename_i q0 q1 q
            have q := beq_iff_eq.mp q
            subst q; cases hy; rw [if_neg (by decide), if_neg (by decide)]; exact hca
          · cases hy
    · intro h₁ tk F hk₁
      have hlist' := hlist
      obtain ⟨oL, hoL, _⟩ := id hlist'
      have hlt : DL < s.heap.objs.size := Heap.lt_size hoL
      have hDX : DL ≠ s.heap.objs.size := Nat.ne_of_lt hlt
      replace F := F.pinOld (hk₁ _ _ hoL) hDL (by simpa [Xof, callEnv, newEnv] using hDX) (fun y hy => hvar (DL + 1) (by simp) y DL hy rfl)
      have hL1 : h₁.IsList DL items.toArray := hlist.at fun o e => hk₁ _ o e
      refine wpAny_execs_cons (wpAny_If (wpAny_isTrue_Compare1 ((ev_add (ev_locI (s := { s with heap := h₁, toks := tk }) F rfl) ev_int).here fun v1 h2 tk2 k2 hv1 => nmL (s := { s with heap := h2, toks := tk2 }) (F.step k2) rfl ?_)))
      obtain ⟨_, rfl⟩ := hv1
      replace F := F.step k2
      have hL3 : h2.IsList DL items.toArray := hL1.at fun o e => k2 _ o e
      refine PyProof.Rows.eq_int (wpAny_truthy_bool ?_)
      unfold digsOk at hok
      by_cases hLR : L + 1 = R
      · rw [if_pos hLR] at hok
        have hb : (((L : Int) + 1) == (R : Int)) = true := by rw [beq_iff_eq]; omega
        rw [hb]
        simp only [if_true]
        simp only [Bool.and_eq_true, decide_eq_true_eq] at hok
        refine wpAny_execs_cons (wpAny_Assign_Subscript (nmL (s := { s with heap := h2, toks := tk2 }) F rfl (nmF (s := { s with heap := h2, toks := tk2 }) F rfl rfl (nmL (s := { s with heap := h2, toks := tk2 }) F rfl ?_))))
        refine wpAny_setItem_list (s := { s with heap := h2, toks := tk2 }) (items := items.toArray) hL3 (by omega) (by omega) (by rw [List.size_toArray, hints.1]; omega) fun h4 hl4 hs4 => ?_
        have e4 : items.toArray.setIfInBounds (L : Int).toNat (.int x t1) = (items.set L (.int x t1)).toArray := by simp
        rw [e4] at hl4
        obtain ⟨o4, ho4, _⟩ := id hl4
        replace F := F.setPin ho4 hs4
        refine wpAny_execs_cons (wpAny_Return_none ?_)
        dsimp only
        refine hQ B h4 _ _ (F.leaveG (none_of_ge (Nat.le_refl _)) (fun c hc => absurd hc List.not_mem_nil)) hl4 ?_
        unfold digs
        rw [if_pos hLR]
        exact hints.set L x t1
      · rw [if_neg hLR] at hok
        simp only [Bool.and_eq_true, decide_eq_true_eq] at hok
        obtain ⟨⟨⟨⟨hlt1, hR⟩, hup⟩, hok1⟩, hok2⟩ := hok
        have hb : (((L : Int) + 1) == (R : Int)) = false := by rw [beq_eq_false_iff_ne]; omega
        rw [hb]
        simp only [Bool.false_eq_true, if_false]
        refine wpAny_execs_nil ?_
        dsimp only
        unfold digs at hQ
        rw [if_neg hLR] at hQ
        generalize hmid : (L + R) / 2 = mid at hok1 hok2 hup hQ
        have hmL : L < mid := by omega
        have hmR : mid < R := by omega
        generalize hsh : (mid - L) * n = sh at hok1 hok2 hup hQ
        have hshn : sh ≤ 100000 := by
          rw [← hsh]
          exact Nat.le_trans (Nat.mul_le_mul (show mid - L ≤ 1000 by omega) hn) (by decide)
        generalize hupe : x.fdiv (2 ^ sh) = upper at hok1 hok2 hup hQ
        generalize hlow : Builtin.bitXor x (upper * 2 ^ sh) = lower at hok1 hok2 hQ
        have hLo : ∃ nn, oL.cls = .type "list" ∧ oL.data = .seq items.toArray nn := by
          obtain ⟨o2, e2, c2, n2, d2⟩ := hlist
          rw [hoL] at e2; cases e2; exact ⟨n2, c2, d2⟩
        obtain ⟨nn, hLc, hLd⟩ := hLo
        refine wpAny_execs_cons (wpAny_Assign_Name (((ev_rsh (ev_add (ev_locI (s := { s with heap := h2, toks := tk2 }) F rfl) (ev_locI (s := { s with heap := h2, toks := tk2 }) F rfl)) ev_int (by decide)).int ((half_cast L R).trans (by rw [hmid]))).here fun v h4 tk4 k4 hv => ?_))
        obtain ⟨t4, rfl⟩ := hv
        refine stL (s := { s with heap := h4, toks := tk4 }) (F.step k4) fun h5 F => ?_
        clear hL1 hL3
        refine wpAny_execs_cons (wpAny_Assign_Name (((ev_mul (ev_sub (ev_locI (s := { s with heap := h5, toks := tk4 + 1 }) F rfl) (ev_locI (s := { s with heap := h5, toks := tk4 + 1 }) F rfl)) (ev_freeI (s := { s with heap := h5, toks := tk4 + 1 }) F rfl rfl)
          (IntMulOk.of_left (intBits_le_64 (by omega) (by omega)))).int (b := (sh : Int)) (by rw [← hsh, ← hmid]; exact shift_cast hlt1)).here fun v h6 tk6 k6 hv => ?_))
        obtain ⟨t6, rfl⟩ := hv
        refine stL (s := { s with heap := h6, toks := tk6 }) (F.step k6) fun h7 F => ?_
        refine wpAny_execs_cons (wpAny_Assign_Name (((ev_rsh (ev_locI (s := { s with heap := h7, toks := tk6 + 1 }) F rfl) (ev_locI (s := { s with heap := h7, toks := tk6 + 1 }) F rfl) (by omega)).int (b := upper) (by rw [Int.toNat_natCast]; exact hupe)).here fun v h8 tk8 k8 hv => ?_))
        obtain ⟨t8, rfl⟩ := hv
        refine stL (s := { s with heap := h8, toks := tk8 }) (F.step k8) fun h9 F => ?_
        refine wpAny_execs_cons (wpAny_Assign_Name (((ev_xor (ev_locI (s := { s with heap := h9, toks := tk8 + 1 }) F rfl) (ev_lsh (ev_locI (s := { s with heap := h9, toks := tk8 + 1 }) F rfl) (ev_locI (s := { s with heap := h9, toks := tk8 + 1 }) F rfl) (by omega) (by omega) hup)).int (b := lower) (by rw [Int.toNat_natCast]; exact hlow)).here fun v h10 tk10 k10 hv => ?_))
        obtain ⟨t10, rfl⟩ := hv
        refine stL (s := { s with heap := h10, toks := tk10 }) (F.step k10) fun h11 F => ?_
        have fnAt : ∀ h, Keep B h → FnAt f h := fun h kh => by
          have := kh _ _ hf
          obtain ⟨oc, od, dd, sl⟩ := o
          simp only at hdat
          subst hdat
          exact ⟨_, _, _, _, this⟩
        refine wpAny_execs_cons (wpAny_Expr (Call_ (nmF (s := { s with heap := h11, toks := tk10 + 1 }) F rfl rfl ?_)))
        refine callWith_F (q := f) (fnAt _ F.keep) ?_
        refine args_ev (.cons rfl (ev_locI (s := { s with heap := h11, toks := tk10 + 1 }) F rfl) (.cons rfl (ev_locI (s := { s with heap := h11, toks := tk10 + 1 }) F rfl) (.cons rfl (ev_locI (s := { s with heap := h11, toks := tk10 + 1 }) F rfl) .nil))) fun vs h12 tk12 k12 hvs => ?_
        obtain ⟨w0, vs0, rfl, ⟨u0, rfl⟩, hvs0⟩ := hvs.uncons
        obtain ⟨w1, vs1, rfl, ⟨u1, rfl⟩, hvs1⟩ := hvs0.uncons
        obtain ⟨w2, vs2, rfl, ⟨u2, rfl⟩, hvs2⟩ := hvs1.uncons
        obtain rfl := hvs2.unnil
        have F12 := F.step k12
        refine ⟨fnAt _ F12.keep, ?_⟩
        refine ih _ { s with heap := h12, toks := tk12 } B f cn ci ca DL c' o doc pm ctv tn _ _ _ lower L mid ds items _ _ F12.keep hlim hf hdat hcd (F12.cell (Str.ofString "n") cn rfl) (F12.cell (Str.ofString "inner") ci rfl) (F12.cell (Str.ofString "a_digits") ca rfl) hDL ⟨oL, F12.pin_get, hLc, nn, hLd⟩ hints hok1 (by show A.depth + 1 + k < _; omega) ?_
        intro B' h' tk' items' S hl' hi'
        obtain ⟨o', ho', hc', nn', hd'⟩ := id hl'
        replace F := F12.callP S ho'
        have hf' := S.sub _ _ hf
        refine wpAny_execs_cons (wpAny_Expr (Call_ (nmF (s := { s with heap := h', toks := tk' }) F rfl rfl ?_)))
        refine callWith_F (q := f) (fnAt _ (S.sub.trans F.keep)) ?_
        refine args_ev (.cons rfl (ev_locI (s := { s with heap := h', toks := tk' }) F rfl) (.cons rfl (ev_locI (s := { s with heap := h', toks := tk' }) F rfl) (.cons rfl (ev_locI (s := { s with heap := h', toks := tk' }) F rfl) .nil))) fun vs h13 tk13 k13 hvs => ?_
        obtain ⟨w0, vs0, rfl, ⟨v0, rfl⟩, hvs0⟩ := hvs.uncons
        obtain ⟨w1, vs1, rfl, ⟨v1, rfl⟩, hvs1⟩ := hvs0.uncons
        obtain ⟨w2, vs2, rfl, ⟨v2, rfl⟩, hvs2⟩ := hvs1.uncons
        obtain rfl := hvs2.unnil
        have F13 := F.step k13
        refine ⟨fnAt _ (S.sub.trans F13.keep), ?_⟩
        refine ih _ { s with heap := h13, toks := tk13 } B' f cn ci ca DL c' o doc pm ctv tn _ _ _ upper mid R (digs n k lower L mid ds) items' _ _ F13.keep (hlim.keeps S.sub) hf' hdat (hcd.keeps S.sub) (F13.cell (Str.ofString "n") cn rfl) (F13.cell (Str.ofString "inner") ci rfl) (F13.cell (Str.ofString "a_digits") ca rfl) (F13.st.off DL (Fx.mem_pin (p := (DL, o')) (List.mem_singleton_self _))) ⟨o', F13.pin_get, hc', nn', hd'⟩ hi' (by rw [digs_len]; exact hok2) (by show A.depth + 1 + k < _; omega) ?_
        intro B'' h'' tk'' items'' S2 hl'' hi''
        obtain ⟨o'', ho'', hc'', nn'', hd''⟩ := id hl''
        replace F := F13.callP S2 ho''
        exact wpAny_execs_nil (hQ _ _ _ _ (F.leaveG (none_of_ge (Nat.le_refl _)) (fun c hc => absurd hc List.not_mem_nil)) hl'' hi'')
theorem inner_holds (n : Nat) (hn : n ≤ 100) {params : Arguments} {body : List Stmt} {scope : Scope} (h : innerOf = some (params, body, scope)) : InnerSpec prog w n params body scope := by
  obtain ⟨p', b', sc', h', hs⟩ := inner_ex (prog := prog) (w := w) n hn
  rw [h] at h'; cases h'; exact hs
end
end Mine

namespace Mine

/-- the code of _int2digits, at c, and its table of codes, at P -/
structure Tb (mg : Str → Option Value) (c P : Addr) (h : Heap) : Prop where
  hd : CodeHd h c P
  bm : ∃ bm ob, mg "__builtins__" = some (.ref bm) ∧ bm ≠ builtinsNs ∧ h.get? bm = some ob ∧ ob.cls = .type "module" ∧ ob.dict = some builtinsNs ∧ ob.data = .plain
  fn : ∃ a o fd, mg (Str.ofString "_int2digits") = some (.ref a) ∧ h.get? a = some o ∧ o.data = .func fd ∧ fd.code = .ref c
theorem Tb.keeps {mg : Str → Option Value} {c P : Addr} {h h' : Heap} (x : Tb mg c P h) (k : Keep h h') : Tb mg c P h' where
  hd := x.hd.keeps k
  bm := let ⟨bm, ob, h1, h2, h3, r⟩ := x.bm; ⟨bm, ob, h1, h2, k _ _ h3, r⟩
  fn := let ⟨a, o, fd, h1, h2, r⟩ := x.fn; ⟨a, o, fd, h1, k _ _ h2, r⟩
def TabOk (B : Heap) (o : Obj) : Prop := o = tabObj #[] ∨ ∃ c' : Addr, o = tabObj #[rawInt 5, rawInt 4, .ref c'] ∧ B.CodeRec (.ref c') qIn
theorem TabOk.keep {B B' : Heap} {o : Obj} (x : TabOk B o) (k : Keep B B') : TabOk B' o := x.imp id fun ⟨c', h1, h2⟩ => ⟨c', h1, h2.keeps k⟩
theorem TabOk.data {B : Heap} {o : Obj} (x : TabOk B o) : ∃ ps, o = tabObj ps := by
  rcases x with h | ⟨_, h, _⟩ <;> exact ⟨_, h⟩

def figLen (a n : Nat) : Nat := (Builtin.Int.intBits a + n - 1) / n
def figs (a n : Nat) : List Int := if a = 0 then List.replicate (figLen a n) 0 else digs n 8 a 0 (figLen a n) (List.replicate (figLen a n) 0)
theorem figLen_cast (a n : Nat) (hn : 0 < n) : ((Builtin.Int.intBits a : Int) + n - 1).fdiv n = (figLen a n : Nat) := by
  unfold figLen
  rw [Int.fdiv_eq_ediv_of_nonneg _ (by omega)]
  have : (Builtin.Int.intBits a : Int) + n - 1 = ((Builtin.Int.intBits a + n - 1 : Nat) : Int) := by omega
  rw [this, Int.natCast_ediv]
theorem rep_fold (v : Value) : ∀ (k : Nat) (acc : List Value), List.foldl (fun x1 x2 => x1 ++ x2) acc.toArray (List.replicate k #[v]) = (acc ++ List.replicate k v).toArray
  | 0, acc => by simp
  | k + 1, acc => by
    rw [List.replicate_succ, List.foldl_cons]
    have : acc.toArray ++ #[v] = (acc ++ [v]).toArray := by simp
    rw [this, rep_fold v k, List.replicate_succ]; simp
theorem ints_rep (k : Nat) (t : Tok) : Ints (List.replicate k 0) (List.replicate k (.int 0 t)) := ⟨by simp, fun i d h => by
  rw [List.getElem?_replicate] at h ⊢
  split at h
  · cases h; rename_i q; exact ⟨t, by rw [if_pos q]⟩
  · cases h⟩

section
variable {prog : Program} {w : World} {A : Around} {s : Shared} {env : Env} {own : List Addr} {B₀ h₀ B : Heap} {m cm mg mb : Str → Option Value} {pins : List (Addr × Obj)}
theorem enterCd {d : DefRec} {c : Addr} {f : Value} {args : List Value} {binds : List (Str × Value)} {Q E : Value → Shared → Prop}
    (hm : d ∈ PySem.defsOf PySem.Challenge.pw_pe0056_01) (G : Gl mg mb B) (hc : ∃ a o fd, mg d.name = some (.ref a) ∧ B.get? a = some o ∧ o.data = .func fd ∧ fd.code = .ref c) (hB : Keep B s.heap) (hf : mg d.name = some f) (hd : A.depth < recursionLimit)
    (hbind : ∀ pm cd doc, bindArgs (docDef d.name d.params d.body d.scope pm cd doc) ⟨args, []⟩ = pure binds)
    (h : ∀ a h₁ tk, Fx (envOfC d.name d.scope s.heap.objs.size a (.ref c)) ((cellsFrom (s.heap.objs.size + 1) d.scope.names []).map (·.2)) B s.heap B h₁
        (bindL (envOfC d.name d.scope s.heap.objs.size a (.ref c)).kindOf binds fun _ => none) (bindC (envOfC d.name d.scope s.heap.objs.size a (.ref c)).kindOf binds fun _ => none) [] → Keep s.heap h₁ →
      wpAny (model prog w) (A.deeper (envOfC d.name d.scope s.heap.objs.size a (.ref c))) (execs d.body (envOfC d.name d.scope s.heap.objs.size a (.ref c))) (fun fl s' => Q (match fl with | .ret v => v | _ => .none) s') NE { s with heap := h₁, toks := tk })
    (hnd : ((cellsFrom 0 d.scope.names []).map (·.1)).Nodup := by decide)
    (hkind : (binds.all fun y => d.scope.names.lookup y.1 == some .local || d.scope.names.lookup y.1 == some .cell) = true := by rfl)
    (hco : d.scope.isCoroutine = false := by rfl) (hgen : d.scope.isGenerator = false := by rfl) (hk : d.scope.kind = .function := by rfl) : wpAny (model prog w) A (call f args) Q E s := by
  obtain ⟨a, o, pm, cd, doc, hmg, ho, hdat, hcd⟩ := G.fn d hm
  obtain ⟨a', o', fd, h1, h2, h3, h4⟩ := hc
  rw [hmg] at h1; cases h1
  rw [ho] at h2; cases h2
  rw [hdat] at h3; cases h3
  obtain rfl : cd = .ref c := h4
  obtain rfl : f = .ref a := Option.some.inj (hf.symm.trans hmg)
  exact wpAny_call (call_cells_ret hd (hB _ _ ho) hdat (G.lim.keeps hB) (hcd.keeps hB) (hbind pm _ doc) (kindsX hkind _) (fun h₁ tk F C => h a h₁ tk (Fx.ofCl hB F C fun c hc => cells_found hnd _ c hc) F.keep) hco hgen hk)
theorem ev_bits {x : Str} {np apos pos : Pos} {a : Int} {pl : Sem Bool} (hx : Ev prog w A env s (.Name x np) (IsI a))
    (he : eval (.Call (.Attribute (.Name x np) (Str.ofString "bit_length") apos) [] [] pos) env = (do
      let ov ← eval (.Name x np) env
      standAt apos.atName
      let (f, first) ← holding [ov] (getMethod ov (Str.ofString "bit_length") pl)
      callWith pos f first (backTo pos (starEach [] env)) []) := by rfl) :
    Ev prog w A env s (.Call (.Attribute (.Name x np) (Str.ofString "bit_length") apos) [] [] pos) (IsI (Builtin.Int.intBits a)) := fun Q' E hp tk hk k => by
  refine MethodCall_ (hx _ _ _ _ hk fun v h1 t1 k1 hv => ?_) he
  obtain ⟨t, rfl⟩ := hv
  refine PyProof.Rows.getMethod_int_bit_length ?_
  refine PyProof.Rows.callWith_method0 ?_
  exact PyProof.Rows.call_int_bit_length (k _ _ _ k1 ⟨_, rfl⟩)
end

theorem own_ge {L : Nat} {names : List (Str × NameKind)} {b : Addr} (hb : b ∈ (cellsFrom (L + 1) names []).map (·.2)) : L ≤ b := by
  obtain ⟨p, hp, rfl⟩ := List.mem_map.mp hb
  exact cellsFrom_ge _ _ _ _ (Nat.le_succ _) (fun _ h => absurd h List.not_mem_nil) p hp
theorem cells3 {L : Nat} {y : Str} {k : Addr} (h : ([(Str.ofString "inner", L + 3), (Str.ofString "a_digits", L + 2), (Str.ofString "n", L + 1)] : List (Str × Addr)).lookup y = some k) :
    (k = L + 2 → y = Str.ofString "a_digits") ∧ (k = L + 3 → y = Str.ofString "inner") := by
  simp only [List.lookup_cons, List.lookup_nil] at h
  split at h
  · rename_i q; cases h
    exact ⟨fun e => by simp at e, fun _ => beq_iff_eq.mp q⟩
  · split at h
    · rename_i q; cases h
      exact ⟨fun _ => beq_iff_eq.mp q, fun e => by simp at e⟩
    · split at h
      · cases h
        exact ⟨fun e => by simp at e, fun e => by simp at e⟩
      · cases h

section
variable {prog : Program} {w : World} {A : Around} {s : Shared} {env : Env} {own : List Addr} {B₀ h₀ B : Heap} {m cm mg mb : Str → Option Value} {pins : List (Addr × Obj)}
theorem ev_len {e : Expr} {np pos : Pos} {l : Addr} {items : List Value} (F : Fx env own B₀ h₀ B s.heap m cm pins) (G : Gl mg mb B) (he : Ev prog w A env s e (· = .ref l)) (hl : s.heap.IsList l items.toArray) (hfit : items.length ≤ 10000)
    (hg : env.globals = mainGlobals := by rfl) (hb : env.builtins = builtinsNs := by rfl) (hk : env.scope.kind = .function := by rfl) (hx : env.kindOf (Str.ofString "len") = some .globalImplicit := by rfl)
    (hse : starEach [e] env = (false, eval e env) :: starEach [] env := by rfl) (hcall : eval (.Call (.Name (Str.ofString "len") np) [e] [] pos) env = (do callWith pos (← eval (.Name (Str.ofString "len") np) env) [] (backTo pos (starEach [e] env)) (backToKw pos (keywordEach [] env))) := by rfl) :
    Ev prog w A env s (.Call (.Name (Str.ofString "len") np) [e] [] pos) (IsI items.length) := fun Q' E hp tk hkk k => by
  refine Call_ (nmB (s := { s with heap := hp, toks := tk }) (F.step hkk) G (by decide) boot_len ?_ hg hb hk hx) hcall
  refine PyProof.Rows.callWith_builtin1 (args_cons (he _ _ _ _ hkk fun v h1 t1 k1 hv => args_nil ?_) hse) hse rfl
  subst hv
  have hl' : h1.IsList l items.toArray := hl.at fun o e => k1 _ _ (hkk _ _ e)
  refine PyProof.Rows.len_list hl' (by rw [List.size_toArray]; omega) ?_
  exact k _ h1 _ k1 ⟨t1 + 1, by rw [List.size_toArray]⟩
end

section
variable {M : Model} {A : Around} {s : Shared} {env : Env} {own : List Addr} {B₀ h₀ B : Heap} {m cm mg mb : Str → Option Value} {pins : List (Addr × Obj)}
/-- the def within _int2digits; the table of codes, pinned in front, may grow -/
theorem nest_make {E : Value → Shared → Prop} {name : Str} {params : Arguments} {body : List Stmt} {scope : Scope} {clos : List (Str × Addr)} {pos : Pos} {firstLine : Nat} {c P : Addr} {oP : Obj} {Q : Value → Shared → Prop}
    (F : Fx env own B₀ h₀ B s.heap m cm ((P, oP) :: pins)) (G : Gl mg mb B) (Tt : Tb mg c P B) (hOk : TabOk B oP) (hge0 : env.globals = mainGlobals) (hcode : env.code = .ref c) (hcl : closureFor scope env = pure clos) (hp1 : pos.line = 5) (hp2 : pos.col = 4)
    (h : ∀ (B7 h7 : Heap) (tk7 : Nat) (oP7 : Obj) (f c' : Addr) (doc pm ctv : Value), Keep B B7 → Fx env own B₀ h₀ B7 h7 m cm ((P, oP7) :: pins) → TabOk B7 oP7 → B7.get? f = some (fnMade name qIn params body scope clos doc pm c' ctv) → B7.CodeRec (.ref c') qIn → Q (.ref f) { s with heap := h7, toks := tk7 }) :
    wpAny M A (makeFunction name qIn params (.stmts body) scope env [] [] [] pos firstLine) Q E s := by
  have hBP : B.get? P = none := F.st.off P (Fx.mem_pin (p := (P, oP)) (List.mem_cons_self ..))
  have hgP : mainGlobals ≠ P := fun q => by
    obtain ⟨o, e⟩ := G.low mainGlobals (.inl rfl)
    rw [q, hBP] at e; cases e
  have hbAt : s.heap.BuiltinsAt mg P := by
    obtain ⟨bm, ob, b1, b2, b3, b4, b5, b6⟩ := Tt.bm
    refine ⟨bm, ob, b1, b2, fun q => ?_, fun q => ?_, F.keep _ _ b3, b4, b5, b6⟩
    · obtain ⟨o, es, ep, e, hd, _⟩ := G.g
      rw [q, e] at b3; cases b3; rw [hd] at b6; cases b6
    · rw [q, hBP] at b3; cases b3
  rcases hOk with rfl | ⟨c', rfl, hrec⟩
  · refine makeFunction_K (mg := mg) hcl hge0 (G.g.keeps F.keep) hcode (Tt.hd.keeps F.keep) F.pin_get trivial rfl hgP hbAt fun c' ctv doc h5 tk5 hx hge hlt hrec htb => ?_
    have hfr := F.fresh hge
    have F5 := F.callP (St.turn F.keep hBP hx htb) htb
    have hff := F5.fresh (Nat.le_refl _)
    obtain ⟨c2, oc, vs, t, e2, hoc, hd2, hv2⟩ := hrec
    cases e2
    have F6 := F5.push (fnMade name qIn params body scope clos doc ((mg "__name__").getD .none) c' ctv)
    obtain ⟨B6, k6, hB6, F6⟩ := F6.take (Heap.get?_push_of_some _ hoc) hfr.2.1 hfr.2.2.1
    obtain ⟨B7, k7, hB7, F7⟩ := F6.take (Heap.get?_push_size _ rfl) hff.2.1 hff.2.2.1
    have hc7 : B7.CodeRec (.ref c') qIn := ⟨c', oc, vs, t, rfl, k7 _ _ hB6, hd2, hv2⟩
    refine h B7 _ tk5 _ h5.objs.size c' doc _ ctv (k6.trans k7) F7 (.inr ⟨c', ?_, hc7⟩) hB7 hc7
    rw [hp1, hp2]; rfl
  · refine makeFunction_hit (mg := mg) (cv := .ref c') hcl hge0 (G.g.keeps F.keep) hcode (Tt.hd.keeps F.keep) F.pin_get trivial (by rw [show codeAmong pos _ = if (5 : Int) == (pos.line : Int) && (4 : Int) == (pos.col : Int) then some (.ref c') else codeAmong pos [] from rfl, hp1, hp2]; rfl) hbAt fun ctv doc h5 tk5 hk5 hsz => ?_
    have F5 := F.step hk5
    have hff := F5.fresh (Nat.le_refl _)
    have F6 := F5.push (fnMade name qIn params body scope clos doc ((mg "__name__").getD .none) c' ctv)
    obtain ⟨B7, k7, hB7, F7⟩ := F6.take (Heap.get?_push_size _ rfl) hff.2.1 hff.2.2.1
    exact h B7 _ tk5 _ h5.objs.size c' doc _ ctv k7 F7 (.inr ⟨c', rfl, hrec.keeps k7⟩) hB7 (hrec.keeps k7)
end

section
variable {prog : Program} {w : World} {A : Around} {s : Shared} {mg mb : Str → Option Value} {B : Heap}
theorem digits_spec {f : Value} {c P : Addr} {oP : Obj} {a n : Nat} {ta tn : Tok} {Q : Value → Shared → Prop} {E : Value → Shared → Prop}
    (G : Gl mg mb B) (Tt : Tb mg c P B) (hB : Keep B s.heap) (hP : s.heap.get? P = some oP) (hBP : B.get? P = none) (hOk : TabOk B oP)
    (hf : mg (Str.ofString "_int2digits") = some f) (hA : A.handled = none) (hd : A.depth + 10 < recursionLimit) (hn0 : 0 < n) (hn : n ≤ 100) (hlen : figLen a n ≤ 1000) (hok : a = 0 ∨ digsOk n (figLen a n) 8 a 0 (figLen a n) = true)
    (hQ : ∀ (l : Addr) (B' h' : Heap) (tk' : Nat) (oP' : Obj) (items : List Value), St [P] B s.heap B' h' → h'.get? P = some oP' → TabOk B' oP' → B'.IsList l items.toArray → Ints (figs a n) items → Q (.ref l) { s with heap := h', toks := tk' }) :
    wpAny (model prog w) A (call f [.int a ta, .int n tn]) Q E s := by
  refine enterCd (List.mem_of_getElem? (show (PySem.defsOf PySem.Challenge.pw_pe0056_01)[0]? = some _ from rfl)) G Tt.fn hB hf (by omega) (binds := [(Str.ofString "a", .int a ta), (Str.ofString "n", .int n tn)]) (fun _ _ _ => rfl) fun fa h₁ tk F hk₁ => ?_
  dsimp only at F ⊢
  obtain ⟨ps0, hps0⟩ := hOk.data
  have hPc : ∀ (h : Heap) (v : Option Value), h.get? P = some oP → ¬ h.IsCell P v := fun h v e ⟨o', e', d'⟩ => by
    rw [e, hps0] at e'; cases e'; cases d'
  replace F := F.pinOld (hk₁ _ _ hP) hBP (fun q => by
    have hlt := Heap.lt_size hP
    rcases List.mem_cons.mp q with rfl | q
    · exact absurd hlt (Nat.lt_irrefl _)
    · simp only [List.map_nil, List.append_nil] at q
      exact absurd hlt (Nat.not_lt.mpr (own_ge q))) (fun y hy => hPc _ _ (hk₁ _ _ hP) (F.cell y P hy))
  refine wpAny_execs_cons (as_name (sto_cell (c := s.heap.objs.size + 2) rfl rfl rfl (show s.heap.objs.size + 2 ∈ [s.heap.objs.size + 3, s.heap.objs.size + 2, s.heap.objs.size + 1] by simp) (fun y hy => (cells3 hy).1 rfl)) ?_)
  refine wpAny_BinOp (wpAny_List (args_cons (wpAny_Constant_int (args_nil ⟨by simp [sizeLine_eq], ?_⟩)) rfl))
  have F2 := F.push { cls := .type "list", data := .seq [Value.int 0 tk].toArray }
  refine ((ev_fdiv (ev_sub (ev_add (ev_bits (ev_locI (s := { s with heap := _, toks := tk + 1 }) F2 rfl)) (ev_cellI (s := { s with heap := _, toks := tk + 1 }) F2 (c := s.heap.objs.size + 1) rfl rfl)) ev_int) (ev_cellI (s := { s with heap := _, toks := tk + 1 }) F2 (c := s.heap.objs.size + 1) rfl rfl) (by omega) (.inl (PyProof.noPylong_small (by omega)))).int (figLen_cast a n hn0)).here fun v h3 tk3 k3 hv => ?_
  obtain ⟨t3, rfl⟩ := hv
  refine mul_list0 (s := { s with heap := h3, toks := tk3 }) (l := h₁.objs.size) (k3 _ _ (Heap.get?_push_size _ rfl)) (by omega) (by omega) (by simp; omega) ?_
  have e3 : List.foldl (fun x1 x2 => x1 ++ x2) #[] (List.replicate (if ([Value.int 0 tk].toArray).isEmpty = true then 0 else ((figLen a n : Nat) : Int).toNat) [Value.int 0 tk].toArray) = (List.replicate (figLen a n) (Value.int 0 tk)).toArray := by
    have := rep_fold (Value.int 0 tk) (figLen a n) []
    simpa using this
  rw [e3]
  have F3 := F2.step k3
  have hD0 := F3.fresh (Nat.le_refl _)
  have F4 := F3.addPin (o := { cls := .type "list", data := .seq (List.replicate (figLen a n) (Value.int 0 tk)).toArray }) rfl
  refine ⟨_, _, _, _, _, _, F4, fun h' tk' F => ?_⟩
  clear F2 F3 F4
  dsimp only at hD0 ⊢
  generalize hDe : h3.objs.size = DL at F hD0 ⊢
  clear k3
  refine wpAny_execs_cons (nestDef_K rfl rfl rfl ?_)
  refine nest_make (s := { s with heap := h', toks := tk' }) F.swap G Tt hOk rfl rfl rfl rfl rfl fun B7 h7 tk7 oP7 fi c' doc pm ctv k7 F hOk7 hfi hrec7 => ?_
  refine sto_cell (c := s.heap.objs.size + 3) rfl rfl rfl (show s.heap.objs.size + 3 ∈ [s.heap.objs.size + 3, s.heap.objs.size + 2, s.heap.objs.size + 1] by simp) (fun y hy => (cells3 hy).2 rfl) { s with heap := h7, toks := tk7 } (.ref fi) _ _ _ _ _ _ _ F.swap fun h8 tk8 F _ => ?_
  clear hOk hps0 hPc
  have G7 := G.keeps k7
  have fnAt : ∀ h, Keep B7 h → FnAt fi h := fun h kh => ⟨_, _, _, _, kh _ _ hfi⟩
  have hDL : h8.get? DL = some { cls := .type "list", data := .seq (List.replicate (figLen a n) (Value.int 0 tk)).toArray } := F.pin_get
  have hDB : B7.get? DL = none := F.st.off DL (Fx.mem_pin (p := (DL, _)) (List.mem_cons_self ..))
  have fin : ∀ (env : Env) (own : List Addr) (m9 cm9 : Str → Option Value) (B9 h9 : Heap) (tk9 : Nat) (o9 : Obj) (items : List Value), env.locals = s.heap.objs.size → (∀ c ∈ own, s.heap.objs.size ≤ c) → Keep B7 B9 → Fx env own B s.heap B9 h9 m9 cm9 [(DL, o9), (P, oP7)] → o9.cls = .type "list" → (∃ k, o9.data = .seq items.toArray k) → Ints (figs a n) items → Q (.ref DL) { s with heap := h9, toks := tk9 } := by
    intro env own m9 cm9 B9 h9 tk9 o9 items hloc hown k9 F9 hc9 ⟨kk, hd9⟩ hi9
    obtain ⟨B10, k10, hB10, F10⟩ := F9.freeze hD0.2.1
    exact hQ DL B10 h9 tk9 oP7 items (F10.leaveG (none_of_ge (by rw [hloc]; exact Nat.le_refl _)) fun c hc => none_of_ge (hown c hc)) F10.pin_get (hOk7.keep (k9.trans k10)) ⟨o9, hB10, hc9, kk, hd9⟩ hi9
  have hown3 : ∀ b ∈ [s.heap.objs.size + 3, s.heap.objs.size + 2, s.heap.objs.size + 1], s.heap.objs.size ≤ b := by
    intro b hb; simp at hb; omega
  dsimp only
  refine wpAny_execs_cons (wpAny_If (isTrue_plain (nmL (s := { s with heap := h8, toks := tk8 }) F rfl (PyProof.Rows.truthy_int ?_))))
  unfold figs at fin
  by_cases ha : a = 0
  · have hb : ((a : Int) != 0) = false := by rw [ha]; rfl
    rw [hb]
    simp only [Bool.false_eq_true, if_false]
    rw [if_pos ha] at fin
    refine wpAny_execs_nil (wpAny_execs_cons (wpAny_Return_some (nmC (s := { s with heap := h8, toks := tk8 }) F (c := s.heap.objs.size + 2) rfl rfl ?_)))
    exact fin _ _ _ _ _ _ _ _ _ rfl hown3 (Keep.refl _) F rfl ⟨_, rfl⟩ (ints_rep _ _)
  · have hb : ((a : Int) != 0) = true := by simpa using ha
    rw [hb]
    simp only [if_true]
    rw [if_neg ha] at fin
    have hok8 := hok.resolve_left ha
    refine wpAny_execs_cons (wpAny_Expr (Call_ (nmC (s := { s with heap := h8, toks := tk8 }) F (c := s.heap.objs.size + 3) rfl rfl ?_)))
    refine callWith_F (q := fi) (fnAt _ F.keep) ?_
    refine args_ev (.cons rfl (ev_locI (s := { s with heap := h8, toks := tk8 }) F rfl) (.cons rfl ev_int (.cons rfl (ev_len (items := List.replicate (figLen a n) (Value.int 0 tk)) F G7 (ev_cell (s := { s with heap := h8, toks := tk8 }) F (c := s.heap.objs.size + 2) rfl rfl) ⟨_, hDL, rfl, _, rfl⟩ (by rw [List.length_replicate]; omega)) .nil))) fun vs h9 tk9 k9 hvs => ?_
    obtain ⟨w0, vs0, rfl, ⟨v0, rfl⟩, hvs0⟩ := hvs.uncons
    obtain ⟨w1, vs1, rfl, ⟨v1, rfl⟩, hvs1⟩ := hvs0.uncons
    obtain ⟨w2, vs2, rfl, ⟨v2, rfl⟩, hvs2⟩ := hvs1.uncons
    obtain rfl := hvs2.unnil
    have F9 := F.step k9
    refine ⟨fnAt _ F9.keep, ?_⟩
    rw [List.length_replicate]
    refine inner_holds n hn rfl 8 _ { s with heap := h9, toks := tk9 } B7 fi (s.heap.objs.size + 1) (s.heap.objs.size + 3) (s.heap.objs.size + 2) DL c' _ doc pm ctv tn _ _ _ a 0 (figLen a n) (List.replicate (figLen a n) 0) (List.replicate (figLen a n) (Value.int 0 tk)) _ _ F9.keep G7.lim hfi rfl hrec7
      (F9.cell (Str.ofString "n") _ rfl) (F9.cell (Str.ofString "inner") _ rfl) (F9.cell (Str.ofString "a_digits") _ rfl) hDB ⟨_, F9.pin_get, rfl, _, rfl⟩ (ints_rep _ _) (by rw [List.length_replicate]; exact hok8) (by show A.depth + 1 + 8 < _; omega) ?_
    intro B' h'' tk'' items' S hl' hi'
    obtain ⟨o', ho', hc', nn', hd'⟩ := id hl'
    have F10 := F9.callP S ho'
    refine wpAny_execs_nil (wpAny_execs_cons (wpAny_Return_some (nmC (s := { s with heap := h'', toks := tk'' }) F10 (c := s.heap.objs.size + 2) rfl rfl ?_)))
    exact fin _ _ _ _ _ _ _ _ _ rfl hown3 S.sub F10 hc' ⟨nn', hd'⟩ hi'
end
end Mine

namespace Mine

/-- the walk, plain: the levels below j, the highest first -/
def walk (W : Words) (fg : Nat → Nat) : Nat → Nat → List (Str × Int) → Nat × List (Str × Int)
  | 0, l, t => (l, t)
  | j + 1, l, t => walk W fg j ((W.at l).getD (fg j) 97) (mergeAll (led W j) ((W.at l).take (fg j)) t)
def figAt (a n j : Nat) : Int := (figs a n).getD j 0

section
variable {prog : Program} {w : World} {A : Around} {s : Shared} {env : Env} {own : List Addr} {B₀ h₀ B : Heap} {m cm mg mb : Str → Option Value} {pins : List (Addr × Obj)}
theorem ev_neg {e : Expr} {pos : Pos} {a : Int} (he : Ev prog w A env s e (IsI a)) : Ev prog w A env s (.UnaryOp .USub e pos) (IsI (-a)) := fun Q' E hp tk hk k => by
  refine wpAny_UnaryOp (he _ _ _ _ hk fun v h1 t1 k1 hv => ?_)
  obtain ⟨t, rfl⟩ := hv
  exact PyProof.Rows.neg_int (k _ _ _ k1 ⟨_, rfl⟩)
theorem ev_slice_to {value e : Expr} {pos p : Pos} {u : List Nat} {j : Int} (ho : Ev prog w A env s value (IsS ⟨u.toArray⟩)) (he : Ev prog w A env s e (IsI j)) (h0 : 0 ≤ j) (h1 : j ≤ u.length) (hu : u.length ≤ 1000) :
    Ev prog w A env s (.Subscript value (.Slice none (some e) none p) pos) (IsS ⟨(u.take j.toNat).toArray⟩) := fun Q' E hp tk hk k => by
  refine Subscript_ (ho _ _ _ _ hk fun v h1' t1 k1 hv => ?_)
  obtain ⟨t, rfl⟩ := hv
  refine wpAny_Slice ?_
  rw [evalPart_none]
  refine wpAny_pure ?_
  rw [evalPart_some]
  refine he _ _ _ _ (hk.trans k1) fun v h2 t2 k2 hv => wpAny_pure ?_
  obtain ⟨uj, rfl⟩ := hv
  have hsl := slice_closes_to (x := ⟨u.toArray⟩) (j := j) ⟨h0, by simpa using h1⟩
  have hsl' : Txt.slice ⟨u.toArray⟩ none (some j) = ⟨(u.take j.toNat).toArray⟩ := by
    have := eq_of_beq hsl
    simpa using this
  obtain ⟨T, id, hl, hT, hg⟩ := PySem.SBH.sliceItem_ns (prog := prog) (w := w) (A := A) (E := E) (P := Keep h2) (s := { s with heap := h2, toks := t2 }) (x := ⟨u.toArray⟩) (t := t) (j := j) (uj := uj) (Q := Q')
    (fun h ob hk => hk.trans (Keep.push _ _)) (Keep.refl _) (fun h' t' k' hk' => by rw [hsl']; exact k _ _ _ (k1.trans (k2.trans hk')) ⟨_, rfl⟩) (by rw [slen, sizeLine_eq]; omega)
  exact tail_any (ops := [.ref h2.objs.size, .str ⟨u.toArray⟩ t]) hT hl hg rfl
theorem ev_pick {x y : Str} {p1 p2 p3 p4 p5 p6 p7 p8 p9 p10 : Pos} {k0 : Nat} {FL : Addr} {fits : List Value} {ds : List Int} {j : Nat} {tk0 : Tok} (F : Fx env own B₀ h₀ B s.heap m cm pins) (G : Gl mg mb B) (hx : m x = some (.int j tk0)) (hy : m y = some (.ref FL))
    (hFL : s.heap.IsList FL fits.toArray) (hints : Ints ds fits) (hlen : fits.length ≤ 1000) (hj : j ≤ 1000)
    (hg : env.globals = mainGlobals := by rfl) (hb : env.builtins = builtinsNs := by rfl) (hk : env.scope.kind = .function := by rfl) (hl1 : env.kindOf (Str.ofString "len") = some .globalImplicit := by rfl)
    (hl2 : env.kindOf x = some .local := by rfl) (hl3 : env.kindOf y = some .local := by rfl) (hd2 : (x == ("__debug__" : Str)) = false := by decide) (hd3 : (y == ("__debug__" : Str)) = false := by decide) :
    Ev prog w A env s (.IfExp (.Compare (.Name x p1) [.Lt] [.Call (.Name (Str.ofString "len") p2) [.Name y p3] [] p4] p5) (.Subscript (.Name y p6) (.Name x p7) p8) (.Constant (.int 0) k0 p9) p10) (IsI (ds.getD j 0)) := fun Q' E hp tk hkk k => by
  refine wpAny_IfExp (wpAny_isTrue_Compare1 (nmL (s := { s with heap := hp, toks := tk }) (F.step hkk) hx (ev_len F G (ev_loc F hy hk hl3 hd3) hFL (by omega) hg hb hk hl1 rfl rfl _ _ _ _ hkk fun v h1 t1 k1 hv => ?_) hk hl2 hd2) rfl)
  obtain ⟨t, rfl⟩ := hv
  refine PyProof.Rows.lt_int (wpAny_truthy_bool ?_)
  by_cases hlt : j < fits.length
  · rw [decide_eq_true (by omega)]
    simp only [if_true]
    obtain ⟨d, hdd⟩ : ∃ d, ds[j]? = some d := ⟨_, List.getElem?_eq_getElem (by rw [← hints.1]; exact hlt)⟩
    obtain ⟨t', ht'⟩ := hints.2 j d hdd
    have hgd : ds.getD j 0 = d := by rw [List.getD_eq_getElem?_getD, hdd]; rfl
    rw [hgd] at k
    exact ev_item_list (ev_loc F hy hk hl3 hd3) (ev_locI F hx hk hl2 hd2) hFL (by omega) (by omega) (by simpa using ht') (fun _ _ => rfl) _ _ _ _ (hkk.trans k1) fun v h2 t2 k2 hv => k v h2 t2 (k1.trans k2) ⟨t', hv⟩
  · rw [decide_eq_false (by omega)]
    simp only [Bool.false_eq_true, if_false]
    have hgd : ds.getD j 0 = 0 := by rw [List.getD_eq_getElem?_getD, List.getElem?_eq_none (by rw [← hints.1]; omega)]; rfl
    rw [hgd] at k
    exact ev_int _ _ _ _ (hkk.trans k1) fun v h2 t2 k2 hv => k v h2 t2 (k1.trans k2) hv
end

/-- what a walk gives back -/
def WalkAt (prog : Program) (w : World) (B : Heap) (v : Value) (r : Nat × List (Str × Int)) : Prop := ∃ d tv tk, v = .ref d ∧ B.IsTuple d #[.str (one r.1) tk, tv] ∧ Tab prog w B tv r.2
theorem WalkAt.keep {prog : Program} {w : World} {B B' : Heap} {v : Value} {r : Nat × List (Str × Int)} (x : WalkAt prog w B v r) (k : Keep B B') : WalkAt prog w B' v r :=
  let ⟨d, tv, tk, h1, h2, h3⟩ := x; ⟨d, tv, tk, h1, h2.at fun o e => k _ _ e, h3.keep k⟩

section
variable {prog : Program} {w : World} {A : Around} {s : Shared} {mg mb : Str → Option Value} {B : Heap}
theorem walk_spec {f vw : Value} {c P LL : Addr} {oP : Obj} {items : List Value} {p n N r l0 : Nat} {tp tn tl : Tok} {W : Words} {Q : Value → Shared → Prop} {E : Value → Shared → Prop}
    (G : Gl mg mb B) (Tt : Tb mg c P B) (hB : Keep B s.heap) (hP : s.heap.get? P = some oP) (hBP : B.get? P = none) (hOk : TabOk B oP)
    (hf : mg (Str.ofString "_law_walk") = some f) (hA : A.handled = none) (hd : A.depth + 11 < recursionLimit) (hn0 : 0 < n) (hn : n ≤ 100) (hlen : figLen p n ≤ 1000) (hok : p = 0 ∨ digsOk n (figLen p n) 8 p 0 (figLen p n) = true)
    (hW : WordsAt prog w B vw W) (hWo : W.Ok N) (hN : N ≤ 4) (hr : r ≤ 3) (hNr : ∀ i, i < r → N ^ i ≤ 64)
    (hLL : B.IsList LL items.toArray) (hil : items.length = r + 1) (hled : ∀ j v, items[j]? = some v → LedAt prog w B v (led W j)) (hl0 : Ltr l0)
    (hfl : (figs p n).length ≤ 1000) (hfg : ∀ j, j < r → 0 ≤ figAt p n j ∧ figAt p n j < N)
    (hQ : ∀ (v : Value) (B' h' : Heap) (tk' : Nat) (oP' : Obj), St [P] B s.heap B' h' → h'.get? P = some oP' → TabOk B' oP' → WalkAt prog w B' v (walk W (fun j => (figAt p n j).toNat) r l0 []) → Q v { s with heap := h', toks := tk' }) :
    wpAny (model prog w) A (call f [.int p tp, .int n tn, vw, .ref LL, .str (one l0) tl]) Q E s := by
  obtain ⟨dw, kvs, rfl, hdw, hval⟩ := hW
  refine enter (List.mem_of_getElem? (show (PySem.defsOf PySem.Challenge.pw_pe0056_01)[7]? = some _ from rfl)) G hB hf (by omega) (binds := [(Str.ofString "place", .int p tp), (Str.ofString "width", .int n tn), (Str.ofString "words", .ref dw), (Str.ofString "ledgers", .ref LL), (Str.ofString "letter", .str (one l0) tl)]) (fun _ _ _ => rfl) fun fa cd h₁ tk F => ?_
  dsimp only at F ⊢
  have hPlt := Heap.lt_size hP
  have hP1 : h₁.get? P = some oP := F.st.old P oP (fun q => by
    have : P = s.heap.objs.size := by simpa [Xof, envOf] using q
    rw [this] at hPlt; exact absurd hPlt (Nat.lt_irrefl _)) hP
  replace F := F.pinOld hP1 hBP (fun q => by
    have : P = s.heap.objs.size := by simpa [Xof, envOf] using q
    rw [this] at hPlt; exact absurd hPlt (Nat.lt_irrefl _)) (fun y hy => by simp [envOf] at hy)
  refine wpAny_execs_cons (wpAny_Assign_Name ?_)
  refine call_own (List.mem_of_getElem? (show (PySem.defsOf PySem.Challenge.pw_pe0056_01)[0]? = some _ from rfl)) G F fun fr hfr => ?_
  refine args_ev (.cons rfl (ev_locI (s := { s with heap := h₁, toks := tk }) F rfl) (.cons rfl (ev_locI (s := { s with heap := h₁, toks := tk }) F rfl) .nil)) fun vs h2 tk2 k2 hvs => ?_
  obtain ⟨w0, vs0, rfl, ⟨u0, rfl⟩, hvs0⟩ := hvs.uncons
  obtain ⟨w1, vs1, rfl, ⟨u1, rfl⟩, hvs1⟩ := hvs0.uncons
  obtain rfl := hvs1.unnil
  have F2 := F.step k2
  refine ⟨F2.keep, ?_⟩
  refine digits_spec (s := { s with heap := h2, toks := tk2 }) G Tt F2.keep F2.pin_get hBP hOk hfr hA (by show A.depth + 1 + 10 < _; omega) hn0 hn hlen hok ?_
  intro FL B3 h3 tk3 oP3 fits S hP3 hOk3 hFL hints
  replace F := F2.callP S hP3
  refine stL (s := { s with heap := h3, toks := tk3 }) F fun h4 F => ?_
  refine wpAny_execs_cons (wpAny_Assign_Name (wpAny_Dict_empty ?_))
  have hfr2 := F.fresh (Nat.le_refl _)
  have G3 := G.keeps S.sub
  have hns := not_sys G3 F.keep (none_of_ge (h := h4) (Nat.le_refl _))
  obtain ⟨B5, kB5, hB5, F⟩ := (F.push { cls := .type "dict", data := .dict #[] }).take (Heap.get?_push_size _ rfl) hfr2.2.1 hfr2.2.2.1
  have htab0 : Tab prog w B5 (.ref h4.objs.size) [] := ⟨_, _, rfl, hns, hB5, tabO_new⟩
  generalize h4.objs.size = Dt at F htab0 ⊢
  refine stL (s := { s with heap := _, toks := tk3 + 1 }) F fun h6 F => ?_
  have G5 := G3.keeps kB5
  have kk5 : Keep B B5 := S.sub.trans kB5
  have hOk5 := hOk3.keep kB5
  have hFL5 : B5.IsList FL fits.toArray := hFL.at fun o e => kB5 _ _ e
  have hLL5 : B5.IsList LL items.toArray := hLL.at fun o e => kk5 _ _ e
  clear S hP3 hOk3 hFL k2 F2 hP1 hBP hP hOk hB
  have evL := fun (pos : Pos) (A' : Around) => ev_loc (prog := prog) (w := w) (A := A') (pos := pos) (x := Str.ofString "ledgers") (v := .ref LL) (s := { s with heap := h6, toks := tk3 + 1 + 1 }) F rfl
  refine wpAny_execs_cons ?_
  refine for_src (s := { s with heap := h6, toks := tk3 + 1 + 1 }) F (src_range3 (a := (r : Int) - 1) (b := -1) (c := -1) (n := r) hA F G5
      ((ev_sub (ev_len F G5 (evL _ _) (hLL5.at fun o e => F.keep _ _ e) (by omega)) ev_int).int (by rw [hil]; omega)) (ev_neg ev_int) (ev_neg ev_int) (by decide) ?_ ?_ ?_)
    (fun i B' m' pins' => ∃ l t tv tt, pins' = [(P, oP3)] ∧ Ltr l ∧ m' (Str.ofString "words") = some (.ref dw) ∧ m' (Str.ofString "ledgers") = some (.ref LL) ∧ m' (Str.ofString "figures") = some (.ref FL) ∧
      m' (Str.ofString "letter") = some (.str (one l) tt) ∧ m' (Str.ofString "table") = some tv ∧ Tab prog w B' tv t ∧ t.length ≤ 256 * i ∧ walk W (fun j => (figAt p n j).toNat) (r - i) l t = walk W (fun j => (figAt p n j).toNat) r l0 [])
    ⟨l0, [], .ref Dt, tl, rfl, hl0, rfl, rfl, rfl, rfl, rfl, htab0, Nat.le_refl _, rfl⟩ ?_ ?_
  · exact PyProof.noPylong_small (by decide)
  · obtain h | h | h | h : r = 0 ∨ r = 1 ∨ r = 2 ∨ r = 3 := by omega
    all_goals (subst h; decide)
  · obtain h | h | h | h : r = 0 ∨ r = 1 ∨ r = 2 ∨ r = 3 := by omega
    all_goals (subst h; decide)
  · rintro i v B₁ h₂ m₁ pins₁ tk₁ hi ⟨ti, rfl⟩ ⟨l, t, tv, tt, rfl, hl, hm1, hm2, hm3, hm4, hm5, htv, htl, hwk⟩ hBB hpn F
    have ej : ((r : Int) - 1 + (i : Int) * -1) = ((r - 1 - i : Nat) : Int) := by omega
    rw [ej] at F
    have ej2 : r - i = (r - 1 - i) + 1 := by omega
    rw [ej2] at hwk
    have ej3 : r - (i + 1) = r - 1 - i := by omega
    rw [ej3]
    have hjr : r - 1 - i < r := by omega
    generalize r - 1 - i = j at F hwk hjr ⊢
    have hfj := hfg j hjr
    obtain ⟨tw, hvw⟩ := hval l hl
    have G1 := G5.keeps hBB
    have hdw1 : B₁.DictOf (strKind prog w) dw kvs := hdw.keep (kk5.trans hBB)
    have hLL1 : B₁.IsList LL items.toArray := hLL5.at fun o e => hBB _ _ e
    have hFL1 : B₁.IsList FL fits.toArray := hFL5.at fun o e => hBB _ _ e
    refine wpAny_execs_cons (wpAny_Assign_Name ((ev_pick (s := { s with heap := h₂, toks := tk₁ }) (x := Str.ofString "level") (y := Str.ofString "figures") (FL := FL) (ds := figs p n) (fits := fits) (j := j) (tk0 := ti) F G1 rfl hm3 (hFL1.at fun o e => F.keep _ _ e) hints (by rw [hints.1]; exact hfl) (by omega)).here fun v h3 tk3 k3 hv => ?_))
    obtain ⟨t3, rfl⟩ := hv
    have efj : (figs p n).getD j 0 = figAt p n j := rfl
    rw [efj]
    refine stL (s := { s with heap := h3, toks := tk3 }) (F.step k3) fun h4 F => ?_
    have hWl := hWo.len l
    have hNj := hNr j hjr
    have hik : j < items.length := by omega
    have evw := fun (pos p2 p3 : Pos) (A' : Around) => (ev_item_dict (prog := prog) (w := w) (A := A') (pos := pos) (s := { s with heap := h4, toks := tk3 + 1 }) (ev_loc (pos := p2) (x := Str.ofString "words") (v := .ref dw) (s := { s with heap := h4, toks := tk3 + 1 }) F hm1)
      (ev_locS (pos := p3) (x := Str.ofString "letter") (y := one l) (t := tt) (s := { s with heap := h4, toks := tk3 + 1 }) F hm4) (hdw1.keep F.keep) hvw).mono fun _ e => (⟨tw, e⟩ : IsS ⟨(W.at l).toArray⟩ _)
    refine wpAny_execs_cons ?_
    refine row_loop (s := { s with heap := h4, toks := tk3 + 1 }) (u := (W.at l).take (figAt p n j).toNat) (LL := LL) (items := items) (k := j) (K := N ^ j) (T := led W j) (t0 := t) (Lv := items[j]) (tv := tv) (tk0 := ti) hA (by show A.depth + 1 < _; omega) G1 F
      (ev_slice_to (evw _ _ _ _) (ev_locI (x := Str.ofString "figure") (t := t3) (s := { s with heap := h4, toks := tk3 + 1 }) F rfl) hfj.1 (by omega) (by omega)) (fun d hd => hWo.ltrs l d (List.mem_of_mem_take hd)) (by rw [List.length_take]; omega)
      (fun B₀ h₀ B₂ h' m' hBk F' => hLL1.at fun o e => F'.keep _ _ (hBk _ _ e)) hm2 rfl (by omega) (by simp [hik]) ((hled j _ (by simp [hik])).keep (kk5.trans hBB))
      hm5 htv (fun d _ => led_len hWo j d) ?_ (by omega) (by decide) (by decide) ?_
    · have h1 : ((W.at l).take (figAt p n j).toNat).length ≤ 4 := by rw [List.length_take]; omega
      have h2 : ((W.at l).take (figAt p n j).toNat).length * N ^ j ≤ 4 * 64 := Nat.mul_le_mul h1 hNj
      omega
    · intro B₄ h₇ m₃ tk₄ tv' hk4 hmt htv' hmz F
      have hwn : m₃ (Str.ofString "words") = some (.ref dw) := by rw [hmz _ (by decide) (by decide)]; exact hm1
      have hln : m₃ (Str.ofString "letter") = some (.str (one l) tt) := by rw [hmz _ (by decide) (by decide)]; exact hm4
      have hfn : m₃ (Str.ofString "figure") = some (.int (figAt p n j) t3) := by rw [hmz _ (by decide) (by decide)]; rfl
      have hc : (⟨(W.at l).toArray⟩ : Str).cps[(figAt p n j).toNat]? = some ((W.at l).getD (figAt p n j).toNat 97) := by
        have hlt : (figAt p n j).toNat < (W.at l).length := by omega
        rw [List.getD_eq_getElem?_getD, List.getElem?_eq_getElem hlt]
        simp [hlt]
      refine wpAny_execs_cons (wpAny_Assign_Name ((ev_item_str ((ev_item_dict (ev_loc (s := { s with heap := h₇, toks := tk₄ }) F hwn) (ev_locS (s := { s with heap := h₇, toks := tk₄ }) F hln) ((hdw1.keep hk4).keep F.keep) hvw).mono fun _ e => (⟨tw, e⟩ : IsS ⟨(W.at l).toArray⟩ _)) (ev_locI (s := { s with heap := h₇, toks := tk₄ }) F hfn) hfj.1 (by omega) hc).here fun v h8 tk8 k8 hv => ?_))
      obtain ⟨t8, rfl⟩ := hv
      refine stL (s := { s with heap := h8, toks := tk8 }) (F.step k8) fun h9 F => ?_
      refine wpAny_execs_nil ⟨rfl, B₄, h9, _, _, _, rfl, rfl, F, (W.at l).getD (figAt p n j).toNat 97, mergeAll (led W j) ((W.at l).take (figAt p n j).toNat) t, tv', t8, rfl, ?_, ?_, ?_, ?_, rfl, ?_, htv', ?_, ?_⟩
      · refine hWo.ltrs l _ ?_
        have hlt : (figAt p n j).toNat < (W.at l).length := by omega
        rw [List.getD_eq_getElem?_getD, List.getElem?_eq_getElem hlt]
        exact List.getElem_mem hlt
      · exact hwn
      · show m₃ _ = _
        rw [hmz _ (by decide) (by decide)]; exact hm2
      · show m₃ _ = _
        rw [hmz _ (by decide) (by decide)]; exact hm3
      · exact hmt
      · have h1 : ((W.at l).take (figAt p n j).toNat).length ≤ 4 := by rw [List.length_take]; omega
        have h2 : ((W.at l).take (figAt p n j).toNat).length * N ^ j ≤ 4 * 64 := Nat.mul_le_mul h1 hNj
        have h3 := mergeAll_len (T := led W j) (K := N ^ j) (u := (W.at l).take (figAt p n j).toNat) (t := t) fun d _ => led_len hWo j d
        omega
      · exact hwk
  · rintro B₁ h₂ m₁ pins₁ tk₁ ⟨l, t, tv, tt, rfl, hl, hm1, hm2, hm3, hm4, hm5, htv, htl, hwk⟩ hBB hpn F
    rw [Nat.sub_self] at hwk
    refine wpAny_execs_cons (wpAny_Return_some (wpAny_Tuple (args_cons (nmL (s := { s with heap := h₂, toks := tk₁ }) F hm4 (args_cons (nmL (s := { s with heap := h₂, toks := tk₁ }) F hm5 (args_nil ⟨by simp [sizeLine_eq], ?_⟩)) rfl)) rfl)))
    have hff := F.fresh (Nat.le_refl _)
    obtain ⟨B₃, kB3, hB3, F3⟩ := (F.push { cls := .type "tuple", data := .seq [Value.str (one l) tt, tv].toArray }).take (Heap.get?_push_size _ rfl) hff.2.1 hff.2.2.1
    refine hQ _ B₃ _ _ oP3 (F3.leaveG (none_of_ge (Nat.le_refl _)) fun c hc => absurd hc List.not_mem_nil) F3.pin_get (hOk5.keep (hBB.trans kB3)) ?_
    rw [← hwk]
    exact ⟨_, tv, tt, rfl, ⟨_, hB3, rfl, 0, rfl⟩, htv.keep kB3⟩
end
end Mine

namespace Mine

/-! tables by their letters and their numbers -/
def rep (ks : List Nat) (f : Nat → Int) : List (Str × Int) := ks.map fun c => (one c, f c)
def ins (ks : List Nat) (c : Nat) : List Nat := if c ∈ ks then ks else ks ++ [c]
theorem one_inj {a b : Nat} : one a = one b ↔ a = b := by simp [one]
theorem mem_ins {ks : List Nat} {c d : Nat} : d ∈ ins ks c ↔ d ∈ ks ∨ d = c := by
  unfold ins; split
  · rename_i h
    constructor
    · exact .inl
    · rintro (q | rfl)
      · exact q
      · exact h
  · simp
theorem ins_nodup {ks : List Nat} (h : ks.Nodup) (c : Nat) : (ins ks c).Nodup := by
  unfold ins; split
  · exact h
  · rename_i hc
    refine List.nodup_append.mpr ⟨h, by simp, fun a ha b hb => ?_⟩
    rw [List.mem_singleton.mp hb]
    exact fun q => hc (q ▸ ha)
theorem rep_congr {ks : List Nat} {f g : Nat → Int} (h : ∀ c ∈ ks, f c = g c) : rep ks f = rep ks g := List.map_congr_left fun c hc => by rw [h c hc]
theorem rep_any (ks : List Nat) (f : Nat → Int) (c : Nat) : ((rep ks f).any fun e => decide (e.1 = one c)) = decide (c ∈ ks) := by
  rw [Bool.eq_iff_iff, List.any_eq_true]
  simp only [rep, List.mem_map, decide_eq_true_eq]
  constructor
  · rintro ⟨e, ⟨d, hd, rfl⟩, h⟩
    exact one_inj.mp h ▸ hd
  · intro h
    exact ⟨_, ⟨c, h, rfl⟩, rfl⟩
theorem rep_put (ks : List Nat) (f : Nat → Int) (c : Nat) (n : Int) : put (rep ks f) (one c) n = rep (ins ks c) (fun d => if d = c then n else f d) := by
  unfold put
  rw [rep_any]
  unfold ins
  by_cases h : c ∈ ks
  · simp only [h, decide_true, if_true]
    unfold rep
    rw [List.map_map]
    refine List.map_congr_left fun d hd => ?_
    simp only [Function.comp_apply]
    by_cases q : d = c
    · subst q; simp
    · rw [if_neg (fun e => q (one_inj.mp e)), if_neg q]
  · simp only [h, decide_false, Bool.false_eq_true, if_false]
    unfold rep
    rw [List.map_append]
    congr 1
    · refine List.map_congr_left fun d hd => ?_
      have hne : ¬ d = c := fun e => h (by rw [← e]; exact hd)
      simp only [if_neg hne]
    · simp
theorem rep_get (ks : List Nat) (f : Nat → Int) (c : Nat) : getT (rep ks f) (one c) = if c ∈ ks then some (f c) else none := by
  unfold getT rep
  induction ks with
  | nil => rfl
  | cons d ks ih =>
    rw [List.map_cons, List.find?_cons]
    by_cases q : d = c
    · subst q; simp
    · have : decide ((one d, f d).1 = one c) = false := by simpa using fun e => q (one_inj.mp e)
      rw [this]
      simp only [List.mem_cons]
      rw [ih]
      have : ¬ c = d := fun e => q e.symm
      simp [this]
theorem rep_addTo {ks : List Nat} {f : Nat → Int} (h0 : ∀ d, d ∉ ks → f d = 0) (c : Nat) (n : Int) : addTo (rep ks f) (one c, n) = rep (ins ks c) (fun d => if d = c then f c + n else f d) := by
  unfold addTo
  rw [rep_get]
  by_cases h : c ∈ ks
  · rw [if_pos h]; exact rep_put ..
  · rw [if_neg h]
    rw [h0 c h, Int.zero_add]; exact rep_put ..

def dd (u : List Nat) : List Nat := u.foldl ins []
theorem fold_mem : ∀ (u ks : List Nat) (d : Nat), d ∈ u.foldl ins ks ↔ d ∈ ks ∨ d ∈ u
  | [], ks, d => by simp
  | c :: u, ks, d => by
    rw [List.foldl_cons, fold_mem u, mem_ins, List.mem_cons, or_assoc]
theorem fold_nodup : ∀ (u ks : List Nat), ks.Nodup → (u.foldl ins ks).Nodup
  | [], _, h => h
  | c :: u, ks, h => fold_nodup u _ (ins_nodup h c)
theorem dd_mem {u : List Nat} {d : Nat} : d ∈ dd u ↔ d ∈ u := by unfold dd; rw [fold_mem]; simp
theorem dd_nodup (u : List Nat) : (dd u).Nodup := fold_nodup u [] List.nodup_nil
theorem ins_of_mem {ks : List Nat} {c : Nat} (h : c ∈ ks) : ins ks c = ks := by unfold ins; rw [if_pos h]
theorem dd_fold (ks : List Nat) : ∀ u : List Nat, (dd u).foldl ins ks = u.foldl ins ks := by
  have : ∀ (v : List Nat) (u : List Nat), u = v.reverse → (dd u).foldl ins ks = u.foldl ins ks := by
    intro v
    induction v with
    | nil => rintro u rfl; rfl
    | cons c v ih =>
      rintro u rfl
      rw [List.reverse_cons]
      have ih' := ih _ rfl
      generalize v.reverse = x at ih' ⊢
      have e : dd (x ++ [c]) = ins (dd x) c := by unfold dd; rw [List.foldl_append]; rfl
      rw [e, List.foldl_append]
      show _ = ins (x.foldl ins ks) c
      by_cases h : c ∈ dd x
      · rw [ins_of_mem h, ih', ins_of_mem]
        rw [fold_mem]; exact .inr (dd_mem.mp h)
      · unfold ins at *
        rw [if_neg h, List.foldl_append, ih']
        rfl
  intro u
  exact this u.reverse u (by simp)
/-- the table of a row of letters -/
def tab (u : List Nat) : List (Str × Int) := rep (dd u) (fun c => cnt c u)
theorem cnt_zero {c : Nat} {u : List Nat} (h : c ∉ u) : cnt c u = 0 := cnt_none c u h
theorem merge_rep : ∀ (js : List Nat) (ks : List Nat) (f g : Nat → Int), js.Nodup → (∀ d, d ∉ ks → f d = 0) →
    merge (rep ks f) (rep js g) = rep (js.foldl ins ks) (fun d => f d + if d ∈ js then g d else 0)
  | [], ks, f, g, _, _ => by
    show rep ks f = rep ks _
    exact rep_congr fun c hc => by simp
  | j :: js, ks, f, g, hn, h0 => by
    have hn' := List.nodup_cons.mp hn
    show merge (addTo (rep ks f) (one j, g j)) (rep js g) = _
    rw [rep_addTo h0, merge_rep js (ins ks j) _ g hn'.2 (fun d hd => by
      rw [mem_ins, not_or] at hd
      rw [if_neg hd.2]; exact h0 d hd.1), List.foldl_cons]
    refine rep_congr fun d _ => ?_
    by_cases q : d = j
    · subst q
      simp [hn'.1]
    · simp [q]
theorem merge_tab (v u : List Nat) : merge (tab v) (tab u) = tab (v ++ u) := by
  unfold tab
  rw [merge_rep _ _ _ _ (dd_nodup u) (fun d hd => cnt_zero (fun q => hd (dd_mem.mpr q))), dd_fold]
  have e : dd (v ++ u) = u.foldl ins (dd v) := by unfold dd; rw [List.foldl_append]
  rw [e]
  refine rep_congr fun d _ => ?_
  rw [cnt_append]
  by_cases h : d ∈ u
  · rw [if_pos (dd_mem.mpr h)]
  · rw [if_neg (fun q => h (dd_mem.mp q)), cnt_zero h]
theorem tab_nil : tab [] = [] := rfl
theorem tab_one (l : Nat) : tab [l] = [(one l, 1)] := by
  unfold tab
  have : dd [l] = [l] := by simp [dd, ins]
  rw [this]
  simp [rep, cnt_cons, cnt_nil]
theorem told_tab (u : List Nat) : toldOf u = tab u := by
  have key : ∀ (F : Nat → Int) (v ks : List Nat) (f : Nat → Int), (∀ c ∈ ks, f c = F c) → v.foldl (fun t c => put t (one c) (F c)) (rep ks f) = rep (v.foldl ins ks) F := by
    intro F v
    induction v with
    | nil => intro ks f h; exact rep_congr h
    | cons c v ih =>
      intro ks f h
      rw [List.foldl_cons, List.foldl_cons, rep_put]
      refine ih _ _ fun d hd => ?_
      by_cases q : d = c
      · rw [if_pos q, q]
      · rw [if_neg q]
        rw [mem_ins] at hd
        exact h d (hd.resolve_right q)
  have := key (fun c => Txt.count ⟨u.toArray⟩ (one c)) u [] (fun _ => 0) (fun c hc => absurd hc List.not_mem_nil)
  show u.foldl _ [] = _
  rw [show ([] : List (Str × Int)) = rep [] (fun _ => 0) from rfl, this]
  unfold tab
  refine rep_congr fun c _ => ?_
  rw [count_cnt]
theorem sum_bump {c : Nat} {f : Nat → Int} {n : Int} : ∀ {ks : List Nat}, ks.Nodup → ((ks.map fun d => if d = c then f c + n else f d).sum = (ks.map f).sum + if c ∈ ks then n else 0)
  | [], _ => by simp
  | d :: ks, h => by
    have h' := List.nodup_cons.mp h
    have ih := sum_bump (c := c) (f := f) (n := n) h'.2
    rw [List.map_cons, List.sum_cons, ih, List.map_cons, List.sum_cons]
    by_cases q : d = c
    · subst q
      simp [h'.1]; omega
    · have : ¬ c = d := fun e => q e.symm
      simp [q, this]; omega
theorem sum_tab : ∀ u : List Nat, sumT (tab u) = u.length := by
  have : ∀ (v u : List Nat), u = v.reverse → sumT (tab u) = u.length := by
    intro v
    induction v with
    | nil => rintro u rfl; rfl
    | cons c v ih =>
      rintro u rfl
      rw [List.reverse_cons]
      have ih' := ih _ rfl
      generalize v.reverse = x at ih' ⊢
      have e : dd (x ++ [c]) = ins (dd x) c := by unfold dd; rw [List.foldl_append]; rfl
      have hs : ∀ (ks : List Nat) (f : Nat → Int), sumT (rep ks f) = (ks.map f).sum := fun ks f => by
        unfold sumT rep; rw [List.map_map]; rfl
      unfold tab at ih' ⊢
      rw [hs] at ih' ⊢
      rw [e]
      have hf : (fun d => cnt d (x ++ [c])) = fun d => if d = c then cnt c x + 1 else cnt d x := by
        funext d
        rw [cnt_append, cnt_cons, cnt_nil]
        by_cases q : d = c
        · subst q; simp
        · have : ¬ c = d := fun e => q e.symm
          simp [q, this]
      rw [hf, sum_bump (c := c) (f := fun d => cnt d x) (n := 1) (ins_nodup (dd_nodup x) c), if_pos (mem_ins.mpr (.inr rfl))]
      rw [List.length_append]
      unfold ins
      split
      · rw [ih']; simp
      · rename_i hc
        rw [List.map_append, List.sum_append, ih']
        have : cnt c x = 0 := cnt_zero fun q => hc (dd_mem.mpr q)
        simp [this]
  intro u
  exact this u.reverse u (by simp)

/-! growing -/
theorem grow_append (W : Words) (u v : List Nat) : grow W (u ++ v) = grow W u ++ grow W v := by simp [grow]
theorem growN_append (W : Words) (u v : List Nat) : ∀ k, growN W k (u ++ v) = growN W k u ++ growN W k v
  | 0 => rfl
  | k + 1 => by rw [growN, growN, growN, growN_append W u v k, grow_append]
theorem growN_nil (W : Words) : ∀ k, growN W k [] = []
  | 0 => rfl
  | k + 1 => by rw [growN, growN_nil W k]; rfl
theorem growN_grow (W : Words) (u : List Nat) : ∀ k, growN W (k + 1) u = growN W k (grow W u)
  | 0 => rfl
  | k + 1 => by rw [growN, growN_grow W u k]; rfl
theorem grow_one (W : Words) (l : Nat) : grow W [l] = W.at l := by simp [grow]
theorem growN_cons (W : Words) (k c : Nat) (u : List Nat) : growN W k (c :: u) = growN W k [c] ++ growN W k u := by rw [← growN_append]; rfl
theorem mergeAll_tab {W : Words} {t : Nat} (h : ∀ c, led W t c = tab (growN W t [c])) : ∀ (u v : List Nat), mergeAll (led W t) u (tab v) = tab (v ++ growN W t u)
  | [], v => by rw [growN_nil, List.append_nil]; rfl
  | c :: u, v => by
    show mergeAll (led W t) u (merge (tab v) (led W t c)) = _
    rw [h c, merge_tab, mergeAll_tab h u, growN_cons W t c u, List.append_assoc]
theorem led_tab (W : Words) : ∀ t l, led W t l = tab (growN W t [l])
  | 0, l => (tab_one l).symm
  | t + 1, l => by
    rw [led]
    have := mergeAll_tab (led_tab W t) (W.at l) []
    rw [tab_nil, List.nil_append] at this
    rw [this, growN_grow, grow_one]
/-- the walk leads to the place -/
theorem walk_is {W : Words} {N : Nat} (hW : W.Ok N) (hN : 0 < N) (fg : Nat → Nat) : ∀ (j l p : Nat) (v : List Nat), p < N ^ j → (∀ i, i < j → fg i = p / N ^ i % N) →
    walk W fg j l (tab v) = ((growN W j [l]).getD p 97, tab (v ++ (growN W j [l]).take p))
  | 0, l, p, v, hp, _ => by
    have : p = 0 := by simpa using hp
    subst this
    simp [walk, growN]
  | j + 1, l, p, v, hp, hf => by
    have hpos : 0 < N ^ j := Nat.pow_pos hN
    have hd : fg j = p / N ^ j := by
      rw [hf j (Nat.lt_succ_self _), Nat.mod_eq_of_lt]
      exact Nat.div_lt_of_lt_mul (by rw [Nat.pow_succ] at hp; exact hp)
    have hdN : fg j < N := by rw [hd]; exact Nat.div_lt_of_lt_mul (by rw [Nat.pow_succ] at hp; exact hp)
    have hlt : fg j < (W.at l).length := by rw [hW.len]; exact hdN
    rw [walk, mergeAll_tab (led_tab W j)]
    have ih := walk_is hW hN fg j ((W.at l).getD (fg j) 97) (p % N ^ j) (v ++ growN W j ((W.at l).take (fg j))) (Nat.mod_lt _ hpos) (fun i hi => by
      rw [hf i (Nat.lt_succ_of_lt hi)]
      have e : N ^ j = N ^ i * (N * N ^ (j - i - 1)) := by
        rw [← Nat.pow_succ', ← Nat.pow_add]; congr 1; omega
      rw [e, Nat.mod_mul_right_div_self, Nat.mod_mul_right_mod])
    rw [ih]
    -- the word of l, split at the figure
    have esplit : W.at l = (W.at l).take (fg j) ++ ((W.at l).getD (fg j) 97 :: (W.at l).drop (fg j + 1)) := by
      have h1 : (W.at l).getD (fg j) 97 = (W.at l)[fg j] := by rw [List.getD_eq_getElem?_getD, List.getElem?_eq_getElem hlt]; rfl
      rw [h1, ← List.drop_eq_getElem_cons hlt, List.take_append_drop]
    have eg : growN W (j + 1) [l] = growN W j ((W.at l).take (fg j)) ++ (growN W j [(W.at l).getD (fg j) 97] ++ growN W j ((W.at l).drop (fg j + 1))) := by
      rw [growN_grow, grow_one]
      conv => lhs; rw [esplit]
      rw [growN_append, growN_cons]
    have hl1 : (growN W j ((W.at l).take (fg j))).length = p / N ^ j * N ^ j := by
      rw [growN_length hW, List.length_take, Nat.min_eq_left (Nat.le_of_lt hlt), hd]
    have hl2 : (growN W j [(W.at l).getD (fg j) 97]).length = N ^ j := by rw [growN_length hW]; simp
    have hpe : p = p / N ^ j * N ^ j + p % N ^ j := by rw [Nat.mul_comm]; exact (Nat.div_add_mod p (N ^ j)).symm
    have hm := Nat.mod_lt p hpos
    generalize growN W j ((W.at l).take (fg j)) = X at *
    generalize growN W j [(W.at l).getD (fg j) 97] = Y at *
    generalize growN W j ((W.at l).drop (fg j + 1)) = Z at *
    rw [eg]
    generalize p % N ^ j = q at *
    have hp1 : p = X.length + q := by rw [hl1]; exact hpe
    have hq : q < Y.length := by rw [hl2]; exact hm
    congr 1
    · rw [List.getD_eq_getElem?_getD, List.getD_eq_getElem?_getD, hp1, List.getElem?_append_right (by omega), List.getElem?_append_left (by omega)]
      congr 2; omega
    · rw [hp1, List.take_length_add_append, List.take_append_of_le_length (by omega), List.append_assoc]
end Mine

namespace Mine

section
variable {prog : Program} {w : World} {A : Around} {s : Shared} {env : Env} {own : List Addr} {B₀ h₀ B : Heap} {m cm : Str → Option Value} {pins : List (Addr × Obj)}

/-- the turns of a list comprehension; an old object at P may be turned too -/
theorem cl_listP {R : Result → Shared → Prop} {elt iter : Expr} {x : Str} {px pos : Pos} {scope : Scope} {I D P : Addr} {oP : Obj} {k₀ : Nat} {fp : List Addr} {n : Nat} {Pr : Nat → Value → Prop} {St' : Nat → Heap → Prop}
    (W : Walks prog w A I fp [I] n Pr St') (live : ∀ i h, St' i h → ∃ o, h.get? I = some o) (hsz : n ≤ 10000)
    (hx : env.kindOf x = some .local) (hp : (env.scope.kind == .class || (env.scope.kind == .module && env.locals != env.globals)) = false)
    (F : Fx env own B₀ h₀ B s.heap m cm [(D, { cls := .type "list", data := .seq #[] k₀ }), (P, oP)]) (hst : St' 0 s.heap)
    (hI : B.get? I = none ∧ h₀.get? I = none ∧ I ∉ Xof env own [(D, ({ cls := .type "list", data := .seq #[] k₀ } : Obj)), (P, oP)] ∧ ∀ n, env.cells.lookup n ≠ some I)
    (hfp : ∀ b ∈ fp, b ∉ Xof env own [(D, ({ cls := .type "list", data := .seq #[] k₀ } : Obj)), (P, oP)])
    (J : Nat → Heap → List Value → Obj → Prop) (j0 : J 0 B [] oP)
    (turn : ∀ (i : Nat) (v : Value) (B₁ h₁ : Heap) (m₁ : Str → Option Value) (od₁ oP₁ : Obj) (ys : List Value) (tk : Nat), i < n → Pr i v → J i B₁ ys oP₁ → Keep B B₁ →
      Fx env own B₁ h₁ B₁ h₁ (fun y => if y = x then some v else m₁ y) cm [(D, od₁), (P, oP₁)] →
      wpAny (model prog w) A (eval elt env) (fun y s' => ∃ B₂ h₂ m₂ oP₂ tk₂, s' = { s with heap := h₂, toks := tk₂ } ∧ Fx env own B₁ h₁ B₂ h₂ m₂ cm [(D, od₁), (P, oP₂)] ∧ J (i + 1) B₂ (ys ++ [y]) oP₂) NE { s with heap := h₁, toks := tk })
    (done : ∀ (B' h' : Heap) (m' : Str → Option Value) (ys : List Value) (oP' : Obj) (k tk' : Nat), J n B' ys oP' → Keep B B' → Fx env own B₀ h₀ B' h' m' cm [(D, { cls := .type "list", data := .seq ys.toArray k }), (P, oP')] → R (.ok .next) { s with heap := h', toks := tk' }) :
    codeAny (model prog w) A (.compLoop (.ListComp elt [⟨.Name x px, iter, [], 0⟩] scope pos) 0 (.ref I) (.ref D) env) R s := by
  refine codeAny_compLoop_list (fun q s' => ∃ i B' h' m' ys oP' k tk', s' = { s with heap := h', toks := tk' } ∧ J i B' ys oP' ∧ ys.length = i ∧ Keep B B' ∧ Fx env own B₀ h₀ B' h' m' cm [(D, { cls := .type "list", data := .seq ys.toArray k }), (P, oP')] ∧ St' i h' ∧
    B'.get? I = none ∧ i ≤ n ∧ q = n + 1 - i) ?_ (n + 1) ⟨0, B, s.heap, m, [], oP, k₀, s.toks, rfl, j0, rfl, Keep.refl _, F, hst, hI.1, Nat.zero_le _, rfl⟩
  rintro q s' ⟨i, B', h', m', ys, oP', k, tk', rfl, hj, hlen, hk, F', hst', hIB, hi, rfl⟩
  have hw : ∀ b ∈ [I], B'.get? b = none ∧ h₀.get? b = none ∧ b ∉ Xof env own [(D, ({ cls := .type "list", data := .seq ys.toArray k } : Obj)), (P, oP')] ∧ ∀ n, env.cells.lookup n ≠ some b := fun b hb => by
    rw [List.mem_singleton.mp hb]; exact ⟨hIB, hI.2.1, hI.2.2.1, hI.2.2.2⟩
  by_cases hlt : i < n
  · refine W.item i _ _ _ hlt hst' fun v h₁ tk₁ hPv hst₁ hk₁ => ?_
    have F₁ := F'.other hw hk₁
    refine wpAny_assign_Name (stLs F₁ (fun h₂ F₂ hs₂ => ?_) hx hp)
    have hst₂ : St' (i + 1) h₂ := W.frame _ _ _ hst₁ fun b hb o e => hs₂.extBut b o (fun q => hfp b hb (q ▸ List.mem_cons_self ..)) e
    refine wpAny_mono (turn i v B' h₂ m' _ oP' ys (tk₁ + 1) hlt hPv hj hk F₂.again) (fun y s₃ h₃ => ?_) fun _ _ e => e.elim
    obtain ⟨B₂, h₃, m₂, oP₂, tk₂, rfl, F₃, hj₂⟩ := h₃
    have hst₃ : St' (i + 1) h₃ := W.frame _ _ _ hst₂ fun b hb o e => F₃.st.old b o (hfp b hb) e
    refine wpAny_list_append_plain (items := ys.toArray) ⟨k, F₃.pin_get⟩ (fun h₄ hl₄ hs₄ => ?_) (by rw [List.size_toArray, sizeLine_eq]; omega)
    obtain ⟨k', hl₄⟩ := hl₄
    have e4 : ys.toArray.push y = (ys ++ [y]).toArray := by simp
    rw [e4] at hl₄
    have F₄ := (F₂.trans F₃ rfl).setPin hl₄ hs₄
    have hDf : ∀ b ∈ fp, b ≠ D := fun b hb e => by
      subst e
      exact hfp b hb (Fx.mem_pin (p := (b, ({ cls := .type "list", data := .seq #[] k₀ } : Obj))) (List.mem_cons_self ..))
    refine ⟨n + 1 - (i + 1), by omega, i + 1, B₂, h₄, m₂, ys ++ [y], oP₂, k', tk₂, rfl, hj₂, by simp [hlen], hk.trans F₃.st.sub, F₄, W.frame _ _ _ hst₃ fun b hb o e => hs₄.extBut b o (hDf b hb) e, ?_, hlt, rfl⟩
    obtain ⟨oI, eI⟩ := live _ _ hst₂
    cases e : B₂.get? I with
    | none => rfl
    | some o =>
      rcases F₃.st.new I o e with q | q
      · rw [hIB] at q; cases q
      · rw [eI] at q; cases q
  · have hin : i = n := by omega
    subst hin
    refine W.done _ _ _ hst' fun h₁ tk₁ hk₁ => ?_
    exact done B' h₁ m' ys oP' k tk₁ hj hk (F'.other hw hk₁)

theorem lc_blockP {elt iter : Expr} {x : Str} {px pos : Pos} {scope : Scope} {cl : List (Str × Addr)} {P : Addr} {oP : Obj} {n : Nat} {Pr : Nat → Value → Prop} {RR : Value → Addr → Result → Shared → Prop}
    (F : Fx env own B₀ h₀ B s.heap m cm ((P, oP) :: pins)) (hsz : n ≤ 10000) (hcell : ∀ y ∈ scope.names, y.2 ≠ .cell) (hkind : scope.kind = .function) (hx : scope.names.lookup x = some .local)
    (hcl : ∀ n c, cl.lookup n = some c → env.cells.lookup n = some c)
    {I : Addr} {fp : List Addr} {St' : Nat → Heap → Prop} {h' : Heap} {tk' : Nat} (hk : Keep s.heap h') (hI : s.heap.get? I = none) (W : Walks prog w A I fp [I] n Pr St') (live : ∀ i h, St' i h → ∃ o, h.get? I = some o) (hst : St' 0 h')
    (hfp : ∀ b ∈ fp, b < h'.objs.size ∧ b ≠ P)
    (J : Nat → Heap → List Value → Obj → Prop) (j0 : J 0 B [] oP)
    (turn : ∀ (C D i : Nat) (v : Value) (B₁ h₁ : Heap) (m₁ : Str → Option Value) (od₁ oP₁ : Obj) (ys : List Value) (tk : Nat), i < n → Pr i v → J i B₁ ys oP₁ → Keep B B₁ →
      Fx (compEnvC scope cl C env) [] B₁ h₁ B₁ h₁ (fun y => if y = x then some v else m₁ y) cm [(D, od₁), (P, oP₁)] →
      wpAny (model prog w) A (eval elt (compEnvC scope cl C env)) (fun y s' => ∃ B₂ h₂ m₂ oP₂ tk₂, s' = { s with heap := h₂, toks := tk₂ } ∧ Fx (compEnvC scope cl C env) [] B₁ h₁ B₂ h₂ m₂ cm [(D, od₁), (P, oP₂)] ∧ J (i + 1) B₂ (ys ++ [y]) oP₂) NE { s with heap := h₁, toks := tk })
    (fin : ∀ (D C : Addr) (B' B'' h'' : Heap) (mC : Str → Option Value) (ys : List Value) (oP' : Obj) (tk : Nat), J n B' ys oP' → Keep B' B'' → St [P] B s.heap B'' h'' → h''.get? P = some oP' → B''.PlainList D ys.toArray → s.heap.get? C = none → B''.get? C = none → h''.Ns C mC →
      RR (.ref D) C (.ok .next) { s with heap := h'', toks := tk }) :
    wpAny (model prog w) A (newList []) (fun acc s₃ => wpAny (model prog w) A (newFunctionEnv scope env.globals cl [] env.qual none .none (some env)) (fun cenv s₄ =>
      codeAny (model prog w) A (.compStart (.ListComp elt [⟨.Name x px, iter, [], 0⟩] scope pos) 0 (.ref I) acc { cenv with scope := relabel scope env }) (RR acc cenv.locals) s₄) NE s₃) NE { s with heap := h', toks := tk' } := by
  refine wpAny_newObj_type (wpAny_newFunctionEnv hcell (by intro y hy; simp at hy) (fun h₁ hns₁ hsb₁ => ?_) hkind)
  dsimp only at hns₁ hsb₁ ⊢
  obtain ⟨F1, hk1⟩ := F.comp (scope := scope) (cl := cl) hk rfl hns₁ hsb₁ hcl
  have hIlt : I < h'.objs.size := let ⟨o, e⟩ := live _ _ hst; Heap.lt_size e
  have hPlt : P < h'.objs.size := Heap.lt_size (hk _ _ F.pin_get)
  have hPI : I ≠ P := fun q => by rw [q, F.pin_get] at hI; cases hI
  have hXn : ∀ b, b < h'.objs.size → b ∉ Xof (compEnvC scope cl (h'.push { cls := .type "list", dict := none, data := .seq ([] : List Value).toArray }).objs.size env) [] [(h'.objs.size, ({ cls := .type "list", data := .seq #[] } : Obj))] := fun b hb q => by
    have hC : (h'.push { cls := .type "list", dict := none, data := .seq ([] : List Value).toArray }).objs.size = h'.objs.size + 1 := Heap.size_push ..
    simp only [Xof, compEnvC, List.map_cons, List.map_nil, List.nil_append, List.mem_cons, List.not_mem_nil, or_false, hC] at q
    rcases q with q | q <;> (rw [q] at hb; exact absurd hb (by simp))
  have hXn2 : ∀ b, b < h'.objs.size → b ≠ P → b ∉ Xof (compEnvC scope cl (h'.push { cls := .type "list", dict := none, data := .seq ([] : List Value).toArray }).objs.size env) [] [(h'.objs.size, ({ cls := .type "list", data := .seq #[] } : Obj)), (P, oP)] := fun b hb hbP q => by
    have e : b = P ∨ b ∈ Xof (compEnvC scope cl (h'.push { cls := .type "list", dict := none, data := .seq ([] : List Value).toArray }).objs.size env) [] [(h'.objs.size, ({ cls := .type "list", data := .seq #[] } : Obj))] := by
      simp only [Xof, List.map_cons, List.map_nil, List.nil_append, List.mem_cons, List.not_mem_nil, or_false] at q ⊢
      rcases q with q | q | q
      · exact .inr (.inl q)
      · exact .inr (.inr q)
      · exact .inl q
    exact e.elim hbP (hXn b hb)
  have hBP : B.get? P = none := F.st.off P (Fx.mem_pin (p := (P, oP)) (List.mem_cons_self ..))
  replace F1 := (F1.pinOld (hk1 _ _ (hk _ _ F.pin_get)) hBP (hXn P hPlt) (fun y hy => F.cell_ne_pin (hcl y P hy) (p := (P, oP)) (List.mem_cons_self ..) rfl)).swap
  have hD0 : s.heap.get? h'.objs.size = none := none_of_keep hk (none_of_ge (Nat.le_refl _))
  have hC0 : s.heap.get? (h'.push { cls := .type "list", dict := none, data := .seq ([] : List Value).toArray }).objs.size = none := none_of_keep hk (none_of_ge (by rw [Heap.size_push]; exact Nat.le_succ _))
  have loop : ∀ s₃ : Shared, s₃ = { s with heap := h₁, toks := tk' + ([] : List (Str × Value)).length } →
      codeAny (model prog w) A (.compLoop (.ListComp elt [⟨.Name x px, iter, [], 0⟩] scope pos) 0 (.ref I) (.ref h'.objs.size) (compEnvC scope cl (h'.push { cls := .type "list", dict := none, data := .seq ([] : List Value).toArray }).objs.size env))
        (RR (.ref h'.objs.size) (h'.push { cls := .type "list", dict := none, data := .seq ([] : List Value).toArray }).objs.size) s₃ := by
    rintro s₃ rfl
    refine cl_listP (s := { s with heap := h₁, toks := _ }) (k₀ := 0) W live hsz (lookup_relabel_local hx) (by simp [compEnvC, relabel, hkind]) F1 (W.frame _ _ _ hst fun b _ o e => hk1 b o e)
      ⟨none_of_keep F.keep hI, hI, hXn2 I hIlt hPI, fun n hn => ?_⟩ (fun b hb => hXn2 b (hfp b hb).1 (hfp b hb).2) J j0 (turn _ _) ?_
    · obtain ⟨o, e, _⟩ := F.cell n I (hcl n I hn); rw [hI] at e; cases e
    · intro B' h'' m' ys oP' k tk₁ hj hkB F2
      have hnC := F2.ns
      obtain ⟨B'', hk2, hD2, F3⟩ := F2.freeze hD0
      exact fin _ _ B' B'' h'' m' ys oP' tk₁ hj hk2 (F3.leaveG hC0 fun c hc => absurd hc List.not_mem_nil) F3.pin_get ⟨k, hD2⟩ hC0 (F3.st.off _ (List.mem_cons_self ..)) hnC
  exact codeAny_compStart_list (loop _ rfl) (W.self 0 _ _ _ (W.frame _ _ _ hst fun b _ o e => hk1 b o e) (loop _ rfl))

theorem as_lcP {E : Value → Shared → Prop} {elt iter : Expr} {x y : Str} {px py pos spos : Pos} {scope : Scope} {cl : List (Str × Addr)} {P : Addr} {oP : Obj} {n : Nat} {Pr : Nat → Value → Prop} {Q : Flow → Shared → Prop}
    {fm fc : Value → (Str → Option Value) → Str → Option Value} (hst : Sto prog w A env own y fm fc)
    (F : Fx env own B₀ h₀ B s.heap m cm ((P, oP) :: pins)) (hS : Src prog w A env B s iter n Pr) (hclos : closureFor scope env = pure cl)
    (J : Nat → Heap → List Value → Obj → Prop) (j0 : J 0 B [] oP)
    (turn : ∀ (C D i : Nat) (v : Value) (B₁ h₁ : Heap) (m₁ : Str → Option Value) (od₁ oP₁ : Obj) (ys : List Value) (tk : Nat), i < n → Pr i v → J i B₁ ys oP₁ → Keep B B₁ →
      Fx (compEnvC scope cl C env) [] B₁ h₁ B₁ h₁ (fun y => if y = x then some v else m₁ y) cm [(D, od₁), (P, oP₁)] →
      wpAny (model prog w) A (eval elt (compEnvC scope cl C env)) (fun y s' => ∃ B₂ h₂ m₂ oP₂ tk₂, s' = { s with heap := h₂, toks := tk₂ } ∧ Fx (compEnvC scope cl C env) [] B₁ h₁ B₂ h₂ m₂ cm [(D, od₁), (P, oP₂)] ∧ J (i + 1) B₂ (ys ++ [y]) oP₂) NE { s with heap := h₁, toks := tk })
    (fin : ∀ (D : Addr) (B' B'' h'' : Heap) (ys : List Value) (oP' : Obj) (tk : Nat), J n B' ys oP' → Keep B' B'' → Keep B B'' → B''.PlainList D ys.toArray → Fx env own B₀ h₀ B'' h'' (fm (.ref D) m) (fc (.ref D) cm) ((P, oP') :: pins) → Q .next { s with heap := h'', toks := tk })
    (hsz : n ≤ 10000) (hcl : ∀ n c, cl.lookup n = some c → env.cells.lookup n = some c)
    (hsw : swapsWith (.ListComp elt [⟨.Name x px, iter, [], 0⟩] scope pos) (some (.Name y py)) spos.line env = pure true := by rfl)
    (hs : ∀ x, foldedSetIterable iter env x = pure x := by intro _; rfl)
    (hcell : ∀ y ∈ scope.names, y.2 ≠ .cell := by decide) (hkind : scope.kind = .function := by rfl) (hx : scope.names.lookup x = some .local := by rfl)
    (hnames : ∀ y ∈ scope.names, y.2 = .local → scope.names.lookup y.1 = some .local := by decide) :
    wpAny (model prog w) A (exec (.Assign [.Name y py] (.ListComp elt [⟨.Name x px, iter, [], 0⟩] scope pos) spos) env) Q E s := by
  refine anyE ?_
  rw [exec_Assign_Name_used _ _ _ _ hsw]
  refine wpAny_bind (wpAny_standAt (wpAny_bind ?_))
  show wpAny _ A (do let _ ← comprehension (.ListComp elt [⟨.Name x px, iter, [], 0⟩] scope pos) scope env _ (newList []) false (eval iter env) (some (assign (.Name y py) env))) _ _ s
  refine wpAny_bind (wpAny_mono (wpAny_comprehension_free (use := some (assign (.Name y py) env)) (Q := fun _ s' => Q .next s') rfl hs hclos hkind hnames (hS _ ?_)) (fun _ s' hq => wpAny_pure (wpAny_pure hq)) fun _ _ e => e)
  intro I fp St' h' tk' hk hI W live hst' hfp
  have hBP : B.get? P = none := F.st.off P (Fx.mem_pin (p := (P, oP)) (List.mem_cons_self ..))
  have hPne : ∀ b ∈ fp, b ≠ P := fun b hb q => by
    subst q
    rcases (hfp b hb).2 with ⟨o, e⟩ | e
    · rw [hBP] at e; cases e
    · rw [F.pin_get] at e; cases e
  refine lc_blockP (RR := fun acc C => compPost (model prog w) A NE (some (assign (.Name y py) env)) (fun _ s' => Q .next s') acc C) F hsz hcell hkind hx hcl hk hI W live hst' (fun b hb => ⟨(hfp b hb).1, hPne b hb⟩) J j0 turn ?_
  intro D C B' B'' h'' mC ys oP' tk hj hk2 S hP' hD hC hCB hn
  have F2 := F.callP S hP'
  have hCX := F.srcI hC
  show wpAny _ A (assign (.Name y py) env (.ref D)) _ _ _
  refine wpAny_assign_Name (hst { s with heap := h'', toks := tk } (.ref D) B₀ h₀ B'' m cm ((P, oP') :: pins) _ F2 fun h3 tk3 F3 hk3 => ?_)
  refine ⟨mC, hn.at' fun o e => hk3 C o hCX.2.2.1 e, fun h4 hs4 => fin D B' B'' h4 ys oP' tk3 hj hk2 S.sub hD (F3.other (wr := [C]) (fun b hb => ?_) fun b o hb e => hs4.extBut b o (fun q => hb (q ▸ List.mem_singleton_self _)) e)⟩
  rw [List.mem_singleton.mp hb]; exact ⟨hCB, hCX.2.1, hCX.2.2.1, hCX.2.2.2⟩
end
end Mine

namespace Mine

/-- a new list of ints at v -/
def LI (h₀ : Heap) (ns : List Int) (h : Heap) (v : Value) : Prop := ∃ l vs, v = .ref l ∧ h.IsList l vs.toArray ∧ IntsAre vs ns ∧ h₀.get? l = none
theorem LI.keep {h₀ h h' : Heap} {ns : List Int} {v : Value} (x : LI h₀ ns h v) (k : Keep h h') : LI h₀ ns h' v := let ⟨l, vs, h1, h2, h3, h4⟩ := x; ⟨l, vs, h1, h2.at fun o e => k _ _ e, h3, h4⟩

section
variable {prog : Program} {w : World} {A : Around} {s : Shared} {env : Env} {own : List Addr} {B₀ h₀ B : Heap} {m cm mg mb : Str → Option Value} {pins : List (Addr × Obj)}
/-- an expression that turns nothing; what it gives may be new -/
def EvH (prog : Program) (w : World) (A : Around) (env : Env) (s : Shared) (e : Expr) (V : Heap → Value → Prop) : Prop :=
  ∀ (Q' : Value → Shared → Prop) (E : Value → Shared → Prop) (h : Heap) (tk : Nat), Keep s.heap h → (∀ v h' tk', Keep h h' → V h' v → Q' v { s with heap := h', toks := tk' }) → wpAny (model prog w) A (eval e env) Q' E { s with heap := h, toks := tk }

theorem evh_to {value e : Expr} {pos p : Pos} {l : Addr} {vs : List Value} {ns : List Int} {j : Int} (ho : Ev prog w A env s value (· = .ref l)) (hl : s.heap.IsList l vs.toArray) (hi : IntsAre vs ns) (he : Ev prog w A env s e (IsI j)) (h0 : 0 ≤ j) (hsz : vs.length ≤ 1000) :
    EvH prog w A env s (.Subscript value (.Slice none (some e) none p) pos) (LI s.heap (ns.take j.toNat)) := fun Q' E hp tk hk k => by
  refine Subscript_ (ho _ _ _ _ hk fun v h1 t1 k1 hv => ?_)
  subst hv
  refine wpAny_Slice ?_
  rw [evalPart_none]
  refine wpAny_pure ?_
  rw [evalPart_some]
  refine he _ _ _ _ (hk.trans k1) fun v h2 t2 k2 hv => wpAny_pure ?_
  obtain ⟨uj, rfl⟩ := hv
  have kk : Keep s.heap h2 := hk.trans (k1.trans k2)
  have hl' : (h2.push { cls := .type "slice", data := .fields #[.none, .int j uj, .none] }).IsList l vs.toArray := hl.at fun o e => Heap.get?_push_of_some _ (kk _ _ e)
  refine tail_any (ops := [.ref h2.objs.size, .ref l]) (T := "list") (hl'.typeIs (s := { s with heap := _, toks := _ })) PySem.F.slot_list_getitem.lookup (wpAny_getItem_list_slice hl' (Heap.IsSliceOf.new _ _ _ _) .none (.int j uj) .none (by decide) ?_ (by rw [List.size_toArray, sizeLine_eq]; omega)) rfl
  refine k _ _ _ (k1.trans (k2.trans ((Keep.push _ _).trans (Keep.push _ _)))) ⟨_, (slicePick vs.toArray none (some j) none).toList, rfl, ⟨_, Heap.get?_push_size _ rfl, rfl, 0, by simp⟩, slice_ints_uptoW hi h0, none_of_keep (kk.trans (Keep.push _ _)) (none_of_ge (Nat.le_refl _))⟩

theorem evh_from {value e : Expr} {pos p : Pos} {ns : List Int} {j : Int} (ho : EvH prog w A env s value (LI s.heap ns)) (he : Ev prog w A env s e (IsI j)) (h0 : 0 ≤ j) (hsz : ns.length ≤ 1000) :
    EvH prog w A env s (.Subscript value (.Slice (some e) none none p) pos) (LI s.heap (ns.drop j.toNat)) := fun Q' E hp tk hk k => by
  refine Subscript_ (ho _ _ _ _ hk fun v h1 t1 k1 hv => ?_)
  obtain ⟨l, vs, rfl, hl, hi, hl0⟩ := hv
  refine wpAny_Slice ?_
  rw [evalPart_some]
  refine he _ _ _ _ (hk.trans k1) fun v h2 t2 k2 hv => ?_
  rw [evalPart_none]
  refine wpAny_pure (wpAny_pure ?_)
  obtain ⟨uj, rfl⟩ := hv
  have kk : Keep s.heap h2 := hk.trans (k1.trans k2)
  have hlen : vs.length = ns.length := hi.length
  have hl' : (h2.push { cls := .type "slice", data := .fields #[.int j uj, .none, .none] }).IsList l vs.toArray := hl.at fun o e => Heap.get?_push_of_some _ (k2 _ _ e)
  refine tail_any (ops := [.ref h2.objs.size, .ref l]) (T := "list") (hl'.typeIs (s := { s with heap := _, toks := _ })) PySem.F.slot_list_getitem.lookup (wpAny_getItem_list_slice hl' (Heap.IsSliceOf.new _ _ _ _) (.int j uj) .none .none (by decide) ?_ (by rw [List.size_toArray, sizeLine_eq]; omega)) rfl
  refine k _ _ _ (k1.trans (k2.trans ((Keep.push _ _).trans (Keep.push _ _)))) ⟨_, (slicePick vs.toArray (some j) none none).toList, rfl, ⟨_, Heap.get?_push_size _ rfl, rfl, 0, by simp⟩, slice_ints_fromW hi h0, none_of_keep (kk.trans (Keep.push _ _)) (none_of_ge (Nat.le_refl _))⟩

theorem evh_three {a b c : Int} {k1 k2 k3 : Nat} {p1 p2 p3 pos : Pos} : EvH prog w A env s (.List [.Constant (.int a) k1 p1, .Constant (.int b) k2 p2, .Constant (.int c) k3 p3] pos) (LI s.heap [a, b, c]) := fun Q' E hp tk hk k => by
  refine wpAny_List (args_cons (wpAny_Constant_int (args_cons (wpAny_Constant_int (args_cons (wpAny_Constant_int (args_nil ⟨by simp [sizeLine_eq], ?_⟩)) rfl)) rfl)) rfl)
  exact k _ _ _ (Keep.push _ _) ⟨_, [.int a tk, .int b (tk + 1), .int c (tk + 1 + 1)], rfl, ⟨_, Heap.get?_push_size _ rfl, rfl, 0, rfl⟩, .cons _ _ (.cons _ _ (.cons _ _ .nil)), none_of_keep hk (none_of_ge (Nat.le_refl _))⟩

theorem ev_sum {e : Expr} {np pos : Pos} {ns : List Int} (hA : A.handled = none) (F : Fx env own B₀ h₀ B s.heap m cm pins) (G : Gl mg mb B) (he : EvH prog w A env s e (LI s.heap ns))
    (hg : env.globals = mainGlobals := by rfl) (hb : env.builtins = builtinsNs := by rfl) (hk : env.scope.kind = .function := by rfl) (hx : env.kindOf (Str.ofString "sum") = some .globalImplicit := by rfl)
    (hse : starEach [e] env = (false, eval e env) :: starEach [] env := by rfl) (hcall : eval (.Call (.Name (Str.ofString "sum") np) [e] [] pos) env = (do callWith pos (← eval (.Name (Str.ofString "sum") np) env) [] (backTo pos (starEach [e] env)) (backToKw pos (keywordEach [] env))) := by rfl) :
    Ev prog w A env s (.Call (.Name (Str.ofString "sum") np) [e] [] pos) (IsI ns.sum) := fun Q' E hp tk hkk k => by
  refine Call_ (nmB (s := { s with heap := hp, toks := tk }) (F.step hkk) G (by decide) boot_sum ?_ hg hb hk hx) hcall
  refine PyProof.Rows.callWith_builtin1 (args_cons (he _ _ _ _ hkk fun v h1 t1 k1 hv => args_nil ?_) hse) hse rfl
  obtain ⟨l, vs, rfl, hl, hi, _⟩ := hv
  obtain ⟨xs, hxs⟩ := hi.allInts.items
  have hl' : h1.IsList l (intItems xs) := hxs ▸ hl
  refine sum_intListG (s := { s with heap := h1, toks := t1 }) hA hl' fun h' tk' t' hk' => ?_
  have e1 : xs.toList.map (·.1) = ns := by
    have := hi.numsOf
    rw [← this, ← nums_intItems, ← hxs]
  have e2 : preSum (numAt xs) xs.size = ns.sum := by
    rw [preSum_eq, List.take_of_length_le (by simp), e1]
  exact k _ _ _ (k1.trans hk') ⟨t', by rw [e2]⟩

theorem ev_lenH {e : Expr} {np pos : Pos} {ns : List Int} (F : Fx env own B₀ h₀ B s.heap m cm pins) (G : Gl mg mb B) (he : EvH prog w A env s e (LI s.heap ns)) (hfit : ns.length ≤ 10000)
    (hg : env.globals = mainGlobals := by rfl) (hb : env.builtins = builtinsNs := by rfl) (hk : env.scope.kind = .function := by rfl) (hx : env.kindOf (Str.ofString "len") = some .globalImplicit := by rfl)
    (hse : starEach [e] env = (false, eval e env) :: starEach [] env := by rfl) (hcall : eval (.Call (.Name (Str.ofString "len") np) [e] [] pos) env = (do callWith pos (← eval (.Name (Str.ofString "len") np) env) [] (backTo pos (starEach [e] env)) (backToKw pos (keywordEach [] env))) := by rfl) :
    Ev prog w A env s (.Call (.Name (Str.ofString "len") np) [e] [] pos) (IsI ns.length) := fun Q' E hp tk hkk k => by
  refine Call_ (nmB (s := { s with heap := hp, toks := tk }) (F.step hkk) G (by decide) boot_len ?_ hg hb hk hx) hcall
  refine PyProof.Rows.callWith_builtin1 (args_cons (he _ _ _ _ hkk fun v h1 t1 k1 hv => args_nil ?_) hse) hse rfl
  obtain ⟨l, vs, rfl, hl, hi, _⟩ := hv
  have hlen : vs.length = ns.length := hi.length
  refine PyProof.Rows.len_list hl (by rw [List.size_toArray]; omega) ?_
  exact k _ h1 _ k1 ⟨t1 + 1, by rw [List.size_toArray, hlen]⟩

/-- two lists, one behind the other: a new list -/
theorem add_list0 {E : Value → Shared → Prop} {l b : Addr} {vs ws : List Value} {Q : Value → Shared → Prop} (hl : s.heap.IsList l vs.toArray) (hb : s.heap.IsList b ws.toArray)
    (h : Q (.ref s.heap.objs.size) { s with heap := s.heap.push { cls := .type "list", data := .seq (vs ++ ws).toArray } }) (hsz : vs.length + ws.length ≤ 10000) :
    wpAny (model prog w) A (binaryOp .Add (.ref l) (.ref b)) Q E s := by
  obtain ⟨⟨c1, d1, x1, s1⟩, e1, t1, n1, q1⟩ := id hl
  obtain ⟨⟨c2, d2, x2, s2⟩, e2, t2, n2, q2⟩ := id hb
  cases t1; cases q1; cases t2; cases q2
  refine concat_meets ⟨_, e1, rfl⟩ ⟨_, e2, rfl⟩ noFill_list_add seq_list_add PySem.F.slot_list_add PySem.F.entry_list_add (PySem.F.args_list_add_2 _ _) (list_addW l b vs.toArray ws.toArray n1 n2 d1 d2 s1 s2 (by rw [List.size_toArray, List.size_toArray, sizeLine_eq]; omega)) ⟨e1, e2, ?_⟩
  rw [List.append_toArray]
  exact h

theorem walks_mono {I : Addr} {fp wr : List Addr} {n n' : Nat} {P P' : Nat → Value → Prop} {St : Nat → Heap → Prop} (W : Walks prog w A I fp wr n P St) (hn : n = n') (h : ∀ i v, P i v → P' i v) : Walks prog w A I fp wr n' P' St where
  sub := W.sub
  frame := W.frame
  item := fun i s Q E hi st hQ => W.item i s Q E (by omega) st fun v h' tk hP => hQ v h' tk (h i v hP)
  done := fun s Q E st hQ => W.done s Q E (by rw [hn]; exact st) hQ
  self := W.self
theorem ints_at {vs : List Value} {ns : List Int} (h : IntsAre vs ns) {i : Nat} {v : Value} (hv : vs[i]? = some v) : ∃ n, ns[i]? = some n ∧ IsI n v := by
  have hlt : i < ns.length := by
    have := (List.getElem?_eq_some_iff.mp hv).1
    rw [h.length] at this; exact this
  obtain ⟨t, e⟩ := IntsAre.get h i ns[i] (List.getElem?_eq_getElem hlt)
  rw [hv] at e; cases e
  exact ⟨_, List.getElem?_eq_getElem hlt, t, rfl⟩
/-- a source: one new list behind another -/
theorem src_add {l r : Expr} {pos : Pos} {ns ms : List Int} (hA : A.handled = none) (F : Fx env own B₀ h₀ B s.heap m cm pins) (hl : EvH prog w A env s l (LI s.heap ns)) (hr : EvH prog w A env s r (LI s.heap ms)) (hsz : ns.length + ms.length ≤ 1000) :
    Src prog w A env B s (.BinOp l .Add r pos) (ns.length + ms.length) (fun i v => ∃ n, (ns ++ ms)[i]? = some n ∧ IsI n v) := fun Q' hQ' => by
  refine wpAny_BinOp (hl _ _ s.heap s.toks (Keep.refl _) fun v1 h1 t1 k1 hv1 => hr _ _ _ _ k1 fun v2 h2 t2 k2 hv2 => ?_)
  obtain ⟨l1, vs, rfl, hl1, hi1, _⟩ := hv1.keep k2
  obtain ⟨l2, ws, rfl, hl2, hi2, _⟩ := hv2
  have hn1 : vs.length = ns.length := hi1.length
  have hn2 : ws.length = ms.length := hi2.length
  refine add_list0 (s := { s with heap := h2, toks := t2 }) hl1 hl2 ?_ (by omega)
  have hls : (h2.push { cls := .type "list", data := .seq (vs ++ ws).toArray }).IsList h2.objs.size (vs ++ ws).toArray := ⟨_, Heap.get?_push_size _ rfl, rfl, 0, rfl⟩
  refine wpAny_pyIter_list hls ?_
  have kk : Keep s.heap h2 := k1.trans k2
  have hsz2 : (h2.push { cls := .type "list", data := .seq (vs ++ ws).toArray }).objs.size = h2.objs.size + 1 := Heap.size_push ..
  have hlt : h2.objs.size < (h2.push { cls := .type "list", data := .seq (vs ++ ws).toArray }).objs.size := by rw [hsz2]; exact Nat.lt_succ_self _
  have W := Walks.list (prog := prog) (w := w) hA (h2.push { cls := .type "list", data := .seq (vs ++ ws).toArray }).objs.size h2.objs.size (Nat.ne_of_lt hlt) (vs ++ ws).toArray
  simp only [List.size_toArray, List.getElem?_toArray] at W
  have hI2 : s.heap.get? (h2.push { cls := .type "list", data := .seq (vs ++ ws).toArray }).objs.size = none := none_of_keep (kk.trans (Keep.push _ _)) (none_of_ge (Nat.le_refl _))
  have W' := walks_mono (n' := ns.length + ms.length) (P' := fun i v => ∃ n, (ns ++ ms)[i]? = some n ∧ IsI n v) W (by rw [List.length_append, hn1, hn2]) fun i v hP => ints_at (hi1.append hi2) hP
  refine hQ' _ _ _ _ t2 (kk.trans ((Keep.push _ _).trans (Keep.push _ _))) hI2 W' (fun i h st => let ⟨o, e, _⟩ := st.1; ⟨o, e⟩)
    ⟨⟨_, Heap.get?_push_size _ rfl, rfl, rfl⟩, hls.at fun o e => Heap.get?_push_of_some _ e⟩ ?_
  intro b hb
  rcases List.mem_cons.mp hb with rfl | hb
  · exact ⟨Nat.lt_of_lt_of_eq (Nat.lt_succ_self _) (Heap.size_push ..).symm, .inr hI2⟩
  · rw [List.mem_singleton.mp hb]
    exact ⟨Nat.lt_of_lt_of_eq (Nat.lt_succ_of_lt hlt) (Heap.size_push ..).symm, .inr (none_of_keep kk (none_of_ge (Nat.le_refl _)))⟩
end
end Mine

namespace Mine

theorem wordOf_len (d : Int) (n : Nat) : (wordOf d n).length = n := by simp [wordOf]
theorem wordOf_ltrs (d : Int) (n : Nat) : Ltrs (wordOf d n) := fun c hc => by
  simp only [wordOf, List.mem_map] at hc
  obtain ⟨i, _, rfl⟩ := hc
  have := figOf_range d i
  unfold Ltr; omega
theorem word_ok (d0 d1 d2 : Int) (N : Nat) : (⟨wordOf d0 N, wordOf d1 N, wordOf d2 N⟩ : Words).Ok N where
  ltrs := fun l => by
    unfold Words.at
    split
    · exact wordOf_ltrs d0 N
    · split
      · exact wordOf_ltrs d1 N
      · exact wordOf_ltrs d2 N
  len := fun l => by
    unfold Words.at
    split
    · exact wordOf_len d0 N
    · split
      · exact wordOf_len d1 N
      · exact wordOf_len d2 N
/-- the figures of a place -/
def FigOk (p n r : Nat) : Prop := figLen p n ≤ 1000 ∧ (p = 0 ∨ digsOk n (figLen p n) 8 p 0 (figLen p n) = true) ∧ (figs p n).length ≤ 1000 ∧ ∀ j, j < r → figAt p n j = ((p / (2 ^ n) ^ j % 2 ^ n : Nat) : Int)
theorem figs1 : ∀ p, p < 8 → FigOk p 1 3 := by unfold FigOk; decide +kernel
theorem figs2 : ∀ p, p < 16 → FigOk p 2 2 := by unfold FigOk; decide +kernel
theorem figs_ok {wd : Nat} (h : wd = 1 ∨ wd = 2) {p : Nat} (hp : p < (2 ^ wd) ^ (4 - wd)) : FigOk p wd (4 - wd) := by
  rcases h with rfl | rfl
  · exact figs1 p (by simpa using hp)
  · exact figs2 p (by simpa using hp)
theorem lk_sub {l1 l2 : List (Str × Addr)} (h : ∀ p ∈ l1, l2.lookup p.1 = some p.2) : ∀ n c, l1.lookup n = some c → l2.lookup n = some c := fun n c hc => h (n, c) (mem_of_lookup hc)
theorem inj_cell {l : List (Str × Addr)} (hn : (l.map (·.2)).Nodup) {a b : Str} {c : Addr} (h1 : (a, c) ∈ l) (h2 : (b, c) ∈ l) : a = b := by
  induction l with
  | nil => cases h1
  | cons p r ih =>
    rw [List.map_cons] at hn
    have hn' := List.nodup_cons.mp hn
    rcases List.mem_cons.mp h1 with e1 | h1
    · rcases List.mem_cons.mp h2 with e2 | h2
      · rw [← e1] at e2; exact (congrArg Prod.fst e2).symm
      · exact absurd (List.mem_map.mpr ⟨_, h2, by rw [← e1]⟩) hn'.1
    · rcases List.mem_cons.mp h2 with e2 | h2
      · exact absurd (List.mem_map.mpr ⟨_, h1, by rw [← e2]⟩) hn'.1
      · exact ih hn'.2 h1 h2
theorem ints_of {vs : List Value} : ∀ {f : Nat → Int}, (∀ (j : Nat) (v : Value), vs[j]? = some v → IsI (f j) v) → IntsAre vs ((List.range vs.length).map f) := by
  induction vs with
  | nil => intro f h; exact .nil
  | cons v vs ih =>
    intro f h
    obtain ⟨t, rfl⟩ := h 0 v rfl
    rw [List.length_cons, List.range_succ_eq_map, List.map_cons, List.map_map]
    exact .cons _ t (ih (f := f ∘ Nat.succ) fun j v hj => h (j + 1) v (by simpa using hj))
theorem tab_len (u : List Nat) : (tab u).length ≤ u.length := by
  have key : ∀ (u ks : List Nat), (u.foldl ins ks).length ≤ ks.length + u.length := by
    intro u
    induction u with
    | nil => intro ks; simp
    | cons c u ih =>
      intro ks
      have h1 := ih (ins ks c)
      have h2 : (ins ks c).length ≤ ks.length + 1 := by unfold ins; split <;> simp
      rw [List.foldl_cons, List.length_cons]; omega
  have := key u []
  simpa [tab, rep, dd] using this
theorem strOk_one {c : Nat} (h : Ltr c) : (PyData.str (one c)).canLay0 = true := by
  rcases h with rfl | rfl | rfl <;> decide +kernel
theorem lay_tab {u : List Nat} (hu : Ltrs u) : (itemsD (tab u)).canLay0 = true ∧ (itemsD (tab u)).depth ≤ 3 := by
  have key : ∀ t : List (Str × Int), (∀ e ∈ t, (PyData.str e.1).canLay0 = true) → PyData.canLayAll0 (t.map fun e => PyData.tuple [.str e.1, .int e.2]) = true ∧ PyData.depthAll (t.map fun e => PyData.tuple [.str e.1, .int e.2]) ≤ 2 := by
    intro t
    induction t with
    | nil => intro _; simp [PyData.canLayAll0, PyData.depthAll]
    | cons e t ih =>
      intro h
      have ih := ih fun e' he' => h e' (List.mem_cons_of_mem _ he')
      have h1 := h e (List.mem_cons_self ..)
      have h2 := ih.2
      refine ⟨?_, ?_⟩
      · simp only [List.map_cons, PyData.canLayAll0, PyData.canLay0, ih.1, Bool.and_true]
        simpa only [PyData.canLay0] using h1
      · simp only [List.map_cons, PyData.depthAll, PyData.depth]
        omega
  unfold itemsD
  have := key (tab u) fun e he => by
    simp only [tab, rep, List.mem_map] at he
    obtain ⟨c, hc, rfl⟩ := he
    exact strOk_one (hu c (dd_mem.mp hc))
  refine ⟨by simp only [PyData.canLay0, this.1], ?_⟩
  have h2 := this.2
  simp only [PyData.depth]
  omega
theorem lay_tables : ∀ (us : List (List Nat)), (∀ u ∈ us, Ltrs u) → (PyData.list (us.map fun u => itemsD (tab u))).canLay0 = true ∧ (PyData.list (us.map fun u => itemsD (tab u))).depth ≤ 4 := by
  intro us h
  have key : ∀ us : List (List Nat), (∀ u ∈ us, Ltrs u) → PyData.canLayAll0 (us.map fun u => itemsD (tab u)) = true ∧ PyData.depthAll (us.map fun u => itemsD (tab u)) ≤ 3 := by
    intro us
    induction us with
    | nil => intro _; simp [PyData.canLayAll0, PyData.depthAll]
    | cons u us ih =>
      intro h
      have ih := ih fun v hv => h v (List.mem_cons_of_mem _ hv)
      have h1 := lay_tab (h u (List.mem_cons_self ..))
      have h2 := ih.2
      have h3 := h1.2
      refine ⟨?_, ?_⟩
      · simp only [List.map_cons, PyData.canLayAll0, h1.1, ih.1, Bool.and_true]
      · simp only [List.map_cons, PyData.depthAll]
        omega
  have k := key us h
  refine ⟨by simp only [PyData.canLay0, k.1], ?_⟩
  have h2 := k.2
  simp only [PyData.depth]
  omega
/-- a list whose items read as tables -/
theorem reads_tables {h : Heap} {D : Addr} {vs : List Value} {us : List (List Nat)} (hl : h.IsList D vs.toArray) (hn : vs.length = us.length) (hr : ∀ (j : Nat) (v : Value) (u : List Nat), vs[j]? = some v → us[j]? = some u → ∃ as, Reads h v (itemsD (tab u)) as) :
    ∃ as, Reads h (.ref D) (.list (us.map fun u => itemsD (tab u))) as := by
  obtain ⟨o, ho, hc, n, hd⟩ := hl
  obtain ⟨as, ha⟩ := readsAll_of (h := h) (vs := vs) (ds := us.map fun u => itemsD (tab u)) (by simp [hn]) fun j v d hv hdd => by
    rw [List.getElem?_map, Option.map_eq_some_iff] at hdd
    obtain ⟨t, ht, rfl⟩ := hdd
    exact hr j v t hv ht
  exact ⟨_, Reads.list ho hc hd (by simpa using ha)⟩
end Mine

namespace Mine

/-- the cells of law -/
abbrev CL (L : Nat) : List (Str × Addr) := [(Str.ofString "ledgers", L + 6), (Str.ofString "grown", L + 5), (Str.ofString "opening", L + 4), (Str.ofString "words", L + 3), (Str.ofString "draws", L + 2), (Str.ofString "width", L + 1)]
def drawn (ns : List Int) : List Int := ns.take (3 : Int).toNat ++ ([3, 2, 4] : List Int).drop (((ns.take (3 : Int).toNat).length : Int)).toNat
theorem drawn_len (ns : List Int) : (ns.take (3 : Int).toNat).length + (([3, 2, 4] : List Int).drop (((ns.take (3 : Int).toNat).length : Int)).toNat).length = 3 := by
  have h3 : (3 : Int).toNat = 3 := rfl
  rw [h3, List.length_drop, Int.toNat_natCast, List.length_take]
  simp only [List.length_cons, List.length_nil]
  omega
def drawAt (ns : List Int) (j : Nat) : Int := ((drawn ns).getD j 0).fmod 81
def wordsOf (ns : List Int) (N : Nat) : Words := ⟨wordOf (drawAt ns 0) N, wordOf (drawAt ns 1) N, wordOf (drawAt ns 2) N⟩
theorem two_pow {wd : Nat} (h : wd = 1 ∨ wd = 2) : (2 : Int) ^ (wd : Int).toNat = ((2 ^ wd : Nat) : Int) := by rcases h with rfl | rfl <;> rfl
theorem two_pow2 {wd : Nat} (h : wd = 1 ∨ wd = 2) : (2 : Int) ^ ((wd : Int) * ((4 - wd : Nat) : Int)).toNat = (((2 ^ wd) ^ (4 - wd) : Nat) : Int) := by rcases h with rfl | rfl <;> rfl

section
variable {prog : Program} {w : World} {A : Around} {s : Shared} {mg mb : Str → Option Value} {B : Heap}
theorem law_code {l fa c P : Addr} {vs : List Value} {ns : List Int} {R : Result → Shared → Prop}
    (G : Gl mg mb B) (Tt : Tb mg c P B) (hB : Keep B s.heap) (hP : s.heap.get? P = some (tabObj #[])) (hBP : B.get? P = none) (hf : mg (Str.ofString "law") = some (.ref fa)) (hA : A.handled = none) (hd : A.depth + 20 < recursionLimit) (hu : A.units + 100 < cLine)
    (hl : B.IsList l vs.toArray) (hi : IntsAre vs ns) (hn : ns.length ≤ 63)
    (hR : ∀ (B' h' : Heap) (tk' : Nat) (ps : Array Value), St [P] B s.heap B' h' → h'.get? P = some (tabObj ps) → R (.ok (.ret (.bool true))) { s with heap := h', toks := tk' }) :
    codeAny (model prog w) A (.call (.ref fa) ⟨[.ref l], []⟩) R s := by
  have hvl : vs.length = ns.length := hi.length
  obtain ⟨wd, hwd, hwd2⟩ : ∃ wd : Nat, 1 + ((ns.take (4 : Int).toNat).sum).fmod 2 = (wd : Int) ∧ (wd = 1 ∨ wd = 2) := by
    have h0 := Int.fmod_nonneg_of_pos ((ns.take (4 : Int).toNat).sum) (show (0 : Int) < 2 by decide)
    have h1 := Int.fmod_lt_of_pos ((ns.take (4 : Int).toNat).sum) (show (0 : Int) < 2 by decide)
    exact ⟨(1 + ((ns.take (4 : Int).toNat).sum).fmod 2).toNat, by omega, by omega⟩
  have hN4 : 2 ^ wd ≤ 4 := by rcases hwd2 with rfl | rfl <;> decide
  have hN0 : 0 < 2 ^ wd := Nat.pow_pos (by decide)
  have hWo : (wordsOf ns (2 ^ wd)).Ok (2 ^ wd) := word_ok _ _ _ _
  have hNr : ∀ i, i < 4 - wd → (2 ^ wd) ^ i ≤ 64 := by
    intro i hi'
    rcases hwd2 with rfl | rfl
    · have : i = 0 ∨ i = 1 ∨ i = 2 := by omega
      rcases this with rfl | rfl | rfl <;> decide
    · have : i = 0 ∨ i = 1 := by omega
      rcases this with rfl | rfl <;> decide
  have hMr : (2 ^ wd) ^ (4 - wd) ≤ 16 := by rcases hwd2 with rfl | rfl <;> decide
  obtain ⟨a, o, pm, cd, doc, hmg, ho, hdat, hcd⟩ := G.fn _ (List.mem_of_getElem? (show (PySem.defsOf PySem.Challenge.pw_pe0056_01)[9]? = some _ from rfl))
  obtain rfl : a = fa := by
    have := hmg.symm.trans hf
    cases this; rfl
  refine call_cells_ret (by omega) (hB _ _ ho) hdat (G.lim.keeps hB) (hcd.keeps hB) (binds := [(Str.ofString "script", .ref l)]) rfl (kindsX rfl _) (fun h₁ tk Fr C => ?_)
  have F := Fx.ofCl (name := Str.ofString "law") (a := a) (cd := cd) hB Fr C fun c hc => cells_found (by decide) _ c hc
  have hk₁ : Keep s.heap h₁ := Fr.keep
  clear Fr C
  have hA1 : ∀ e, (A.deeper e).handled = none := fun _ => hA
  dsimp only at F ⊢
  have hPlt := Heap.lt_size hP
  replace F := F.pinOld (hk₁ _ _ hP) hBP (fun q => by
    rcases List.mem_cons.mp q with q | q
    · exact absurd hPlt (by rw [q]; exact Nat.lt_irrefl _)
    · simp only [List.map_nil, List.append_nil] at q
      exact absurd hPlt (Nat.not_lt.mpr (own_ge q))) (fun y hy => by
      obtain ⟨o', e', d'⟩ := F.cell y P hy
      rw [hk₁ _ _ hP] at e'; cases e'; cases d')
  -- width
  refine wpAny_execs_cons (as_name (sto_cell (c := s.heap.objs.size + 1) rfl rfl rfl (show s.heap.objs.size + 1 ∈ [s.heap.objs.size + 6, s.heap.objs.size + 5, s.heap.objs.size + 4, s.heap.objs.size + 3, s.heap.objs.size + 2, s.heap.objs.size + 1] by simp) (fun y hy => inj_cell (l := CL s.heap.objs.size) (by simp [CL]) (mem_of_lookup hy) (by simp [CL]))) ?_)
  refine ((ev_add ev_int (ev_mod (ev_sum (hA1 _) F G (evh_to (ev_loc (s := { s with heap := h₁, toks := tk }) (x := Str.ofString "script") (v := .ref l) F rfl) (hl.at fun o e => F.keep _ _ e) hi ev_int (by decide) (by omega))) ev_int (by decide))).int hwd).here fun v h2 tk2 k2 hv => ?_
  obtain ⟨tw, rfl⟩ := hv
  refine ⟨_, _, _, _, _, _, F.step k2, fun h3 tk3 F => ?_⟩
  -- rounds
  refine wpAny_execs_cons (wpAny_Assign_Name (((ev_sub ev_int (ev_cellI (s := { s with heap := h3, toks := tk3 }) F (c := s.heap.objs.size + 1) rfl rfl)).int (b := ((4 - wd : Nat) : Int)) (by omega)).here fun v h4 tk4 k4 hv => ?_))
  obtain ⟨tr, rfl⟩ := hv
  refine stL (s := { s with heap := h4, toks := tk4 }) (F.step k4) fun h5 F => ?_
  -- draws
  have evs := fun (pos : Pos) (A' : Around) => ev_loc (prog := prog) (w := w) (A := A') (pos := pos) (x := Str.ofString "script") (v := .ref l) (s := { s with heap := h5, toks := tk4 + 1 }) F rfl
  have hl5 : h5.IsList l vs.toArray := hl.at fun o e => F.keep _ _ e
  refine wpAny_execs_cons (as_name (sto_cell (c := s.heap.objs.size + 2) rfl rfl rfl (show s.heap.objs.size + 2 ∈ [s.heap.objs.size + 6, s.heap.objs.size + 5, s.heap.objs.size + 4, s.heap.objs.size + 3, s.heap.objs.size + 2, s.heap.objs.size + 1] by simp) (fun y hy => inj_cell (l := CL s.heap.objs.size) (by simp [CL]) (mem_of_lookup hy) (by simp [CL]))) ?_)
  refine lc_src (s := { s with heap := h5, toks := tk4 + 1 }) F (src_add (hA1 _) F (evh_to (evs _ _) hl5 hi ev_int (by decide) (by omega)) (evh_from evh_three (ev_lenH F G (evh_to (evs _ _) hl5 hi ev_int (by decide) (by omega)) (by rw [List.length_take]; omega)) (by omega) (by decide)) (by rw [drawn_len]; decide)) (cl := []) rfl
    (fun i B' ys => ys.length = i ∧ ∀ (j : Nat) (v : Value), ys[j]? = some v → ∃ x, (drawn ns)[j]? = some x ∧ IsI (x.fmod 81) v) ⟨rfl, fun j v h => by simp at h⟩ ?_ ?_ (by rw [drawn_len]; decide) (fun _ _ h => by cases h)
  · rintro C D i v B₁ h₂ m₁ od ys tk₁ hii ⟨x, hx, tx, rfl⟩ ⟨hyl, hy⟩ hBB F
    refine (ev_mod (ev_locI (s := { s with heap := h₂, toks := tk₁ }) F rfl) ev_int (by decide)).here fun v h3 tk3 k3 hv => ⟨B₁, h3, _, tk3, rfl, F.step k3, by simp [hyl], fun j v' hj => ?_⟩
    rcases Nat.lt_or_ge j ys.length with q | q
    · rw [List.getElem?_append_left q] at hj; exact hy j v' hj
    · rw [List.getElem?_append_right q] at hj
      have hj0 : j = i := by
        have := (List.getElem?_eq_some_iff.mp hj).1
        simp at this; omega
      subst hj0
      rw [hyl, Nat.sub_self] at hj
      cases hj
      exact ⟨x, hx, hv⟩
  rintro Dd B6 B7 h6 ys tk6 ⟨hyl, hy⟩ hk6 g7 hDd
  refine ⟨_, _, _, _, _, _, F.call g7, fun h7 tk7 F => ?_⟩
  have hk7 := g7.sub
  rw [drawn_len] at hyl
  have G7 := G.keeps hk7
  have hDd7 : B7.IsList Dd ys.toArray := hDd.isList
  -- words
  refine wpAny_execs_cons (as_name (sto_cell (c := s.heap.objs.size + 3) rfl rfl rfl (show s.heap.objs.size + 3 ∈ [s.heap.objs.size + 6, s.heap.objs.size + 5, s.heap.objs.size + 4, s.heap.objs.size + 3, s.heap.objs.size + 2, s.heap.objs.size + 1] by simp) (fun y hy => inj_cell (l := CL s.heap.objs.size) (by simp [CL]) (mem_of_lookup hy) (by simp [CL]))) ?_)
  refine dc_src (s := { s with heap := h7, toks := tk7 }) F (src_range (n := 3) (hA1 _) F G7 ev_int rfl (by decide)) (cl := [(Str.ofString "width", s.heap.objs.size + 1), (Str.ofString "draws", s.heap.objs.size + 2)]) rfl
    (fun i B' kvs => ∀ j, j < i → ∃ t, valueAt kvs (one (97 + j)) = some (.str ⟨(wordOf (drawAt ns j) (2 ^ wd)).toArray⟩ t)) (fun j hj => absurd hj (Nat.not_lt_zero _)) ?_ ?_ (by decide) (lk_sub fun p hp => by simp only [List.mem_cons, List.not_mem_nil, or_false] at hp; rcases hp with rfl | rfl <;> rfl)
  · rintro C D i v B₁ h₂ m₁ od kvs tk₁ hii ⟨ti, rfl⟩ hJ hBB F
    have G1 := G7.keeps hBB
    have hDd1 : B₁.IsList Dd ys.toArray := hDd7.at fun o e => hBB _ _ e
    refine (ev_item_str (i := 0 + (i : Int) * 1) (c := 97 + i) ev_str (ev_locI (s := { s with heap := h₂, toks := tk₁ }) F rfl) (by omega) (by omega) ?_).here fun v h3 tk3 k3 hv => ?_
    · have := abc_at (i := (i : Int)) (by omega) (by omega)
      have e : (0 + (i : Int) * 1) = (i : Int) := by omega
      rw [e]; simpa using this
    obtain ⟨t3, rfl⟩ := hv
    refine ⟨one (97 + i), t3, rfl, ?_⟩
    have F3 := F.step k3
    refine call_own (s := { s with heap := h3, toks := tk3 }) (List.mem_of_getElem? (show (PySem.defsOf PySem.Challenge.pw_pe0056_01)[4]? = some _ from rfl)) G1 F3 fun fr hfr => ?_
    obtain ⟨vd, hvd⟩ : ∃ vd, ys[i]? = some vd := ⟨_, List.getElem?_eq_getElem (by omega)⟩
    obtain ⟨xd, hxd, tdd, rfl⟩ := hy i vd hvd
    refine args_ev (.cons rfl (ev_item_list (i := 0 + (i : Int) * 1) (ev_cell (s := { s with heap := h3, toks := tk3 }) F3 (c := s.heap.objs.size + 2) rfl rfl) (ev_locI (s := { s with heap := h3, toks := tk3 }) F3 rfl) (hDd1.at fun o e => F3.keep _ _ e) (by omega) (by omega) (by rw [show (0 + (i : Int) * 1).toNat = i by omega]; exact hvd)) (.cons rfl ((ev_pow ev_int (ev_cellI (s := { s with heap := h3, toks := tk3 }) F3 (c := s.heap.objs.size + 1) rfl rfl) (by omega) (by omega) (by decide)).int (two_pow hwd2)) .nil)) fun vs' h4 tk4' k4' hvs => ?_
    obtain ⟨w0, vs0, rfl, rfl, hvs0⟩ := hvs.uncons
    obtain ⟨w1, vs1, rfl, ⟨u1, rfl⟩, hvs1⟩ := hvs0.uncons
    obtain rfl := hvs1.unnil
    have F4 := F3.step k4'
    refine ⟨F4.keep, ?_⟩
    refine word_spec (s := { s with heap := h4, toks := tk4' }) G1 F4.keep hfr (hA1 _) (by show A.depth + 1 < _; omega) (by omega) ?_
    intro B' h' tk' t' g
    refine ⟨B', h', _, tk', rfl, F4.call g, fun j hj => ?_⟩
    have hdr : xd.fmod 81 = drawAt ns i := by unfold drawAt; rw [List.getD_eq_getElem?_getD, hxd]; rfl
    rw [valueAt_stored]
    by_cases hji : j = i
    · subst hji
      exact ⟨t', by rw [if_pos rfl, hdr]⟩
    · obtain ⟨t'', e''⟩ := hJ j (by omega)
      refine ⟨t'', ?_⟩
      rw [if_neg (fun e => hji (by have := one_inj.mp e; omega)), e'']
  rintro Dw B8 B9 h8 kvs tk8 hJ hk8 g9 hDw0 hdict
  refine ⟨_, _, _, _, _, _, F.call g9, fun h9 tk9 F => ?_⟩
  have hk9 := g9.sub
  have G9 := G7.keeps hk9
  have hW : WordsAt prog w B9 (.ref Dw) (wordsOf ns (2 ^ wd)) := ⟨Dw, kvs, rfl, hdict, fun l' hl' => by
    rcases hl' with rfl | rfl | rfl
    · exact hJ 0 (by decide)
    · exact hJ 1 (by decide)
    · exact hJ 2 (by decide)⟩
  clear hJ hdict hDd7 hDd hyl hy evs hl5 k4
  generalize wordsOf ns (2 ^ wd) = W at hW hWo
  -- opening
  obtain ⟨l0, hl0, hl0c⟩ : ∃ l0, Ltr l0 ∧ (Str.ofString "bca").cps[((((ns.take (4 : Int).toNat).sum).fdiv 2).fmod 3).toNat]? = some l0 := by
    have h0 := Int.fmod_nonneg_of_pos (((ns.take (4 : Int).toNat).sum).fdiv 2) (show (0 : Int) < 3 by decide)
    have h1 := Int.fmod_lt_of_pos (((ns.take (4 : Int).toNat).sum).fdiv 2) (show (0 : Int) < 3 by decide)
    generalize (((ns.take (4 : Int).toNat).sum).fdiv 2).fmod 3 = q at h0 h1
    have : q = 0 ∨ q = 1 ∨ q = 2 := by omega
    rcases this with rfl | rfl | rfl
    · exact ⟨98, .inr (.inl rfl), by decide⟩
    · exact ⟨99, .inr (.inr rfl), by decide⟩
    · exact ⟨97, .inl rfl, by decide⟩
  refine wpAny_execs_cons (as_name (sto_cell (c := s.heap.objs.size + 4) rfl rfl rfl (show s.heap.objs.size + 4 ∈ [s.heap.objs.size + 6, s.heap.objs.size + 5, s.heap.objs.size + 4, s.heap.objs.size + 3, s.heap.objs.size + 2, s.heap.objs.size + 1] by simp) (fun y hy => inj_cell (l := CL s.heap.objs.size) (by simp [CL]) (mem_of_lookup hy) (by simp [CL]))) ?_)
  refine (ev_item_str ev_str (ev_mod (ev_fdiv (ev_sum (hA1 _) F G9 (evh_to (ev_loc (s := { s with heap := h9, toks := tk9 }) (x := Str.ofString "script") (v := .ref l) F rfl) (hl.at fun o e => F.keep _ _ (hk9 _ _ (hk7 _ _ e))) hi ev_int (by decide) (by omega))) ev_int (by decide) (.inl (PyProof.noPylong_small (by decide)))) ev_int (by decide)) (Int.fmod_nonneg_of_pos _ (by decide)) (Int.lt_trans (Int.fmod_lt_of_pos _ (by decide)) (by decide)) hl0c).here fun v h10 tk10 k10 hv => ?_
  obtain ⟨to, rfl⟩ := hv
  refine ⟨_, _, _, _, _, _, F.step k10, fun h11 tk11 F => ?_⟩
  -- grown
  refine wpAny_execs_cons (as_name (sto_cell (c := s.heap.objs.size + 5) rfl rfl rfl (show s.heap.objs.size + 5 ∈ [s.heap.objs.size + 6, s.heap.objs.size + 5, s.heap.objs.size + 4, s.heap.objs.size + 3, s.heap.objs.size + 2, s.heap.objs.size + 1] by simp) (fun y hy => inj_cell (l := CL s.heap.objs.size) (by simp [CL]) (mem_of_lookup hy) (by simp [CL]))) ?_)
  refine call_own (s := { s with heap := h11, toks := tk11 }) (List.mem_of_getElem? (show (PySem.defsOf PySem.Challenge.pw_pe0056_01)[5]? = some _ from rfl)) G9 F fun fr hfr => ?_
  refine args_ev (.cons rfl (ev_cellS (s := { s with heap := h11, toks := tk11 }) F (c := s.heap.objs.size + 4) rfl rfl) (.cons rfl (ev_cell (s := { s with heap := h11, toks := tk11 }) F (c := s.heap.objs.size + 3) rfl rfl) (.cons rfl (ev_locI (s := { s with heap := h11, toks := tk11 }) F rfl) .nil))) fun vs' h12 tk12 k12 hvs => ?_
  obtain ⟨w0, vs0, rfl, ⟨u0, rfl⟩, hvs0⟩ := hvs.uncons
  obtain ⟨w1, vs1, rfl, rfl, hvs1⟩ := hvs0.uncons
  obtain ⟨w2, vs2, rfl, ⟨u2, rfl⟩, hvs2⟩ := hvs1.uncons
  obtain rfl := hvs2.unnil
  have F12 := F.step k12
  refine ⟨F12.keep, ?_⟩
  have hone : Ltrs [l0] := fun c hc => by rw [List.mem_singleton.mp hc]; exact hl0
  refine grown_spec (s := { s with heap := h12, toks := tk12 }) (x := [l0]) (W := W) (n := 2 ^ wd) (r := 4 - wd) G9 F12.keep hfr (hA1 _) (by show A.depth + 1 + 1 < _; omega) hW hWo hN4 hone (fun i hi' => by rw [growN_length hWo]; have := hNr i hi'; simpa using this) (by omega) ?_
  intro B13 h13 tk13 tg g13
  refine ⟨_, _, _, _, _, _, F12.call g13, fun h14 tk14 F => ?_⟩
  have G13 := G9.keeps g13.sub
  have hW13 := hW.keep g13.sub
  have hUl : (growN W (4 - wd) [l0]).length = (2 ^ wd) ^ (4 - wd) := by rw [growN_length hWo]; simp
  have hUL : Ltrs (growN W (4 - wd) [l0]) := hWo.growN hone _
  -- ledgers
  refine wpAny_execs_cons (as_name (sto_cell (c := s.heap.objs.size + 6) rfl rfl rfl (show s.heap.objs.size + 6 ∈ [s.heap.objs.size + 6, s.heap.objs.size + 5, s.heap.objs.size + 4, s.heap.objs.size + 3, s.heap.objs.size + 2, s.heap.objs.size + 1] by simp) (fun y hy => inj_cell (l := CL s.heap.objs.size) (by simp [CL]) (mem_of_lookup hy) (by simp [CL]))) ?_)
  refine call_own (s := { s with heap := h14, toks := tk14 }) (List.mem_of_getElem? (show (PySem.defsOf PySem.Challenge.pw_pe0056_01)[6]? = some _ from rfl)) G13 F fun fr' hfr' => ?_
  refine args_ev (.cons rfl (ev_cell (s := { s with heap := h14, toks := tk14 }) F (c := s.heap.objs.size + 3) rfl rfl) (.cons rfl (ev_locI (s := { s with heap := h14, toks := tk14 }) F rfl) .nil)) fun vs' h15 tk15 k15 hvs => ?_
  obtain ⟨w0, vs0, rfl, rfl, hvs0⟩ := hvs.uncons
  obtain ⟨w1, vs1, rfl, ⟨u1, rfl⟩, hvs1⟩ := hvs0.uncons
  obtain rfl := hvs1.unnil
  have F15 := F.step k15
  refine ⟨F15.keep, ?_⟩
  refine ledgers_spec (s := { s with heap := h15, toks := tk15 }) (W := W) (n := 2 ^ wd) (r := 4 - wd) G13 F15.keep hfr' (hA1 _) (by show A.depth + 1 + 1 < _; omega) hW13 hWo hN4 (by omega) hNr ?_
  intro LL B16 h16 tk16 its g16 hLL hil hled
  refine ⟨_, _, _, _, _, _, F15.call g16, fun h17 tk17 F => ?_⟩
  have G16 := G13.keeps g16.sub
  have hW16 := hW13.keep g16.sub
  have Tt16 : Tb mg c P B16 := Tt.keeps (hk7.trans (hk9.trans (g13.sub.trans g16.sub)))
  -- walks
  refine wpAny_execs_cons ?_
  refine as_lcP (s := { s with heap := h17, toks := tk17 }) (sto_local rfl rfl) F (src_range (n := (2 ^ wd) ^ (4 - wd)) (hA1 _) F G16 ((ev_pow ev_int (ev_mul (ev_cellI (s := { s with heap := h17, toks := tk17 }) F (c := s.heap.objs.size + 1) rfl rfl) (ev_locI (s := { s with heap := h17, toks := tk17 }) F rfl) (IntMulOk.of_left (intBits_le_64 (by omega) (by omega)))) ?_ ?_ (by decide)).int (two_pow2 hwd2)) rfl (by omega))
    (cl := [(Str.ofString "words", s.heap.objs.size + 3), (Str.ofString "width", s.heap.objs.size + 1), (Str.ofString "opening", s.heap.objs.size + 4), (Str.ofString "ledgers", s.heap.objs.size + 6)]) rfl
    (fun i B' ys oP' => TabOk B' oP' ∧ ys.length = i ∧ ∀ (j : Nat) (v : Value), ys[j]? = some v → WalkAt prog w B' v ((growN W (4 - wd) [l0]).getD j 97, tab ((growN W (4 - wd) [l0]).take j))) ⟨.inl rfl, rfl, fun j v h => by simp at h⟩ ?_ ?_ (by omega) (lk_sub fun p hp => by simp only [List.mem_cons, List.not_mem_nil, or_false] at hp; rcases hp with rfl | rfl | rfl | rfl <;> rfl)
  · rcases hwd2 with rfl | rfl <;> decide
  · rcases hwd2 with rfl | rfl <;> decide
  · rintro C D i v B₁ h₂ m₁ od oP₁ ys tk₁ hii ⟨ti, rfl⟩ ⟨hOk1, hyl, hy⟩ hBB F
    have G1 := G16.keeps hBB
    have hfo := figs_ok hwd2 hii
    refine call_own (s := { s with heap := h₂, toks := tk₁ }) (List.mem_of_getElem? (show (PySem.defsOf PySem.Challenge.pw_pe0056_01)[7]? = some _ from rfl)) G1 F fun fw hfw => ?_
    have ei : (0 + (i : Int) * 1) = (i : Int) := by omega
    rw [ei] at F
    refine args_ev (.cons rfl (ev_locI (s := { s with heap := h₂, toks := tk₁ }) (n := (i : Int)) F rfl) (.cons rfl (ev_cellI (s := { s with heap := h₂, toks := tk₁ }) F (c := s.heap.objs.size + 1) rfl rfl) (.cons rfl (ev_cell (s := { s with heap := h₂, toks := tk₁ }) F (c := s.heap.objs.size + 3) rfl rfl) (.cons rfl (ev_cell (s := { s with heap := h₂, toks := tk₁ }) F (c := s.heap.objs.size + 6) rfl rfl) (.cons rfl (ev_cellS (s := { s with heap := h₂, toks := tk₁ }) F (c := s.heap.objs.size + 4) rfl rfl) .nil))))) fun vs' h3 tk3 k3 hvs => ?_
    obtain ⟨w0, vs0, rfl, ⟨u0, rfl⟩, hvs0⟩ := hvs.uncons
    obtain ⟨w1, vs1, rfl, ⟨u1, rfl⟩, hvs1⟩ := hvs0.uncons
    obtain ⟨w2, vs2, rfl, rfl, hvs2⟩ := hvs1.uncons
    obtain ⟨w3, vs3, rfl, rfl, hvs3⟩ := hvs2.uncons
    obtain ⟨w4, vs4, rfl, ⟨u4, rfl⟩, hvs4⟩ := hvs3.uncons
    obtain rfl := hvs4.unnil
    have F3 := (F.step k3).swap
    refine ⟨F3.keep, ?_⟩
    have hfgr : ∀ j, j < 4 - wd → 0 ≤ figAt i wd j ∧ figAt i wd j < ((2 ^ wd : Nat) : Int) := fun j hj => by
      rw [hfo.2.2.2 j hj]
      have := Nat.mod_lt (i / (2 ^ wd) ^ j) hN0
      omega
    refine walk_spec (s := { s with heap := h3, toks := tk3 }) (N := 2 ^ wd) (r := 4 - wd) (W := W) G1 (Tt16.keeps hBB) F3.keep F3.pin_get (F3.st.off P (Fx.mem_pin (p := (P, oP₁)) (List.mem_cons_self ..))) hOk1 hfw (hA1 _) (by show A.depth + 1 + 11 < _; omega) (by omega) (by omega) hfo.1 hfo.2.1 (hW16.keep hBB) hWo hN4 (by omega) hNr (hLL.at fun o e => hBB _ _ e) hil (fun j v hj => (hled j v hj).keep hBB) hl0 hfo.2.2.1 hfgr ?_
    intro vv B' h' tk' oP' S' hP' hOk' hwalk
    refine ⟨B', h', _, oP', tk', rfl, (F3.callP S' hP').swap, hOk', by simp [hyl], fun j v' hj => ?_⟩
    rcases Nat.lt_or_ge j ys.length with q | q
    · rw [List.getElem?_append_left q] at hj; exact (hy j v' hj).keep S'.sub
    · rw [List.getElem?_append_right q] at hj
      have hj0 : j = i := by
        have := (List.getElem?_eq_some_iff.mp hj).1
        simp at this; omega
      subst hj0
      rw [hyl, Nat.sub_self] at hj
      cases hj
      have hw := walk_is hWo hN0 (fun j' => (figAt j wd j').toNat) (4 - wd) l0 j [] hii (fun i' hi' => by rw [hfo.2.2.2 i' hi', Int.toNat_natCast])
      rw [tab_nil, List.nil_append] at hw
      rw [hw] at hwalk
      exact hwalk
  rintro Dk B18 B19 h19 ys oP19 tk19 ⟨hOk19, hyl, hy⟩ hk18 hk19 hDk F
  have G19 := G16.keeps hk19
  have hys : ∀ (j : Nat) (v : Value), ys[j]? = some v → WalkAt prog w B19 v ((growN W (4 - wd) [l0]).getD j 97, tab ((growN W (4 - wd) [l0]).take j)) := fun j v hj => (hy j v hj).keep hk18
  have hDk19 : B19.IsList Dk ys.toArray := hDk.isList
  have hLL19 : B19.IsList LL its.toArray := hLL.at fun o e => hk19 _ _ e
  have hled19 : ∀ j v, its[j]? = some v → LedAt prog w B19 v (led W j) := fun j v hj => (hled j v hj).keep hk19
  obtain ⟨ps, rfl⟩ := hOk19.data
  clear hy hDk hLL hled hOk19 Tt16 hW16 hW13 hW g13 g16 F12 F15
  generalize hU : growN W (4 - wd) [l0] = U at *
  have hU16 : U.length ≤ 16 := by omega
  have hyU : ys.length = U.length := by omega
  have getU : ∀ j, j < U.length → U[j]? = some (U.getD j 97) := fun j hj => by rw [List.getD_eq_getElem?_getD, List.getElem?_eq_getElem hj]; rfl
  -- the first comparison
  refine wpAny_execs_cons (wpAny_If (wpAny_isTrue_Compare1 (nmC (s := { s with heap := h19, toks := tk19 }) F (c := s.heap.objs.size + 5) rfl rfl ?_)))
  refine MethodCall_ (wpAny_Constant_str ?_)
  refine PySem.GM.join ?_
  refine PyProof.Rows.callWith_method1 (args_cons ?_)
  refine lc_src (s := { s with heap := h19, toks := tk19 + 1 }) F (src_list (hA1 _) F hDk19 (ev_loc (s := { s with heap := h19, toks := tk19 + 1 }) F rfl)) (cl := []) rfl (fun i B' ys' => ∃ l' : List (Str × Tok), ys' = strValues l' ∧ l'.map (·.1) = (U.take i).map one) ⟨[], rfl, rfl⟩ ?_ ?_ (by omega) (fun _ _ h => by cases h)
  · rintro C D i v B₁ h₂ m₁ od ys' tk₁ hii hv ⟨l', rfl, hl'⟩ hBB F
    obtain ⟨d, tv, tkk, rfl, htup, htab⟩ := (hys i v hv).keep hBB
    refine (ev_item_tup (items := [.str (one (U.getD i 97)) tkk, tv]) (ev_loc (s := { s with heap := h₂, toks := tk₁ }) F rfl) ev_int (htup.at fun o e => F.keep _ _ e) (by decide) (by decide) rfl).here fun v h3 tk3 k3 hv => ?_
    subst hv
    refine ⟨B₁, h3, _, tk3, rfl, F.step k3, l' ++ [(one (U.getD i 97), tkk)], by simp [strValues], ?_⟩
    rw [List.map_append, hl', List.take_add_one, getU i (by omega)]
    simp
  rintro D1 B20' B20 h20 ys1 tk20 ⟨l1, rfl, hl1⟩ hk20' g20 hD1
  refine args_nil ?_
  have hlist1 : h20.IsList D1 (strValues l1).toArray := (hD1.at fun o e => g20.keep _ _ e).isList
  have htakeU : U.take ys.length = U := List.take_of_length_le (by omega)
  rw [htakeU] at hl1
  refine PySem.SC.join hlist1 hl1 (joinOk_ones _ (by omega)) fun t1' k1' => ?_
  rw [join_ones]
  refine PyProof.Rows.ne_str (wpAny_truthy_bool ?_)
  simp only [bne_self_eq_false, Bool.false_eq_true, if_false]
  refine wpAny_execs_nil ?_
  replace F := F.call g20
  have k20 := g20.sub
  have G20 := G19.keeps k20
  have hDk20 : B20.IsList Dk ys.toArray := hDk19.at fun o e => k20 _ _ e
  clear hlist1 hl1 hD1 g20
  -- the second comparison
  refine wpAny_execs_cons (wpAny_If (wpAny_isTrue_Compare1 ?_))
  refine lc_src (s := { s with heap := h20, toks := k1' }) F (src_list (hA1 _) F hDk20 (ev_loc (s := { s with heap := h20, toks := k1' }) F rfl)) (cl := []) rfl (fun i B' ys' => ys'.length = i ∧ ∀ (j : Nat) (v : Value), ys'[j]? = some v → IsI (j : Int) v) ⟨rfl, fun j v h => by simp at h⟩ ?_ ?_ (by omega) (fun _ _ h => by cases h)
  · rintro C D i v B₁ h₂ m₁ od ys' tk₁ hii hv ⟨hyl', hy'⟩ hBB F
    have G1 := G20.keeps hBB
    obtain ⟨d, tv, tkk, rfl, htup, htab⟩ := (hys i v hv).keep (k20.trans hBB)
    refine call_own (s := { s with heap := h₂, toks := tk₁ }) (List.mem_of_getElem? (show (PySem.defsOf PySem.Challenge.pw_pe0056_01)[2]? = some _ from rfl)) G1 F fun fr hfr => ?_
    refine args_ev (.cons rfl (ev_item_tup (items := [.str (one (U.getD i 97)) tkk, tv]) (ev_loc (s := { s with heap := h₂, toks := tk₁ }) F rfl) ev_int (htup.at fun o e => F.keep _ _ e) (by decide) (by decide) rfl) .nil) fun vs' h3 tk3 k3 hvs => ?_
    obtain ⟨w0, vs0, rfl, rfl, hvs0⟩ := hvs.uncons
    obtain rfl := hvs0.unnil
    have F3 := F.step k3
    refine ⟨F3.keep, ?_⟩
    refine count_calls_spec (s := { s with heap := h3, toks := tk3 }) G1 F3.keep hfr (hA1 _) (by show A.depth + 1 < _; omega) htab ?_
    intro B' h' tk' u' g
    refine ⟨B', h', _, tk', rfl, F3.call g, by simp [hyl'], fun j v' hj => ?_⟩
    rcases Nat.lt_or_ge j ys'.length with q | q
    · rw [List.getElem?_append_left q] at hj; exact hy' j v' hj
    · rw [List.getElem?_append_right q] at hj
      have hj0 : j = i := by
        have := (List.getElem?_eq_some_iff.mp hj).1
        simp at this; omega
      subst hj0
      rw [hyl', Nat.sub_self] at hj
      cases hj
      refine ⟨u', ?_⟩
      rw [sum_tab, List.length_take, Nat.min_eq_left (by omega)]
  rintro D2 B21' B21 h21 ys2 tk21 ⟨hyl2, hy2⟩ hk21' g21 hD2
  replace F := F.call g21
  have k21 := g21.sub
  have G21 := G20.keeps k21
  have hDk21 : B21.IsList Dk ys.toArray := hDk20.at fun o e => k21 _ _ e
  have hD2' : B21.IsList D2 ys2.toArray := hD2.isList
  refine Call_ (nmB (s := { s with heap := h21, toks := tk21 }) F G21 (by decide) boot_list ?_)
  refine PyProof.Rows.callWith_type1 (args_cons ?_ rfl)
  refine Call_ (nmB (s := { s with heap := h21, toks := tk21 }) F G21 (by decide) boot_range ?_)
  refine PyProof.Rows.callWith_type1 (args_cons ((ev_len F G21 (ev_loc (s := { s with heap := h21, toks := tk21 }) F rfl) (hDk21.at fun o e => F.keep _ _ e) (by omega)).here fun v h22 tk22 k22 hv => args_nil ?_) rfl)
  obtain ⟨t22, rfl⟩ := hv
  refine call_range_1 ?_
  refine args_nil ?_
  refine call_list_range (n := ys.length) (hA1 _) (IsRange.new _ 0 ys.length 1 _ _ _) (small_one (by decide) (by decide) (by omega) (by omega)) (by rw [rangeSize_one]; split <;> omega) (by omega) fun h23 tk23 acc c23 hk23 hS23 hacc => ?_
  have hk2123 : Keep h21 h23 := k22.trans ((Keep.push _ _).trans hk23)
  replace F := F.step hk2123
  have hi2 := ints_of (f := fun j => (j : Int)) hy2
  have hi3 := ints_of (vs := acc.toList) (f := fun j => (j : Int)) (fun j v hj => by
    obtain ⟨t, e⟩ := hacc.2 j v (by simpa using hj)
    exact ⟨t, by rw [e]; congr 1; omega⟩)
  have hacl : acc.toList.length = ys.length := by rw [Array.length_toList]; exact hacc.1
  rw [hyl2] at hi2
  rw [hacl] at hi3
  refine ne_intsK (s := { s with heap := h23, toks := tk23 }) (hD2'.at fun o e => F.keep _ _ e) hi2 ⟨_, hS23, rfl, c23, by simp⟩ hi3 (by show A.units + 3 + 64 < _; omega) (wpAny_truthy_bool ?_)
  simp only [decide_true, Bool.not_true, Bool.false_eq_true, if_false]
  refine wpAny_execs_nil ?_
  clear hi2 hi3 hacc hacl hS23 hD2 hD2' hy2 hk23 k22 g21
  -- tables
  refine wpAny_execs_cons (wpAny_Assign_Name (wpAny_BinOp ?_))
  refine lc_src (s := { s with heap := h23, toks := tk23 }) F (src_list (hA1 _) F hDk21 (ev_loc (s := { s with heap := h23, toks := tk23 }) F rfl)) (cl := []) rfl (fun i B' ys' => ys'.length = i ∧ ∀ (j : Nat) (v : Value), ys'[j]? = some v → ∃ as, Reads B' v (itemsD (tab (U.take j))) as) ⟨rfl, fun j v h => by simp at h⟩ ?_ ?_ (by omega) (fun _ _ h => by cases h)
  · rintro C D i v B₁ h₂ m₁ od ys' tk₁ hii hv ⟨hyl', hy'⟩ hBB F
    have G1 := G21.keeps hBB
    obtain ⟨d, tv, tkk, rfl, htup, htab⟩ := (hys i v hv).keep (k20.trans (k21.trans hBB))
    refine list_items (s := { s with heap := h₂, toks := tk₁ }) (t := tab (U.take i)) (hA1 _) ?_ (fun Q' h => nmB (s := { s with heap := h₂, toks := tk₁ }) F G1 (by decide) boot_list h)
    refine (ev_item_tup (items := [.str (one (U.getD i 97)) tkk, tv]) (ev_loc (s := { s with heap := h₂, toks := tk₁ }) F rfl) ev_int (htup.at fun o e => F.keep _ _ e) (by decide) (by decide) rfl).here fun v h3 tk3 k3 hv => ?_
    subst hv
    have htab' := htab
    obtain ⟨dt, ot, rfl, hds, _⟩ := htab'
    have F3 := F.step k3
    refine ⟨dt, B₁, rfl, hds, F3.keep, htab, (by have := tab_len (U.take i); rw [List.length_take] at this; omega), fun Dn B' h' tk' g hr => ⟨B', h', _, tk', rfl, F3.call g, by simp [hyl'], fun j v' hj => ?_⟩⟩
    rcases Nat.lt_or_ge j ys'.length with q | q
    · rw [List.getElem?_append_left q] at hj
      obtain ⟨as, ha⟩ := hy' j v' hj
      exact ⟨as, PyProof.Rows.Reads.keeps g.sub ha⟩
    · rw [List.getElem?_append_right q] at hj
      have hj0 : j = i := by
        have := (List.getElem?_eq_some_iff.mp hj).1
        simp at this; omega
      subst hj0
      rw [hyl', Nat.sub_self] at hj
      cases hj
      exact hr
  rintro D3 B24' B24 h24 ys3 tk24 ⟨hyl3, hy3'⟩ hk24' g24 hD3
  replace F := F.call g24
  have k24 := g24.sub
  have G24 := G21.keeps k24
  have hDk24 : B24.IsList Dk ys.toArray := hDk21.at fun o e => k24 _ _ e
  have hy3 : ∀ (j : Nat) (v : Value), ys3[j]? = some v → ∃ as, Reads B24 v (itemsD (tab (U.take j))) as := fun j v hj => by
    obtain ⟨as, ha⟩ := hy3' j v hj
    exact ⟨as, PyProof.Rows.Reads.keeps hk24' ha⟩
  have hD3' : B24.IsList D3 ys3.toArray := hD3.isList
  obtain ⟨lv, hlv⟩ : ∃ lv, its[4 - wd]? = some lv := ⟨_, List.getElem?_eq_getElem (by omega)⟩
  obtain ⟨ld, lk, rfl, hld, hlt⟩ := (hled19 _ lv hlv).keep (k20.trans (k21.trans k24))
  obtain ⟨lt, hlt1, hlt2⟩ := hlt l0 hl0
  rw [led_tab, hU] at hlt2
  have hLL24 : B24.IsList LL its.toArray := hLL19.at fun o e => k24 _ _ (k21 _ _ (k20 _ _ e))
  refine wpAny_List (args_cons ?_ rfl)
  refine list_items (s := { s with heap := h24, toks := tk24 }) (t := tab U) (hA1 _) ?_ (fun Q' h => nmB (s := { s with heap := h24, toks := tk24 }) F G24 (by decide) boot_list h)
  refine (ev_item_dict (x := one l0) (ev_item_list (i := ((4 - wd : Nat) : Int)) (ev_cell (s := { s with heap := h24, toks := tk24 }) F (c := s.heap.objs.size + 6) rfl rfl) (ev_locI (s := { s with heap := h24, toks := tk24 }) F rfl) (hLL24.at fun o e => F.keep _ _ e) (by omega) (by omega) (by simpa using hlv)) (ev_cellS (s := { s with heap := h24, toks := tk24 }) F (c := s.heap.objs.size + 4) rfl rfl) (hld.keep F.keep) hlt1).here fun v h25 tk25 k25 hv => ?_
  subst hv
  have hlt2' := hlt2
  obtain ⟨dt, ot, rfl, hds, _⟩ := hlt2'
  refine ⟨dt, B24, rfl, hds, (F.step k25).keep, hlt2, (by have := tab_len U; omega), fun Dn B26 h26 tk26 g26 hr26 => ?_⟩
  replace F := (F.step k25).call g26
  have k26 := g26.sub
  refine args_nil ⟨by simp [sizeLine_eq], ?_⟩
  have F27 := F.push { cls := .type "list", data := .seq [Value.ref Dn].toArray }
  refine add_list0 (s := { s with heap := _, toks := tk26 }) (vs := ys3) (ws := [.ref Dn]) (hD3'.at fun o e => F27.keep _ _ (k26 _ _ e)) ⟨_, Heap.get?_push_size _ rfl, rfl, 0, rfl⟩ ?_ (by simp; omega)
  have hff := F27.fresh (Nat.le_refl _)
  obtain ⟨B28, k28, hB28, F28⟩ := (F27.push { cls := .type "list", data := .seq (ys3 ++ [Value.ref Dn]).toArray }).take (Heap.get?_push_size _ rfl) hff.2.1 hff.2.2.1
  clear F F27
  generalize (h26.push { cls := .type "list", data := .seq [Value.ref Dn].toArray }).objs.size = Dt at hB28 F28 ⊢
  have hDt : B28.IsList Dt (ys3 ++ [Value.ref Dn]).toArray := ⟨_, hB28, rfl, 0, rfl⟩
  refine stL (s := { s with heap := _, toks := tk26 }) F28 fun h29 F => ?_
  have kB : Keep B24 B28 := k26.trans k28
  have G28 := G24.keeps kB
  have hDk28 : B28.IsList Dk ys.toArray := hDk24.at fun o e => kB _ _ e
  -- the tables as data
  obtain ⟨asT, hRT⟩ := reads_tables (h := B28) (us := (List.range (U.length + 1)).map fun j => U.take j) hDt (by simp [hyl3]; omega) (fun j v u hv hu => by
    rw [List.getElem?_map, Option.map_eq_some_iff] at hu
    obtain ⟨j', hj', rfl⟩ := hu
    obtain rfl : j = j' := by
      have := (List.getElem?_eq_some_iff.mp hj').2
      simpa using this
    rcases Nat.lt_or_ge j ys3.length with q | q
    · rw [List.getElem?_append_left q] at hv
      obtain ⟨as, ha⟩ := hy3 j v hv
      exact ⟨as, PyProof.Rows.Reads.keeps kB ha⟩
    · rw [List.getElem?_append_right q] at hv
      have hj0 : j = ys3.length := by
        have := (List.getElem?_eq_some_iff.mp hv).1
        simp at this; omega
      subst hj0
      rw [Nat.sub_self] at hv
      cases hv
      rw [hyl3, htakeU]
      obtain ⟨as, ha⟩ := hr26
      exact ⟨as, PyProof.Rows.Reads.keeps k28 ha⟩)
  -- the last comparison
  refine wpAny_execs_cons (wpAny_Return_some (wpAny_Compare1 (nmL (s := { s with heap := h29, toks := tk26 + 1 }) F rfl ?_)))
  refine lc_src (s := { s with heap := h29, toks := tk26 + 1 }) F (src_range (n := U.length + 1) (hA1 _) F G28 ((ev_add (ev_len F G28 (ev_loc (s := { s with heap := h29, toks := tk26 + 1 }) F rfl) (hDk28.at fun o e => F.keep _ _ e) (by omega)) ev_int).int (b := ((U.length + 1 : Nat) : Int)) (by rw [hyU]; rfl)) rfl (by omega)) (cl := [(Str.ofString "grown", s.heap.objs.size + 5)]) rfl
    (fun i B' ys' => ys'.length = i ∧ ∀ (j : Nat) (v : Value), ys'[j]? = some v → ∃ as, Reads B' v (itemsD (tab (U.take j))) as) ⟨rfl, fun j v h => by simp at h⟩ ?_ ?_ (by omega) (lk_sub fun p hp => by simp only [List.mem_cons, List.not_mem_nil, or_false] at hp; subst hp; rfl)
  · rintro C D i v B₁ h₂ m₁ od ys' tk₁ hii ⟨ti, rfl⟩ ⟨hyl', hy'⟩ hBB F
    have G1 := G28.keeps hBB
    refine call_own (s := { s with heap := h₂, toks := tk₁ }) (List.mem_of_getElem? (show (PySem.defsOf PySem.Challenge.pw_pe0056_01)[8]? = some _ from rfl)) G1 F fun fr hfr => ?_
    refine args_ev (.cons rfl (ev_slice_to (u := U) (j := 0 + (i : Int) * 1) (ev_cellS (s := { s with heap := h₂, toks := tk₁ }) F (c := s.heap.objs.size + 5) rfl rfl) (ev_locI (s := { s with heap := h₂, toks := tk₁ }) F rfl) (by omega) (by omega) (by omega)) .nil) fun vs' h3 tk3 k3 hvs => ?_
    obtain ⟨w0, vs0, rfl, ⟨u0, rfl⟩, hvs0⟩ := hvs.uncons
    obtain rfl := hvs0.unnil
    have F3 := F.step k3
    refine ⟨F3.keep, ?_⟩
    have ei : (0 + (i : Int) * 1).toNat = i := by omega
    rw [ei]
    refine told_spec (s := { s with heap := h3, toks := tk3 }) G1 F3.keep hfr (hA1 _) (by show A.depth + 1 < _; omega) (by rw [List.length_take]; omega) ?_
    intro vv B' h' tk' g hr
    rw [told_tab] at hr
    refine ⟨B', h', _, tk', rfl, F3.call g, by simp [hyl'], fun j v' hj => ?_⟩
    rcases Nat.lt_or_ge j ys'.length with q | q
    · rw [List.getElem?_append_left q] at hj
      obtain ⟨as, ha⟩ := hy' j v' hj
      exact ⟨as, PyProof.Rows.Reads.keeps g.sub ha⟩
    · rw [List.getElem?_append_right q] at hj
      have hj0 : j = i := by
        have := (List.getElem?_eq_some_iff.mp hj).1
        simp at this; omega
      subst hj0
      rw [hyl', Nat.sub_self] at hj
      cases hj
      exact hr
  rintro D5 B30' B30 h30 ys5 tk30 ⟨hyl5, hy5'⟩ hk30' g30 hD5
  replace F := F.call g30
  obtain ⟨asS, hRS⟩ := reads_tables (h := B30) (us := (List.range (U.length + 1)).map fun j => U.take j) hD5.isList (by simp [hyl5]) (fun j v u hv hu => by
    rw [List.getElem?_map, Option.map_eq_some_iff] at hu
    obtain ⟨j', hj', rfl⟩ := hu
    obtain rfl : j = j' := by
      have := (List.getElem?_eq_some_iff.mp hj').2
      simpa using this
    obtain ⟨as, ha⟩ := hy5' j v hv
    exact ⟨as, PyProof.Rows.Reads.keeps hk30' ha⟩)
  have hlay := lay_tables ((List.range (U.length + 1)).map fun j => U.take j) (fun u hu => by
    obtain ⟨j, _, rfl⟩ := List.mem_map.mp hu
    exact fun c hc => hUL c (List.mem_of_mem_take hc))
  refine PySem.SeqAt.compareEq_reads (s := { s with heap := h30, toks := tk30 }) (PyProof.Rows.Reads.keeps (g30.sub.trans F.keep) hRT) (PyProof.Rows.Reads.keeps F.keep hRS) hlay.1 hlay.1 (by show A.units + 3 + _ < _; rw [Nat.min_self]; omega) ?_
  rw [PySem.SeqAt.eqv_refl _ hlay.1]
  exact hR B30 h30 tk30 ps (F.leaveG (none_of_ge (Nat.le_refl _)) fun b hb => none_of_ge (by simp only [List.mem_cons, List.not_mem_nil, or_false] at hb; rcases hb with rfl | rfl | rfl | rfl | rfl | rfl <;> exact Nat.le_add_right _ _)) F.pin_get
end
end Mine

namespace Mine
theorem gl_of {p : Program} {loose : List Str} {mean : ExcName → Option Value} {mg mb : Str → Option Value} {h : Heap} {tabs : List (Addr × Addr)} (T : Top p loose mean mg mb h) (hT : TabsAt tabs h)
    (hrec : recsOf p = PySem.defsOf PySem.Challenge.pw_pe0056_01)
    (hfree : ∀ x ∈ biNames, x ∉ startupNames ∧ x ∉ loose ∧ x ∉ (recsOf p).map (·.name) ∧ x ∉ (litsOf p).map (·.1) ∧ x ∉ (clssOf p loose).map (·.name) ∧ x ≠ "__name__")
    (hsys : ∃ mm, h.Ns sysModules mm) : Gl mg mb (ghostOf h tabs) where
  g := ghost_ns hT T.g
  b := ghost_ns hT T.b
  lim := let ⟨mc, a, r⟩ := T.nolimit; ⟨mc, ghost_ns hT a, r⟩
  bi := fun x hx => by
    obtain ⟨h1, h2, h3, h4, h5, h6⟩ := hfree x hx
    exact ⟨T.free x h1 h2 h3 h4 h5, T.builtins x h6⟩
  fn := fun d hd' => by
    obtain ⟨a, o, pm, code, doc, h1, h2, h3, h4⟩ := T.fn d (by rw [hrec]; exact hd')
    obtain ⟨c, oc, vs, t, e1, e2, e3, e4⟩ := h4
    refine ⟨a, o, pm, code, doc, h1, ghost_get hT h2 (fun q => by rw [q] at h3; cases h3), h3, c, oc, vs, t, e1, ghost_get hT e2 (fun q => ?_), e3, e4⟩
    rw [q] at e3; cases e3; simp at e4
  low := fun a ha => by
    have key : ∀ {mm : Str → Option Value}, h.Ns a mm → ∃ o, (ghostOf h tabs).get? a = some o := fun x => let ⟨o, _, _, e, _⟩ := ghost_ns hT x; ⟨o, e⟩
    rcases ha with rfl | rfl | rfl
    · exact key T.g
    · exact key T.b
    · obtain ⟨mm, hm⟩ := hsys
      exact key hm
theorem keep_ghost {h : Heap} {tabs : List (Addr × Addr)} : Keep (ghostOf h tabs) h := fun b o e => of_hideAll _ e
end Mine

theorem PySem.Challenge.cw_pe0056_01_holds : PySem.Challenge.rw_pe0056_01.Holds := by
  refine Mine.hd ?_
  intro w s₀ s₁ mg mb G Y fa o pm cd doc dV kV ho hdd hcd hD hmg hg args vals as hpre hlay hrd hwl hlo
  refine Ground.open G ?_
  intro T B D TE TW
  wrow_args hpre hlay hrd hwl hlo
  refine enter_call ?_
  rename_i ns hs hlay0 hL1 hr1 hl2 as4 as3 la vs as0 hL ra w1 r0 hI hr hcond1 hcond2
  have hrecP : ∃ p loose, ∃ T' : Top p loose (ExcName.means s₀.heap) mg mb s₁.heap, recsOf p = PySem.defsOf PySem.Challenge.pw_pe0056_01 ∧ (∀ x ∈ Mine.biNames, x ∉ startupNames ∧ x ∉ loose ∧ x ∉ (recsOf p).map (·.name) ∧ x ∉ (litsOf p).map (·.1) ∧ x ∉ (clssOf p loose).map (·.name) ∧ x ≠ "__name__") ∧ ∃ mm, s₁.heap.Ns sysModules mm := ⟨_, _, T, by kernel_rfl, by decide +kernel, let ⟨mm, hm, _⟩ := (T.seer (by kernel_rfl)).mods; ⟨mm, hm⟩⟩
  clear T B D TE TW G Y
  obtain ⟨p, loose, T, hrec, hfree, hsys⟩ := hrecP
  obtain ⟨a0, o0, fd0, c, P, t1, t2, t3, t4, t5, t6⟩ := T.tab _ (by rw [hrec]; exact List.mem_of_getElem? (show (PySem.defsOf PySem.Challenge.pw_pe0056_01)[0]? = some _ from rfl))
  have hCH := CodeHd.of t5 t6
  have hT : TabsAt [(c, P)] s₁.heap := fun q hq => by rw [List.mem_singleton.mp hq]; exact ⟨hCH, t6.2⟩
  refine kn_post hT (fun _ _ => rfl) ?_
  have Gb := Mine.gl_of T hT hrec hfree hsys
  have hk : Mine.Keep (ghostOf s₁.heap [(c, P)]) s₁.heap := Mine.keep_ghost
  refine Mine.law_code (B := ghostOf s₁.heap [(c, P)]) (c := c) (P := P) (l := la) (vs := vs) (ns := ns) Gb ⟨(ghost_code hT).1, ?_, ?_⟩ hk t6.2 (hideAll_none _ (List.mem_singleton_self _)) hmg rfl (by decide) (by decide) (ghost_list hT hL) hI (by omega) ?_
  · obtain ⟨bm, ob, b1, b2, b3, b4, r⟩ := T.bmain
    exact ⟨bm, ob, b1, b2, ghost_get hT b3 (fun q => by rw [q] at b4; cases b4), b4, r⟩
  · exact ⟨a0, o0, fd0, t1, ghost_get hT t2 (fun q => by rw [q] at t3; cases t3), t3, t4⟩
  · intro B' h' tk' ps S hP'
    refine ⟨⟨.inl ⟨.bool true, .bool true, [], rfl, fun _ => rfl, .bool _, ?_, ?_⟩, fun b o e => ?_, rfl, hg⟩, ⟨ps, hP'⟩, trivial⟩
    · first | rfl | wrow_post
    · exact fun _ => ⟨List.nodup_nil, fun a ha => absurd ha List.not_mem_nil⟩
    · have e' : (ghostOf s₁.heap [(c, P)]).get? b = some o := e
      have hb : b ≠ P := fun q => by
        have hn : (ghostOf s₁.heap [(c, P)]).get? P = none := hideAll_none _ (List.mem_singleton_self _)
        rw [q, hn] at e'; cases e'
      exact S.old b o (fun q => hb (List.mem_singleton.mp q)) (of_hideAll _ e')
