import PyProof.Rows.All
import Wide.All
import OpenK.AllK
import Wide.FinOn
import PySem.Challenge.RW_nb0145_01
set_option maxRecDepth 100000
set_option Elab.async false
set_option linter.unusedVariables false
set_option linter.unusedSectionVars false
set_option linter.unusedSimpArgs false

namespace Mine
open PySem PySem.Calls PyProof.Rows

inductive Kd where
  | list (xs : List Value)
  | tup (xs : List Value)
  | cell (v : Option Value)
  | obj (o : Obj)

def Kd.Is : Kd → Obj → Prop
  | .list xs, o => ∃ n, o = { cls := .type "list", data := .seq xs.toArray n }
  | .tup xs, o => ∃ n, o = { cls := .type "tuple", data := .seq xs.toArray n }
  | .cell v, o => o.data = .cell v
  | .obj o', o => o = o'

def At (h : Heap) (a : Addr) (k : Kd) : Prop := ∃ o, h.get? a = some o ∧ k.Is o

abbrev Store := Addr → Option Kd
def Store.add (B : Store) (a : Addr) (k : Kd) : Store := fun x => if x = a then some k else B x
def Store.le (B B' : Store) : Prop := ∀ a k, B a = some k → B' a = some k

abbrev St (s : Shared) (h : Heap) (t : Nat) : Shared := ⟨h, s.gens, s.drawn, t, s.os⟩

def upd (m : Str → Option Value) (x : Str) (v : Value) : Str → Option Value := fun y => if y = x then some v else m y

theorem At.lt {h : Heap} {a : Addr} {k : Kd} (x : At h a k) : a < h.objs.size := let ⟨_, ho, _⟩ := x; Heap.lt_size ho
theorem At.of {h h' : Heap} {a : Addr} {k : Kd} (x : At h a k) (e : ∀ o, h.get? a = some o → h'.get? a = some o) : At h' a k := let ⟨o, ho, hk⟩ := x; ⟨o, e o ho, hk⟩
theorem At.isList {h : Heap} {a : Addr} {xs : List Value} (x : At h a (.list xs)) : h.IsList a xs.toArray := by
  obtain ⟨o, ho, n, rfl⟩ := x
  exact ⟨_, ho, rfl, n, rfl⟩
theorem At.isTup {h : Heap} {a : Addr} {xs : List Value} (x : At h a (.tup xs)) : IsTup h a xs.toArray := by
  obtain ⟨o, ho, n, rfl⟩ := x
  exact ⟨_, ho, rfl, n, rfl⟩
theorem At.isTuple {h : Heap} {a : Addr} {xs : List Value} (x : At h a (.tup xs)) : h.IsTuple a xs.toArray := by
  obtain ⟨o, ho, n, rfl⟩ := x
  exact ⟨_, ho, rfl, n, rfl⟩
theorem At.isCell {h : Heap} {a : Addr} {v : Option Value} (x : At h a (.cell v)) : h.IsCell a v := x
theorem At.plain {h : Heap} {a : Addr} {xs : List Value} (x : At h a (.list xs)) : ∃ n, h.get? a = some { cls := .type "list", data := .seq xs.toArray n } := by
  obtain ⟨o, ho, n, rfl⟩ := x
  exact ⟨n, ho⟩
theorem At.free {h : Heap} {a : Addr} {k : Kd} (x : At h a k) : ∃ o, h.get? a = some o := let ⟨o, ho, _⟩ := x; ⟨o, ho⟩

theorem Store.le.refl (B : Store) : B.le B := fun _ _ e => e
theorem Store.le.trans {A B C : Store} (x : A.le B) (y : B.le C) : A.le C := fun a k e => y a k (x a k e)
theorem Store.add_at (B : Store) (a : Addr) (k : Kd) : B.add a k a = some k := if_pos rfl
theorem Store.le_add {B : Store} {a : Addr} {k : Kd} (h : B a = none) : B.le (B.add a k) := fun b k' e => by
  unfold Store.add
  split
  · rename_i hb; subst hb; rw [h] at e; cases e
  · exact e

structure Entry where
  h₀ : Heap
  S : List Addr
  B₀ : Store

/-- the frame at hand -/
structure Fm (H : Heap) (e : Entry) (B : Store) (L : Addr) (m : Str → Option Value) (W : List (Addr × Kd)) (h : Heap) : Prop where
  ns : h.Ns L m
  base : ∀ b o, H.get? b = some o → h.get? b = some o
  sub : ∀ a k, B a = some k → At h a k
  own : ∀ p ∈ W, At h p.1 p.2
  apart : (L :: W.map (·.1)).Nodup
  outB : ∀ a ∈ L :: W.map (·.1), B a = none
  outH : ∀ a ∈ L :: W.map (·.1), H.get? a = none
  keep : ∀ b o, e.h₀.get? b = some o → b ∉ e.S → h.get? b = some o
  inW : ∀ a ∈ e.S, a ∈ W.map (·.1)
  new : ∀ a ∈ L :: W.map (·.1), a ∈ e.S ∨ e.h₀.get? a = none
  grow : ∀ a k, e.B₀ a = some k → B a = some k
  fresh : ∀ a k, B a = some k → e.B₀ a = some k ∨ e.h₀.get? a = none

/-- what a call gives back: everything that stood stands, but for S; the store has grown by new objects alone -/
structure Back (B : Store) (S : List Addr) (h h' : Heap) (B' : Store) : Prop where
  keep : ∀ b o, h.get? b = some o → b ∉ S → h'.get? b = some o
  grow : ∀ a k, B a = some k → B' a = some k
  fresh : ∀ a k, B' a = some k → B a = some k ∨ h.get? a = none
  sub : ∀ a k, B' a = some k → At h' a k

namespace Fm
variable {H : Heap} {e : Entry} {B : Store} {L : Addr} {m : Str → Option Value} {W : List (Addr × Kd)} {h : Heap}

theorem apartB (F : Fm H e B L m W h) {a : Addr} {k : Kd} (ek : B a = some k) {b : Addr} (hb : b ∈ L :: W.map (·.1)) : a ≠ b := by
  rintro rfl; rw [F.outB _ hb] at ek; cases ek
theorem apartH (F : Fm H e B L m W h) {a : Addr} {o : Obj} (ek : H.get? a = some o) {b : Addr} (hb : b ∈ L :: W.map (·.1)) : a ≠ b := by
  rintro rfl; rw [F.outH _ hb] at ek; cases ek
theorem apartK (F : Fm H e B L m W h) {a : Addr} {o : Obj} (ek : e.h₀.get? a = some o) (hS : a ∉ e.S) {b : Addr} (hb : b ∈ L :: W.map (·.1)) : a ≠ b := by
  rintro rfl
  rcases F.new _ hb with h1 | h1
  · exact hS h1
  · rw [h1] at ek; cases ek

theorem store (F : Fm H e B L m W h) {h' : Heap} {m' : Str → Option Value} (hn : h'.Ns L m') (hs : Heap.SameBut L h h') : Fm H e B L m' W h' := by
  have nd := List.nodup_cons.mp F.apart
  have hk : ∀ b o, b ≠ L → h.get? b = some o → h'.get? b = some o := fun b o hb eo => (hs.2 b hb).trans eo
  refine ⟨hn, fun b o eo => hk b o (F.apartH eo (.head _)) (F.base b o eo), fun a k ek => (F.sub a k ek).of fun o => hk a o (F.apartB ek (.head _)), fun p hp => (F.own p hp).of fun o => hk p.1 o ?_, F.apart, F.outB, F.outH, fun b o eo hb => hk b o (F.apartK eo hb (.head _)) (F.keep b o eo hb), F.inW, F.new, F.grow, F.fresh⟩
  intro hp'
  exact nd.1 (hp' ▸ List.mem_map_of_mem hp)

theorem grown (F : Fm H e B L m W h) {h' : Heap} (hk : ∀ b o, h.get? b = some o → h'.get? b = some o) : Fm H e B L m W h' :=
  ⟨F.ns.keeps hk, fun b o eo => hk _ _ (F.base b o eo), fun a k ek => (F.sub a k ek).of fun o => hk a o, fun p hp => (F.own p hp).of fun o => hk p.1 o, F.apart, F.outB, F.outH, fun b o eo hb => hk _ _ (F.keep b o eo hb), F.inW, F.new, F.grow, F.fresh⟩

theorem size_none (F : Fm H e B L m W h) : H.get? h.objs.size = none ∧ B h.objs.size = none ∧ e.h₀.get? h.objs.size = none ∧ h.objs.size ∉ L :: W.map (·.1) := by
  have lt : ∀ {a o}, h.get? a = some o → a ≠ h.objs.size := fun eo => Nat.ne_of_lt (Heap.lt_size eo)
  refine ⟨?_, ?_, ?_, ?_⟩
  · cases q : H.get? h.objs.size with
    | none => rfl
    | some o => exact absurd rfl (lt (F.base _ _ q))
  · cases q : B h.objs.size with
    | none => rfl
    | some k => exact absurd (F.sub _ _ q).lt (Nat.lt_irrefl _)
  · cases q : e.h₀.get? h.objs.size with
    | none => rfl
    | some o =>
      by_cases hS : h.objs.size ∈ e.S
      · obtain ⟨p, hp, he⟩ := List.mem_map.mp (F.inW _ hS)
        exact absurd (he ▸ (F.own p hp).lt) (Nat.lt_irrefl _)
      · exact absurd rfl (lt (F.keep _ _ q hS))
  · intro hm
    rcases List.mem_cons.mp hm with h1 | h1
    · exact absurd (h1 ▸ F.ns.lt) (Nat.lt_irrefl _)
    · obtain ⟨p, hp, he⟩ := List.mem_map.mp h1
      exact absurd (he ▸ (F.own p hp).lt) (Nat.lt_irrefl _)

/-- a new object of one's own -/
theorem push (F : Fm H e B L m W h) {o : Obj} {k : Kd} (hk : k.Is o) (hf : o.isFreed = false) : Fm H e B L m ((h.objs.size, k) :: W) (h.push o) := by
  obtain ⟨n1, n2, n3, n4⟩ := F.size_none
  have G := F.grown (h' := h.push o) fun b o' eo => Heap.get?_push_of_some _ eo
  have nd := List.nodup_cons.mp F.apart
  have mem : ∀ a, a ∈ L :: ((h.objs.size, k) :: W).map (·.1) → a = h.objs.size ∨ a ∈ L :: W.map (·.1) := fun a ha => by
    simp only [List.map_cons, List.mem_cons] at ha ⊢
    rcases ha with h1 | h1 | h1
    · exact .inr (.inl h1)
    · exact .inl h1
    · exact .inr (.inr h1)
  refine ⟨G.ns, G.base, G.sub, fun p hp => ?_, ?_, fun a ha => ?_, fun a ha => ?_, G.keep, fun a ha => ?_, fun a ha => ?_, G.grow, G.fresh⟩
  · rcases List.mem_cons.mp hp with rfl | hp
    · exact ⟨o, Heap.get?_push_size _ hf, hk⟩
    · exact G.own p hp
  · simp only [List.map_cons]
    refine List.nodup_cons.mpr ⟨fun hm => ?_, List.nodup_cons.mpr ⟨fun hm => n4 (.tail _ hm), nd.2⟩⟩
    rcases List.mem_cons.mp hm with h1 | h1
    · exact n4 (h1 ▸ .head _)
    · exact nd.1 h1
  · rcases mem a ha with rfl | h1
    · exact n2
    · exact F.outB a h1
  · rcases mem a ha with rfl | h1
    · exact n1
    · exact F.outH a h1
  · exact .tail _ (F.inW a ha)
  · rcases mem a ha with rfl | h1
    · exact .inr n3
    · exact F.new a h1

/-- a new object laid into the store -/
theorem pushB (F : Fm H e B L m W h) {o : Obj} {k : Kd} (hk : k.Is o) (hf : o.isFreed = false) : Fm H e (B.add h.objs.size k) L m W (h.push o) := by
  obtain ⟨n1, n2, n3, n4⟩ := F.size_none
  have G := F.grown (h' := h.push o) fun b o' eo => Heap.get?_push_of_some _ eo
  refine ⟨G.ns, G.base, fun a k' ek => ?_, G.own, G.apart, fun a ha => ?_, G.outH, G.keep, G.inW, G.new, fun a k' ek => Store.le_add n2 _ _ (F.grow a k' ek), fun a k' ek => ?_⟩
  · unfold Store.add at ek
    split at ek
    · rename_i ha; subst ha; cases ek
      exact ⟨o, Heap.get?_push_size _ hf, hk⟩
    · exact G.sub a k' ek
  · unfold Store.add
    rw [if_neg (by rintro rfl; exact n4 ha)]
    exact F.outB a ha
  · unfold Store.add at ek
    split at ek
    · rename_i ha; subst ha; exact .inr n3
    · exact F.fresh a k' ek

/-- an object of one's own is changed -/
theorem change (F : Fm H e B L m W h) {i : Nat} {a : Addr} {k k' : Kd} (hi : W[i]? = some (a, k)) {h' : Heap} (hs : Heap.SameBut a h h') (hk : At h' a k') : Fm H e B L m (W.set i (a, k')) h' := by
  have hm : (a, k) ∈ W := List.mem_of_getElem? hi
  have haW : a ∈ L :: W.map (·.1) := .tail _ (List.mem_map_of_mem (f := (·.1)) hm)
  have hkeep : ∀ b o, b ≠ a → h.get? b = some o → h'.get? b = some o := fun b o hb eo => (hs.2 b hb).trans eo
  obtain ⟨hlt, hget⟩ := List.getElem?_eq_some_iff.mp hi
  have em : (W.set i (a, k')).map (·.1) = W.map (·.1) := by
    rw [List.map_set]
    refine PySem.W.X.set_same ?_
    rw [List.getElem?_map, hi]; rfl
  have nd := List.nodup_cons.mp F.apart
  have haL : L ≠ a := by rintro rfl; exact nd.1 (List.mem_map_of_mem hm)
  obtain ⟨oL, es, ep, hL, r⟩ := F.ns
  refine ⟨⟨oL, es, ep, hkeep _ _ haL hL, r⟩, fun b o eo => hkeep b o (F.apartH eo haW) (F.base b o eo), fun b kb eb => (F.sub b kb eb).of fun o => hkeep b o (F.apartB eb haW), fun p hp => ?_, by rw [em]; exact F.apart, by rw [em]; exact F.outB, by rw [em]; exact F.outH, fun b o eo hb => hkeep b o (F.apartK eo hb haW) (F.keep b o eo hb), by rw [em]; exact F.inW, by rw [em]; exact F.new, F.grow, F.fresh⟩
  rcases List.mem_iff_getElem?.mp hp with ⟨j, hj⟩
  by_cases hij : i = j
  · subst hij
    rw [List.getElem?_set_self hlt] at hj
    cases hj
    exact hk
  · rw [List.getElem?_set_ne hij] at hj
    have hpm : p ∈ W := List.mem_of_getElem? hj
    refine (F.own p hpm).of fun o => hkeep p.1 o ?_
    intro hpa
    have h1 : (W.map (·.1))[i]? = some a := by rw [List.getElem?_map, hi]; rfl
    have h2 : (W.map (·.1))[j]? = some a := by rw [List.getElem?_map, hj, ← hpa]; rfl
    obtain ⟨l1, g1⟩ := List.getElem?_eq_some_iff.mp h1
    obtain ⟨l2, g2⟩ := List.getElem?_eq_some_iff.mp h2
    have pw := List.pairwise_iff_getElem.mp nd.2
    rcases Nat.lt_or_gt_of_ne hij with hlt' | hlt'
    · exact pw i j l1 l2 hlt' (g1.trans g2.symm)
    · exact pw j i l2 l1 hlt' (g2.trans g1.symm)

/-- own objects are forgotten -/
theorem drop (F : Fm H e B L m W h) {W' : List (Addr × Kd)} (hw : W'.Sublist W) (hS : ∀ a ∈ e.S, a ∈ W'.map (·.1)) : Fm H e B L m W' h := by
  have hs : (L :: W'.map (·.1)).Sublist (L :: W.map (·.1)) := (hw.map _).cons_cons _
  exact ⟨F.ns, F.base, F.sub, fun p hp => F.own p (hw.mem hp), F.apart.sublist hs, fun a ha => F.outB a (hs.mem ha), fun a ha => F.outH a (hs.mem ha), F.keep, hS, fun a ha => F.new a (hs.mem ha), F.grow, F.fresh⟩

/-- an own object is laid into the store -/
theorem freeze (F : Fm H e B L m ((a, k) :: W) h) (haS : a ∉ e.S) : Fm H e (B.add a k) L m W h := by
  have hm : a ∈ L :: ((a, k) :: W).map (·.1) := .tail _ (.head _)
  have nd := List.nodup_cons.mp F.apart
  have nd2 : a ∉ W.map (·.1) ∧ (W.map (·.1)).Nodup := List.nodup_cons.mp nd.2
  have G := F.drop (W' := W) (List.sublist_cons_self _ _) (fun b hb => by
    rcases List.mem_cons.mp (F.inW b hb) with h1 | h1
    · exact absurd (show a ∈ e.S from (show b = a from h1) ▸ hb) haS
    · exact h1)
  have ha0 : B a = none := F.outB a hm
  have ne : ∀ b ∈ L :: W.map (·.1), b ≠ a := by
    rintro b hb rfl
    rcases List.mem_cons.mp hb with h1 | h1
    · exact nd.1 (h1 ▸ .head _)
    · exact nd2.1 h1
  refine ⟨G.ns, G.base, fun b k' ek => ?_, G.own, G.apart, fun b hb => ?_, G.outH, G.keep, G.inW, G.new, fun b k' ek => Store.le_add ha0 _ _ (F.grow b k' ek), fun b k' ek => ?_⟩
  · unfold Store.add at ek
    split at ek
    · rename_i hb; subst hb; cases ek
      exact F.own (b, k) (.head _)
    · exact G.sub b k' ek
  · unfold Store.add
    rw [if_neg (ne b hb)]
    exact G.outB b hb
  · unfold Store.add at ek
    split at ek
    · rename_i hb; subst hb
      exact .inr ((F.new b hm).resolve_left haS)
    · exact F.fresh b k' ek

/-- behind a call that has changed nothing of ours -/
theorem back (F : Fm H e B L m W h) {h' : Heap} {B' : Store} (b : Back B [] h h' B') : Fm H e B' L m W h' := by
  have hk : ∀ b o, h.get? b = some o → h'.get? b = some o := fun x o eo => b.keep x o eo (by simp)
  have G := F.grown hk
  have old : ∀ a, (∃ o, h.get? a = some o) → ∀ k, B' a = some k → B a = some k := fun a ⟨o, eo⟩ k ek => (b.fresh a k ek).resolve_right (by rw [eo]; simp)
  have liveW : ∀ a ∈ L :: W.map (·.1), ∃ o, h.get? a = some o := fun a ha => by
    rcases List.mem_cons.mp ha with h1 | h1
    · obtain ⟨o, _, _, ho, _⟩ := F.ns; exact ⟨o, h1 ▸ ho⟩
    · obtain ⟨p, hp, rfl⟩ := List.mem_map.mp h1
      exact (F.own p hp).free
  refine ⟨G.ns, G.base, b.sub, G.own, G.apart, fun a ha => ?_, G.outH, G.keep, G.inW, G.new, fun a k ek => b.grow a k (F.grow a k ek), fun a k ek => ?_⟩
  · cases q : B' a with
    | none => rfl
    | some k =>
      have := old a (liveW a ha) k q
      rw [F.outB a ha] at this; cases this
  · rcases b.fresh a k ek with h1 | h1
    · exact F.fresh a k h1
    · refine .inr ?_
      cases q : e.h₀.get? a with
      | none => rfl
      | some o =>
        exfalso
        by_cases hS : a ∈ e.S
        · obtain ⟨o', eo'⟩ := liveW a (.tail _ (F.inW a hS))
          rw [h1] at eo'; cases eo'
        · rw [F.keep a o q hS] at h1; cases h1

/-- behind a call that has changed one object of ours -/
theorem back1 {a : Addr} {k k' : Kd} (F : Fm H e B L m ((a, k) :: W) h) {h' : Heap} {B' : Store} (b : Back B [a] h h' B') (hk' : At h' a k') : Fm H e B' L m ((a, k') :: W) h' := by
  have nd := List.nodup_cons.mp F.apart
  have nd2 : a ∉ W.map (·.1) ∧ (W.map (·.1)).Nodup := List.nodup_cons.mp nd.2
  have haW : a ∈ L :: ((a, k) :: W).map (·.1) := .tail _ (.head _)
  have hkeep : ∀ x o, x ≠ a → h.get? x = some o → h'.get? x = some o := fun x o hx eo => b.keep x o eo (by simpa using hx)
  have liveW : ∀ x ∈ L :: ((a, k) :: W).map (·.1), ∃ o, h.get? x = some o := fun x hx => by
    rcases List.mem_cons.mp hx with h1 | h1
    · obtain ⟨o, _, _, ho, _⟩ := F.ns; exact ⟨o, h1 ▸ ho⟩
    · obtain ⟨p, hp, rfl⟩ := List.mem_map.mp h1
      exact (F.own p hp).free
  have haL : L ≠ a := by rintro rfl; exact nd.1 (.head _)
  obtain ⟨oL, es, ep, hL, r⟩ := F.ns
  refine ⟨⟨oL, es, ep, hkeep _ _ haL hL, r⟩, fun x o eo => hkeep x o (F.apartH eo haW) (F.base x o eo), b.sub, fun p hp => ?_, F.apart, fun x hx => ?_, F.outH, fun x o eo hx => hkeep x o (F.apartK eo hx haW) (F.keep x o eo hx), F.inW, F.new, fun x kx ek => b.grow x kx (F.grow x kx ek), fun x kx ek => ?_⟩
  · rcases List.mem_cons.mp hp with rfl | hp
    · exact hk'
    · refine (F.own p (.tail _ hp)).of fun o => hkeep p.1 o ?_
      intro hpa; exact nd2.1 (hpa ▸ List.mem_map_of_mem (f := (·.1)) hp)
  · cases q : B' x with
    | none => rfl
    | some kx =>
      obtain ⟨o, eo⟩ := liveW x hx
      have := (b.fresh x kx q).resolve_right (by rw [eo]; simp)
      rw [F.outB x hx] at this; cases this
  · rcases b.fresh x kx ek with h1 | h1
    · exact F.fresh x kx h1
    · refine .inr ?_
      cases q : e.h₀.get? x with
      | none => rfl
      | some o =>
        exfalso
        by_cases hS : x ∈ e.S
        · obtain ⟨o', eo'⟩ := liveW x (.tail _ (F.inW x hS))
          rw [h1] at eo'; cases eo'
        · rw [F.keep x o q hS] at h1; cases h1

/-- the end of a def's own frame -/
theorem leave (F : Fm H e B L m W h) : Back e.B₀ e.S e.h₀ h B := ⟨F.keep, F.grow, F.fresh, F.sub⟩

theorem swap {p q : Addr × Kd} (F : Fm H e B L m (p :: q :: W) h) : Fm H e B L m (q :: p :: W) h := by
  refine ⟨F.ns, F.base, F.sub, fun x hp => F.own x ?_, ?_, fun a ha => F.outB a ?_, fun a ha => F.outH a ?_, F.keep, fun a ha => ?_, fun a ha => F.new a ?_, F.grow, F.fresh⟩
  · simp only [List.mem_cons] at hp ⊢
    rcases hp with h1 | h1 | h1
    · exact .inr (.inl h1)
    · exact .inl h1
    · exact .inr (.inr h1)
  · have := F.apart
    simp only [List.map_cons, List.nodup_cons, List.mem_cons, not_or] at this ⊢
    refine ⟨⟨this.1.2.1, this.1.1, this.1.2.2⟩, ⟨fun hh => this.2.1.1 hh.symm, this.2.2.1⟩, this.2.1.2, this.2.2.2⟩
  all_goals
    first
      | (have ha' := F.inW a ha; simp only [List.map_cons, List.mem_cons] at ha' ⊢
         rcases ha' with h1 | h1 | h1
         · exact .inr (.inl h1)
         · exact .inl h1
         · exact .inr (.inr h1))
      | (simp only [List.map_cons, List.mem_cons] at ha ⊢
         rcases ha with h1 | h1 | h1 | h1
         · exact .inl h1
         · exact .inr (.inr (.inl h1))
         · exact .inr (.inl h1)
         · exact .inr (.inr (.inr h1)))
theorem castW (F : Fm H e B L m W h) {W' : List (Addr × Kd)} (hw : W = W') : Fm H e B L m W' h := hw ▸ F
theorem at0 (F : Fm H e B L m W h) {i : Nat} {a : Addr} {k : Kd} (hi : W[i]? = some (a, k)) : At h a k := F.own _ (List.mem_of_getElem? hi)
end Fm

end Mine

namespace Mine
open PySem PySem.Calls PyProof.Rows

abbrev NoE : Value → Shared → Prop := fun _ _ => False

/-- what a def's contract takes for granted -/
structure Pre (H : Heap) (B : Store) (W : List (Addr × Kd)) (h : Heap) : Prop where
  base : ∀ b o, H.get? b = some o → h.get? b = some o
  sub : ∀ a k, B a = some k → At h a k
  own : ∀ p ∈ W, At h p.1 p.2
  apart : (W.map (·.1)).Nodup
  outB : ∀ a ∈ W.map (·.1), B a = none
  outH : ∀ a ∈ W.map (·.1), H.get? a = none

theorem Fm.pre {H : Heap} {e : Entry} {B : Store} {L : Addr} {m : Str → Option Value} {W W' : List (Addr × Kd)} {h : Heap} (F : Fm H e B L m W h) (hw : W'.Sublist W) : Pre H B W' h := by
  have hs : (W'.map (·.1)).Sublist (W.map (·.1)) := hw.map _
  exact ⟨F.base, F.sub, fun p hp => F.own p (hw.mem hp), (List.nodup_cons.mp F.apart).2.sublist hs, fun a ha => F.outB a (.tail _ (hs.mem ha)), fun a ha => F.outH a (.tail _ (hs.mem ha))⟩
theorem Fm.pre0 {H : Heap} {e : Entry} {B : Store} {L : Addr} {m : Str → Option Value} {W : List (Addr × Kd)} {h : Heap} (F : Fm H e B L m W h) : Pre H B [] h := F.pre (List.nil_sublist _)
theorem Fm.pre1 {H : Heap} {e : Entry} {B : Store} {L : Addr} {m : Str → Option Value} {p : Addr × Kd} {W : List (Addr × Kd)} {h : Heap} (F : Fm H e B L m (p :: W) h) : Pre H B [p] h := F.pre (by simp)

/-- room around -/
structure Rm (A : Around) (k : Nat) : Prop where
  depth : A.depth + k < recursionLimit
  units : A.units + 100 * k + 200 < cLine
  handled : A.handled = none
theorem Rm.le {A : Around} {k j : Nat} (r : Rm A k) (h : j ≤ k) : Rm A j := ⟨by have := r.depth; omega, by have := r.units; omega, r.handled⟩
theorem Rm.deeper {A : Around} {k : Nat} (r : Rm A (k + 1)) (env : Env) : Rm (A.deeper env) k :=
  ⟨by have := r.depth; show A.depth + 1 + k < _; omega, by have := r.units; show A.units + 3 + 100 * k + 200 < _; omega, r.handled⟩
theorem Rm.room {A : Around} {k : Nat} (r : Rm A k) : A.depth < recursionLimit := by have := r.depth; omega
theorem Rm.unit {A : Around} {k : Nat} (r : Rm A k) : A.units < cLine := by have := r.units; omega

def cellW (cs : List (Str × Addr)) (cm : Str → Option Value) : List (Addr × Kd) := cs.map fun x => (x.2, Kd.cell (cm x.1))

section
variable {prog : Program} {w : World} {A : Around} {s : Shared} {H : Heap} {B : Store} {W : List (Addr × Kd)} {h : Heap} {t : Nat}

theorem enter {R : Result → Shared → Prop} {a : Addr} {o : Obj} {fd : FuncData} {body : List Stmt} {vals : List Value} {binds : List (Str × Value)} {k : Nat}
    (hA : Rm A k) (P : Pre H B W h) (ho : H.get? a = some o) (hdata : o.data = .func fd) (hlim : H.NoLimit) (hcd : H.CodeRec fd.code fd.qualname)
    (hbody : fd.body = .stmts body) (hbind : bindArgs fd ⟨vals, []⟩ = pure binds) (hclo : fd.closure = [])
    (hkind : ∀ x ∈ binds, fd.scope.names.lookup x.1 = some .local ∨ (fd.scope.names.lookup x.1 = some .cell ∧ ((cellsFrom (h.objs.size + 1) fd.scope.names []).lookup x.1).isSome = true))
    (hnd : ((cellsFrom (h.objs.size + 1) fd.scope.names []).map (·.1)).Nodup)
    (go : ∀ h' t', Fm H ⟨h, W.map (·.1), B⟩ B (callEnvC fd h.objs.size a).locals (bindL (callEnvC fd h.objs.size a).kindOf binds fun _ => none)
        (cellW (callEnvC fd h.objs.size a).cells (bindC (callEnvC fd h.objs.size a).kindOf binds fun _ => none) ++ W) h' →
      wpAny (model prog w) (A.deeper (callEnvC fd h.objs.size a)) (execs body (callEnvC fd h.objs.size a)) (fun f s' => R (.ok (.ret (match f with | .ret v => v | _ => .none))) s') NoE (St s h' t'))
    (hco : fd.scope.isCoroutine = false) (hgen : fd.scope.isGenerator = false) (hk : fd.scope.kind = .function) :
    codeAny (model prog w) A (.call (.ref a) ⟨vals, []⟩) R (St s h t) := by
  refine codeAny_call_cells hA.room (P.base _ _ ho) hdata (hlim.keeps P.base) (hcd.keeps P.base) hbody hbind hclo hkind (fun s₁ X => ?_) hco hgen hk
  obtain ⟨h', t', rfl⟩ := X.toInCall.same
  have cellAt : ∀ p ∈ cellW (callEnvC fd h.objs.size a).cells (bindC (callEnvC fd h.objs.size a).kindOf binds fun _ => none), At h' p.1 p.2 ∧ h.objs.size < p.1 := by
    intro p hp
    obtain ⟨⟨n, c⟩, hm, rfl⟩ := List.mem_map.mp hp
    refine ⟨?_, X.above n c hm⟩
    have hl : (callEnvC fd h.objs.size a).cells.lookup n = some c := by
      have key : ∀ (l : List (Str × Addr)), (l.map (·.1)).Nodup → (n, c) ∈ l → l.lookup n = some c := by
        intro l
        induction l with
        | nil => intro _ hm; cases hm
        | cons x r ih =>
          intro nd hm
          obtain ⟨xn, xc⟩ := x
          rw [List.map_cons, List.nodup_cons] at nd
          rcases List.mem_cons.mp hm with he | hm'
          · cases he; rw [List.lookup_cons]; simp
          · rw [List.lookup_cons]
            have hin : n ∈ r.map (·.1) := List.mem_map_of_mem (f := (·.1)) hm'
            have : (n == xn) = false := beq_eq_false_iff_ne.mpr (by rintro rfl; exact nd.1 hin)
            rw [this]; exact ih nd.2 hm'
      exact key _ hnd hm
    exact X.cell n c hl
  have hkeep := X.toInCall.keep
  have newA : ∀ x, h.objs.size ≤ x → h.get? x = none := fun x hx => by
    cases q : h.get? x with
    | none => rfl
    | some o => exact absurd (Heap.lt_size q) (Nat.not_lt.mpr hx)
  have noneB : ∀ x, h.objs.size ≤ x → B x = none := fun x hx => by
    cases q : B x with
    | none => rfl
    | some k => exact absurd (P.sub _ _ q).lt (Nat.not_lt.mpr hx)
  have noneH : ∀ x, h.objs.size ≤ x → H.get? x = none := fun x hx => by
    cases q : H.get? x with
    | none => rfl
    | some o => exact absurd (Heap.lt_size (P.base _ _ q)) (Nat.not_lt.mpr hx)
  have split : ∀ x, x ∈ (callEnvC fd h.objs.size a).locals :: (cellW (callEnvC fd h.objs.size a).cells (bindC (callEnvC fd h.objs.size a).kindOf binds fun _ => none) ++ W).map (·.1) → h.objs.size ≤ x ∨ x ∈ W.map (·.1) := by
    intro x hx
    rcases List.mem_cons.mp hx with h1 | h1
    · exact .inl (h1 ▸ X.toInCall.fresh)
    · rw [List.map_append] at h1
      rcases List.mem_append.mp h1 with h1 | h1
      · obtain ⟨p, hp, rfl⟩ := List.mem_map.mp h1
        exact .inl (Nat.le_of_lt (cellAt p hp).2)
      · exact .inr h1
  have ltW : ∀ x ∈ W.map (·.1), x < h.objs.size := by
    intro x hx
    obtain ⟨p, hp, rfl⟩ := List.mem_map.mp hx
    exact (P.own p hp).lt
  refine wpAny_mono (go h' t' ⟨X.toInCall.ns, fun b o e => hkeep b o (P.base b o e), fun x k e => (P.sub x k e).of fun o => hkeep x o, fun p hp => ?_, ?_, fun x hx => ?_, fun x hx => ?_, fun b o e _ => hkeep b o e, fun x hx => ?_, fun x hx => ?_, fun _ _ e => e, fun _ _ e => .inl e⟩) (fun _ _ q => q) (fun _ _ q => q.elim)
  · rcases List.mem_append.mp hp with hp | hp
    · exact (cellAt p hp).1
    · exact (P.own p hp).of fun o => hkeep p.1 o
  · rw [List.map_append]
    refine List.nodup_cons.mpr ⟨fun hm => ?_, List.nodup_append.mpr ⟨?_, P.apart, ?_⟩⟩
    · rcases List.mem_append.mp hm with hm | hm
      · obtain ⟨p, hp, he⟩ := List.mem_map.mp hm
        have := (cellAt p hp).2
        rw [he] at this
        exact Nat.lt_irrefl _ this
      · exact absurd (ltW _ hm) (Nat.not_lt.mpr X.toInCall.fresh)
    · unfold cellW
      rw [List.map_map]
      have : (callEnvC fd h.objs.size a).cells.Pairwise fun x y => x.2 ≠ y.2 := X.apart
      show (List.map (fun x => x.2) (callEnvC fd h.objs.size a).cells).Nodup
      exact List.pairwise_map.mpr this
    · intro x hx y hy he
      obtain ⟨p, hp, rfl⟩ := List.mem_map.mp hx
      have h1 := (cellAt p hp).2
      have h2 := ltW _ hy
      rw [he] at h1
      omega
  · rcases split x hx with h1 | h1
    · exact noneB x h1
    · exact P.outB x h1
  · rcases split x hx with h1 | h1
    · exact noneH x h1
    · exact P.outH x h1
  · rw [List.map_append]; exact List.mem_append.mpr (.inr hx)
  · rcases split x hx with h1 | h1
    · exact .inr (newA x h1)
    · exact .inl h1
end
end Mine

namespace Mine
open PySem PySem.Calls PyProof.Rows

theorem upL {h : Heap} {l : Addr} {items : Array Value} {n : Nat} (x : IsL h l items n) (f : Array Value → Array Value) : ∃ n', IsL (h.update l (Obj.mapSeq f)) l (f items) n' := ⟨_, PySem.IsL.update x f⟩
section
variable {prog : Program} {w : World} {A : Around} {E : Value → Shared → Prop} {s : Shared} {H : Heap} {e : Entry} {B : Store} {L : Addr} {m : Str → Option Value} {W : List (Addr × Kd)} {h : Heap} {t : Nat} {env : Env}
  {Q : Value → Shared → Prop} {QF : Flow → Shared → Prop} {QU : Unit → Shared → Prop} {QB : Bool → Shared → Prop}

theorem r_name {x : Str} {pos : Pos} {v : Value} (F : Fm H e B env.locals m W h) (hv : m x = some v) (k : Q v (St s h t))
    (hk : env.scope.kind = .function := by rfl) (hl : env.kindOf x = some .local := by rfl) (hd : (x == ("__debug__" : Str)) = false := by decide) :
    wpAny (model prog w) A (eval (.Name x pos) env) Q E (St s h t) := wpAny_Name (wpAny_loadName_local hk hl F.ns hv k) hd
theorem r_cname {x : Str} {pos : Pos} {v : Value} {c : Addr} (F : Fm H e B env.locals m W h) (i : Nat) (hi : W[i]? = some (c, .cell (some v))) (k : Q v (St s h t))
    (hc : env.cells.lookup x = some c := by rfl)
    (hk : env.scope.kind = .function := by rfl) (hl : env.kindOf x = some .cell := by rfl) (hd : (x == ("__debug__" : Str)) = false := by decide) :
    wpAny (model prog w) A (eval (.Name x pos) env) Q E (St s h t) := wpAny_Name (wpAny_loadName_cell hk hl hc (F.at0 hi).isCell k) hd
theorem r_glob {x : Str} {pos : Pos} {v : Value} {mg : Str → Option Value} (F : Fm H e B L m W h) (hg : H.Ns env.globals mg) (hv : mg x = some v) (k : Q v (St s h t))
    (hk : env.scope.kind = .function := by rfl) (hx : env.kindOf x = some .globalImplicit := by rfl) (hd : (x == ("__debug__" : Str)) = false := by decide) :
    wpAny (model prog w) A (eval (.Name x pos) env) Q E (St s h t) :=
  Name_function_global hk hx (loadGlobal_global (hg.keeps F.base) hv k) hd
theorem r_bi {x : Str} {pos : Pos} {v : Value} {mg mb : Str → Option Value} (F : Fm H e B L m W h) (hg : H.Ns env.globals mg) (hn : mg x = none) (hb : H.Ns env.builtins mb) (hv : mb x = some v) (k : Q v (St s h t))
    (hk : env.scope.kind = .function := by rfl) (hx : env.kindOf x = some .globalImplicit := by rfl) (hd : (x == ("__debug__" : Str)) = false := by decide) :
    wpAny (model prog w) A (eval (.Name x pos) env) Q E (St s h t) :=
  Name_function_global hk hx (loadGlobal_builtin (hg.keeps F.base) hn (hb.keeps F.base) hv k) hd
theorem r_int {i : Int} {k₀ : Nat} {pos : Pos} (k : Q (.int i t) (St s h (t + 1))) : wpAny (model prog w) A (eval (.Constant (.int i) k₀ pos) env) Q E (St s h t) := wpAny_Constant_int k
theorem r_str {x : Str} {k₀ : Nat} {pos : Pos} (k : Q (.str x t) (St s h (t + 1))) : wpAny (model prog w) A (eval (.Constant (.str x) k₀ pos) env) Q E (St s h t) := wpAny_Constant_str k
theorem r_none {k₀ : Nat} {pos : Pos} (k : Q .none (St s h t)) : wpAny (model prog w) A (eval (.Constant .none k₀ pos) env) Q E (St s h t) := wpAny_Constant_none k
theorem r_bool {b : Bool} {k₀ : Nat} {pos : Pos} (k : Q (.bool b) (St s h t)) : wpAny (model prog w) A (eval (.Constant (.bool b) k₀ pos) env) Q E (St s h t) := wpAny_Constant_bool k

theorem r_store {x : Str} {v : Value} (F : Fm H e B env.locals m W h) (k : ∀ h', Fm H e B env.locals (upd m x v) W h' → QU () (St s h' (t + 1)))
    (hk : env.scope.kind = .function := by rfl) (hl : env.kindOf x = some .local := by rfl) : wpAny (model prog w) A (storeName env x v) QU E (St s h t) :=
  wpAny_storeName_local hl F.ns (fun h' hn hs => k h' (F.store hn hs)) (by rw [hk]; rfl)
theorem r_storec {x : Str} {v : Value} {c : Addr} {v₀ : Option Value} (F : Fm H e B env.locals m W h) (i : Nat) (hi : W[i]? = some (c, .cell v₀)) (k : ∀ h', Fm H e B env.locals m (W.set i (c, .cell (some v))) h' → QU () (St s h' t))
    (hc : env.cells.lookup x = some c := by rfl)
    (hk : env.scope.kind = .function := by rfl) (hl : env.kindOf x = some .cell := by rfl) : wpAny (model prog w) A (storeName env x v) QU E (St s h t) :=
  wpAny_storeName_cell hk hl hc (F.at0 hi).isCell fun h' hc' hs => k h' (F.change hi hs hc')

-- statements, with what follows them
theorem s_nil (k : QF .next (St s h t)) : wpAny (model prog w) A (execs [] env) QF E (St s h t) := wpAny_execs_nil k
theorem s_assign {x : Str} {p' p : Pos} {v : Expr} {rest : List Stmt}
    (k : wpAny (model prog w) A (eval v env) (fun v s₁ => wpAny (model prog w) A (storeName env x v) (fun _ s₂ => wpAny (model prog w) A (execs rest env) QF E s₂) E s₁) E (St s h t))
    (hs : swapsWith v (some (.Name x p')) p.line env = pure false := by rfl) : wpAny (model prog w) A (execs (.Assign [.Name x p'] v p :: rest) env) QF E (St s h t) :=
  wpAny_execs_cons (wpAny_Assign_Name k hs)
theorem s_setitem {o i v : Expr} {p' p : Pos} {rest : List Stmt}
    (k : wpAny (model prog w) A (eval v env) (fun v s₁ => wpAny (model prog w) A (eval o env) (fun ov s₂ => wpAny (model prog w) A (eval i env) (fun iv s₃ =>
      wpAny (model prog w) A (setItem ov iv v) (fun _ s₄ => wpAny (model prog w) A (execs rest env) QF E s₄) E s₃) E s₂) E s₁) E (St s h t))
    (hs : swapsWith v (some (.Subscript o i p')) p.line env = pure false := by rfl) : wpAny (model prog w) A (execs (.Assign [.Subscript o i p'] v p :: rest) env) QF E (St s h t) :=
  wpAny_execs_cons (wpAny_Assign_Subscript k hs)
theorem s_expr {v : Expr} {p : Pos} {rest : List Stmt} (k : wpAny (model prog w) A (eval v env) (fun _ s₁ => wpAny (model prog w) A (execs rest env) QF E s₁) E (St s h t))
    (hi : interactive env = false := by rfl) (hs : swapsWith v none p.line env = pure false := by rfl) : wpAny (model prog w) A (execs (.Expr v p :: rest) env) QF E (St s h t) :=
  wpAny_execs_cons (wpAny_Expr_any k hi hs)
theorem s_ret {v : Expr} {p : Pos} {rest : List Stmt} (k : wpAny (model prog w) A (eval v env) (fun v s₁ => QF (.ret v) s₁) E (St s h t)) : wpAny (model prog w) A (execs (.Return (some v) p :: rest) env) QF E (St s h t) :=
  wpAny_execs_cons (wpAny_Return_some k)
theorem s_brk {p : Pos} {rest : List Stmt} (k : QF .brk (St s h t)) : wpAny (model prog w) A (execs (.Break p :: rest) env) QF E (St s h t) := wpAny_execs_cons (wpAny_Break k)
theorem s_cont {p : Pos} {rest : List Stmt} (k : QF .cont (St s h t)) : wpAny (model prog w) A (execs (.Continue p :: rest) env) QF E (St s h t) := wpAny_execs_cons (wpAny_Continue k)

/-- a branch, and what follows it -/
def Then (prog : Program) (w : World) (A : Around) (E : Value → Shared → Prop) (env : Env) (rest : List Stmt) (QF : Flow → Shared → Prop) : Flow → Shared → Prop :=
  fun f s' => match f with | .next => wpAny (model prog w) A (execs rest env) QF E s' | f => QF f s'
theorem Then.next {rest : List Stmt} {s' : Shared} (k : wpAny (model prog w) A (execs rest env) QF E s') : Then prog w A E env rest QF .next s' := k
theorem Then.brk {rest : List Stmt} {s' : Shared} (k : QF .brk s') : Then prog w A E env rest QF .brk s' := k
theorem Then.cont {rest : List Stmt} {s' : Shared} (k : QF .cont s') : Then prog w A E env rest QF .cont s' := k
theorem Then.ret {rest : List Stmt} {s' : Shared} {v : Value} (k : QF (.ret v) s') : Then prog w A E env rest QF (.ret v) s' := k
theorem s_if {test : Expr} {body orelse : List Stmt} {p : Pos} {rest : List Stmt}
    (k : wpAny (model prog w) A (isTrue test env (eval test env)) (fun b s₂ => if b then wpAny (model prog w) A (execs body env) (Then prog w A E env rest QF) E s₂ else wpAny (model prog w) A (execs orelse env) (Then prog w A E env rest QF) E s₂) E (St s h t)) :
    wpAny (model prog w) A (execs (.If test body orelse p :: rest) env) QF E (St s h t) :=
  wpAny_execs_cons (wpAny_If k)

/-- a while by an invariant and a measure: nothing is raised in it -/
theorem s_while {test : Expr} {body : List Stmt} {p : Pos} {rest : List Stmt} (I : Nat → Shared → Prop)
    (turn : ∀ n s, I n s → wpAny (model prog w) A (isTrue test env (eval test env)) (fun b s₂ =>
        if b then wpAny (model prog w) A (execs body env) (fun f s₃ => match f with
            | .next | .cont => ∃ m, m < n ∧ I m s₃
            | .brk => wpAny (model prog w) A (execs rest env) QF E s₃
            | .ret v => QF (.ret v) s₃) NoE s₂
        else wpAny (model prog w) A (execs rest env) QF E s₂) NoE s)
    (n : Nat) (hI : I n (St s h t)) : wpAny (model prog w) A (execs (.While test body [] p :: rest) env) QF E (St s h t) := by
  refine wpAny_execs_cons (wpAny_While (codeAny_whileLoop I (fun n s hI => wpAny_mono (turn n s hI) (fun b s₂ hb => ?_) fun _ _ q => q.elim) n hI))
  cases b with
  | true =>
    simp only [if_true] at hb ⊢
    refine wpAny_mono hb (fun f s₃ hf => ?_) fun _ _ q => q.elim
    cases f <;> exact hf
  | false =>
    simp only [Bool.false_eq_true, if_false] at hb ⊢
    exact wpAny_execs_nil hb

-- calls of the text's own defs
theorem r_call {f : Str} {p pos : Pos} {args : List Expr} {a : Addr} {o : Obj} {fd : FuncData} {mg : Str → Option Value} (F : Fm H e B L m W h) (hg : H.Ns env.globals mg) (hv : mg f = some (.ref a))
    (ho : H.get? a = some o) (hd : o.data = .func fd)
    (k : wpAny (model prog w) A (evalArgs (.ref a) true (backTo pos (starEach args env)) []) (fun x s₁ => (∀ b o, H.get? b = some o → s₁.heap.get? b = some o) ∧ wpAny (model prog w) A (call (.ref a) x.pos x.kw) Q E s₁) E (St s h t))
    (hk : env.scope.kind = .function := by rfl) (hx : env.kindOf f = some .globalImplicit := by rfl) (hdb : (f == ("__debug__" : Str)) = false := by decide) :
    wpAny (model prog w) A (eval (.Call (.Name f p) args [] pos) env) Q E (St s h t) :=
  wpAny_Call_NameR (r_glob F hg hv (callWith_function (o := o) (fd := fd) (wpAny_mono k (fun x s₁ hx => ⟨⟨hx.1 _ _ ho, hd⟩, by simpa using hx.2⟩) fun _ _ q => q)) hk hx hdb)
theorem args_nil {f : Value} {pos : Pos} {QA : Args → Shared → Prop} (k : QA ⟨[], []⟩ (St s h t)) : wpAny (model prog w) A (evalArgs f true (backTo pos (starEach [] env)) []) QA E (St s h t) := PySem.evalArgs_none k
theorem args_1 {f : Value} {pos : Pos} {e₁ : Expr} {QA : Args → Shared → Prop} (k : wpAny (model prog w) A (eval e₁ env) (fun v s₁ => QA ⟨[v], []⟩ s₁) E (St s h t))
    (he : backTo pos (starEach [e₁] env) = [(false, eval e₁ env)] := by rfl) : wpAny (model prog w) A (evalArgs f true (backTo pos (starEach [e₁] env)) []) QA E (St s h t) := by
  rw [he]
  exact evalArgs_plain (spliced_cons (wpAny_mono k (fun v s₁ q => spliced_nil q) fun _ _ q => q))
theorem args_2 {f : Value} {pos : Pos} {e₁ e₂ : Expr} {QA : Args → Shared → Prop} (k : wpAny (model prog w) A (eval e₁ env) (fun v s₁ => wpAny (model prog w) A (eval e₂ env) (fun u s₂ => QA ⟨[v, u], []⟩ s₂) E s₁) E (St s h t))
    (he : backTo pos (starEach [e₁, e₂] env) = [(false, eval e₁ env), (false, eval e₂ env)] := by rfl) : wpAny (model prog w) A (evalArgs f true (backTo pos (starEach [e₁, e₂] env)) []) QA E (St s h t) := by
  rw [he]
  exact evalArgs_plain (spliced_cons (wpAny_mono k (fun v s₁ q => spliced_cons (wpAny_mono q (fun u s₂ q => spliced_nil q) fun _ _ q => q)) fun _ _ q => q))
theorem args_3 {f : Value} {pos : Pos} {e₁ e₂ e₃ : Expr} {QA : Args → Shared → Prop} (k : wpAny (model prog w) A (eval e₁ env) (fun v s₁ => wpAny (model prog w) A (eval e₂ env) (fun u s₂ => wpAny (model prog w) A (eval e₃ env) (fun x s₃ => QA ⟨[v, u, x], []⟩ s₃) E s₂) E s₁) E (St s h t))
    (he : backTo pos (starEach [e₁, e₂, e₃] env) = [(false, eval e₁ env), (false, eval e₂ env), (false, eval e₃ env)] := by rfl) : wpAny (model prog w) A (evalArgs f true (backTo pos (starEach [e₁, e₂, e₃] env)) []) QA E (St s h t) := by
  rw [he]
  exact evalArgs_plain (spliced_cons (wpAny_mono k (fun v s₁ q => spliced_cons (wpAny_mono q (fun u s₂ q => spliced_cons (wpAny_mono q (fun x s₃ q => spliced_nil q) fun _ _ q => q)) fun _ _ q => q)) fun _ _ q => q))
theorem r_body {a : Addr} {vs : List Value} (k : codeAny (model prog w) A (.call (.ref a) ⟨vs, []⟩) (fun r s' => match r with | .ok (.ret v) => Q v s' | .ok _ => False | .error e => E e s') (St s h t)) :
    wpAny (model prog w) A (call (.ref a) vs []) Q E (St s h t) := wpAny_call k

-- built-in functions
theorem r_bcall {f : Str} {id : String} {p pos : Pos} {args : List Expr} {mg mb : Str → Option Value} (F : Fm H e B L m W h) (hg : H.Ns env.globals mg) (hn : mg f = none) (hb : H.Ns env.builtins mb) (hv : mb f = some (.builtin id))
    (k : wpAny (model prog w) A (evalArgs (.builtin id) true (backTo pos (starEach args env)) []) (fun x s₁ => wpAny (model prog w) A (call (.builtin id) x.pos x.kw) Q E s₁) E (St s h t))
    (hpl : (backTo pos (starEach args env)).any (·.1) = false := by rfl)
    (hk : env.scope.kind = .function := by rfl) (hx : env.kindOf f = some .globalImplicit := by rfl) (hdb : (f == ("__debug__" : Str)) = false := by decide) :
    wpAny (model prog w) A (eval (.Call (.Name f p) args [] pos) env) Q E (St s h t) :=
  wpAny_Call_NameR (r_bi F hg hn hb hv (callWith_builtin hpl (wpAny_mono k (fun x s₁ hx => by simpa using hx) fun _ _ q => q)) hk hx hdb)
theorem r_tcall {f : Str} {T : String} {p pos : Pos} {args : List Expr} {mg mb : Str → Option Value} (F : Fm H e B L m W h) (hg : H.Ns env.globals mg) (hn : mg f = none) (hb : H.Ns env.builtins mb) (hv : mb f = some (.type T))
    (k : wpAny (model prog w) A (evalArgs (.type T) true (backTo pos (starEach args env)) []) (fun x s₁ => wpAny (model prog w) A (call (.type T) x.pos x.kw) Q E s₁) E (St s h t))
    (hpl : (backTo pos (starEach args env)).any (·.1) = false := by rfl)
    (hk : env.scope.kind = .function := by rfl) (hx : env.kindOf f = some .globalImplicit := by rfl) (hdb : (f == ("__debug__" : Str)) = false := by decide) :
    wpAny (model prog w) A (eval (.Call (.Name f p) args [] pos) env) Q E (St s h t) :=
  wpAny_Call_NameR (r_bi F hg hn hb hv (PySem.callWith_type hpl (wpAny_mono k (fun x s₁ hx => by simpa using hx) fun _ _ q => q)) hk hx hdb)
theorem r_len {l : Addr} {xs : List Value} (hl : At h l (.list xs)) (hf : xs.length < 2 ^ 62) (k : Q (.int xs.length (t + 1)) (St s h (t + 1 + 1))) : wpAny (model prog w) A (call (.builtin "len") [.ref l] []) Q E (St s h t) :=
  len_list hl.isList (by simp; omega) (by simpa using k)

-- operations
theorem r_bin {l r : Expr} {op : Operator} {p : Pos} (k : wpAny (model prog w) A (eval l env) (fun a s₁ => wpAny (model prog w) A (eval r env) (fun b s₂ => wpAny (model prog w) A (binaryOp op a b) Q E s₂) E s₁) E (St s h t)) :
    wpAny (model prog w) A (eval (.BinOp l op r p) env) Q E (St s h t) := wpAny_BinOp k
theorem r_add {a b : Int} {u v : Tok} (k : Q (.int (a + b) t) (St s h (t + 1))) : wpAny (model prog w) A (binaryOp .Add (.int a u) (.int b v)) Q E (St s h t) := add_int k
theorem r_sub' {a b : Int} {u v : Tok} (k : Q (.int (a - b) t) (St s h (t + 1))) : wpAny (model prog w) A (binaryOp .Sub (.int a u) (.int b v)) Q E (St s h t) := sub_int k
theorem r_mul {a b : Int} {u v : Tok} (hm : IntMulOk a b) (k : Q (.int (a * b) t) (St s h (t + 1))) : wpAny (model prog w) A (binaryOp .Mult (.int a u) (.int b v)) Q E (St s h t) := mul_int k hm
theorem r_shr {a b : Int} {u v : Tok} (hn : 0 ≤ b) (k : Q (.int (a.fdiv (2 ^ b.toNat)) t) (St s h (t + 1))) : wpAny (model prog w) A (binaryOp .RShift (.int a u) (.int b v)) Q E (St s h t) := rshift_int hn k
theorem r_div {a b : Int} {u v : Tok} (hn : b ≠ 0) (hp : Builtin.divisionGoesByPylong a b = false) (k : Q (.int (a.fdiv b) t) (St s h (t + 1))) : wpAny (model prog w) A (binaryOp .FloorDiv (.int a u) (.int b v)) Q E (St s h t) := floordiv_int hn k (.inl hp)
theorem r_mod {a b : Int} {u v : Tok} (hn : b ≠ 0) (k : Q (.int (a.fmod b) t) (St s h (t + 1))) : wpAny (model prog w) A (binaryOp .Mod (.int a u) (.int b v)) Q E (St s h t) := mod_int hn k
theorem r_cmp {l r : Expr} {op : CmpOp} {p : Pos} (k : wpAny (model prog w) A (eval l env) (fun a s₁ => wpAny (model prog w) A (eval r env) (fun b s₂ => wpAny (model prog w) A (compareOp op a b) Q E s₂) E s₁) E (St s h t))
    (hm : behindInMarks op r = false := by with_unfolding_all rfl) : wpAny (model prog w) A (eval (.Compare l [op] [r] p) env) Q E (St s h t) := wpAny_Compare1 k hm
theorem t_cmp {l r : Expr} {op : CmpOp} {p : Pos} {whole : Sem Value} (k : wpAny (model prog w) A (eval l env) (fun a s₁ => wpAny (model prog w) A (eval r env) (fun b s₂ => wpAny (model prog w) A (compareOp op a b) (fun c s₃ => wpAny (model prog w) A (truthy c) QB E s₃) E s₂) E s₁) E (St s h t))
    (hm : behindInMarks op r = false := by with_unfolding_all rfl) : wpAny (model prog w) A (isTrue (.Compare l [op] [r] p) env whole) QB E (St s h t) := wpAny_isTrue_Compare1 k hm
theorem t_bool {b : Bool} (k : QB b (St s h t)) : wpAny (model prog w) A (truthy (.bool b)) QB E (St s h t) := wpAny_truthy_bool k
theorem t_list {l : Addr} {xs : List Value} (hl : At h l (.list xs)) (hf : xs.length < 2 ^ 62) (k : QB (!xs.isEmpty) (St s h (t + 1 + 1))) : wpAny (model prog w) A (truthy (.ref l)) QB E (St s h t) :=
  wpAny_truthy_list hl.isList (by simp; omega) (by simpa using k)
theorem t_not {x : Expr} {p : Pos} {whole : Sem Value} (k : wpAny (model prog w) A (isTrue x env (eval x env)) (fun b s₁ => QB (!b) s₁) E (St s h t)) : wpAny (model prog w) A (isTrue (.UnaryOp .Not x p) env whole) QB E (St s h t) := wpAny_isTrue_Not k
theorem t_and2 {x y : Expr} {p : Pos} {whole : Sem Value} (k : wpAny (model prog w) A (isTrue x env (eval x env)) (fun b s₁ => if b then wpAny (model prog w) A (isTrue y env (eval y env)) QB E s₁ else QB false s₁) E (St s h t)) :
    wpAny (model prog w) A (isTrue (.BoolOp .And [x, y] p) env whole) QB E (St s h t) := by
  refine wpAny_isTrue_BoolOp (wpAny_allTrue_And_cons (wpAny_mono k (fun b s₁ hb => ?_) fun _ _ q => q))
  cases b with
  | false => exact hb
  | true =>
    simp only [if_true] at hb ⊢
    refine wpAny_allTrue_And_cons (wpAny_mono hb (fun b s₂ hb => ?_) fun _ _ q => q)
    cases b with
    | false => exact hb
    | true => exact wpAny_allTrue_And_nil hb
theorem t_name {x : Str} {pos : Pos} {whole : Sem Value} (k : wpAny (model prog w) A whole (fun v s₁ => wpAny (model prog w) A (truthy v) QB E s₁) E (St s h t)) :
    wpAny (model prog w) A (isTrue (.Name x pos) env whole) QB E (St s h t) := wpAny_isTrue_value k
theorem r_lt {a b : Int} {u v : Tok} (k : Q (.bool (decide (a < b))) (St s h t)) : wpAny (model prog w) A (compareOp .Lt (.int a u) (.int b v)) Q E (St s h t) := lt_int k
theorem r_gt {a b : Int} {u v : Tok} (k : Q (.bool (decide (b < a))) (St s h t)) : wpAny (model prog w) A (compareOp .Gt (.int a u) (.int b v)) Q E (St s h t) := gt_int k

-- items
theorem r_sub {v i : Expr} {p : Pos} (k : wpAny (model prog w) A (eval v env) (fun o s₁ => wpAny (model prog w) A (eval i env) (fun iv s₂ => wpAny (model prog w) A (subscriptTail v i o iv) Q E s₂) E s₁) E (St s h t)) :
    wpAny (model prog w) A (eval (.Subscript v i p) env) Q E (St s h t) := Subscript_ k
theorem i_list {v i : Expr} {l : Addr} {xs : List Value} {k : Int} {u : Tok} {x : Value} (hl : At h l (.list xs)) (h0 : 0 ≤ k) (hk : k < 2 ^ 62) (hx : xs[k.toNat]? = some x) (g : Q x (St s h t))
    (hs : subscripted i false (.ref l) (.int k u) = operate [.ref l, .int k u] (getItem (.ref l) (.int k u)) := by with_unfolding_all rfl) : wpAny (model prog w) A (subscriptTail v i (.ref l) (.int k u)) Q E (St s h t) :=
  tail_any hl.isList.typeIs slot_list_getitem.lookup (wpAny_getItem_list hl.isList h0 (by omega) (by simpa using hx) g) hs
theorem i_last {v i : Expr} {l : Addr} {xs : List Value} {u : Tok} {x : Value} (hl : At h l (.list xs)) (hk : xs.length < 2 ^ 62) (hx : xs.getLast? = some x) (g : Q x (St s h t))
    (hs : subscripted i false (.ref l) (.int (-1) u) = operate [.ref l, .int (-1) u] (getItem (.ref l) (.int (-1) u)) := by with_unfolding_all rfl) : wpAny (model prog w) A (subscriptTail v i (.ref l) (.int (-1) u)) Q E (St s h t) := by
  have hne : 0 < xs.length := by
    cases xs with
    | nil => cases hx
    | cons _ _ => simp
  refine tail_any hl.isList.typeIs slot_list_getitem.lookup (wpAny_getItem_list_neg hl.isList (by omega) (by simp; omega) (by omega) ?_ g) hs
  rw [List.getLast?_eq_getElem?] at hx
  have : ((-1 : Int) + (xs.toArray.size : Int)).toNat = xs.length - 1 := by simp; omega
  rw [this]; simpa using hx
theorem i_tup {v i : Expr} {l : Addr} {xs : List Value} {k : Int} {u : Tok} {x : Value} (hl : At h l (.tup xs)) (h0 : 0 ≤ k) (hk : k < 2 ^ 62) (hx : xs[k.toNat]? = some x) (g : Q x (St s h t))
    (hs : subscripted i false (.ref l) (.int k u) = operate [.ref l, .int k u] (getItem (.ref l) (.int k u)) := by with_unfolding_all rfl) : wpAny (model prog w) A (subscriptTail v i (.ref l) (.int k u)) Q E (St s h t) := by
  obtain ⟨hlt, _⟩ := List.getElem?_eq_some_iff.mp hx
  have hj : seqIndex? k xs.length = some k.toNat := by
    obtain ⟨j, rfl⟩ := Int.eq_ofNat_of_zero_le h0
    unfold seqIndex?
    simp at hlt ⊢
    omega
  exact item_tupleT hl.isTup (by omega) (by omega) hj hx g hs
theorem r_setitem {l : Addr} {xs : List Value} {k : Int} {u : Tok} {v : Value} (F : Fm H e B L m W h) (i : Nat) (hi : W[i]? = some (l, .list xs)) (h0 : 0 ≤ k) (hk : k < xs.length) (hf : xs.length < 2 ^ 62)
    (g : ∀ h', Fm H e B L m (W.set i (l, .list (xs.set k.toNat v))) h' → QU () (St s h' t)) : wpAny (model prog w) A (setItem (.ref l) (.int k u) v) QU E (St s h t) := by
  obtain ⟨n, hn⟩ := (F.at0 hi).plain
  refine PySem.W.ki_setAt (n := n) hn h0 (by omega) (by simpa using hk) (g _ (F.change hi (Heap.SameBut.update ..) ?_))
  have q := PySem.IsL.update (n := n) hn (·.setIfInBounds k.toNat v)
  refine ⟨_, q, (if (xs.toArray.setIfInBounds k.toNat v).size == xs.toArray.size then n else n + 1), ?_⟩
  congr 2
  simp

-- methods of lists
def AppendTo (l : Addr) (v : Value) (Q : Value → Shared → Prop) (s₂ : Shared) : Prop :=
  ∃ items n, items.size ≤ sizeLine ∧ IsL s₂.heap l items n ∧ Q .none { s₂ with heap := s₂.heap.update l (Obj.mapSeq fun xs => xs.push v) }
theorem appendTo {l : Addr} {v : Value} {xs : List Value} (F : Fm H e B L m W h) (i : Nat) (hi : W[i]? = some (l, .list xs)) (hf : xs.length < 2 ^ 20)
    (g : ∀ h', Fm H e B L m (W.set i (l, .list (xs ++ [v]))) h' → Q .none (St s h' t)) : AppendTo l v Q (St s h t) := by
  obtain ⟨n, hn⟩ := (F.at0 hi).plain
  refine ⟨xs.toArray, n, by rw [sizeLine_eq]; simp; omega, hn, g _ (F.change hi (Heap.SameBut.update ..) ?_)⟩
  refine ⟨_, PySem.IsL.update (n := n) hn (·.push v), (if (xs.toArray.push v).size == xs.toArray.size then n else n + 1), ?_⟩
  congr 2
  simp
def PopFrom (ov : Value) (Q : Value → Shared → Prop) (s₂ : Shared) : Prop :=
  ∃ l items n y, ov = .ref l ∧ IsL s₂.heap l items n ∧ items[items.size - 1]? = some y ∧ items.size ≤ sizeLine ∧ Q y { s₂ with heap := s₂.heap.update l (Obj.mapSeq fun xs => xs.eraseIdxIfInBounds (items.size - 1)) }
theorem popFrom {l : Addr} {y : Value} {xs : List Value} (F : Fm H e B L m W h) (i : Nat) (hi : W[i]? = some (l, .list (xs ++ [y]))) (hf : xs.length < 2 ^ 20)
    (g : ∀ h', Fm H e B L m (W.set i (l, .list xs)) h' → Q y (St s h' t)) : PopFrom (.ref l) Q (St s h t) := by
  obtain ⟨n, hn⟩ := (F.at0 hi).plain
  refine ⟨l, (xs ++ [y]).toArray, n, y, rfl, hn, by simp, by rw [sizeLine_eq]; simp; omega, g _ (F.change hi (Heap.SameBut.update ..) ?_)⟩
  obtain ⟨n', q⟩ := upL hn (fun xs_1 => xs_1.eraseIdxIfInBounds ((xs ++ [y]).toArray.size - 1))
  refine ⟨_, q, n', ?_⟩
  congr 2
  simp
  rw [List.eraseIdx_append_of_length_le (Nat.le_refl _)]
  simp
theorem m_append {o x : Expr} {apos pos : Pos}
    (k : wpAny (model prog w) A (eval o env) (fun ov s₁ => ∃ l xs, ov = .ref l ∧ At s₁.heap l (.list xs) ∧ wpAny (model prog w) A (eval x env) (fun v s₂ => AppendTo l v Q s₂) E s₁) E (St s h t))
    (hbase : attributeBase o (Str.ofString "append") env (eval o env) = eval o env := by rfl) (hline : (apos.endLine == pos.line) = true := by rfl)
    (htrees : backTo pos (starEach [x] env) = [(false, eval x env)] := by rfl) :
    wpAny (model prog w) A (eval (.Call (.Attribute o (Str.ofString "append") apos) [x] [] pos) env) Q E (St s h t) := by
  refine wpAny_Call_method1_late hbase hline htrees (wpAny_mono k (fun ov s₁ q => ?_) fun _ _ q => q)
  obtain ⟨l, xs, rfl, hl, q⟩ := q
  obtain ⟨n, hn⟩ := hl.plain
  exact ⟨"list", "list.append", PySem.F.plainAttrs_list, PySem.F.slot_list_append, PySem.F.type_list_append, hl.isList.typeIs, fun a ea => by cases ea; exact ⟨_, hn, rfl⟩, P.append_list q⟩
theorem m_pop {o : Expr} {apos pos : Pos}
    (k : wpAny (model prog w) A (eval o env) (fun ov s₁ => PopFrom ov Q s₁) E (St s h t))
    (hbase : attributeBase o (Str.ofString "pop") env (eval o env) = eval o env := by rfl) (hline : (apos.endLine == pos.line) = true := by rfl) :
    wpAny (model prog w) A (eval (.Call (.Attribute o (Str.ofString "pop") apos) [] [] pos) env) Q E (St s h t) := by
  refine wpAny_Call_method0_late hbase hline (wpAny_mono k (fun ov s₁ q => ?_) fun _ _ q => q)
  obtain ⟨l, items, n, y, rfl, hn, hy, hz, q⟩ := q
  exact ⟨"list", "list.pop", PySem.F.plainAttrs_list, PySem.F.slot_list_pop, PySem.F.type_list_pop, (PySem.IsL.isList (n := n) hn).typeIs, fun a ea => by cases ea; exact ⟨_, hn, rfl⟩, P.pop_list hn hy q hz⟩
end
end Mine

namespace Mine
open PySem PySem.Calls PyProof.Rows

def stmtAt (i : Nat) : Stmt := PySem.Challenge.pw_nb0145_01.main.body.getD i (.Pass default)
def nameOf : Stmt → Str | .FunctionDef n .. => n | _ => Str.empty
def argsOf : Stmt → Arguments | .FunctionDef _ a .. => a | _ => ⟨[], [], none, [], [], none, []⟩
def bodyOf : Stmt → List Stmt | .FunctionDef _ _ b .. => b | _ => []
def scopeOf : Stmt → Scope | .FunctionDef _ _ _ _ _ _ s .. => s | _ => default
def fdOf (i : Nat) (pm cd doc : Value) : FuncData := docDef (nameOf (stmtAt i)) (argsOf (stmtAt i)) (bodyOf (stmtAt i)) (scopeOf (stmtAt i)) pm cd doc

structure Pg where
  mg : Str → Option Value
  mb : Str → Option Value
  fa : Nat → Addr
  pm : Nat → Value
  cd : Nat → Value
  doc : Nat → Value
  fo : Nat → Obj

def defIdx : List Nat := [2, 3, 4, 5, 6, 10, 11, 12, 13, 14, 15, 16, 17]

structure PgOk (H : Heap) (P : Pg) : Prop where
  g : H.Ns mainGlobals P.mg
  b : H.Ns builtinsNs P.mb
  lim : H.NoLimit
  fn : ∀ i ∈ defIdx, P.mg (nameOf (stmtAt i)) = some (.ref (P.fa i))
  fo : ∀ i ∈ defIdx, H.get? (P.fa i) = some (P.fo i)
  fd : ∀ i ∈ defIdx, (P.fo i).data = .func (fdOf i (P.pm i) (P.cd i) (P.doc i))
  cr : ∀ i ∈ defIdx, H.CodeRec (P.cd i) (nameOf (stmtAt i))
  bi : ∀ x ∈ [Str.ofString "len", Str.ofString "range", Str.ofString "reversed", Str.ofString "sorted", Str.ofString "list"], P.mg x = none
  len : P.mb (Str.ofString "len") = some (.builtin "len")
  sorted : P.mb (Str.ofString "sorted") = some (.builtin "sorted")
  range : P.mb (Str.ofString "range") = some (.type "range")
  reversed : P.mb (Str.ofString "reversed") = some (.type "reversed")
  list : P.mb (Str.ofString "list") = some (.type "list")

def LtOk (prog : Program) (w : World) (B : Store) (v u : Value) (b : Bool) : Prop :=
  ∀ (A : Around) (E : Value → Shared → Prop) (s : Shared) (h : Heap) (t : Nat) (Q : Value → Shared → Prop) (k : Nat), Rm A k → (∀ a k, B a = some k → At h a k) →
    (∀ t', Q (.bool b) (St s h t')) → wpAny (model prog w) A (compareOp .Lt v u) Q E (St s h t)

/-- the sift-down of heapq, plain -/
def sdLoop (sp : Nat) (c : Value × Nat) (xs : List (Value × Nat)) (p : Nat) : List (Value × Nat) :=
  if h : sp < p then
    let par := xs.getD ((p - 1) / 2) c
    if c.2 < par.2 then sdLoop sp c (xs.set p par) ((p - 1) / 2) else xs.set p c
  else xs.set p c
termination_by p
decreasing_by omega

theorem cellsFrom_fst : ∀ (names : List (Str × NameKind)) (n k : Nat) (acc acc' : List (Str × Addr)), acc.map (·.1) = acc'.map (·.1) → (cellsFrom n names acc).map (·.1) = (cellsFrom k names acc').map (·.1)
  | [], _, _, _, _, h => h
  | (x, kd) :: r, n, k, acc, acc', h => by
    unfold cellsFrom
    split
    · exact cellsFrom_fst r _ _ _ _ (by simp [h])
    · exact cellsFrom_fst r _ _ _ _ h

section
variable {prog : Program} {w : World} {A : Around} {s : Shared} {H : Heap} {P : Pg} {B : Store} {W : List (Addr × Kd)} {h : Heap} {t : Nat}

/-- a def of the text is entered -/
theorem enterD {R : Result → Shared → Prop} {k : Nat} (i : Nat) (binds : List (Str × Value)) {vals : List Value}
    (hP : PgOk H P) (hA : Rm A k) (pre : Pre H B W h) (hi : i ∈ defIdx)
    (hbind : bindArgs (fdOf i (P.pm i) (P.cd i) (P.doc i)) ⟨vals, []⟩ = pure binds)
    (hkind : (binds.all fun y => (scopeOf (stmtAt i)).names.lookup y.1 == some .local || (scopeOf (stmtAt i)).names.lookup y.1 == some .cell) = true)
    (hnd : ((cellsFrom 0 (scopeOf (stmtAt i)).names []).map (·.1)).Nodup)
    (hco : (scopeOf (stmtAt i)).isCoroutine = false) (hgen : (scopeOf (stmtAt i)).isGenerator = false) (hk : (scopeOf (stmtAt i)).kind = .function)
    (go : ∀ env h' t', env = callEnvC (fdOf i (P.pm i) (P.cd i) (P.doc i)) h.objs.size (P.fa i) → Fm H ⟨h, W.map (·.1), B⟩ B env.locals (bindL env.kindOf binds fun _ => none) (cellW env.cells (bindC env.kindOf binds fun _ => none) ++ W) h' →
      Rm (A.deeper env) (k - 1) → wpAny (model prog w) (A.deeper env) (execs (bodyOf (stmtAt i)) env) (fun f s' => R (.ok (.ret (match f with | .ret v => v | _ => .none))) s') NoE (St s h' t'))
    (hk1 : 1 ≤ k := by omega) :
    codeAny (model prog w) A (.call (.ref (P.fa i)) ⟨vals, []⟩) R (St s h t) := by
  refine enter hA pre (hP.fo i hi) (hP.fd i hi) hP.lim (hP.cr i hi) rfl hbind rfl (PySem.W.kindsX hkind _) ?_ (fun h' t' F => go _ h' t' rfl F ?_) hco hgen hk
  · show (List.map (fun x => x.1) (cellsFrom (h.objs.size + 1) (scopeOf (stmtAt i)).names [])).Nodup
    rw [cellsFrom_fst _ _ 0 [] [] rfl]; exact hnd
  · obtain ⟨j, rfl⟩ : ∃ j, k = j + 1 := ⟨k - 1, by omega⟩
    exact hA.deeper _
end

abbrev vs (xs : List (Value × Nat)) : List Value := xs.map Prod.fst
theorem vs_get {xs : List (Value × Nat)} {i : Nat} {c : Value × Nat} (h : xs[i]? = some c) : (vs xs)[i]? = some c.1 := by simp [vs, h]
theorem vs_set (xs : List (Value × Nat)) (i : Nat) (c : Value × Nat) : (vs xs).set i c.1 = vs (xs.set i c) := by simp [vs, List.map_set]
theorem vs_len (xs : List (Value × Nat)) : (vs xs).length = xs.length := by simp [vs]

section
variable {prog : Program} {w : World} {A : Around} {s : Shared} {H : Heap} {P : Pg} {B : Store} {h : Heap} {t : Nat} {K : Store → Value → Nat → Prop}
  (hK : ∀ B v c u d, K B v c → K B u d → LtOk prog w B v u (decide (c < d)))
set_option maxHeartbeats 2000000
include hK
theorem siftdown_ok {R : Result → Shared → Prop} {k : Nat} {l : Addr} {xs : List (Value × Nat)} {sp p : Nat} {t1 t2 : Tok} {c : Value × Nat}
    (hP : PgOk H P) (hA : Rm A (k + 1)) (pre : Pre H B [(l, .list (vs xs))] h) (hxs : ∀ q ∈ xs, K B q.1 q.2) (hlen : xs.length < 1000) (hc : xs[p]? = some c)
    (go : ∀ h' t', Back B [l] h h' B → At h' l (.list (vs (sdLoop sp c xs p))) → R (.ok (.ret .none)) (St s h' t')) :
    codeAny (model prog w) A (.call (.ref (P.fa 5)) ⟨[.ref l, .int sp t1, .int p t2], []⟩) R (St s h t) := by
  refine enterD 5 [(Str.ofString "heap", .ref l), (Str.ofString "startpos", .int sp t1), (Str.ofString "pos", .int p t2)] hP hA pre (by decide) rfl rfl (by decide) rfl rfl rfl (fun env h' t' he F hA' => ?_)
  subst he
  have hpl : p < xs.length := (List.getElem?_eq_some_iff.mp hc).1
  refine s_assign (r_sub (r_name F rfl (r_name F rfl (i_list (F.at0 (i := 0) rfl) (by omega) (by omega) (x := c.1) (vs_get (by simpa using hc)) (r_store F fun h1 F1 => ?_)))))
  refine s_while (fun n s' => ∃ (h2 : Heap) (t2 : Nat) (m : Str → Option Value) (ys : List (Value × Nat)) (q : Nat), s' = St s h2 t2 ∧ Fm H ⟨h, [l], B⟩ B (callEnvC (fdOf 5 (P.pm 5) (P.cd 5) (P.doc 5)) h.objs.size (P.fa 5)).locals m [(l, .list (vs ys))] h2 ∧
      m (Str.ofString "heap") = some (.ref l) ∧ (∃ u, m (Str.ofString "startpos") = some (.int sp u)) ∧ (∃ u, m (Str.ofString "pos") = some (.int (q : Nat) u)) ∧ m (Str.ofString "newitem") = some c.1 ∧
      sdLoop sp c ys q = sdLoop sp c xs p ∧ q < ys.length ∧ ys.length < 1000 ∧ (∀ z ∈ ys, K B z.1 z.2) ∧ n = q) ?_ p ⟨h1, _, _, xs, p, rfl, F1, rfl, ⟨_, rfl⟩, ⟨_, rfl⟩, rfl, rfl, hpl, hlen, hxs, rfl⟩
  rintro n _ ⟨h2, t2, m, ys, q, rfl, F2, e1, ⟨u1, e2⟩, ⟨u2, e3⟩, e4, hsd, hq, hl, hys, rfl⟩
  have hcK : K B c.1 c.2 := hxs _ (List.mem_of_getElem? hc)
  refine t_cmp (r_name F2 e3 (r_name F2 e2 (r_gt (t_bool ?_))))
  by_cases hlt : sp < n
  · rw [if_pos (by simp; omega)]
    have hpp : (n - 1) / 2 < ys.length := by omega
    obtain ⟨par, hpar⟩ : ∃ par, ys[(n - 1) / 2]? = some par := ⟨_, List.getElem?_eq_getElem hpp⟩
    have hidx : ((n : Int) - 1).fdiv (2 ^ Int.toNat 1) = (((n - 1) / 2 : Nat) : Int) := by
      have : (n : Int) - 1 = ((n - 1 : Nat) : Int) := by omega
      rw [this]; exact (Int.ofNat_fdiv _ _).symm
    have hsd' : sdLoop sp c ys n = if c.2 < par.2 then sdLoop sp c (ys.set n par) ((n - 1) / 2) else ys.set n c := by
      rw [sdLoop, dif_pos hlt]
      simp [List.getD, hpar]
    refine s_assign (r_bin (r_bin (r_name F2 e3 (r_int (r_sub' (r_int (r_shr (by decide) (r_store F2 fun h3 F3 => ?_))))))))
    rw [hidx] at F3
    refine s_assign (r_sub (r_name F3 e1 (r_name F3 rfl (i_list (F3.at0 (i := 0) rfl) (by omega) (by omega) (x := par.1) (by rw [Int.toNat_natCast]; exact vs_get hpar) (r_store F3 fun h4 F4 => ?_)))))
    refine s_if (t_cmp (r_name F4 e4 (r_name F4 rfl (hK B _ _ _ _ hcK (hys _ (List.mem_of_getElem? hpar)) _ _ _ _ _ _ _ hA' F4.sub fun t5 => t_bool ?_))))
    by_cases hcl : c.2 < par.2
    · rw [if_pos (by simpa using hcl)]
      refine s_setitem (r_name F4 rfl (r_name F4 e1 (r_name F4 e3 (r_setitem F4 0 rfl (by omega) (by simpa using hq) (by simp; omega) fun h5 F5 => ?_))))
      refine s_assign (r_name F5 rfl (r_store F5 fun h6 F6 => ?_))
      refine s_cont (Then.cont ?_)
      have F6' := F6.castW (W' := [(l, .list (vs (ys.set n par)))]) (by rw [← vs_set]; rfl)
      refine ⟨(n - 1) / 2, by omega, h6, _, _, ys.set n par, (n - 1) / 2, rfl, F6', e1, ⟨_, e2⟩, ⟨_, rfl⟩, e4, ?_, by simpa using hpp, by simpa using hl, fun z hz => ?_, rfl⟩
      · rw [← hsd, hsd', if_pos hcl]
      · rcases List.mem_or_eq_of_mem_set hz with hz | rfl
        · exact hys _ hz
        · exact hys _ (List.mem_of_getElem? hpar)
    · rw [if_neg (by simpa using hcl)]
      refine s_nil (Then.next (s_brk ?_))
      refine s_setitem (r_name F4 e4 (r_name F4 e1 (r_name F4 e3 (r_setitem F4 0 rfl (by omega) (by simpa using hq) (by simp; omega) fun h5 F5 => ?_))))
      refine s_nil (go _ _ F5.leave ?_)
      rw [← hsd, hsd', if_neg hcl, ← vs_set]
      exact F5.at0 (i := 0) rfl
  · rw [if_neg (by simp; omega)]
    refine s_setitem (r_name F2 e4 (r_name F2 e1 (r_name F2 e3 (r_setitem F2 0 rfl (by omega) (by simpa using hq) (by simp; omega) fun h5 F5 => ?_))))
    refine s_nil (go _ _ F5.leave ?_)
    rw [← hsd, sdLoop, dif_neg hlt, ← vs_set]
    exact F5.at0 (i := 0) rfl
end
end Mine

namespace Mine
open PySem PySem.Calls PyProof.Rows

/-- the way down to a leaf, plain -/
def suLoop (xs : List (Value × Nat)) (p : Nat) : List (Value × Nat) × Nat :=
  if h : 2 * p + 1 < xs.length then
    if h2 : 2 * p + 2 < xs.length ∧ ¬ (xs.getD (2 * p + 1) (.none, 0)).2 < (xs.getD (2 * p + 2) (.none, 0)).2 then
      suLoop (xs.set p (xs.getD (2 * p + 2) (.none, 0))) (2 * p + 2)
    else suLoop (xs.set p (xs.getD (2 * p + 1) (.none, 0))) (2 * p + 1)
  else (xs, p)
termination_by xs.length - p
decreasing_by all_goals simp only [List.length_set]; omega

def siftup (xs : List (Value × Nat)) (p : Nat) : List (Value × Nat) :=
  sdLoop p (xs.getD p (.none, 0)) ((suLoop xs p).1.set (suLoop xs p).2 (xs.getD p (.none, 0))) (suLoop xs p).2

theorem suLoop_ok : ∀ (n : Nat) (xs : List (Value × Nat)) (p : Nat), xs.length - p ≤ n → p < xs.length → (suLoop xs p).1.length = xs.length ∧ (suLoop xs p).2 < xs.length ∧ ∀ z ∈ (suLoop xs p).1, z ∈ xs
  | n, xs, p, hn, hp => by
    rw [suLoop]
    split
    · rename_i h
      cases n with
      | zero => omega
      | succ n =>
        split
        · rename_i h2
          have := suLoop_ok n (xs.set p (xs.getD (2 * p + 2) (.none, 0))) (2 * p + 2) (by simp only [List.length_set]; omega) (by simp only [List.length_set]; omega)
          simp only [List.length_set] at this
          refine ⟨this.1, this.2.1, fun z hz => ?_⟩
          rcases List.mem_or_eq_of_mem_set (this.2.2 z hz) with h3 | rfl
          · exact h3
          · rw [List.getD_eq_getElem?_getD, List.getElem?_eq_getElem h2.1]; exact List.getElem_mem _
        · have := suLoop_ok n (xs.set p (xs.getD (2 * p + 1) (.none, 0))) (2 * p + 1) (by simp only [List.length_set]; omega) (by simp only [List.length_set]; omega)
          simp only [List.length_set] at this
          refine ⟨this.1, this.2.1, fun z hz => ?_⟩
          rcases List.mem_or_eq_of_mem_set (this.2.2 z hz) with h3 | rfl
          · exact h3
          · rw [List.getD_eq_getElem?_getD, List.getElem?_eq_getElem h]; exact List.getElem_mem _
    · exact ⟨rfl, hp, fun z hz => hz⟩

section
variable {prog : Program} {w : World} {A : Around} {s : Shared} {H : Heap} {P : Pg} {B : Store} {h : Heap} {t : Nat} {K : Store → Value → Nat → Prop}
  (hK : ∀ B v c u d, K B v c → K B u d → LtOk prog w B v u (decide (c < d)))
set_option maxHeartbeats 2000000
include hK
theorem siftup_ok {R : Result → Shared → Prop} {k : Nat} {l : Addr} {xs : List (Value × Nat)} {p : Nat} {t1 : Tok}
    (hP : PgOk H P) (hA : Rm A (k + 2)) (pre : Pre H B [(l, .list (vs xs))] h) (hxs : ∀ q ∈ xs, K B q.1 q.2) (hlen : xs.length < 1000) (hpl : p < xs.length)
    (go : ∀ h' t', Back B [l] h h' B → At h' l (.list (vs (siftup xs p))) → R (.ok (.ret .none)) (St s h' t')) :
    codeAny (model prog w) A (.call (.ref (P.fa 6)) ⟨[.ref l, .int p t1], []⟩) R (St s h t) := by
  refine enterD 6 [(Str.ofString "heap", .ref l), (Str.ofString "pos", .int p t1)] hP hA pre (by decide) rfl rfl (by decide) rfl rfl rfl (fun env h' t' he F hA' => ?_)
  subst he
  obtain ⟨c, hc⟩ : ∃ c, xs[p]? = some c := ⟨_, List.getElem?_eq_getElem hpl⟩
  have hcD : xs.getD p (.none, 0) = c := by rw [List.getD_eq_getElem?_getD, hc]; rfl
  refine s_assign (r_bcall F hP.g (hP.bi _ (by decide)) hP.b hP.len (args_1 (r_name F rfl (r_len (F.at0 (i := 0) rfl) (by simp; omega) (r_store F fun h1 F1 => ?_)))))
  refine s_assign (r_name F1 rfl (r_store F1 fun h2 F2 => ?_))
  refine s_assign (r_sub (r_name F2 rfl (r_name F2 rfl (i_list (F2.at0 (i := 0) rfl) (by omega) (by omega) (x := c.1) (vs_get (by simpa using hc)) (r_store F2 fun h3 F3 => ?_)))))
  refine s_assign (r_bin (r_bin (r_int (r_name F3 rfl (r_mul (IntMulOk.of_left (by decide)) (r_int (r_add (r_store F3 fun h4 F4 => ?_))))))))
  refine s_while (fun n s' => ∃ (h2 : Heap) (t2 : Nat) (m : Str → Option Value) (ys : List (Value × Nat)) (q : Nat), s' = St s h2 t2 ∧ Fm H ⟨h, [l], B⟩ B (callEnvC (fdOf 6 (P.pm 6) (P.cd 6) (P.doc 6)) h.objs.size (P.fa 6)).locals m [(l, .list (vs ys))] h2 ∧
      m (Str.ofString "heap") = some (.ref l) ∧ (∃ u, m (Str.ofString "startpos") = some (.int p u)) ∧ (∃ u, m (Str.ofString "pos") = some (.int (q : Nat) u)) ∧ m (Str.ofString "newitem") = some c.1 ∧
      (∃ u, m (Str.ofString "endpos") = some (.int (ys.length : Nat) u)) ∧ (∃ u, m (Str.ofString "childpos") = some (.int (2 * (q : Nat) + 1) u)) ∧
      suLoop ys q = suLoop xs p ∧ q < ys.length ∧ ys.length < 1000 ∧ (∀ z ∈ ys, K B z.1 z.2) ∧ n = ys.length - q) ?_ (xs.length - p) ⟨h4, _, _, xs, p, rfl, F4, rfl, ⟨_, rfl⟩, ⟨_, rfl⟩, rfl, ⟨_, by rw [← vs_len]; rfl⟩, ⟨_, rfl⟩, rfl, hpl, hlen, hxs, rfl⟩
  rintro n _ ⟨h2, t2, m, ys, q, rfl, F2, e1, ⟨u1, e2⟩, ⟨u2, e3⟩, e4, ⟨u3, e5⟩, ⟨u4, e6⟩, hsu, hq, hl, hys, rfl⟩
  have hcK : K B c.1 c.2 := hxs _ (List.mem_of_getElem? hc)
  refine t_cmp (r_name F2 e6 (r_name F2 e5 (r_lt (t_bool ?_))))
  by_cases hlt : 2 * q + 1 < ys.length
  · rw [if_pos (by simp; omega)]
    obtain ⟨lc, hlc⟩ : ∃ x, ys[2 * q + 1]? = some x := ⟨_, List.getElem?_eq_getElem hlt⟩
    have hlcD : ys.getD (2 * q + 1) (.none, 0) = lc := by rw [List.getD_eq_getElem?_getD, hlc]; rfl
    have n1 : (2 * (q : Int) + 1).toNat = 2 * q + 1 := by omega
    have n2 : (2 * (q : Int) + 1 + 1).toNat = 2 * q + 2 := by omega
    -- what is left of the turn, once the child is chosen
    have rest : ∀ {h5 : Heap} {t5 : Nat} {m' : Str → Option Value} {cp : Nat} {ch : Value × Nat} {u : Tok}, Fm H ⟨h, [l], B⟩ B (callEnvC (fdOf 6 (P.pm 6) (P.cd 6) (P.doc 6)) h.objs.size (P.fa 6)).locals m' [(l, .list (vs ys))] h5 →
        m' (Str.ofString "heap") = some (.ref l) → m' (Str.ofString "startpos") = some (.int p u1) → m' (Str.ofString "pos") = some (.int (q : Nat) u2) → m' (Str.ofString "newitem") = some c.1 → m' (Str.ofString "endpos") = some (.int (ys.length : Nat) u3) →
        m' (Str.ofString "childpos") = some (.int (cp : Nat) u) → q < cp → cp < ys.length → ys[cp]? = some ch → suLoop ys q = suLoop (ys.set q ch) cp →
        wpAny (model prog w) (A.deeper (callEnvC (fdOf 6 (P.pm 6) (P.cd 6) (P.doc 6)) h.objs.size (P.fa 6))) (execs ((bodyOf (stmtAt 6)).getD 4 (.Pass default) |> fun st => match st with | .While _ b _ _ => b.drop 2 | _ => []) (callEnvC (fdOf 6 (P.pm 6) (P.cd 6) (P.doc 6)) h.objs.size (P.fa 6)))
          (fun f s₃ => match f with
            | .next | .cont => ∃ m, m < ys.length - q ∧ ∃ (h2 : Heap) (t2 : Nat) (m_1 : Str → Option Value) (zs : List (Value × Nat)) (q : Nat), s₃ = St s h2 t2 ∧ Fm H ⟨h, [l], B⟩ B (callEnvC (fdOf 6 (P.pm 6) (P.cd 6) (P.doc 6)) h.objs.size (P.fa 6)).locals m_1 [(l, .list (vs zs))] h2 ∧
              m_1 (Str.ofString "heap") = some (.ref l) ∧ (∃ u, m_1 (Str.ofString "startpos") = some (.int p u)) ∧ (∃ u, m_1 (Str.ofString "pos") = some (.int (q : Nat) u)) ∧ m_1 (Str.ofString "newitem") = some c.1 ∧
              (∃ u, m_1 (Str.ofString "endpos") = some (.int (zs.length : Nat) u)) ∧ (∃ u, m_1 (Str.ofString "childpos") = some (.int (2 * (q : Nat) + 1) u)) ∧
              suLoop zs q = suLoop xs p ∧ q < zs.length ∧ zs.length < 1000 ∧ (∀ z ∈ zs, K B z.1 z.2) ∧ m = zs.length - q
            | _ => False) NoE (St s h5 t5) := by
      intro h5 t5 m' cp ch u F5 f1 f2 f3 f4 f5 f6 hqc hcp hch hsu'
      refine s_setitem (r_sub (r_name F5 f1 (r_name F5 f6 (i_list (F5.at0 (i := 0) rfl) (by omega) (by omega) (x := ch.1) (by rw [Int.toNat_natCast]; exact vs_get hch) (r_name F5 f1 (r_name F5 f3 (r_setitem F5 0 rfl (by omega) (by simpa using hq) (by simp; omega) fun h6 F6 => ?_)))))))
      refine s_assign (r_name F6 f6 (r_store F6 fun h7 F7 => ?_))
      refine s_assign (r_bin (r_bin (r_int (r_name F7 rfl (r_mul (IntMulOk.of_left (by decide)) (r_int (r_add (r_store F7 fun h8 F8 => ?_))))))))
      have F8' := F8.castW (W' := [(l, .list (vs (ys.set q ch)))]) (by rw [← vs_set]; rfl)
      refine s_nil ⟨ys.length - cp, by omega, h8, _, _, ys.set q ch, cp, rfl, F8', f1, ⟨_, f2⟩, ⟨_, rfl⟩, f4, ⟨_, by rw [List.length_set]; exact f5⟩, ⟨_, rfl⟩, by rw [← hsu, hsu'], by simpa using hcp, by simpa using hl, fun z hz => ?_, by rw [List.length_set]⟩
      rcases List.mem_or_eq_of_mem_set hz with hz | rfl
      · exact hys _ hz
      · exact hys _ (List.mem_of_getElem? hch)
    refine s_assign (r_bin (r_name F2 e6 (r_int (r_add (r_store F2 fun h3 F3 => ?_)))))
    refine s_if (t_and2 (t_cmp (r_name F3 rfl (r_name F3 e5 (r_lt (t_bool ?_))))))
    by_cases hr : 2 * q + 2 < ys.length
    · rw [if_pos (by simp; omega)]
      obtain ⟨rc, hrc⟩ : ∃ x, ys[2 * q + 2]? = some x := ⟨_, List.getElem?_eq_getElem hr⟩
      have hrcD : ys.getD (2 * q + 2) (.none, 0) = rc := by rw [List.getD_eq_getElem?_getD, hrc]; rfl
      refine t_not (t_cmp (r_sub (r_name F3 e1 (r_name F3 e6 (i_list (F3.at0 (i := 0) rfl) (by omega) (by omega) (x := lc.1) (by rw [n1]; exact vs_get hlc)
        (r_sub (r_name F3 e1 (r_name F3 rfl (i_list (F3.at0 (i := 0) rfl) (by omega) (by omega) (x := rc.1) (by rw [n2]; exact vs_get hrc)
        (hK B _ _ _ _ (hys _ (List.mem_of_getElem? hlc)) (hys _ (List.mem_of_getElem? hrc)) _ _ _ _ _ _ _ hA' F3.sub fun t5 => t_bool ?_))))))))))
      by_cases hcl : lc.2 < rc.2
      · rw [if_neg (by simpa using hcl)]
        refine s_nil (Then.next ?_)
        refine wpAny_mono (rest (cp := 2 * q + 1) (ch := lc) F3 e1 e2 e3 e4 e5 e6 (by omega) (by omega) hlc ?_) (fun f s' q => ?_) fun _ _ q => q
        · rw [suLoop, dif_pos hlt, dif_neg (by rw [hlcD, hrcD]; intro hh; exact hh.2 hcl), hlcD]
        · cases f <;> first | exact q | exact q.elim
      · rw [if_pos (by simpa using hcl)]
        refine s_assign (r_name F3 rfl (r_store F3 fun h4 F4 => ?_))
        refine s_nil (Then.next ?_)
        refine wpAny_mono (rest (cp := 2 * q + 2) (ch := rc) F4 e1 e2 e3 e4 e5 (by show some (Value.int (2 * (q : Int) + 1 + 1) _) = _; congr 2) (by omega) (by omega) hrc ?_) (fun f s' q => ?_) fun _ _ q => q
        · rw [suLoop, dif_pos hlt, dif_pos (by rw [hlcD, hrcD]; exact ⟨hr, hcl⟩), hrcD]
        · cases f <;> first | exact q | exact q.elim
    · rw [if_neg (by simp; omega)]
      rw [if_neg (by simp)]
      refine s_nil (Then.next ?_)
      refine wpAny_mono (rest (cp := 2 * q + 1) (ch := lc) F3 e1 e2 e3 e4 e5 e6 (by omega) (by omega) hlc ?_) (fun f s' q => ?_) fun _ _ q => q
      · rw [suLoop, dif_pos hlt, dif_neg (by intro hh; exact hr hh.1), hlcD]
      · cases f <;> first | exact q | exact q.elim
  · rw [if_neg (by simp; omega)]
    have hres : suLoop xs p = (ys, q) := by rw [← hsu, suLoop, dif_neg hlt]
    refine s_setitem (r_name F2 e4 (r_name F2 e1 (r_name F2 e3 (r_setitem F2 0 rfl (by omega) (by simpa using hq) (by simp; omega) fun h5 F5 => ?_))))
    have F5' := F5.castW (W' := [(l, .list (vs (ys.set q c)))]) (by rw [← vs_set]; rfl)
    refine s_expr (r_call F5' hP.g (hP.fn 5 (by decide)) (hP.fo 5 (by decide)) (hP.fd 5 (by decide)) (args_3 (r_name F5' e1 (r_name F5' e2 (r_name F5' e3 ⟨F5'.base, r_body ?_⟩)))))
    refine siftdown_ok hK (k := k) hP hA' F5'.pre1 (fun z hz => ?_) (by simpa using hl) (c := c) (by simp [hq]) fun h6 t6 b6 a6 => ?_
    · rcases List.mem_or_eq_of_mem_set hz with hz | rfl
      · exact hys _ hz
      · exact hcK
    · have F6 := F5'.back1 b6 a6
      refine s_nil (go _ _ F6.leave ?_)
      unfold siftup
      rw [hres, hcD]
      exact a6
end
end Mine

namespace Mine
open PySem PySem.Calls PyProof.Rows

namespace Fm
variable {H : Heap} {e : Entry} {B : Store} {L : Addr} {m : Str → Option Value} {W : List (Addr × Kd)} {h : Heap}

theorem oldNone (F : Fm H e B L m W h) {a : Addr} (ha : h.get? a = none) : e.h₀.get? a = none := by
  cases q : e.h₀.get? a with
  | none => rfl
  | some o =>
    by_cases hS : a ∈ e.S
    · obtain ⟨p, hp, he⟩ := List.mem_map.mp (F.inW _ hS)
      obtain ⟨o', ho'⟩ := (F.own p hp).free
      rw [he, ha] at ho'; cases ho'
    · rw [F.keep _ _ q hS] at ha; cases ha
theorem liveW (F : Fm H e B L m W h) : ∀ a ∈ L :: W.map (·.1), ∃ o, h.get? a = some o := fun a ha => by
  rcases List.mem_cons.mp ha with h1 | h1
  · obtain ⟨o, _, _, ho, _⟩ := F.ns; exact ⟨o, h1 ▸ ho⟩
  · obtain ⟨p, hp, rfl⟩ := List.mem_map.mp h1
    exact (F.own p hp).free

/-- the first of one's own is changed -/
theorem change0 {a : Addr} {k k' : Kd} (F : Fm H e B L m ((a, k) :: W) h) {h' : Heap} (hk : ∀ b o, b ≠ a → h.get? b = some o → h'.get? b = some o) (hk' : At h' a k') : Fm H e B L m ((a, k') :: W) h' :=
  F.back1 ⟨fun b o eo hb => hk b o (by simpa using hb) eo, fun _ _ ek => ek, fun _ _ ek => .inl ek, fun x kx ek => (F.sub x kx ek).of fun o => hk x o (F.apartB ek (.tail _ (.head _)))⟩ hk'

/-- the first of one's own is lost -/
theorem lose {a : Addr} {k : Kd} (F : Fm H e B L m ((a, k) :: W) h) {h' : Heap} (hk : ∀ b o, b ≠ a → h.get? b = some o → h'.get? b = some o) (haS : a ∉ e.S) : Fm H e B L m W h' := by
  have nd := List.nodup_cons.mp F.apart
  have nd2 : a ∉ W.map (·.1) ∧ (W.map (·.1)).Nodup := List.nodup_cons.mp nd.2
  have haW : a ∈ L :: ((a, k) :: W).map (·.1) := .tail _ (.head _)
  have G := F.drop (W' := W) (List.sublist_cons_self _ _) (fun b hb => by
    rcases List.mem_cons.mp (F.inW b hb) with h1 | h1
    · exact absurd (show a ∈ e.S from (show b = a from h1) ▸ hb) haS
    · exact h1)
  have haL : L ≠ a := by rintro rfl; exact nd.1 (.head _)
  obtain ⟨oL, es, ep, hL, r⟩ := F.ns
  refine ⟨⟨oL, es, ep, hk _ _ haL hL, r⟩, fun x o eo => hk x o (F.apartH eo haW) (F.base x o eo), fun x kx ek => (F.sub x kx ek).of fun o => hk x o (F.apartB ek haW), fun p hp => ?_, G.apart, G.outB, G.outH, fun x o eo hx => hk x o (F.apartK eo hx haW) (F.keep x o eo hx), G.inW, G.new, G.grow, G.fresh⟩
  refine (F.own p (.tail _ hp)).of fun o => hk p.1 o ?_
  intro hpa; exact nd2.1 (hpa ▸ List.mem_map_of_mem (f := (·.1)) hp)

/-- behind a block that ran over a frame of its own, with all of ours in its hands -/
theorem outer (F : Fm H e B L m W h) {h' : Heap} {B' : Store} {C : Addr} {m' : Str → Option Value} {X W' : List (Addr × Kd)} (F' : Fm H ⟨h, W.map (·.1), B⟩ B' C m' (X ++ W') h') (hW : W'.map (·.1) = W.map (·.1)) (hX : ∀ p ∈ X, h.get? p.1 = none) :
    Fm H e B' L m (X ++ W') h' := by
  have nd := List.nodup_cons.mp F.apart
  have nd' := List.nodup_cons.mp F'.apart
  have hkeep : ∀ b o, h.get? b = some o → b ∉ W.map (·.1) → h'.get? b = some o := F'.keep
  have memX : ∀ a, a ∈ (X ++ W').map (·.1) → (∃ p ∈ X, p.1 = a) ∨ a ∈ W.map (·.1) := fun a ha => by
    rw [List.map_append] at ha
    rcases List.mem_append.mp ha with h1 | h1
    · obtain ⟨p, hp, he⟩ := List.mem_map.mp h1; exact .inl ⟨p, hp, he⟩
    · exact .inr (hW ▸ h1)
  have Lout : L ∉ (X ++ W').map (·.1) := fun hm => by
    rcases memX L hm with ⟨p, hp, he⟩ | h1
    · obtain ⟨o, ho⟩ := F.liveW L (.head _)
      rw [← he, hX p hp] at ho; cases ho
    · exact nd.1 h1
  have fr : ∀ a k, B' a = some k → B a = some k ∨ h.get? a = none := F'.fresh
  have LB : B' L = none := by
    cases q : B' L with
    | none => rfl
    | some k =>
      rcases fr L k q with h1 | h1
      · rw [F.outB _ (.head _)] at h1; cases h1
      · obtain ⟨o, ho⟩ := F.liveW L (.head _); rw [h1] at ho; cases ho
  obtain ⟨oL, es, ep, hL, r⟩ := F.ns
  refine ⟨⟨oL, es, ep, hkeep L oL hL nd.1, r⟩, F'.base, F'.sub, F'.own, List.nodup_cons.mpr ⟨Lout, nd'.2⟩, fun a ha => ?_, fun a ha => ?_, fun b o eo hb => ?_, fun a ha => ?_, fun a ha => ?_, fun a k ek => F'.grow a k (F.grow a k ek), fun a k ek => ?_⟩
  · rcases List.mem_cons.mp ha with rfl | h1
    · exact LB
    · exact F'.outB a (.tail _ h1)
  · rcases List.mem_cons.mp ha with rfl | h1
    · exact F.outH _ (.head _)
    · exact F'.outH a (.tail _ h1)
  · exact hkeep b o (F.keep b o eo hb) fun hm => F.apartK eo hb (.tail _ hm) rfl
  · rw [List.map_append]; exact List.mem_append.mpr (.inr (hW ▸ F.inW a ha))
  · rcases List.mem_cons.mp ha with rfl | h1
    · exact F.new _ (.head _)
    · rcases memX a h1 with ⟨p, hp, rfl⟩ | h2
      · exact .inr (F.oldNone (hX p hp))
      · exact F.new a (.tail _ h2)
  · rcases fr a k ek with h1 | h1
    · exact F.fresh a k h1
    · exact .inr (F.oldNone h1)

/-- a block over a frame of its own is entered, with all of ours in its hands -/
theorem inner (F : Fm H e B L m W h) {h' : Heap} {C : Addr} {m' : Str → Option Value} {X : List (Addr × Kd)} (hk : ∀ b o, h.get? b = some o → h'.get? b = some o) (hn : h'.Ns C m')
    (hX : ∀ p ∈ X, At h' p.1 p.2) (hf : ∀ a ∈ C :: X.map (·.1), h.get? a = none) (hnd : (C :: X.map (·.1)).Nodup) : Fm H ⟨h, W.map (·.1), B⟩ B C m' (X ++ W) h' := by
  have nd := List.nodup_cons.mp F.apart
  have noB : ∀ a, h.get? a = none → B a = none := fun a ha => by
    cases q : B a with
    | none => rfl
    | some k => obtain ⟨o, ho⟩ := (F.sub a k q).free; rw [ha] at ho; cases ho
  have noH : ∀ a, h.get? a = none → H.get? a = none := fun a ha => by
    cases q : H.get? a with
    | none => rfl
    | some o => rw [F.base a o q] at ha; cases ha
  have mem : ∀ a, a ∈ C :: (X ++ W).map (·.1) → a ∈ C :: X.map (·.1) ∨ a ∈ W.map (·.1) := fun a ha => by
    rcases List.mem_cons.mp ha with h1 | h1
    · exact .inl (h1 ▸ .head _)
    · rw [List.map_append] at h1
      rcases List.mem_append.mp h1 with h1 | h1
      · exact .inl (.tail _ h1)
      · exact .inr h1
  refine ⟨hn, fun b o eo => hk _ _ (F.base b o eo), fun a k ek => (F.sub a k ek).of fun o => hk a o, fun p hp => ?_, ?_, fun a ha => ?_, fun a ha => ?_, fun b o eo _ => hk b o eo, fun a ha => ?_, fun a ha => ?_, fun _ _ ek => ek, fun _ _ ek => .inl ek⟩
  · rcases List.mem_append.mp hp with hp | hp
    · exact hX p hp
    · exact (F.own p hp).of fun o => hk p.1 o
  · rw [List.map_append, ← List.cons_append]
    refine List.nodup_append.mpr ⟨hnd, nd.2, fun x hx y hy he => ?_⟩
    obtain ⟨o, ho⟩ := F.liveW y (.tail _ hy)
    rw [← he, hf x hx] at ho; cases ho
  · rcases mem a ha with h1 | h1
    · exact noB a (hf a h1)
    · exact F.outB a (.tail _ h1)
  · rcases mem a ha with h1 | h1
    · exact noH a (hf a h1)
    · exact F.outH a (.tail _ h1)
  · rw [List.map_append]; exact List.mem_append.mpr (.inr ha)
  · rcases mem a ha with h1 | h1
    · exact .inr (hf a h1)
    · exact .inl h1
end Fm

/-- an iterator at I that hands out n values -/
structure Itr (prog : Program) (w : World) (A : Around) (I : Addr) (n : Nat) (P : Nat → Value → Prop) (Ob : Nat → Obj → Prop) (SRC : Heap → Prop) : Prop where
  next : ∀ (i : Nat) (s : Shared) (h : Heap) (t : Nat) (o : Obj) (Q : Option Value → Shared → Prop) (E : Value → Shared → Prop), i < n → h.get? I = some o → Ob i o → SRC h →
    (∀ v h' t' o', P i v → h'.get? I = some o' → Ob (i + 1) o' → Heap.SameBut I h h' → Q (some v) (St s h' t')) → wpAny (model prog w) A (pyNext (.ref I)) Q E (St s h t)
  stop : ∀ (s : Shared) (h : Heap) (t : Nat) (o : Obj) (Q : Option Value → Shared → Prop) (E : Value → Shared → Prop), h.get? I = some o → Ob n o → SRC h →
    (∀ h' t', (∀ b o, b ≠ I → h.get? b = some o → h'.get? b = some o) → Q none (St s h' t')) → wpAny (model prog w) A (pyNext (.ref I)) Q E (St s h t)
  self : ∀ (i : Nat) (s : Shared) (h : Heap) (t : Nat) (o : Obj) (Q : Value → Shared → Prop) (E : Value → Shared → Prop), h.get? I = some o → Ob i o → Q (.ref I) (St s h t) → wpAny (model prog w) A (pyIter (.ref I)) Q E (St s h t)

def listIt (l : Addr) (i : Nat) (o : Obj) : Prop := o.cls = .type "list_iterator" ∧ o.data = .fields #[.ref l, .int i 0]
def rangeIt (a c : Int) (n i : Nat) (o : Obj) : Prop := o = { cls := .type "range_iterator", data := .fields #[rawInt (a + i * c), rawInt ((n : Int) - i), rawInt c] }

section
variable {prog : Program} {w : World} {A : Around} {I : Addr}
theorem Itr.list (hh : A.handled = none) (l : Addr) (xs : List Value) : Itr prog w A I xs.length (fun i v => xs[i]? = some v) (listIt l) (fun h => At h l (.list xs)) where
  next := fun i s h t o Q E hi ho hob hl k => by
    refine wpAny_pyNext_list_item (s := St s h t) ⟨o, ho, hob⟩ hl.isList (x := xs[i]) (by simp [hi]) fun h' hit' hs' => ?_
    obtain ⟨o', ho', hob'⟩ := hit'
    exact k _ h' t o' (by simp [hi]) ho' hob' hs'
  stop := fun s h t o Q E ho hob hl k => wpAny_pyNext_list_end (s := St s h t) hh (i := xs.length) ⟨_, ho, hob⟩ hl.isList (by simp) fun h' he => k h' t fun b o hb eo => he b o hb eo
  self := fun i s h t o Q E ho hob k => wpAny_pyIter_listiter (s := St s h t) (i := i) (l := l) ⟨_, ho, hob⟩ k
theorem Itr.range (hh : A.handled = none) (a c : Int) (n : Nat) : Itr prog w A I n (fun i v => ∃ t, v = .int (a + i * c) t) (rangeIt a c n) (fun _ => True) where
  next := fun i s h t o Q E hi ho hob _ k => by
    subst hob
    refine wpAny_pyNext_range_item (s := St s h t) ho (by omega) fun h' hit' hs' => k _ h' (t + 1) _ ⟨_, rfl⟩ hit' ?_ hs'
    have e1 : a + ((i + 1 : Nat) : Int) * c = a + (i : Int) * c + c := by push_cast; rw [Int.add_mul, Int.one_mul, Int.add_assoc]
    have e2 : (n : Int) - ((i + 1 : Nat) : Int) = (n : Int) - (i : Int) - 1 := by push_cast; omega
    unfold rangeIt
    rw [e1, e2]
  stop := fun s h t o Q E ho hob _ k => by
    subst hob
    exact wpAny_pyNext_range_end (s := St s h t) hh ho (by omega) fun h' he => k h' t fun b o hb eo => he b o hb eo
  self := fun i s h t o Q E ho hob k => by
    subst hob
    exact wpAny_pyIter_rangeiter (s := St s h t) ho k
end

section
variable {prog : Program} {w : World} {A : Around} {E : Value → Shared → Prop} {s : Shared} {H : Heap} {e : Entry} {B : Store} {L : Addr} {m : Str → Option Value} {W : List (Addr × Kd)} {h : Heap} {t : Nat} {env : Env}
  {Q : Value → Shared → Prop} {QF : Flow → Shared → Prop}

/-- the value over which a loop goes -/
def Over (prog : Program) (w : World) (A : Around) (xv : Value) (h : Heap) (n : Nat) (P : Nat → Value → Prop) (SRC : Heap → Prop) : Prop :=
  ∃ Ob, (∀ I, Itr prog w A I n P Ob SRC) ∧ ∀ (s : Shared) (t : Nat) (Q : Value → Shared → Prop) (E : Value → Shared → Prop), (∀ o, Ob 0 o → o.isFreed = false → Q (.ref h.objs.size) (St s (h.push o) t)) → wpAny (model prog w) A (pyIter xv) Q E (St s h t)
theorem over_list (hh : A.handled = none) {l : Addr} {xs : List Value} (hl : At h l (.list xs)) : Over prog w A (.ref l) h xs.length (fun i v => xs[i]? = some v) (fun h => At h l (.list xs)) :=
  ⟨listIt l, fun _ => Itr.list hh l xs, fun s t Q E k => wpAny_pyIter_list (s := St s h t) hl.isList (k _ ⟨rfl, rfl⟩ rfl)⟩
theorem over_range (hh : A.handled = none) {r : Addr} {b : Nat} {t₀ u₀ v₀ : Tok} (hr : IsRange h r 0 b 1 t₀ u₀ v₀) (hb : b < 2 ^ 60) : Over prog w A (.ref r) h b (fun i v => ∃ t, v = .int i t) (fun _ => True) := by
  refine ⟨rangeIt 0 1 b, fun I => ?_, fun s t Q E k => ?_⟩
  · have q := Itr.range (prog := prog) (w := w) (I := I) hh 0 1 b
    refine ⟨fun i s h t o Q E hi ho hob hs k => q.next i s h t o Q E hi ho hob hs fun v h' t' o' hv => k v h' t' o' ?_, q.stop, q.self⟩
    obtain ⟨t, rfl⟩ := hv
    exact ⟨t, by congr 1; omega⟩
  · have hsz : Builtin.Range.rangeSize 0 b 1 = b := by
      unfold Builtin.Range.rangeSize
      rw [if_pos (by decide)]
      split <;> omega
    refine wpAny_pyIter_range (s := St s h t) hr ?_ ?_
    · exact small_one (by decide) (by decide) (by omega) (by omega)
    · rw [hsz]; exact k _ (by unfold rangeIt; congr 3 <;> simp) rfl

theorem s_for0 {x : Str} {px pos : Pos} {iter : Expr} {body rest : List Stmt} (n : Nat) (P : Nat → Value → Prop) (J : Nat → Store → (Str → Option Value) → List (Addr × Kd) → Prop)
    (src : wpAny (model prog w) A (eval iter env) (fun xv s₁ => wpAny (model prog w) A (pyIter xv) (fun it s₂ => ∃ I h₂ t₂ o₀ B₂ m₂ W₂ Ob SRC, it = .ref I ∧ s₂ = St s h₂ t₂ ∧ Itr prog w A I n P Ob SRC ∧ Ob 0 o₀ ∧ Fm H e B₂ env.locals m₂ ((I, .obj o₀) :: W₂) h₂ ∧ I ∉ e.S ∧ J 0 B₂ m₂ W₂ ∧
      ∀ i B' m' W' h', J i B' m' W' → (∀ a k, B' a = some k → At h' a k) → (∀ p ∈ W', At h' p.1 p.2) → SRC h') E s₁) E (St s h t))
    (turn : ∀ i v B' m' W' h' t' I o, i < n → P i v → J i B' m' W' → Fm H e B' env.locals (upd m' x v) ((I, .obj o) :: W') h' →
      wpAny (model prog w) A (execs body env) (fun f s₃ => (f = .next ∨ f = .cont) ∧ ∃ B'' m'' W'' h'' t'', s₃ = St s h'' t'' ∧ Fm H e B'' env.locals m'' ((I, .obj o) :: W'') h'' ∧ J (i + 1) B'' m'' W'') NoE (St s h' t'))
    (fin : ∀ B' m' W' h' t', J n B' m' W' → Fm H e B' env.locals m' W' h' → wpAny (model prog w) A (execs rest env) QF E (St s h' t'))
    (hk : env.scope.kind = .function := by rfl) (hl : env.kindOf x = some .local := by rfl) (hs : ∀ x, foldedSetIterable iter env x = pure x := by intro _; rfl) :
    wpAny (model prog w) A (execs (.For (.Name x px) iter body [] pos :: rest) env) QF E (St s h t) := by
  refine wpAny_execs_cons (wpAny_For (wpAny_mono src (fun xv s₁ q => wpAny_mono q (fun it s₂ q => ?_) fun _ _ q => q) fun _ _ q => q) hs)
  obtain ⟨I, h₂, t₂, o₀, B₁, m₁, W₁, Ob, SRC, rfl, rfl, it, hob, F₂, hIS, hJ, hsrc⟩ := q
  refine codeAny_forLoop (fun k s' => ∃ (i : Nat) (B' : Store) (m' : Str → Option Value) (W' : List (Addr × Kd)) (h' : Heap) (t' : Nat) (o : Obj), s' = St s h' t' ∧ i ≤ n ∧ k = n + 1 - i ∧ Ob i o ∧ J i B' m' W' ∧ Fm H e B' env.locals m' ((I, .obj o) :: W') h') ?_ (n + 1)
    ⟨0, B₁, m₁, W₁, _, t₂, o₀, rfl, Nat.zero_le _, rfl, hob, hJ, F₂⟩
  rintro k _ ⟨i, B', m', W', h', t', o, rfl, hi, rfl, hob', hJ', F'⟩
  have hgo : h'.get? I = some o := by
    obtain ⟨o', ho', he⟩ := F'.own (I, .obj o) (.head _)
    cases he
    exact ho'
  have hS := hsrc i B' m' W' h' hJ' F'.sub fun p hp => F'.own p (.tail _ hp)
  by_cases hlt : i < n
  · refine it.next i s h' t' o _ _ hlt hgo hob' hS fun v h₃ t₃ o₃ hv ho₃ hob₃ hs₃ => ?_
    have F₃ := F'.change0 (k' := .obj o₃) (fun b o hb eo => (hs₃.2 b hb).trans eo) ⟨o₃, ho₃, rfl⟩
    refine wpAny_assign_Name (r_store F₃ (fun h₄ F₄ => ?_) hk hl)
    refine wpAny_mono (turn i v B' m' W' h₄ (t₃ + 1) I o₃ hlt hv hJ' F₄) (fun f s₅ q => ?_) fun _ _ q => q.elim
    obtain ⟨hf, B'', m'', W'', h'', t'', rfl, F'', hJ''⟩ := q
    have : ∃ m, m < n + 1 - i ∧ ∃ (i : Nat) (B' : Store) (m' : Str → Option Value) (W' : List (Addr × Kd)) (h' : Heap) (t' : Nat) (o : Obj), St s h'' t'' = St s h' t' ∧ i ≤ n ∧ m = n + 1 - i ∧ Ob i o ∧ J i B' m' W' ∧ Fm H e B' env.locals m' ((I, .obj o) :: W') h' :=
      ⟨n + 1 - (i + 1), by omega, i + 1, B'', m'', W'', h'', t'', o₃, rfl, hlt, rfl, hob₃, hJ'', F''⟩
    rcases hf with rfl | rfl <;> exact this
  · have hin : i = n := by omega
    subst hin
    refine it.stop s h' t' o _ _ hgo hob' hS fun h₃ t₃ hk₃ => ?_
    exact wpAny_execs_nil (fin B' m' W' h₃ t₃ hJ' (F'.lose hk₃ hIS))

theorem s_for {x : Str} {px pos : Pos} {iter : Expr} {body rest : List Stmt} (n : Nat) (P : Nat → Value → Prop) (J : Nat → Store → (Str → Option Value) → List (Addr × Kd) → Prop)
    (src : wpAny (model prog w) A (eval iter env) (fun xv s₁ => ∃ h₁ t₁ B₁ m₁ W₁ SRC, s₁ = St s h₁ t₁ ∧ Fm H e B₁ env.locals m₁ W₁ h₁ ∧ Over prog w A xv h₁ n P SRC ∧ J 0 B₁ m₁ W₁ ∧
      ∀ i B' m' W' h', J i B' m' W' → (∀ a k, B' a = some k → At h' a k) → (∀ p ∈ W', At h' p.1 p.2) → SRC h') E (St s h t))
    (turn : ∀ i v B' m' W' h' t' I o, i < n → P i v → J i B' m' W' → Fm H e B' env.locals (upd m' x v) ((I, .obj o) :: W') h' →
      wpAny (model prog w) A (execs body env) (fun f s₃ => (f = .next ∨ f = .cont) ∧ ∃ B'' m'' W'' h'' t'', s₃ = St s h'' t'' ∧ Fm H e B'' env.locals m'' ((I, .obj o) :: W'') h'' ∧ J (i + 1) B'' m'' W'') NoE (St s h' t'))
    (fin : ∀ B' m' W' h' t', J n B' m' W' → Fm H e B' env.locals m' W' h' → wpAny (model prog w) A (execs rest env) QF E (St s h' t'))
    (hk : env.scope.kind = .function := by rfl) (hl : env.kindOf x = some .local := by rfl) (hs : ∀ x, foldedSetIterable iter env x = pure x := by intro _; rfl) :
    wpAny (model prog w) A (execs (.For (.Name x px) iter body [] pos :: rest) env) QF E (St s h t) := by
  refine s_for0 n P J (wpAny_mono src (fun xv s₁ q => ?_) fun _ _ q => q) turn fin hk hl hs
  obtain ⟨h₁, t₁, B₁, m₁, W₁, SRC, rfl, F₁, ⟨Ob, it, go⟩, hJ, hsrc⟩ := q
  refine go s t₁ _ _ fun o₀ hob hfr => ?_
  exact ⟨_, _, _, o₀, B₁, m₁, W₁, Ob, SRC, rfl, rfl, it _, hob, F₁.push (o := o₀) (k := .obj o₀) rfl hfr, fun hm => F₁.size_none.2.2.2 (.tail _ (F₁.inW _ hm)), hJ, hsrc⟩
end
end Mine

namespace Mine
open PySem PySem.Calls PyProof.Rows

theorem Fm.foreign {H : Heap} {e : Entry} {B : Store} {L : Addr} {m : Str → Option Value} {W : List (Addr × Kd)} {h h' : Heap} (F : Fm H e B L m W h) {C : Addr} (hC : e.h₀.get? C = none) (hB : B C = none) (hH : H.get? C = none) (hW : C ∉ L :: W.map (·.1))
    (hk : ∀ b o, b ≠ C → h.get? b = some o → h'.get? b = some o) : Fm H e B L m W h' := by
  obtain ⟨oL, es, ep, hL, r⟩ := F.ns
  refine ⟨⟨oL, es, ep, hk _ _ (by rintro rfl; exact hW (.head _)) hL, r⟩, fun x o eo => hk x o (by rintro rfl; rw [hH] at eo; cases eo) (F.base x o eo), fun x kx ek => (F.sub x kx ek).of fun o => hk x o (by rintro rfl; rw [hB] at ek; cases ek), fun p hp => (F.own p hp).of fun o => hk p.1 o (by rintro rfl; exact hW (.tail _ (List.mem_map_of_mem (f := (·.1)) hp))),
    F.apart, F.outB, F.outH, fun x o eo hx => hk x o (by rintro rfl; rw [hC] at eo; cases eo) (F.keep x o eo hx), F.inW, F.new, F.grow, F.fresh⟩

section
variable {prog : Program} {w : World} {A : Around} {E : Value → Shared → Prop} {s : Shared} {H : Heap} {e : Entry} {B : Store} {m : Str → Option Value} {W : List (Addr × Kd)} {h : Heap} {t : Nat} {env : Env}
  {Q : Value → Shared → Prop} {QF : Flow → Shared → Prop}

theorem comp_core {elt iter : Expr} {x : Str} {px : Pos} {ifs : List Expr} {scope : Scope} {cl : List (Str × Addr)} {pos : Pos} {xv : Value} {n : Nat} {P : Nat → Value → Prop} {SRC : Heap → Prop} {RR : Value → Addr → Result → Shared → Prop}
    (F : Fm H e B env.locals m W h) (ov : Over prog w A xv h n P SRC) (hn : n < 2 ^ 20)
    (hsrc : ∀ h', (∀ a k, B a = some k → At h' a k) → (∀ p ∈ W, At h' p.1 p.2) → SRC h')
    (hcell : ∀ y ∈ scope.names, y.2 ≠ .cell) (hkind : scope.kind = .function) (hx : scope.names.lookup x = some .local)
    (G : Nat → Store → List Value → Prop) (G0 : G 0 B []) (Glen : ∀ i B' ys, G i B' ys → ys.length ≤ i)
    (turn : ∀ i v B' ys m' h' t' C I o D, i < n → P i v → G i B' ys → Fm H ⟨h, W.map (·.1), B⟩ B' C m' ((D, .list ys) :: (I, .obj o) :: W) h' → m' x = some v →
      wpAny (model prog w) A (forIn ifs true fun c r => if r = true then do let ok ← isTrue c (compEnvC scope cl C env) (eval c (compEnvC scope cl C env)); pure (ForInStep.yield ok) else pure (ForInStep.yield r))
        (fun ok s₃ => if ok = true then wpAny (model prog w) A (eval elt (compEnvC scope cl C env)) (fun y s₄ => ∃ B'' h'' t'', s₄ = St s h'' t'' ∧ Fm H ⟨h, W.map (·.1), B⟩ B'' C m' ((D, .list ys) :: (I, .obj o) :: W) h'' ∧ G (i + 1) B'' (ys ++ [y])) NoE s₃
          else ∃ B'' h'' t'', s₃ = St s h'' t'' ∧ Fm H ⟨h, W.map (·.1), B⟩ B'' C m' ((D, .list ys) :: (I, .obj o) :: W) h'' ∧ G (i + 1) B'' ys) NoE (St s h' t'))
    (fin : ∀ B' ys m' h' t' C D, G n B' ys → h.get? C = none → h.get? D = none → Fm H ⟨h, W.map (·.1), B⟩ B' C m' ((D, .list ys) :: W) h' → RR (.ref D) C (.ok .next) (St s h' t')) :
    wpAny (model prog w) A (pyIter xv) (fun it s₂ => wpAny (model prog w) A (newList []) (fun acc s₃ => wpAny (model prog w) A (newFunctionEnv scope env.globals cl [] env.qual none .none (some env)) (fun cenv s₄ =>
      codeAny (model prog w) A (.compStart (.ListComp elt [⟨.Name x px, iter, ifs, 0⟩] scope pos) 0 it acc { cenv with scope := relabel scope env }) (RR acc cenv.locals) s₄) E s₃) E s₂) E (St s h t) := by
  obtain ⟨Ob, it, go⟩ := ov
  refine go s t _ _ fun o₀ hob hfr => ?_
  have it := it h.objs.size
  refine wpAny_newObj_type (wpAny_newFunctionEnv hcell (by intro y hy; simp at hy) (fun h₁ hns₁ hsb₁ => ?_) hkind)
  dsimp only at hns₁ hsb₁ ⊢
  generalize hH2 : (h.push o₀).push { cls := .type "list", dict := none, data := .seq ([] : List Value).toArray } = H2 at hns₁ hsb₁ ⊢
  have sz : (h.push o₀).objs.size = h.objs.size + 1 := Heap.size_push ..
  have sz2 : H2.objs.size = h.objs.size + 2 := by rw [← hH2, Heap.size_push, Heap.size_push]
  have fresh : ∀ a, h.objs.size ≤ a → h.get? a = none := fun a ha => by
    cases q : h.get? a with
    | none => rfl
    | some o' => exact absurd (Heap.lt_size q) (Nat.not_lt.mpr ha)
  have old : ∀ b o, h.get? b = some o → h₁.get? b = some o := fun b o eo => hsb₁.extBut b o (Nat.ne_of_lt (Nat.lt_of_lt_of_le (Heap.lt_size eo) (by rw [sz2]; exact Nat.le_add_right _ _))) (Heap.get?_push_of_some _ (hH2 ▸ Heap.get?_push_of_some _ (Heap.get?_push_of_some _ eo)))
  have hI : h₁.get? h.objs.size = some o₀ := hsb₁.extBut _ _ (Nat.ne_of_lt (by rw [sz2]; exact Nat.lt_add_of_pos_right (by decide))) (Heap.get?_push_of_some _ (hH2 ▸ Heap.get?_push_of_some _ (Heap.get?_push_size _ hfr)))
  have hD : h₁.get? (h.push o₀).objs.size = some { cls := .type "list", data := .seq ([] : List Value).toArray } := hsb₁.extBut _ _ (Nat.ne_of_lt (by rw [sz2, sz]; exact Nat.lt_succ_self _)) (Heap.get?_push_of_some _ (hH2 ▸ Heap.get?_push_size _ rfl))
  have F₁ : Fm H ⟨h, W.map (·.1), B⟩ B H2.objs.size (fun x => ([] : List (Str × Value)).reverse.lookup x) (((h.push o₀).objs.size, .list []) :: (h.objs.size, .obj o₀) :: W) h₁ := by
    refine F.inner (X := [((h.push o₀).objs.size, .list []), (h.objs.size, .obj o₀)]) old hns₁ (fun p hp => ?_) (fun a ha => fresh a ?_) ?_
    · rcases List.mem_cons.mp hp with rfl | hp
      · exact ⟨_, hD, 0, rfl⟩
      · rcases List.mem_cons.mp hp with rfl | hp
        · exact ⟨_, hI, rfl⟩
        · cases hp
    · simp only [List.map_cons, List.map_nil, List.mem_cons, List.not_mem_nil, or_false] at ha
      rcases ha with rfl | rfl | rfl <;> omega
    · simp only [List.map_cons, List.map_nil]
      rw [sz2, sz]
      simp
  have fC : h.get? H2.objs.size = none := fresh _ (by rw [sz2]; omega)
  have fD : h.get? (h.push o₀).objs.size = none := fresh _ (by rw [sz]; omega)
  have hIS : h.objs.size ∉ W.map (·.1) := fun hm => by
    obtain ⟨p, hp, he⟩ := List.mem_map.mp hm
    exact absurd (he ▸ (F.own p hp).lt) (Nat.lt_irrefl _)
  generalize H2.objs.size = C at *
  generalize (h.push o₀).objs.size = D at *
  generalize h.objs.size = I at *
  have loop : codeAny (model prog w) A (.compLoop (.ListComp elt [⟨.Name x px, iter, ifs, 0⟩] scope pos) 0 (.ref I) (.ref D) (compEnvC scope cl C env)) (RR (.ref D) C) (St s h₁ (t + ([] : List (Str × Value)).length)) := by
    refine codeAny_compLoop_tests (fun k s' => ∃ (i : Nat) (B' : Store) (ys : List Value) (m' : Str → Option Value) (h' : Heap) (t' : Nat) (o : Obj), s' = St s h' t' ∧ i ≤ n ∧ k = n + 1 - i ∧ Ob i o ∧ G i B' ys ∧ Fm H ⟨h, W.map (·.1), B⟩ B' C m' ((D, .list ys) :: (I, .obj o) :: W) h') ?_ (n + 1)
      ⟨0, B, [], _, h₁, _, o₀, rfl, Nat.zero_le _, rfl, hob, G0, F₁⟩
    rintro k _ ⟨i, B', ys, m', h', t', o, rfl, hi, rfl, hob', hG', F'⟩
    have hgo : h'.get? I = some o := by
      obtain ⟨o', ho', he⟩ := F'.own (I, .obj o) (.tail _ (.head _))
      cases he
      exact ho'
    have hS := hsrc h' (fun a k ek => F'.sub a k (F'.grow a k ek)) fun p hp => F'.own p (.tail _ (.tail _ hp))
    by_cases hlt : i < n
    · refine it.next i s h' t' o _ _ hlt hgo hob' hS fun v h₃ t₃ o₃ hv ho₃ hob₃ hs₃ => ?_
      have F₃ := F'.change (i := 1) (k := .obj o) (k' := .obj o₃) rfl hs₃ ⟨o₃, ho₃, rfl⟩
      refine wpAny_assign_Name (r_store (env := compEnvC scope cl C env) F₃ (fun h₄ F₄ => ?_) (by simp [compEnvC, relabel, hkind]) (lookup_relabel_local hx))
      refine wpAny_mono (turn i v B' ys _ h₄ (t₃ + 1) C I o₃ D hlt hv hG' F₄ (by simp [upd])) (fun ok s₅ q => ?_) fun _ _ q => q.elim
      cases ok with
      | false =>
        simp only [Bool.false_eq_true, if_false] at q ⊢
        obtain ⟨B'', h'', t'', rfl, F'', hG''⟩ := q
        exact ⟨n + 1 - (i + 1), by omega, i + 1, B'', ys, _, h'', t'', o₃, rfl, hlt, rfl, hob₃, hG'', F''⟩
      | true =>
        simp only [if_true] at q ⊢
        refine wpAny_mono q (fun y s₆ q => ?_) fun _ _ q => q.elim
        obtain ⟨B'', h'', t'', rfl, F'', hG''⟩ := q
        obtain ⟨nn, hpl⟩ := (F''.at0 (i := 0) rfl).plain
        have hyl := Glen i B' ys hG'
        refine wpAny_list_append_plain (s := St s h'' t'') ⟨nn, hpl⟩ (fun h₅ hl₅ hs₅ => ?_) (by rw [sizeLine_eq]; simp; omega)
        obtain ⟨n₅, hl₅⟩ := hl₅
        have F₅ := F''.change0 (k' := .list (ys ++ [y])) (fun b o hb eo => (hs₅.2 b hb).trans eo) ⟨_, hl₅, n₅, by simp⟩
        exact ⟨n + 1 - (i + 1), by omega, i + 1, B'', ys ++ [y], _, h₅, t'', o₃, rfl, hlt, rfl, hob₃, hG'', F₅⟩
    · have hin : i = n := by omega
      subst hin
      refine it.stop s h' t' o _ _ hgo hob' hS fun h₃ t₃ hk₃ => ?_
      have F'' : Fm H ⟨h, W.map (·.1), B⟩ B' C m' ((I, .obj o) :: (D, .list ys) :: W) h' := by
        refine ⟨F'.ns, F'.base, F'.sub, fun p hp => F'.own p ?_, ?_, fun a ha => F'.outB a ?_, fun a ha => F'.outH a ?_, F'.keep, fun a ha => ?_, fun a ha => F'.new a ?_, F'.grow, F'.fresh⟩
        · simp only [List.mem_cons] at hp ⊢
          rcases hp with h1 | h1 | h1
          · exact .inr (.inl h1)
          · exact .inl h1
          · exact .inr (.inr h1)
        · have := F'.apart
          simp only [List.map_cons, List.nodup_cons, List.mem_cons, not_or] at this ⊢
          refine ⟨⟨this.1.2.1, this.1.1, this.1.2.2⟩, ⟨fun hh => this.2.1.1 hh.symm, this.2.2.1⟩, this.2.1.2, this.2.2.2⟩
        all_goals
          first
            | (have ha' := F'.inW a ha; simp only [List.map_cons, List.mem_cons] at ha' ⊢
               rcases ha' with h1 | h1 | h1
               · exact .inr (.inl h1)
               · exact .inl h1
               · exact .inr (.inr h1))
            | (simp only [List.map_cons, List.mem_cons] at ha ⊢
               rcases ha with h1 | h1 | h1 | h1
               · exact .inl h1
               · exact .inr (.inr (.inl h1))
               · exact .inr (.inl h1)
               · exact .inr (.inr (.inr h1)))
      exact fin B' ys m' h₃ t₃ C D hG' fC fD (F''.lose hk₃ hIS)
  exact codeAny_compStart_list loop (it.self 0 s h₁ _ o₀ _ _ hI hob loop)

/-- what a comprehension does behind its source -/
def CompGo (prog : Program) (w : World) (A : Around) (E : Value → Shared → Prop) (env : Env) (elt : Expr) (x : Str) (px : Pos) (iter : Expr) (ifs : List Expr) (scope : Scope) (cl : List (Str × Addr)) (pos : Pos) (RR : Value → Addr → Result → Shared → Prop) (xv : Value) (s₁ : Shared) : Prop :=
  wpAny (model prog w) A (pyIter xv) (fun it s₂ => wpAny (model prog w) A (newList []) (fun acc s₃ => wpAny (model prog w) A (newFunctionEnv scope env.globals cl [] env.qual none .none (some env)) (fun cenv s₄ =>
      codeAny (model prog w) A (.compStart (.ListComp elt [⟨.Name x px, iter, ifs, 0⟩] scope pos) 0 it acc { cenv with scope := relabel scope env }) (RR acc cenv.locals) s₄) E s₃) E s₂) E s₁

theorem r_comp {elt iter : Expr} {x : Str} {px : Pos} {ifs : List Expr} {scope : Scope} {pos : Pos} (cl : List (Str × Addr))
    (k : wpAny (model prog w) A (eval iter env) (fun xv s₁ => CompGo prog w A E env elt x px iter ifs scope cl pos (fun acc C => compPost (model prog w) A E none Q acc C) xv s₁) E (St s h t))
    (hclos : closureFor scope env = pure cl := by rfl) (hkind : scope.kind = .function := by rfl) (hnames : ∀ y ∈ scope.names, y.2 = .local → scope.names.lookup y.1 = some .local := by decide)
    (hs : ∀ x, foldedSetIterable iter env x = pure x := by intro _; rfl) :
    wpAny (model prog w) A (eval (.ListComp elt [⟨.Name x px, iter, ifs, 0⟩] scope pos) env) Q E (St s h t) := by
  rw [eval_ListComp]
  exact wpAny_comprehension_free (use := none) rfl hs hclos hkind hnames k

theorem s_acomp {elt iter : Expr} {x y : Str} {px py : Pos} {ifs : List Expr} {scope : Scope} {pos spos : Pos} {rest : List Stmt} (cl : List (Str × Addr))
    (k : wpAny (model prog w) A (eval iter env) (fun xv s₁ => CompGo prog w A E env elt x px iter ifs scope cl pos (fun acc C => compPost (model prog w) A E (some (assign (.Name y py) env)) (fun _ s' => wpAny (model prog w) A (execs rest env) QF E s') acc C) xv s₁) E (St s h t))
    (hsw : swapsWith (.ListComp elt [⟨.Name x px, iter, ifs, 0⟩] scope pos) (some (.Name y py)) spos.line env = pure true := by rfl)
    (hclos : closureFor scope env = pure cl := by rfl) (hkind : scope.kind = .function := by rfl) (hnames : ∀ y ∈ scope.names, y.2 = .local → scope.names.lookup y.1 = some .local := by decide)
    (hs : ∀ x, foldedSetIterable iter env x = pure x := by intro _; rfl) :
    wpAny (model prog w) A (execs (.Assign [.Name y py] (.ListComp elt [⟨.Name x px, iter, ifs, 0⟩] scope pos) spos :: rest) env) QF E (St s h t) := by
  refine wpAny_execs_cons ?_
  rw [exec_Assign_Name_used _ _ _ _ hsw]
  refine wpAny_bind (wpAny_standAt (wpAny_bind ?_))
  show wpAny _ A (do let _ ← comprehension (.ListComp elt [⟨.Name x px, iter, ifs, 0⟩] scope pos) scope env _ (newList []) false (eval iter env) (some (assign (.Name y py) env))) _ _ _
  exact wpAny_bind (wpAny_mono (wpAny_comprehension_free (use := some (assign (.Name y py) env)) (Q := fun _ s' => wpAny (model prog w) A (execs rest env) QF E s') rfl hs hclos hkind hnames k) (fun _ s' hq => wpAny_pure (wpAny_pure hq)) fun _ _ q => q)

/-- the state in which a comprehension's tests and its element are run -/
abbrev InC (H h : Heap) (W : List (Addr × Kd)) (B B' : Store) (C : Addr) (m' : Str → Option Value) (D : Addr) (ys : List Value) (I : Addr) (o : Obj) (h' : Heap) : Prop :=
  Fm H ⟨h, W.map (·.1), B⟩ B' C m' ((D, .list ys) :: (I, .obj o) :: W) h'

theorem g_comp {elt iter : Expr} {x : Str} {px : Pos} {ifs : List Expr} {scope : Scope} {cl : List (Str × Addr)} {pos : Pos} {xv : Value} {n : Nat} {P : Nat → Value → Prop} {SRC : Heap → Prop}
    (F : Fm H e B env.locals m W h) (ov : Over prog w A xv h n P SRC) (hn : n < 2 ^ 20)
    (hsrc : ∀ h', (∀ a k, B a = some k → At h' a k) → (∀ p ∈ W, At h' p.1 p.2) → SRC h')
    (G : Nat → Store → List Value → Prop) (G0 : G 0 B []) (Glen : ∀ i B' ys, G i B' ys → ys.length ≤ i)
    (turn : ∀ i v B' ys m' h' t' C I o D, i < n → P i v → G i B' ys → InC H h W B B' C m' D ys I o h' → m' x = some v →
      wpAny (model prog w) A (forIn ifs true fun c r => if r = true then do let ok ← isTrue c (compEnvC scope cl C env) (eval c (compEnvC scope cl C env)); pure (ForInStep.yield ok) else pure (ForInStep.yield r))
        (fun ok s₃ => if ok = true then wpAny (model prog w) A (eval elt (compEnvC scope cl C env)) (fun y s₄ => ∃ B'' h'' t'', s₄ = St s h'' t'' ∧ InC H h W B B'' C m' D ys I o h'' ∧ G (i + 1) B'' (ys ++ [y])) NoE s₃
          else ∃ B'' h'' t'', s₃ = St s h'' t'' ∧ InC H h W B B'' C m' D ys I o h'' ∧ G (i + 1) B'' ys) NoE (St s h' t'))
    (fin : ∀ B' ys h' t' D, G n B' ys → h.get? D = none → Fm H e B' env.locals m ((D, .list ys) :: W) h' → Q (.ref D) (St s h' t'))
    (hcell : ∀ y ∈ scope.names, y.2 ≠ .cell := by decide) (hkind : scope.kind = .function := by rfl) (hx : scope.names.lookup x = some .local := by rfl) :
    CompGo prog w A E env elt x px iter ifs scope cl pos (fun acc C => compPost (model prog w) A E none Q acc C) xv (St s h t) := by
  refine comp_core F ov hn hsrc hcell hkind hx G G0 Glen turn fun B' ys m' h' t' C D hG hC hD F' => ⟨m', F'.ns, fun h'' hs => ?_⟩
  have F₁ := F.outer (X := [(D, .list ys)]) (W' := W) F' rfl (by simpa using hD)
  refine fin B' ys h'' t' D hG hD (F₁.foreign (C := C) (F.oldNone hC) (F'.outB _ (.head _)) (F'.outH _ (.head _)) ?_ fun b o hb eo => (hs.2 b hb).trans eo)
  intro hm
  rcases List.mem_cons.mp hm with h1 | h1
  · obtain ⟨o, ho⟩ := F.liveW _ (.head _); rw [← h1, hC] at ho; cases ho
  · exact (List.nodup_cons.mp F'.apart).1 h1

theorem g_compA {elt iter : Expr} {x y : Str} {px py : Pos} {ifs : List Expr} {scope : Scope} {cl : List (Str × Addr)} {pos : Pos} {xv : Value} {n : Nat} {P : Nat → Value → Prop} {SRC : Heap → Prop}
    (F : Fm H e B env.locals m W h) (ov : Over prog w A xv h n P SRC) (hn : n < 2 ^ 20)
    (hsrc : ∀ h', (∀ a k, B a = some k → At h' a k) → (∀ p ∈ W, At h' p.1 p.2) → SRC h')
    (G : Nat → Store → List Value → Prop) (G0 : G 0 B []) (Glen : ∀ i B' ys, G i B' ys → ys.length ≤ i)
    (turn : ∀ i v B' ys m' h' t' C I o D, i < n → P i v → G i B' ys → InC H h W B B' C m' D ys I o h' → m' x = some v →
      wpAny (model prog w) A (forIn ifs true fun c r => if r = true then do let ok ← isTrue c (compEnvC scope cl C env) (eval c (compEnvC scope cl C env)); pure (ForInStep.yield ok) else pure (ForInStep.yield r))
        (fun ok s₃ => if ok = true then wpAny (model prog w) A (eval elt (compEnvC scope cl C env)) (fun y s₄ => ∃ B'' h'' t'', s₄ = St s h'' t'' ∧ InC H h W B B'' C m' D ys I o h'' ∧ G (i + 1) B'' (ys ++ [y])) NoE s₃
          else ∃ B'' h'' t'', s₃ = St s h'' t'' ∧ InC H h W B B'' C m' D ys I o h'' ∧ G (i + 1) B'' ys) NoE (St s h' t'))
    (fin : ∀ B' ys h' t' D, G n B' ys → h.get? D = none → Fm H e B' env.locals (upd m y (.ref D)) ((D, .list ys) :: W) h' → Q .none (St s h' t'))
    (hcell : ∀ y ∈ scope.names, y.2 ≠ .cell := by decide) (hkind : scope.kind = .function := by rfl) (hx : scope.names.lookup x = some .local := by rfl)
    (hk : env.scope.kind = .function := by rfl) (hl : env.kindOf y = some .local := by rfl) :
    CompGo prog w A E env elt x px iter ifs scope cl pos (fun acc C => compPost (model prog w) A E (some (assign (.Name y py) env)) Q acc C) xv (St s h t) := by
  refine comp_core F ov hn hsrc hcell hkind hx G G0 Glen turn fun B' ys m' h' t' C D hG hC hD F' => ?_
  have F₁ := F.outer (X := [(D, .list ys)]) (W' := W) F' rfl (by simpa using hD)
  have hCL : C ≠ env.locals := by rintro rfl; obtain ⟨o, ho⟩ := F.liveW _ (.head _); rw [hC] at ho; cases ho
  refine wpAny_assign_Name (wpAny_storeName_local (s := St s h' t') hl F₁.ns (fun h₃ hn₃ hs₃ => ⟨m', F'.ns.sameBut hs₃ hCL, fun h'' hs => ?_⟩) (by rw [hk]; rfl))
  have F₃ := F₁.store hn₃ hs₃
  refine fin B' ys h'' _ D hG hD (F₃.foreign (C := C) (F.oldNone hC) (F'.outB _ (.head _)) (F'.outH _ (.head _)) ?_ fun b o hb eo => (hs.2 b hb).trans eo)
  intro hm
  rcases List.mem_cons.mp hm with h1 | h1
  · exact hCL h1
  · exact (List.nodup_cons.mp F'.apart).1 h1

theorem no_tests {cenv : Env} {QB : Bool → Shared → Prop} (k : QB true (St s h t)) : wpAny (model prog w) A (forIn ([] : List Expr) true fun c r => if r = true then do let ok ← isTrue c cenv (eval c cenv); pure (ForInStep.yield ok) else pure (ForInStep.yield r)) QB E (St s h t) := by
  rw [List.forIn_nil]; exact wpAny_pure k
theorem one_test {cenv : Env} {c₀ : Expr} {QB : Bool → Shared → Prop} (k : wpAny (model prog w) A (isTrue c₀ cenv (eval c₀ cenv)) QB E (St s h t)) : wpAny (model prog w) A (forIn [c₀] true fun c r => if r = true then do let ok ← isTrue c cenv (eval c cenv); pure (ForInStep.yield ok) else pure (ForInStep.yield r)) QB E (St s h t) := by
  rw [List.forIn_cons]
  refine wpAny_bind ?_
  simp only [if_true]
  refine wpAny_bind (wpAny_mono k (fun ok s' q => wpAny_pure ?_) fun _ _ q => q)
  show wpAny _ _ (forIn [] ok _) _ _ _
  rw [List.forIn_nil]; exact wpAny_pure q
end
end Mine

namespace Mine
open PySem PySem.Calls PyProof.Rows

section
variable {prog : Program} {w : World} {A : Around} {E : Value → Shared → Prop} {s : Shared} {Q : Value → Shared → Prop}
def revRange (n : Nat) : Obj := { cls := .type "range_iterator", data := .fields #[rawInt ((n : Int) - 1), rawInt n, rawInt (-1)] }
theorem sub_ri_reversed : isSubtype (.type "range_iterator") (.type "reversed") = pure false := by rw [isSubtype_type]; kernel_rfl
theorem rangeFields_at {M : Model} {r : Addr} {a b c : Int} {t u v : Tok} {Q : Int × Int × Int → Shared → Prop} (hr : IsRange s.heap r a b c t u v) (h : Q (a, b, c) s) : wpAny M A (Builtin.Range.rangeFields (.ref r)) Q E s := by
  unfold Builtin.Range.rangeFields
  refine wpAny_bind (wpAny_field hr rfl (x := .int a t) rfl ?_)
  refine wpAny_bind (wpAny_of_eq (a := some a) rfl ?_)
  refine wpAny_bind (wpAny_field hr rfl (x := .int b u) rfl ?_)
  refine wpAny_bind (wpAny_of_eq (a := some b) rfl ?_)
  refine wpAny_bind (wpAny_field hr rfl (x := .int c v) rfl ?_)
  refine wpAny_bind (wpAny_of_eq (a := some c) rfl ?_)
  exact wpAny_pure h
theorem call_range_rev {r : Addr} {n : Nat} {t u v : Tok} (hr : IsRange s.heap r 0 n 1 t u v) (hn : n < 2 ^ 60) (h : Q (.ref s.heap.objs.size) { s with heap := s.heap.push (revRange n) }) :
    wpAny (model prog w) A (call (.builtin "range.__reversed__") [.ref r]) Q E s := by
  have hT : s.TypeIs (.ref r) "range" := ⟨_, hr, rfl⟩
  refine wpAny_call_entry F.slot_range_reversed hT F.entry_range_reversed ?_ (F.args_range_reversed_1 _)
  unfold Builtin.«range.__reversed__»
  refine wpAny_bind (wpAny_of_eq (a := Value.ref r) rfl ?_)
  have hsz : Builtin.Range.rangeSize 0 n 1 = n := by
    unfold Builtin.Range.rangeSize
    rw [if_pos (by decide)]
    split <;> omega
  refine wpAny_bind (rangeFields_at hr ?_)
  dsimp only
  rw [hsz]
  have hsm : (Builtin.Range.rangeFitsLong 0 && Builtin.Range.rangeFitsLong n && Builtin.Range.rangeFitsLong 1 && Builtin.Range.rangeFitsLong (-1) && Builtin.Range.rangeFitsLong (0 - 1) && Builtin.Range.rangeFitsLong n) = true := by
    have h1 : Builtin.Range.rangeFitsLong n = true := by
      have a1 : -(2 ^ 63) ≤ (n : Int) := by omega
      have a2 : (n : Int) < 2 ^ 63 := by omega
      show (decide (-(2 ^ 63) ≤ (n : Int)) && decide ((n : Int) < 2 ^ 63)) = true
      rw [decide_eq_true a1, decide_eq_true a2]; rfl
    rw [h1]; rfl
  rw [hsm]
  simp only [Bool.not_true, Bool.false_eq_true, if_false, if_true]
  have he : (0 : Int) + ((n : Int) - 1) * 1 = (n : Int) - 1 := by omega
  rw [he]
  first
  | exact wpAny_bind (wpAny_newObj_type (wpAny_pure ⟨_, rfl, h⟩))
  | exact wpAny_bind (wpAny_pure (wpAny_bind (wpAny_newObj_type (wpAny_pure ⟨_, rfl, h⟩))))
theorem code_reversed_range {r : Addr} {n : Nat} {t u v : Tok} (hr : IsRange s.heap r 0 n 1 t u v) (hn : n < 2 ^ 60) (h : Q (.ref s.heap.objs.size) { s with heap := s.heap.push (revRange n) }) :
    codeAny (model prog w) A (.call (.builtin "reversed.__new__") ⟨[.type "reversed", .ref r], []⟩) (wants Q E) s := by
  have hT : s.TypeIs (.ref r) "range" := ⟨_, hr, rfl⟩
  refine codeAny_of_tree ?_
  show wpAny _ A.in1 (do checkBuiltinCall "reversed.__new__" ⟨[.type "reversed", .ref r], []⟩; again (.builtin "reversed.__new__" ⟨[.type "reversed", .ref r], []⟩)) _ _ s
  refine wpAny_bind (wpAny_of_eq (F.newCall_reversed_1 _) (wpAny_pure ⟨plainId_quiet F.plain_reversed_new _, codeAny_builtin F.entry_reversed_new ?_⟩))
  rw [Around.under_plainId F.plain_reversed_new _]
  unfold Builtin.«reversed.__new__»
  refine wpAny_bind (wpAny_of_eq (newClass_reversed _) ?_)
  try dsimp only
  refine wpAny_bind (wpAny_of_eq (a := ()) (by first | rfl | kernel_rfl) ?_)
  refine wpAny_bind (wpAny_of_eq (a := ()) (by first | rfl | kernel_rfl) ?_)
  try dsimp only
  refine wpAny_bind (wpAny_specialOf hT F.slot_range_reversed.lookup ?_)
  try dsimp only
  refine wpAny_bind (wpAny_of_eq (F.slot_range_reversed.bind _) ?_)
  try dsimp only
  show wpAny _ _ (if (Value.builtin "range.__reversed__" == Value.none) = true then _ else _) _ _ _
  rw [if_neg (show ¬ ((Value.builtin "range.__reversed__" == Value.none) = true) from Bool.false_ne_true)]
  refine wpAny_bind (wpAny_rule ?_)
  refine wpAny_bind (m := runValue (.call (.builtin "range.__reversed__") ⟨[.ref r], []⟩)) (show wpAny _ _ (call (.builtin "range.__reversed__") [.ref r]) _ _ _ from call_range_rev hr hn ?_)
  first
  | exact wpAny_pure h
  | exact wpAny_bind (wpAny_pure (wpAny_pure h))
theorem call_reversed_range {r : Addr} {n : Nat} {t u v : Tok} (hr : IsRange s.heap r 0 n 1 t u v) (hn : n < 2 ^ 60) (h : Q (.ref s.heap.objs.size) { s with heap := s.heap.push (revRange n) }) :
    wpAny (model prog w) A (call (.type "reversed") [.ref r]) Q E s := by
  refine callType_other (U := "range_iterator") (Q₁ := fun obj s₁ => obj = .ref s.heap.objs.size ∧ s₁ = { s with heap := s.heap.push (revRange n) }) (by decide +kernel) F.create_reversed ⟨_, _, F.mro_reversed⟩ F.made_reversed sub_ri_reversed (F.typeCall_reversed_1 _) (code_reversed_range hr hn ⟨rfl, rfl⟩) ?_
  rintro obj s₁ ⟨rfl, rfl⟩
  exact ⟨⟨_, Heap.get?_push_size _ rfl, rfl⟩, h⟩
end
end Mine

namespace Mine
open PySem PySem.Calls PyProof.Rows

theorem sdLoop_ok : ∀ (p : Nat) (sp : Nat) (c : Value × Nat) (xs : List (Value × Nat)), (sdLoop sp c xs p).length = xs.length ∧ ∀ z ∈ sdLoop sp c xs p, z = c ∨ z ∈ xs := by
  intro p
  induction p using Nat.strongRecOn with
  | ind p ih =>
    intro sp c xs
    rw [sdLoop]
    split
    · rename_i hlt
      dsimp only
      split
      · obtain ⟨h1, h2⟩ := ih ((p - 1) / 2) (by omega) sp c (xs.set p (xs.getD ((p - 1) / 2) c))
        refine ⟨by rw [h1, List.length_set], fun z hz => ?_⟩
        rcases h2 z hz with h3 | h3
        · exact .inl h3
        · rcases List.mem_or_eq_of_mem_set h3 with h4 | h4
          · exact .inr h4
          · rw [h4, List.getD_eq_getElem?_getD]
            cases q : xs[(p - 1) / 2]? with
            | none => exact .inl rfl
            | some y => exact .inr (List.mem_of_getElem? q)
      · refine ⟨List.length_set, fun z hz => ?_⟩
        rcases List.mem_or_eq_of_mem_set hz with h4 | h4
        · exact .inr h4
        · exact .inl h4
    · refine ⟨List.length_set, fun z hz => ?_⟩
      rcases List.mem_or_eq_of_mem_set hz with h4 | h4
      · exact .inr h4
      · exact .inl h4

theorem siftup_okP {xs : List (Value × Nat)} {p : Nat} (hp : p < xs.length) : (siftup xs p).length = xs.length ∧ ∀ z ∈ siftup xs p, z ∈ xs := by
  obtain ⟨h1, h2, h3⟩ := suLoop_ok _ xs p (Nat.le_refl _) hp
  have hc : xs.getD p (.none, 0) ∈ xs := by rw [List.getD_eq_getElem?_getD, List.getElem?_eq_getElem hp]; exact List.getElem_mem _
  unfold siftup
  obtain ⟨g1, g2⟩ := sdLoop_ok (suLoop xs p).2 p (xs.getD p (.none, 0)) ((suLoop xs p).1.set (suLoop xs p).2 (xs.getD p (.none, 0)))
  refine ⟨by rw [g1, List.length_set, h1], fun z hz => ?_⟩
  rcases g2 z hz with h4 | h4
  · exact h4 ▸ hc
  · rcases List.mem_or_eq_of_mem_set h4 with h5 | h5
    · exact h3 z h5
    · exact h5 ▸ hc

def hpush (xs : List (Value × Nat)) (c : Value × Nat) : List (Value × Nat) := sdLoop 0 c (xs ++ [c]) xs.length
def hpopT (ys : List (Value × Nat)) (last : Value × Nat) : (Value × Nat) × List (Value × Nat) :=
  match ys with
  | [] => (last, [])
  | y :: r => (y, siftup (last :: r) 0)
def hfy (xs : List (Value × Nat)) (k : Nat) : Nat → List (Value × Nat)
  | 0 => xs
  | i + 1 => siftup (hfy xs k i) (k - 1 - i)
theorem hfy_ok {xs : List (Value × Nat)} {k : Nat} (hk : k ≤ xs.length) : ∀ i, i ≤ k → (hfy xs k i).length = xs.length ∧ ∀ z ∈ hfy xs k i, z ∈ xs
  | 0, _ => ⟨rfl, fun _ hz => hz⟩
  | i + 1, hi => by
    obtain ⟨h1, h2⟩ := hfy_ok hk i (by omega)
    obtain ⟨g1, g2⟩ := siftup_okP (xs := hfy xs k i) (p := k - 1 - i) (by omega)
    exact ⟨by rw [hfy, g1, h1], fun z hz => h2 z (g2 z hz)⟩

section
variable {prog : Program} {w : World} {A : Around} {s : Shared} {H : Heap} {P : Pg} {B : Store} {h : Heap} {t : Nat} {K : Store → Value → Nat → Prop}
  (hK : ∀ B v c u d, K B v c → K B u d → LtOk prog w B v u (decide (c < d)))
set_option maxHeartbeats 2000000
include hK
theorem heappush_ok {R : Result → Shared → Prop} {k : Nat} {l : Addr} {xs : List (Value × Nat)} {c : Value × Nat}
    (hP : PgOk H P) (hA : Rm A (k + 2)) (pre : Pre H B [(l, .list (vs xs))] h) (hxs : ∀ q ∈ xs, K B q.1 q.2) (hc : K B c.1 c.2) (hlen : xs.length < 900)
    (go : ∀ h' t', Back B [l] h h' B → At h' l (.list (vs (hpush xs c))) → R (.ok (.ret .none)) (St s h' t')) :
    codeAny (model prog w) A (.call (.ref (P.fa 2)) ⟨[.ref l, c.1], []⟩) R (St s h t) := by
  refine enterD 2 [(Str.ofString "heap", .ref l), (Str.ofString "item", c.1)] hP hA pre (by decide) rfl rfl (by decide) rfl rfl rfl (fun env h' t' he F hA' => ?_)
  subst he
  refine s_expr (m_append (r_name F rfl ⟨l, _, rfl, F.at0 (i := 0) rfl, r_name F rfl (appendTo F 0 rfl (by simp; omega) fun h1 F1 => ?_)⟩))
  have F1' := F1.castW (W' := [(l, .list (vs (xs ++ [c])))]) (by simp [vs, cellW]; rfl)
  refine s_expr (r_call F1' hP.g (hP.fn 5 (by decide)) (hP.fo 5 (by decide)) (hP.fd 5 (by decide)) (args_3 (r_name F1' rfl (r_int (r_bin (r_bcall F1' hP.g (hP.bi _ (by decide)) hP.b hP.len (args_1 (r_name F1' rfl (r_len (F1'.at0 (i := 0) rfl) (by simp; omega) (r_int (r_sub' ⟨F1'.base, r_body ?_⟩)))))))))))
  have hn : (((vs (xs ++ [c])).length : Nat) : Int) - 1 = ((xs.length : Nat) : Int) := by simp
  rw [hn]
  refine siftdown_ok hK (k := k) (sp := 0) hP hA' F1'.pre1 (fun z hz => ?_) (by simp; omega) (c := c) (by simp) fun h2 t2 b2 a2 => ?_
  · rcases List.mem_append.mp hz with h1 | h1
    · exact hxs z h1
    · rw [List.mem_singleton.mp h1]; exact hc
  · exact s_nil (go _ _ (F1'.back1 b2 a2).leave a2)

theorem heappop_ok {R : Result → Shared → Prop} {k : Nat} {l : Addr} {ys : List (Value × Nat)} {last : Value × Nat}
    (hP : PgOk H P) (hA : Rm A (k + 3)) (pre : Pre H B [(l, .list (vs (ys ++ [last])))] h) (hxs : ∀ q ∈ ys, K B q.1 q.2) (hc : K B last.1 last.2) (hlen : ys.length < 900)
    (go : ∀ h' t', Back B [l] h h' B → At h' l (.list (vs (hpopT ys last).2)) → R (.ok (.ret (hpopT ys last).1.1)) (St s h' t')) :
    codeAny (model prog w) A (.call (.ref (P.fa 3)) ⟨[.ref l], []⟩) R (St s h t) := by
  refine enterD 3 [(Str.ofString "heap", .ref l)] hP hA pre (by decide) rfl rfl (by decide) rfl rfl rfl (fun env h' t' he F hA' => ?_)
  subst he
  have F' := F.castW (W' := [(l, .list (vs ys ++ [last.1]))]) (by simp [vs, cellW]; rfl)
  refine s_assign (m_pop (r_name F' rfl (popFrom F' 0 rfl (by simp; omega) fun h1 F1 => r_store F1 fun h2 F2 => ?_)))
  refine s_if (t_name (r_name F2 rfl (t_list (F2.at0 (i := 0) rfl) (by simp; omega) ?_)))
  cases ys with
  | nil =>
    rw [if_neg (by simp [vs])]
    refine s_nil (Then.next (s_ret (r_name F2 rfl (go _ _ F2.leave (F2.at0 (i := 0) rfl)))))
  | cons y r =>
    rw [if_pos (by simp [vs])]
    refine s_assign (r_sub (r_name F2 rfl (r_int (i_list (F2.at0 (i := 0) rfl) (by decide) (by decide) (x := y.1) rfl (r_store F2 fun h3 F3 => ?_)))))
    refine s_setitem (r_name F3 rfl (r_name F3 rfl (r_int (r_setitem F3 0 rfl (by decide) (by simp) (by simp [vs] at hlen ⊢; omega) fun h4 F4 => ?_))))
    have F4' := F4.castW (W' := [(l, .list (vs (last :: r)))]) rfl
    refine s_expr (r_call F4' hP.g (hP.fn 6 (by decide)) (hP.fo 6 (by decide)) (hP.fd 6 (by decide)) (args_2 (r_name F4' rfl (r_int ⟨F4'.base, r_body ?_⟩))))
    refine siftup_ok hK (k := k) (p := 0) hP hA' F4'.pre1 (fun z hz => ?_) (by simp at hlen ⊢; omega) (by simp) fun h5 t5 b5 a5 => ?_
    · rcases List.mem_cons.mp hz with rfl | h1
      · exact hc
      · exact hxs z (.tail _ h1)
    · have F5 := F4'.back1 b5 a5
      exact s_ret (r_name F5 rfl (go _ _ F5.leave a5))

theorem heapify_ok {R : Result → Shared → Prop} {k : Nat} {l : Addr} {xs : List (Value × Nat)}
    (hP : PgOk H P) (hA : Rm A (k + 3)) (pre : Pre H B [(l, .list (vs xs))] h) (hxs : ∀ q ∈ xs, K B q.1 q.2) (hlen : xs.length < 900)
    (go : ∀ h' t', Back B [l] h h' B → At h' l (.list (vs (hfy xs (xs.length / 2) (xs.length / 2)))) → R (.ok (.ret .none)) (St s h' t')) :
    codeAny (model prog w) A (.call (.ref (P.fa 4)) ⟨[.ref l], []⟩) R (St s h t) := by
  refine enterD 4 [(Str.ofString "x", .ref l)] hP hA pre (by decide) rfl rfl (by decide) rfl rfl rfl (fun env h' t' he F hA' => ?_)
  subst he
  refine s_assign (r_bcall F hP.g (hP.bi _ (by decide)) hP.b hP.len (args_1 (r_name F rfl (r_len (F.at0 (i := 0) rfl) (by simp; omega) (r_store F fun h1 F1 => ?_)))))
  have hdiv : (((vs xs).length : Nat) : Int).fdiv 2 = ((xs.length / 2 : Nat) : Int) := by rw [vs_len]; exact (Int.ofNat_fdiv _ _).symm
  refine s_for0 (H := H) (e := ⟨h, [l], B⟩) (xs.length / 2) (fun i v => ∃ u, v = .int (((xs.length / 2 - 1 - i : Nat)) : Int) u)
    (fun i B' m' W' => B' = B ∧ m' (Str.ofString "x") = some (.ref l) ∧ W' = [(l, .list (vs (hfy xs (xs.length / 2) i)))])
    (r_tcall F1 hP.g (hP.bi _ (by decide)) hP.b hP.reversed (args_1 (r_tcall F1 hP.g (hP.bi _ (by decide)) hP.b hP.range (args_1 (r_bin (r_name F1 rfl (r_int (r_div (by decide) (PyProof.noPylong_of_log2 (by decide +kernel)) ?_)))))))) ?_ ?_
  · rw [hdiv]
    refine call_range_1 (s := St s h1 _) ?_
    have F2 := F1.grown (h' := h1.push { cls := .type "range", data := .fields #[.int 0 (t' + 1 + 1 + 1 + 1 + 1), .int ((xs.length / 2 : Nat) : Int) (t' + 1 + 1 + 1 + 1), .int 1 (t' + 1 + 1 + 1 + 1 + 1 + 1)] }) fun b o eo => Heap.get?_push_of_some _ eo
    refine call_reversed_range (s := St s _ _) (n := xs.length / 2) (Heap.get?_push_size _ rfl) (by omega) ?_
    have F3 := F2.push (o := revRange (xs.length / 2)) (k := .obj (revRange (xs.length / 2))) rfl rfl
    have hIS : (h1.push { cls := .type "range", data := .fields #[.int 0 (t' + 1 + 1 + 1 + 1 + 1), .int ((xs.length / 2 : Nat) : Int) (t' + 1 + 1 + 1 + 1), .int 1 (t' + 1 + 1 + 1 + 1 + 1 + 1)] }).objs.size ∉ [l] := fun hm => F2.size_none.2.2.2 (.tail _ (F2.inW _ hm))
    refine wpAny_pyIter_rangeiter (s := St s _ _) (x := ((xs.length / 2 : Nat) : Int) - 1) (left := ((xs.length / 2 : Nat) : Int)) (step := -1) (Heap.get?_push_size _ rfl) ?_
    refine ⟨_, _, _, revRange (xs.length / 2), B, _, [(l, .list (vs xs))], rangeIt (((xs.length / 2 : Nat) : Int) - 1) (-1) (xs.length / 2), fun _ => True, rfl, rfl, ?_, ?_, F3, hIS, ⟨rfl, rfl, rfl⟩, fun _ _ _ _ _ _ _ _ => trivial⟩
    · have q := Itr.range (prog := prog) (w := w) (I := (h1.push { cls := .type "range", data := .fields #[.int 0 (t' + 1 + 1 + 1 + 1 + 1), .int ((xs.length / 2 : Nat) : Int) (t' + 1 + 1 + 1 + 1), .int 1 (t' + 1 + 1 + 1 + 1 + 1 + 1)] }).objs.size) hA'.handled (((xs.length / 2 : Nat) : Int) - 1) (-1) (xs.length / 2)
      refine ⟨fun i s h t o Q E hi ho hob hs k => q.next i s h t o Q E hi ho hob hs fun v h' t' o' hv => k v h' t' o' ?_, q.stop, q.self⟩
      obtain ⟨t, rfl⟩ := hv
      exact ⟨t, by congr 1; omega⟩
    · unfold rangeIt revRange
      congr 3 <;> simp
  · rintro i v B' m' W' h3 t3 I o hi ⟨u, rfl⟩ ⟨rfl, e1, rfl⟩ F3
    obtain ⟨g1, g2⟩ := hfy_ok (xs := xs) (k := xs.length / 2) (by omega) i (by omega)
    -- the list first, the iterator behind it
    have F3' : Fm H ⟨h, [l], B'⟩ B' _ _ [(l, .list (vs (hfy xs (xs.length / 2) i))), (I, .obj o)] h3 := F3.swap
    refine s_expr (r_call F3' hP.g (hP.fn 6 (by decide)) (hP.fo 6 (by decide)) (hP.fd 6 (by decide)) (args_2 (r_name F3' e1 (r_name F3' rfl ⟨F3'.base, r_body ?_⟩))))
    refine siftup_ok hK (k := k) hP hA' F3'.pre1 (fun z hz => hxs z (g2 z hz)) (by omega) (by omega) fun h5 t5 b5 a5 => ?_
    have F5 := (F3'.back1 b5 a5).swap
    exact s_nil ⟨.inl rfl, _, _, _, h5, t5, rfl, F5, rfl, e1, rfl⟩
  · rintro B' m' W' h3 t3 ⟨rfl, e1, rfl⟩ F3
    exact s_nil (go _ _ F3.leave (F3.at0 (i := 0) rfl))
end
end Mine

namespace Mine
open PySem

/-- the forty paths, in the order of their pieces -/
def pathT : List Str := ["", "/", "//", "///", "///a", "///a!", "//a", "//a/", "//a/a", "//a/a!", "//a!", "//a!/", "//a!/a", "//a!/a!", "/a", "/a/", "/a//", "/a//a", "/a//a!", "/a/a", "/a/a/", "/a/a/a", "/a/a/a!", "/a/a!", "/a/a!/", "/a/a!/a", "/a/a!/a!", "/a!", "/a!/", "/a!//", "/a!//a", "/a!//a!", "/a!/a", "/a!/a/", "/a!/a/a", "/a!/a/a!", "/a!/a!", "/a!/a!/", "/a!/a!/a", "/a!/a!/a!"].map Str.ofString
def endT : List Nat := [39, 39, 13, 5, 4, 5, 9, 9, 8, 9, 13, 13, 12, 13, 26, 26, 18, 17, 18, 22, 22, 21, 22, 26, 26, 25, 26, 39, 39, 31, 30, 31, 35, 35, 34, 35, 39, 39, 38, 39]
def idxT : List Nat := [0, 1, 14, 27, 1, 2, 15, 28, 14, 6, 19, 32, 27, 10, 23, 36, 1, 2, 15, 28, 2, 3, 16, 29, 15, 7, 20, 33, 28, 11, 24, 37, 14, 6, 19, 32, 6, 4, 17, 30, 19, 8, 21, 34, 32, 12, 25, 38, 27, 10, 23, 36, 10, 5, 18, 31, 23, 9, 22, 35, 36, 13, 26, 39]
def markT : List Str := ["", "/", "/a", "/a!"].map Str.ofString
def slash : Str := Str.ofString "/"
def pathP (p : Nat) : Str := pathT.getD p Str.empty
def endP (p : Nat) : Nat := endT.getD p 0
def pcsT : List (List Str) := ([[""], ["", ""], ["", "", ""], ["", "", "", ""], ["", "", "", "a"], ["", "", "", "a!"], ["", "", "a"], ["", "", "a", ""], ["", "", "a", "a"], ["", "", "a", "a!"], ["", "", "a!"], ["", "", "a!", ""], ["", "", "a!", "a"], ["", "", "a!", "a!"], ["", "a"], ["", "a", ""], ["", "a", "", ""], ["", "a", "", "a"], ["", "a", "", "a!"], ["", "a", "a"], ["", "a", "a", ""], ["", "a", "a", "a"], ["", "a", "a", "a!"], ["", "a", "a!"], ["", "a", "a!", ""], ["", "a", "a!", "a"], ["", "a", "a!", "a!"], ["", "a!"], ["", "a!", ""], ["", "a!", "", ""], ["", "a!", "", "a"], ["", "a!", "", "a!"], ["", "a!", "a"], ["", "a!", "a", ""], ["", "a!", "a", "a"], ["", "a!", "a", "a!"], ["", "a!", "a!"], ["", "a!", "a!", ""], ["", "a!", "a!", "a"], ["", "a!", "a!", "a!"]] : List (List String)).map (·.map Str.ofString)
def pcsP (p : Nat) : List Str := pcsT.getD p []
theorem split_all : ((List.range 40).all fun p => decide (Txt.split (pathP p) slash = pcsP p)) = true := by decide +kernel
def markP (d : Nat) : Str := markT.getD d Str.empty
def idxP (a b c : Nat) : Nat := idxT.getD (a + 4 * b + 16 * c) 0

theorem idx_all : ((List.range 4).all fun a => (List.range 4).all fun b => (List.range 4).all fun c => decide (idxP a b c < 40) && decide (markP a ++ markP b ++ markP c = pathP (idxP a b c))) = true := by decide +kernel
def all40 (f : Nat → Nat → Bool) : Bool := (List.range 40).all fun p => (List.range 40).all fun q => f p q
theorem all40_of {f : Nat → Nat → Bool} (h : all40 f = true) {p q : Nat} (hp : p < 40) (hq : q < 40) : f p q = true := by
  have := List.all_eq_true.mp h p (List.mem_range.mpr hp)
  exact List.all_eq_true.mp this q (List.mem_range.mpr hq)

/-- the order of lists of texts -/
def lexLt : List Str → List Str → Bool
  | [], [] => false
  | [], _ :: _ => true
  | _ :: _, [] => false
  | a :: x, b :: y => if a = b then lexLt x y else decide (a.cps.toList < b.cps.toList)

theorem pcs_lt : all40 (fun p q => lexLt (pcsP p) (pcsP q) == decide (p < q)) = true := by decide +kernel
theorem pcs_eq : all40 (fun p q => decide (pcsP p = pcsP q) == decide (p = q)) = true := by decide +kernel
theorem path_eq : all40 (fun p q => decide (pathP p = pathP q) == decide (p = q)) = true := by decide +kernel
end Mine

namespace Mine
open PySem PySem.Calls PyProof.Rows PySem.SeqAt PySem.MeetsSeq3
open PySem.AutoSeq1 (wpAny_loadPart')

/-- v < u gives b, and nothing is turned -/
def RcLt (A : Around) (s : Shared) (v u : Value) (b : Bool) : Prop := ∀ (prog : Program) (w : World) (E : Value → Shared → Prop) (Q : Value → Shared → Prop), Q (.bool b) s → wpAny (model prog w) A (richCompare .Lt v u) Q E s

theorem RcLt.str (A : Around) (s : Shared) (x y : Str) (t u : Tok) : RcLt A s (.str x t) (.str y u) (decide (x.cps.toList < y.cps.toList)) := fun prog w E Q h => by
  have q : wpAny (model prog w) A (compareOp .Lt (.str x t) (.str y u)) Q E s := PyProof.Rows.lt_str (by simpa using h)
  exact q
theorem RcLt.int (A : Around) (s : Shared) (x y : Int) (t u : Tok) : RcLt A s (.int x t) (.int y u) (decide (x < y)) := fun prog w E Q h => by
  have q : wpAny (model prog w) A (compareOp .Lt (.int x t) (.int y u)) Q E s := PyProof.Rows.lt_int h
  exact q

theorem lexLt_drop (x y : List Str) : lexLt x y = match x, y with
    | [], [] => false
    | [], _ :: _ => true
    | _ :: _, [] => false
    | a :: x, b :: y => if a = b then lexLt x y else decide (a.cps.toList < b.cps.toList) := by
  cases x <;> cases y <;> rfl

theorem lt_loopS (l b : Addr) (x y : List (Str × Tok)) (n n2 : Nat) (k : Nat) :
    ∀ i : Nat, x.length - i = k → i ≤ x.length → i ≤ y.length → Meets (Builtin.«list.__eq__.loop» ⟨[.ref l, .ref b, rawInt i, rawInt 0], []⟩)
      (fun A R s => s.heap.get? l = some { cls := .type "list", data := .seq (strValues x).toArray n } ∧ s.heap.get? b = some { cls := .type "list", data := .seq (strValues y).toArray n2 } ∧
        R (.ok (.ret (.bool (lexLt ((x.map (·.1)).drop i) ((y.map (·.1)).drop i))))) s) := by
  induction k with
  | zero =>
    intro i hk hix hiy prog w A R s h
    obtain ⟨hp, g, d, tk, os⟩ := s; obtain ⟨hl, hb, h⟩ := h
    have hi1 : (strValues x).toArray[((i : Nat) : Int).toNat]? = none := by simp [strValues]; omega
    have hdx : (x.map (·.1)).drop i = [] := by simp; omega
    rw [hdx] at h
    wp_walk using wpAny_loadPart' hl, wpAny_loadPart' hb
    rw [hi1]
    dsimp only
    wp_walk using wpAny_loadPart' hl, wpAny_loadPart' hb
    show R (.ok (.ret (.bool (decide ((strValues x).toArray.size < (strValues y).toArray.size))))) _
    have : decide ((strValues x).toArray.size < (strValues y).toArray.size) = lexLt [] ((y.map (·.1)).drop i) := by
      have hi : i = x.length := by omega
      subst hi
      cases q : (y.map (·.1)).drop x.length with
      | nil =>
        have : y.length ≤ x.length := by simpa using q
        simp [strValues, lexLt]; omega
      | cons a r =>
        have : ¬ y.length ≤ x.length := fun hle => by
          rw [List.drop_eq_nil_of_le (by simpa using hle)] at q; cases q
        simp [strValues, lexLt]; omega
    rw [this]; exact h
  | succ k ih =>
    intro i hk hix hiy prog w A R s h
    obtain ⟨hp, g, d, tk, os⟩ := s; obtain ⟨hl, hb, h⟩ := h
    have hlt : i < x.length := by omega
    have hi1 : (strValues x).toArray[((i : Nat) : Int).toNat]? = some (.str x[i].1 x[i].2) := by simp [strValues, hlt]
    have hdx : (x.map (·.1)).drop i = x[i].1 :: (x.map (·.1)).drop (i + 1) := by rw [List.drop_eq_getElem_cons (by simpa using hlt)]; simp
    rw [hdx] at h
    by_cases hly : i < y.length
    · have hi2 : (strValues y).toArray[((i : Nat) : Int).toNat]? = some (.str y[i].1 y[i].2) := by simp [strValues, hly]
      have hdy : (y.map (·.1)).drop i = y[i].1 :: (y.map (·.1)).drop (i + 1) := by rw [List.drop_eq_getElem_cons (by simpa using hly)]; simp
      rw [hdy] at h
      have hc : ((i : Int) + 1) = ((i + 1 : Nat) : Int) := by push_cast; rfl
      wp_walk using wpAny_loadPart' hl, wpAny_loadPart' hb
      rw [hi1, hi2]
      dsimp only
      refine wpAny_bind (EqAt.str_str _ _ _ _ prog w _ _ ?_)
      by_cases he : x[i].1 = y[i].1
      · have hb' : (x[i].1 == y[i].1) = true := beq_iff_eq.mpr he
        rw [hb']
        wp_walk
        rw [hc]
        refine ⟨plainId_quiet plain_eq_loop _, codeAny_builtin entry_eq_loop ?_⟩
        rw [Around.under_plainId plain_eq_loop _]
        refine ih (i + 1) (by omega) (by omega) (by omega) prog w A R _ ⟨hl, hb, ?_⟩
        rw [lexLt, if_pos he] at h
        exact h
      · have hb' : (x[i].1 == y[i].1) = false := beq_eq_false_iff_ne.mpr he
        rw [hb']
        wp_walk using wpAny_loadPart' hl, wpAny_loadPart' hb
        rw [hi1, hi2]
        dsimp only
        rw [lexLt, if_neg he] at h
        refine wpAny_bind (RcLt.str _ _ _ _ _ _ prog w _ _ (wpAny_pure h))
    · have hi2 : (strValues y).toArray[((i : Nat) : Int).toNat]? = none := by simp [strValues]; omega
      have hdy : (y.map (·.1)).drop i = [] := by simp; omega
      rw [hdy] at h
      wp_walk using wpAny_loadPart' hl, wpAny_loadPart' hb
      rw [hi1, hi2]
      dsimp only
      wp_walk using wpAny_loadPart' hl, wpAny_loadPart' hb
      show R (.ok (.ret (.bool (decide ((strValues x).toArray.size < (strValues y).toArray.size))))) _
      have : decide ((strValues x).toArray.size < (strValues y).toArray.size) = lexLt (x[i].1 :: (x.map (·.1)).drop (i + 1)) [] := by
        simp [strValues, lexLt]; omega
      rw [this]; exact h

theorem list_ltS (l b : Addr) (x y : List (Str × Tok)) (n n2 : Nat) :
    Meets (Builtin.«list.__lt__» ⟨[.ref l, .ref b], []⟩)
      (fun A R s => s.heap.get? l = some { cls := .type "list", data := .seq (strValues x).toArray n } ∧ s.heap.get? b = some { cls := .type "list", data := .seq (strValues y).toArray n2 } ∧
        R (.ok (.ret (.bool (lexLt (x.map (·.1)) (y.map (·.1)))))) s) := by
  intro prog w A R s h
  obtain ⟨hp, g, d, tk, os⟩ := s; obtain ⟨hl, hb, h⟩ := h
  have f3 := AutoSeq1.sub_list_list
  wp_walk using wpAny_loadPart' hl, wpAny_loadPart' hb
  exact ⟨plainId_quiet plain_eq_loop _, codeAny_builtin entry_eq_loop (by
    rw [Around.under_plainId plain_eq_loop _]
    exact lt_loopS l b x y n n2 _ 0 rfl (Nat.zero_le _) (Nat.zero_le _) prog w A R _ ⟨hl, hb, by simpa using h⟩)⟩

theorem RcLt.strs {A : Around} {s : Shared} {l b : Addr} {x y : List (Str × Tok)} (hl : At s.heap l (.list (strValues x))) (hb : At s.heap b (.list (strValues y))) (hu : A.units < cLine) :
    RcLt A s (.ref l) (.ref b) (lexLt (x.map (·.1)) (y.map (·.1))) := fun prog w E Q h => by
  obtain ⟨n, hl'⟩ := hl.plain
  obtain ⟨n2, hb'⟩ := hb.plain
  exact richCompare_meets_room (op := .Lt) ⟨_, hl', rfl⟩ ⟨_, hb', rfl⟩ F.slot_list_lt F.entry_list_lt (F.args_list_lt_2 _ _) (list_ltS l b x y n n2) ⟨hl', hb', show Value.bool _ ≠ Value.notImplemented ∧ _ from ⟨(fun x => nomatch x), h⟩⟩ hu

theorem strs_all (x y : List (Str × Tok)) (hsz : x.length = y.length) : ((List.range (strValues x).toArray.size).all fun j => (x.map (·.1))[j]? == (y.map (·.1))[j]?) = decide (x.map (·.1) = y.map (·.1)) := by
  rw [Bool.eq_iff_iff, List.all_eq_true, decide_eq_true_eq]
  constructor
  · intro h
    refine List.ext_getElem? fun j => ?_
    by_cases hj : j < x.length
    · exact beq_iff_eq.mp (h j (by simp [strValues, hj]))
    · rw [List.getElem?_eq_none (by simp; omega), List.getElem?_eq_none (by simp; omega)]
  · intro h j _
    rw [h]; simp
/-- two lists of texts are the same -/
theorem RcAt.strs {A : Around} {s : Shared} {l b : Addr} {x y : List (Str × Tok)} (hl : At s.heap l (.list (strValues x))) (hb : At s.heap b (.list (strValues y))) (hu : A.units < cLine) :
    RcAt A s (.ref l) (.ref b) (decide (x.map (·.1) = y.map (·.1))) := by
  by_cases hsz : x.length = y.length
  · rw [← strs_all x y hsz]
    refine RcAt.lists hl.isList hb.isList (by simp [strValues, hsz]) hu fun j h1 h2 => ?_
    have hj1 : j < x.length := by simpa [strValues] using h1
    have hj2 : j < y.length := by simpa [strValues] using h2
    have e1 : (strValues x).toArray[j] = .str x[j].1 x[j].2 := by simp [strValues]
    have e2 : (strValues y).toArray[j] = .str y[j].1 y[j].2 := by simp [strValues]
    rw [e1, e2]
    have : ((x.map (·.1))[j]? == (y.map (·.1))[j]?) = (x[j].1 == y[j].1) := by simp [hj1, hj2]
    rw [this]
    exact EqAt.str_str _ _ _ _
  · have hne : decide (x.map (·.1) = y.map (·.1)) = false := decide_eq_false fun h => hsz (by simpa using congrArg List.length h)
    rw [hne]
    exact RcAt.lists_lengths hl.isList hb.isList (by simpa [strValues] using hsz) hu
theorem EqAt.strs {A : Around} {s : Shared} {l b : Addr} {x y : List (Str × Tok)} (hl : At s.heap l (.list (strValues x))) (hb : At s.heap b (.list (strValues y))) (hu : A.units < cLine) :
    EqAt A s (.ref l) (.ref b) (decide (x.map (·.1) = y.map (·.1))) := by
  by_cases hlb : l = b
  · subst hlb
    obtain ⟨n, h1⟩ := hl.plain
    obtain ⟨n2, h2⟩ := hb.plain
    rw [h1] at h2
    have : strValues x = strValues y := by
      injection h2 with h2
      injection h2 with _ _ h2
      injection h2 with h2
      simpa using h2
    have hxy : x = y := by
      clear h1 h2 hl hb
      induction x generalizing y with
      | nil => cases y with
        | nil => rfl
        | cons _ _ => simp [strValues] at this
      | cons a x ih => cases y with
        | nil => simp [strValues] at this
        | cons b y =>
          simp only [strValues, List.map_cons, List.cons.injEq, Value.str.injEq] at this
          rw [ih this.2, Prod.ext this.1.1 this.1.2]
    subst hxy
    rw [decide_eq_true rfl]
    exact EqAt.same _
  · exact EqAt.of_refs hlb (RcAt.strs hl hb hu)
end Mine

namespace Mine
open PySem PySem.Calls PyProof.Rows PySem.SeqAt PySem.MeetsSeq3
open PySem.AutoSeq1 (wpAny_loadPart')

def LexOk (A : Around) (s : Shared) (fin res : Bool) : List (Value × Value) → Prop
  | [] => res = fin
  | (x, y) :: r => ∃ e, EqAt A s x y e ∧ if e = true then LexOk A s fin res r else RcLt A s x y res

theorem tuple_ltX (l b : Addr) (xs ys : List Value) (n n2 : Nat) (res : Bool) :
    Meets (Builtin.«tuple.__lt__» ⟨[.ref l, .ref b], []⟩)
      (fun A R s => s.heap.get? l = some { cls := .type "tuple", data := .seq xs.toArray n } ∧ s.heap.get? b = some { cls := .type "tuple", data := .seq ys.toArray n2 } ∧
        LexOk A.in1 s (decide (xs.length < ys.length)) res (xs.zip ys) ∧ R (.ok (.ret (.bool res))) s) :=
  .of_wp fun prog w A R s h => by
    obtain ⟨hp, g, d, tk, os⟩ := s; obtain ⟨hl, hb, he, h⟩ := h
    have f2 := AutoSeq1.sub_tuple_tuple
    wp_walk using wpAny_loadPart' hl, wpAny_loadPart' hb, wpAny_forIn_list _ (fun rest b s' => b.1 = none ∧ s' = ⟨hp, g, d, tk, os⟩ ∧ LexOk A.in1 ⟨hp, g, d, tk, os⟩ (decide (xs.length < ys.length)) res rest) _
    case turn =>
      rintro ⟨x, y⟩ rest b s' ⟨hb', rfl, e, hE, hR⟩
      refine wpAny_bind (hE prog w _ _ ?_)
      cases e with
      | true =>
        wp_walk
        exact ⟨rfl, rfl, by simpa using hR⟩
      | false =>
        simp only [Bool.false_eq_true, if_false] at hR
        simp only [Bool.not_false, if_true]
        refine wpAny_bind (wpAny_rule (wpAny_bind (hR prog w _ _ ?_)))
        wp_walk
        exact ⟨_, rfl, h⟩
    case fin =>
      rintro ⟨b1, b2⟩ s' ⟨hb', rfl, hR⟩
      simp only at hb'
      subst hb'
      wp_walk
      refine ⟨_, rfl, ?_⟩
      have hR' : res = decide (xs.length < ys.length) := hR
      rw [hR'] at h
      simpa [Builtin.Tuple.tupleCompareSizes] using h
    case h =>
      exact ⟨rfl, rfl, by simpa using he⟩

theorem RcLt.tups {A : Around} {s : Shared} {l b : Addr} {xs ys : List Value} {res : Bool} (hl : At s.heap l (.tup xs)) (hb : At s.heap b (.tup ys)) (hu : A.units < cLine)
    (he : LexOk A.in1 s (decide (xs.length < ys.length)) res (xs.zip ys)) : RcLt A s (.ref l) (.ref b) res := fun prog w E Q h => by
  obtain ⟨o, hl', n, rfl⟩ := hl
  obtain ⟨o2, hb', n2, rfl⟩ := hb
  exact richCompare_meets_room (op := .Lt) ⟨_, hl', rfl⟩ ⟨_, hb', rfl⟩ F.slot_tuple_lt F.entry_tuple_lt (F.args_tuple_lt_2 _ _) (tuple_ltX l b xs ys n n2 res) ⟨hl', hb', he, show Value.bool _ ≠ Value.notImplemented ∧ _ from ⟨(fun x => nomatch x), h⟩⟩ hu

-- the addresses and the keys
def hostT : List Str := ["g", "h"].map Str.ofString
def hostR (r : Nat) : Str := hostT.getD (r / 40) Str.empty
def pathR (r : Nat) : Str := pathP (r % 40)
def pcsR (r : Nat) : List Str := pcsP (r % 40)

/-- the value is the address of rank r -/
def IsAdr (B : Store) (v : Value) (r : Nat) : Prop := r < 80 ∧ ∃ a t1 t2, v = .ref a ∧ B a = some (.tup [.str (hostR r) t1, .str (pathR r) t2])
/-- the value is the key of code c: rank and place -/
def IsKey (B : Store) (v : Value) (c : Nat) : Prop := c < 1280 ∧ ∃ a b t1 t2 ws, v = .ref a ∧ B a = some (.tup [.str (hostR (c / 16)) t1, .ref b, .int ((c % 16 : Nat) : Int) t2]) ∧ B b = some (.list (strValues ws)) ∧ ws.map (·.1) = pcsR (c / 16)
theorem IsAdr.mono {B B' : Store} {v : Value} {r : Nat} (h : IsAdr B v r) (hb : B.le B') : IsAdr B' v r := by
  obtain ⟨h1, a, t1, t2, e, h2⟩ := h
  exact ⟨h1, a, t1, t2, e, hb _ _ h2⟩
theorem IsKey.mono {B B' : Store} {v : Value} {c : Nat} (h : IsKey B v c) (hb : B.le B') : IsKey B' v c := by
  obtain ⟨h1, a, b, t1, t2, ws, e, h2, h3, h4⟩ := h
  exact ⟨h1, a, b, t1, t2, ws, e, hb _ _ h2, hb _ _ h3, h4⟩

theorem host_lt : ∀ i j : Nat, i < 2 → j < 2 → decide ((hostT.getD i Str.empty).cps.toList < (hostT.getD j Str.empty).cps.toList) = decide (i < j) := by
  intro i j hi hj
  have : i = 0 ∨ i = 1 := by omega
  have : j = 0 ∨ j = 1 := by omega
  rcases ‹i = 0 ∨ i = 1› with rfl | rfl <;> rcases ‹j = 0 ∨ j = 1› with rfl | rfl <;> decide
theorem host_eq : ∀ i j : Nat, i < 2 → j < 2 → (hostT.getD i Str.empty == hostT.getD j Str.empty) = decide (i = j) := by
  intro i j hi hj
  have : i = 0 ∨ i = 1 := by omega
  have : j = 0 ∨ j = 1 := by omega
  rcases ‹i = 0 ∨ i = 1› with rfl | rfl <;> rcases ‹j = 0 ∨ j = 1› with rfl | rfl <;> decide

theorem key_lt {prog : Program} {w : World} (B : Store) (v : Value) (c : Nat) (u : Value) (d : Nat) (hv : IsKey B v c) (hu : IsKey B u d) : LtOk prog w B v u (decide (c < d)) := by
  intro A E s h t Q k hA hB hQ
  obtain ⟨hc, a, b, t1, t2, ws, rfl, ha, hb, hw⟩ := hv
  obtain ⟨hd, a', b', t1', t2', ws', rfl, ha', hb', hw'⟩ := hu
  have hu0 : A.in1.units < cLine := by have := hA.units; show A.units + 1 < _; omega
  have l1 := pcs_lt
  have e1 := pcs_eq
  have q1 := all40_of pcs_lt (p := c / 16 % 40) (q := d / 16 % 40) (by omega) (by omega)
  have q2 := all40_of pcs_eq (p := c / 16 % 40) (q := d / 16 % 40) (by omega) (by omega)
  rw [beq_iff_eq] at q1 q2
  refine RcLt.tups (s := St s h t) (hB _ _ ha) (hB _ _ ha') hA.unit ?_ prog w E Q (hQ t)
  refine ⟨_, EqAt.str_str _ _ _ _, ?_⟩
  have hh := host_eq (c / 16 / 40) (d / 16 / 40) (by omega) (by omega)
  have hl := host_lt (c / 16 / 40) (d / 16 / 40) (by omega) (by omega)
  unfold hostR
  rw [hh]
  by_cases hhe : c / 16 / 40 = d / 16 / 40
  · rw [if_pos (by simpa using hhe)]
    refine ⟨_, EqAt.strs (hB _ _ hb) (hB _ _ hb') hu0, ?_⟩
    rw [hw, hw']
    unfold pcsR
    rw [q2]
    by_cases hp : c / 16 % 40 = d / 16 % 40
    · rw [if_pos (by simpa using hp)]
      refine ⟨_, EqAt.int_int _ _ _ _, ?_⟩
      by_cases hi : c % 16 = d % 16
      · rw [if_pos (by simp [hi])]
        show decide (c < d) = decide ((3 : Nat) < 3)
        rw [decide_eq_decide]; omega
      · rw [if_neg (by simp; omega)]
        have := RcLt.int A.in1 (St s h t) ((c % 16 : Nat) : Int) ((d % 16 : Nat) : Int) t2 t2'
        have he : decide (((c % 16 : Nat) : Int) < ((d % 16 : Nat) : Int)) = decide (c < d) := by rw [decide_eq_decide]; omega
        rw [he] at this; exact this
    · rw [if_neg (by simpa using hp)]
      have := RcLt.strs (A := A.in1) (s := St s h t) (hB _ _ hb) (hB _ _ hb') hu0
      rw [hw, hw'] at this
      unfold pcsR at this
      rw [q1] at this
      have he : decide (c / 16 % 40 < d / 16 % 40) = decide (c < d) := by rw [decide_eq_decide]; omega
      rw [he] at this; exact this
  · rw [if_neg (by simpa using hhe)]
    have := RcLt.str A.in1 (St s h t) (hostT.getD (c / 16 / 40) Str.empty) (hostT.getD (d / 16 / 40) Str.empty) t1 t1'
    rw [hl] at this
    have he : decide (c / 16 / 40 < d / 16 / 40) = decide (c < d) := by rw [decide_eq_decide]; omega
    rw [he] at this; exact this
end Mine

namespace Mine
open PySem PySem.Calls PyProof.Rows PySem.SeqAt PySem.MeetsSeq3

/-- a slice of a text -/
def sliceI (x : Str) (l r : Option Int) : Str :=
  if (Builtin.Str.strSliceIndices l r 1 x.length).length == x.length then x else ⟨((Builtin.Str.strSliceIndices l r 1 x.length).filterMap (x.cps[·]?)).toArray⟩

theorem Fm.more {H : Heap} {e : Entry} {B : Store} {L : Addr} {m : Str → Option Value} {W : List (Addr × Kd)} {h h' : Heap} (F : Fm H e B L m W h) (hn : h'.Ns L m) (hk : ∀ b o, b ≠ L → h.get? b = some o → h'.get? b = some o) : Fm H e B L m W h' := by
  have nd := List.nodup_cons.mp F.apart
  refine ⟨hn, fun b o eo => hk b o (F.apartH eo (.head _)) (F.base b o eo), fun a k ek => (F.sub a k ek).of fun o => hk a o (F.apartB ek (.head _)), fun p hp => (F.own p hp).of fun o => hk p.1 o ?_, F.apart, F.outB, F.outH, fun b o eo hb => hk b o (F.apartK eo hb (.head _)) (F.keep b o eo hb), F.inW, F.new, F.grow, F.fresh⟩
  intro hp'
  exact nd.1 (hp' ▸ List.mem_map_of_mem hp)
/-- a new object, seen behind the fact -/
theorem Fm.more1 {H : Heap} {e : Entry} {B : Store} {L : Addr} {m : Str → Option Value} {W : List (Addr × Kd)} {h h' : Heap} {D : Addr} {k : Kd} (F : Fm H e B L m W h) (hn : h'.Ns L m) (hk : ∀ b o, b ≠ L → h.get? b = some o → h'.get? b = some o) (hf : h.get? D = none) (hD : At h' D k) : Fm H e B L m ((D, k) :: W) h' := by
  have G := F.more hn hk
  have nd := List.nodup_cons.mp F.apart
  have live := F.liveW
  have nW : D ∉ L :: W.map (·.1) := fun hm => by
    obtain ⟨o, ho⟩ := live _ hm
    rw [hf] at ho; cases ho
  have nB : B D = none := by
    cases q : B D with
    | none => rfl
    | some k => obtain ⟨o, ho⟩ := (F.sub _ _ q).free; rw [hf] at ho; cases ho
  have nH : H.get? D = none := by
    cases q : H.get? D with
    | none => rfl
    | some o => rw [F.base _ _ q] at hf; cases hf
  have mem : ∀ a, a ∈ L :: ((D, k) :: W).map (·.1) → a = D ∨ a ∈ L :: W.map (·.1) := fun a ha => by
    simp only [List.map_cons, List.mem_cons] at ha ⊢
    rcases ha with h1 | h1 | h1
    · exact .inr (.inl h1)
    · exact .inl h1
    · exact .inr (.inr h1)
  refine ⟨G.ns, G.base, G.sub, fun p hp => ?_, ?_, fun a ha => ?_, fun a ha => ?_, G.keep, fun a ha => ?_, fun a ha => ?_, G.grow, G.fresh⟩
  · rcases List.mem_cons.mp hp with rfl | hp
    · exact hD
    · exact G.own p hp
  · simp only [List.map_cons]
    refine List.nodup_cons.mpr ⟨fun hm => ?_, List.nodup_cons.mpr ⟨fun hm => nW (.tail _ hm), nd.2⟩⟩
    rcases List.mem_cons.mp hm with h1 | h1
    · exact nW (h1 ▸ .head _)
    · exact nd.1 h1
  · rcases mem a ha with rfl | h1
    · exact nB
    · exact F.outB a h1
  · rcases mem a ha with rfl | h1
    · exact nH
    · exact F.outH a h1
  · exact .tail _ (F.inW a ha)
  · rcases mem a ha with rfl | h1
    · exact .inr (F.oldNone hf)
    · exact F.new a h1

def allBut (L : Addr) (h : Heap) : List (Addr × Obj) := (List.range h.objs.size).filterMap fun b => if b = L then none else (h.get? b).map fun o => (b, o)
theorem mem_allBut {L : Addr} {h : Heap} {b : Addr} {o : Obj} : (b, o) ∈ allBut L h ↔ b ≠ L ∧ h.get? b = some o := by
  unfold allBut
  rw [List.mem_filterMap]
  constructor
  · rintro ⟨c, hc, he⟩
    split at he
    · cases he
    · rename_i hne
      rw [Option.map_eq_some_iff] at he
      obtain ⟨o', ho', he⟩ := he
      cases he
      exact ⟨hne, ho'⟩
  · rintro ⟨h1, h2⟩
    refine ⟨b, List.mem_range.mpr (Heap.lt_size h2), ?_⟩
    rw [if_neg h1, h2]; rfl
def noHeap : Heap := { objs := #[] }
theorem noHeap_get (a : Addr) : noHeap.get? a = none := by
  cases q : noHeap.get? a with
  | none => rfl
  | some o => exact absurd (Heap.lt_size q) (Nat.not_lt_zero _)
theorem Fm.fr {H : Heap} {e : Entry} {B : Store} {L : Addr} {m : Str → Option Value} {W : List (Addr × Kd)} {h : Heap} (F : Fm H e B L m W h) : Fr noHeap L h m := ⟨F.ns, (fun b o eo => nomatch (noHeap_get b).symm.trans eo), Nat.zero_le _⟩
theorem Fm.news {H : Heap} {e : Entry} {B : Store} {L : Addr} {m : Str → Option Value} {W : List (Addr × Kd)} {h : Heap} (F : Fm H e B L m W h) : News noHeap L h (allBut L h) := fun p hp => by
  obtain ⟨h1, h2⟩ := mem_allBut.mp (show (p.1, p.2) ∈ allBut L h from hp)
  exact ⟨h2, h1, noHeap_get _⟩
theorem newsD {L D : Addr} {h h' : Heap} {o : Obj} {m : Str → Option Value} (hL : ∃ o, h.get? L = some o) (N : News noHeap L h' ((D, o) :: allBut L h)) (hlt : ∀ p ∈ allBut L h, p.1 < D) : h.get? D = none := by
  cases q : h.get? D with
  | none => rfl
  | some o' =>
    have hne : D ≠ L := (N (D, o) (.head _)).2.1
    exact absurd (hlt _ (mem_allBut.mpr ⟨hne, q⟩)) (Nat.lt_irrefl _)
theorem newsK {L : Addr} {h h' : Heap} {X : List (Addr × Obj)} (N : News noHeap L h' (X ++ allBut L h)) : ∀ b o, b ≠ L → h.get? b = some o → h'.get? b = some o := fun b o hb eo =>
  (N (b, o) (List.mem_append.mpr (.inr (mem_allBut.mpr ⟨hb, eo⟩)))).1

section
variable {prog : Program} {w : World} {A : Around} {E : Value → Shared → Prop} {s : Shared} {H : Heap} {e : Entry} {B : Store} {L : Addr} {m : Str → Option Value} {W : List (Addr × Kd)} {h : Heap} {t : Nat} {env : Env}
  {Q : Value → Shared → Prop} {QF : Flow → Shared → Prop} {QU : Unit → Shared → Prop} {QB : Bool → Shared → Prop}

theorem r_neg {x : Expr} {p : Pos} (k : wpAny (model prog w) A (eval x env) (fun v s₁ => wpAny (model prog w) A (unaryOp .USub v) Q E s₁) E (St s h t)) : wpAny (model prog w) A (eval (.UnaryOp .USub x p) env) Q E (St s h t) := wpAny_UnaryOp k
theorem o_neg {a : Int} {u : Tok} (k : Q (.int (-a) t) (St s h (t + 1))) : wpAny (model prog w) A (unaryOp .USub (.int a u)) Q E (St s h t) := PyProof.Rows.neg_int k
theorem p_none (k : Q .none (St s h t)) : wpAny (model prog w) A (evalPart none env) Q E (St s h t) := wpAny_pure k
theorem p_some {x : Expr} (k : wpAny (model prog w) A (eval x env) Q E (St s h t)) : wpAny (model prog w) A (evalPart (some x) env) Q E (St s h t) := k

/-- a slice's object, and the item behind it -/
def sliceOb (l r : Value) : Obj := { cls := .type "slice", data := .fields #[l, r, .none] }
theorem r_slice {v : Expr} {lo hi : Option Expr} {p p' : Pos}
    (k : wpAny (model prog w) A (eval v env) (fun o s₁ => wpAny (model prog w) A (evalPart lo env) (fun vl s₂ => wpAny (model prog w) A (evalPart hi env) (fun vu s₃ =>
      wpAny (model prog w) A (subscriptTail v (.Slice lo hi none p) o (.ref s₃.heap.objs.size)) Q E { s₃ with heap := s₃.heap.push (sliceOb vl vu) }) E s₂) E s₁) E (St s h t)) :
    wpAny (model prog w) A (eval (.Subscript v (.Slice lo hi none p) p') env) Q E (St s h t) :=
  Subscript_ (wpAny_mono k (fun o s₁ q => wpAny_Slice (wpAny_mono q (fun vl s₂ q => wpAny_mono q (fun vu s₃ q => wpAny_pure q) fun _ _ q => q) fun _ _ q => q)) fun _ _ q => q)
theorem i_sslice {v : Expr} {lo hi : Option Expr} {p : Pos} {x : Str} {u : Tok} (F : Fm H e B L m W h) (l r : Option (Int × Tok)) (hx : x.length < 2 ^ 20)
    (k : ∀ h' t' tk, Fm H e B L m W h' → Q (.str (sliceI x (l.map (·.1)) (r.map (·.1))) t') (St s h' tk)) :
    wpAny (model prog w) A (subscriptTail v (.Slice lo hi none p) (.str x u) (.ref h.objs.size)) Q E (St s (h.push (sliceOb (partValue l) (partValue r))) t) := by
  have F' := F.grown (h' := h.push (sliceOb (partValue l) (partValue r))) fun b o' eo => Heap.get?_push_of_some _ eo
  refine tail_any (s := St s (h.push (sliceOb (partValue l) (partValue r))) t) (T := "str") (typeIs_str _ x u) PySem.F.slot_str_getitem.lookup (wpAny_getItem_str_slice (l := l) (u := r) (st := none) ⟨_, Heap.get?_push_size _ rfl, rfl, rfl⟩ rfl ?_) rfl
  unfold sliceMade sliceI at *
  simp only [slicePicked, Option.map_none, Option.getD_none, beq_self_eq_true, Bool.true_and] at k ⊢
  by_cases hc : ((Builtin.Str.strSliceIndices (l.map (·.1)) (r.map (·.1)) 1 x.length).length == x.length) = true
  · rw [if_pos hc]
    simp only [hc, if_true] at k
    exact k _ u _ F'
  · rw [if_neg hc]
    simp only [hc, if_false] at k
    refine ⟨?_, k _ _ _ F'⟩
    have hf : ((Builtin.Str.strSliceIndices (l.map (·.1)) (r.map (·.1)) 1 x.length).filterMap (x.cps[·]?)).length ≤ x.length :=
      Nat.le_trans (List.length_filterMap_le _ _) (PyProof.Rows.indices_len_le _ _ _)
    rw [sizeLine_eq]; show ((Builtin.Str.strSliceIndices (l.map (·.1)) (r.map (·.1)) 1 x.length).filterMap (x.cps[·]?)).toArray.size ≤ _
    simp only [List.size_toArray]; omega
/-- a slice of a list: a new list -/
theorem r_lslice {v : Expr} {lo hi : Option Expr} {p p' : Pos}
    (k : wpAny (model prog w) A (eval v env) (fun o s₁ => wpAny (model prog w) A (evalPart lo env) (fun vl s₂ => wpAny (model prog w) A (evalPart hi env) (fun vu s₃ =>
      ∃ h₃ t₃ B' m' W' l xs lo hi, s₃ = St s h₃ t₃ ∧ o = .ref l ∧ Fm H e B' L m' W' h₃ ∧ At h₃ l (.list xs) ∧ xs.length < 2 ^ 20 ∧ IsPart vl lo ∧ IsPart vu hi ∧
        ∀ h' D, h₃.get? D = none → Fm H e B' L m' ((D, .list (slicePick xs.toArray lo hi none).toList) :: W') h' → Q (.ref D) (St s h' t₃)) E s₂) E s₁) E (St s h t))
    (ht : ∀ o r, letTemporaryGo v o r = pure () := by intro _ _; rfl) :
    wpAny (model prog w) A (eval (.Subscript v (.Slice lo hi none p) p') env) Q E (St s h t) := by
  refine wpAny_Subscript_list_slice (wpAny_mono k (fun o s₁ q => wpAny_mono q (fun vl s₂ q => wpAny_mono q (fun vu s₃ q => ?_) fun _ _ q => q) fun _ _ q => q) fun _ _ q => q) ht
  obtain ⟨h₃, t₃, B', m', W', l, xs, lo', hi', rfl, rfl, F, hl, hx, pl, pu, go⟩ := q
  refine ⟨l, xs.toArray, lo', hi', rfl, hl.isList, by rw [sizeLine_eq]; simp; omega, pl, pu, ?_⟩
  have F1 := F.grown (h' := h₃.push { cls := .type "slice", data := .fields #[vl, vu, .none] }) fun b o' eo => Heap.get?_push_of_some _ eo
  have F2 := F1.push (o := { cls := .type "list", data := .seq (slicePick xs.toArray lo' hi' none) }) (k := .list (slicePick xs.toArray lo' hi' none).toList) ⟨0, by simp⟩ rfl
  rw [Heap.size_push] at F2
  refine go _ _ ?_ F2
  cases q : h₃.get? (h₃.objs.size + 1) with
  | none => rfl
  | some o => exact absurd (Heap.lt_size q) (Nat.not_lt.mpr (Nat.le_succ _))

-- texts
theorem i_str {v i : Expr} {x : Str} {u u' : Tok} {k : Int} {c : Nat} (h0 : 0 ≤ k) (hk : k < 2 ^ 62) (hc : x.cps[k.toNat]? = some c) (g : ∀ t', Q (.str ⟨#[c]⟩ t') (St s h (t + 1)))
    (hs : subscripted i false (.str x u) (.int k u') = operate [.str x u, .int k u'] (getItem (.str x u) (.int k u')) := by with_unfolding_all rfl) : wpAny (model prog w) A (subscriptTail v i (.str x u) (.int k u')) Q E (St s h t) := by
  refine tail_any (s := St s h t) (T := "str") (typeIs_str _ x u) F.slot_str_getitem.lookup (PyProof.Rows.getItem_str ?_ ?_ (g _)) hs
  · have h1 : decide (k < -(2 ^ 63 : Int)) = false := decide_eq_false (by omega)
    have h2 : decide (k ≥ (2 ^ 63 : Int)) = false := decide_eq_false (by omega)
    rw [h1, h2]; rfl
  · have hlt : k.toNat < x.length := (Array.getElem?_eq_some_iff.mp hc).1
    have hj : seqIndex? k x.length = some k.toNat := by
      obtain ⟨j, rfl⟩ := Int.eq_ofNat_of_zero_le h0
      unfold seqIndex?
      simp at hlt ⊢
      omega
    rw [hj]; exact hc
theorem o_adds {x y : Str} {u v : Tok} (hx : x.length < 2 ^ 18) (hy : y.length < 2 ^ 18) (k : ∀ t' tk, Q (.str (x ++ y) t') (St s h tk)) : wpAny (model prog w) A (binaryOp .Add (.str x u) (.str y v)) Q E (St s h t) :=
  PyProof.Rows.add_str (fun t' tk => k t' tk) (by rw [sizeLine_eq]; omega)
theorem o_iadds {x y : Str} {u v : Tok} (hx : x.length < 2 ^ 18) (hy : y.length < 2 ^ 18) (k : ∀ t' tk, Q (.str (x ++ y) t') (St s h tk)) : wpAny (model prog w) A (inplaceOp .Add (.str x u) (.str y v)) Q E (St s h t) :=
  PyProof.Rows.iadd_str (fun t' tk => k t' tk) (by rw [sizeLine_eq]; omega)
theorem c_eqs {x y : Str} {u v : Tok} (k : Q (.bool (decide (x = y))) (St s h t)) : wpAny (model prog w) A (compareOp .Eq (.str x u) (.str y v)) Q E (St s h t) := by
  refine PyProof.Rows.eq_str ?_
  have : (x == y) = decide (x = y) := by by_cases hxy : x = y <;> simp [hxy]
  rw [this]; exact k
theorem c_nes {x y : Str} {u v : Tok} (k : Q (.bool (decide (x ≠ y))) (St s h t)) : wpAny (model prog w) A (compareOp .NotEq (.str x u) (.str y v)) Q E (St s h t) := by
  refine PyProof.Rows.ne_str ?_
  have : (x != y) = decide (x ≠ y) := by by_cases hxy : x = y <;> simp [hxy]
  rw [this]; exact k
theorem r_lens {x : Str} {u : Tok} (hx : x.length < 2 ^ 20) (k : Q (.int x.length (t + 1)) (St s h (t + 1 + 1))) : wpAny (model prog w) A (call (.builtin "len") [.str x u] []) Q E (St s h t) :=
  P.len_str (by omega) k
theorem m_starts {o x : Expr} {apos pos : Pos}
    (k : wpAny (model prog w) A (eval o env) (fun ov s₁ => ∃ a u, ov = .str a u ∧ wpAny (model prog w) A (eval x env) (fun v s₂ => ∃ y u', v = .str y u' ∧ Q (.bool (Txt.startswith a y)) s₂) E s₁) E (St s h t))
    (hbase : attributeBase o (Str.ofString "startswith") env (eval o env) = eval o env := by rfl) (hs : starEach [x] env = [(false, eval x env)] := by rfl) (hline : (apos.endLine == pos.line) = true := by rfl) :
    wpAny (model prog w) A (eval (.Call (.Attribute o (Str.ofString "startswith") apos) [x] [] pos) env) Q E (St s h t) := by
  refine PySem.Call_method1 hbase hs hline (wpAny_mono k (fun ov s₁ q => ?_) fun _ _ q => q)
  obtain ⟨a, u, rfl, q⟩ := q
  exact SB.startswith q
theorem m_split {o x : Expr} {apos pos : Pos}
    (k : wpAny (model prog w) A (eval o env) (fun ov s₁ => ∃ a u, ov = .str a u ∧ wpAny (model prog w) A (eval x env) (fun v s₂ => ∃ y u' h₂ t₂ m' B' W', v = .str y u' ∧ s₂ = St s h₂ t₂ ∧ Fm H e B' L m' W' h₂ ∧ (y.length == 0) = false ∧ a.length < 2 ^ 20 ∧
      ∀ h' t' D l, h₂.get? D = none → l.map (·.1) = Txt.split a y → Fm H e B' L m' ((D, .list (strValues l)) :: W') h' → Q (.ref D) (St s h' t')) E s₁) E (St s h t))
    (hbase : attributeBase o (Str.ofString "split") env (eval o env) = eval o env := by rfl) (hs : starEach [x] env = [(false, eval x env)] := by rfl) (hline : (apos.endLine == pos.line) = true := by rfl) :
    wpAny (model prog w) A (eval (.Call (.Attribute o (Str.ofString "split") apos) [x] [] pos) env) Q E (St s h t) := by
  refine PySem.Call_method1 hbase hs hline (wpAny_mono k (fun ov s₁ q => ?_) fun _ _ q => q)
  obtain ⟨a, u, rfl, q⟩ := q
  refine ⟨"str", _, F.plainAttrs_str, F.slot_str_split, F.type_str_split, typeIs_str _ _ _, (fun a ea => nomatch ea), ?_⟩
  refine callWith_builtin rfl (evalArgs_plain (spliced_cons (wpAny_mono q (fun v s₂ q => spliced_nil ?_) fun _ _ q => q)))
  obtain ⟨y, u', h₂, t₂, m', B', W', rfl, rfl, F, hy, ha, go⟩ := q
  refine PySem.W.KSpl.split1 (s := St s h₂ t₂) (y := y) F.fr F.news hy (fun D l h' k e1 _ F' N' hlt => ?_) (by rw [sizeLine_eq]; omega)
  have hD := newsD (m := m') (F.liveW _ (.head _)) N' hlt
  exact go h' k D l hD e1 (F.more1 F'.ns (newsK (X := [_]) N') hD ⟨_, (N' _ (.head _)).1, 0, rfl⟩)

-- displays
theorem r_tuple {elts : List Expr} {k₀ : Nat} {pos : Pos}
    (k : wpAny (model prog w) A (spliced (backTo pos (starEach elts env))) (fun vs s₁ => vs.length < 1000 ∧ Q (.ref s₁.heap.objs.size) { s₁ with heap := s₁.heap.push { cls := .type "tuple", data := .seq vs.toArray } }) E (St s h t)) :
    wpAny (model prog w) A (eval (.Tuple elts k₀ pos) env) Q E (St s h t) :=
  wpAny_Tuple (wpAny_mono k (fun vs s₁ q => ⟨by rw [sizeLine_eq]; omega, q.2⟩) fun _ _ q => q)
theorem r_listd {elts : List Expr} {pos : Pos}
    (k : wpAny (model prog w) A (spliced (backTo pos (starEach elts env))) (fun vs s₁ => vs.length < 1000 ∧ Q (.ref s₁.heap.objs.size) { s₁ with heap := s₁.heap.push { cls := .type "list", data := .seq vs.toArray } }) E (St s h t)) :
    wpAny (model prog w) A (eval (.List elts pos) env) Q E (St s h t) :=
  wpAny_List (wpAny_mono k (fun vs s₁ q => ⟨by rw [sizeLine_eq]; omega, q.2⟩) fun _ _ q => q)
theorem d_nil {pos : Pos} {QV : List Value → Shared → Prop} (k : QV [] (St s h t)) : wpAny (model prog w) A (spliced (backTo pos (starEach [] env))) QV E (St s h t) := wpAny_items_nil k
theorem d_cons {pos : Pos} {x : Expr} {rest : List Expr} {QV : List Value → Shared → Prop}
    (k : wpAny (model prog w) A (eval x env) (fun v s₁ => wpAny (model prog w) A (spliced (backTo pos (starEach rest env))) (fun vs s₂ => QV (v :: vs) s₂) E s₁) E (St s h t))
    (he : starEach (x :: rest) env = (false, eval x env) :: starEach rest env := by rfl) : wpAny (model prog w) A (spliced (backTo pos (starEach (x :: rest) env))) QV E (St s h t) := wpAny_items_cons k he

-- other expressions
theorem r_ifexp {test body orelse : Expr} {pos : Pos} (k : wpAny (model prog w) A (isTrue test env (eval test env)) (fun b s₁ => if b then wpAny (model prog w) A (eval body env) Q E s₁ else wpAny (model prog w) A (eval orelse env) Q E s₁) E (St s h t)) :
    wpAny (model prog w) A (eval (.IfExp test body orelse pos) env) Q E (St s h t) := wpAny_IfExp k
theorem r_and {e₁ e₂ : Expr} {rest : List Expr} {pos : Pos} (k : wpAny (model prog w) A (eval e₁ env) (fun v s₁ => wpAny (model prog w) A (truthy v) (fun c s₂ => if c then wpAny (model prog w) A (eval (.BoolOp .And (e₂ :: rest) pos) env) Q E s₂ else Q v s₂) E s₁) E (St s h t)) :
    wpAny (model prog w) A (eval (.BoolOp .And (e₁ :: e₂ :: rest) pos) env) Q E (St s h t) := BoolOp_and k
theorem s_aug {x : Str} {p' p : Pos} {op : Operator} {v : Expr} {rest : List Stmt}
    (k : wpAny (model prog w) A (loadName env x) (fun old s₁ => wpAny (model prog w) A (eval v env) (fun v s₂ => wpAny (model prog w) A (inplaceOp op old v) (fun r s₃ => wpAny (model prog w) A (storeName env x r) (fun _ s₄ => wpAny (model prog w) A (execs rest env) QF E s₄) E s₃) E s₂) E s₁) E (St s h t)) :
    wpAny (model prog w) A (execs (.AugAssign (.Name x p') op v p :: rest) env) QF E (St s h t) := wpAny_execs_cons (wpAny_AugAssign_Name k)
theorem r_load {x : Str} {v : Value} (F : Fm H e B env.locals m W h) (hv : m x = some v) (k : Q v (St s h t))
    (hk : env.scope.kind = .function := by rfl) (hl : env.kindOf x = some .local := by rfl) : wpAny (model prog w) A (loadName env x) Q E (St s h t) := wpAny_loadName_local hk hl F.ns hv k
theorem c_is {a b : Value} (hp : plainIs a b = true) (k : Q (.bool (a == b)) (St s h t)) : wpAny (model prog w) A (compareOp .Is a b) Q E (St s h t) := wpAny_is_plain hp k
theorem c_ne_nil {l b : Addr} {xs : List Value} (hl : At h l (.list xs)) (hb : At h b (.list [])) (hu : A.units < cLine) (k : Q (.bool (!xs.isEmpty)) (St s h t)) : wpAny (model prog w) A (compareOp .NotEq (.ref l) (.ref b)) Q E (St s h t) := by
  show wpAny (model prog w) A (richCompare .NotEq (.ref l) (.ref b)) Q E (St s h t)
  cases xs with
  | nil => exact RcNeAt.lists (s := St s h t) (e := fun _ => true) hl.isList hb.isList rfl hu (fun j h1 h2 => absurd h1 (Nat.not_lt_zero _)) prog w E Q k
  | cons x r => exact RcNeAt.lists_lengths (s := St s h t) hl.isList hb.isList (by simp) hu prog w E Q k
/-- list(xs) -/
theorem b_list {l : Addr} {xs : List Value} (F : Fm H e B L m W h) (hl : At h l (.list xs)) (hx : xs.length < 2 ^ 20) (k : ∀ h' D, h.get? D = none → Fm H e B L m ((D, .list xs) :: W) h' → Q (.ref D) (St s h' t)) :
    wpAny (model prog w) A (call (.type "list") [.ref l] []) Q E (St s h t) := by
  obtain ⟨n, hn⟩ := hl.plain
  refine call_list_seq (s := St s h t) l (.inl rfl) hn rfl rfl (fun h' c' hk hD => ?_) (by rw [sizeLine_eq]; simp; omega)
  have hf : h.get? h.objs.size = none := by
    cases q : h.get? h.objs.size with
    | none => rfl
    | some o => exact absurd (Heap.lt_size q) (Nat.lt_irrefl _)
  exact k h' _ hf (F.more1 (F.grown hk).ns (fun b o _ eo => hk b o eo) hf ⟨_, hD, c', rfl⟩)
/-- xs + ys -/
theorem o_addl {l b : Addr} {xs ys : List Value} (F : Fm H e B L m W h) (hl : At h l (.list xs)) (hb : At h b (.list ys)) (hx : xs.length + ys.length < 2 ^ 20) (k : ∀ h' D, h.get? D = none → Fm H e B L m ((D, .list (xs ++ ys)) :: W) h' → Q (.ref D) (St s h' t)) :
    wpAny (model prog w) A (binaryOp .Add (.ref l) (.ref b)) Q E (St s h t) := by
  obtain ⟨n, hn⟩ := hl.plain
  obtain ⟨n2, hn2⟩ := hb.plain
  refine P.add_list (s := St s h t) hn hn2 ?_ (by rw [sizeLine_eq]; simp; omega)
  have hf : h.get? h.objs.size = none := by
    cases q : h.get? h.objs.size with
    | none => rfl
    | some o => exact absurd (Heap.lt_size q) (Nat.lt_irrefl _)
  exact k _ _ hf (F.push ⟨0, by simp⟩ rfl)
/-- range(n) -/
theorem b_range {n : Nat} {u : Tok} (F : Fm H e B L m W h) (k : ∀ h' D t₀ u₀ v₀, IsRange h' D 0 n 1 t₀ u₀ v₀ → Fm H e B L m W h' → Q (.ref D) (St s h' (t + 1 + 1))) :
    wpAny (model prog w) A (call (.type "range") [.int n u] []) Q E (St s h t) := by
  refine call_range_1 (s := St s h t) (k _ _ t u (t + 1) (Heap.get?_push_size _ rfl) (F.grown fun b o eo => Heap.get?_push_of_some _ eo))
end
end Mine

namespace Mine
open PySem PySem.Calls PyProof.Rows PySem.SeqAt PySem.MeetsSeq3

def dig (x : Int) (k : Int) : Nat := ((x.fdiv k).fmod 4).toNat
def adrOf (x : Int) : Nat := (x.fmod 2).toNat * 40 + idxP (dig x 2) (dig x 8) (dig x 32)
theorem dig_lt (x k : Int) : dig x k < 4 := by
  unfold dig
  have := Int.fmod_lt_of_pos (x.fdiv k) (by decide : (0:Int) < 4)
  have h2 := Int.fmod_nonneg_of_pos (x.fdiv k) (by decide : (0:Int) < 4)
  omega
theorem dig_eq (x k : Int) : (x.fdiv k).fmod 4 = ((dig x k : Nat) : Int) := by
  unfold dig
  have h2 := Int.fmod_nonneg_of_pos (x.fdiv k) (by decide : (0:Int) < 4)
  omega
theorem mark_len : ((List.range 4).all fun a => decide ((markP a).length < 8)) = true := by decide +kernel
theorem idx_facts {a b c : Nat} (ha : a < 4) (hb : b < 4) (hc : c < 4) : idxP a b c < 40 ∧ markP a ++ markP b ++ markP c = pathP (idxP a b c) := by
  have q := idx_all
  have q1 := List.all_eq_true.mp q a (List.mem_range.mpr ha)
  have q2 := List.all_eq_true.mp q1 b (List.mem_range.mpr hb)
  have q3 := List.all_eq_true.mp q2 c (List.mem_range.mpr hc)
  rw [Bool.and_eq_true, decide_eq_true_eq, decide_eq_true_eq] at q3
  exact q3
theorem mark_lt {a : Nat} (ha : a < 4) : (markP a).length < 8 := by
  have q1 := List.all_eq_true.mp mark_len a (List.mem_range.mpr ha)
  exact of_decide_eq_true q1

section
variable {prog : Program} {w : World} {A : Around} {s : Shared} {H : Heap} {P : Pg} {B : Store} {h : Heap} {t : Nat}
set_option maxHeartbeats 2000000
theorem mark_get {a : Nat} (ha : a < 4) {t1 t2 t3 t4 : Tok} : ∃ u, ([.str (Str.ofString "") t1, .str (Str.ofString "/") t2, .str (Str.ofString "/a") t3, .str (Str.ofString "/a!") t4] : List Value)[a]? = some (.str (markP a) u) := by
  have : a = 0 ∨ a = 1 ∨ a = 2 ∨ a = 3 := by omega
  rcases this with rfl | rfl | rfl | rfl
  · exact ⟨t1, rfl⟩
  · exact ⟨t2, rfl⟩
  · exact ⟨t3, rfl⟩
  · exact ⟨t4, rfl⟩
theorem address_ok {R : Result → Shared → Prop} {k : Nat} {x : Int} {u : Tok} (hP : PgOk H P) (hA : Rm A (k + 1)) (pre : Pre H B [] h)
    (go : ∀ h' t' B' v, Back B [] h h' B' → IsAdr B' v (adrOf x) → R (.ok (.ret v)) (St s h' t')) :
    codeAny (model prog w) A (.call (.ref (P.fa 10)) ⟨[.int x u], []⟩) R (St s h t) := by
  refine enterD 10 [(Str.ofString "x", .int x u)] hP hA pre (by decide) rfl rfl (by decide) rfl rfl rfl (fun env h' t' he F hA' => ?_)
  subst he
  refine s_assign (r_listd (d_cons (r_str (d_cons (r_str (d_cons (r_str (d_cons (r_str (d_nil ⟨by simp, ?_⟩))))))))))
  have F1 := F.push (o := { cls := .type "list", data := .seq [.str (Str.ofString "") t', .str (Str.ofString "/") (t' + 1), .str (Str.ofString "/a") (t' + 1 + 1), .str (Str.ofString "/a!") (t' + 1 + 1 + 1)].toArray }) (k := .list [.str (Str.ofString "") t', .str (Str.ofString "/") (t' + 1), .str (Str.ofString "/a") (t' + 1 + 1), .str (Str.ofString "/a!") (t' + 1 + 1 + 1)]) ⟨0, rfl⟩ rfl
  refine r_store F1 fun h2 F2 => ?_
  have hd0 := dig_lt x 2
  have hd1 := dig_lt x 8
  have hd2 := dig_lt x 32
  obtain ⟨hi, hm⟩ := idx_facts hd0 hd1 hd2
  have l0 := mark_lt hd0
  have l1 := mark_lt hd1
  have l2 := mark_lt hd2
  obtain ⟨u0, g0⟩ := mark_get hd0 (t1 := t') (t2 := t' + 1) (t3 := t' + 1 + 1) (t4 := t' + 1 + 1 + 1)
  obtain ⟨u1, g1⟩ := mark_get hd1 (t1 := t') (t2 := t' + 1) (t3 := t' + 1 + 1) (t4 := t' + 1 + 1 + 1)
  obtain ⟨u2, g2⟩ := mark_get hd2 (t1 := t') (t2 := t' + 1) (t3 := t' + 1 + 1) (t4 := t' + 1 + 1 + 1)
  have hp : 0 ≤ x.fmod 2 ∧ x.fmod 2 < 2 := ⟨Int.fmod_nonneg_of_pos x (by decide), Int.fmod_lt_of_pos x (by decide)⟩
  have hhost : ∃ c, (Str.ofString "gh").cps[(x.fmod 2).toNat]? = some c ∧ (⟨#[c]⟩ : Str) = hostT.getD (x.fmod 2).toNat Str.empty := by
    have : (x.fmod 2).toNat = 0 ∨ (x.fmod 2).toNat = 1 := by omega
    rcases this with e | e <;> rw [e]
    · exact ⟨103, by decide, by decide⟩
    · exact ⟨104, by decide, by decide⟩
  obtain ⟨c, hc, hhost⟩ := hhost
  refine s_ret (r_tuple (d_cons (r_sub (r_str (r_bin (r_name F2 rfl (r_int (r_mod (by decide) (i_str hp.1 (by omega) hc fun th => d_cons (r_bin (r_bin ?_)))))))))))
  refine r_sub (r_name F2 rfl (r_bin (r_bin (r_name F2 rfl (r_int (r_div (by decide) (PyProof.noPylong_of_log2 (by decide +kernel)) (r_int (r_mod (by decide) ?_))))))))
  rw [dig_eq x 2]
  refine i_list (F2.at0 (i := 0) rfl) (by omega) (by omega) (by rw [Int.toNat_natCast]; exact g0) ?_
  refine r_sub (r_name F2 rfl (r_bin (r_bin (r_name F2 rfl (r_int (r_div (by decide) (PyProof.noPylong_of_log2 (by decide +kernel)) (r_int (r_mod (by decide) ?_))))))))
  rw [dig_eq x 8]
  refine i_list (F2.at0 (i := 0) rfl) (by omega) (by omega) (by rw [Int.toNat_natCast]; exact g1) ?_
  refine o_adds (by omega) (by omega) fun ta tka => ?_
  refine r_sub (r_name F2 rfl (r_bin (r_bin (r_name F2 rfl (r_int (r_div (by decide) (PyProof.noPylong_of_log2 (by decide +kernel)) (r_int (r_mod (by decide) ?_))))))))
  rw [dig_eq x 32]
  refine i_list (F2.at0 (i := 0) rfl) (by omega) (by omega) (by rw [Int.toNat_natCast]; exact g2) ?_
  have l01 : (markP (dig x 2) ++ markP (dig x 8)).length < 2 ^ 18 := by
    have : (markP (dig x 2) ++ markP (dig x 8)).length = (markP (dig x 2)).length + (markP (dig x 8)).length := PySem.Str.length_append _ _
    omega
  refine o_adds l01 (by omega) fun tb tkb => d_nil ⟨by simp, ?_⟩
  rw [hm]
  have F3 := F2.pushB (o := { cls := .type "tuple", data := .seq [.str ⟨#[c]⟩ th, .str (pathP (idxP (dig x 2) (dig x 8) (dig x 32))) tb].toArray }) (k := .tup [.str ⟨#[c]⟩ th, .str (pathP (idxP (dig x 2) (dig x 8) (dig x 32))) tb]) ⟨0, rfl⟩ rfl
  refine go _ _ _ _ F3.leave ⟨by unfold adrOf; omega, _, th, tb, rfl, ?_⟩
  rw [Store.add_at]
  have e1 : adrOf x / 40 = (x.fmod 2).toNat := by unfold adrOf; omega
  have e2 : adrOf x % 40 = idxP (dig x 2) (dig x 8) (dig x 32) := by unfold adrOf; omega
  unfold hostR pathR
  rw [e1, e2, hhost]
end
end Mine

namespace Mine
open PySem PySem.Calls PyProof.Rows PySem.SeqAt PySem.MeetsSeq3

/-- the values stand for the data, one by one -/
def AllR {α : Type} (R : Value → α → Prop) (vs : List Value) (xs : List α) : Prop := vs.length = xs.length ∧ ∀ (i : Nat) (v : Value) (x : α), vs[i]? = some v → xs[i]? = some x → R v x
theorem AllR.mono {α : Type} {R R' : Value → α → Prop} {vs : List Value} {xs : List α} (h : AllR R vs xs) (hr : ∀ v x, R v x → R' v x) : AllR R' vs xs := ⟨h.1, fun i v x h1 h2 => hr v x (h.2 i v x h1 h2)⟩
theorem AllR.nil {α : Type} {R : Value → α → Prop} : AllR R [] [] := ⟨rfl, fun i v x h1 h2 => by simp at h1⟩
theorem AllR.snoc {α : Type} {R : Value → α → Prop} {vs : List Value} {xs : List α} {v : Value} {x : α} (h : AllR R vs xs) (hr : R v x) : AllR R (vs ++ [v]) (xs ++ [x]) := by
  refine ⟨by simp [h.1], fun i u y h1 h2 => ?_⟩
  by_cases hi : i < vs.length
  · rw [List.getElem?_append_left hi] at h1
    rw [List.getElem?_append_left (h.1 ▸ hi)] at h2
    exact h.2 i u y h1 h2
  · have hi' : i = vs.length := by
      have := (List.getElem?_eq_some_iff.mp h1).1
      simp at this; omega
    subst hi'
    rw [List.getElem?_append_right (Nat.le_refl _)] at h1
    rw [h.1, List.getElem?_append_right (Nat.le_refl _)] at h2
    simp at h1 h2
    rw [← h1, ← h2]; exact hr
theorem AllR.get {α : Type} {R : Value → α → Prop} {vs : List Value} {xs : List α} (h : AllR R vs xs) {i : Nat} {x : α} (hx : xs[i]? = some x) : ∃ v, vs[i]? = some v ∧ R v x := by
  have hlt : i < vs.length := h.1 ▸ (List.getElem?_eq_some_iff.mp hx).1
  exact ⟨vs[i], List.getElem?_eq_getElem hlt, h.2 i _ x (List.getElem?_eq_getElem hlt) hx⟩
theorem AllR.cons {α : Type} {R : Value → α → Prop} {vs : List Value} {xs : List α} {v : Value} {x : α} (h : AllR R vs xs) (hr : R v x) : AllR R (v :: vs) (x :: xs) := by
  refine ⟨by simp [h.1], fun i u y h1 h2 => ?_⟩
  cases i with
  | zero => cases h1; cases h2; exact hr
  | succ i => exact h.2 i u y (by simpa using h1) (by simpa using h2)
theorem AllR.pairs {R : Value → Nat → Prop} {vs : List Value} {xs : List Nat} (h : AllR R vs xs) : ∃ ps : List (Value × Nat), ps.map (·.1) = vs ∧ ps.map (·.2) = xs ∧ ∀ p ∈ ps, R p.1 p.2 := by
  refine ⟨vs.zip xs, ?_, ?_, ?_⟩
  · exact List.map_fst_zip (Nat.le_of_eq h.1)
  · exact List.map_snd_zip (Nat.le_of_eq h.1.symm)
  · rintro ⟨v, x⟩ hp
    obtain ⟨i, hi⟩ := List.mem_iff_getElem?.mp hp
    rw [List.getElem?_zip_eq_some] at hi
    exact h.2 i v x hi.1 hi.2
theorem AllR.of_pairs {R : Value → Nat → Prop} {ps : List (Value × Nat)} (h : ∀ p ∈ ps, R p.1 p.2) : AllR R (ps.map (·.1)) (ps.map (·.2)) := by
  refine ⟨by simp, fun i v x h1 h2 => ?_⟩
  rw [List.getElem?_map, Option.map_eq_some_iff] at h1 h2
  obtain ⟨p, hp, rfl⟩ := h1
  obtain ⟨q, hq, rfl⟩ := h2
  rw [hp] at hq; cases hq
  exact h p (List.mem_of_getElem? hp)

/-- the list of the addresses -/
def IsAdrs (B : Store) (v : Value) (as : List Nat) : Prop := as.length < 16 ∧ ∃ a vs, v = .ref a ∧ B a = some (.list vs) ∧ AllR (IsAdr B) vs as
def IsKeys (B : Store) (v : Value) (cs : List Nat) : Prop := ∃ a vs, v = .ref a ∧ B a = some (.list vs) ∧ AllR (IsKey B) vs cs
theorem IsAdrs.mono {B B' : Store} {v : Value} {as : List Nat} (h : IsAdrs B v as) (hb : B.le B') : IsAdrs B' v as := by
  obtain ⟨h1, a, vs, e, h2, h3⟩ := h
  exact ⟨h1, a, vs, e, hb _ _ h2, h3.mono fun v x q => q.mono hb⟩
def keyCodes (as : List Nat) : List Nat := as.mapIdx fun i a => a * 16 + i
theorem keyCodes_len (as : List Nat) : (keyCodes as).length = as.length := by simp [keyCodes]
theorem keyCodes_get {as : List Nat} {i a : Nat} (h : as[i]? = some a) : (keyCodes as)[i]? = some (a * 16 + i) := by simp [keyCodes, h]

theorem path_len : ((List.range 40).all fun p => decide ((pathP p).length < 16)) = true := by decide +kernel
theorem path_lt {r : Nat} : (pathR r).length < 16 := of_decide_eq_true (List.all_eq_true.mp path_len (r % 40) (List.mem_range.mpr (Nat.mod_lt _ (by decide))))
theorem split_path (r : Nat) : Txt.split (pathR r) slash = pcsR r := of_decide_eq_true (List.all_eq_true.mp split_all (r % 40) (List.mem_range.mpr (Nat.mod_lt _ (by decide))))

section
variable {prog : Program} {w : World} {A : Around} {s : Shared} {H : Heap} {P : Pg} {B : Store} {h : Heap} {t : Nat}
set_option maxHeartbeats 2000000
theorem keys_ok {R : Result → Shared → Prop} {k : Nat} {v : Value} {as : List Nat} (hP : PgOk H P) (hA : Rm A (k + 1)) (pre : Pre H B [] h) (hv : IsAdrs B v as)
    (go : ∀ h' t' B' v, Back B [] h h' B' → IsKeys B' v (keyCodes as) → R (.ok (.ret v)) (St s h' t')) :
    codeAny (model prog w) A (.call (.ref (P.fa 11)) ⟨[v], []⟩) R (St s h t) := by
  obtain ⟨hn, la, avs, rfl, hla, hal⟩ := hv
  refine enterD 11 [(Str.ofString "addresses", .ref la)] hP hA pre (by decide) rfl rfl (by decide) rfl rfl rfl (fun env h' t' he F0 hA' => ?_)
  subst he
  have F : Fm H ⟨h, [], B⟩ B (callEnvC (fdOf 11 (P.pm 11) (P.cd 11) (P.doc 11)) h.objs.size (P.fa 11)).locals _ [(h.objs.size + 1, .cell (some (.ref la)))] h' := F0
  refine s_ret (r_comp [(Str.ofString "addresses", h.objs.size + 1)] (r_tcall F hP.g (hP.bi _ (by decide)) hP.b hP.range (args_1 (r_bcall F hP.g (hP.bi _ (by decide)) hP.b hP.len (args_1 (r_cname F 0 rfl (r_len (F.sub _ _ hla) (by rw [hal.1]; omega) ?_)))))))
  rw [hal.1]
  refine b_range F fun h1 rg t₀ u₀ v₀ hr F1 => ?_
  refine g_comp (H := H) (e := ⟨h, [], B⟩) F1 (over_range hA'.handled hr (by omega)) (by omega) (fun _ _ _ => trivial)
    (fun i B' ys => AllR (IsKey B') ys ((keyCodes as).take i)) (by simpa using AllR.nil) (fun i B' ys q => by rw [q.1]; simp; omega) ?_ ?_
  · rintro i v B' ys m' h2 t2 C I o D hi ⟨tk, rfl⟩ hG F2 hm
    obtain ⟨a, ha⟩ : ∃ a, as[i]? = some a := ⟨_, List.getElem?_eq_getElem hi⟩
    obtain ⟨v, hvi, hav⟩ := hal.get ha
    obtain ⟨hlt, aa, t1, t2', rfl, hst⟩ := hav
    have hla2 := F2.sub _ _ (F2.grow _ _ hla)
    have hst2 := F2.sub _ _ (F2.grow _ _ hst)
    refine no_tests ?_
    rw [if_pos rfl]
    refine r_tuple (d_cons (r_sub (r_sub (r_cname F2 2 rfl (r_name F2 hm (i_list hla2 (by omega) (by omega) (by rw [Int.toNat_natCast]; exact hvi) (r_int (i_tup hst2 (by decide) (by decide) rfl ?_))))))))
    refine d_cons (m_split (H := H) (e := ⟨h1, [h.objs.size + 1], B⟩) (r_sub (r_sub (r_cname F2 2 rfl (r_name F2 hm (i_list hla2 (by omega) (by omega) (by rw [Int.toNat_natCast]; exact hvi) (r_int (i_tup hst2 (by decide) (by decide) rfl ⟨_, _, rfl, r_str ⟨_, _, _, _, _, _, _, rfl, rfl, F2, by decide, Nat.lt_trans path_lt (by decide), fun h3 t3 Dp l hDp hl F3 => ?_⟩⟩))))))))
    have F4 := F3.freeze (fun hm' => by
      obtain ⟨o', ho'⟩ := F2.liveW _ (.tail _ (F2.inW _ hm'))
      rw [hDp] at ho'; cases ho')
    refine d_cons (r_name F4 hm (d_nil ⟨by simp, ?_⟩))
    have F5 := F4.pushB (o := { cls := .type "tuple", data := .seq [.str (hostR a) t1, .ref Dp, .int (i : Nat) tk].toArray }) (k := .tup [.str (hostR a) t1, .ref Dp, .int (i : Nat) tk]) ⟨0, rfl⟩ rfl
    refine ⟨_, _, _, rfl, F5, ?_⟩
    have hle1 : B'.le (B'.add Dp (.list (strValues l))) := Store.le_add (F3.outB _ (.tail _ (.head _)))
    have hle2 := Store.le_add (k := .tup [.str (hostR a) t1, .ref Dp, .int (i : Nat) tk]) F4.size_none.2.1
    have hle := hle1.trans hle2
    have hcode : (keyCodes as).take (i + 1) = (keyCodes as).take i ++ [a * 16 + i] := by
      rw [List.take_add_one, keyCodes_get ha]; rfl
    rw [hcode]
    refine (hG.mono fun v x q => q.mono hle).snoc ⟨by omega, _, Dp, t1, tk, l, rfl, ?_, hle2 _ _ (Store.add_at ..), ?_⟩
    · rw [Store.add_at]
      have e1 : (a * 16 + i) / 16 = a := by omega
      have e2 : (a * 16 + i) % 16 = i := by omega
      rw [e1, e2]
    · have e1 : (a * 16 + i) / 16 = a := by omega
      rw [hl, e1]; exact split_path a
  · rintro B' ys h2 t2 D hG hD F2
    have F3 := F2.freeze (by simp)
    have hle : B'.le (B'.add D (.list ys)) := Store.le_add (F2.outB _ (.tail _ (.head _)))
    have ht : (keyCodes as).take as.length = keyCodes as := by rw [← keyCodes_len, List.take_length]
    rw [ht] at hG
    exact go _ _ _ _ F3.leave ⟨D, ys, rfl, Store.add_at .., hG.mono fun v x q => q.mono hle⟩
end
end Mine

namespace Mine
open PySem PySem.Calls PyProof.Rows PySem.SeqAt PySem.MeetsSeq3 PySem.W

theorem ifT {c : Prop} [Decidable c] {a b : Prop} (hc : c) (ha : a) : if c then a else b := by rw [if_pos hc]; exact ha
theorem ifF {c : Prop} [Decidable c] {a b : Prop} (hc : ¬ c) (ha : b) : if c then a else b := by rw [if_neg hc]; exact ha

-- plain facts of the forty paths
def prefP (p : Nat) : Str := if decide (sliceI (pathP p) (some (-1)) none ≠ slash) then pathP p ++ slash else pathP p
theorem starts_all : all40 (fun p q => Txt.startswith (pathP q) (prefP p) == decide (p < q ∧ q ≤ endP p) || decide (p = q)) = true := by decide +kernel
theorem end_all : ((List.range 40).all fun p => decide (p ≤ endP p) && decide (endP p < 40)) = true := by decide +kernel
theorem nest_all : all40 (fun p q => !(decide (p < q ∧ q ≤ endP p)) || (decide (endP q ≤ endP p) && decide ((pathP p).length < (pathP q).length))) = true := by decide +kernel
def innerP (p : Nat) : List Str := if decide (sliceI (pathP p) (some (-1)) none = slash) then (pcsP p).take ((pcsP p).length - 1) else pcsP p
theorem above_all : all40 (fun p q => (decide ((pcsP q).take (innerP p).length = innerP p) && decide ((innerP p).length < (pcsP q).length)) == decide (p < q ∧ q ≤ endP p) || decide (p = q)) = true := by decide +kernel

/-- the last rank under a rank -/
def endR (r : Nat) : Nat := r / 40 * 40 + endP (r % 40)
theorem endR_le (r : Nat) : r ≤ endR r ∧ endR r < r / 40 * 40 + 40 := by
  have q := List.all_eq_true.mp end_all (r % 40) (List.mem_range.mpr (Nat.mod_lt _ (by decide)))
  rw [Bool.and_eq_true, decide_eq_true_eq, decide_eq_true_eq] at q
  unfold endR
  omega
/-- the one lies over the other, or is it -/
def over (r q : Nat) : Bool := decide (r ≤ q ∧ q ≤ endR r)
theorem over_same {r q : Nat} (h : r = q) : over r q = true := by
  have := endR_le r
  unfold over
  rw [decide_eq_true_eq]; omega
theorem over_host {r q : Nat} (h : r / 40 ≠ q / 40) : over r q = false := by
  have := endR_le r
  unfold over
  rw [decide_eq_false_iff_not]; omega
theorem over_path {r q : Nat} (h : r / 40 = q / 40) (hne : r ≠ q) : over r q = decide (r % 40 < q % 40 ∧ q % 40 ≤ endP (r % 40)) := by
  have := endR_le r
  unfold over endR at *
  rw [decide_eq_decide]; omega
theorem starts_eq {r q : Nat} (h : r / 40 = q / 40) (hne : r ≠ q) : Txt.startswith (pathR q) (prefP (r % 40)) = over r q := by
  have s := all40_of starts_all (p := r % 40) (q := q % 40) (Nat.mod_lt _ (by decide)) (Nat.mod_lt _ (by decide))
  rw [over_path h hne]
  have hn : ¬ r % 40 = q % 40 := by omega
  rw [Bool.or_eq_true, beq_iff_eq, decide_eq_true_eq] at s
  exact s.resolve_right hn
theorem above_eq {r q : Nat} (h : r / 40 = q / 40) (hne : r ≠ q) : (decide ((pcsR q).take (innerP (r % 40)).length = innerP (r % 40)) && decide ((innerP (r % 40)).length < (pcsR q).length)) = over r q := by
  have s := all40_of above_all (p := r % 40) (q := q % 40) (Nat.mod_lt _ (by decide)) (Nat.mod_lt _ (by decide))
  rw [over_path h hne]
  have hn : ¬ r % 40 = q % 40 := by omega
  rw [Bool.or_eq_true, beq_iff_eq, decide_eq_true_eq] at s
  exact s.resolve_right hn
theorem over_nest {r q : Nat} (h : over r q = true) (hne : r ≠ q) : endR q ≤ endR r ∧ (pathR r).length < (pathR q).length := by
  have e1 := endR_le r
  have e2 := endR_le q
  unfold over at h
  rw [decide_eq_true_eq] at h
  have s := all40_of nest_all (p := r % 40) (q := q % 40) (Nat.mod_lt _ (by decide)) (Nat.mod_lt _ (by decide))
  have hh : r / 40 = q / 40 := by omega
  have hc : r % 40 < q % 40 ∧ q % 40 ≤ endP (r % 40) := by unfold endR at h; omega
  rw [decide_eq_true hc, Bool.not_true, Bool.false_or, Bool.and_eq_true, decide_eq_true_eq, decide_eq_true_eq] at s
  unfold endR pathR
  exact ⟨by omega, s.2⟩

def mstmt (i : Nat) : Stmt := match stmtAt 8 with | .ClassDef _ _ _ b .. => b.getD i (.Pass default) | _ => .Pass default
def clsName : Str := match stmtAt 8 with | .ClassDef n .. => n | _ => Str.empty
def fdM (i : Nat) (q : Str) (pm cd doc : Value) : FuncData := { docDef (nameOf (mstmt i)) (argsOf (mstmt i)) (bodyOf (mstmt i)) (scopeOf (mstmt i)) pm cd doc with qualname := q }

/-- the class of the text, as the heap holds it -/
structure ClsOk (H : Heap) (P : Pg) (K : Frag) (C : Addr) (fI fS : Addr) : Prop where
  X : K.In H
  glob : P.mg clsName = some (.ref C)
  mks : makesIn K C = true
  init : findIn K (.ref C) "__init__" = some (some (.ref fI))
  tI : typeIn K (.ref fI) = some (.type "function")
  set : findIn K (.ref C) "__setattr__" = some (some (.builtin "object.__setattr__"))
  ovr : plainOver K C = true
  tak : takerIn K C (Str.ofString "passwd") = some none
  hasD : (clsIn K C).any (·.hasDict) = true
  ga : findIn K (.ref C) "__getattribute__" = some (some (.builtin "object.__getattribute__"))
  gt : findIn K (.ref C) "__getattr__" = some none
  su : findIn K (.ref C) (Str.ofString "is_suburi") = some (some (.ref fS))
  tS : typeIn K (.ref fS) = some (.type "function")
  kp : keepIn K (.ref C) = true
  foI : ∃ o q pm cd doc, H.get? fI = some o ∧ o.data = .func (fdM 0 q pm cd doc) ∧ H.CodeRec cd q
  foS : ∃ o q pm cd doc, H.get? fS = some o ∧ o.data = .func (fdM 4 q pm cd doc) ∧ H.CodeRec cd q

section
variable {prog : Program} {w : World} {A : Around} {E : Value → Shared → Prop} {s : Shared} {H : Heap} {P : Pg} {B : Store} {W : List (Addr × Kd)} {h : Heap} {t : Nat} {Q : Value → Shared → Prop}
set_option maxHeartbeats 2000000
/-- a method of the text is entered -/
theorem enterM {R : Result → Shared → Prop} {k : Nat} {a : Addr} {q : Str} {pm cd doc : Value} {o : Obj} (i : Nat) (binds : List (Str × Value)) {vals : List Value}
    (hP : PgOk H P) (hA : Rm A k) (pre : Pre H B W h) (ho : H.get? a = some o) (hd : o.data = .func (fdM i q pm cd doc)) (hcr : H.CodeRec cd q)
    (hbind : bindArgs (fdM i q pm cd doc) ⟨vals, []⟩ = pure binds)
    (hkind : (binds.all fun y => (scopeOf (mstmt i)).names.lookup y.1 == some .local || (scopeOf (mstmt i)).names.lookup y.1 == some .cell) = true)
    (hnd : ((cellsFrom 0 (scopeOf (mstmt i)).names []).map (·.1)).Nodup)
    (hco : (scopeOf (mstmt i)).isCoroutine = false) (hgen : (scopeOf (mstmt i)).isGenerator = false) (hk : (scopeOf (mstmt i)).kind = .function)
    (go : ∀ env h' t', env = callEnvC (fdM i q pm cd doc) h.objs.size a → Fm H ⟨h, W.map (·.1), B⟩ B env.locals (bindL env.kindOf binds fun _ => none) (cellW env.cells (bindC env.kindOf binds fun _ => none) ++ W) h' →
      Rm (A.deeper env) (k - 1) → wpAny (model prog w) (A.deeper env) (execs (bodyOf (mstmt i)) env) (fun f s' => R (.ok (.ret (match f with | .ret v => v | _ => .none))) s') NoE (St s h' t'))
    (hk1 : 1 ≤ k := by omega) :
    codeAny (model prog w) A (.call (.ref a) ⟨vals, []⟩) R (St s h t) := by
  refine enter hA pre ho hd hP.lim hcr rfl hbind rfl (PySem.W.kindsX hkind _) ?_ (fun h' t' F => go _ h' t' rfl F ?_) hco hgen hk
  · show (List.map (fun x => x.1) (cellsFrom (h.objs.size + 1) (scopeOf (mstmt i)).names [])).Nodup
    rw [cellsFrom_fst _ _ 0 [] [] rfl]; exact hnd
  · obtain ⟨j, rfl⟩ : ∃ j, k = j + 1 := ⟨k - 1, by omega⟩
    exact hA.deeper _

theorem adr_eqE {A : Around} {v u : Value} {r q : Nat} (hB : ∀ a k, B a = some k → At s.heap a k) (hv : IsAdr B v r) (hu : IsAdr B u q) (hc : A.units < cLine) : RcAt A s v u (decide (r = q)) := by
  obtain ⟨hr, a, t1, t2, rfl, ha⟩ := hv
  obtain ⟨hq, b, u1, u2, rfl, hb⟩ := hu
  have h1 := host_eq (r / 40) (q / 40) (by omega) (by omega)
  have h2 := all40_of path_eq (p := r % 40) (q := q % 40) (Nat.mod_lt _ (by decide)) (Nat.mod_lt _ (by decide))
  rw [beq_iff_eq] at h2
  have key := RcAt.tuples (A := A) (s := s) (e := fun j => if j = 0 then hostR r == hostR q else pathR r == pathR q) (hB _ _ ha).isTuple (hB _ _ hb).isTuple hc (fun j g1 g2 => by
    have : j = 0 ∨ j = 1 := by simp at g1; omega
    rcases this with rfl | rfl
    · exact EqAt.str_str _ _ _ _
    · exact EqAt.str_str _ _ _ _)
  have e : ((List.range (min [Value.str (hostR r) t1, Value.str (pathR r) t2].toArray.size [Value.str (hostR q) u1, Value.str (pathR q) u2].toArray.size)).all (fun j => if j = 0 then hostR r == hostR q else pathR r == pathR q) &&
      [Value.str (hostR r) t1, Value.str (pathR r) t2].toArray.size == [Value.str (hostR q) u1, Value.str (pathR q) u2].toArray.size) = decide (r = q) := by
    show ((if 0 = 0 then hostR r == hostR q else pathR r == pathR q) && ((if 1 = 0 then hostR r == hostR q else pathR r == pathR q) && true) && true) = _
    have h2' : (pathR r == pathR q) = decide (r % 40 = q % 40) := by
      rw [← h2]; unfold pathR
      by_cases hx : pathP (r % 40) = pathP (q % 40) <;> simp [hx]
    rw [if_pos rfl, if_neg (by decide), h2']
    unfold hostR
    rw [h1]
    by_cases g1 : r / 40 = q / 40 <;> by_cases g2 : r % 40 = q % 40 <;> simp [g1, g2] <;> omega
  rw [e] at key
  exact key
theorem c_eqA {v u : Value} {r q : Nat} (hB : ∀ a k, B a = some k → At h a k) (hv : IsAdr B v r) (hu : IsAdr B u q) (hc : A.units < cLine) (k : Q (.bool (decide (r = q))) (St s h t)) : wpAny (model prog w) A (compareOp .Eq v u) Q E (St s h t) :=
  adr_eqE (s := St s h t) hB hv hu hc prog w E Q k

theorem suburi_ok {R : Result → Shared → Prop} {k : Nat} {K : Frag} {C fI fS : Addr} {v u self : Value} {r q : Nat} (hP : PgOk H P) (hC : ClsOk H P K C fI fS) (hA : Rm A (k + 1)) (pre : Pre H B [] h) (hv : IsAdr B v r) (hu : IsAdr B u q)
    (go : ∀ h' t', Back B [] h h' B → R (.ok (.ret (.bool (over r q)))) (St s h' t')) :
    codeAny (model prog w) A (.call (.ref fS) ⟨[self, v, u], []⟩) R (St s h t) := by
  obtain ⟨o, qn, pm, cd, doc, ho, hd, hcr⟩ := hC.foS
  refine enterM 4 [(Str.ofString "self", self), (Str.ofString "base", v), (Str.ofString "test", u)] hP hA pre ho hd hcr rfl rfl (by decide) rfl rfl rfl (fun env h' t' he F hA' => ?_)
  subst he
  have hv' := hv
  have hu' := hu
  obtain ⟨hr, a, t1, t2, rfl, ha⟩ := hv'
  obtain ⟨hq, b, u1, u2, rfl, hb⟩ := hu'
  refine s_if (t_cmp (r_name F rfl (r_name F rfl (c_eqA F.sub hv hu hA'.unit (t_bool ?_)))))
  by_cases heq : r = q
  · rw [if_pos (by simpa using heq)]
    refine s_ret (r_bool (Then.ret ?_))
    rw [← over_same heq]; exact go _ _ F.leave
  · rw [if_neg (by simpa using heq)]
    refine s_nil (Then.next (s_if (t_cmp (r_sub (r_name F rfl (r_int (i_tup (F.sub _ _ ha) (by decide) (by decide) rfl (r_sub (r_name F rfl (r_int (i_tup (F.sub _ _ hb) (by decide) (by decide) rfl (c_nes (t_bool ?_)))))))))))))
    have hh := host_eq (r / 40) (q / 40) (by omega) (by omega)
    by_cases hhe : r / 40 = q / 40
    · have hhost : hostR r = hostR q := by unfold hostR; rw [hhe]
      rw [if_neg (by simpa using hhost)]
      refine s_nil (Then.next (s_assign (r_sub (r_name F rfl (r_int (i_tup (F.sub _ _ ha) (by decide) (by decide) rfl (r_store F fun h1 F1 => ?_)))))))
      have fin : ∀ {h2 : Heap} {t2' : Nat} {m2 : Str → Option Value} {tp : Tok}, Fm H ⟨h, [], B⟩ B (callEnvC (fdM 4 qn pm cd doc) h.objs.size fS).locals m2 [] h2 → m2 (Str.ofString "prefix") = some (.str (prefP (r % 40)) tp) → m2 (Str.ofString "test") = some (.ref b) →
          wpAny (model prog w) (A.deeper (callEnvC (fdM 4 qn pm cd doc) h.objs.size fS)) (execs ((bodyOf (mstmt 4)).drop 4) (callEnvC (fdM 4 qn pm cd doc) h.objs.size fS)) (fun f s' => R (.ok (.ret (match f with | .ret v => v | _ => .none))) s') NoE (St s h2 t2') := by
        intro h2 t2' m2 tp F2 e1 e2
        refine s_ret (m_starts (r_sub (r_name F2 e2 (r_int (i_tup (F2.sub _ _ hb) (by decide) (by decide) rfl ⟨_, _, rfl, r_name F2 e1 ⟨_, _, rfl, ?_⟩⟩)))))
        rw [starts_eq hhe heq]
        exact go _ _ F2.leave
      refine s_if (t_cmp (r_slice (r_name F1 rfl (p_some (r_neg (r_int (o_neg (p_none (i_sslice F1 (some (-1, _)) none (Nat.lt_trans path_lt (by decide)) fun h3 t3 tk3 F3 => r_str (c_nes (t_bool ?_)))))))))))
      by_cases hs : sliceI (pathR r) (some (-1)) none ≠ slash
      · refine ifT (decide_eq_true hs) ?_
        refine s_aug (r_load F3 rfl (r_str (o_iadds (Nat.lt_trans path_lt (by decide)) (by decide) fun t4 tk4 => r_store F3 fun h5 F5 => s_nil (Then.next (fin F5 (tp := t4) ?_ rfl)))))
        unfold prefP
        exact congrArg (fun x => some (Value.str x _)) (if_pos (decide_eq_true hs)).symm
      · refine ifF (fun hc => hs (of_decide_eq_true hc)) ?_
        refine s_nil (Then.next (fin F3 (tp := t2) ?_ rfl))
        unfold prefP
        exact congrArg (fun x => some (Value.str x _)) (if_neg (fun hc => hs (of_decide_eq_true hc))).symm
    · have hhost : hostR r ≠ hostR q := by
        have hc := hh
        unfold hostR
        intro hc'
        rw [hc'] at hc
        simp [hhe] at hc
      rw [if_pos (by simpa using hhost)]
      refine s_ret (r_bool (Then.ret ?_))
      rw [← over_host hhe]; exact go _ _ F.leave
end
end Mine

namespace Mine
open PySem PySem.Calls PyProof.Rows PySem.SeqAt PySem.MeetsSeq3 PySem.W

theorem Fm.moreC {H : Heap} {e : Entry} {B : Store} {L : Addr} {m : Str → Option Value} {W : List (Addr × Kd)} {h h' : Heap} {a : Addr} {k k' : Kd} (F : Fm H e B L m ((a, k) :: W) h) (hn : h'.Ns L m) (hk : ∀ b o, b ≠ L → b ≠ a → h.get? b = some o → h'.get? b = some o) (hk' : At h' a k') : Fm H e B L m ((a, k') :: W) h' := by
  have nd := List.nodup_cons.mp F.apart
  have nd2 : a ∉ W.map (·.1) ∧ (W.map (·.1)).Nodup := List.nodup_cons.mp nd.2
  have haW : a ∈ L :: ((a, k) :: W).map (·.1) := .tail _ (.head _)
  have hL : L ∈ L :: ((a, k) :: W).map (·.1) := .head _
  refine ⟨hn, fun b o eo => hk b o (F.apartH eo hL) (F.apartH eo haW) (F.base b o eo), fun x kx ek => (F.sub x kx ek).of fun o => hk x o (F.apartB ek hL) (F.apartB ek haW), fun p hp => ?_, F.apart, F.outB, F.outH, fun x o eo hx => hk x o (F.apartK eo hx hL) (F.apartK eo hx haW) (F.keep x o eo hx), F.inW, F.new, F.grow, F.fresh⟩
  rcases List.mem_cons.mp hp with rfl | hp
  · exact hk'
  · refine (F.own p (.tail _ hp)).of fun o => hk p.1 o ?_ ?_
    · intro hpa; exact nd.1 (hpa ▸ .tail _ (List.mem_map_of_mem (f := (·.1)) hp))
    · intro hpa; exact nd2.1 (hpa ▸ List.mem_map_of_mem (f := (·.1)) hp)

/-- the keeper: an object of the class, that shows nothing of its own under the method's name -/
def IsKeeper (B : Store) (C : Addr) (v : Value) : Prop := ∃ x dx od, v = .ref x ∧ B x = some (.obj (instObj C dx)) ∧ B dx = some (.obj od) ∧ shadowIn (some od) (Str.ofString "is_suburi") = some false
theorem IsKeeper.mono {B B' : Store} {C : Addr} {v : Value} (h : IsKeeper B C v) (hb : B.le B') : IsKeeper B' C v := by
  obtain ⟨x, dx, od, e, h1, h2, h3⟩ := h
  exact ⟨x, dx, od, e, hb _ _ h1, hb _ _ h2, h3⟩
theorem At.get {h : Heap} {a : Addr} {o : Obj} (x : At h a (.obj o)) : h.get? a = some o := by
  obtain ⟨o', ho, rfl⟩ := x
  exact ho
def askS (b : Bool) : Str := if b then Str.ofString "yes" else Str.ofString "no"

section
variable {prog : Program} {w : World} {A : Around} {E : Value → Shared → Prop} {s : Shared} {H : Heap} {P : Pg} {e : Entry} {B : Store} {L : Addr} {m : Str → Option Value} {W : List (Addr × Kd)} {h : Heap} {t : Nat} {env : Env} {Q : Value → Shared → Prop} {K : Frag} {C fI fS : Addr}
set_option maxHeartbeats 2000000

/-- a method of the text's own class is called -/
theorem m_user {o : Expr} {name : Str} {apos pos : Pos} {args : List Expr}
    (k : wpAny (model prog w) A (eval o env) (fun ov s₁ => ∃ x ox od f fo fd, ov = .ref x ∧ K.In s₁.heap ∧ InstAt s₁.heap x ox C od ∧ shadowIn od name = some false ∧ findIn K (.ref C) "__getattribute__" = some (some (.builtin "object.__getattribute__")) ∧ findIn K (.ref C) "__getattr__" = some none ∧
      findIn K (.ref C) name = some (some (.ref f)) ∧ typeIn K (.ref f) = some (.type "function") ∧
      wpAny (model prog w) A (evalArgs (.ref f) true (backTo pos (starEach args env)) []) (fun a s₂ => (s₂.heap.get? f = some fo ∧ fo.data = .func fd) ∧ wpAny (model prog w) A (call (.ref f) ([.ref x] ++ a.pos) a.kw) Q E s₂) E s₁) E (St s h t))
    (hbase : attributeBase o name env (eval o env) = eval o env := by rfl)
    (hfew : ((backTo pos (starEach args env)).all (fun x => !x.1) && (backToKw pos (keywordEach [] env)).all (fun x => x.1.isSome)
      && decide (args.length + ([] : List Keyword).length + (if ([] : List Keyword).isEmpty then 0 else 1) < 30)) = true := by rfl)
    (hline : (apos.endLine == pos.line) = true := by rfl) :
    wpAny (model prog w) A (eval (.Call (.Attribute o name apos) args [] pos) env) Q E (St s h t) := by
  rw [arm_eval_Call, hbase]
  refine wpAny_bind (wpAny_mono k (fun ov s₁ q => ?_) fun _ _ e => e)
  obtain ⟨x, ox, od, f, fo, fd, rfl, X, I, hs, hga, hgt, hf, ht, hc⟩ := q
  refine wpAny_bind (wpAny_standAt ?_)
  have hform : methodCallForm (args.length + ([] : List Keyword).length) (backTo pos (starEach args env)) (backToKw pos (keywordEach [] env)) = true := hfew
  have hpos : methodCallPos true o env apos pos = pure pos := by unfold methodCallPos; simp [hline]
  unfold methodCall
  rw [hform]
  refine wpAny_bind (wpAny_holding (method_fn X I hga hgt hf ht hs ?_))
  exact wpAny_bind (wpAny_of_eq hpos (callWith_function (first := [.ref x]) hc))

theorem asked_ok {R : Result → Shared → Prop} {k : Nat} {v u kp : Value} {r q : Nat} (hP : PgOk H P) (hC : ClsOk H P K C fI fS) (hA : Rm A (k + 2)) (pre : Pre H B [] h) (hkp : IsKeeper B C kp) (hv : IsAdr B v r) (hu : IsAdr B u q)
    (go : ∀ h' t' tk, Back B [] h h' B → R (.ok (.ret (.str (askS (over r q)) tk))) (St s h' t')) :
    codeAny (model prog w) A (.call (.ref (P.fa 12)) ⟨[kp, v, u], []⟩) R (St s h t) := by
  obtain ⟨x, dx, od, rfl, hx, hdx, hsh⟩ := hkp
  refine enterD 12 [(Str.ofString "keeper", .ref x), (Str.ofString "base", v), (Str.ofString "test", u)] hP hA pre (by decide) rfl rfl (by decide) rfl rfl rfl (fun env h' t' he F hA' => ?_)
  subst he
  obtain ⟨oS, qn, pm, cd, doc, hoS, hdS, hcr⟩ := hC.foS
  refine s_assign (m_user (K := K) (C := C) (r_name F rfl ⟨x, instObj C dx, some od, fS, oS, fdM 4 qn pm cd doc, rfl, hC.X.keeps F.base, ⟨(F.sub _ _ hx).get, rfl, rfl, (F.sub _ _ hdx).get⟩, hsh, hC.ga, hC.gt, hC.su, hC.tS,
    args_2 (r_name F rfl (r_name F rfl ⟨⟨F.base _ _ hoS, hdS⟩, r_body (suburi_ok (k := k) hP hC hA' F.pre0 hv hu fun h1 t1 b1 => ?_)⟩))⟩))
  have F1 := F.back b1
  refine r_store F1 fun h2 F2 => ?_
  refine s_if (t_cmp (r_name F2 rfl (r_bool (c_is rfl (t_bool ?_)))))
  have hT : ∀ b : Bool, (Value.bool b == Value.bool true) = b := by decide
  have hF : ∀ b : Bool, (Value.bool b == Value.bool false) = !b := by decide
  rw [hT]
  cases hov : over r q with
  | true =>
    rw [hov] at go
    exact ifT rfl (s_ret (r_str (Then.ret (go _ _ _ F2.leave))))
  | false =>
    rw [hov] at F2 go
    refine ifF (by decide) (s_nil (Then.next (s_if (t_cmp (r_name F2 rfl (r_bool (c_is rfl (t_bool ?_))))))))
    rw [hF]
    exact ifT rfl (s_ret (r_str (Then.ret (go _ _ _ F2.leave))))

/-- what the keeper's own dict holds behind its making -/
def keptDict (w : World) (D : Value) (tk : Tok) : Obj := dictOf (putL (Str.ofString "passwd") (PyData.keyHash w.params (Str.ofString "passwd")) (.str (Str.ofString "passwd") tk) D []) (putN (Str.ofString "passwd") [] 0)
theorem keptDict_shadow (w : World) (D : Value) (tk : Tok) : shadowIn (some (keptDict w D tk)) (Str.ofString "is_suburi") = some false := by
  rfl

theorem init_ok {R : Result → Shared → Prop} {k : Nat} {x dx : Addr} (hP : PgOk H P) (hC : ClsOk H P K C fI fS) (hA : Rm A (k + 1)) (pre : Pre H B [(dx, .obj (dictOf [] 0))] h) (hx : B x = some (.obj (instObj C dx)))
    (go : ∀ h' t' D tk, Back B [dx] h h' B → At h' dx (.obj (keptDict w D tk)) → R (.ok (.ret .none)) (St s h' t')) :
    codeAny (model prog w) A (.call (.ref fI) ⟨[.ref x], []⟩) R (St s h t) := by
  obtain ⟨oI, qn, pm, cd, doc, hoI, hdI, hcr⟩ := hC.foI
  refine enterM 0 [(Str.ofString "self", .ref x)] hP hA pre hoI hdI hcr rfl rfl (by decide) rfl rfl rfl (fun env h' t' he F0 hA' => ?_)
  subst he
  have F : Fm H ⟨h, [dx], B⟩ B (callEnvC (fdM 0 qn pm cd doc) h.objs.size fI).locals (bindL (callEnvC (fdM 0 qn pm cd doc) h.objs.size fI).kindOf [(Str.ofString "self", .ref x)] fun _ => none) [(dx, .obj (dictOf [] 0))] h' := F0
  refine wpAny_execs_cons (plainObj_wpAny_Assign_Attribute (wpAny_Dict_empty ?_) rfl)
  have F1 := F.grown (h' := h'.push { cls := .type "dict", data := .dict #[] }) fun b o eo => Heap.get?_push_of_some _ eo
  refine r_name F1 rfl ?_
  have I : InstAt (h'.push { cls := .type "dict", data := .dict #[] }) x (instObj C dx) C (some (dictOf [] 0)) := ⟨(F1.sub _ _ hx).get, rfl, rfl, (F1.at0 (i := 0) rfl).get⟩
  have hdg := (F1.at0 (i := 0) rfl).get
  have hdL : dx ≠ (callEnvC (fdM 0 qn pm cd doc) h.objs.size fI).locals := fun hh => (List.nodup_cons.mp F1.apart).1 (hh ▸ .head _)
  refine set_plain (s := St s _ _) (hC.X.keeps F1.base) I hC.set ?_
  generalize hgh : h'.push { cls := .type "dict", data := .dict #[] } = h2 at *
  have N : News noHeap (callEnvC (fdM 0 qn pm cd doc) h.objs.size fI).locals h2 ([] ++ (dx, dictOf [] 0) :: (allBut (callEnvC (fdM 0 qn pm cd doc) h.objs.size fI).locals h2).filter fun p => p.1 ≠ dx) := fun p hp => by
    rcases List.mem_cons.mp hp with rfl | hp
    · exact ⟨hdg, hdL, noHeap_get _⟩
    · exact F1.news p (List.mem_filter.mp hp).1
  refine osa_dict (s := St s h2 _) F1.fr N (hC.X.keeps F1.base) I rfl hC.ovr hC.tak hC.hasD rfl (fun p hp => (nomatch hp)) (fun p hp => by simpa using (List.mem_filter.mp hp).2) (by rw [putName_dict]) rfl (Nat.le_of_ble_eq_true rfl) fun h3 F3 N3 => ?_
  have F4 := F1.moreC (k' := .obj (keptDict w (.ref h'.objs.size) (t' + 1))) F3.ns (fun b o hb hd eo => (N3 (b, o) (List.mem_cons_of_mem _ (List.mem_filter.mpr ⟨mem_allBut.mpr ⟨hb, eo⟩, by simpa using hd⟩))).1) ⟨_, (N3 _ (.head _)).1, rfl⟩
  refine s_nil (s := s) (go _ _ _ _ F4.leave (F4.at0 (i := 0) rfl))

/-- the keeper is made -/
theorem make_ok {R : Result → Shared → Prop} {k : Nat} (F : Fm H e B L m W h) (hP : PgOk H P) (hC : ClsOk H P K C fI fS) (hA : Rm A (k + 2))
    (go : ∀ h' t' B' v, B.le B' → Fm H e B' L m W h' → IsKeeper B' C v → R (.ok (.ret v)) (St s h' t')) :
    codeAny (model prog w) A (.call (.ref C) ⟨[], []⟩) R (St s h t) := by
  have X := hC.X.keeps F.base
  refine make_core (makes_of X hC.mks) (looks_findIn X hC.init) (fun self => bind_fn X self hC.tI) (.inl rfl) ?_
  have F1 := F.push (o := emptyDict) (k := .obj emptyDict) rfl rfl
  have F2 := F1.push (o := instObj C h.objs.size) (k := .obj (instObj C h.objs.size)) rfl rfl
  have hsz : (h.push emptyDict).objs.size = h.objs.size + 1 := Heap.size_push ..
  rw [hsz] at F2
  have n1 : h.objs.size ∉ e.S := fun hm => F.size_none.2.2.2 (.tail _ (F.inW _ hm))
  have n2 : h.objs.size + 1 ∉ e.S := fun hm => by
    have := F1.size_none.2.2.2
    rw [hsz] at this
    exact this (.tail _ (F1.inW _ hm))
  have F3 := F2.freeze n2
  have hA1 : Rm (A.under (.builtin "type.__call__" ⟨[.ref C], []⟩)) (k + 1) := by
    have hw : Code.weight (.builtin "type.__call__" ⟨[.ref C], []⟩) ≤ 1 := Nat.le_of_ble_eq_true (by kernel_rfl)
    have hc : Code.cUnits (.builtin "type.__call__" ⟨[.ref C], []⟩) ≤ 50 := Nat.le_of_ble_eq_true (by kernel_rfl)
    refine ⟨?_, ?_, hA.handled⟩
    · have := hA.depth
      show A.depth + Code.weight (.builtin "type.__call__" ⟨[.ref C], []⟩) + (k + 1) < _
      omega
    · have := hA.units
      show A.units + Code.cUnits (.builtin "type.__call__" ⟨[.ref C], []⟩) + 100 * (k + 1) + 200 < _
      omega
  refine init_ok (k := k) hP hC hA1 (x := h.objs.size + 1) (dx := h.objs.size) F3.pre1 (Store.add_at ..) fun h' t' D tk b a => ?_
  have F4 := (F3.back1 b a).freeze n1
  have nb1 : B (h.objs.size + 1) = none := F2.outB _ (.tail _ (.head _))
  have nb2 : B.add (h.objs.size + 1) (.obj (instObj C h.objs.size)) h.objs.size = none := F3.outB _ (.tail _ (.head _))
  refine ⟨rfl, go _ _ _ _ ((Store.le_add nb1).trans (Store.le_add nb2)) F4 ⟨_, _, _, rfl, Store.le_add nb2 _ _ (Store.add_at ..), Store.add_at .., keptDict_shadow _ _ _⟩⟩
end
end Mine

namespace Mine
open PySem PySem.Calls PyProof.Rows PySem.SeqAt PySem.MeetsSeq3 PySem.W

theorem strValues_take (l : List (Str × Tok)) (n : Nat) : (strValues l).take n = strValues (l.take n) := by simp [strValues, List.map_take]
theorem strValues_len (l : List (Str × Tok)) : (strValues l).length = l.length := by simp [strValues]
theorem pcs_len : ((List.range 40).all fun p => decide ((pcsP p).length < 16)) = true := by decide +kernel
theorem pcs_ltN (r : Nat) : (pcsR r).length < 16 := of_decide_eq_true (List.all_eq_true.mp pcs_len (r % 40) (List.mem_range.mpr (Nat.mod_lt _ (by decide))))

section
variable {prog : Program} {w : World} {A : Around} {E : Value → Shared → Prop} {s : Shared} {H : Heap} {P : Pg} {e : Entry} {B : Store} {L : Addr} {m : Str → Option Value} {W : List (Addr × Kd)} {h : Heap} {t : Nat} {env : Env} {Q : Value → Shared → Prop} {K : Frag} {C fI fS : Addr}
set_option maxHeartbeats 2000000

theorem above_ok {R : Result → Shared → Prop} {k : Nat} {v u : Value} {r q : Nat} (hP : PgOk H P) (hA : Rm A (k + 1)) (pre : Pre H B [] h) (hv : IsAdr B v r) (hu : IsAdr B u q) (hne : r ≠ q)
    (go : ∀ h' t', Back B [] h h' B → R (.ok (.ret (.bool (over r q)))) (St s h' t')) :
    codeAny (model prog w) A (.call (.ref (P.fa 14)) ⟨[v, u], []⟩) R (St s h t) := by
  obtain ⟨hr, a, t1, t2, rfl, ha⟩ := hv
  obtain ⟨hq, b, u1, u2, rfl, hb⟩ := hu
  refine enterD 14 [(Str.ofString "base", .ref a), (Str.ofString "test", .ref b)] hP hA pre (by decide) rfl rfl (by decide) rfl rfl rfl (fun env h' t' he F0 hA' => ?_)
  subst he
  have F : Fm H ⟨h, [], B⟩ B (callEnvC (fdOf 14 (P.pm 14) (P.cd 14) (P.doc 14)) h.objs.size (P.fa 14)).locals (bindL (callEnvC (fdOf 14 (P.pm 14) (P.cd 14) (P.doc 14)) h.objs.size (P.fa 14)).kindOf [(Str.ofString "base", .ref a), (Str.ofString "test", .ref b)] fun _ => none) [] h' := F0
  have fin : ∀ {h2 : Heap} {t2' : Nat} {m2 : Str → Option Value} {W2 : List (Addr × Kd)} {D1 : Addr} {l1 : List (Str × Tok)}, Fm H ⟨h, [], B⟩ B (callEnvC (fdOf 14 (P.pm 14) (P.cd 14) (P.doc 14)) h.objs.size (P.fa 14)).locals m2 W2 h2 →
      m2 (Str.ofString "base") = some (.ref a) → m2 (Str.ofString "test") = some (.ref b) → m2 (Str.ofString "inner") = some (.ref D1) → W2[0]? = some (D1, .list (strValues l1)) → l1.map (·.1) = innerP (r % 40) → l1.length < 16 →
      wpAny (model prog w) (A.deeper (callEnvC (fdOf 14 (P.pm 14) (P.cd 14) (P.doc 14)) h.objs.size (P.fa 14))) (execs ((bodyOf (stmtAt 14)).drop 2) (callEnvC (fdOf 14 (P.pm 14) (P.cd 14) (P.doc 14)) h.objs.size (P.fa 14))) (fun f s' => R (.ok (.ret (match f with | .ret v => v | _ => .none))) s') NoE (St s h2 t2') := by
    intro h2 t2' m2 W2 D1 l1 F2 e1 e2 e3 hW hl1 hl1n
    refine s_assign (m_split (H := H) (e := ⟨h, [], B⟩) (r_sub (r_name F2 e2 (r_int (i_tup (F2.sub _ _ hb) (by decide) (by decide) rfl ⟨_, _, rfl, r_str ⟨_, _, _, _, _, _, _, rfl, rfl, F2, by decide, Nat.lt_trans path_lt (by decide), fun h3 t3 D2 l2 hD2 hl2 F3 => r_store F3 fun h4 F4 => ?_⟩⟩)))))
    have hl2' : l2.map (·.1) = pcsR q := hl2.trans (split_path q)
    have hl2n : l2.length < 16 := by have := congrArg List.length hl2'; have := pcs_ltN q; simp at *; omega
    refine s_ret (r_and (r_cmp (r_sub (r_name F4 e1 (r_int (i_tup (F4.sub _ _ ha) (by decide) (by decide) rfl (r_sub (r_name F4 e2 (r_int (i_tup (F4.sub _ _ hb) (by decide) (by decide) rfl (c_eqs (t_bool ?_))))))))))))
    have hh := host_eq (r / 40) (q / 40) (by omega) (by omega)
    by_cases hhe : r / 40 = q / 40
    · have hhost : hostR r = hostR q := by unfold hostR; rw [hhe]
      refine ifT (decide_eq_true hhost) ?_
      refine r_and (r_cmp (r_lslice (H := H) (e := ⟨h, [], B⟩) (r_name F4 rfl (p_none (p_some (r_bcall F4 hP.g (hP.bi _ (by decide)) hP.b hP.len (args_1 (r_name F4 e3 (r_len (F4.at0 (i := 1) hW) (by rw [strValues_len]; omega)
        ⟨_, _, _, _, _, _, _, none, some (((strValues l1).length : Nat) : Int), rfl, rfl, F4, F4.at0 (i := 0) rfl, by rw [strValues_len]; omega, .none, .int _ _, fun h5 D3 hD3 F5 => ?_⟩)))))))))
      have hsl : (slicePick (strValues l2).toArray none (some (((strValues l1).length : Nat) : Int)) none).toList = strValues (l2.take l1.length) := by
        rw [slicePick_upto', strValues_len]; simp [strValues_take]
      rw [hsl] at F5
      refine r_name F5 e3 ?_
      have hW5 : ((D3, Kd.list (strValues (l2.take l1.length))) :: (D2, Kd.list (strValues l2)) :: W2)[2]? = some (D1, .list (strValues l1)) := hW
      have hcmp : decide ((l2.take l1.length).map (·.1) = l1.map (·.1)) = decide ((pcsR q).take (innerP (r % 40)).length = innerP (r % 40)) := by
        rw [List.map_take, hl2', hl1, ← hl1, List.length_map]
      refine RcAt.strs (s := St s h5 _) (F5.at0 (i := 0) rfl) (F5.at0 (i := 2) hW5) hA'.unit prog w _ _ (t_bool (s := s) ?_)
      have hov := above_eq hhe hne
      rw [hcmp]
      by_cases hd : (pcsR q).take (innerP (r % 40)).length = innerP (r % 40)
      · refine ifT (decide_eq_true hd) ?_
        refine r_cmp (r_bcall F5 hP.g (hP.bi _ (by decide)) hP.b hP.len (args_1 (r_name F5 rfl (r_len (F5.at0 (i := 1) rfl) (by rw [strValues_len]; omega) (r_bcall F5 hP.g (hP.bi _ (by decide)) hP.b hP.len (args_1 (r_name F5 e3 (r_len (F5.at0 (i := 2) hW5) (by rw [strValues_len]; omega) (r_gt ?_)))))))))
        have : decide ((((strValues l1).length : Nat) : Int) < (((strValues l2).length : Nat) : Int)) = over r q := by
          rw [← hov, decide_eq_true hd, Bool.true_and, strValues_len, strValues_len]
          have h1 : (innerP (r % 40)).length = l1.length := by rw [← hl1, List.length_map]
          have h2 : (pcsR q).length = l2.length := by rw [← hl2', List.length_map]
          rw [h1, h2, decide_eq_decide]; omega
        rw [this]
        exact go _ _ F5.leave
      · refine ifF (by rw [decide_eq_false hd]; decide) ?_
        rw [decide_eq_false hd, Bool.false_and] at hov
        rw [decide_eq_false hd]
        rw [hov]
        exact go _ _ F5.leave
    · have hhost : hostR r ≠ hostR q := by
        have hc := hh
        unfold hostR
        intro hc'
        rw [hc'] at hc
        simp [hhe] at hc
      refine ifF (by rw [decide_eq_false hhost]; decide) ?_
      rw [decide_eq_false hhost, ← over_host hhe]
      exact go _ _ F4.leave
  refine s_assign (m_split (H := H) (e := ⟨h, [], B⟩) (r_sub (r_name F rfl (r_int (i_tup (F.sub _ _ ha) (by decide) (by decide) rfl ⟨_, _, rfl, r_str ⟨_, _, _, _, _, _, _, rfl, rfl, F, by decide, Nat.lt_trans path_lt (by decide), fun h3 t3 D1 l1 hD1 hl1 F3 => r_store F3 fun h4 F4 => ?_⟩⟩)))))
  have hl1' : l1.map (·.1) = pcsR r := hl1.trans (split_path r)
  have hl1n : l1.length < 16 := by have := congrArg List.length hl1'; have := pcs_ltN r; simp at *; omega
  refine s_if (t_cmp (r_slice (r_sub (r_name F4 rfl (r_int (i_tup (F4.sub _ _ ha) (by decide) (by decide) rfl (p_some (r_neg (r_int (o_neg (p_none (i_sslice F4 (some (-1, _)) none (Nat.lt_trans path_lt (by decide)) fun h5 t5 tk5 F5 => r_str (c_eqs (t_bool ?_))))))))))))))
  by_cases hs : sliceI (pathR r) (some (-1)) none = slash
  · refine ifT (decide_eq_true hs) ?_
    refine s_assign (r_lslice (H := H) (e := ⟨h, [], B⟩) (r_name F5 rfl (p_none (p_some (r_neg (r_int (o_neg ⟨_, _, _, _, _, _, _, none, some (-((1 : Nat) : Int)), rfl, rfl, F5, F5.at0 (i := 0) rfl, by rw [strValues_len]; omega, .none, .int _ _, fun h6 D2 hD2 F6 => r_store F6 fun h7 F7 => s_nil (Then.next ?_)⟩)))))))
    have hsl : (slicePick (strValues l1).toArray none (some (-((1 : Nat) : Int))) none).toList = strValues (l1.take (l1.length - 1)) := by
      rw [slicePick_butLast _ 1 (by decide)]; simp [strValues_take, strValues_len]
    rw [hsl] at F7
    refine fin F7 rfl rfl rfl rfl ?_ (by simp; omega)
    have : innerP (r % 40) = (pcsR r).take ((pcsR r).length - 1) := if_pos (decide_eq_true hs)
    rw [this, ← hl1', List.map_take, List.length_map]
  · refine ifF (fun hc => hs (of_decide_eq_true hc)) (s_nil (Then.next ?_))
    refine fin F5 rfl rfl rfl rfl ?_ hl1n
    have : innerP (r % 40) = pcsR r := if_neg (fun hc => hs (of_decide_eq_true hc))
    rw [this, hl1']
end
end Mine

namespace Mine
open PySem PySem.Calls PyProof.Rows PySem.W

/-- every question is in range, and the answers by the order lead to the aim -/
def KOk (n : Nat) (c : Nat → Nat) {α : Type} : KasT α → (α → Prop) → Prop
  | .ret a, P => P a
  | .ask i j k, P => i < n ∧ j < n ∧ KOk n c (k (decide (c i < c j))) P
theorem KOk.bind {n : Nat} {c : Nat → Nat} {α β : Type} {f : α → KasT β} {P : β → Prop} : ∀ {t : KasT α}, KOk n c t (fun a => KOk n c (f a) P) → KOk n c (t.bind f) P
  | .ret a, h => h
  | .ask i j k, h => ⟨h.1, h.2.1, KOk.bind h.2.2⟩
theorem KOk.mono {n : Nat} {c : Nat → Nat} {α : Type} {P P' : α → Prop} : ∀ {t : KasT α}, KOk n c t P → (∀ a, P a → P' a) → KOk n c t P'
  | .ret a, h, hp => hp a h
  | .ask i j k, h, hp => ⟨h.1, h.2.1, KOk.mono h.2.2 hp⟩
theorem KOk.wp {n : Nat} {c : Nat → Nat} {α : Type} {cmp : Nat → Nat → (Bool → Shared → Prop) → Shared → Prop} {s : Shared} (hc : ∀ i j Q, i < n → j < n → Q (decide (c i < c j)) s → cmp i j Q s) {P : α → Prop} {Q : α → Shared → Prop} : ∀ {t : KasT α}, KOk n c t P → (∀ a, P a → Q a s) → t.kasWp cmp Q s
  | .ret a, h, hp => hp a h
  | .ask i j k, h, hp => hc i j _ h.1 h.2.1 (KOk.wp hc h.2.2 hp)

section
variable {n : Nat} {c : Nat → Nat}
structure PArr (n : Nat) (p : Array Nat) : Prop where
  size : p.size = n
  perm : p.toList.Perm (List.range n)
theorem PArr.get {p : Array Nat} (h : PArr n p) {i : Nat} (hi : i < n) : p[i]? = some (p.getD i 0) := by
  have : i < p.size := h.size ▸ hi
  simp [Array.getD, this]
theorem PArr.lt {p : Array Nat} (h : PArr n p) {i : Nat} (hi : i < n) : p.getD i 0 < n := by
  have h1 := h.get hi
  have h2 : p.getD i 0 ∈ p.toList := by
    rw [← Array.getElem?_toList] at h1
    exact List.mem_of_getElem? h1
  exact List.mem_range.mp (h.perm.mem_iff.mp h2)
theorem PArr.inj {p : Array Nat} (h : PArr n p) {i j : Nat} (hi : i < n) (hj : j < n) (he : p.getD i 0 = p.getD j 0) : i = j := by
  have nd : p.toList.Nodup := h.perm.nodup_iff.mpr List.nodup_range
  have h1 := h.get hi
  have h2 := h.get hj
  rw [← he] at h2
  rw [← Array.getElem?_toList] at h1 h2
  obtain ⟨l1, g1⟩ := List.getElem?_eq_some_iff.mp h1
  obtain ⟨l2, g2⟩ := List.getElem?_eq_some_iff.mp h2
  have pw := List.pairwise_iff_getElem.mp nd
  rcases Nat.lt_trichotomy i j with hlt | heq | hlt
  · exact absurd (g1.trans g2.symm) (pw i j l1 l2 hlt)
  · exact heq
  · exact absurd (g2.trans g1.symm) (pw j i l2 l1 hlt)
def At' (c : Nat → Nat) (p : Array Nat) (i : Nat) : Nat := c (p.getD i 0)
def Asc (c : Nat → Nat) (p : Array Nat) (m : Nat) : Prop := ∀ i j, i < j → j < m → At' c p i < At' c p j
def Dsc (c : Nat → Nat) (p : Array Nat) (m : Nat) : Prop := ∀ i j, i < j → j < m → At' c p j < At' c p i

variable (hc : ∀ i j, i < n → j < n → c i = c j → i = j)
include hc
theorem ne_at {p : Array Nat} (h : PArr n p) {i j : Nat} (hi : i < n) (hj : j < n) (hij : i ≠ j) : At' c p i ≠ At' c p j := fun he => hij (h.inj hi hj (hc _ _ (h.lt hi) (h.lt hj) he))
theorem asc_succ {p : Array Nat} (h : PArr n p) {m : Nat} (h1 : 1 ≤ m) (ha : Asc c p m) (hl : At' c p (m - 1) < At' c p m) : Asc c p (m + 1) := fun i j hij hj => by
  by_cases hjm : j < m
  · exact ha i j hij hjm
  · have : j = m := by omega
    subst this
    by_cases hi : i = j - 1
    · subst hi; exact hl
    · exact Nat.lt_trans (ha i (j - 1) (by omega) (by omega)) hl
theorem dsc_succ {p : Array Nat} (h : PArr n p) {m : Nat} (h1 : 1 ≤ m) (ha : Dsc c p m) (hl : At' c p m < At' c p (m - 1)) : Dsc c p (m + 1) := fun i j hij hj => by
  by_cases hjm : j < m
  · exact ha i j hij hjm
  · have : j = m := by omega
    subst this
    by_cases hi : i = j - 1
    · subst hi; exact hl
    · exact Nat.lt_trans hl (ha i (j - 1) (by omega) (by omega))
theorem kasc_ok {p : Array Nat} (h : PArr n p) : ∀ f m, 1 ≤ m → m + f ≤ n → Asc c p m → KOk n c (kas_asc p f m) fun r => m ≤ r ∧ r ≤ m + f ∧ Asc c p r ∧ (r < m + f → At' c p r < At' c p (r - 1))
  | 0, m, h1, hm, ha => ⟨Nat.le_refl _, Nat.le_refl _, ha, fun hh => absurd hh (Nat.lt_irrefl _)⟩
  | f + 1, m, h1, hm, ha => by
    refine ⟨h.lt (by omega), h.lt (by omega), ?_⟩
    by_cases hlt : c (p.getD m 0) < c (p.getD (m - 1) 0)
    · (rw [decide_eq_true hlt]; dsimp only; rw [if_pos rfl])
      exact ⟨Nat.le_refl _, by omega, ha, fun _ => hlt⟩
    · (rw [decide_eq_false hlt]; dsimp only; rw [if_neg (by decide)])
      have hne := ne_at hc h (i := m) (j := m - 1) (by omega) (by omega) (by omega)
      have hl : At' c p (m - 1) < At' c p m := by unfold At' at *; omega
      refine KOk.mono (kasc_ok h f (m + 1) (by omega) (by omega) (asc_succ hc h h1 ha hl)) fun r q => ⟨by omega, by omega, q.2.2.1, fun hh => q.2.2.2 (by omega)⟩
theorem kdesc_ok {p : Array Nat} (h : PArr n p) : ∀ f m, 1 ≤ m → m + f ≤ n → Dsc c p m → KOk n c (kas_desc f p m 0) fun r => r.1 = p ∧ r.2.2 = 0 ∧ m ≤ r.2.1 ∧ r.2.1 ≤ m + f ∧ Dsc c p r.2.1
  | 0, m, h1, hm, ha => ⟨rfl, rfl, Nat.le_refl _, Nat.le_refl _, ha⟩
  | f + 1, m, h1, hm, ha => by
    refine ⟨h.lt (by omega), h.lt (by omega), ?_⟩
    by_cases hlt : c (p.getD m 0) < c (p.getD (m - 1) 0)
    · (rw [decide_eq_true hlt]; dsimp only; rw [if_pos rfl, if_neg (by decide)])
      refine KOk.mono (kdesc_ok h f (m + 1) (by omega) (by omega) (dsc_succ hc h h1 ha hlt)) fun r q => ⟨q.1, q.2.1, by omega, by omega, q.2.2.2.2⟩
    · (rw [decide_eq_false hlt]; dsimp only; rw [if_neg (by decide)])
      have hne := ne_at hc h (i := m) (j := m - 1) (by omega) (by omega) (by omega)
      have hl : c (p.getD (m - 1) 0) < c (p.getD m 0) := by unfold At' at *; omega
      refine ⟨h.lt (by omega), h.lt (by omega), ?_⟩
      (rw [decide_eq_true hl]; dsimp only; rw [if_pos rfl])
      exact ⟨rfl, rfl, Nat.le_refl _, Nat.le_add_right _ _, ha⟩
theorem rev_ok {p : Array Nat} (h : PArr n p) {m : Nat} (hm : m ≤ n) (hd : Dsc c p m) : PArr n (kas_rev p 0 m) ∧ Asc c (kas_rev p 0 m) m := by
  have hP : PArr n (kas_rev p 0 m) := ⟨by unfold kas_rev; rw [mirror_size, h.size], (Array.perm_iff_toList_perm.mp (mirror_perm p 0 m _)).trans h.perm⟩
  refine ⟨hP, fun i j hij hj => ?_⟩
  have g : ∀ k, k < m → (kas_rev p 0 m).getD k 0 = p.getD (m - 1 - k) 0 := fun k hk => by
    have e1 := hP.get (i := k) (by omega)
    unfold kas_rev at e1 ⊢
    rw [getElem?_mirror_all (by rw [h.size]; omega), if_pos (by omega)] at e1
    have e2 := h.get (i := 0 + m - 1 - k) (by omega)
    rw [e2] at e1
    injection e1 with e1
    rw [← e1]; congr 1; omega
  unfold At'
  rw [g i (by omega), g j hj]
  exact hd _ _ (by omega) (by omega)
theorem kcount_ok {p : Array Nat} (h : PArr n p) (hn : 2 ≤ n) : KOk n c (kas_count n p) fun r => PArr n r.2 ∧ 1 ≤ r.1 ∧ r.1 ≤ n ∧ Asc c r.2 r.1 := by
  unfold kas_count
  refine KOk.bind (KOk.mono (kasc_ok hc h (n - 1) 1 (Nat.le_refl _) (by omega) fun i j hij hj => by omega) fun r q => ?_)
  obtain ⟨q1, q2, q3, q4⟩ := q
  by_cases hr : r = n
  · rw [if_pos (by simpa using hr)]
    exact ⟨h, q1, by omega, q3⟩
  · rw [if_neg (by simpa using hr)]
    by_cases h1 : r > 1
    · rw [if_pos h1]
      refine ⟨h.lt (by omega), h.lt (by omega), ?_⟩
      have : c (p.getD 0 0) < c (p.getD (r - 1) 0) := q3 0 (r - 1) (by omega) (by omega)
      (rw [decide_eq_true this]; dsimp only; rw [if_pos rfl])
      exact ⟨h, q1, by omega, q3⟩
    · rw [if_neg h1]
      have hr1 : r = 1 := by omega
      subst hr1
      have hd : Dsc c p 2 := fun i j hij hj => by
        have : i = 0 ∧ j = 1 := by omega
        rw [this.1, this.2]; exact q4 (by omega)
      unfold kas_descPart
      refine KOk.bind (KOk.mono (kdesc_ok hc h (n - (1 + 1)) 2 (by omega) (by omega) hd) fun r q => ?_)
      obtain ⟨rp, rn, rq⟩ := r
      obtain ⟨z1, z2, z3, z4, z5⟩ := q
      simp only at z1 z2 z3 z4 z5 ⊢
      subst z1
      rw [if_neg (by omega)]
      unfold kas_tail3
      obtain ⟨P2, A2⟩ := rev_ok hc h (m := rn) (by omega) z5
      refine KOk.bind (KOk.mono (kasc_ok hc P2 (n - rn) rn (by omega) (by omega) A2) fun m q => ?_)
      exact ⟨P2, by omega, by show m ≤ n; omega, q.2.2.1⟩
theorem kplace_ok {p : Array Nat} (h : PArr n p) {k : Nat} (hk : k < n) (ha : Asc c p k) : ∀ f l r, l ≤ r → r ≤ k → r - l ≤ f → (∀ i, i < l → At' c p i < At' c p k) → (∀ i, r ≤ i → i < k → At' c p k < At' c p i) →
    KOk n c (kas_place p k f l r) fun l' => l' ≤ k ∧ (∀ i, i < l' → At' c p i < At' c p k) ∧ ∀ i, l' ≤ i → i < k → At' c p k < At' c p i
  | 0, l, r, h1, h2, h3, h4, h5 => ⟨by omega, h4, fun i hi hik => h5 i (by omega) hik⟩
  | f + 1, l, r, h1, h2, h3, h4, h5 => by
    unfold kas_place
    by_cases hlr : l ≥ r
    · rw [if_pos hlr]
      exact ⟨by omega, h4, fun i hi hik => h5 i (by omega) hik⟩
    · rw [if_neg hlr]
      refine ⟨h.lt hk, h.lt (by omega), ?_⟩
      by_cases hlt : c (p.getD k 0) < c (p.getD ((l + r) / 2) 0)
      · (rw [decide_eq_true hlt]; dsimp only; rw [if_pos rfl])
        refine kplace_ok h hk ha f l ((l + r) / 2) (by omega) (by omega) (by omega) h4 fun i hi hik => ?_
        by_cases he : i = (l + r) / 2
        · subst he; exact hlt
        · exact Nat.lt_trans hlt (ha _ i (by omega) hik)
      · (rw [decide_eq_false hlt]; dsimp only; rw [if_neg (by decide)])
        have hne := ne_at hc h (i := k) (j := (l + r) / 2) hk (by omega) (by omega)
        have hl : At' c p ((l + r) / 2) < At' c p k := by unfold At' at *; omega
        refine kplace_ok h hk ha f ((l + r) / 2 + 1) r (by omega) h2 (by omega) (fun i hi => ?_) h5
        by_cases he : i = (l + r) / 2
        · subst he; exact hl
        · exact Nat.lt_trans (ha i _ (by omega) (by omega)) hl
theorem kbin_ok : ∀ (f : Nat) {p : Array Nat} (h : PArr n p) (k : Nat), k + f = n → Asc c p k → KOk n c (kas_bin f p k) fun p' => PArr n p' ∧ Asc c p' n
  | 0, p, h, k, hk, ha => ⟨h, (show k = n from hk) ▸ ha⟩
  | f + 1, p, h, k, hk, ha => by
    unfold kas_bin
    refine KOk.bind (KOk.mono (kplace_ok hc h (k := k) (by omega) ha k 0 k (by omega) (by omega) (by omega) (fun i hi => by omega) fun i hi hik => by omega) fun l q => ?_)
    obtain ⟨q1, q2, q3⟩ := q
    have hP : PArr n (bubble p k (k - l)) := ⟨by rw [bubble_size, h.size], (Array.perm_iff_toList_perm.mp (bubble_perm p k _)).trans h.perm⟩
    refine kbin_ok f hP (k + 1) (by omega) fun i j hij hj => ?_
    have g : ∀ x, x < n → (bubble p k (k - l)).getD x 0 = if x = l then p.getD k 0 else if l < x ∧ x ≤ k then p.getD (x - 1) 0 else p.getD x 0 := fun x hx => by
      have e1 := hP.get (i := x) hx
      rw [getElem?_bubble (by rw [h.size]; omega) (k - l) (by omega)] at e1
      have hkl : k - (k - l) = l := by omega
      rw [hkl] at e1
      by_cases hx1 : x = l
      · rw [if_pos hx1] at e1 ⊢
        rw [h.get (by omega)] at e1
        injection e1 with e1; exact e1.symm
      · rw [if_neg hx1] at e1 ⊢
        by_cases hx2 : l < x ∧ x ≤ k
        · rw [if_pos hx2] at e1 ⊢
          rw [h.get (by omega)] at e1
          injection e1 with e1; exact e1.symm
        · rw [if_neg hx2] at e1 ⊢
          rw [h.get hx] at e1
          injection e1 with e1; exact e1.symm
    unfold At'
    rw [g i (by omega), g j (by omega)]
    unfold Asc At' at *
    by_cases hil : i = l
    · rw [if_pos hil, if_neg (by omega), if_pos (by omega)]
      exact q3 (j - 1) (by omega) (by omega)
    · rw [if_neg hil]
      by_cases hil2 : l < i ∧ i ≤ k
      · rw [if_pos hil2, if_neg (by omega), if_pos (by omega)]
        exact ha _ _ (by omega) (by omega)
      · rw [if_neg hil2]
        by_cases hjl : j = l
        · rw [if_pos hjl]
          exact q2 i (by omega)
        · rw [if_neg hjl]
          by_cases hjl2 : l < j ∧ j ≤ k
          · rw [if_pos hjl2]
            by_cases hh : i = j - 1
            · omega
            · exact ha _ _ (by omega) (by omega)
          · rw [if_neg hjl2]
            exact ha _ _ (by omega) (by omega)
theorem ksort_ok (hn : 2 ≤ n) : KOk n c (kas_sort n) fun p => PArr n p ∧ Asc c p n := by
  unfold kas_sort
  have h0 : PArr n (List.toArray (List.range n)) := ⟨by simp, by simp⟩
  refine KOk.bind (KOk.mono (kcount_ok hc h0 hn) fun r q => ?_)
  obtain ⟨q1, q2, q3, q4⟩ := q
  by_cases hr : r.1 < n
  · rw [if_pos hr]
    have hm : max r.1 1 = r.1 := by omega
    rw [hm]
    exact kbin_ok hc (n - r.1) q1 r.1 (by omega) q4
  · rw [if_neg hr]
    have : r.1 = n := by omega
    rw [this] at q4
    exact ⟨q1, q4⟩
end

/-- what a sort of pairs gives -/
theorem sort_pairs {ps : List (Value × Nat)} (hd : ps.Pairwise fun a b => a.2 ≠ b.2) {p : Array Nat} (h : PArr ps.length p) (ha : Asc (fun i => (ps.getD i (.none, 0)).2) p ps.length) :
    (p.toList.map fun i => ps.getD i (.none, 0)).Perm ps ∧ (p.toList.map fun i => ps.getD i (.none, 0)).Pairwise fun a b => a.2 < b.2 := by
  constructor
  · have h1 := h.perm.map fun i => ps.getD i (.none, 0)
    have h2 : (List.range ps.length).map (fun i => ps.getD i (.none, 0)) = ps := by
      refine List.ext_getElem (by simp) fun i h1 h2 => ?_
      simp [List.getD, h2]
    rw [h2] at h1
    exact h1
  · rw [List.pairwise_iff_getElem]
    intro i j hi hj hij
    simp only [List.length_map, Array.length_toList] at hi hj
    have := ha i j hij (by rw [← h.size]; exact hj)
    unfold At' at this
    simp only [List.getElem_map, Array.getElem_toList]
    simp only [Array.getD, hi, hj, dif_pos] at this
    simpa using this
theorem codes_inj {ps : List (Value × Nat)} (hd : ps.Pairwise fun a b => a.2 ≠ b.2) : ∀ i j, i < ps.length → j < ps.length → (ps.getD i (.none, 0)).2 = (ps.getD j (.none, 0)).2 → i = j := by
  intro i j hi hj he
  have g : ∀ k (hk : k < ps.length), ps.getD k (.none, 0) = ps[k] := fun k hk => by simp [List.getD, hk]
  rw [g i hi, g j hj] at he
  have pw := List.pairwise_iff_getElem.mp hd
  rcases Nat.lt_trichotomy i j with hlt | heq | hlt
  · exact absurd he (pw i j hi hj hlt)
  · exact heq
  · exact absurd he.symm (pw j i hj hi hlt)
end Mine

namespace Mine
open PySem PySem.Calls PyProof.Rows PySem.SeqAt PySem.MeetsSeq3 PySem.W

/-- a row of _law_covers: the length and the place -/
def IsRow (B : Store) (v : Value) (c : Nat) : Prop := ∃ a t1 t2, v = .ref a ∧ B a = some (.tup [.int ((c / 16 : Nat) : Int) t1, .int ((c % 16 : Nat) : Int) t2])
theorem IsRow.mono {B B' : Store} {v : Value} {c : Nat} (h : IsRow B v c) (hb : B.le B') : IsRow B' v c := by
  obtain ⟨a, t1, t2, e, h2⟩ := h
  exact ⟨a, t1, t2, e, hb _ _ h2⟩

theorem lex_kat {prog : Program} {w : World} {A : Around} {s : Shared} {fin res : Bool} {Q : Bool → Shared → Prop} : ∀ (l : List (Value × Value)) (i : Nat), 1 ≤ i → LexOk A s fin res l → Q res s → KatLex prog w A true fin Q l i s
  | [], i, hi, h, q => by
    have h' : res = fin := h
    subst h'; exact q
  | (x, y) :: r, i, hi, h, q => by
    obtain ⟨e, he, h⟩ := h
    refine he prog w _ _ ?_
    cases e with
    | true =>
      rw [if_pos rfl] at h ⊢
      exact lex_kat r (i + 1) (by omega) h q
    | false =>
      rw [if_neg (by decide)] at h ⊢
      have : (true && i == 0) = false := by simp; omega
      rw [this]
      exact kat_one x y (h prog w _ _ q)

/-- the sort's own comparing -/
def SLt (prog : Program) (w : World) (B : Store) (v u : Value) (b : Bool) : Prop :=
  ∀ (A : Around) (s : Shared) (h : Heap) (t : Nat) (Q : Bool → Shared → Prop) (k : Nat), Rm A k → (∀ a k, B a = some k → At h a k) → Q b (St s h t) → wpAny (model prog w) A (keyLt' (tuples' true) v u) Q (fun _ _ => False) (St s h t)

theorem row_slt {prog : Program} {w : World} {B : Store} {v u : Value} {c d : Nat} (hv : IsRow B v c) (hu : IsRow B u d) : SLt prog w B v u (decide (c < d)) := by
  intro A s h t Q k hA hB hQ
  obtain ⟨a, t1, t2, rfl, ha⟩ := hv
  obtain ⟨b, u1, u2, rfl, hb⟩ := hu
  obtain ⟨o, ho, n, rfl⟩ := hB _ _ ha
  obtain ⟨o2, ho2, n2, rfl⟩ := hB _ _ hb
  refine kat_lt (s := St s h t) ho rfl ho2 rfl (kat_cons (EqAt.int_int _ _ _ _ prog w _ _ ?_))
  by_cases he : c / 16 = d / 16
  · have : ((((c / 16 : Nat) : Int)) == (((d / 16 : Nat)) : Int)) = true := by simp [he]
    rw [this]
    refine kat_yes (lex_kat _ 1 (Nat.le_refl _) ?_ hQ)
    refine ⟨_, EqAt.int_int _ _ _ _, ?_⟩
    by_cases hi : c % 16 = d % 16
    · rw [if_pos (by simp [hi])]
      show decide (c < d) = decide ((2 : Nat) < 2)
      rw [decide_eq_decide]; omega
    · rw [if_neg (by simp; omega)]
      have := RcLt.int A (St s h t) ((c % 16 : Nat) : Int) ((d % 16 : Nat) : Int) t2 u2
      have he : decide (((c % 16 : Nat) : Int) < ((d % 16 : Nat) : Int)) = decide (c < d) := by rw [decide_eq_decide]; omega
      rw [he] at this; exact this
  · have : ((((c / 16 : Nat) : Int)) == (((d / 16 : Nat)) : Int)) = false := by simp; omega
    rw [this]
    refine kat_no (oneLt_int ?_)
    have he : decide (((c / 16 : Nat) : Int) < ((d / 16 : Nat) : Int)) = decide (c < d) := by rw [decide_eq_decide]; omega
    rw [he]; exact hQ

theorem key_slt {prog : Program} {w : World} {B : Store} {v u : Value} {c d : Nat} (hv : IsKey B v c) (hu : IsKey B u d) : SLt prog w B v u (decide (c < d)) := by
  intro A s h t Q k hA hB hQ
  obtain ⟨hc, a, b, t1, t2, ws, rfl, ha, hb, hw⟩ := hv
  obtain ⟨hd, a', b', t1', t2', ws', rfl, ha', hb', hw'⟩ := hu
  obtain ⟨o, ho, n, rfl⟩ := hB _ _ ha
  obtain ⟨o2, ho2, n2, rfl⟩ := hB _ _ ha'
  have q1 := all40_of pcs_lt (p := c / 16 % 40) (q := d / 16 % 40) (by omega) (by omega)
  have q2 := all40_of pcs_eq (p := c / 16 % 40) (q := d / 16 % 40) (by omega) (by omega)
  rw [beq_iff_eq] at q1 q2
  refine kat_lt (s := St s h t) ho rfl ho2 rfl (kat_cons (EqAt.str_str _ _ _ _ prog w _ _ ?_))
  have hh := host_eq (c / 16 / 40) (d / 16 / 40) (by omega) (by omega)
  have hl := host_lt (c / 16 / 40) (d / 16 / 40) (by omega) (by omega)
  unfold hostR
  rw [hh]
  by_cases hhe : c / 16 / 40 = d / 16 / 40
  · rw [decide_eq_true hhe]
    refine kat_yes (lex_kat _ 1 (Nat.le_refl _) ?_ hQ)
    refine ⟨_, EqAt.strs (hB _ _ hb) (hB _ _ hb') hA.unit, ?_⟩
    rw [hw, hw']
    unfold pcsR
    rw [q2]
    by_cases hp : c / 16 % 40 = d / 16 % 40
    · rw [if_pos (by simpa using hp)]
      refine ⟨_, EqAt.int_int _ _ _ _, ?_⟩
      by_cases hi : c % 16 = d % 16
      · rw [if_pos (by simp [hi])]
        show decide (c < d) = decide ((3 : Nat) < 3)
        rw [decide_eq_decide]; omega
      · rw [if_neg (by simp; omega)]
        have := RcLt.int A (St s h t) ((c % 16 : Nat) : Int) ((d % 16 : Nat) : Int) t2 t2'
        have he : decide (((c % 16 : Nat) : Int) < ((d % 16 : Nat) : Int)) = decide (c < d) := by rw [decide_eq_decide]; omega
        rw [he] at this; exact this
    · rw [if_neg (by simpa using hp)]
      have := RcLt.strs (A := A) (s := St s h t) (hB _ _ hb) (hB _ _ hb') hA.unit
      rw [hw, hw'] at this
      unfold pcsR at this
      rw [q1] at this
      have he : decide (c / 16 % 40 < d / 16 % 40) = decide (c < d) := by rw [decide_eq_decide]; omega
      rw [he] at this; exact this
  · rw [decide_eq_false hhe]
    refine kat_no (oneLt_str ?_)
    rw [hl]
    have he : decide (c / 16 / 40 < d / 16 / 40) = decide (c < d) := by rw [decide_eq_decide]; omega
    rw [he]; exact hQ

/-- what a sort wants of its values -/
structure Srt (prog : Program) (w : World) (B : Store) (T : String) (ps : List (Value × Nat)) : Prop where
  fst : ∀ p ∈ ps, ∃ a xs f, p.1 = .ref a ∧ B a = some (.tup xs) ∧ xs[0]? = some f ∧ typeOf f = pure (.type T)
  lt : ∀ p ∈ ps, ∀ q ∈ ps, SLt prog w B p.1 q.1 (decide (p.2 < q.2))
  ne : ps.Pairwise fun a b => a.2 ≠ b.2
  tT : (Value.type T != Value.type "tuple") = true
theorem srt_keys {prog : Program} {w : World} {B : Store} {ps : List (Value × Nat)} (h : ∀ p ∈ ps, IsKey B p.1 p.2) (hne : ps.Pairwise fun a b => a.2 ≠ b.2) : Srt prog w B "str" ps where
  fst := fun p hp => by
    obtain ⟨hc, a, b, t1, t2, ws, e, ha, hb, hw⟩ := h p hp
    exact ⟨a, _, _, e, ha, rfl, rfl⟩
  lt := fun p hp q hq => key_slt (h p hp) (h q hq)
  ne := hne
  tT := by decide
theorem srt_rows {prog : Program} {w : World} {B : Store} {ps : List (Value × Nat)} (h : ∀ p ∈ ps, IsRow B p.1 p.2) (hne : ps.Pairwise fun a b => a.2 ≠ b.2) : Srt prog w B "int" ps where
  fst := fun p hp => by
    obtain ⟨a, t1, t2, e, ha⟩ := h p hp
    exact ⟨a, _, _, e, ha, rfl, rfl⟩
  lt := fun p hp q hq => row_slt (h p hp) (h q hq)
  ne := hne
  tT := by decide

theorem katTups {B : Store} {h : Heap} (hB : ∀ a k, B a = some k → At h a k) {T : String} : ∀ (ps : List (Value × Nat)), (∀ p ∈ ps, ∃ a xs f, p.1 = .ref a ∧ B a = some (.tup xs) ∧ xs[0]? = some f ∧ typeOf f = pure (.type T)) →
    ∃ fs, KatTups h (vs ps) fs ∧ fs.length = ps.length ∧ ∀ f ∈ fs, typeOf f = pure (.type T)
  | [], _ => ⟨[], KatTups.nil, rfl, fun f hf => nomatch hf⟩
  | p :: r, hp => by
    obtain ⟨fs, h1, h2, h3⟩ := katTups hB r fun q hq => hp q (.tail _ hq)
    obtain ⟨a, xs, f, e, ha, hx, hf⟩ := hp p (.head _)
    obtain ⟨o, ho, n, rfl⟩ := hB _ _ ha
    refine ⟨f :: fs, ?_, by simp [h2], fun g hg => ?_⟩
    · show KatTups h (p.1 :: vs r) (f :: fs)
      rw [e]
      exact KatTups.cons ho rfl rfl (by simpa using hx) h1
    · rcases List.mem_cons.mp hg with rfl | hg
      · exact hf
      · exact h3 g hg

section
variable {prog : Program} {w : World} {A : Around} {E : Value → Shared → Prop} {s : Shared} {H : Heap} {e : Entry} {B : Store} {L : Addr} {m : Str → Option Value} {W : List (Addr × Kd)} {h : Heap} {t : Nat} {Q : Value → Shared → Prop}
set_option maxHeartbeats 2000000

theorem b_sorted2 {l : Addr} {ps : List (Value × Nat)} {T : String} {k : Nat} (F : Fm H e B L m W h) (hA : Rm A (k + 1)) (hl : At h l (.list (vs ps))) (S : Srt prog w B T ps) (h2 : 2 ≤ ps.length) (hn : ps.length < 64)
    (g : ∀ h' D qs, h.get? D = none → qs.Perm ps → (qs.Pairwise fun a b => a.2 < b.2) → Fm H e B L m ((D, .list (vs qs)) :: W) h' → Q (.ref D) (St s h' t)) :
    wpAny (model prog w) A (call (.builtin "sorted") [.ref l] []) Q E (St s h t) := by
  refine kat_sorted (s := St s h t) F.fr F.news hl.isList (by rw [vs_len]; exact h2) (by rw [vs_len]; exact hn) fun D e1 h' F' N' hlt => ?_
  have hD := newsD (m := m) (F.liveW _ (.head _)) N' hlt
  have F1 := F.more F'.ns (newsK (X := [_]) N')
  have hA2 : Rm A.in1.in1 0 := ⟨by have := hA.depth; show A.depth + 0 < _; omega, by have := hA.units; show A.units + 1 + 1 + 100 * 0 + 200 < _; omega, hA.handled⟩
  obtain ⟨fs, k1, k2, k3⟩ := katTups F1.sub ps S.fst
  refine kat_kind (s := St s h' t) k1 (by omega) (fun f hf => Looks.of_pure (k3 f hf)) (beq_self_eq_true _) ?_
  rw [S.tT, vs_len]
  refine KOk.wp (n := ps.length) (c := fun i => (ps.getD i (.none, 0)).2) (fun i j C hi hj hq => ?_) (ksort_ok (codes_inj S.ne) h2) fun p hp => ?_
  · unfold kas_ask
    have gi : ∀ i, i < ps.length → (vs ps).getD i .none = (ps.getD i (.none, 0)).1 ∧ ps.getD i (.none, 0) ∈ ps := fun i hi => by
      have : ps.getD i (.none, 0) = ps[i] := by simp [List.getD, hi]
      rw [this]
      exact ⟨by simp [List.getD, vs, hi], List.getElem_mem _⟩
    rw [(gi i hi).1, (gi j hj).1]
    exact S.lt _ (gi i hi).2 _ (gi j hj).2 _ s h' t _ 0 hA2 F1.sub hq
  · obtain ⟨p1, p2⟩ := sort_pairs S.ne hp.1 hp.2
    have ho : (p.toList.map fun i => (vs ps).getD i Value.none) = vs (p.toList.map fun i => ps.getD i (.none, 0)) := by
      simp only [vs, List.map_map]
      refine List.map_congr_left fun i hi => ?_
      simp only [Function.comp]
      simp [List.getD]
      cases ps[i]? <;> rfl
    rw [ho]
    refine KasFin.intro F' N' (UpdF.head fun q hq => Nat.ne_of_lt (hlt q hq)) fun h'' c F'' N'' => ?_
    exact g h'' D _ hD p1 p2 (F.more1 F''.ns (newsK (X := [_]) N'') hD ⟨_, (N'' _ (.head _)).1, c, rfl⟩)

theorem list_sort1 {a : Addr} {xs : List Value} {n : Nat} {P : PySem.Fin → Shared → Prop} (ho : h.get? a = some (seqObj "list" xs.toArray n)) (h2 : xs.length < 2)
    (g : ∀ h' c, (∀ b o, b ≠ a → h.get? b = some o → h'.get? b = some o) → h'.get? a = some (seqObj "list" xs.toArray c) → P (.done (.ret .none)) (St s h' t)) :
    wpAny (model prog w) A (Builtin.«list.sort» ⟨[.ref a], []⟩) P E (St s h t) := by
  have ha : a < h.objs.size := Heap.lt_size ho
  have s1 := Heap.SameBut.update h a (Obj.mapSeq fun _ => (#[] : Array Value))
  obtain ⟨e1, ho1⟩ : ∃ e1, (h.update a (Obj.mapSeq fun _ => (#[] : Array Value))).get? a = some (seqObj "list" #[] e1) := ⟨_, get?_update_seq ho fun _ => #[]⟩
  rw [list_sort_plain]
  refine wpAny_bind (listItems_at (s := St s h t) ho rfl ?_)
  refine wpAny_bind (listUpdate_at (s := St s h t) ho rfl ?_ (by rw [List.size_toArray, sizeLine_eq]; omega) (Nat.zero_le _))
  refine wpAny_bind (seqEpoch_at ho1 rfl ?_)
  refine wpAny_bind (wpAny_newTuple ?_ (by show xs.length ≤ _; rw [sizeLine_eq]; omega))
  refine wpAny_bind (wpAny_newList ?_ (Nat.zero_le _))
  refine wpAny_holding ?_
  dsimp only
  have hn2 : xs.toArray.size < 2 := by rw [List.size_toArray]; exact h2
  rw [if_pos hn2, if_pos hn2]
  have ho3 : (((h.update a (Obj.mapSeq fun _ => (#[] : Array Value))).push { cls := .type "tuple", data := .seq xs.toArray.toList.toArray }).push { cls := .type "list", data := .seq ([] : List Value).toArray }).get? a = some (seqObj "list" #[] e1) :=
    Heap.get?_push_of_some _ (Heap.get?_push_of_some _ ho1)
  refine wpAny_bind (wpAny_pure ?_)
  refine wpAny_bind (wpAny_pure ?_)
  dsimp only
  have har : (arrOf (SortSt.mk' general' (xs.toArray.zip xs.toArray) #[] 7 none)).map (·.2) = xs.toArray := by
    show (xs.toArray.zip xs.toArray).map (·.2) = _
    have := Array.map_snd_zip (as := xs.toArray) (bs := xs.toArray) (Nat.le_refl _)
    exact this
  rw [har]
  obtain ⟨c2, hc2⟩ := (⟨_, get?_update_seq ho3 fun _ => xs.toArray⟩ : ∃ c2, ((((h.update a (Obj.mapSeq fun _ => (#[] : Array Value))).push { cls := .type "tuple", data := .seq xs.toArray.toList.toArray }).push { cls := .type "list", data := .seq ([] : List Value).toArray }).update a (Obj.mapSeq fun _ => xs.toArray)).get? a = some (seqObj "list" xs.toArray c2))
  refine wpAny_bind (seqEpoch_at ho3 rfl ?_)
  refine wpAny_bind (listUpdate_at ho3 rfl ?_ (Nat.zero_le _) (by rw [List.size_toArray, sizeLine_eq]; omega))
  dsimp only
  simp only [bne_self_eq_false, Bool.false_eq_true, if_false]
  refine wpAny_pure (g _ c2 (fun b o hb eo => ?_) hc2)
  rw [Heap.get?_update_other _ _ (Ne.symm hb)]
  refine Heap.get?_push_of_some _ (Heap.get?_push_of_some _ ?_)
  exact (s1.2 b hb).trans eo

theorem b_sorted1 {l : Addr} {xs : List Value} (F : Fm H e B L m W h) (hl : At h l (.list xs)) (h2 : xs.length < 2)
    (g : ∀ h' D, h.get? D = none → Fm H e B L m ((D, .list xs) :: W) h' → Q (.ref D) (St s h' t)) :
    wpAny (model prog w) A (call (.builtin "sorted") [.ref l] []) Q E (St s h t) := by
  refine Calls.call_function_entry kind_sorted plain_sorted entry_sorted (args_sorted1 _) ?_
  unfold Builtin.«sorted»
  refine wpAny_bind (m := checkCount "sorted" 1 1 _) (wpAny_pure ?_)
  refine wpAny_bind (collect_list (s := St s h t) hl.isList ?_ (by rw [sizeLine_eq]; omega))
  refine wpAny_bind (wpAny_newList ?_ (by rw [sizeLine_eq]; omega))
  have hsz : ((h.push (seqObj "list" #[] 0)).update h.objs.size (Obj.mapSeq (· ++ xs.toArray))).objs.size = h.objs.size + 1 := by
    rw [Heap.size_update, size_push']
  have hoL : (((h.push (seqObj "list" #[] 0)).update h.objs.size (Obj.mapSeq (· ++ xs.toArray))).push (seqObj "list" xs.toArray 0)).get? (h.objs.size + 1) = some (seqObj "list" xs.toArray 0) := by
    rw [← hsz]; exact Heap.get?_push_size _ rfl
  have keep : ∀ b o, h.get? b = some o → (((h.push (seqObj "list" #[] 0)).update h.objs.size (Obj.mapSeq (· ++ xs.toArray))).push (seqObj "list" xs.toArray 0)).get? b = some o := fun b o q => by
    have hlt : b < h.objs.size := Heap.lt_size q
    rw [Heap.get?_push_ne _ _ _ (by rw [hsz]; exact Nat.ne_of_lt (Nat.lt_succ_of_lt hlt)), Heap.get?_update_ne _ _ _ _ (Nat.ne_of_lt hlt), Heap.get?_push_ne _ _ _ (Nat.ne_of_lt hlt)]
    exact q
  have hfr : h.get? (h.objs.size + 1) = none := by
    cases q : h.get? (h.objs.size + 1) with
    | none => rfl
    | some o => exact absurd (Heap.lt_size q) (Nat.not_lt.mpr (Nat.le_succ _))
  show wpAny _ _ _ _ _ (St s (((h.push (seqObj "list" #[] 0)).update h.objs.size (Obj.mapSeq (· ++ xs.toArray))).push (seqObj "list" xs.toArray 0)) t)
  rw [hsz]
  refine wpAny_bind (wpAny_holding (wpAny_call_entry (s := St s _ t) slot_list_sort ⟨_, hoL, rfl⟩ entry_list_sort ?_ (args_list_sort _)))
  refine list_sort1 hoL h2 fun h' c hk hc => ⟨_, rfl, wpAny_pure ⟨_, rfl, ?_⟩⟩
  refine g h' _ hfr (F.more1 (F.grown (h' := h') fun b o eo => hk b o ?_ (keep b o eo)).ns (fun b o _ eo => hk b o ?_ (keep b o eo)) hfr ⟨_, hc, c, rfl⟩)
  · exact Nat.ne_of_lt (Nat.lt_succ_of_lt (Heap.lt_size eo))
  · exact Nat.ne_of_lt (Nat.lt_succ_of_lt (Heap.lt_size eo))
theorem b_sorted {l : Addr} {ps : List (Value × Nat)} {T : String} {k : Nat} (F : Fm H e B L m W h) (hA : Rm A (k + 1)) (hl : At h l (.list (vs ps))) (S : Srt prog w B T ps) (hn : ps.length < 64)
    (g : ∀ h' D qs, h.get? D = none → qs.Perm ps → (qs.Pairwise fun a b => a.2 < b.2) → Fm H e B L m ((D, .list (vs qs)) :: W) h' → Q (.ref D) (St s h' t)) :
    wpAny (model prog w) A (call (.builtin "sorted") [.ref l] []) Q E (St s h t) := by
  by_cases h2 : 2 ≤ ps.length
  · exact b_sorted2 F hA hl S h2 hn g
  · refine b_sorted1 F hl (by rw [vs_len]; omega) fun h' D hD F' => g h' D ps hD (List.Perm.refl _) ?_ F'
    match ps, h2 with
    | [], _ => exact List.Pairwise.nil
    | [x], _ => exact List.pairwise_singleton _ _
    | _ :: _ :: _, h2 => exact absurd (by simp) h2
end
end Mine

namespace Mine
open PySem PySem.Calls PyProof.Rows PySem.SeqAt PySem.MeetsSeq3 PySem.W

/-- does j stand over k? -/
def covP (as : List Nat) (k j : Nat) : Bool := if as.getD j 0 = as.getD k 0 then decide (j < k) else over (as.getD j 0) (as.getD k 0)
def rowC (as : List Nat) (j : Nat) : Nat := (pathR (as.getD j 0)).length * 16 + j
/-- the rows of _law_covers, unsorted -/
def covRows (as : List Nat) (k i : Nat) : List Nat := ((List.range i).filter (covP as k)).map (rowC as)
theorem covRows_succ (as : List Nat) (k i : Nat) : covRows as k (i + 1) = covRows as k i ++ (if covP as k i then [rowC as i] else []) := by
  unfold covRows
  rw [List.range_succ, List.filter_append, List.map_append]
  congr 1
  cases h : covP as k i <;> simp [h]
theorem covRows_len (as : List Nat) (k i : Nat) : (covRows as k i).length ≤ i := by
  unfold covRows
  rw [List.length_map]
  exact Nat.le_trans (List.length_filter_le _ _) (by simp)
theorem covRows_ne (as : List Nat) (k : Nat) : ∀ i, i ≤ 16 → (covRows as k i).Pairwise (· ≠ ·) := by
  intro i hi
  unfold covRows
  rw [List.pairwise_map]
  refine (List.Pairwise.filter _ List.nodup_range).imp_of_mem ?_
  intro a b ha hb hne
  have h1 := List.mem_range.mp (List.mem_filter.mp ha).1
  have h2 := List.mem_range.mp (List.mem_filter.mp hb).1
  unfold rowC
  omega
def IsInt (v : Value) (n : Nat) : Prop := ∃ t, v = .int ((n : Nat) : Int) t
def IsInts (B : Store) (v : Value) (ns : List Nat) : Prop := ∃ a vs, v = .ref a ∧ B a = some (.list vs) ∧ AllR IsInt vs ns
theorem IsInts.mono {B B' : Store} {v : Value} {ns : List Nat} (h : IsInts B v ns) (hb : B.le B') : IsInts B' v ns := by
  obtain ⟨a, vs, e, h2, h3⟩ := h
  exact ⟨a, vs, e, hb _ _ h2, h3⟩

section
variable {prog : Program} {w : World} {A : Around} {E : Value → Shared → Prop} {s : Shared} {H : Heap} {P : Pg} {e : Entry} {B : Store} {L : Addr} {m : Str → Option Value} {W : List (Addr × Kd)} {h : Heap} {t : Nat} {env : Env} {Q : Value → Shared → Prop} {QB : Bool → Shared → Prop} {K : Frag} {C fI fS : Addr}
set_option maxHeartbeats 2000000
theorem t_call {f : Expr} {args : List Expr} {kw : List Keyword} {pos : Pos} {whole : Sem Value} (k : wpAny (model prog w) A whole (fun v s₁ => wpAny (model prog w) A (truthy v) QB E s₁) E (St s h t)) :
    wpAny (model prog w) A (isTrue (.Call f args kw pos) env whole) QB E (St s h t) := wpAny_isTrue_value k

theorem covers_ok {R : Result → Shared → Prop} {k : Nat} {v : Value} {as : List Nat} {kk : Nat} {tk : Tok} (hP : PgOk H P) (hA : Rm A (k + 3)) (pre : Pre H B [] h) (hv : IsAdrs B v as) (hkk : kk < as.length)
    (go : ∀ h' t' B' v (cs : List Nat), Back B [] h h' B' → cs.Perm (covRows as kk as.length) → cs.Pairwise (· < ·) → IsInts B' v (cs.map (· % 16)) → R (.ok (.ret v)) (St s h' t')) :
    codeAny (model prog w) A (.call (.ref (P.fa 15)) ⟨[v, .int ((kk : Nat) : Int) tk], []⟩) R (St s h t) := by
  obtain ⟨hn, la, avs, rfl, hla, hal⟩ := hv
  refine enterD 15 [(Str.ofString "addresses", .ref la), (Str.ofString "k", .int ((kk : Nat) : Int) tk)] hP hA pre (by decide) rfl rfl (by decide) rfl rfl rfl (fun env h' t' he F0 hA' => ?_)
  generalize hel : (callEnvC (fdOf 15 (P.pm 15) (P.cd 15) (P.doc 15)) h.objs.size (P.fa 15)) = env0 at he
  subst he
  subst hel
  have F : Fm H ⟨h, [], B⟩ B (callEnvC (fdOf 15 (P.pm 15) (P.cd 15) (P.doc 15)) h.objs.size (P.fa 15)).locals _ [] h' := F0
  refine s_assign (r_listd (d_nil ⟨by simp, ?_⟩))
  have F1 := F.push (o := { cls := .type "list", data := .seq ([] : List Value).toArray }) (k := .list []) ⟨0, rfl⟩ rfl
  refine r_store F1 fun h2 F2 => ?_
  obtain ⟨ak, hak⟩ : ∃ a, as[kk]? = some a := ⟨_, List.getElem?_eq_getElem hkk⟩
  obtain ⟨vk, hvk, havk⟩ := hal.get hak
  have hakD : as.getD kk 0 = ak := by simp [List.getD, hak]
  have hlen : (avs.length : Int) = ((as.length : Nat) : Int) := by rw [hal.1]
  refine s_for (H := H) (e := ⟨h, [], B⟩) as.length (fun i v => ∃ t, v = .int ((i : Nat) : Int) t)
    (fun i B' m' W' => B.le B' ∧ m' (Str.ofString "addresses") = some (.ref la) ∧ m' (Str.ofString "k") = some (.int ((kk : Nat) : Int) tk) ∧ m' (Str.ofString "rows") = some (.ref h'.objs.size) ∧
      ∃ ps : List (Value × Nat), W' = [(h'.objs.size, .list (vs ps))] ∧ ps.map (·.2) = covRows as kk i ∧ ∀ p ∈ ps, IsRow B' p.1 p.2) ?_ ?_ ?_
  · refine r_tcall F2 hP.g (hP.bi _ (by decide)) hP.b hP.range (args_1 (r_bcall F2 hP.g (hP.bi _ (by decide)) hP.b hP.len (args_1 (r_name F2 rfl (r_len (F2.sub _ _ hla) (by rw [hal.1]; omega) ?_)))))
    rw [hlen]
    refine b_range F2 fun h3 rg t₀ u₀ v₀ hr F3 => ?_
    exact ⟨h3, _, B, _, _, fun _ => True, rfl, F3, over_range hA'.handled hr (by omega), ⟨Store.le.refl _, rfl, rfl, rfl, [], rfl, rfl, fun p hp => nomatch hp⟩, fun _ _ _ _ _ _ _ _ => trivial⟩
  · rintro j v B' m' W' h3 t3 I o hj ⟨tj, rfl⟩ ⟨hBB, e1, e2, e3, ps, rfl, hps, hrows⟩ F3
    obtain ⟨aj, haj⟩ : ∃ a, as[j]? = some a := ⟨_, List.getElem?_eq_getElem hj⟩
    obtain ⟨vj, hvj, havj⟩ := hal.get haj
    have hajD : as.getD j 0 = aj := by simp [List.getD, haj]
    have hla3 := F3.sub _ _ (hBB _ _ hla)
    have havj' := havj.mono hBB
    have havk' := havk.mono hBB
    have hpl : ps.length ≤ j := by rw [← List.length_map (f := (·.2)) (as := ps), hps]; exact covRows_len _ _ _
    obtain ⟨_, aa, u1, u2, rfl, hst⟩ := havj'
    -- a row is laid down
    have addrow : ∀ {h4 : Heap} {t4 : Nat} {rest : List Stmt} {p1 p2 p3 p4 p5 p6 p7 p8 p9 p10 p11 p12 p13 : Pos} {z1 z2 : Nat} {QF : Flow → Shared → Prop}, Fm H ⟨h, [], B⟩ B' (callEnvC (fdOf 15 (P.pm 15) (P.cd 15) (P.doc 15)) h.objs.size (P.fa 15)).locals (upd m' (Str.ofString "j") (.int ((j : Nat) : Int) tj)) ((I, .obj o) :: [(h'.objs.size, .list (vs ps))]) h4 →
        covP as kk j = true → (p2.endLine == p3.line) = true →
        (∀ h5 t5 B5 m5 W5, Fm H ⟨h, [], B⟩ B5 (callEnvC (fdOf 15 (P.pm 15) (P.cd 15) (P.doc 15)) h.objs.size (P.fa 15)).locals m5 ((I, .obj o) :: W5) h5 → (B.le B5 ∧ m5 (Str.ofString "addresses") = some (.ref la) ∧ m5 (Str.ofString "k") = some (.int ((kk : Nat) : Int) tk) ∧ m5 (Str.ofString "rows") = some (.ref h'.objs.size) ∧
            ∃ ps : List (Value × Nat), W5 = [(h'.objs.size, .list (vs ps))] ∧ ps.map (·.2) = covRows as kk (j + 1) ∧ ∀ p ∈ ps, IsRow B5 p.1 p.2) → wpAny (model prog w) (A.deeper (callEnvC (fdOf 15 (P.pm 15) (P.cd 15) (P.doc 15)) h.objs.size (P.fa 15))) (execs rest (callEnvC (fdOf 15 (P.pm 15) (P.cd 15) (P.doc 15)) h.objs.size (P.fa 15))) QF NoE (St s h5 t5)) →
        wpAny (model prog w) (A.deeper (callEnvC (fdOf 15 (P.pm 15) (P.cd 15) (P.doc 15)) h.objs.size (P.fa 15)))
          (execs (.Expr (.Call (.Attribute (.Name (Str.ofString "rows") p1) (Str.ofString "append") p2) [.Tuple [.Call (.Name (Str.ofString "len") p4) [.Subscript (.Subscript (.Name (Str.ofString "addresses") p5) (.Name (Str.ofString "j") p6) p7) (.Constant (.int 1) z1 p8) p9] [] p10, .Name (Str.ofString "j") p11] z2 p12] [] p3) p13 :: rest) (callEnvC (fdOf 15 (P.pm 15) (P.cd 15) (P.doc 15)) h.objs.size (P.fa 15))) QF NoE (St s h4 t4) := by
      intro h4 t4 rest p1 p2 p3 p4 p5 p6 p7 p8 p9 p10 p11 p12 p13 z1 z2 QF F4 hcov hline k4
      refine s_expr (m_append (r_name F4 e3 ⟨_, _, rfl, F4.at0 (i := 1) rfl, r_tuple (d_cons (r_bcall F4 hP.g (hP.bi _ (by decide)) hP.b hP.len (args_1 (r_sub (r_sub (r_name F4 e1 (r_name F4 rfl ?_)))))))⟩) rfl hline rfl)
      refine i_list (F4.sub _ _ (hBB _ _ hla)) (by omega) (by omega) (by rw [Int.toNat_natCast]; exact hvj) (r_int (i_tup (F4.sub _ _ hst) (by decide) (by decide) rfl ?_))
      refine r_lens (Nat.lt_trans path_lt (by decide)) (d_cons (r_name F4 rfl (d_nil ⟨by simp, ?_⟩)))
      have F5 := F4.pushB (o := { cls := .type "tuple", data := .seq [.int (((pathR aj).length : Nat) : Int) (t4 + 1 + 1), .int ((j : Nat) : Int) tj].toArray }) (k := .tup [.int (((pathR aj).length : Nat) : Int) (t4 + 1 + 1), .int ((j : Nat) : Int) tj]) ⟨0, rfl⟩ rfl
      have hle := Store.le_add (k := .tup [.int (((pathR aj).length : Nat) : Int) (t4 + 1 + 1), .int ((j : Nat) : Int) tj]) F4.size_none.2.1
      refine appendTo F5 1 rfl (by simp; omega) fun h6 F6 => ?_
      refine k4 _ _ _ _ _ F6 ⟨hBB.trans hle, e1, e2, e3, ps ++ [(.ref h4.objs.size, rowC as j)], by simp [vs], by rw [List.map_append, hps, covRows_succ, if_pos hcov]; rfl, fun p hp => ?_⟩
      rcases List.mem_append.mp hp with hp | hp
      · exact (hrows p hp).mono hle
      · rw [List.mem_singleton.mp hp]
        refine ⟨_, t4 + 1 + 1, tj, rfl, ?_⟩
        rw [Store.add_at]
        have q1 : rowC as j / 16 = (pathR aj).length := by unfold rowC; rw [hajD]; omega
        have q2 : rowC as j % 16 = j := by unfold rowC; omega
        rw [q1, q2]
    -- no row
    have norow : covP as kk j = false → ∀ {h4 : Heap} {t4 : Nat}, Fm H ⟨h, [], B⟩ B' (callEnvC (fdOf 15 (P.pm 15) (P.cd 15) (P.doc 15)) h.objs.size (P.fa 15)).locals (upd m' (Str.ofString "j") (.int ((j : Nat) : Int) tj)) ((I, .obj o) :: [(h'.objs.size, .list (vs ps))]) h4 →
        ∃ B'' m'' W'' h'' t'', St s h4 t4 = St s h'' t'' ∧ Fm H ⟨h, [], B⟩ B'' (callEnvC (fdOf 15 (P.pm 15) (P.cd 15) (P.doc 15)) h.objs.size (P.fa 15)).locals m'' ((I, .obj o) :: W'') h'' ∧ (B.le B'' ∧ m'' (Str.ofString "addresses") = some (.ref la) ∧ m'' (Str.ofString "k") = some (.int ((kk : Nat) : Int) tk) ∧ m'' (Str.ofString "rows") = some (.ref h'.objs.size) ∧
          ∃ ps : List (Value × Nat), W'' = [(h'.objs.size, .list (vs ps))] ∧ ps.map (·.2) = covRows as kk (j + 1) ∧ ∀ p ∈ ps, IsRow B'' p.1 p.2) := fun hcov h4 t4 F4 =>
      ⟨B', _, _, h4, t4, rfl, F4, hBB, e1, e2, e3, ps, rfl, by rw [hps, covRows_succ, hcov]; simp, hrows⟩
    refine s_if (t_cmp (r_sub (r_name F3 e1 (r_name F3 rfl (i_list hla3 (by omega) (by omega) (by rw [Int.toNat_natCast]; exact hvj) (r_sub (r_name F3 e1 (r_name F3 e2 (i_list hla3 (by omega) (by omega) (by rw [Int.toNat_natCast]; exact hvk) (c_eqA F3.sub (havj.mono hBB) havk' hA'.unit (t_bool ?_)))))))))))
    by_cases heq : aj = ak
    · refine ifT (decide_eq_true heq) ?_
      refine s_if (t_cmp (r_name F3 rfl (r_name F3 e2 (r_lt (t_bool ?_)))))
      have hcov : covP as kk j = decide (j < kk) := by unfold covP; rw [hajD, hakD, if_pos heq]
      by_cases hjk : j < kk
      · refine ifT (decide_eq_true (by omega)) ?_
        refine addrow F3 (by rw [hcov, decide_eq_true hjk]) rfl fun h5 t5 B5 m5 W5 F5 J5 => s_nil (Then.next (s_nil (Then.next (s_nil ⟨.inl rfl, B5, m5, W5, h5, t5, rfl, F5, J5⟩))))
      · refine ifF (by rw [decide_eq_false (by omega)]; decide) (s_nil (Then.next (s_nil (Then.next (s_nil ⟨.inl rfl, norow (by rw [hcov, decide_eq_false hjk]) F3⟩)))))
    · refine ifF (by rw [decide_eq_false heq]; decide) ?_
      have hcov : covP as kk j = over aj ak := by unfold covP; rw [hajD, hakD, if_neg heq]
      refine s_if (t_call (r_call F3 hP.g (hP.fn 14 (by decide)) (hP.fo 14 (by decide)) (hP.fd 14 (by decide)) (args_2 (r_sub (r_name F3 e1 (r_name F3 rfl (i_list hla3 (by omega) (by omega) (by rw [Int.toNat_natCast]; exact hvj) (r_sub (r_name F3 e1 (r_name F3 e2 (i_list hla3 (by omega) (by omega) (by rw [Int.toNat_natCast]; exact hvk) ⟨F3.base, r_body ?_⟩)))))))))))
      refine above_ok (k := k + 1) hP hA' F3.pre0 (havj.mono hBB) havk' heq fun h4 t4 b4 => t_bool ?_
      have F4 := F3.back b4
      cases hov : over aj ak with
      | true => exact ifT rfl (addrow F4 (by rw [hcov, hov]) rfl fun h5 t5 B5 m5 W5 F5 J5 => s_nil (Then.next (s_nil (Then.next (s_nil ⟨.inl rfl, B5, m5, W5, h5, t5, rfl, F5, J5⟩)))))
      | false => exact ifF (by decide) (s_nil (Then.next (s_nil (Then.next (s_nil ⟨.inl rfl, norow (by rw [hcov, hov]) F4⟩)))))
  · rintro B' m' W' h3 t3 ⟨hBB, e1, e2, e3, ps, rfl, hps, hrows⟩ F3
    have hpl : ps.length ≤ as.length := by rw [← List.length_map (f := (·.2)) (as := ps), hps]; exact covRows_len _ _ _
    have hne : ps.Pairwise fun a b => a.2 ≠ b.2 := by
      have := covRows_ne as kk as.length (by omega)
      rw [← hps, List.pairwise_map] at this
      exact this
    refine s_ret (r_comp [] (r_bcall F3 hP.g (hP.bi _ (by decide)) hP.b hP.sorted (args_1 (r_name F3 e3 (b_sorted (k := k + 1) F3 hA' (F3.at0 (i := 0) rfl) (srt_rows hrows hne) (by omega) fun h4 D qs hD hperm hsort F4 => ?_)))))
    have hql : qs.length < 16 := by rw [hperm.length_eq]; omega
    refine g_comp (H := H) (e := ⟨h, [], B⟩) F4 (over_list hA'.handled (F4.at0 (i := 0) rfl)) (by rw [vs_len]; omega) (fun hh _ hw => hw _ (.head _))
      (fun i B'' ys => AllR IsInt ys ((qs.map (·.2 % 16)).take i)) (by simpa using AllR.nil) (fun i B'' ys q => by rw [q.1]; simp; omega) ?_ ?_
    · rintro i v B'' ys m5 h5 t5 C I o D' hi hvi hG F5 hm
      rw [vs_len] at hi
      have hq : qs[i]? = some qs[i] := List.getElem?_eq_getElem hi
      have : v = qs[i].1 := by rw [vs_get hq] at hvi; exact (Option.some.inj hvi).symm
      subst this
      obtain ⟨a, u1, u2, hqa, hqt⟩ := hrows _ (hperm.mem_iff.mp (List.getElem_mem hi))
      rw [hqa] at hm
      refine no_tests (ifT rfl (r_sub (r_name F5 hm (r_int (i_tup (F5.sub _ _ (F5.grow _ _ hqt)) (by decide) (by decide) rfl ⟨_, _, _, rfl, F5, ?_⟩)))))
      have : (qs.map (·.2 % 16)).take (i + 1) = (qs.map (·.2 % 16)).take i ++ [qs[i].2 % 16] := by
        rw [List.take_add_one]; simp [hi]
      rw [this]
      exact hG.snoc ⟨_, rfl⟩
    · rintro B'' ys h5 t5 D' hG hD' F5
      rw [vs_len] at hG
      have F6 := F5.freeze (by simp)
      have hle : B''.le (B''.add D' (.list ys)) := Store.le_add (F5.outB _ (.tail _ (.head _)))
      have hq2 : (qs.map (·.2 % 16)).take qs.length = (qs.map (·.2)).map (· % 16) := by
        rw [List.take_of_length_le (by simp), List.map_map]; rfl
      rw [hq2] at hG
      refine go _ _ _ _ (qs.map (·.2)) F6.leave ?_ ?_ ⟨D', ys, rfl, Store.add_at .., hG⟩
      · rw [← hps]; exact hperm.map _
      · rw [List.pairwise_map]; exact hsort
end
end Mine

namespace Mine
open PySem PySem.Calls PyProof.Rows PySem.SeqAt PySem.MeetsSeq3 PySem.W

def IsAns (v : Value) (b : Bool) : Prop := ∃ t, v = .str (askS b) t
def IsAnss (B : Store) (v : Value) (bs : List Bool) : Prop := ∃ a vs, v = .ref a ∧ B a = some (.list vs) ∧ AllR IsAns vs bs
theorem IsAnss.mono {B B' : Store} {v : Value} {bs : List Bool} (h : IsAnss B v bs) (hb : B.le B') : IsAnss B' v bs := by
  obtain ⟨a, vs, e, h2, h3⟩ := h
  exact ⟨a, vs, e, hb _ _ h2, h3⟩
theorem keyCodes_ne (as : List Nat) (hn : as.length < 16) : (keyCodes as).Pairwise (· ≠ ·) := by
  rw [List.pairwise_iff_getElem]
  intro i j hi hj hij
  simp only [keyCodes, List.getElem_mapIdx]
  simp [keyCodes] at hi hj
  omega
theorem keyCodes_mem {as : List Nat} (hn : as.length < 16) {c : Nat} (hc : c ∈ keyCodes as) : as[c % 16]? = some (c / 16) := by
  obtain ⟨i, hi⟩ := List.mem_iff_getElem?.mp hc
  have hlt : i < as.length := by rw [← keyCodes_len as]; exact (List.getElem?_eq_some_iff.mp hi).1
  have h1 := keyCodes_get (List.getElem?_eq_getElem hlt)
  rw [h1] at hi
  have hc' : c = as[i] * 16 + i := (Option.some.inj hi).symm
  have e1 : c % 16 = i := by omega
  have e2 : c / 16 = as[i] := by omega
  rw [e1, e2]; exact List.getElem?_eq_getElem hlt

section
variable {prog : Program} {w : World} {A : Around} {E : Value → Shared → Prop} {s : Shared} {H : Heap} {P : Pg} {e : Entry} {B : Store} {L : Addr} {m : Str → Option Value} {W : List (Addr × Kd)} {h : Heap} {t : Nat} {env : Env} {Q : Value → Shared → Prop} {QB : Bool → Shared → Prop} {K : Frag} {C fI fS : Addr}
set_option maxHeartbeats 2000000

theorem backs_ok {R : Result → Shared → Prop} {k : Nat} {v : Value} {as : List Nat} {kk ak : Nat} {tk : Tok} (hP : PgOk H P) (hA : Rm A (k + 3)) (pre : Pre H B [] h) (hv : IsAdrs B v as) (hak : as[kk]? = some ak)
    (go : ∀ h' t' B' v (cs : List Nat), Back B [] h h' B' → cs.Perm ((keyCodes as).filter fun c => decide (c < ak * 16 + kk)) → cs.Pairwise (· < ·) → IsAnss B' v (cs.map fun c => decide (c / 16 = ak)) → R (.ok (.ret v)) (St s h' t')) :
    codeAny (model prog w) A (.call (.ref (P.fa 16)) ⟨[v, .int ((kk : Nat) : Int) tk], []⟩) R (St s h t) := by
  have hv' := hv
  obtain ⟨hn, la, avs, rfl, hla, hal⟩ := hv'
  have hkk : kk < as.length := (List.getElem?_eq_some_iff.mp hak).1
  obtain ⟨vk, hvk, havk⟩ := hal.get hak
  refine enterD 16 [(Str.ofString "addresses", .ref la), (Str.ofString "k", .int ((kk : Nat) : Int) tk)] hP hA pre (by decide) rfl rfl (by decide) rfl rfl rfl (fun env h' t' he F0 hA' => ?_)
  generalize hel : (callEnvC (fdOf 16 (P.pm 16) (P.cd 16) (P.doc 16)) h.objs.size (P.fa 16)) = env0 at he
  subst he
  subst hel
  have F : Fm H ⟨h, [], B⟩ B (callEnvC (fdOf 16 (P.pm 16) (P.cd 16) (P.doc 16)) h.objs.size (P.fa 16)).locals _ [(h.objs.size + 1 + 1 + 1, .cell none), (h.objs.size + 1 + 1, .cell (some (.int ((kk : Nat) : Int) tk))), (h.objs.size + 1, .cell (some (.ref la)))] h' := F0
  refine s_assign (r_call F hP.g (hP.fn 11 (by decide)) (hP.fo 11 (by decide)) (hP.fd 11 (by decide)) (args_1 (r_cname F 2 rfl ⟨F.base, r_body (keys_ok (k := k + 1) hP hA' F.pre0 hv fun h1 t1 B1 kv b1 hkv => ?_)⟩)))
  have F1 := F.back b1
  have hB1 : B.le B1 := b1.grow
  obtain ⟨lk, kvs, rfl, hlk, hkl⟩ := hkv
  refine r_storec F1 0 rfl fun h2 F2 => ?_
  have F2' : Fm H ⟨h, [], B⟩ B1 (callEnvC (fdOf 16 (P.pm 16) (P.cd 16) (P.doc 16)) h.objs.size (P.fa 16)).locals _ [(h.objs.size + 1 + 1 + 1, .cell (some (.ref lk))), (h.objs.size + 1 + 1, .cell (some (.int ((kk : Nat) : Int) tk))), (h.objs.size + 1, .cell (some (.ref la)))] h2 := F2
  have hkc : (keyCodes as)[kk]? = some (ak * 16 + kk) := keyCodes_get hak
  obtain ⟨vkk, hvkk, hkkk⟩ := hkl.get hkc
  have hkn : kvs.length = as.length := hkl.1.trans (keyCodes_len as)
  refine s_assign (r_bcall F2' hP.g (hP.bi _ (by decide)) hP.b hP.sorted (args_1 (r_comp [(Str.ofString "keys", h.objs.size + 1 + 1 + 1), (Str.ofString "k", h.objs.size + 1 + 1)] (r_cname F2' 0 rfl ?_))))
  refine g_comp (H := H) (e := ⟨h, [], B⟩) F2' (over_list hA'.handled (F2'.sub _ _ hlk)) (by omega) (fun hh hb _ => hb _ _ hlk)
    (fun i B' ys => B' = B1 ∧ ∃ ps : List (Value × Nat), ys = vs ps ∧ ps.map (·.2) = ((keyCodes as).take i).filter (fun c => decide (c < ak * 16 + kk)) ∧ ∀ p ∈ ps, IsKey B1 p.1 p.2)
    ⟨rfl, [], rfl, by simp, fun p hp => nomatch hp⟩ (fun i B' ys q => by
      obtain ⟨_, ps, rfl, q, _⟩ := q
      rw [vs_len, ← List.length_map (f := (·.2)) (as := ps), q]
      exact Nat.le_trans (List.length_filter_le _ _) (by simp; omega)) ?_ ?_
  · rintro i v B' ys m5 h5 t5 C I o D' hi hvi ⟨rfl, ps, rfl, hps, hpk⟩ F5 hm
    rw [hkn] at hi
    obtain ⟨ai, hai⟩ : ∃ a, as[i]? = some a := ⟨_, List.getElem?_eq_getElem hi⟩
    have hci := keyCodes_get hai
    have hki := hkl.2 i v _ hvi hci
    have hlk5 := F5.sub _ _ hlk
    refine one_test (t_cmp (r_name F5 hm (r_sub (r_cname F5 2 rfl (r_cname F5 3 rfl (i_list hlk5 (by omega) (by omega) (by rw [Int.toNat_natCast]; exact hvkk) ?_))))))
    refine key_lt B' _ _ _ _ hki hkkk _ _ _ _ _ _ _ hA' F5.sub fun t6 => t_bool ?_
    have htk : (keyCodes as).take (i + 1) = (keyCodes as).take i ++ [ai * 16 + i] := by rw [List.take_add_one, hci]; rfl
    by_cases hlt : ai * 16 + i < ak * 16 + kk
    · refine ifT (decide_eq_true hlt) (r_name F5 hm ⟨_, _, _, rfl, F5, rfl, ps ++ [(v, ai * 16 + i)], by simp [vs], ?_, fun p hp => ?_⟩)
      · rw [htk, List.filter_append, List.map_append, hps]
        simp [hlt]
      · rcases List.mem_append.mp hp with hp | hp
        · exact hpk p hp
        · rw [List.mem_singleton.mp hp]; exact hki
    · refine ifF (by rw [decide_eq_false hlt]; decide) ⟨_, _, _, rfl, F5, rfl, ps, rfl, ?_, hpk⟩
      rw [htk, List.filter_append, hps]
      simp [hlt]
  · rintro B' ys h3 t3 D ⟨rfl, ps, rfl, hps, hpk⟩ hD F3
    rw [hkn, ← keyCodes_len as, List.take_length] at hps
    have hpl : ps.length < 16 := by
      rw [← List.length_map (f := (·.2)) (as := ps), hps]
      exact Nat.lt_of_le_of_lt (List.length_filter_le _ _) (by rw [keyCodes_len]; exact hn)
    have hne : ps.Pairwise fun a b => a.2 ≠ b.2 := by
      have := (keyCodes_ne as hn).filter (fun c => decide (c < ak * 16 + kk))
      rw [← hps, List.pairwise_map] at this
      exact this
    refine b_sorted (k := k + 1) F3 hA' (F3.at0 (i := 0) rfl) (srt_keys hpk hne) (by omega) fun h4 D4 qs hD4 hperm hsort F4 => ?_
    refine r_store F4 fun h5 F5 => ?_
    have hql : qs.length < 16 := by rw [hperm.length_eq]; omega
    refine s_ret (r_comp [(Str.ofString "k", h.objs.size + 1 + 1), (Str.ofString "addresses", h.objs.size + 1)] (r_name F5 rfl ?_))
    refine g_comp (H := H) (e := ⟨h, [], B⟩) F5 (over_list hA'.handled (F5.at0 (i := 0) rfl)) (by rw [vs_len]; omega) (fun hh _ hw => hw _ (.head _))
      (fun i B'' ys => AllR IsAns ys ((qs.map fun p => decide (p.2 / 16 = ak)).take i)) (by simpa using AllR.nil) (fun i B'' ys q => by rw [q.1]; simp; omega) ?_ ?_
    · rintro i v B'' ys m6 h6 t6 C I o D' hi hvi hG F6 hm
      rw [vs_len] at hi
      have hq : qs[i]? = some qs[i] := List.getElem?_eq_getElem hi
      have hve : v = qs[i].1 := by rw [vs_get hq] at hvi; exact (Option.some.inj hvi).symm
      have hmem : qs[i] ∈ ps := hperm.mem_iff.mp (List.getElem_mem hi)
      obtain ⟨hc, a, b, u1, u2, ws, hqa, hqt, hqb, hqw⟩ := hpk _ hmem
      have hcm : qs[i].2 ∈ keyCodes as := by
        have : qs[i].2 ∈ ps.map (·.2) := List.mem_map_of_mem hmem
        rw [hps] at this
        exact (List.mem_filter.mp this).1
      have hai := keyCodes_mem hn hcm
      obtain ⟨vi, hvi2, havi⟩ := hal.get hai
      rw [hve, hqa] at hm
      have hgr : B.le B'' := hB1.trans F6.grow
      have hla6 := F6.sub _ _ (hgr _ _ hla)
      refine no_tests (ifT rfl (r_ifexp (t_cmp (r_sub (r_cname F6 6 rfl (r_sub (r_name F6 hm (r_int (i_tup (F6.sub _ _ (F6.grow _ _ hqt)) (by decide) (by decide) rfl ?_)))))))))
      refine i_list hla6 (by omega) (by omega) (by rw [Int.toNat_natCast]; exact hvi2) (r_sub (r_cname F6 6 rfl (r_cname F6 5 rfl (i_list hla6 (by omega) (by omega) (by rw [Int.toNat_natCast]; exact hvk) ?_))))
      refine c_eqA F6.sub (havi.mono hgr) (havk.mono hgr) hA'.unit (t_bool ?_)
      have htk : (qs.map fun p => decide (p.2 / 16 = ak)).take (i + 1) = (qs.map fun p => decide (p.2 / 16 = ak)).take i ++ [decide (qs[i].2 / 16 = ak)] := by
        rw [List.take_add_one]; simp [hi]
      by_cases heq : qs[i].2 / 16 = ak
      · refine ifT (decide_eq_true heq) (r_str ⟨_, _, _, rfl, F6, ?_⟩)
        rw [htk, decide_eq_true heq]
        exact hG.snoc ⟨_, rfl⟩
      · refine ifF (by rw [decide_eq_false heq]; decide) (r_str ⟨_, _, _, rfl, F6, ?_⟩)
        rw [htk, decide_eq_false heq]
        exact hG.snoc ⟨_, rfl⟩
    · rintro B'' ys h6 t6 D' hG hD' F6
      rw [vs_len] at hG
      have F7 := F6.freeze (by simp)
      have hq2 : (qs.map fun p => decide (p.2 / 16 = ak)).take qs.length = (qs.map (·.2)).map fun c => decide (c / 16 = ak) := by
        rw [List.take_of_length_le (by simp), List.map_map]; rfl
      rw [hq2] at hG
      refine go _ _ _ _ (qs.map (·.2)) F7.leave ?_ ?_ ⟨D', ys, rfl, Store.add_at .., hG⟩
      · rw [← hps]; exact hperm.map _
      · rw [List.pairwise_map]; exact hsort
end
end Mine

namespace Mine
open PySem PySem.Calls PyProof.Rows PySem.SeqAt PySem.MeetsSeq3 PySem.W

/-- a list whose values stand for the data -/
def IsL' {α : Type} (R : Value → α → Prop) (B : Store) (v : Value) (xs : List α) : Prop := ∃ a vs, v = .ref a ∧ B a = some (.list vs) ∧ AllR R vs xs
theorem IsL'.mono {α : Type} {R R' : Value → α → Prop} {B B' : Store} {v : Value} {xs : List α} (h : IsL' R B v xs) (hb : B.le B') (hr : ∀ v x, R v x → R' v x) : IsL' R' B' v xs := by
  obtain ⟨a, vs, e, h1, h2⟩ := h
  exact ⟨a, vs, e, hb _ _ h1, h2.mono hr⟩
/-- what _law_told and _law_due give -/
def IsRes (B : Store) (v : Value) (hcs ocs : List Nat) (pls : List (List Nat)) (bks : List (List Bool)) : Prop :=
  ∃ a v1 v2 v3 v4, v = .ref a ∧ B a = some (.list [v1, v2, v3, v4]) ∧ IsL' (IsKey B) B v1 hcs ∧ IsL' (IsKey B) B v2 ocs ∧ IsL' (IsInts B) B v3 pls ∧ IsL' (IsAnss B) B v4 bks
theorem IsRes.mono {B B' : Store} {v : Value} {hcs ocs : List Nat} {pls : List (List Nat)} {bks : List (List Bool)} (h : IsRes B v hcs ocs pls bks) (hb : B.le B') : IsRes B' v hcs ocs pls bks := by
  obtain ⟨a, v1, v2, v3, v4, e, h0, h1, h2, h3, h4⟩ := h
  exact ⟨a, v1, v2, v3, v4, e, hb _ _ h0, h1.mono hb fun _ _ q => q.mono hb, h2.mono hb fun _ _ q => q.mono hb, h3.mono hb fun _ _ q => q.mono hb, h4.mono hb fun _ _ q => q.mono hb⟩

def SpecL {α : Type} (Sp : Nat → α → Prop) (i : Nat) (xs : List α) : Prop := xs.length = i ∧ ∀ (k : Nat) (x : α), xs[k]? = some x → Sp k x
theorem SpecL.nil {α : Type} {Sp : Nat → α → Prop} : SpecL Sp 0 [] := ⟨rfl, fun k x h => by simp at h⟩
theorem SpecL.snoc {α : Type} {Sp : Nat → α → Prop} {i : Nat} {xs : List α} {x : α} (h : SpecL Sp i xs) (hx : Sp i x) : SpecL Sp (i + 1) (xs ++ [x]) := by
  refine ⟨by simp [h.1], fun k y hy => ?_⟩
  by_cases hk : k < xs.length
  · rw [List.getElem?_append_left hk] at hy
    exact h.2 k y hy
  · have hk' : k = xs.length := by
      have := (List.getElem?_eq_some_iff.mp hy).1
      simp at this; omega
    subst hk'
    rw [List.getElem?_append_right (Nat.le_refl _)] at hy
    simp at hy
    rw [← hy, h.1]; exact hx
def CovSpec (as : List Nat) (k : Nat) (pl : List Nat) : Prop := ∃ cs : List Nat, cs.Perm (covRows as k as.length) ∧ cs.Pairwise (· < ·) ∧ pl = cs.map (· % 16)
def BackSpec (as : List Nat) (k : Nat) (bl : List Bool) : Prop := ∃ (ak : Nat) (cs : List Nat), as[k]? = some ak ∧ cs.Perm ((keyCodes as).filter fun c => decide (c < ak * 16 + k)) ∧ cs.Pairwise (· < ·) ∧ bl = cs.map fun c => decide (c / 16 = ak)

section
variable {prog : Program} {w : World} {A : Around} {E : Value → Shared → Prop} {s : Shared} {H : Heap} {P : Pg} {e : Entry} {B : Store} {L : Addr} {m : Str → Option Value} {W : List (Addr × Kd)} {h : Heap} {t : Nat} {env : Env} {Q : Value → Shared → Prop} {QB : Bool → Shared → Prop} {K : Frag} {C fI fS : Addr}
set_option maxHeartbeats 2000000

theorem due_ok {R : Result → Shared → Prop} {k : Nat} {v : Value} {as : List Nat} (hP : PgOk H P) (hA : Rm A (k + 4)) (pre : Pre H B [] h) (hv : IsAdrs B v as)
    (go : ∀ h' t' B' v (ocs : List Nat) pls bks, Back B [] h h' B' → ocs.Perm (keyCodes as) → ocs.Pairwise (· < ·) → SpecL (CovSpec as) as.length pls → SpecL (BackSpec as) as.length bks → IsRes B' v [] ocs pls bks → R (.ok (.ret v)) (St s h' t')) :
    codeAny (model prog w) A (.call (.ref (P.fa 17)) ⟨[v], []⟩) R (St s h t) := by
  have hv' := hv
  obtain ⟨hn, la, avs, rfl, hla, hal⟩ := hv'
  refine enterD 17 [(Str.ofString "addresses", .ref la)] hP hA pre (by decide) rfl rfl (by decide) rfl rfl rfl (fun env h' t' he F0 hA' => ?_)
  generalize hel : (callEnvC (fdOf 17 (P.pm 17) (P.cd 17) (P.doc 17)) h.objs.size (P.fa 17)) = env0 at he
  subst he
  subst hel
  have F : Fm H ⟨h, [], B⟩ B (callEnvC (fdOf 17 (P.pm 17) (P.cd 17) (P.doc 17)) h.objs.size (P.fa 17)).locals _ [(h.objs.size + 1, .cell (some (.ref la)))] h' := F0
  have hlen : (avs.length : Int) = ((as.length : Nat) : Int) := by rw [hal.1]
  refine s_acomp [(Str.ofString "addresses", h.objs.size + 1)] (r_tcall F hP.g (hP.bi _ (by decide)) hP.b hP.range (args_1 (r_bcall F hP.g (hP.bi _ (by decide)) hP.b hP.len (args_1 (r_cname F 0 rfl (r_len (F.sub _ _ hla) (by rw [hal.1]; omega) ?_))))))
  rw [hlen]
  refine b_range F fun h1 rg t₀ u₀ v₀ hr F1 => ?_
  refine g_compA (H := H) (e := ⟨h, [], B⟩) F1 (over_range hA'.handled hr (by omega)) (by omega) (fun _ _ _ => trivial)
    (fun i B' ys => ∃ pls, SpecL (CovSpec as) i pls ∧ AllR (IsInts B') ys pls) ⟨[], SpecL.nil, AllR.nil⟩ (fun i B' ys q => by obtain ⟨pls, q1, q2⟩ := q; rw [q2.1, q1.1]; exact Nat.le_refl _) ?_ ?_
  · rintro i v B' ys m5 h5 t5 C I o D' hi ⟨ti, rfl⟩ ⟨pls, hp1, hp2⟩ F5 hm
    refine no_tests (ifT rfl (r_call F5 hP.g (hP.fn 15 (by decide)) (hP.fo 15 (by decide)) (hP.fd 15 (by decide)) (args_2 (r_cname F5 2 rfl (r_name F5 hm ⟨F5.base, r_body ?_⟩)))))
    refine covers_ok (k := k) hP hA' F5.pre0 (hv.mono F5.grow) hi fun h6 t6 B6 v6 cs b6 hc1 hc2 hc3 => ?_
    exact ⟨B6, h6, t6, rfl, F5.back b6, pls ++ [cs.map (· % 16)], hp1.snoc ⟨cs, hc1, hc2, rfl⟩, (hp2.mono fun _ _ q => q.mono b6.grow).snoc hc3⟩
  rintro B2 ys2 h2 t2 D2 ⟨pls, hp1, hp2⟩ hD2 F2
  have F2' := F2.freeze (by simp)
  have hB2 : B.le B2 := F2.grow
  have hle2 : B2.le (B2.add D2 (.list ys2)) := Store.le_add (F2.outB _ (.tail _ (.head _)))
  have hpl : IsL' (IsInts (B2.add D2 (.list ys2))) (B2.add D2 (.list ys2)) (.ref D2) pls := ⟨D2, ys2, rfl, Store.add_at .., hp2.mono fun _ _ q => q.mono hle2⟩
  generalize hB3 : B2.add D2 (.list ys2) = B3 at *
  have hBB3 : B.le B3 := hB2.trans hle2
  refine s_acomp [(Str.ofString "addresses", h.objs.size + 1)] (r_tcall F2' hP.g (hP.bi _ (by decide)) hP.b hP.range (args_1 (r_bcall F2' hP.g (hP.bi _ (by decide)) hP.b hP.len (args_1 (r_cname F2' 0 rfl (r_len (F2'.sub _ _ (hBB3 _ _ hla)) (by rw [hal.1]; omega) ?_))))))
  rw [hlen]
  refine b_range F2' fun h3 rg t₀ u₀ v₀ hr F3 => ?_
  refine g_compA (H := H) (e := ⟨h, [], B⟩) F3 (over_range hA'.handled hr (by omega)) (by omega) (fun _ _ _ => trivial)
    (fun i B' ys => B3.le B' ∧ ∃ bks, SpecL (BackSpec as) i bks ∧ AllR (IsAnss B') ys bks) ⟨Store.le.refl _, [], SpecL.nil, AllR.nil⟩ (fun i B' ys q => by obtain ⟨_, bks, q1, q2⟩ := q; rw [q2.1, q1.1]; exact Nat.le_refl _) ?_ ?_
  · rintro i v B' ys m5 h5 t5 C I o D' hi ⟨ti, rfl⟩ ⟨hg3, bks, hp1, hp2⟩ F5 hm
    refine no_tests (ifT rfl (r_call F5 hP.g (hP.fn 16 (by decide)) (hP.fo 16 (by decide)) (hP.fd 16 (by decide)) (args_2 (r_cname F5 2 rfl (r_name F5 hm ⟨F5.base, r_body ?_⟩)))))
    obtain ⟨ai, hai⟩ : ∃ a, as[i]? = some a := ⟨_, List.getElem?_eq_getElem hi⟩
    refine backs_ok (k := k) hP hA' F5.pre0 (hv.mono (hBB3.trans F5.grow)) hai fun h6 t6 B6 v6 cs b6 hc1 hc2 hc3 => ?_
    exact ⟨B6, h6, t6, rfl, F5.back b6, hg3.trans b6.grow, bks ++ [cs.map fun c => decide (c / 16 = ai)], hp1.snoc ⟨ai, cs, hai, hc1, hc2, rfl⟩, (hp2.mono fun _ _ q => q.mono b6.grow).snoc hc3⟩
  rintro B4 ys4 h4 t4 D4 ⟨hB34, bks, hb1, hb2⟩ hD4 F4
  have F4' := F4.freeze (by simp)
  have hle4 : B4.le (B4.add D4 (.list ys4)) := Store.le_add (F4.outB _ (.tail _ (.head _)))
  have hbk : IsL' (IsAnss (B4.add D4 (.list ys4))) (B4.add D4 (.list ys4)) (.ref D4) bks := ⟨D4, ys4, rfl, Store.add_at .., hb2.mono fun _ _ q => q.mono hle4⟩
  generalize hB5 : B4.add D4 (.list ys4) = B5 at *
  have hpl5 := hpl.mono (hB34.trans hle4) (R' := IsInts B5) fun _ _ q => q.mono (hB34.trans hle4)
  refine s_ret (r_listd (d_cons (r_listd (d_nil ⟨by simp, d_cons ?_⟩))))
  have F5 := F4'.pushB (o := { cls := .type "list", data := .seq ([] : List Value).toArray }) (k := .list []) ⟨0, rfl⟩ rfl
  have hle5 := Store.le_add (k := .list []) F4'.size_none.2.1
  have hem : B5.add h4.objs.size (.list []) h4.objs.size = some (.list []) := Store.add_at ..
  generalize hB6 : B5.add h4.objs.size (.list []) = B6 at *
  have hB06 : B.le B6 := hBB3.trans (hB34.trans (hle4.trans hle5))
  refine r_bcall F5 hP.g (hP.bi _ (by decide)) hP.b hP.sorted (args_1 (r_call F5 hP.g (hP.fn 11 (by decide)) (hP.fo 11 (by decide)) (hP.fd 11 (by decide)) (args_1 (r_cname F5 0 rfl ⟨F5.base, r_body ?_⟩))))
  refine keys_ok (k := k + 2) hP hA' F5.pre0 (hv.mono hB06) fun h6 t6 B7 kv b7 hkv => ?_
  have F6 := F5.back b7
  have hle7 : B6.le B7 := b7.grow
  obtain ⟨lk, kvs, rfl, hlk, hkl⟩ := hkv
  obtain ⟨ps, hps1, hps2, hps3⟩ := hkl.pairs
  have hpl : ps.length < 16 := by
    rw [← List.length_map (f := (·.2)) (as := ps), hps2, keyCodes_len]; exact hn
  have hne : ps.Pairwise fun a b => a.2 ≠ b.2 := by
    have := keyCodes_ne as hn
    rw [← hps2, List.pairwise_map] at this
    exact this
  have hlk' : At h6 lk (.list (vs ps)) := by
    show At h6 lk (.list (ps.map (·.1)))
    rw [hps1]; exact F6.sub _ _ hlk
  refine b_sorted (k := k + 2) F6 hA' hlk' (srt_keys hps3 hne) (by omega) fun h7 D7 qs hD7 hperm hsort F7 => ?_
  have F7' := F7.freeze (by simp)
  have hle8 := Store.le_add (k := .list (vs qs)) (F7.outB _ (.tail _ (.head _)))
  have hks : IsL' (IsKey (B7.add D7 (.list (vs qs)))) (B7.add D7 (.list (vs qs))) (.ref D7) (qs.map (·.2)) := ⟨D7, vs qs, rfl, Store.add_at .., AllR.of_pairs fun p hp => (hps3 p (hperm.mem_iff.mp hp)).mono hle8⟩
  generalize hB8 : B7.add D7 (.list (vs qs)) = B8 at *
  refine d_cons (r_name F7' rfl (d_cons (r_name F7' rfl (d_nil ⟨by simp, ?_⟩))))
  have F8 := F7'.pushB (o := { cls := .type "list", data := .seq [.ref h4.objs.size, .ref D7, .ref D2, .ref D4].toArray }) (k := .list [.ref h4.objs.size, .ref D7, .ref D2, .ref D4]) ⟨0, rfl⟩ rfl
  have hle9 := Store.le_add (k := .list [.ref h4.objs.size, .ref D7, .ref D2, .ref D4]) F7'.size_none.2.1
  have l59 := hle5.trans (hle7.trans (hle8.trans hle9))
  refine go _ _ _ _ (qs.map (·.2)) pls bks F8.leave (by rw [← hps2]; exact hperm.map _) (by rw [List.pairwise_map]; exact hsort) hp1 hb1 ⟨_, _, _, _, _, rfl, Store.add_at .., ⟨_, [], rfl, (hle7.trans (hle8.trans hle9)) _ _ hem, AllR.nil⟩, hks.mono hle9 fun _ _ q => q.mono hle9, hpl5.mono l59 fun _ _ q => q.mono l59, hbk.mono l59 fun _ _ q => q.mono l59⟩
end
end Mine

namespace Mine
open PySem

abbrev PL := List (Value × Nat)
def V (xs : PL) (i : Nat) : Nat := (xs.getD i (.none, 0)).2
inductive Sub (p : Nat) : Nat → Prop
  | refl : Sub p p
  | child {i : Nat} : Sub p ((i - 1) / 2) → 0 < i → Sub p i
theorem Sub.le {p q : Nat} (h : Sub p q) : p ≤ q := by
  induction h with
  | refl => exact Nat.le_refl _
  | child _ h0 ih => omega
theorem Sub.up {p q : Nat} (h : Sub p q) (hlt : p < q) : Sub p ((q - 1) / 2) := by
  cases h with
  | refl => omega
  | child h _ => exact h
theorem Sub.zero (q : Nat) : Sub 0 q := by
  induction q using Nat.strongRecOn with
  | ind q ih =>
    by_cases h : q = 0
    · subst h; exact .refl
    · exact .child (ih _ (by omega)) (by omega)
theorem getD_set {xs : PL} {i : Nat} (hi : i < xs.length) (v d : Value × Nat) (j : Nat) : (xs.set i v).getD j d = if j = i then v else xs.getD j d := by
  simp only [List.getD_eq_getElem?_getD]
  by_cases h : j = i
  · subst h; rw [if_pos rfl, List.getElem?_set_self hi]; rfl
  · rw [if_neg h, List.getElem?_set_ne (Ne.symm h)]
theorem V_set {xs : PL} {i : Nat} (hi : i < xs.length) (v : Value × Nat) (j : Nat) : V (xs.set i v) j = if j = i then v.2 else V xs j := by
  unfold V
  rw [getD_set hi]
  split <;> rfl
theorem set_swap {xs : PL} {i j : Nat} (hi : i < xs.length) (hj : j < xs.length) (hij : i ≠ j) (c d : Value × Nat) : ((xs.set i (xs.getD j d)).set j c).Perm (xs.set i c) := by
  have h1 : i < (xs.set i c).length := by simpa using hi
  have h2 : j < (xs.set i c).length := by simpa using hj
  have key := List.set_set_perm h1 h2
  have e1 : (xs.set i c)[j] = xs.getD j d := by
    rw [List.getElem_set_ne hij]; simp [List.getD, hj]
  have e2 : (xs.set i c)[i] = c := List.getElem_set_self _
  rw [e1, e2, List.set_set] at key
  exact key

structure Hole (n p : Nat) (xs : PL) (q : Nat) : Prop where
  len : xs.length = n
  qn : q < n
  sub : Sub p q
  a : ∀ i, 0 < i → i < n → p ≤ (i - 1) / 2 → i ≠ q → (i - 1) / 2 ≠ q → V xs ((i - 1) / 2) ≤ V xs i
  b : ∀ i, 0 < i → i < n → (i - 1) / 2 = q → p < q → V xs ((q - 1) / 2) ≤ V xs i
structure HeapFrom (n p : Nat) (xs : PL) : Prop where
  len : xs.length = n
  h : ∀ i, 0 < i → i < n → p ≤ (i - 1) / 2 → V xs ((i - 1) / 2) ≤ V xs i

theorem Hole.put {n p : Nat} {xs : PL} {q : Nat} (h : Hole n p xs q) (c : Value × Nat) : Hole n p (xs.set q c) q := by
  have hq : q < xs.length := by rw [h.len]; exact h.qn
  refine ⟨by rw [List.length_set, h.len], h.qn, h.sub, fun i h0 hn hp hi hpi => ?_, fun i h0 hn hp hpq => ?_⟩
  · rw [V_set hq, V_set hq, if_neg hpi, if_neg hi]
    exact h.a i h0 hn hp hi hpi
  · rw [V_set hq, V_set hq, if_neg (by omega), if_neg (by omega)]
    exact h.b i h0 hn hp hpq

theorem sd_ok {n p : Nat} {c : Value × Nat} : ∀ (q : Nat) (xs : PL), Hole n p xs q → (∀ i, 0 < i → i < n → (i - 1) / 2 = q → c.2 ≤ V xs i) → HeapFrom n p (sdLoop p c xs q) ∧ (sdLoop p c xs q).Perm (xs.set q c) := by
  intro q
  induction q using Nat.strongRecOn with
  | ind q ih =>
    intro xs H hd
    have hq : q < xs.length := by rw [H.len]; exact H.qn
    have hsub := H.sub.le
    rw [sdLoop]
    by_cases hlt : p < q
    · rw [dif_pos hlt]
      have hpar : (q - 1) / 2 < q := by omega
      have hparn : (q - 1) / 2 < xs.length := by omega
      have hgd : xs.getD ((q - 1) / 2) c = xs.getD ((q - 1) / 2) (.none, 0) := by simp [List.getD, hparn]
      dsimp only
      rw [hgd]
      by_cases hc : c.2 < (xs.getD ((q - 1) / 2) (.none, 0)).2
      · rw [if_pos hc]
        have hup := H.sub.up hlt
        have hcV : c.2 < V xs ((q - 1) / 2) := hc
        have vq : V (xs.set q (xs.getD ((q - 1) / 2) (.none, 0))) q = V xs ((q - 1) / 2) := by rw [V_set hq, if_pos rfl]; rfl
        have vo : ∀ i, i ≠ q → V (xs.set q (xs.getD ((q - 1) / 2) (.none, 0))) i = V xs i := fun i hi => by rw [V_set hq, if_neg hi]
        have H' : Hole n p (xs.set q (xs.getD ((q - 1) / 2) (.none, 0))) ((q - 1) / 2) := by
          refine ⟨by rw [List.length_set, H.len], by have := H.qn; omega, hup, fun i h0 hn hp hi hpi => ?_, fun i h0 hn hp hpq => ?_⟩
          · by_cases hiq : i = q
            · exact absurd (by rw [hiq]) hpi
            · rw [vo i hiq]
              by_cases hpq : (i - 1) / 2 = q
              · rw [hpq, vq]; exact H.b i h0 hn hpq hlt
              · rw [vo _ hpq]; exact H.a i h0 hn hp hiq hpq
          · have hpp := hup.up hpq
            have e0 := H.a ((q - 1) / 2) (by omega) (by have := H.qn; omega) hpp.le (by omega) (by omega)
            rw [vo _ (by omega)]
            by_cases hiq : i = q
            · rw [hiq, vq]; exact e0
            · rw [vo i hiq]
              have := H.a i h0 hn (by omega) hiq (by omega)
              rw [hp] at this
              omega
        obtain ⟨r1, r2⟩ := ih _ hpar _ H' fun i h0 hn hp => by
          by_cases hiq : i = q
          · rw [hiq, vq]; omega
          · rw [vo i hiq]
            have := H.a i h0 hn (by have := hup.le; omega) hiq (by omega)
            rw [hp] at this
            omega
        exact ⟨r1, r2.trans (set_swap hq hparn (by omega) c _)⟩
      · rw [if_neg hc]
        refine ⟨⟨by rw [List.length_set, H.len], fun i h0 hn hp => ?_⟩, List.Perm.refl _⟩
        rw [V_set hq, V_set hq]
        by_cases hiq : i = q
        · rw [if_pos hiq, if_neg (by omega)]
          subst hiq
          exact Nat.le_of_not_lt hc
        · rw [if_neg hiq]
          by_cases hpq : (i - 1) / 2 = q
          · rw [if_pos hpq]; exact hd i h0 hn hpq
          · rw [if_neg hpq]; exact H.a i h0 hn hp hiq hpq
    · rw [dif_neg hlt]
      have hpq' : q = p := by omega
      refine ⟨⟨by rw [List.length_set, H.len], fun i h0 hn hp => ?_⟩, List.Perm.refl _⟩
      rw [V_set hq, V_set hq]
      by_cases hiq : i = q
      · omega
      · rw [if_neg hiq]
        by_cases hpq : (i - 1) / 2 = q
        · rw [if_pos hpq]; exact hd i h0 hn hpq
        · rw [if_neg hpq]; exact H.a i h0 hn hp hiq hpq

theorem su_step {n p : Nat} {xs : PL} {q ch : Nat} (H : Hole n p xs q) (hch : ch = 2 * q + 1 ∨ ch = 2 * q + 2) (hcn : ch < n) (hmin : ∀ i, 0 < i → i < n → (i - 1) / 2 = q → V xs ch ≤ V xs i) : Hole n p (xs.set q (xs.getD ch (.none, 0))) ch := by
  have hq : q < xs.length := by rw [H.len]; exact H.qn
  have vq : V (xs.set q (xs.getD ch (.none, 0))) q = V xs ch := by rw [V_set hq, if_pos rfl]; rfl
  have vo : ∀ i, i ≠ q → V (xs.set q (xs.getD ch (.none, 0))) i = V xs i := fun i hi => by rw [V_set hq, if_neg hi]
  have hpc : (ch - 1) / 2 = q := by omega
  have hsub := H.sub.le
  refine ⟨by rw [List.length_set, H.len], hcn, .child (by rw [hpc]; exact H.sub) (by omega), fun i h0 hn hp hi hpi => ?_, fun i h0 hn hp hpq => ?_⟩
  · by_cases hiq : i = q
    · subst hiq
      rw [vq, vo _ (by omega)]
      exact H.b ch (by omega) hcn hpc (by omega)
    · rw [vo i hiq]
      by_cases hpq : (i - 1) / 2 = q
      · rw [hpq, vq]; exact hmin i h0 hn hpq
      · rw [vo _ hpq]; exact H.a i h0 hn hp hiq hpq
  · rw [hpc, vq, vo i (by omega)]
    have := H.a i h0 hn (by omega) (by omega) (by omega)
    rw [hp] at this
    exact this

theorem su_ok {n p : Nat} : ∀ (f : Nat) (xs : PL) (q : Nat), n - q ≤ f → Hole n p xs q → Hole n p (suLoop xs q).1 (suLoop xs q).2 ∧ n ≤ 2 * (suLoop xs q).2 + 1 ∧ ∀ c, ((suLoop xs q).1.set (suLoop xs q).2 c).Perm (xs.set q c)
  | f, xs, q, hf, H => by
    have hl := H.len
    have hqn := H.qn
    rw [suLoop]
    by_cases h1 : 2 * q + 1 < xs.length
    · rw [dif_pos h1]
      cases f with
      | zero => omega
      | succ f =>
        by_cases h2 : 2 * q + 2 < xs.length ∧ ¬ (xs.getD (2 * q + 1) (.none, 0)).2 < (xs.getD (2 * q + 2) (.none, 0)).2
        · rw [dif_pos h2]
          have hle : V xs (2 * q + 2) ≤ V xs (2 * q + 1) := Nat.le_of_not_lt h2.2
          have H' := su_step H (ch := 2 * q + 2) (.inr rfl) (by omega) fun i h0 hn hp => by
            have : i = 2 * q + 1 ∨ i = 2 * q + 2 := by omega
            rcases this with rfl | rfl
            · exact hle
            · exact Nat.le_refl _
          obtain ⟨r1, r2, r3⟩ := su_ok f _ _ (by omega) H'
          exact ⟨r1, r2, fun c => (r3 c).trans (set_swap (by omega) (by omega) (by omega) c _)⟩
        · rw [dif_neg h2]
          have H' := su_step H (ch := 2 * q + 1) (.inl rfl) (by omega) fun i h0 hn hp => by
            have : i = 2 * q + 1 ∨ i = 2 * q + 2 := by omega
            rcases this with rfl | rfl
            · exact Nat.le_refl _
            · have : (xs.getD (2 * q + 1) (.none, 0)).2 < (xs.getD (2 * q + 2) (.none, 0)).2 := by
                by_cases hh : (xs.getD (2 * q + 1) (.none, 0)).2 < (xs.getD (2 * q + 2) (.none, 0)).2
                · exact hh
                · exact absurd ⟨by omega, hh⟩ h2
              exact Nat.le_of_lt this
          obtain ⟨r1, r2, r3⟩ := su_ok f _ _ (by omega) H'
          exact ⟨r1, r2, fun c => (r3 c).trans (set_swap (by omega) (by omega) (by omega) c _)⟩
    · rw [dif_neg h1]
      exact ⟨H, by omega, fun c => List.Perm.refl _⟩

theorem siftup_heap {n p : Nat} {xs : PL} (hp : p < n) (H : HeapFrom n (p + 1) xs) : HeapFrom n p (siftup xs p) ∧ (siftup xs p).Perm xs := by
  have h0 : Hole n p xs p := ⟨H.len, hp, .refl, fun i h0 hn hpp hi hpi => H.h i h0 hn (by omega), fun i h0 hn hpp hlt => absurd hlt (Nat.lt_irrefl _)⟩
  obtain ⟨r1, r2, r3⟩ := su_ok n xs p (by omega) h0
  unfold siftup
  obtain ⟨s1, s2⟩ := sd_ok (c := xs.getD p (.none, 0)) _ _ (r1.put (xs.getD p (.none, 0))) fun i h0 hn hpp => by omega
  refine ⟨s1, s2.trans ?_⟩
  rw [List.set_set]
  refine (r3 _).trans ?_
  have hpl : p < xs.length := by rw [H.len]; exact hp
  have : xs.set p (xs.getD p (.none, 0)) = xs := by
    have e : xs.getD p (.none, 0) = xs[p] := by simp [List.getD, hpl]
    rw [e]; exact List.set_getElem_self hpl
  rw [this]

def Heap' (xs : PL) : Prop := HeapFrom xs.length 0 xs
theorem hfy_heap (xs : PL) : ∀ i, i ≤ xs.length / 2 → HeapFrom xs.length (xs.length / 2 - i) (hfy xs (xs.length / 2) i) ∧ (hfy xs (xs.length / 2) i).Perm xs
  | 0, _ => ⟨⟨rfl, fun i h0 hn hp => by omega⟩, List.Perm.refl _⟩
  | i + 1, hi => by
    obtain ⟨h1, h2⟩ := hfy_heap xs i (by omega)
    have e : xs.length / 2 - i = xs.length / 2 - 1 - i + 1 := by omega
    rw [e] at h1
    obtain ⟨g1, g2⟩ := siftup_heap (p := xs.length / 2 - 1 - i) (by omega) h1
    rw [hfy]
    have e2 : xs.length / 2 - (i + 1) = xs.length / 2 - 1 - i := by omega
    rw [e2]
    exact ⟨g1, g2.trans h2⟩
theorem heapify_heap (xs : PL) : Heap' (hfy xs (xs.length / 2) (xs.length / 2)) ∧ (hfy xs (xs.length / 2) (xs.length / 2)).Perm xs := by
  obtain ⟨h1, h2⟩ := hfy_heap xs _ (Nat.le_refl _)
  refine ⟨?_, h2⟩
  unfold Heap'
  rw [h2.length_eq]
  rw [Nat.sub_self] at h1
  exact h1
theorem hpush_heap {xs : PL} (h : Heap' xs) (c : Value × Nat) : Heap' (hpush xs c) ∧ (hpush xs c).Perm (xs ++ [c]) := by
  have hV : ∀ i, i < xs.length → V (xs ++ [c]) i = V xs i := fun i hi => by
    unfold V
    simp only [List.getD_eq_getElem?_getD]
    rw [List.getElem?_append_left hi]
  have H : Hole (xs.length + 1) 0 (xs ++ [c]) xs.length := by
    refine ⟨by simp, by omega, Sub.zero _, fun i h0 hn hp hi hpi => ?_, fun i h0 hn hp hlt => by omega⟩
    rw [hV _ (by omega), hV _ (by omega)]
    exact h.h i h0 (by omega) hp
  obtain ⟨r1, r2⟩ := sd_ok (c := c) _ _ H fun i h0 hn hp => by omega
  have hs : (xs ++ [c]).set xs.length c = xs ++ [c] := by
    rw [List.set_append_right _ _ (Nat.le_refl _)]; simp
  rw [hs] at r2
  refine ⟨?_, r2⟩
  unfold Heap'
  have : (hpush xs c).length = xs.length + 1 := by
    have := r2.length_eq
    rw [List.length_append] at this
    exact this
  rw [this]; exact r1
theorem heap_min {xs : PL} (h : Heap' xs) : ∀ i, i < xs.length → V xs 0 ≤ V xs i := by
  intro i
  induction i using Nat.strongRecOn with
  | ind i ih =>
    intro hi
    by_cases h0 : i = 0
    · subst h0; exact Nat.le_refl _
    · exact Nat.le_trans (ih ((i - 1) / 2) (by omega) (by omega)) (h.h i (by omega) hi (Nat.zero_le _))
theorem hpop_heap {ys : PL} {last : Value × Nat} (h : Heap' (ys ++ [last])) : Heap' (hpopT ys last).2 ∧ ((hpopT ys last).1 :: (hpopT ys last).2).Perm (ys ++ [last]) ∧ ∀ p ∈ ys ++ [last], (hpopT ys last).1.2 ≤ p.2 := by
  have hmin := heap_min h
  have first : ∀ p ∈ ys ++ [last], V (ys ++ [last]) 0 ≤ p.2 := fun p hp => by
    obtain ⟨i, hi⟩ := List.mem_iff_getElem?.mp hp
    have := hmin i (List.getElem?_eq_some_iff.mp hi).1
    have e : V (ys ++ [last]) i = p.2 := by unfold V; simp only [List.getD_eq_getElem?_getD]; rw [hi]; rfl
    rw [e] at this; exact this
  cases ys with
  | nil => exact ⟨⟨rfl, fun i h0 hn => absurd hn (Nat.not_lt_zero _)⟩, List.Perm.refl _, fun p hp => first p hp⟩
  | cons y r =>
    show Heap' (siftup (last :: r) 0) ∧ (y :: siftup (last :: r) 0).Perm _ ∧ _
    have hl : ((y :: r) ++ [last]).length = r.length + 2 := by simp
    have H1 : HeapFrom (r.length + 1) 1 (last :: r) := by
      refine ⟨by simp, fun i h0 hn hp => ?_⟩
      have hV : ∀ i, 1 ≤ i → i < r.length + 1 → V (last :: r) i = V ((y :: r) ++ [last]) i := fun i h1 hi => by
        unfold V
        simp only [List.getD_eq_getElem?_getD]
        rw [List.getElem?_append_left (by simp; omega)]
        obtain ⟨j, rfl⟩ : ∃ j, i = j + 1 := ⟨i - 1, by omega⟩
        simp
      rw [hV _ hp (by omega), hV i (by omega) hn]
      exact h.h i h0 (by omega) (Nat.zero_le _)
    obtain ⟨g1, g2⟩ := siftup_heap (p := 0) (by omega) H1
    refine ⟨?_, ?_, fun p hp => first p hp⟩
    · unfold Heap'
      rw [g2.length_eq]; exact g1
    · refine (g2.cons y).trans ?_
      have : (last :: r).Perm (r ++ [last]) := by
        have := List.perm_append_comm (l₁ := [last]) (l₂ := r)
        simpa using this
      exact this.cons y
end Mine

namespace Mine
open PySem PySem.Calls PyProof.Rows PySem.SeqAt PySem.MeetsSeq3 PySem.W

theorem Fm.preAt {H : Heap} {e : Entry} {B : Store} {L : Addr} {m : Str → Option Value} {W : List (Addr × Kd)} {h : Heap} (F : Fm H e B L m W h) {i : Nat} {p : Addr × Kd} (hi : W[i]? = some p) : Pre H B [p] h :=
  F.pre (List.singleton_sublist.mpr (List.mem_of_getElem? hi))
theorem Fm.backAt {H : Heap} {e : Entry} {B : Store} {L : Addr} {m : Str → Option Value} {W : List (Addr × Kd)} {h : Heap} {i : Nat} {a : Addr} {k k' : Kd} (F : Fm H e B L m W h) (hi : W[i]? = some (a, k)) {h' : Heap} {B' : Store} (b : Back B [a] h h' B') (hk' : At h' a k') : Fm H e B' L m (W.set i (a, k')) h' := by
  have hm : (a, k) ∈ W := List.mem_of_getElem? hi
  have haW : a ∈ L :: W.map (·.1) := .tail _ (List.mem_map_of_mem (f := (·.1)) hm)
  have hkeep : ∀ x o, x ≠ a → h.get? x = some o → h'.get? x = some o := fun x o hx eo => b.keep x o eo (by simpa using hx)
  obtain ⟨hlt, hget⟩ := List.getElem?_eq_some_iff.mp hi
  have em : (W.set i (a, k')).map (·.1) = W.map (·.1) := by
    rw [List.map_set]
    refine PySem.W.X.set_same ?_
    rw [List.getElem?_map, hi]; rfl
  have nd := List.nodup_cons.mp F.apart
  have haL : L ≠ a := by rintro rfl; exact nd.1 (List.mem_map_of_mem hm)
  have liveW := F.liveW
  have outB' : ∀ x ∈ L :: W.map (·.1), B' x = none := fun x hx => by
    cases q : B' x with
    | none => rfl
    | some kx =>
      obtain ⟨o, eo⟩ := liveW x hx
      have := (b.fresh x kx q).resolve_right (by rw [eo]; simp)
      rw [F.outB x hx] at this; cases this
  obtain ⟨oL, es, ep, hL, r⟩ := F.ns
  refine ⟨⟨oL, es, ep, hkeep _ _ haL hL, r⟩, fun x o eo => hkeep x o (F.apartH eo haW) (F.base x o eo), b.sub, fun p hp => ?_, by rw [em]; exact F.apart, by rw [em]; exact outB', by rw [em]; exact F.outH, fun x o eo hx => hkeep x o (F.apartK eo hx haW) (F.keep x o eo hx), by rw [em]; exact F.inW, by rw [em]; exact F.new, fun x kx ek => b.grow x kx (F.grow x kx ek), fun x kx ek => ?_⟩
  · rcases List.mem_iff_getElem?.mp hp with ⟨j, hj⟩
    by_cases hij : i = j
    · subst hij
      rw [List.getElem?_set_self hlt] at hj
      cases hj
      exact hk'
    · rw [List.getElem?_set_ne hij] at hj
      have hpm : p ∈ W := List.mem_of_getElem? hj
      refine (F.own p hpm).of fun o => hkeep p.1 o ?_
      intro hpa
      have h1 : (W.map (·.1))[i]? = some a := by rw [List.getElem?_map, hi]; rfl
      have h2 : (W.map (·.1))[j]? = some a := by rw [List.getElem?_map, hj, ← hpa]; rfl
      obtain ⟨l1, g1⟩ := List.getElem?_eq_some_iff.mp h1
      obtain ⟨l2, g2⟩ := List.getElem?_eq_some_iff.mp h2
      have pw := List.pairwise_iff_getElem.mp nd.2
      rcases Nat.lt_or_gt_of_ne hij with hlt' | hlt'
      · exact pw i j l1 l2 hlt' (g1.trans g2.symm)
      · exact pw j i l2 l1 hlt' (g2.trans g1.symm)
  · rcases b.fresh x kx ek with h1 | h1
    · exact F.fresh x kx h1
    · exact .inr (F.oldNone h1)

section
variable {prog : Program} {w : World} {A : Around} {E : Value → Shared → Prop} {s : Shared} {H : Heap} {P : Pg} {e : Entry} {B : Store} {L : Addr} {m : Str → Option Value} {W : List (Addr × Kd)} {h : Heap} {t : Nat} {env : Env}
  {Q : Value → Shared → Prop} {QF : Flow → Shared → Prop} {K : Frag} {C fI fS : Addr}

/-- what a loop does behind its source, its name held in a cell -/
def ForC (prog : Program) (w : World) (A : Around) (E : Value → Shared → Prop) (s : Shared) (H : Heap) (e : Entry) (env : Env) (body rest : List Stmt) (QF : Flow → Shared → Prop) (c : Addr) (ic : Nat) (xv : Value) (s₁ : Shared) : Prop :=
  ∃ (n : Nat) (P : Nat → Value → Prop) (J : Nat → Store → (Str → Option Value) → List (Addr × Kd) → Prop) (h₁ : Heap) (t₁ : Nat) (B₁ : Store) (m₁ : Str → Option Value) (W₁ : List (Addr × Kd)) (SRC : Heap → Prop),
    s₁ = St s h₁ t₁ ∧ Fm H e B₁ env.locals m₁ W₁ h₁ ∧ Over prog w A xv h₁ n P SRC ∧ J 0 B₁ m₁ W₁ ∧
    (∀ i B' m' W' h', J i B' m' W' → (∀ a k, B' a = some k → At h' a k) → (∀ p ∈ W', At h' p.1 p.2) → SRC h') ∧
    (∀ i B' m' W', J i B' m' W' → ∃ v₀, W'[ic]? = some (c, .cell v₀)) ∧
    (∀ i v B' m' W' h' t' I o, i < n → P i v → J i B' m' W' → Fm H e B' env.locals m' ((I, .obj o) :: W'.set ic (c, .cell (some v))) h' →
      wpAny (model prog w) A (execs body env) (fun f s₃ => (f = .next ∨ f = .cont) ∧ ∃ B'' m'' W'' h'' t'', s₃ = St s h'' t'' ∧ Fm H e B'' env.locals m'' ((I, .obj o) :: W'') h'' ∧ J (i + 1) B'' m'' W'') NoE (St s h' t')) ∧
    (∀ B' m' W' h' t', J n B' m' W' → Fm H e B' env.locals m' W' h' → wpAny (model prog w) A (execs rest env) QF E (St s h' t'))
/-- a loop whose name is held in a cell -/
theorem s_forc {x : Str} {px pos : Pos} {iter : Expr} {body rest : List Stmt} (c : Addr) (ic : Nat)
    (src : wpAny (model prog w) A (eval iter env) (fun xv s₁ => ForC prog w A E s H e env body rest QF c ic xv s₁) E (St s h t))
    (hc : env.cells.lookup x = some c := by rfl)
    (hk : env.scope.kind = .function := by rfl) (hl : env.kindOf x = some .cell := by rfl) (hs : ∀ x, foldedSetIterable iter env x = pure x := by intro _; rfl) :
    wpAny (model prog w) A (execs (.For (.Name x px) iter body [] pos :: rest) env) QF E (St s h t) := by
  refine wpAny_execs_cons (wpAny_For (wpAny_mono src (fun xv s₁ q => ?_) fun _ _ q => q) hs)
  obtain ⟨n, P, J, h₁, t₁, B₁, m₁, W₁, SRC, rfl, F₁, ⟨Ob, it, go⟩, hJ, hsrc, hcell, turn, fin⟩ := q
  refine go s t₁ _ _ fun o₀ hob hfr => ?_
  have F₂ := F₁.push (o := o₀) (k := .obj o₀) rfl hfr
  have hIS : h₁.objs.size ∉ e.S := fun hm => F₁.size_none.2.2.2 (.tail _ (F₁.inW _ hm))
  have it := it h₁.objs.size
  generalize h₁.objs.size = I at *
  refine codeAny_forLoop (fun k s' => ∃ (i : Nat) (B' : Store) (m' : Str → Option Value) (W' : List (Addr × Kd)) (h' : Heap) (t' : Nat) (o : Obj), s' = St s h' t' ∧ i ≤ n ∧ k = n + 1 - i ∧ Ob i o ∧ J i B' m' W' ∧ Fm H e B' env.locals m' ((I, .obj o) :: W') h') ?_ (n + 1)
    ⟨0, B₁, m₁, W₁, _, t₁, o₀, rfl, Nat.zero_le _, rfl, hob, hJ, F₂⟩
  rintro k _ ⟨i, B', m', W', h', t', o, rfl, hi, rfl, hob', hJ', F'⟩
  have hgo : h'.get? I = some o := by
    obtain ⟨o', ho', he⟩ := F'.own (I, .obj o) (.head _)
    cases he
    exact ho'
  have hS := hsrc i B' m' W' h' hJ' F'.sub fun p hp => F'.own p (.tail _ hp)
  by_cases hlt : i < n
  · refine it.next i s h' t' o _ _ hlt hgo hob' hS fun v h₃ t₃ o₃ hv ho₃ hob₃ hs₃ => ?_
    have F₃ := F'.change0 (k' := .obj o₃) (fun b o hb eo => (hs₃.2 b hb).trans eo) ⟨o₃, ho₃, rfl⟩
    obtain ⟨v₀, hv₀⟩ := hcell i B' m' W' hJ'
    refine wpAny_assign_Name (r_storec F₃ (ic + 1) (v₀ := v₀) hv₀ (fun h₄ F₄ => ?_) hc hk hl)
    refine wpAny_mono (turn i v B' m' W' h₄ t₃ I o₃ hlt hv hJ' F₄) (fun f s₅ q => ?_) fun _ _ q => q.elim
    obtain ⟨hf, B'', m'', W'', h'', t'', rfl, F'', hJ''⟩ := q
    have : ∃ m, m < n + 1 - i ∧ ∃ (i : Nat) (B' : Store) (m' : Str → Option Value) (W' : List (Addr × Kd)) (h' : Heap) (t' : Nat) (o : Obj), St s h'' t'' = St s h' t' ∧ i ≤ n ∧ m = n + 1 - i ∧ Ob i o ∧ J i B' m' W' ∧ Fm H e B' env.locals m' ((I, .obj o) :: W') h' :=
      ⟨n + 1 - (i + 1), by omega, i + 1, B'', m'', W'', h'', t'', o₃, rfl, hlt, rfl, hob₃, hJ'', F''⟩
    rcases hf with rfl | rfl <;> exact this
  · have hin : i = n := by omega
    subst hin
    refine it.stop s h' t' o _ _ hgo hob' hS fun h₃ t₃ hk₃ => ?_
    exact wpAny_execs_nil (fin B' m' W' h₃ t₃ hJ' (F'.lose hk₃ hIS))

/-- the class of the text is called -/
theorem r_make {f : Str} {p pos : Pos} {k : Nat} (F : Fm H e B L m W h) (hP : PgOk H P) (hC : ClsOk H P K C fI fS) (hA : Rm A (k + 2)) (hf : f = clsName)
    (go : ∀ h' t' B' v, B.le B' → Fm H e B' L m W h' → IsKeeper B' C v → Q v (St s h' t'))
    (hg : env.globals = mainGlobals := by rfl) (hk : env.scope.kind = .function := by rfl) (hx : env.kindOf f = some .globalImplicit := by rfl) (hdb : (f == ("__debug__" : Str)) = false := by decide) :
    wpAny (model prog w) A (eval (.Call (.Name f p) [] [] pos) env) Q E (St s h t) := by
  subst hf
  refine wpAny_Call_NameR (r_glob F (hg ▸ hP.g) hC.glob (callWith_K0 (s := St s h t) (hC.X.keeps F.base) hC.kp (r_body (make_ok (k := k) F hP hC hA go))) hk hx hdb)
end

-- the plain law of the pile
/-- what is popped from the end -/
def popTo (cov : Nat → Bool) (l : List Nat) : List Nat := (l.reverse.dropWhile fun x => !cov x).reverse
theorem popTo_rev {cov : Nat → Bool} : ∀ (r : List Nat), (r.Pairwise fun b a => cov b = true → cov a = true) → (r.dropWhile fun x => !cov x).reverse = r.reverse.filter cov
  | [], _ => rfl
  | x :: r, h => by
    rw [List.pairwise_cons] at h
    rw [List.dropWhile_cons, List.reverse_cons, List.filter_append]
    cases hx : cov x with
    | true =>
      simp only [Bool.not_true, Bool.false_eq_true, if_false]
      rw [List.reverse_cons]
      have : r.reverse.filter cov = r.reverse := List.filter_eq_self.mpr fun a ha => h.1 a (List.mem_reverse.mp ha) hx
      rw [this]; simp [hx]
    | false =>
      simp only [Bool.not_false, if_true]
      rw [popTo_rev r h.2]; simp [hx]
theorem popTo_filter {cov : Nat → Bool} {l : List Nat} (h : l.Pairwise fun a b => cov b = true → cov a = true) : popTo cov l = l.filter cov := by
  unfold popTo
  rw [popTo_rev _ (List.pairwise_reverse.mpr h), List.reverse_reverse]
end Mine

namespace Mine
open PySem

abbrev cds (xs : PL) : List Nat := xs.map (·.2)
/-- the state of _law_told between two turns -/
structure TInv (ks hp out : PL) (pc : List Nat) : Prop where
  heap : Heap' hp
  perm : (out ++ hp).Perm ks
  sorted : out.Pairwise fun a b => a.2 < b.2
  below : ∀ o ∈ out, ∀ x ∈ hp, o.2 < x.2
  pcs : ∀ c ∈ pc, c ∈ cds out
  plen : pc.length ≤ out.length
  pile : ∀ d, (∀ o ∈ out, o.2 < d) → popTo (fun c => over (c / 16) (d / 16)) pc = (cds out).filter fun c => over (c / 16) (d / 16)

theorem over_iff {r q : Nat} : over r q = true ↔ r ≤ q ∧ q ≤ endR r := by unfold over; exact decide_eq_true_iff
theorem over_down {a b k d : Nat} (h1 : over a k = true) (h2 : b ≤ k) (hab : a ≤ b) (had : a ≤ d) (hd : over b d = true) : over a d = true := by
  rw [over_iff] at h1 hd ⊢
  by_cases he : a = b
  · subst he; exact hd
  · have hn := over_nest (r := a) (q := b) (over_iff.mpr ⟨hab, by omega⟩) he
    omega
theorem TInv.init {ks hp : PL} (h : Heap' hp) (hp' : hp.Perm ks) : TInv ks hp [] [] :=
  ⟨h, (by simpa using hp'), List.Pairwise.nil, (fun o ho => nomatch ho), (fun c hc => nomatch hc), Nat.le_refl _, (fun d _ => rfl)⟩
theorem TInv.step {ks out ys : PL} {last : Value × Nat} {pc : List Nat} (T : TInv ks (ys ++ [last]) out pc) (hne : ks.Pairwise fun a b => a.2 ≠ b.2) :
    TInv ks (hpopT ys last).2 (out ++ [(hpopT ys last).1]) ((cds out).filter (fun c => over (c / 16) ((hpopT ys last).1.2 / 16)) ++ [(hpopT ys last).1.2]) ∧ (∀ o ∈ out, o.2 < (hpopT ys last).1.2) ∧ (hpopT ys last).1 ∈ ks ∧
      (cds out).Perm ((cds ks).filter fun c => decide (c < (hpopT ys last).1.2)) := by
  obtain ⟨g1, g2, g3⟩ := hpop_heap T.heap
  generalize hk : (hpopT ys last).1 = key at *
  generalize hr : (hpopT ys last).2 = hp' at *
  have hkm : key ∈ ys ++ [last] := g2.mem_iff.mp (.head _)
  have hlt : ∀ o ∈ out, o.2 < key.2 := fun o ho => T.below o ho key hkm
  have hperm : (out ++ key :: hp').Perm ks := (g2.append_left out).trans T.perm
  have hne2 : (out ++ key :: hp').Pairwise fun a b => a.2 ≠ b.2 := hperm.symm.pairwise hne fun {a b} h => Ne.symm h
  have hkl : ∀ x ∈ hp', key.2 < x.2 := fun x hx => by
    have h1 := g3 x (g2.mem_iff.mp (.tail _ hx))
    rw [List.pairwise_append, List.pairwise_cons] at hne2
    have h2 := hne2.2.1.1 x hx
    omega
  refine ⟨⟨g1, ?_, ?_, ?_, ?_, ?_, ?_⟩, hlt, hperm.mem_iff.mp (by simp), ?_⟩
  · rw [List.append_assoc]; exact hperm
  · rw [List.pairwise_append]
    refine ⟨T.sorted, List.pairwise_singleton _ _, fun a ha b hb => ?_⟩
    rw [List.mem_singleton.mp hb]; exact hlt a ha
  · intro o ho x hx
    rcases List.mem_append.mp ho with ho | ho
    · exact Nat.lt_trans (hlt o ho) (hkl x hx)
    · rw [List.mem_singleton.mp ho]; exact hkl x hx
  · intro c hc
    rw [cds, List.map_append]
    rcases List.mem_append.mp hc with hc | hc
    · exact List.mem_append.mpr (.inl (List.mem_filter.mp hc).1)
    · exact List.mem_append.mpr (.inr hc)
  · have := List.length_filter_le (fun c => over (c / 16) (key.2 / 16)) (cds out)
    simp [cds] at this ⊢
    exact this
  · intro d hd
    have hout : ∀ c ∈ cds out, c < key.2 := fun c hc => by
      obtain ⟨o, ho, rfl⟩ := List.mem_map.mp hc
      exact hlt o ho
    have hkd : key.2 < d := hd key (by simp)
    have hsort : (cds out).Pairwise (· < ·) := by rw [cds, List.pairwise_map]; exact T.sorted
    rw [popTo_filter]
    · rw [List.filter_append, List.filter_filter, cds, cds, List.map_append, List.filter_append]
      congr 1
      refine List.filter_congr fun c hc => ?_
      have hck := hout c hc
      cases h : over (c / 16) (d / 16) with
      | false => rfl
      | true =>
        rw [over_iff] at h
        rw [Bool.true_and]
        exact over_iff.mpr ⟨by omega, by omega⟩
    · rw [List.pairwise_append]
      refine ⟨?_, List.pairwise_singleton _ _, fun a ha b hb => ?_⟩
      · refine (hsort.filter _).imp_of_mem fun {a b} ha hb hab hcb => ?_
        have ha' := List.mem_filter.mp ha
        have hb' := List.mem_filter.mp hb
        have ob := over_iff.mp hb'.2
        exact over_down ha'.2 (b := b / 16) (by omega) (by omega) (by have := hout a ha'.1; omega) hcb
      · rw [List.mem_singleton.mp hb]
        intro hcb
        have ha' := List.mem_filter.mp ha
        exact over_down ha'.2 (b := key.2 / 16) (Nat.le_refl _) (by have := hout a ha'.1; omega) (by have := hout a ha'.1; omega) hcb
  · have h1 : ((cds (out ++ key :: hp')).filter fun c => decide (c < key.2)).Perm ((cds ks).filter fun c => decide (c < key.2)) := (hperm.map _).filter _
    have h2 : (cds (out ++ key :: hp')).filter (fun c => decide (c < key.2)) = cds out := by
      rw [cds, List.map_append, List.filter_append]
      have e1 : (out.map (·.2)).filter (fun c => decide (c < key.2)) = out.map (·.2) := List.filter_eq_self.mpr fun c hc => by
        obtain ⟨o, ho, rfl⟩ := List.mem_map.mp hc
        exact decide_eq_true (hlt o ho)
      have e2 : ((key :: hp').map (·.2)).filter (fun c => decide (c < key.2)) = [] := List.filter_eq_nil_iff.mpr fun c hc => by
        obtain ⟨o, ho, rfl⟩ := List.mem_map.mp hc
        rcases List.mem_cons.mp ho with rfl | ho
        · simp
        · have := hkl o ho
          simp; omega
      rw [e1, e2, List.append_nil]
    rw [h2] at h1
    exact h1

def PileSpec (as : List Nat) (k : Nat) (pl : List Nat) : Prop := ∃ (ak : Nat) (cs : List Nat), as[k]? = some ak ∧ cs.Perm ((keyCodes as).filter fun c => decide (c < ak * 16 + k) && over (c / 16) ak) ∧ cs.Pairwise (· < ·) ∧ pl = cs.map (· % 16)

-- the two lists are one
theorem sorted_uniq : ∀ {a b : List Nat}, a.Perm b → a.Pairwise (· < ·) → b.Pairwise (· < ·) → a = b
  | [], b, h, _, _ => (h.symm.eq_nil).symm
  | x :: a, b, h, ha, hb => by
    cases b with
    | nil => exact absurd h.eq_nil (by simp)
    | cons y b =>
      rw [List.pairwise_cons] at ha hb
      have hxy : x = y := by
        have h1 : x ∈ y :: b := h.mem_iff.mp (.head _)
        have h2 : y ∈ x :: a := h.mem_iff.mpr (.head _)
        rcases List.mem_cons.mp h1 with h1 | h1
        · exact h1
        · rcases List.mem_cons.mp h2 with h2 | h2
          · exact h2.symm
          · have := ha.1 y h2
            have := hb.1 x h1
            omega
      subst hxy
      rw [sorted_uniq (List.Perm.cons_inv h) ha.2 hb.2]
theorem back_uniq {as : List Nat} {k : Nat} {x y : List Bool} (hx : BackSpec as k x) (hy : BackSpec as k y) : x = y := by
  obtain ⟨a, cs, h1, h2, h3, rfl⟩ := hx
  obtain ⟨b, ds, g1, g2, g3, rfl⟩ := hy
  rw [h1] at g1
  cases g1
  rw [sorted_uniq (h2.trans g2.symm) h3 g3]

theorem keyCodes_mem_iff {as : List Nat} (hn : as.length < 16) {c : Nat} : c ∈ keyCodes as ↔ as[c % 16]? = some (c / 16) := by
  constructor
  · exact keyCodes_mem hn
  · intro h
    have := keyCodes_get h
    have e : c / 16 * 16 + c % 16 = c := by omega
    rw [e] at this
    exact List.mem_of_getElem? this
theorem pile_uniq {as : List Nat} (hn : as.length < 16) (h80 : ∀ a ∈ as, a < 80) {k : Nat} {x y : List Nat} (hx : PileSpec as k x) (hy : CovSpec as k y) : x = y := by
  obtain ⟨ak, cs, hak, hp, hs, rfl⟩ := hx
  obtain ⟨ds, gp, gs, rfl⟩ := hy
  have hkk : k < as.length := (List.getElem?_eq_some_iff.mp hak).1
  have hakD : as.getD k 0 = ak := by simp [List.getD, hak]
  have hmem : ∀ c ∈ cs, as[c % 16]? = some (c / 16) ∧ c < ak * 16 + k ∧ over (c / 16) ak = true := fun c hc => by
    have := List.mem_filter.mp (hp.mem_iff.mp hc)
    rw [Bool.and_eq_true, decide_eq_true_eq] at this
    exact ⟨keyCodes_mem hn this.1, this.2.1, this.2.2⟩
  -- the rows of the key codes, in their order
  have hrow : ds = cs.map fun c => rowC as (c % 16) := by
    refine sorted_uniq ?_ gs ?_
    · refine gp.trans ?_
      have hnd1 : (covRows as k as.length).Nodup := covRows_ne as k as.length (by omega)
      have hnd2 : (cs.map fun c => rowC as (c % 16)).Nodup := by
        show List.Pairwise (· ≠ ·) _
        rw [List.pairwise_map]
        refine (hs.imp fun {a b} h => Nat.ne_of_lt h).imp_of_mem fun {a b} ha hb hab => ?_
        have h1 := (hmem a ha).1
        have h2 := (hmem b hb).1
        intro he
        unfold rowC at he
        have : a % 16 = b % 16 := by omega
        rw [this] at h1
        rw [h1] at h2
        have := Option.some.inj h2
        omega
      rw [List.perm_ext_iff_of_nodup hnd1 hnd2]
      intro r
      constructor
      · intro hr
        obtain ⟨j, hj, rfl⟩ := List.mem_map.mp hr
        obtain ⟨hj1, hj2⟩ := List.mem_filter.mp hj
        have hjn := List.mem_range.mp hj1
        obtain ⟨aj, haj⟩ : ∃ a, as[j]? = some a := ⟨_, List.getElem?_eq_getElem hjn⟩
        have hajD : as.getD j 0 = aj := by simp [List.getD, haj]
        have e1 : (aj * 16 + j) % 16 = j := by omega
        have e2 : (aj * 16 + j) / 16 = aj := by omega
        refine List.mem_map.mpr ⟨aj * 16 + j, hp.mem_iff.mpr (List.mem_filter.mpr ⟨(keyCodes_mem_iff hn).mpr (by rw [e1, e2]; exact haj), ?_⟩), by rw [e1]⟩
        unfold covP at hj2
        rw [hajD, hakD] at hj2
        rw [e2, Bool.and_eq_true, decide_eq_true_eq]
        by_cases heq : aj = ak
        · rw [if_pos heq, decide_eq_true_eq] at hj2
          exact ⟨by omega, over_same heq⟩
        · rw [if_neg heq] at hj2
          have := over_iff.mp hj2
          exact ⟨by omega, hj2⟩
      · intro hr
        obtain ⟨c, hc, rfl⟩ := List.mem_map.mp hr
        obtain ⟨h1, h2, h3⟩ := hmem c hc
        have hcn : c % 16 < as.length := (List.getElem?_eq_some_iff.mp h1).1
        refine List.mem_map.mpr ⟨c % 16, List.mem_filter.mpr ⟨List.mem_range.mpr hcn, ?_⟩, rfl⟩
        have hcD : as.getD (c % 16) 0 = c / 16 := by simp [List.getD, h1]
        unfold covP
        rw [hcD, hakD]
        by_cases heq : c / 16 = ak
        · rw [if_pos heq, decide_eq_true_eq]; omega
        · rw [if_neg heq]; exact h3
    · rw [List.pairwise_map]
      refine hs.imp_of_mem fun {a b} ha hb hab => ?_
      obtain ⟨a1, a2, a3⟩ := hmem a ha
      obtain ⟨b1, b2, b3⟩ := hmem b hb
      have haD : as.getD (a % 16) 0 = a / 16 := by simp [List.getD, a1]
      have hbD : as.getD (b % 16) 0 = b / 16 := by simp [List.getD, b1]
      unfold rowC
      rw [haD, hbD]
      by_cases he : a / 16 = b / 16
      · rw [he]; omega
      · have ha3 := over_iff.mp a3
        have hb3 := over_iff.mp b3
        have := (over_nest (r := a / 16) (q := b / 16) (over_iff.mpr ⟨by omega, by omega⟩) he).2
        have := Nat.mod_lt a (by decide : 16 > 0)
        omega
  rw [hrow, List.map_map]
  refine List.map_congr_left fun c hc => ?_
  simp only [Function.comp]
  have hcn : c % 16 < as.length := (List.getElem?_eq_some_iff.mp (hmem c hc).1).1
  unfold rowC
  omega
end Mine

namespace Mine
open PySem PySem.Calls PyProof.Rows PySem.SeqAt PySem.MeetsSeq3 PySem.W

theorem AllR.unsnoc {α : Type} {R : Value → α → Prop} {vs : List Value} {xs : List α} {x : α} (h : AllR R vs (xs ++ [x])) : ∃ us u, vs = us ++ [u] ∧ AllR R us xs ∧ R u x := by
  have hl : vs.length = xs.length + 1 := by rw [h.1]; simp
  have hne : vs ≠ [] := by rintro rfl; simp at hl
  refine ⟨vs.dropLast, vs.getLast hne, (List.dropLast_concat_getLast hne).symm, ⟨by simp; omega, fun i v y h1 h2 => ?_⟩, ?_⟩
  · have hi : i < xs.length := (List.getElem?_eq_some_iff.mp h2).1
    refine h.2 i v y ?_ (by rw [List.getElem?_append_left hi]; exact h2)
    rw [List.getElem?_dropLast] at h1
    split at h1
    · exact h1
    · cases h1
  · refine h.2 xs.length _ x ?_ (by simp)
    rw [List.getLast_eq_getElem]
    have : vs.length - 1 = xs.length := by omega
    simp only [this]
    exact List.getElem?_eq_getElem (by omega)

theorem popTo_snoc_no {cov : Nat → Bool} {l : List Nat} {x : Nat} (h : cov x = false) : popTo cov (l ++ [x]) = popTo cov l := by
  unfold popTo
  rw [List.reverse_append]
  show ((x :: l.reverse).dropWhile _).reverse = _
  rw [List.dropWhile_cons]
  simp [h]
theorem popTo_snoc_yes {cov : Nat → Bool} {l : List Nat} {x : Nat} (h : cov x = true) : popTo cov (l ++ [x]) = l ++ [x] := by
  unfold popTo
  rw [List.reverse_append]
  show ((x :: l.reverse).dropWhile _).reverse = _
  rw [List.dropWhile_cons]
  simp [h]
theorem snoc_cases {α : Type} (l : List α) : l = [] ∨ ∃ l' x, l = l' ++ [x] := by
  cases l with
  | nil => exact .inl rfl
  | cons a r => exact .inr ⟨(a :: r).dropLast, (a :: r).getLast (by simp), (List.dropLast_concat_getLast _).symm⟩
theorem askS_ne (b : Bool) : decide (askS b ≠ Str.ofString "yes") = !b := by cases b <;> decide

abbrev env13 (P : Pg) (L : Addr) : Env := callEnvC (fdOf 13 (P.pm 13) (P.cd 13) (P.doc 13)) L (P.fa 13)

/-- the names of _law_told that hold lists -/
structure Loc (m : Str → Option Value) (Dpl Dbk Dps Do Dh : Addr) : Prop where
  pile : m (Str.ofString "pile") = some (.ref Dpl)
  backs : m (Str.ofString "backs") = some (.ref Dbk)
  piles : m (Str.ofString "piles") = some (.ref Dps)
  out : m (Str.ofString "out") = some (.ref Do)
  heap : m (Str.ofString "heap") = some (.ref Dh)

section
variable {prog : Program} {w : World} {A : Around} {E : Value → Shared → Prop} {s : Shared} {H : Heap} {P : Pg} {e : Entry} {B : Store} {L : Addr} {m : Str → Option Value} {W : List (Addr × Kd)} {h : Heap} {t : Nat} {env : Env} {Q : Value → Shared → Prop} {QF : Flow → Shared → Prop} {K : Frag} {C fI fS : Addr}
set_option maxHeartbeats 4000000

def told_while : Stmt := match (bodyOf (stmtAt 13)).getD 9 (.Pass default) with | .For _ _ b _ _ => b.getD 3 (.Pass default) | _ => .Pass default
def told_tail : List Stmt := match (bodyOf (stmtAt 13)).getD 9 (.Pass default) with | .For _ _ b _ _ => b.drop 4 | _ => []

/-- the while of _law_told -/
theorem told_while_ok {k : Nat} {L I : Addr} {o : Obj} {Dpl Dbk Dps Do Dh la ka kb : Addr} {pvs bkv plv ovs hvs avs : List Value} {kp : Value} {as pc : List Nat} {d : Nat} {th tk : Tok}
    (hP : PgOk H P) (hC : ClsOk H P K C fI fS) (hA : Rm A (k + 3)) (F : Fm H e B (env13 P L).locals m [(I, .obj o), (Dpl, .list pvs), (Dbk, .list bkv), (Dps, .list plv), (Do, .list ovs), (Dh, .list hvs), (L + 1 + 1 + 1, .cell (some (.ref ka))), (L + 1 + 1, .cell (some kp)), (L + 1, .cell (some (.ref la)))] h)
    (hloc : Loc m Dpl Dbk Dps Do Dh) (hkp : IsKeeper B C kp) (hn : as.length < 16) (hla : B la = some (.list avs)) (hal : AllR (IsAdr B) avs as) (hka : B ka = some (.tup [.str (hostR (d / 16)) th, .ref kb, .int ((d % 16 : Nat) : Int) tk]))
    (hd : as[d % 16]? = some (d / 16)) (hpc : ∀ c ∈ pc, as[c % 16]? = some (c / 16)) (hpl : pc.length < 1000) (hpv : AllR IsInt pvs (pc.map (· % 16)))
    (go : ∀ h' t' pvs', AllR IsInt pvs' ((popTo (fun c => over (c / 16) (d / 16)) pc).map (· % 16)) → Fm H e B (env13 P L).locals m [(I, .obj o), (Dpl, .list pvs'), (Dbk, .list bkv), (Dps, .list plv), (Do, .list ovs), (Dh, .list hvs), (L + 1 + 1 + 1, .cell (some (.ref ka))), (L + 1 + 1, .cell (some kp)), (L + 1, .cell (some (.ref la)))] h' →
      wpAny (model prog w) A (execs told_tail (env13 P L)) QF NoE (St s h' t')) :
    wpAny (model prog w) A (execs (told_while :: told_tail) (env13 P L)) QF NoE (St s h t) := by
  refine s_while (fun n s' => ∃ (h2 : Heap) (t2 : Nat) (l : List Nat) (lv : List Value), s' = St s h2 t2 ∧ Fm H e B (env13 P L).locals m [(I, .obj o), (Dpl, .list lv), (Dbk, .list bkv), (Dps, .list plv), (Do, .list ovs), (Dh, .list hvs), (L + 1 + 1 + 1, .cell (some (.ref ka))), (L + 1 + 1, .cell (some kp)), (L + 1, .cell (some (.ref la)))] h2 ∧
      AllR IsInt lv (l.map (· % 16)) ∧ popTo (fun c => over (c / 16) (d / 16)) l = popTo (fun c => over (c / 16) (d / 16)) pc ∧ (∀ c ∈ l, as[c % 16]? = some (c / 16)) ∧ l.length < 1000 ∧ n = l.length) ?_ pc.length ⟨h, t, pc, pvs, rfl, F, hpv, rfl, hpc, hpl, rfl⟩
  rintro n _ ⟨h2, t2, l, lv, rfl, F2, hlv, hpop, hl, hll, rfl⟩
  have hlvl : lv.length = l.length := by rw [hlv.1]; simp
  refine t_and2 (t_cmp (r_name F2 hloc.pile (r_listd (d_nil ⟨by simp, ?_⟩))))
  have F3 := F2.grown (h' := h2.push { cls := .type "list", data := .seq ([] : List Value).toArray }) fun b o eo => Heap.get?_push_of_some _ eo
  refine c_ne_nil (F3.at0 (i := 1) rfl) ⟨_, Heap.get?_push_size _ rfl, 0, rfl⟩ hA.unit (t_bool ?_)
  rcases snoc_cases l with rfl | ⟨l', x, rfl⟩
  · have hz : lv = [] := List.length_eq_zero_iff.mp (by rw [hlvl]; rfl)
    subst hz
    refine ifF (by simp) (ifF (by simp) ?_)
    refine go _ _ [] ?_ F3
    rw [← hpop]; exact AllR.nil
  · rw [List.map_append] at hlv
    obtain ⟨us, u, rfl, hus, tu, rfl⟩ := hlv.unsnoc
    refine ifT (by simp) ?_
    have hx := hl x (by simp)
    obtain ⟨vx, hvx, havx⟩ := hal.get hx
    obtain ⟨vd, hvd, havd⟩ := hal.get hd
    have hla3 := F3.sub _ _ hla
    refine t_cmp (r_call F3 hP.g (hP.fn 12 (by decide)) (hP.fo 12 (by decide)) (hP.fd 12 (by decide)) (args_3 (r_cname F3 7 rfl (r_sub (r_cname F3 8 rfl (r_sub (r_name F3 hloc.pile (r_neg (r_int (o_neg ?_)))))))))) 
    refine i_last (F3.at0 (i := 1) rfl) (by rw [hlvl]; omega) (x := .int ((x % 16 : Nat) : Int) tu) (by simp) ?_
    refine i_list hla3 (by omega) (by omega) (by rw [Int.toNat_natCast]; exact hvx) ?_
    refine r_sub (r_cname F3 8 rfl (r_sub (r_cname F3 6 rfl (r_int (i_tup (F3.sub _ _ hka) (by decide) (by decide) rfl ?_)))))
    refine i_list hla3 (by omega) (by omega) (by rw [Int.toNat_natCast]; exact hvd) ⟨F3.base, r_body ?_⟩
    refine asked_ok (k := k + 1) hP hC hA F3.pre0 hkp havx havd fun h4 t4 tk4 b4 => ?_
    have F4 := F3.back b4
    refine r_str (c_nes (t_bool ?_))
    rw [askS_ne]
    cases hov : over (x / 16) (d / 16) with
    | true =>
      refine ifF (by decide) ?_
      refine go _ _ (us ++ [.int ((x % 16 : Nat) : Int) tu]) ?_ F4
      rw [← hpop, popTo_snoc_yes (cov := fun c => over (c / 16) (d / 16)) hov, List.map_append]; exact hlv
    | false =>
      refine ifT rfl ?_
      refine s_expr (m_pop (r_name F4 hloc.pile (popFrom F4 1 rfl (by have := hus.1; simp at this hll; omega) fun h5 F5 => s_nil ?_)))
      refine ⟨l'.length, by simp, h5, _, l', us, rfl, F5, hus, ?_, fun c hc => hl c (by simp [hc]), by simp at hll; omega, rfl⟩
      rw [← hpop, popTo_snoc_no (cov := fun c => over (c / 16) (d / 16)) hov]
end
end Mine

namespace Mine
open PySem PySem.Calls PyProof.Rows PySem.SeqAt PySem.MeetsSeq3 PySem.W

/-- what stands between two turns of _law_told -/
def TJ (B0 : Store) (as : List Nat) (ks : PL) (L Dpl Dbk Dps Do Dh la : Addr) (kp : Value) (i : Nat) (B' : Store) (m' : Str → Option Value) (W' : List (Addr × Kd)) : Prop :=
  B0.le B' ∧ Loc m' Dpl Dbk Dps Do Dh ∧ ∃ (hp out : PL) (pc : List Nat) (pvs plv bkv : List Value) (kc : Option Value), TInv ks hp out pc ∧ out.length = i ∧ AllR IsInt pvs (pc.map (· % 16)) ∧ plv.length = as.length ∧ bkv.length = as.length ∧
    (∀ o ∈ out, ∃ v pl, plv[o.2 % 16]? = some v ∧ PileSpec as (o.2 % 16) pl ∧ IsInts B' v pl) ∧ (∀ o ∈ out, ∃ v bl, bkv[o.2 % 16]? = some v ∧ BackSpec as (o.2 % 16) bl ∧ IsAnss B' v bl) ∧
    W' = [(Dpl, .list pvs), (Dbk, .list bkv), (Dps, .list plv), (Do, .list (vs out)), (Dh, .list (vs hp)), (L + 1 + 1 + 1, .cell kc), (L + 1 + 1, .cell (some kp)), (L + 1, .cell (some (.ref la)))]

def told_body : List Stmt := match (bodyOf (stmtAt 13)).getD 9 (.Pass default) with | .For _ _ b _ _ => b | _ => []

theorem set_keep {vs : List Value} {i j : Nat} {v x : Value} (h : vs[j]? = some x) (hij : j ≠ i) : (vs.set i v)[j]? = some x := by rw [List.getElem?_set_ne (Ne.symm hij)]; exact h

section
variable {prog : Program} {w : World} {A : Around} {E : Value → Shared → Prop} {s : Shared} {H : Heap} {P : Pg} {e : Entry} {B B0 : Store} {L : Addr} {m : Str → Option Value} {W : List (Addr × Kd)} {h : Heap} {t : Nat} {env : Env} {Q : Value → Shared → Prop} {QF : Flow → Shared → Prop} {K : Frag} {C fI fS : Addr}
set_option maxHeartbeats 4000000

theorem told_turn {k i : Nat} {I : Addr} {o : Obj} {Dpl Dbk Dps Do Dh la : Addr} {avs : List Value} {kp : Value} {as : List Nat} {ks : PL}
    (hP : PgOk H P) (hC : ClsOk H P K C fI fS) (hA : Rm A (k + 5)) (hS : e.S = []) (F0 : Fm H e B (env13 P L).locals m ((I, .obj o) :: W) h)
    (hkp : IsKeeper B0 C kp) (hn : as.length < 16) (hla : B0 la = some (.list avs)) (hal : AllR (IsAdr B0) avs as) (hks : ∀ p ∈ ks, IsKey B0 p.1 p.2) (hkc : cds ks = keyCodes as) (hi : i < as.length)
    (hTJ : TJ B0 as ks L Dpl Dbk Dps Do Dh la kp i B m W) :
    wpAny (model prog w) A (execs told_body (env13 P L)) (fun f s₃ => (f = .next ∨ f = .cont) ∧ ∃ B'' m'' W'' h'' t'', s₃ = St s h'' t'' ∧ Fm H e B'' (env13 P L).locals m'' ((I, .obj o) :: W'') h'' ∧ TJ B0 as ks L Dpl Dbk Dps Do Dh la kp (i + 1) B'' m'' W'') NoE (St s h t) := by
  obtain ⟨hB0, hloc, hp, out, pc, pvs, plv, bkv, kc, T, hlen, hpv, hpll, hbkl, hpls, hbks, rfl⟩ := hTJ
  have hkl : ks.length = as.length := by rw [← keyCodes_len, ← hkc]; simp [cds]
  have hne : ks.Pairwise fun a b => a.2 ≠ b.2 := by
    have := keyCodes_ne as hn
    rw [← hkc, cds, List.pairwise_map] at this
    exact this
  have hsum : out.length + hp.length = ks.length := by rw [← T.perm.length_eq]; simp
  rcases snoc_cases hp with rfl | ⟨ys, last, rfl⟩
  · simp at hsum; omega
  have hyl : ys.length < 900 := by simp at hsum; omega
  have hin : ∀ p ∈ ys ++ [last], p ∈ ks := fun p hp => T.perm.mem_iff.mp (List.mem_append.mpr (.inr hp))
  have hino : ∀ p ∈ out, p ∈ ks := fun p hp => T.perm.mem_iff.mp (List.mem_append.mpr (.inl hp))
  have hkB : ∀ p ∈ ks, IsKey B p.1 p.2 := fun p hp => (hks p hp).mono hB0
  refine s_assign (r_call F0 hP.g (hP.fn 3 (by decide)) (hP.fo 3 (by decide)) (hP.fd 3 (by decide)) (args_1 (r_name F0 hloc.heap ⟨F0.base, r_body (heappop_ok (K := IsKey) (fun B v c u d => key_lt B v c u d) (k := k + 2) (ys := ys) (last := last) hP hA (F0.preAt (i := 5) rfl) (fun q hq => hkB q (hin q (by simp [hq]))) (hkB last (hin last (by simp))) hyl fun h1 t1 b1 a1 => ?_)⟩)))
  have F1 := F0.backAt (i := 5) rfl b1 a1
  obtain ⟨T', hlt, hkm, hperm⟩ := T.step hne
  generalize hkey : (hpopT ys last).1 = key at *
  generalize hhp : (hpopT ys last).2 = hp' at *
  obtain ⟨kv, d⟩ := key
  have hkk := hks _ hkm
  obtain ⟨hd12, ka, kb, th, tk, ws, hkv, hka, hkb, hws⟩ := hkk
  simp only at hkv hka hkb hws hlt hkm hperm T' hd12
  subst hkv
  refine r_storec F1 6 rfl fun h2 F2' => ?_
  have F2 : Fm H e B (env13 P L).locals m [(I, .obj o), (Dpl, .list pvs), (Dbk, .list bkv), (Dps, .list plv), (Do, .list (vs out)), (Dh, .list (vs hp')), (L + 1 + 1 + 1, .cell (some (.ref ka))), (L + 1 + 1, .cell (some kp)), (L + 1, .cell (some (.ref la)))] h2 := F2'
  clear F2' F1 F0 a1 b1
  have hdm : d ∈ keyCodes as := by rw [← hkc]; exact List.mem_map_of_mem (f := (·.2)) hkm
  have hdas := keyCodes_mem hn hdm
  have hdn : d % 16 < as.length := (List.getElem?_eq_some_iff.mp hdas).1
  obtain ⟨vd, hvd, havd⟩ := hal.get hdas
  have hol : out.length < 16 := by omega
  -- the answers of the turn
  refine s_setitem (r_comp [(Str.ofString "key", L + 1 + 1 + 1), (Str.ofString "keeper", L + 1 + 1), (Str.ofString "addresses", L + 1)] (r_name F2 hloc.out ?_))
  refine g_comp (H := H) (e := e) F2 (over_list hA.handled (F2.at0 (i := 4) rfl)) (by rw [vs_len]; omega) (fun hh _ hw => hw (Do, .list (vs out)) (by simp))
    (fun i B'' ys => B.le B'' ∧ AllR IsAns ys ((out.map fun p => over (d / 16) (p.2 / 16)).take i)) ⟨Store.le.refl _, by simpa using AllR.nil⟩ (fun i B'' ys q => by rw [q.2.1]; simp; omega) ?_ ?_
  · rintro j v B'' ys m6 h6 t6 C' I' o' D' hj hvj ⟨hBB, hG⟩ F6 hm
    rw [vs_len] at hj
    have hq : out[j]? = some out[j] := List.getElem?_eq_getElem hj
    have hve : v = out[j].1 := by rw [vs_get hq] at hvj; exact (Option.some.inj hvj).symm
    have hmem := hino _ (List.getElem_mem hj)
    obtain ⟨hc, a, b, u1, u2, ws', hqa, hqt, hqb, hqw⟩ := hks _ hmem
    have hcm : out[j].2 ∈ keyCodes as := by rw [← hkc]; exact List.mem_map_of_mem (f := (·.2)) hmem
    have hai := keyCodes_mem hn hcm
    obtain ⟨vi, hvi2, havi⟩ := hal.get hai
    rw [hve, hqa] at hm
    have hgr : B0.le B'' := hB0.trans hBB
    have hla6 := F6.sub _ _ (hgr _ _ hla)
    refine no_tests (ifT rfl (r_call F6 hP.g (hP.fn 12 (by decide)) (hP.fo 12 (by decide)) (hP.fd 12 (by decide)) (args_3 (r_cname F6 9 rfl (r_sub (r_cname F6 10 rfl (r_sub (r_cname F6 8 rfl (r_int (i_tup (F6.sub _ _ (hgr _ _ hka)) (by decide) (by decide) rfl ?_))))))))))
    refine i_list hla6 (by omega) (by omega) (by rw [Int.toNat_natCast]; exact hvd) ?_
    refine r_sub (r_cname F6 10 rfl (r_sub (r_name F6 hm (r_int (i_tup (F6.sub _ _ (hgr _ _ hqt)) (by decide) (by decide) rfl ?_)))))
    refine i_list hla6 (by omega) (by omega) (by rw [Int.toNat_natCast]; exact hvi2) ⟨F6.base, r_body ?_⟩
    refine asked_ok (k := k + 3) hP hC hA F6.pre0 (hkp.mono hgr) (havd.mono hgr) (havi.mono hgr) fun h7 t7 tk7 b7 => ?_
    refine ⟨_, _, _, rfl, F6.back b7, hBB, ?_⟩
    have htk : (out.map fun p => over (d / 16) (p.2 / 16)).take (j + 1) = (out.map fun p => over (d / 16) (p.2 / 16)).take j ++ [over (d / 16) (out[j].2 / 16)] := by
      rw [List.take_add_one]; simp [hj]
    rw [htk]
    exact hG.snoc ⟨_, rfl⟩
  · rintro B3 ys3 h3 t3 D3 ⟨hBB3, hG⟩ hD3 F3
    rw [vs_len, List.take_of_length_le (by simp)] at hG
    have F3' := F3.freeze (by rw [hS]; simp)
    have hle3 : B3.le (B3.add D3 (.list ys3)) := Store.le_add (F3.outB _ (.tail _ (.head _)))
    have hans : IsAnss (B3.add D3 (.list ys3)) (.ref D3) (out.map fun p => over (d / 16) (p.2 / 16)) := ⟨D3, ys3, rfl, Store.add_at .., hG⟩
    have hBB4 : B.le (B3.add D3 (.list ys3)) := hBB3.trans hle3
    generalize hB4 : B3.add D3 (.list ys3) = B4 at *
    have hB04 : B0.le B4 := hB0.trans hBB4
    refine r_name F3' hloc.backs (r_sub (r_cname F3' 6 rfl (r_int (i_tup (F3'.sub _ _ (hB04 _ _ hka)) (by decide) (by decide) rfl ?_))))
    refine r_setitem F3' 2 rfl (by omega) (by omega) (by omega) fun h4 F4' => ?_
    have F4 : Fm H e B4 (env13 P L).locals m [(I, .obj o), (Dpl, .list pvs), (Dbk, .list (bkv.set (d % 16) (.ref D3))), (Dps, .list plv), (Do, .list (vs out)), (Dh, .list (vs hp')), (L + 1 + 1 + 1, .cell (some (.ref ka))), (L + 1 + 1, .cell (some kp)), (L + 1, .cell (some (.ref la)))] h4 := F4'.castW (by rw [Int.toNat_natCast]; rfl)
    refine s_expr (m_append (r_name F4 hloc.out ⟨_, _, rfl, F4.at0 (i := 4) rfl, r_cname F4 6 rfl (appendTo F4 4 rfl (by rw [vs_len]; omega) fun h5 F5' => ?_)⟩))
    have F5 : Fm H e B4 (env13 P L).locals m [(I, .obj o), (Dpl, .list pvs), (Dbk, .list (bkv.set (d % 16) (.ref D3))), (Dps, .list plv), (Do, .list (vs (out ++ [(.ref ka, d)]))), (Dh, .list (vs hp')), (L + 1 + 1 + 1, .cell (some (.ref ka))), (L + 1 + 1, .cell (some kp)), (L + 1, .cell (some (.ref la)))] h5 := F5'.castW (by simp [vs])
    have hpcm : ∀ c ∈ pc, as[c % 16]? = some (c / 16) := fun c hc => by
      obtain ⟨o1, ho1, rfl⟩ := List.mem_map.mp (T.pcs c hc)
      refine keyCodes_mem hn ?_
      rw [← hkc]; exact List.mem_map_of_mem (f := (·.2)) (hino o1 ho1)
    have hpcl : pc.length < 1000 := by have := T.plen; omega
    refine told_while_ok (k := k + 2) hP hC hA F5 hloc (hkp.mono hB04) hn (hB04 _ _ hla) (hal.mono fun _ _ q => q.mono hB04) (hB04 _ _ hka) hdas hpcm hpcl hpv fun h6 t6 pvs' hpv' F6 => ?_
    rw [T.pile d hlt] at hpv'
    have hpvl : pvs'.length < 1000 := by
      rw [hpv'.1, List.length_map]
      exact Nat.lt_of_le_of_lt (List.length_filter_le _ _) (by simp [cds]; omega)
    -- the pile is laid down
    refine s_setitem (r_tcall F6 hP.g (hP.bi _ (by decide)) hP.b hP.list (args_1 (r_name F6 hloc.pile (b_list F6 (F6.at0 (i := 1) rfl) (by omega) fun h7 D7 hD7 F7 => ?_))))
    have F7' := F7.freeze (by rw [hS]; simp)
    have hle7 : B4.le (B4.add D7 (.list pvs')) := Store.le_add (F7.outB _ (.tail _ (.head _)))
    have hint : IsInts (B4.add D7 (.list pvs')) (.ref D7) (((cds out).filter fun c => over (c / 16) (d / 16)).map (· % 16)) := ⟨D7, pvs', rfl, Store.add_at .., hpv'⟩
    generalize hB8 : B4.add D7 (.list pvs') = B8 at *
    have hB08 : B0.le B8 := hB04.trans hle7
    refine r_name F7' hloc.piles (r_sub (r_cname F7' 6 rfl (r_int (i_tup (F7'.sub _ _ (hB08 _ _ hka)) (by decide) (by decide) rfl ?_))))
    refine r_setitem F7' 3 rfl (by omega) (by omega) (by omega) fun h8 F8' => ?_
    have F8 : Fm H e B8 (env13 P L).locals m [(I, .obj o), (Dpl, .list pvs'), (Dbk, .list (bkv.set (d % 16) (.ref D3))), (Dps, .list (plv.set (d % 16) (.ref D7))), (Do, .list (vs (out ++ [(.ref ka, d)]))), (Dh, .list (vs hp')), (L + 1 + 1 + 1, .cell (some (.ref ka))), (L + 1 + 1, .cell (some kp)), (L + 1, .cell (some (.ref la)))] h8 := F8'.castW (by rw [Int.toNat_natCast]; rfl)
    refine s_expr (m_append (r_name F8 hloc.pile ⟨_, _, rfl, F8.at0 (i := 1) rfl, r_sub (r_cname F8 6 rfl (r_int (i_tup (F8.sub _ _ (hB08 _ _ hka)) (by decide) (by decide) rfl (appendTo F8 1 rfl (by omega) fun h9 F9' => s_nil ?_))))⟩))
    have F9 : Fm H e B8 (env13 P L).locals m ((I, .obj o) :: [(Dpl, .list (pvs' ++ [.int ((d % 16 : Nat) : Int) tk])), (Dbk, .list (bkv.set (d % 16) (.ref D3))), (Dps, .list (plv.set (d % 16) (.ref D7))), (Do, .list (vs (out ++ [(.ref ka, d)]))), (Dh, .list (vs hp')), (L + 1 + 1 + 1, .cell (some (.ref ka))), (L + 1 + 1, .cell (some kp)), (L + 1, .cell (some (.ref la)))]) h9 := F9'
    have hcode : d / 16 * 16 + d % 16 = d := by omega
    have hoth : ∀ o1 ∈ out, o1.2 % 16 ≠ d % 16 := fun o1 ho1 he => by
      have h1 : as[o1.2 % 16]? = some (o1.2 / 16) := keyCodes_mem hn (by rw [← hkc]; exact List.mem_map_of_mem (f := (·.2)) (hino o1 ho1))
      rw [he, hdas] at h1
      have := Option.some.inj h1
      have := hlt o1 ho1
      omega
    have hle48 : B.le B8 := hBB4.trans hle7
    refine ⟨.inl rfl, B8, m, _, h9, _, rfl, F9, hB08, hloc, hp', out ++ [(.ref ka, d)], _, _, _, _, _, T', by simp [hlen], ?_, by simpa using hpll, by simpa using hbkl, ?_, ?_, rfl⟩
    · rw [List.map_append]
      exact hpv'.snoc ⟨_, rfl⟩
    · intro o1 ho1
      rcases List.mem_append.mp ho1 with ho1 | ho1
      · obtain ⟨v, pl, h1, h2, h3⟩ := hpls o1 ho1
        exact ⟨v, pl, set_keep h1 (hoth o1 ho1), h2, h3.mono hle48⟩
      · rw [List.mem_singleton.mp ho1]
        refine ⟨.ref D7, _, List.getElem?_set_self (by omega), ⟨d / 16, (cds out).filter (fun c => over (c / 16) (d / 16)), hdas, ?_, ?_, rfl⟩, hint⟩
        · have := hperm.filter (fun c => over (c / 16) (d / 16))
          rw [List.filter_filter, hkc] at this
          refine this.trans (List.Perm.of_eq (List.filter_congr fun c _ => ?_))
          simp only [hcode, Bool.and_comm]
        · refine List.Pairwise.filter _ ?_
          rw [cds, List.pairwise_map]; exact T.sorted
    · intro o1 ho1
      rcases List.mem_append.mp ho1 with ho1 | ho1
      · obtain ⟨v, pl, h1, h2, h3⟩ := hbks o1 ho1
        exact ⟨v, pl, set_keep h1 (hoth o1 ho1), h2, h3.mono hle48⟩
      · rw [List.mem_singleton.mp ho1]
        refine ⟨.ref D3, _, List.getElem?_set_self (by omega), ⟨d / 16, cds out, hdas, ?_, ?_, ?_⟩, hans.mono hle7⟩
        · rw [hkc] at hperm
          simp only [hcode]; exact hperm
        · rw [cds, List.pairwise_map]; exact T.sorted
        · rw [cds, List.map_map]
          refine List.map_congr_left fun p hp => ?_
          have := hlt p hp
          simp only [Function.comp]
          rw [Bool.eq_iff_iff, over_iff, decide_eq_true_eq]
          have := (endR_le (d / 16)).1
          omega
end
end Mine

namespace Mine
open PySem PySem.Calls PyProof.Rows PySem.SeqAt PySem.MeetsSeq3 PySem.W

theorem spec_of {α : Type} {R : Value → α → Prop} {Sp : Nat → α → Prop} : ∀ (n : Nat) (vs : List Value), vs.length = n → (∀ k, k < n → ∃ v x, vs[k]? = some v ∧ Sp k x ∧ R v x) → ∃ xs, SpecL Sp n xs ∧ AllR R vs xs := by
  intro n vs hl h
  have : ∀ i, i ≤ n → ∃ xs, SpecL Sp i xs ∧ AllR R (vs.take i) xs := by
    intro i
    induction i with
    | zero => intro _; exact ⟨[], SpecL.nil, by simpa using AllR.nil⟩
    | succ i ih =>
      intro hi
      obtain ⟨xs, h1, h2⟩ := ih (by omega)
      obtain ⟨v, x, h3, h4, h5⟩ := h i (by omega)
      refine ⟨xs ++ [x], h1.snoc h4, ?_⟩
      rw [List.take_add_one, h3]
      exact h2.snoc h5
  obtain ⟨xs, h1, h2⟩ := this n (Nat.le_refl _)
  rw [← hl, List.take_length] at h2
  exact ⟨xs, h1, h2⟩

section
variable {prog : Program} {w : World} {A : Around} {E : Value → Shared → Prop} {s : Shared} {H : Heap} {P : Pg} {e : Entry} {B B0 : Store} {L : Addr} {m : Str → Option Value} {W : List (Addr × Kd)} {h : Heap} {t : Nat} {env : Env} {Q : Value → Shared → Prop} {QF : Flow → Shared → Prop} {K : Frag} {C fI fS : Addr}
set_option maxHeartbeats 4000000

theorem told_ok {R : Result → Shared → Prop} {k : Nat} {v : Value} {as : List Nat} (hP : PgOk H P) (hC : ClsOk H P K C fI fS) (hA : Rm A (k + 6)) (pre : Pre H B [] h) (hv : IsAdrs B v as)
    (go : ∀ h' t' B' v (ocs : List Nat) pls bks, Back B [] h h' B' → ocs.Perm (keyCodes as) → ocs.Pairwise (· < ·) → SpecL (PileSpec as) as.length pls → SpecL (BackSpec as) as.length bks → IsRes B' v [] ocs pls bks → R (.ok (.ret v)) (St s h' t')) :
    codeAny (model prog w) A (.call (.ref (P.fa 13)) ⟨[v], []⟩) R (St s h t) := by
  have hv' := hv
  obtain ⟨hn, la, avs, rfl, hla, hal⟩ := hv'
  refine enterD 13 [(Str.ofString "addresses", .ref la)] hP hA pre (by decide) rfl rfl (by decide) rfl rfl rfl (fun env h' t' he F0 hA' => ?_)
  generalize hel : env13 P h.objs.size = env0 at he
  subst he
  subst hel
  have F : Fm H ⟨h, [], B⟩ B (env13 P h.objs.size).locals _ [(h.objs.size + 1 + 1 + 1, .cell none), (h.objs.size + 1 + 1, .cell none), (h.objs.size + 1, .cell (some (.ref la)))] h' := F0
  refine s_assign (r_make (k := k + 3) F hP hC hA' rfl fun h1 t1 B1 kp hB1 F1 hkp => r_storec F1 1 rfl fun h2 F2 => ?_)
  refine s_assign (r_call F2 hP.g (hP.fn 11 (by decide)) (hP.fo 11 (by decide)) (hP.fd 11 (by decide)) (args_1 (r_cname F2 2 rfl ⟨F2.base, r_body (keys_ok (k := k + 4) hP hA' F2.pre0 (hv.mono hB1) fun h3 t3 B3 kv b3 hkv => ?_)⟩)))
  have F3 := F2.back b3
  have hB13 : B1.le B3 := b3.grow
  obtain ⟨lk, kvs, rfl, hlk, hkl⟩ := hkv
  obtain ⟨ks, hks1, hks2, hks3⟩ := hkl.pairs
  have hkvs : kvs = vs ks := hks1.symm
  subst hkvs
  have hkn : ks.length = as.length := by rw [← keyCodes_len, ← hks2]; simp
  have hB3 : B.le B3 := hB1.trans hB13
  refine r_store F3 fun h4 F4 => ?_
  refine s_assign (r_lslice (H := H) (e := ⟨h, [], B⟩) (r_name F4 rfl (p_none (p_some (r_int ⟨_, _, _, _, _, _, _, none, some ((4 : Nat) : Int), rfl, rfl, F4, F4.sub _ _ hlk, by rw [vs_len]; omega, .none, .int _ _, fun h5 Dh hDh F5 => r_store F5 fun h6 F6 => ?_⟩)))))
  have hsl : (slicePick (vs ks).toArray none (some ((4 : Nat) : Int)) none).toList = vs (ks.take 4) := by
    rw [slicePick_upto']; simp [vs, List.map_take]
  rw [hsl] at F6
  refine s_expr (r_call F6 hP.g (hP.fn 4 (by decide)) (hP.fo 4 (by decide)) (hP.fd 4 (by decide)) (args_1 (r_name F6 rfl ⟨F6.base, r_body (heapify_ok (K := IsKey) (fun B v c u d => key_lt B v c u d) (k := k + 2) hP hA' F6.pre1 (fun q hq => hks3 q (List.mem_of_mem_take hq)) (by simp; omega) fun h7 t7 b7 a7 => ?_)⟩)))
  have F7 := F6.back1 b7 a7
  obtain ⟨hh1, hh2⟩ := heapify_heap (ks.take 4)
  generalize hfy (ks.take 4) ((ks.take 4).length / 2) ((ks.take 4).length / 2) = hp0 at *
  have hdr : (slicePick (vs ks).toArray (some ((4 : Nat) : Int)) none none).toList = vs (ks.drop 4) := by
    rw [slicePick_from']; simp [vs, List.map_drop]
  -- the other keys are pushed
  refine s_forc (H := H) (e := ⟨h, [], B⟩) (h.objs.size + 1 + 1 + 1) 1 (r_lslice (H := H) (e := ⟨h, [], B⟩) (r_name F7 rfl (p_some (r_int (p_none ⟨_, _, _, _, _, _, _, some ((4 : Nat) : Int), none, rfl, rfl, F7, F7.sub _ _ hlk, by rw [vs_len]; omega, .int _ _, .none, fun h8 Ds hDs F8 => ?_⟩)))))
  rw [hdr] at F8
  have F8' := F8.freeze (by simp)
  have hle : B3.le (B3.add Ds (.list (vs (ks.drop 4)))) := Store.le_add (F8.outB _ (.tail _ (.head _)))
  have ov := over_list (prog := prog) (w := w) hA'.handled (F8.at0 (i := 0) rfl)
  rw [vs_len] at ov
  have hDsB : B3.add Ds (.list (vs (ks.drop 4))) Ds = some (.list (vs (ks.drop 4))) := Store.add_at ..
  generalize B3.add Ds (.list (vs (ks.drop 4))) = B4 at *
  refine ⟨(ks.drop 4).length, fun i v => (vs (ks.drop 4))[i]? = some v,
    fun i B' m' W' => B' = B4 ∧ m' (Str.ofString "heap") = some (.ref Dh) ∧ m' (Str.ofString "keys") = some (.ref lk) ∧
      ∃ hp kc, W' = [(Dh, .list (vs hp)), (h.objs.size + 1 + 1 + 1, .cell kc), (h.objs.size + 1 + 1, .cell (some kp)), (h.objs.size + 1, .cell (some (.ref la)))] ∧ Heap' hp ∧ hp.Perm (ks.take (4 + i)),
    h8, _, B4, _, _, fun h => At h Ds (.list (vs (ks.drop 4))), rfl, F8', ov, ⟨rfl, rfl, rfl, hp0, none, rfl, hh1, hh2⟩, ?_, ?_, ?_, ?_⟩
  · rintro i B' m' W' h9 ⟨rfl, _⟩ hb _
    exact hb _ _ hDsB
  · rintro i B' m' W' ⟨_, _, _, hp, kc, rfl, _⟩
    exact ⟨kc, rfl⟩
  · rintro i v B' m' W' h9 t9 I o hi hvi ⟨rfl, e1, e2, hp, kc, rfl, hh, hperm⟩ F9
    have hi' : 4 + i < ks.length := by simp at hi; omega
    have hki : ks[4 + i]? = some ks[4 + i] := List.getElem?_eq_getElem hi'
    have hv4 : v = ks[4 + i].1 := by
      rw [vs_get (xs := ks.drop 4) (c := ks[4 + i]) (by rw [List.getElem?_drop]; exact hki)] at hvi
      exact (Option.some.inj hvi).symm
    subst hv4
    have hhl : hp.length < 900 := by rw [hperm.length_eq]; simp; omega
    refine s_expr (r_call F9 hP.g (hP.fn 2 (by decide)) (hP.fo 2 (by decide)) (hP.fd 2 (by decide)) (args_2 (r_name F9 e1 (r_cname F9 2 rfl ⟨F9.base, r_body (heappush_ok (K := IsKey) (fun B v c u d => key_lt B v c u d) (k := k + 3) (c := ks[4 + i]) hP hA' (F9.preAt (i := 1) rfl) (fun q hq => (hks3 q (List.mem_of_mem_take (hperm.mem_iff.mp hq))).mono hle) ((hks3 _ (List.getElem_mem hi')).mono hle) hhl fun h10 t10 b10 a10 => ?_)⟩))))
    have F10 := F9.backAt (i := 1) rfl b10 a10
    obtain ⟨p1, p2⟩ := hpush_heap hh ks[4 + i]
    refine s_nil ⟨.inl rfl, B', m', _, h10, t10, rfl, F10, rfl, e1, e2, hpush hp ks[4 + i], _, rfl, p1, ?_⟩
    have : ks.take (4 + (i + 1)) = ks.take (4 + i) ++ [ks[4 + i]] := by
      rw [← Nat.add_assoc, List.take_add_one, hki]; rfl
    rw [this]
    exact p2.trans (hperm.append_right _)
  rintro B' m4 W4 h9 t9 ⟨rfl, e1, e2, hp, kc, rfl, hh, hperm⟩ F9
  have hB4 : B3.le B' := hle
  have hpk : hp.Perm ks := by
    have : ks.take (4 + (ks.drop 4).length) = ks := List.take_of_length_le (by simp; omega)
    rw [this] at hperm; exact hperm
  refine s_assign (r_listd (d_nil ⟨by simp, ?_⟩))
  have F10 := F9.push (o := { cls := .type "list", data := .seq ([] : List Value).toArray }) (k := .list []) ⟨0, rfl⟩ rfl
  refine r_store F10 fun h11 F11 => ?_
  have hlk' := hB4 _ _ hlk
  -- two lists of none
  refine s_acomp [] (r_name F11 e2 (g_compA (H := H) (e := ⟨h, [], B⟩) F11 (over_list hA'.handled (F11.sub _ _ hlk')) (by rw [vs_len]; omega) (fun hh hb _ => hb _ _ hlk')
    (fun i B'' ys => B'' = B' ∧ ys.length = i) ⟨rfl, rfl⟩ (fun i B'' ys q => Nat.le_of_eq q.2) ?_ ?_))
  · rintro i v B'' ys m5 h5' t5 C' I o D' hi hvi ⟨rfl, hyl⟩ F12 hm
    exact no_tests (ifT rfl (r_none ⟨_, _, _, rfl, F12, rfl, by simp [hyl]⟩))
  rintro B'' plv h12 t12 Dps ⟨rfl, hpll⟩ hDps F12
  refine s_acomp [] (r_name F12 e2 (g_compA (H := H) (e := ⟨h, [], B⟩) F12 (over_list hA'.handled (F12.sub _ _ hlk')) (by rw [vs_len]; omega) (fun hh hb _ => hb _ _ hlk')
    (fun i B3 ys => B3 = B'' ∧ ys.length = i) ⟨rfl, rfl⟩ (fun i B3 ys q => Nat.le_of_eq q.2) ?_ ?_))
  · rintro i v B3' ys m5 h5' t5 C' I o D' hi hvi ⟨rfl, hyl⟩ F13 hm
    exact no_tests (ifT rfl (r_none ⟨_, _, _, rfl, F13, rfl, by simp [hyl]⟩))
  rintro B4 bkv h13 t13 Dbk ⟨rfl, hbkl⟩ hDbk F13
  refine s_assign (r_listd (d_nil ⟨by simp, ?_⟩))
  have F14 := F13.push (o := { cls := .type "list", data := .seq ([] : List Value).toArray }) (k := .list []) ⟨0, rfl⟩ rfl
  refine r_store F14 fun h15 F15 => ?_
  rw [vs_len, hkn] at hpll hbkl
  generalize hDo : (St s h9 t9).heap.objs.size = Do at *
  generalize hDpl : (St s h13 t13).heap.objs.size = Dpl at *
  have hB04 : B.le B4 := hB3.trans hB4
  have hkpB : IsKeeper B4 C kp := hkp.mono (hB13.trans hB4)
  have hksB : ∀ p ∈ ks, IsKey B4 p.1 p.2 := fun p hp => (hks3 p hp).mono hB4
  have halB : AllR (IsAdr B4) avs as := hal.mono fun _ _ q => q.mono hB04
  -- the turns
  refine s_for (H := H) (e := ⟨h, [], B⟩) as.length (fun i v => ∃ t, v = .int ((i : Nat) : Int) t) (TJ B4 as ks h.objs.size Dpl Dbk Dps Do Dh la kp) ?_ ?_ ?_
  · refine r_tcall F15 hP.g (hP.bi _ (by decide)) hP.b hP.range (args_1 (r_bcall F15 hP.g (hP.bi _ (by decide)) hP.b hP.len (args_1 (r_name F15 e2 (r_len (F15.sub _ _ hlk') (by rw [vs_len]; omega) ?_)))))
    rw [vs_len, hkn]
    refine b_range F15 fun h16 rg t₀ u₀ v₀ hr F16 => ?_
    refine ⟨h16, _, B4, _, _, fun _ => True, rfl, F16, over_range hA'.handled hr (by omega), ⟨Store.le.refl _, ⟨rfl, rfl, rfl, rfl, e1⟩, hp, [], [], [], plv, bkv, kc, TInv.init hh hpk, rfl, AllR.nil, hpll, hbkl, (fun o ho => nomatch ho), (fun o ho => nomatch ho), rfl⟩, fun _ _ _ _ _ _ _ _ => trivial⟩
  · rintro i v B' m' W' h16 t16 I o hi ⟨ti, rfl⟩ hTJ F16
    refine told_turn (k := k) (B0 := B4) hP hC hA' rfl F16 hkpB hn (hB04 _ _ hla) halB hksB hks2 hi ?_
    obtain ⟨q1, q2, q3⟩ := hTJ
    exact ⟨q1, ⟨q2.pile, q2.backs, q2.piles, q2.out, q2.heap⟩, q3⟩
  rintro B5 m5 W5 h16 t16 ⟨hB45, hloc, hp', out, pc, pvs, plv', bkv', kc', T, hlen, hpv, hpll', hbkl', hpls, hbks, rfl⟩ F16
  have hol : out.length + hp'.length = ks.length := by rw [← T.perm.length_eq]; simp
  have hp0' : hp' = [] := List.length_eq_zero_iff.mp (by omega)
  subst hp0'
  have hok : out.Perm ks := by have := T.perm; rw [List.append_nil] at this; exact this
  -- the end
  refine s_ret (r_listd (d_cons (r_name F16 hloc.heap (d_cons (r_name F16 hloc.out (d_cons (r_name F16 hloc.piles (d_cons (r_name F16 hloc.backs (d_nil ⟨by simp, ?_⟩))))))))))
  have G1 := F16.freeze (by simp)
  have l1 := Store.le_add (k := .list pvs) (F16.outB _ (.tail _ (.head _)))
  have G2 := G1.freeze (by simp)
  have l2 := Store.le_add (k := .list bkv') (G1.outB _ (.tail _ (.head _)))
  have G3 := G2.freeze (by simp)
  have l3 := Store.le_add (k := .list plv') (G2.outB _ (.tail _ (.head _)))
  have G4 := G3.freeze (by simp)
  have l4 := Store.le_add (k := .list (vs out)) (G3.outB _ (.tail _ (.head _)))
  have G5 := G4.freeze (by simp)
  have l5 := Store.le_add (k := .list (vs ([] : PL))) (G4.outB _ (.tail _ (.head _)))
  have G6 := G5.pushB (o := { cls := .type "list", data := .seq [.ref Dh, .ref Do, .ref Dps, .ref Dbk].toArray }) (k := .list [.ref Dh, .ref Do, .ref Dps, .ref Dbk]) ⟨0, rfl⟩ rfl
  have l6 := Store.le_add (k := .list [.ref Dh, .ref Do, .ref Dps, .ref Dbk]) G5.size_none.2.1
  have m5 := l5.trans l6
  have m4 := l4.trans m5
  have m3 := l3.trans m4
  have m2 := l2.trans m3
  have m1 := l1.trans m2
  have hcov : ∀ k, k < as.length → ∃ o ∈ out, o.2 % 16 = k := fun k hk => by
    obtain ⟨a, ha⟩ : ∃ a, as[k]? = some a := ⟨_, List.getElem?_eq_getElem hk⟩
    have h1 : a * 16 + k ∈ cds ks := by rw [show cds ks = keyCodes as from hks2]; exact List.mem_of_getElem? (keyCodes_get ha)
    obtain ⟨p, hp1, hp2⟩ := List.mem_map.mp h1
    exact ⟨p, hok.mem_iff.mpr hp1, by rw [hp2]; omega⟩
  obtain ⟨pls, hpl1, hpl2⟩ := spec_of (R := IsInts B5) (Sp := PileSpec as) as.length plv' hpll' fun k hk => by
    obtain ⟨o, ho, rfl⟩ := hcov k hk
    obtain ⟨v, pl, q1, q2, q3⟩ := hpls o ho
    exact ⟨v, pl, q1, q2, q3⟩
  obtain ⟨bks, hbk1, hbk2⟩ := spec_of (R := IsAnss B5) (Sp := BackSpec as) as.length bkv' hbkl' fun k hk => by
    obtain ⟨o, ho, rfl⟩ := hcov k hk
    obtain ⟨v, pl, q1, q2, q3⟩ := hbks o ho
    exact ⟨v, pl, q1, q2, q3⟩
  refine go _ _ _ _ (cds out) pls bks G6.leave ?_ ?_ hpl1 hbk1 ⟨_, _, _, _, _, rfl, Store.add_at .., ⟨Dh, [], rfl, l6 _ _ (Store.add_at ..), AllR.nil⟩, ⟨Do, vs out, rfl, m5 _ _ (Store.add_at ..), AllR.of_pairs fun p hp => (hksB p (hok.mem_iff.mp hp)).mono (hB45.trans m1)⟩,
    ⟨Dps, plv', rfl, m4 _ _ (Store.add_at ..), hpl2.mono fun _ _ q => q.mono m1⟩, ⟨Dbk, bkv', rfl, m3 _ _ (Store.add_at ..), hbk2.mono fun _ _ q => q.mono m1⟩⟩
  · rw [← hks2]; exact hok.map _
  · rw [cds, List.pairwise_map]; exact T.sorted
end
end Mine

namespace Mine
open PySem PySem.Calls PyProof.Rows PySem.SeqAt PySem.MeetsSeq3 PySem.W

-- two values that stand for the same data are the same
theorem eq_list {A : Around} {s : Shared} {l b : Addr} {xs ys : List Value} (hl : At s.heap l (.list xs)) (hb : At s.heap b (.list ys)) (hn : xs.length = ys.length) (hu : A.units < cLine)
    (he : ∀ (j : Nat) (v u : Value), xs[j]? = some v → ys[j]? = some u → EqAt A.in1 s v u true) : RcAt A s (.ref l) (.ref b) true := by
  have key := RcAt.lists (A := A) (s := s) (e := fun _ => true) hl.isList hb.isList (by simpa using hn) hu fun j h1 h2 => he j _ _ (by simp at h1 ⊢) (by simp at h2 ⊢)
  have : (List.range xs.toArray.size).all (fun _ => true) = true := List.all_eq_true.mpr fun _ _ => rfl
  rw [this] at key
  exact key
theorem eq_listE {A : Around} {s : Shared} {l b : Addr} {xs ys : List Value} (hl : At s.heap l (.list xs)) (hb : At s.heap b (.list ys)) (hn : xs.length = ys.length) (hu : A.units < cLine)
    (he : ∀ (j : Nat) (v u : Value), xs[j]? = some v → ys[j]? = some u → EqAt A.in1 s v u true) : EqAt A s (.ref l) (.ref b) true := by
  by_cases h : l = b
  · subst h; exact EqAt.same _
  · exact EqAt.of_refs h (eq_list hl hb hn hu he)
theorem eq_L' {α : Type} {R : Value → α → Prop} {B : Store} {A : Around} {s : Shared} {v u : Value} {xs : List α} (hB : ∀ a k, B a = some k → At s.heap a k) (hv : IsL' R B v xs) (hu : IsL' R B u xs) (hc : A.units < cLine)
    (he : ∀ v u x, R v x → R u x → EqAt A.in1 s v u true) : EqAt A s v u true := by
  obtain ⟨a, vs, rfl, h1, h2⟩ := hv
  obtain ⟨b, us, rfl, g1, g2⟩ := hu
  refine eq_listE (hB _ _ h1) (hB _ _ g1) (h2.1.trans g2.1.symm) hc fun j v u hv hu => ?_
  have hj : j < xs.length := h2.1 ▸ (List.getElem?_eq_some_iff.mp hv).1
  have hx : xs[j]? = some xs[j] := List.getElem?_eq_getElem hj
  exact he v u _ (h2.2 j v _ hv hx) (g2.2 j u _ hu hx)
theorem eq_int {A : Around} {s : Shared} {v u : Value} {n : Nat} (hv : IsInt v n) (hu : IsInt u n) : EqAt A s v u true := by
  obtain ⟨t, rfl⟩ := hv
  obtain ⟨t', rfl⟩ := hu
  have := EqAt.int_int (A := A) (s := s) (n : Int) t (n : Int) t'
  rw [beq_self_eq_true] at this; exact this
theorem eq_ans {A : Around} {s : Shared} {v u : Value} {b : Bool} (hv : IsAns v b) (hu : IsAns u b) : EqAt A s v u true := by
  obtain ⟨t, rfl⟩ := hv
  obtain ⟨t', rfl⟩ := hu
  have := EqAt.str_str (A := A) (s := s) (askS b) t (askS b) t'
  rw [beq_self_eq_true] at this; exact this
theorem eq_key {B : Store} {A : Around} {s : Shared} {v u : Value} {c : Nat} (hB : ∀ a k, B a = some k → At s.heap a k) (hv : IsKey B v c) (hu : IsKey B u c) (hc : A.units + 1 < cLine) : EqAt A s v u true := by
  obtain ⟨_, a, b, t1, t2, ws, rfl, ha, hb, hw⟩ := hv
  obtain ⟨_, a', b', u1, u2, ws', rfl, ha', hb', hw'⟩ := hu
  by_cases h : a = a'
  · subst h; exact EqAt.same _
  · refine EqAt.of_refs h ?_
    have key := RcAt.tuples (A := A) (s := s) (e := fun _ => true) (hB _ _ ha).isTuple (hB _ _ ha').isTuple (by omega) (fun j g1 g2 => by
      have : j = 0 ∨ j = 1 ∨ j = 2 := by simp at g1; omega
      rcases this with rfl | rfl | rfl
      · have := EqAt.str_str (A := A.in1) (s := s) (hostR (c / 16)) t1 (hostR (c / 16)) u1
        rw [beq_self_eq_true] at this; exact this
      · have := EqAt.strs (A := A.in1) (s := s) (hB _ _ hb) (hB _ _ hb') (by show A.units + 1 < _; omega)
        rw [hw, hw', decide_eq_true rfl] at this; exact this
      · have := EqAt.int_int (A := A.in1) (s := s) ((c % 16 : Nat) : Int) t2 ((c % 16 : Nat) : Int) u2
        rw [beq_self_eq_true] at this; exact this)
    have e : ∀ (n : Nat), (List.range n).all (fun _ => true) = true := fun n => List.all_eq_true.mpr fun _ _ => rfl
    rw [e, Bool.true_and] at key
    exact key
theorem eq_res {B : Store} {A : Around} {s : Shared} {v u : Value} {hcs ocs : List Nat} {pls : List (List Nat)} {bks : List (List Bool)} (hB : ∀ a k, B a = some k → At s.heap a k) (hv : IsRes B v hcs ocs pls bks) (hu : IsRes B u hcs ocs pls bks) (hc : A.units + 5 < cLine) : RcAt A s v u true := by
  obtain ⟨a, v1, v2, v3, v4, rfl, h0, h1, h2, h3, h4⟩ := hv
  obtain ⟨b, u1, u2, u3, u4, rfl, g0, g1, g2, g3, g4⟩ := hu
  refine eq_list (hB _ _ h0) (hB _ _ g0) rfl (by omega) fun j v u hv hu => ?_
  have hk : ∀ v u x, IsKey B v x → IsKey B u x → EqAt A.in1.in1 s v u true := fun v u x q1 q2 => eq_key hB q1 q2 (by show A.units + 1 + 1 + 1 < _; omega)
  have hun : A.in1.units < cLine := by show A.units + 1 < _; omega
  have hun2 : A.in1.in1.units < cLine := by show A.units + 1 + 1 < _; omega
  match j, hv, hu with
  | 0, hv, hu => cases hv; cases hu; exact eq_L' hB h1 g1 hun hk
  | 1, hv, hu => cases hv; cases hu; exact eq_L' hB h2 g2 hun hk
  | 2, hv, hu => cases hv; cases hu; exact eq_L' hB h3 g3 hun fun v u x q1 q2 => eq_L' (R := IsInt) (B := B) hB q1 q2 hun2 fun _ _ _ p1 p2 => eq_int p1 p2
  | 3, hv, hu => cases hv; cases hu; exact eq_L' hB h4 g4 hun fun v u x q1 q2 => eq_L' (R := IsAns) (B := B) hB q1 q2 hun2 fun _ _ _ p1 p2 => eq_ans p1 p2
  | j + 4, hv, hu => simp at hv

theorem adrOf_lt (x : Int) : adrOf x < 80 := by
  have h1 := (idx_facts (dig_lt x 2) (dig_lt x 8) (dig_lt x 32)).1
  have h2 : 0 ≤ x.fmod 2 ∧ x.fmod 2 < 2 := ⟨Int.fmod_nonneg_of_pos x (by decide), Int.fmod_lt_of_pos x (by decide)⟩
  unfold adrOf
  omega
theorem ints_get : ∀ {vs : List Value} {ns : List Int}, IntsAre vs ns → ∀ (i : Nat) (n : Int), ns[i]? = some n → ∃ t, vs[i]? = some (.int n t)
  | _, _, .nil, i, n, h => by simp at h
  | _, _, .cons m t r, 0, n, h => ⟨t, by simp at h; simp [h]⟩
  | _, _, .cons m t r, i + 1, n, h => by
    obtain ⟨t', ht⟩ := ints_get r i n (by simpa using h)
    exact ⟨t', by simpa using ht⟩
theorem ints_take : ∀ {vs : List Value} {ns : List Int}, IntsAre vs ns → ∀ k : Nat, IntsAre (vs.take k) (ns.take k)
  | _, _, _, 0 => by simpa using IntsAre.nil
  | _, _, .nil, k + 1 => by simpa using IntsAre.nil
  | _, _, .cons m t r, k + 1 => by simpa using IntsAre.cons m t (ints_take r k)

abbrev env18 (L a : Addr) (cd : Value) : Env := envOf (nameOf (stmtAt 18)) (scopeOf (stmtAt 18)) L a cd

section
variable {prog : Program} {w : World} {A : Around} {E : Value → Shared → Prop} {s : Shared} {H : Heap} {P : Pg} {e : Entry} {B : Store} {L : Addr} {m : Str → Option Value} {W : List (Addr × Kd)} {h : Heap} {t : Nat} {env : Env} {Q : Value → Shared → Prop} {QF : Flow → Shared → Prop} {K : Frag} {C fI fS : Addr}
set_option maxHeartbeats 4000000

/-- a slice of a list of which less is known -/
theorem r_lsliceI {v : Expr} {lo hi : Option Expr} {p p' : Pos}
    (k : wpAny (model prog w) A (eval v env) (fun o s₁ => wpAny (model prog w) A (evalPart lo env) (fun vl s₂ => wpAny (model prog w) A (evalPart hi env) (fun vu s₃ =>
      ∃ (h₃ : Heap) (t₃ : Nat) (B' : Store) (m' : Str → Option Value) (W' : List (Addr × Kd)) (l : Addr) (xs : List Value) (lo hi : Option Int), s₃ = St s h₃ t₃ ∧ o = .ref l ∧ Fm H e B' L m' W' h₃ ∧ h₃.IsList l xs.toArray ∧ xs.length < 2 ^ 20 ∧ IsPart vl lo ∧ IsPart vu hi ∧
        ∀ h' D, h₃.get? D = none → Fm H e B' L m' ((D, .list (slicePick xs.toArray lo hi none).toList) :: W') h' → Q (.ref D) (St s h' t₃)) E s₂) E s₁) E (St s h t))
    (ht : ∀ o r, letTemporaryGo v o r = pure () := by intro _ _; rfl) :
    wpAny (model prog w) A (eval (.Subscript v (.Slice lo hi none p) p') env) Q E (St s h t) := by
  refine wpAny_Subscript_list_slice (wpAny_mono k (fun o s₁ q => wpAny_mono q (fun vl s₂ q => wpAny_mono q (fun vu s₃ q => ?_) fun _ _ q => q) fun _ _ q => q) fun _ _ q => q) ht
  obtain ⟨h₃, t₃, B', m', W', l, xs, lo', hi', rfl, rfl, F, hl, hx, pl, pu, go⟩ := q
  refine ⟨l, xs.toArray, lo', hi', rfl, hl, by rw [sizeLine_eq]; simp; omega, pl, pu, ?_⟩
  have F1 := F.grown (h' := h₃.push { cls := .type "slice", data := .fields #[vl, vu, .none] }) fun b o' eo => Heap.get?_push_of_some _ eo
  have F2 := F1.push (o := { cls := .type "list", data := .seq (slicePick xs.toArray lo' hi' none) }) (k := .list (slicePick xs.toArray lo' hi' none).toList) ⟨0, by simp⟩ rfl
  rw [Heap.size_push] at F2
  refine go _ _ ?_ F2
  cases q : h₃.get? (h₃.objs.size + 1) with
  | none => rfl
  | some o => exact absurd (Heap.lt_size q) (Nat.not_lt.mpr (Nat.le_succ _))

theorem isList_keeps {h h' : Heap} {l : Addr} {xs : Array Value} (hl : h.IsList l xs) (hk : ∀ b o, h.get? b = some o → h'.get? b = some o) : h'.IsList l xs := by
  obtain ⟨o, ho, r⟩ := hl
  exact ⟨o, hk _ _ ho, r⟩

theorem law_core {k : Nat} {fa la : Addr} {cd : Value} {vals : List Value} {zints : List Int} (hP : PgOk H P) (hC : ClsOk H P K C fI fS) (hA : Rm A (k + 6)) (hS : e.S = [])
    (F : Fm H e B L m [] h) (hm : m (Str.ofString "script") = some (.ref la)) (hl : H.IsList la vals.toArray) (hI : IntsAre vals zints) (hlen : zints.length < 1000)
    (go : ∀ h' t' B' m' W', Fm H e B' L m' W' h' → QF (.ret (.bool true)) (St s h' t')) :
    wpAny (model prog w) A (execs (bodyOf (stmtAt 18)) (env18 L fa cd)) QF E (St s h t) := by
  have hvl := hI.length
  refine s_acomp [] (r_bin (r_listd (d_cons (r_int (d_cons (r_int (d_cons (r_int (d_cons (r_int (d_cons (r_int (d_nil ⟨by simp, ?_⟩)))))))))))))
  have F1 := F.push (o := { cls := .type "list", data := .seq [.int 20 t, .int 6 (t + 1), .int 12 (t + 1 + 1), .int 4 (t + 1 + 1 + 1), .int 21 (t + 1 + 1 + 1 + 1)].toArray }) (k := .list [.int 20 t, .int 6 (t + 1), .int 12 (t + 1 + 1), .int 4 (t + 1 + 1 + 1), .int 21 (t + 1 + 1 + 1 + 1)]) ⟨0, rfl⟩ rfl
  have hI5 : IntsAre [.int 20 t, .int 6 (t + 1), .int 12 (t + 1 + 1), .int 4 (t + 1 + 1 + 1), .int 21 (t + 1 + 1 + 1 + 1)] [20, 6, 12, 4, 21] := .cons _ _ (.cons _ _ (.cons _ _ (.cons _ _ (.cons _ _ .nil))))
  refine r_lsliceI (H := H) (e := e) (r_name (env := env18 L fa cd) F1 hm (p_none (p_some (r_int ⟨_, _, _, _, _, _, _, none, some ((5 : Nat) : Int), rfl, rfl, F1, isList_keeps hl F1.base, by rw [hvl]; omega, .none, .int _ _, fun h2 D2 hD2 F2 => ?_⟩))))
  have hsl : (slicePick vals.toArray none (some ((5 : Nat) : Int)) none).toList = vals.take 5 := by
    rw [slicePick_upto']
  rw [hsl] at F2
  refine o_addl F2 (F2.at0 (i := 1) rfl) (F2.at0 (i := 0) rfl) (by simp; omega) fun h3 D3 hD3 F3 => ?_
  have hI10 := hI5.append (ints_take hI 5)
  generalize hzs : [Value.int 20 t, .int 6 (t + 1), .int 12 (t + 1 + 1), .int 4 (t + 1 + 1 + 1), .int 21 (t + 1 + 1 + 1 + 1)] ++ vals.take 5 = zs at *
  have hns : ([20, 6, 12, 4, 21] ++ zints.take 5 : List Int).length < 16 := by simp; omega
  generalize ([20, 6, 12, 4, 21] ++ zints.take 5 : List Int) = ns at *
  have hzl := hI10.length
  refine g_compA (H := H) (e := e) (env := env18 L fa cd) F3 (over_list hA.handled (F3.at0 (i := 0) rfl)) (by omega) (fun hh _ hw => hw (D3, .list zs) (by simp))
    (fun i B' ys => B.le B' ∧ AllR (IsAdr B') ys ((ns.map adrOf).take i)) ⟨Store.le.refl _, by simpa using AllR.nil⟩ (fun i B' ys q => by rw [q.2.1]; simp; omega) ?_ ?_
  · rintro i v B' ys m4 h4 t4 C' I o D' hi hvi ⟨hBB, hG⟩ F4 hm4
    have hin : i < ns.length := by omega
    obtain ⟨tk, htk⟩ := ints_get hI10 i ns[i] (List.getElem?_eq_getElem hin)
    rw [htk] at hvi
    have hvi := (Option.some.inj hvi).symm
    subst hvi
    refine no_tests (ifT rfl (r_call F4 hP.g (hP.fn 10 (by decide)) (hP.fo 10 (by decide)) (hP.fd 10 (by decide)) (args_1 (r_name F4 hm4 ⟨F4.base, r_body ?_⟩))))
    refine address_ok (k := k + 5) hP hA F4.pre0 fun h5 t5 B5 v5 b5 hv5 => ?_
    refine ⟨B5, h5, t5, rfl, F4.back b5, hBB.trans b5.grow, ?_⟩
    have : (ns.map adrOf).take (i + 1) = (ns.map adrOf).take i ++ [adrOf ns[i]] := by rw [List.take_add_one]; simp [hin]
    rw [this]
    exact (hG.mono fun _ _ q => q.mono b5.grow).snoc hv5
  rintro B4 ys4 h4 t4 D4 ⟨hBB4, hG⟩ hD4 F4
  rw [hzl, List.take_of_length_le (by simp)] at hG
  have F4' := F4.freeze (by rw [hS]; simp)
  have hle4 : B4.le (B4.add D4 (.list ys4)) := Store.le_add (F4.outB _ (.tail _ (.head _)))
  have hadr : IsAdrs (B4.add D4 (.list ys4)) (.ref D4) (ns.map adrOf) := ⟨by simpa using hns, D4, ys4, rfl, Store.add_at .., hG.mono fun _ _ q => q.mono hle4⟩
  generalize B4.add D4 (.list ys4) = B5 at *
  have h80 : ∀ a ∈ ns.map adrOf, a < 80 := fun a ha => by
    obtain ⟨x, _, rfl⟩ := List.mem_map.mp ha
    exact adrOf_lt x
  have hasn : (ns.map adrOf).length < 16 := by simpa using hns
  generalize ns.map adrOf = as at *
  refine s_ret (r_cmp (r_call F4' hP.g (hP.fn 13 (by decide)) (hP.fo 13 (by decide)) (hP.fd 13 (by decide)) (args_1 (r_name (env := env18 L fa cd) F4' rfl ⟨F4'.base, r_body ?_⟩))))
  refine told_ok (k := k) hP hC hA F4'.pre0 hadr fun h6 t6 B6 v6 ocs pls bks b6 ho1 ho2 hp1 hb1 hr1 => ?_
  have F6 := F4'.back b6
  refine r_call F6 hP.g (hP.fn 17 (by decide)) (hP.fo 17 (by decide)) (hP.fd 17 (by decide)) (args_1 (r_name (env := env18 L fa cd) F6 rfl ⟨F6.base, r_body ?_⟩))
  refine due_ok (k := k + 2) hP hA F6.pre0 (hadr.mono b6.grow) fun h7 t7 B7 v7 ocs' pls' bks' b7 ho1' ho2' hp1' hb1' hr2 => ?_
  have F7 := F6.back b7
  have e1 : ocs = ocs' := sorted_uniq (ho1.trans ho1'.symm) ho2 ho2'
  have e2 : pls = pls' := by
    refine List.ext_getElem (hp1.1.trans hp1'.1.symm) fun i h1 h2 => ?_
    exact pile_uniq hasn h80 (hp1.2 i _ (List.getElem?_eq_getElem h1)) (hp1'.2 i _ (List.getElem?_eq_getElem h2))
  have e3 : bks = bks' := by
    refine List.ext_getElem (hb1.1.trans hb1'.1.symm) fun i h1 h2 => ?_
    exact back_uniq (hb1.2 i _ (List.getElem?_eq_getElem h1)) (hb1'.2 i _ (List.getElem?_eq_getElem h2))
  subst e1 e2 e3
  exact eq_res (s := St s h7 t7) F7.sub (hr1.mono b7.grow) hr2 (by have := hA.units; omega) prog w _ _ (go _ _ _ _ _ F7)
end
end Mine

open PySem PySem.W PyProof.Rows
set_option maxHeartbeats 8000000
namespace Mine
open_top hd for PySem.Challenge.rw_nb0145_01
end Mine

namespace Mine
open PySem PySem.Calls PyProof.Rows PySem.SeqAt PySem.MeetsSeq3 PySem.W

theorem recs_ok : ∀ i ∈ defIdx, ∃ d ∈ recsOf hd.view_39, d.name = nameOf (stmtAt i) ∧ d.params = argsOf (stmtAt i) ∧ d.body = bodyOf (stmtAt i) ∧ d.scope = scopeOf (stmtAt i) := by
  have h : ∀ k, k < (recsOf hd.view_39).length → (recsOf hd.view_39)[k]?.isSome = true := fun k hk => by simp [hk]
  intro i hi
  simp only [defIdx, List.mem_cons, List.not_mem_nil, or_false] at hi
  have mem : ∀ k d, (recsOf hd.view_39)[k]? = some d → d ∈ recsOf hd.view_39 := fun k d h => List.mem_of_getElem? h
  rcases hi with rfl | rfl | rfl | rfl | rfl | rfl | rfl | rfl | rfl | rfl | rfl | rfl | rfl
  · exact ⟨_, mem 1 _ rfl, rfl, rfl, rfl, rfl⟩
  · exact ⟨_, mem 2 _ rfl, rfl, rfl, rfl, rfl⟩
  · exact ⟨_, mem 3 _ rfl, rfl, rfl, rfl, rfl⟩
  · exact ⟨_, mem 4 _ rfl, rfl, rfl, rfl, rfl⟩
  · exact ⟨_, mem 5 _ rfl, rfl, rfl, rfl, rfl⟩
  · exact ⟨_, mem 6 _ rfl, rfl, rfl, rfl, rfl⟩
  · exact ⟨_, mem 7 _ rfl, rfl, rfl, rfl, rfl⟩
  · exact ⟨_, mem 8 _ rfl, rfl, rfl, rfl, rfl⟩
  · exact ⟨_, mem 9 _ rfl, rfl, rfl, rfl, rfl⟩
  · exact ⟨_, mem 10 _ rfl, rfl, rfl, rfl, rfl⟩
  · exact ⟨_, mem 11 _ rfl, rfl, rfl, rfl, rfl⟩
  · exact ⟨_, mem 12 _ rfl, rfl, rfl, rfl, rfl⟩
  · exact ⟨_, mem 13 _ rfl, rfl, rfl, rfl, rfl⟩

theorem pg_ok {mean : ExcName → Option Value} {mg mb : Str → Option Value} {h : Heap} (T : Top hd.view_39 (looseW hd.view_39 []) mean mg mb h) : ∃ P : Pg, P.mg = mg ∧ PgOk h P := by
  have key : ∀ i, ∃ r : Addr × Obj × Value × Value × Value, i ∈ defIdx → mg (nameOf (stmtAt i)) = some (.ref r.1) ∧ h.get? r.1 = some r.2.1 ∧ r.2.1.data = .func (fdOf i r.2.2.1 r.2.2.2.1 r.2.2.2.2) ∧ h.CodeRec r.2.2.2.1 (nameOf (stmtAt i)) := by
    intro i
    by_cases hi : i ∈ defIdx
    · obtain ⟨d, hd', e1, e2, e3, e4⟩ := recs_ok i hi
      obtain ⟨a, o, pm, cd, doc, h1, h2, h3, h4⟩ := T.fn d hd'
      refine ⟨(a, o, pm, cd, doc), fun _ => ⟨e1 ▸ h1, h2, ?_, e1 ▸ h4⟩⟩
      rw [h3, e1, e2, e3, e4]; rfl
    · exact ⟨(0, default, .none, .none, .none), fun hh => absurd hh hi⟩
  obtain ⟨f, hf⟩ := Classical.axiomOfChoice key
  have fr : ∀ x, x ∉ startupNames → x ∉ looseW hd.view_39 [] → x ∉ (recsOf hd.view_39).map (·.name) → x ∉ (litsOf hd.view_39).map (·.1) → x ∉ (clssOf hd.view_39 (looseW hd.view_39 [])).map (·.name) → mg x = none := T.free
  refine ⟨⟨mg, mb, fun i => (f i).1, fun i => (f i).2.2.1, fun i => (f i).2.2.2.1, fun i => (f i).2.2.2.2, fun i => (f i).2.1⟩, rfl, ⟨T.g, T.b, T.nolimit, fun i hi => (hf i hi).1, fun i hi => (hf i hi).2.1, fun i hi => (hf i hi).2.2.1, fun i hi => (hf i hi).2.2.2, ?_, ?_, ?_, ?_, ?_, ?_⟩⟩
  · intro x hx
    simp only [List.mem_cons, List.not_mem_nil, or_false] at hx
    rcases hx with rfl | rfl | rfl | rfl | rfl
    all_goals exact fr _ (by decide +kernel) (by decide +kernel) (by decide +kernel) (by decide +kernel) (by decide +kernel)
  · exact (T.builtins _ (by decide)).trans PyProof.Rows.Boot.«len»
  · exact (T.builtins _ (by decide)).trans PyProof.Rows.Boot.«sorted»
  · exact (T.builtins _ (by decide)).trans PyProof.Rows.Boot.«range»
  · exact (T.builtins _ (by decide)).trans PyProof.Rows.Boot.«reversed»
  · exact (T.builtins _ (by decide)).trans PyProof.Rows.Boot.«list»

theorem cls_ok {w : World} {mg : Str → Option Value} {h : Heap} {P : Pg} (X : (hd.heap_39 w.params).In h) (hg : h.Ns mainGlobals mg) (hm : P.mg = mg) : ClsOk h P (hd.heap_39 w.params) 102 70 99 := by
  refine ⟨X, ?_, rfl, rfl, rfl, rfl, rfl, rfl, rfl, rfl, rfl, rfl, rfl, rfl, ⟨_, Str.ofString "HTTPPasswordMgr.__init__", _, .ref 69, _, X 70 _ rfl, rfl, codeRec_of X rfl⟩, ⟨_, Str.ofString "HTTPPasswordMgr.is_suburi", _, .ref 98, _, X 99 _ rfl, rfl, codeRec_of X rfl⟩⟩
  rw [hm]
  obtain ⟨o, es, ep, ho, hd', hk, hn⟩ := hg
  have := X 3 _ rfl
  have h3 : mainGlobals = 3 := rfl
  rw [h3, this] at ho
  cases ho
  cases hd'
  rw [← hn]; rfl
end Mine

namespace Mine
open PySem PySem.Calls PyProof.Rows PySem.SeqAt PySem.MeetsSeq3 PySem.W

theorem room18 (env : Env) : Rm (callerA.deeper env) 6 := ⟨by show 1 + claimMargin + 1 + 6 < recursionLimit; decide +kernel, by show 4 + 3 + 100 * 6 + 200 < cLine; decide +kernel, rfl⟩
theorem fm18 {H h : Heap} {L : Addr} {m : Str → Option Value} (F : Fr H L h m) : Fm H ⟨H, [], fun _ => none⟩ (fun _ => none) L m [] h := by
  have hL : H.get? L = none := by
    cases q : H.get? L with
    | none => rfl
    | some o => exact absurd (Heap.lt_size q) (Nat.not_lt.mpr F.above)
  have hm : ∀ a, a ∈ L :: ([] : List (Addr × Kd)).map (·.1) → a = L := fun a ha => by simpa using ha
  refine ⟨F.ns, F.keep, (fun a k ek => nomatch ek), (fun p hp => nomatch hp), by simp, fun a ha => rfl, fun a ha => ?_, fun b o eo _ => F.keep b o eo, (fun a ha => nomatch ha), fun a ha => .inr ?_, (fun a k ek => nomatch ek), (fun a k ek => nomatch ek)⟩
  · rw [hm a ha]; exact hL
  · show H.get? a = none
    rw [hm a ha]; exact hL

theorem law_final {prog : Program} {w : World} {mean : ExcName → Option Value} {mg mb : Str → Option Value} {s₁ : Shared} {h₁ : Heap} {fa la : Addr} {cd : Value} {vals : List Value} {zints : List Int} {t : Nat} {QF : Flow → Shared → Prop} {E : Value → Shared → Prop}
    (KX : (hd.heap_39 w.params).In s₁.heap) (T : Top hd.view_39 (looseW hd.view_39 []) mean mg mb s₁.heap) (hL : s₁.heap.IsList la vals.toArray) (hI : IntsAre vals zints) (hlen : ¬ (63 : Int) < (zints.length : Int))
    (F : Fr s₁.heap s₁.heap.objs.size h₁ (fun x => [(Str.ofString "script", Value.ref la)].reverse.lookup x))
    (go : ∀ h' t' m', Fr s₁.heap s₁.heap.objs.size h' m' → QF (.ret (.bool true)) (St s₁ h' t')) :
    wpAny (model prog w) (callerA.deeper (env18 s₁.heap.objs.size fa cd)) (execs (bodyOf (stmtAt 18)) (env18 s₁.heap.objs.size fa cd)) QF E (St s₁ h₁ t) := by
  obtain ⟨P, hm, hP⟩ := pg_ok T
  have hC := cls_ok (w := w) (P := P) KX T.g hm
  refine law_core (k := 0) hP hC (room18 _) rfl (fm18 F) rfl hL hI (by omega) fun h' t' B' m' W' F' => go h' t' m' ⟨F'.ns, F'.base, Nat.le_refl _⟩

end Mine

open PySem PySem.W PyProof.Rows
set_option maxHeartbeats 8000000 in
theorem PySem.Challenge.cw_nb0145_01_holds : PySem.Challenge.rw_nb0145_01.Holds :=
  Mine.hd (by
    k_go0
    refine Mine.law_final (by assumption) (by assumption) (by assumption) (by assumption) (by assumption) (by assumption) ?_
    intro h' t' m' F'
    refine goodW_bool F' (by assumption) (raisesW_false ?_) ?_
    · wrow_none_raised
    · kc_post)
