/- Rows of ints, each in a block of its own: V c is the slice of room c, X c the numbers in it. -/
import Derived.Test.YbulkbewaVisit
import Derived.Maps.AppendAt
namespace Go.Proofs.Ybulkbewa
open Go.RowKit

def upd {α : Type} (f : Nat → α) (c : Nat) (v : α) : Nat → α := fun x => if x = c then v else f x
theorem upd_same {α : Type} (f : Nat → α) (c : Nat) (v : α) : upd f c v c = v := by simp [upd]
theorem upd_other {α : Type} (f : Nat → α) {c x : Nat} (v : α) (h : x ≠ c) : upd f c v x = f x := by simp [upd, h]
theorem upd_self {α : Type} (f : Nat → α) (c : Nat) : upd f c (f c) = f := by
  funext x
  by_cases h : x = c
  · subst h; exact upd_same _ _ _
  · exact upd_other _ _ h

structure Rooms (B : Nat) (w : World) (V : Nat → Value) (X : Nat → List Nat) : Prop where
  own : ∀ c, w.ownsRow B 3 1 (V c) (X c).length (natCells (X c))
  apart : ∀ c c', c ≠ c' → (V c).ownBlock = none ∨ (V c).ownBlock ≠ (V c').ownBlock

section
variable {B : Nat} {w w' : World} {V : Nat → Value} {X : Nat → List Nat}

theorem Rooms.same (h : Rooms B w V X) (hh : ∀ c g, (V c).ownBlock = some g → w'.heap[g]? = w.heap[g]?) : Rooms B w' V X := by
  refine ⟨fun c => ⟨(h.own c).1, ?_⟩, h.apart⟩
  rcases (h.own c).2 with hn | ⟨g, cap, cur, hv, hb, hg, rest⟩
  · exact .inl hn
  · exact .inr ⟨g, cap, cur, hv, hb, (hh c g (by rw [hv]; rfl)).trans hg, rest⟩

theorem Rooms.drew (h : Rooms B w V X) : Rooms B w.drew V X := h.same (fun _ _ _ => rfl)
theorem Rooms.drewN (h : Rooms B w V X) (q : Nat) : Rooms B (w.drewN q) V X := by
  induction q generalizing w with
  | zero => exact h
  | succ q ih => exact (ih h).drew
theorem Rooms.lt (h : Rooms B w V X) {c g : Nat} (hg : (V c).ownBlock = some g) : B ≤ g ∧ g < w.heap.size := (h.own c).lt g hg
theorem Rooms.alloc (h : Rooms B w V X) (o : Obj) : Rooms B (w.alloc o) V X := h.same (fun _ _ hg => Below.heap_alloc _ _ _ (h.lt hg).2)
theorem Rooms.below (h : Rooms B w V X) (hb : Below w.heap.size w w') : Rooms B w' V X := h.same (fun _ _ hg => hb.block _ (h.lt hg).2)
theorem Rooms.notR (h : Rooms B w V X) {b : Nat} {arr : Array Value} {t : TypeId} {fz : Nat × Nat} (hb : w.heap[b]? = some (.cells arr t fz)) (ht : t ≠ 3) (c : Nat) : (V c).ownBlock ≠ some b := fun e => by
  rcases (h.own c).2 with ⟨hv, _⟩ | ⟨g, cap, cur, hv, _, hg, _⟩
  · rw [hv] at e; simp [Value.ownBlock] at e
  · rw [hv] at e
    have : g = b := by simpa [Value.ownBlock] using e
    subst this
    rw [hb] at hg
    cases hg
    exact ht rfl
theorem Rooms.setOther (h : Rooms B w V X) {p : Addr} (hp : ∀ c, (V c).ownBlock ≠ some p.block) (u : Value) : Rooms B (w.setCell p u) V X :=
  h.same (fun c _ hg => Below.heap_setCell _ _ _ _ (fun e => hp c (by rw [hg, e])))
theorem Rooms.setBelow (h : Rooms B w V X) {p : Addr} (hp : p.block < B) (u : Value) : Rooms B (w.setCell p u) V X :=
  h.setOther (fun _ e => by have := (h.lt e).1; omega) u
/-- a row turned by an append or a store -/
theorem Rooms.grow (h : Rooms B w V X) (c : Nat) {v' : Value} {l : List Nat} (hown : w'.ownsRow B 3 1 v' l.length (natCells l)) (hg : w.grownBy w' (V c).ownBlock) (hat : v'.ownBlock = (V c).ownBlock ∨ v'.ownBlock = some w.heap.size) : Rooms B w' (upd V c v') (upd X c l) := by
  refine ⟨fun x => ?_, fun x y hxy => ?_⟩
  · by_cases hx : x = c
    · subst hx; rw [upd_same, upd_same]; exact hown
    · rw [upd_other _ _ hx, upd_other _ _ hx]
      exact (h.own x).kept hg (h.apart x c hx)
  · have far : ∀ z, (V z).ownBlock = none ∨ (V z).ownBlock ≠ some w.heap.size := fun z => by
      cases hz : (V z).ownBlock with
      | none => exact .inl rfl
      | some g => exact .inr (fun e => by cases e; have := (h.lt hz).2; omega)
    by_cases hx : x = c
    · subst hx
      rw [upd_same, upd_other _ _ (Ne.symm hxy)]
      rcases hat with e | e
      · rw [e]; exact h.apart x y hxy
      · rw [e]
        refine .inr (fun e2 => ?_)
        rcases far y with h1 | h1
        · rw [h1] at e2; cases e2
        · exact h1 e2.symm
    · rw [upd_other _ _ hx]
      by_cases hy : y = c
      · subst hy
        rw [upd_same]
        rcases hat with e | e
        · rw [e]; exact h.apart x y hxy
        · rw [e]; exact far x
      · rw [upd_other _ _ hy]; exact h.apart x y hxy
theorem Rooms.form (h : Rooms B w V X) (c : Nat) (hn : 0 < (X c).length) : ∃ g cap, V c = .slice (some ⟨g, 0, none⟩) (X c).length cap ∧ (X c).length ≤ cap ∧ cap ≤ 9223372036854775807 := by
  rcases (h.own c).2 with ⟨_, h0⟩ | ⟨g, cap, cur, hv, _, _, h1, h2, _⟩
  · omega
  · exact ⟨g, cap, hv, h1, by unfold maxLen at h2; exact h2⟩
theorem Rooms.any (h : Rooms B w V X) (c : Nat) : ∃ a cap, V c = .slice a (X c).length cap ∧ (X c).length ≤ cap ∧ cap ≤ 9223372036854775807 := by
  rcases (h.own c).2 with ⟨hv, h0⟩ | ⟨g, cap, cur, hv, _, _, h1, h2, _⟩
  · exact ⟨none, 0, by rw [hv, h0], by omega, by omega⟩
  · exact ⟨some ⟨g, 0, none⟩, cap, hv, h1, by unfold maxLen at h2; exact h2⟩
theorem Rooms.cell (h : Rooms B w V X) {c g n cap i x : Nat} (hv : V c = .slice (some ⟨g, 0, none⟩) n cap) (hx : (X c)[i]? = some x) : w.cell? ⟨g, i, none⟩ = some (.int .i64 (x : Int)) := by
  have hn : n = (X c).length := by
    rcases (h.own c).2 with ⟨h0, _⟩ | ⟨g', cap', cur, h0, _⟩
    · rw [hv] at h0; cases h0
    · rw [hv] at h0; cases h0; rfl
  have ho := h.own c
  rw [hv, hn] at ho
  have hi := (List.getElem?_eq_some_iff.1 hx).1
  rw [ho.cellAt i (by omega)]
  simp [natCells, hx]
theorem Rooms.free (h : Rooms B w V X) {c g n cap i : Nat} (hv : V c = .slice (some ⟨g, 0, none⟩) n cap) : w.frozen? ⟨g, i, none⟩ = false := by
  have hn : n = (X c).length := by
    rcases (h.own c).2 with ⟨h0, _⟩ | ⟨g', cap', cur, h0, _⟩
    · rw [hv] at h0; cases h0
    · rw [hv] at h0; cases h0; rfl
  have ho := h.own c
  rw [hv, hn] at ho
  exact ho.frozenAt i
theorem Rooms.set (h : Rooms B w V X) {c g n cap : Nat} (hv : V c = .slice (some ⟨g, 0, none⟩) n cap) (i x : Nat) : Rooms B (w.setCell ⟨g, i, none⟩ (.int .i64 (x : Int))) V (upd X c ((X c).set i x)) := by
  have hn : n = (X c).length := by
    rcases (h.own c).2 with ⟨h0, _⟩ | ⟨g', cap', cur, h0, _⟩
    · rw [hv] at h0; cases h0
    · rw [hv] at h0; cases h0; rfl
  have ho := h.own c
  rw [hv, hn] at ho
  obtain ⟨h1, h2⟩ := ho.stored i (.int .i64 (x : Int))
  have h3 := h.grow c (l := (X c).set i x) (v' := V c) (w' := w.setCell ⟨g, i, none⟩ (.int .i64 (x : Int))) (by
    rw [hv, hn, List.length_set]
    have : natCells ((X c).set i x) = (natCells (X c)).set i (.int .i64 (x : Int)) := by simp [natCells, List.map_set]
    rw [this]; exact h1) (by rw [hv]; exact h2) (.inl rfl)
  rw [upd_self] at h3
  exact h3
/-- a row made -/
theorem Rooms.made (h : Rooms B w V X) (hB : B ≤ w.heap.size) {c : Nat} (hc : (V c).ownBlock = none) (l : List Nat) {cur : Array Value} {cap : Nat} (hl : l.length ≤ cap) (hcap : cap ≤ maxLen) (hs : cur.size = cap) (ht : cur.toList.take l.length = natCells l) :
    Rooms B (w.alloc (.cells cur 3)) (upd V c (.slice (some ⟨w.heap.size, 0, none⟩) l.length cap)) (upd X c l) := by
  refine h.grow c ⟨by rw [natCells_length, Nat.mul_one], .inr ⟨w.heap.size, cap, cur, rfl, hB, heap_alloc_new _ _, hl, hcap, by rw [hs, Nat.mul_one], by rw [Nat.mul_one]; exact ht⟩⟩ ?_ (.inr rfl)
  rw [hc]
  exact World.grownBy_alloc w _ none
theorem Rooms.cut0 (h : Rooms B w V X) {c g n cap : Nat} (hv : V c = .slice (some ⟨g, 0, none⟩) n cap) : Rooms B w (upd V c (.slice (some ⟨g, 0, none⟩) 0 cap)) (upd X c []) := by
  refine h.grow c ?_ (World.grownBy.refl _ _) (.inl (by rw [hv]; rfl))
  have ho := h.own c
  rcases ho.2 with ⟨h0, _⟩ | ⟨g', cap', cur, h0, hb, hg, h1, h2, h3, _⟩
  · rw [hv] at h0; cases h0
  · rw [hv] at h0; cases h0
    exact ⟨by simp [natCells], .inr ⟨g, cap, cur, rfl, hb, hg, by simp, h2, h3, by simp [natCells]⟩⟩
/-- a cell in no room's block, behind a turn of room c -/
theorem Rooms.keep (h : Rooms B w V X) {c : Nat} (hg : w.grownBy w' (V c).ownBlock) {b : Nat} {arr : Array Value} {t : TypeId} {fz : Nat × Nat} (hb : w.heap[b]? = some (.cells arr t fz)) (ht : t ≠ 3) : w'.heap[b]? = some (.cells arr t fz) :=
  (hg.block b (Array.getElem?_eq_some_iff.1 hb).1 (fun e => h.notR hb ht c e.symm)).trans hb
end
end Go.Proofs.Ybulkbewa
