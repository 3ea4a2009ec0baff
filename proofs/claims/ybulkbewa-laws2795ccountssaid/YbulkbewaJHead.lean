/- the Checker, only read. -/
import Derived.Test.YbulkbewaJMem
import Derived.Test.YbulkbewaCondMem
namespace Go.Proofs.Ybulkbewa
open Go.RowKit Go.Maps

def judgeP (K : KS) (d : DG) (fuel : Nat) (sv : Int → Bool) (ns : Nat) (L : List MB) : Option (JA × Nat × Nat) :=
  match membersP d K.evs fuel sv L 0 ⟨⟨0, List.replicate K.evs.length 0, List.replicate K.evs.length 0, List.replicate (d.nextFrom.length - 1) 0, List.replicate (d.nextFrom.length - 1) 0, []⟩, List.replicate K.evs.length 0, 0, 0, []⟩ with
  | none => none
  | some a =>
    match tallyP ns K.evs 0 a.held 0 0 with
    | none => none
    | some q => some (a, q.1, q.2)

theorem Rooms.slnR {B : Nat} {w : World} {V : Nat → Value} {X : Nat → List Nat} (h : Rooms B w V X) (c : Nat) : SlN w.heap.size w (V c) (X c) := by
  obtain ⟨a, cap, hv, h1, h2⟩ := h.any c
  obtain ⟨b, h3, h4⟩ := h.read hv
  exact ⟨a, b, 0, cap, hv, h1, h2, h3, fun i x hx => by rw [Nat.zero_add]; exact h4 i x hx⟩

section
variable {B : Nat} {w0 w : World} {bc bi bm : Nat} {K : KS} {il ms : List (Int × Nat)} {V : Nat → Value} {X : Nat → List Nat} {vE vP : Value} {Di Dm : DataW Unit}

theorem KRep.slE (h : KRep B w0 w bc bi bm K il ms V X vE vP Di Dm) : SlE w.heap.size w vE K.evs (fun i => V (3 * i + 1)) := by
  rcases h.oE.2 with ⟨hv, h0⟩ | ⟨g, cap, cur, hv, hB, hg, h1, h2, _⟩
  · refine ⟨none, 0, 0, by rw [hv, h0], by omega, by omega, fun h1 => by omega, fun i ev hi => ?_⟩
    have := (List.getElem?_eq_some_iff.1 hi).1
    omega
  · have hO := h.oE
    rw [hv] at hO
    refine ⟨some ⟨g, 0, none⟩, g, cap, hv, h1, by unfold maxLen at h2; exact h2, fun _ => ⟨rfl, (Array.getElem?_eq_some_iff.1 hg).1⟩, fun i ev hi => ?_⟩
    have hil := (List.getElem?_eq_some_iff.1 hi).1
    obtain ⟨e0, e1, e2, e3⟩ := evCells_get V 0 K.evs i ev hi
    refine ⟨by rw [hO.cellAt _ (by omega)]; exact e0, by rw [hO.cellAt _ (by omega)]; exact e1, by rw [hO.cellAt _ (by omega)]; exact e2, by rw [hO.cellAt _ (by omega), e3, Nat.zero_add], ?_⟩
    have := h.r.slnR (3 * i + 1)
    rw [h.x1 i ev hi] at this
    exact this
theorem KRep.slP (h : KRep B w0 w bc bi bm K il ms V X vE vP Di Dm) : SlP w.heap.size w vP K.pasts := by
  rcases h.oP.2 with ⟨hv, h0⟩ | ⟨g, cap, cur, hv, hB, hg, h1, h2, _⟩
  · refine ⟨none, 0, 0, by rw [hv, h0], by omega, by omega, fun h1 => by omega, fun i p hi => ?_⟩
    have := (List.getElem?_eq_some_iff.1 hi).1
    omega
  · have hO := h.oP
    rw [hv] at hO
    refine ⟨some ⟨g, 0, none⟩, g, cap, hv, h1, by unfold maxLen at h2; exact h2, fun _ => ⟨rfl, (Array.getElem?_eq_some_iff.1 hg).1⟩, fun i p hi => ?_⟩
    have hil := (List.getElem?_eq_some_iff.1 hi).1
    obtain ⟨e0, e1, e2⟩ := pastCells_get K.pasts i p hi
    exact ⟨by rw [hO.cellAt _ (by omega)]; exact e0, by rw [hO.cellAt _ (by omega)]; exact e1, by rw [hO.cellAt _ (by omega)]; exact e2⟩
theorem KRep.slI (h : KRep B w0 w bc bi bm K il ms V X vE vP Di Dm) : SlN w.heap.size w (V 0) K.inp := by
  have := h.r.slnR 0
  rw [h.x0] at this
  exact this
/-- the members in whatever order -/
theorem KRep.order (h : KRep B w0 w bc bi bm K il ms V X vE vP Di Dm) {qs : List (Int × Nat)} (hq : qs.Perm ms) : ∃ L : List MB, L.Perm K.mem ∧ L.map (·.id) = qs.map (·.1) ∧
    ∀ (i : Nat) (mb : MB), L[i]? = some mb → ∃ (p : Int × Nat) (vdv vsi : Value) (past : Int), qs[i]? = some p ∧ p.2 < w.heap.size ∧ w.heap[p.2]? = some (.cells #[.int .i64 mb.id, vdv, .int .i64 past, vsi] 81 (0, 0)) ∧ SlN w.heap.size w vdv mb.dv := by
  have hml : ms.length = K.mem.length := by have := congrArg List.length h.mi; simpa using this
  have hz : (ms.zip K.mem).map Prod.fst = ms := List.map_fst_zip (by omega)
  have hz2 : (ms.zip K.mem).map Prod.snd = K.mem := List.map_snd_zip (by omega)
  have hex : ∃ zs : List ((Int × Nat) × MB), zs.Perm (ms.zip K.mem) ∧ zs.map Prod.fst = qs := by
    have : ∀ (l : List ((Int × Nat) × MB)) (q : List (Int × Nat)), q.Perm (l.map Prod.fst) → ∃ zs : List ((Int × Nat) × MB), zs.Perm l ∧ zs.map Prod.fst = q := by
      intro l q hp
      generalize hm : l.map Prod.fst = m at hp
      induction hp generalizing l with
      | nil => exact ⟨l, List.Perm.refl _, hm⟩
      | cons x hp ih =>
        cases l with
        | nil => cases hm
        | cons a l =>
          simp only [List.map_cons, List.cons.injEq] at hm
          obtain ⟨zs, h1, h2⟩ := ih l hm.2
          exact ⟨a :: zs, h1.cons a, by simp [h2, hm.1]⟩
      | swap x y r =>
        cases l with
        | nil => cases hm
        | cons a l =>
          cases l with
          | nil => simp at hm
          | cons b l =>
            simp only [List.map_cons, List.cons.injEq] at hm
            exact ⟨b :: a :: l, List.Perm.swap _ _ _, by simp [hm.1, hm.2.1, hm.2.2]⟩
      | trans p1 p2 ih1 ih2 =>
        obtain ⟨zs, h1, h2⟩ := ih2 l hm
        obtain ⟨ys, h3, h4⟩ := ih1 zs h2
        exact ⟨ys, h3.trans h1, h4⟩
    exact this _ _ (by rw [hz]; exact hq)
  obtain ⟨zs, hzp, hzq⟩ := hex
  have hin : ∀ z ∈ zs, ∃ k : Nat, ms[k]? = some z.1 ∧ K.mem[k]? = some z.2 := fun z hmem => by
    obtain ⟨k, hk⟩ := List.mem_iff_getElem?.1 (hzp.mem_iff.1 hmem)
    have := List.getElem?_zip_eq_some.1 hk
    exact ⟨k, this.1, this.2⟩
  refine ⟨zs.map Prod.snd, by have := hzp.map Prod.snd; rwa [hz2] at this, ?_, fun i mb hi => ?_⟩
  · rw [← hzq, List.map_map, List.map_map]
    refine List.map_congr_left (fun z hmem => ?_)
    obtain ⟨k, h1, h2⟩ := hin z hmem
    have e1 : (ms.map (·.1))[k]? = some z.1.1 := by simp [h1]
    rw [h.mi] at e1
    simp only [List.getElem?_map, h2, Option.map_some, Option.some.injEq] at e1
    exact e1
  · simp only [List.getElem?_map, Option.map_eq_some_iff] at hi
    obtain ⟨z, hz1, rfl⟩ := hi
    obtain ⟨k, h1, h2⟩ := hin z (List.mem_of_getElem? hz1)
    have hm := h.m k z.1 z.2 h1 h2
    have hs := h.r.slnR (3 * k + 2)
    rw [(h.x2 k z.2 h2).1] at hs
    exact ⟨z.1, V (3 * k + 2), V (3 * k + 3), z.2.past, by rw [← hzq]; simp [hz1], lt_of_block hm, hm, hs⟩
end
end Go.Proofs.Ybulkbewa
