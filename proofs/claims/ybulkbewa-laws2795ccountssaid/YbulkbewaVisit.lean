/- components' closure 'visit' computes visitP; what components holds in memory (CRep) and how each store turns it. -/
import Derived.Test.YbulkbewaBase
import Derived.Deep.LoopGhost
import Derived.OneCell
import Derived.Deep.RegionLaw
import Derived.Deep.RegionHeld3
import Derived.Deep.AppendLies
import Derived.Lib.SmallJoins
namespace Go.Proofs.Ybulkbewa
open Go.RowKit

/-! ### the plain text of components -/
structure CS where
  comp : List Int
  idx : List Nat
  low : List Nat
  opn : List Nat
  calls : List (Nat × Nat)
  vis : Nat
  cnt : Nat

def big : Nat := 1000000000

def visitP (fr : List Nat) (s : CS) (v : Nat) : Option CS :=
  match fr[v]?, s.idx[v]?, s.low[v]? with
  | some e, some _, some _ =>
    if s.vis < big ∧ s.opn.length < big ∧ s.calls.length < big then
      some { s with vis := s.vis + 1, idx := s.idx.set v (s.vis + 1), low := s.low.set v (s.vis + 1), opn := s.opn ++ [v], calls := s.calls ++ [(v, e)] }
    else none
  | _, _, _ => none

def natCells (l : List Nat) : List Value := l.map fun n : Nat => Value.int .i64 (n : Int)
def intCells (l : List Int) : List Value := l.map fun n => Value.int .i64 n
def pairCells (l : List (Nat × Nat)) : List Value := l.flatMap fun p => [Value.int .i64 (p.1 : Int), Value.int .i64 (p.2 : Int)]

theorem natCells_length (l : List Nat) : (natCells l).length = l.length := by simp [natCells]
theorem intCells_length (l : List Int) : (intCells l).length = l.length := by simp [intCells]
theorem pairCells_length (l : List (Nat × Nat)) : (pairCells l).length = l.length * 2 := by
  induction l with
  | nil => rfl
  | cons a l ih => simp only [pairCells, List.flatMap_cons, List.length_append, List.length_cons, List.length_nil] at ih ⊢; omega
theorem natCells_set (l : List Nat) (i n : Nat) : (natCells l).toArray.setIfInBounds i (.int .i64 (n : Int)) = (natCells (l.set i n)).toArray := by
  apply Array.ext'
  simp [natCells, List.map_set]
theorem intCells_set (l : List Int) (i : Nat) (n : Int) : (intCells l).toArray.setIfInBounds i (.int .i64 n) = (intCells (l.set i n)).toArray := by
  apply Array.ext'
  simp [intCells, List.map_set]
theorem natCells_append (a b : List Nat) : natCells (a ++ b) = natCells a ++ natCells b := by simp [natCells]
theorem pairCells_append (a b : List (Nat × Nat)) : pairCells (a ++ b) = pairCells a ++ pairCells b := by simp [pairCells]
theorem natCells_get {l : List Nat} {i n : Nat} (h : l[i]? = some n) : (natCells l).toArray[i]? = some (.int .i64 (n : Int)) := by simp [natCells, h]
theorem intCells_get {l : List Int} {i : Nat} {n : Int} (h : l[i]? = some n) : (intCells l).toArray[i]? = some (.int .i64 n) := by simp [intCells, h]

/-- what components holds in memory -/
structure CRep (N V : Nat) (w0 w : World) (vF : Value) (s : CS) (vO vC : Value) : Prop where
  b0 : w.heap[N]? = some (.cells #[vF] 39 (0, 0))
  b1 : w.heap[N + 1]? = some (.cells (intCells s.comp).toArray 3 (0, 0))
  b2 : w.heap[N + 2]? = some (.cells (natCells s.idx).toArray 3 (0, 0))
  b3 : w.heap[N + 3]? = some (.cells #[.slice (some ⟨N + 2, 0, none⟩) V V] 39 (0, 0))
  b4 : w.heap[N + 4]? = some (.cells (natCells s.low).toArray 3 (0, 0))
  b5 : w.heap[N + 5]? = some (.cells #[.slice (some ⟨N + 4, 0, none⟩) V V] 39 (0, 0))
  b6 : w.heap[N + 6]? = some (.cells #[vO] 39 (0, 0))
  b7 : w.heap[N + 7]? = some (.cells #[vC] 133 (0, 0))
  b8 : w.heap[N + 8]? = some (.cells #[.int .i64 (s.vis : Int)] 3 (0, 0))
  oO : w.ownsRow (N + 9) 3 1 vO s.opn.length (natCells s.opn)
  oC : w.ownsRow (N + 9) 135 2 vC s.calls.length (pairCells s.calls)
  below : Below N w0 w
  l1 : s.comp.length = V
  l2 : s.idx.length = V
  l4 : s.low.length = V


theorem own_alone {w : World} {B B' n n' sz sz' : Nat} {e e' : TypeId} {v v' : Value} {xs xs' : List Value} (h : w.ownsRow B e sz v n xs) (h' : w.ownsRow B' e' sz' v' n' xs') (hne : e ≠ e') :
    v'.ownBlock = none ∨ v'.ownBlock ≠ v.ownBlock := by
  rcases h'.2 with ⟨rfl, _⟩ | ⟨g, cap, cur, rfl, _, hg, _⟩
  · exact .inl rfl
  · refine .inr fun he => ?_
    rcases h.2 with ⟨rfl, _⟩ | ⟨g2, cap2, cur2, rfl, _, hg2, _⟩
    · simp [Value.ownBlock] at he
    · simp only [Value.ownBlock, Option.some.injEq] at he
      subst he
      rw [hg] at hg2
      cases hg2
      exact hne rfl

section
variable {N V : Nat} {w0 w : World} {vF vO vC : Value} {s : CS}

theorem CRep.alloc (h : CRep N V w0 w vF s vO vC) (o : Obj) : CRep N V w0 (w.alloc o) vF s vO vC := by
  have k : ∀ b, b < w.heap.size → (w.alloc o).heap[b]? = w.heap[b]? := fun b hb => Below.heap_alloc _ _ _ hb
  exact ⟨(k _ (lt_of_block h.b0)).trans h.b0, (k _ (lt_of_block h.b1)).trans h.b1, (k _ (lt_of_block h.b2)).trans h.b2, (k _ (lt_of_block h.b3)).trans h.b3, (k _ (lt_of_block h.b4)).trans h.b4, (k _ (lt_of_block h.b5)).trans h.b5, (k _ (lt_of_block h.b6)).trans h.b6, (k _ (lt_of_block h.b7)).trans h.b7, (k _ (lt_of_block h.b8)).trans h.b8, h.oO.alloc _, h.oC.alloc _, h.below.alloc (by have := lt_of_block h.b0; omega) _, h.l1, h.l2, h.l4⟩

theorem CRep.drew (h : CRep N V w0 w vF s vO vC) : CRep N V w0 w.drew vF s vO vC :=
  ⟨h.b0, h.b1, h.b2, h.b3, h.b4, h.b5, h.b6, h.b7, h.b8, h.oO, h.oC, h.below.drew, h.l1, h.l2, h.l4⟩
theorem CRep.set1 (h : CRep N V w0 w vF s vO vC) (i : Nat) (n : Int) : CRep N V w0 (w.setCell ⟨N + 1, i, none⟩ (.int .i64 n)) vF { s with comp := s.comp.set i n } vO vC := by
  have k : ∀ b, b ≠ N + 1 → (w.setCell ⟨N + 1, i, none⟩ (.int .i64 n)).heap[b]? = w.heap[b]? := fun b hb => Below.heap_setCell _ _ _ _ (fun e => hb e)
  refine ⟨(k _ (by omega)).trans h.b0, ?_, (k _ (by omega)).trans h.b2, (k _ (by omega)).trans h.b3, (k _ (by omega)).trans h.b4, (k _ (by omega)).trans h.b5, (k _ (by omega)).trans h.b6, (k _ (by omega)).trans h.b7, (k _ (by omega)).trans h.b8, ownsRow_setCell_below h.oO (by show N + 1 < N + 9; omega) _, ownsRow_setCell_below h.oC (by show N + 1 < N + 9; omega) _, h.below.setCell (by show N ≤ N + 1; omega) _, by simpa using h.l1, h.l2, h.l4⟩
  exact (heap_setCell_at _ h.b1).trans (by rw [intCells_set])
theorem CRep.set2 (h : CRep N V w0 w vF s vO vC) (i n : Nat) : CRep N V w0 (w.setCell ⟨N + 2, i, none⟩ (.int .i64 (n : Int))) vF { s with idx := s.idx.set i n } vO vC := by
  have k : ∀ b, b ≠ N + 2 → (w.setCell ⟨N + 2, i, none⟩ (.int .i64 (n : Int))).heap[b]? = w.heap[b]? := fun b hb => Below.heap_setCell _ _ _ _ (fun e => hb e)
  refine ⟨(k _ (by omega)).trans h.b0, (k _ (by omega)).trans h.b1, ?_, (k _ (by omega)).trans h.b3, (k _ (by omega)).trans h.b4, (k _ (by omega)).trans h.b5, (k _ (by omega)).trans h.b6, (k _ (by omega)).trans h.b7, (k _ (by omega)).trans h.b8, ownsRow_setCell_below h.oO (by show N + 2 < N + 9; omega) _, ownsRow_setCell_below h.oC (by show N + 2 < N + 9; omega) _, h.below.setCell (by show N ≤ N + 2; omega) _, h.l1, by simpa using h.l2, h.l4⟩
  exact (heap_setCell_at _ h.b2).trans (by rw [natCells_set])
theorem CRep.set4 (h : CRep N V w0 w vF s vO vC) (i n : Nat) : CRep N V w0 (w.setCell ⟨N + 4, i, none⟩ (.int .i64 (n : Int))) vF { s with low := s.low.set i n } vO vC := by
  have k : ∀ b, b ≠ N + 4 → (w.setCell ⟨N + 4, i, none⟩ (.int .i64 (n : Int))).heap[b]? = w.heap[b]? := fun b hb => Below.heap_setCell _ _ _ _ (fun e => hb e)
  refine ⟨(k _ (by omega)).trans h.b0, (k _ (by omega)).trans h.b1, (k _ (by omega)).trans h.b2, (k _ (by omega)).trans h.b3, ?_, (k _ (by omega)).trans h.b5, (k _ (by omega)).trans h.b6, (k _ (by omega)).trans h.b7, (k _ (by omega)).trans h.b8, ownsRow_setCell_below h.oO (by show N + 4 < N + 9; omega) _, ownsRow_setCell_below h.oC (by show N + 4 < N + 9; omega) _, h.below.setCell (by show N ≤ N + 4; omega) _, h.l1, h.l2, by simpa using h.l4⟩
  exact (heap_setCell_at _ h.b4).trans (by rw [natCells_set])
theorem CRep.set8 (h : CRep N V w0 w vF s vO vC) (n : Nat) : CRep N V w0 (w.setCell ⟨N + 8, 0, none⟩ (.int .i64 (n : Int))) vF { s with vis := n } vO vC := by
  have k : ∀ b, b ≠ N + 8 → (w.setCell ⟨N + 8, 0, none⟩ (.int .i64 (n : Int))).heap[b]? = w.heap[b]? := fun b hb => Below.heap_setCell _ _ _ _ (fun e => hb e)
  refine ⟨(k _ (by omega)).trans h.b0, (k _ (by omega)).trans h.b1, (k _ (by omega)).trans h.b2, (k _ (by omega)).trans h.b3, (k _ (by omega)).trans h.b4, (k _ (by omega)).trans h.b5, (k _ (by omega)).trans h.b6, (k _ (by omega)).trans h.b7, ?_, ownsRow_setCell_below h.oO (by show N + 8 < N + 9; omega) _, ownsRow_setCell_below h.oC (by show N + 8 < N + 9; omega) _, h.below.setCell (by show N ≤ N + 8; omega) _, h.l1, h.l2, h.l4⟩
  exact (heap_setCell_at _ h.b8)
/-- a new row in the place of the old -/
theorem CRep.setO (h : CRep N V w0 w vF s vO vC) {w' : World} {v : Value} {l : List Nat} (hown : w'.ownsRow (N + 9) 3 1 v l.length (natCells l)) (hg : w.grownBy w' vO.ownBlock) : CRep N V w0 (w'.setCell ⟨N + 6, 0, none⟩ v) vF { s with opn := l } v vC := by
  have hlt : ∀ g, vO.ownBlock = some g → N + 9 ≤ g := fun g hg => (h.oO.lt g hg).1
  have k0 : ∀ b, b < N + 9 → w'.heap[b]? = w.heap[b]? := fun b hb => hg.block b (by have := lt_of_block h.b8; omega) (fun e => by have := hlt b e.symm; omega)
  have k : ∀ b, b < N + 9 → b ≠ N + 6 → (w'.setCell ⟨N + 6, 0, none⟩ v).heap[b]? = w.heap[b]? := fun b hb hne => (Below.heap_setCell _ _ _ _ (fun e => hne e)).trans (k0 b hb)
  have ho := h.oC.kept hg (own_alone h.oO h.oC (by decide))
  refine ⟨(k _ (by omega) (by omega)).trans h.b0, (k _ (by omega) (by omega)).trans h.b1, (k _ (by omega) (by omega)).trans h.b2, (k _ (by omega) (by omega)).trans h.b3, (k _ (by omega) (by omega)).trans h.b4, (k _ (by omega) (by omega)).trans h.b5, heap_setCell_at _ ((k0 _ (by omega)).trans h.b6), (k _ (by omega) (by omega)).trans h.b7, (k _ (by omega) (by omega)).trans h.b8, ownsRow_setCell_below hown (by show N + 6 < N + 9; omega) _, ownsRow_setCell_below ho (by show N + 6 < N + 9; omega) _, (h.below.grown hg (by have := lt_of_block h.b0; omega) (fun g hh => by have := hlt g hh; omega)).setCell (by show N ≤ N + 6; omega) _, h.l1, h.l2, h.l4⟩
/-- a new row in the place of the old -/
theorem CRep.setC (h : CRep N V w0 w vF s vO vC) {w' : World} {v : Value} {l : List (Nat × Nat)} (hown : w'.ownsRow (N + 9) 135 2 v l.length (pairCells l)) (hg : w.grownBy w' vC.ownBlock) : CRep N V w0 (w'.setCell ⟨N + 7, 0, none⟩ v) vF { s with calls := l } vO v := by
  have hlt : ∀ g, vC.ownBlock = some g → N + 9 ≤ g := fun g hg => (h.oC.lt g hg).1
  have k0 : ∀ b, b < N + 9 → w'.heap[b]? = w.heap[b]? := fun b hb => hg.block b (by have := lt_of_block h.b8; omega) (fun e => by have := hlt b e.symm; omega)
  have k : ∀ b, b < N + 9 → b ≠ N + 7 → (w'.setCell ⟨N + 7, 0, none⟩ v).heap[b]? = w.heap[b]? := fun b hb hne => (Below.heap_setCell _ _ _ _ (fun e => hne e)).trans (k0 b hb)
  have ho := h.oO.kept hg (own_alone h.oC h.oO (by decide))
  refine ⟨(k _ (by omega) (by omega)).trans h.b0, (k _ (by omega) (by omega)).trans h.b1, (k _ (by omega) (by omega)).trans h.b2, (k _ (by omega) (by omega)).trans h.b3, (k _ (by omega) (by omega)).trans h.b4, (k _ (by omega) (by omega)).trans h.b5, (k _ (by omega) (by omega)).trans h.b6, heap_setCell_at _ ((k0 _ (by omega)).trans h.b7), (k _ (by omega) (by omega)).trans h.b8, ownsRow_setCell_below ho (by show N + 7 < N + 9; omega) _, ownsRow_setCell_below hown (by show N + 7 < N + 9; omega) _, (h.below.grown hg (by have := lt_of_block h.b0; omega) (fun g hh => by have := hlt g hh; omega)).setCell (by show N ≤ N + 7; omega) _, h.l1, h.l2, h.l4⟩
theorem CRep.keepO (h : CRep N V w0 w vF s vO vC) {w' : World} (hg : w.grownBy w' vO.ownBlock) : ∀ b, b < N + 9 → w'.heap[b]? = w.heap[b]? :=
  fun b hb => hg.block b (by have := lt_of_block h.b8; omega) (fun e => by have := (h.oO.lt b e.symm).1; omega)
theorem CRep.keepC (h : CRep N V w0 w vF s vO vC) {w' : World} (hg : w.grownBy w' vC.ownBlock) : ∀ b, b < N + 9 → w'.heap[b]? = w.heap[b]? :=
  fun b hb => hg.block b (by have := lt_of_block h.b8; omega) (fun e => by have := (h.oC.lt b e.symm).1; omega)
theorem cells_one (w : World) (a : Value) (t : TypeId) : ∀ j u, [a][j]? = some u → (w.alloc (.cells #[a] t)).cell? ((⟨w.heap.size, 0, none⟩ : Addr).add j) = some u := by
  intro j u h
  match j, h with
  | 0, h => cases h; rw [Addr.add_lit]; exact cellB (heap_alloc_new _ _) rfl
theorem cells_two (w : World) (a b : Value) (t : TypeId) : ∀ j u, [a, b][j]? = some u → (w.alloc (.cells #[a, b] t)).cell? ((⟨w.heap.size, 0, none⟩ : Addr).add j) = some u := by
  intro j u h
  match j, h with
  | 0, h => cases h; rw [Addr.add_lit]; exact cellB (heap_alloc_new _ _) rfl
  | 1, h => cases h; rw [Addr.add_lit]; exact cellB (heap_alloc_new _ _) rfl
end

theorem info3 : (Yba.prog.info? 3).map (fun i => (i.zero, i.size, i.bytes)) = some (some (.int .i64 0), 1, 8) := by kernel_rfl
theorem info135 : (Yba.prog.info? 135).map (fun i => (i.zero, i.size, i.bytes)) = some (some (.agg #[.int .i64 0, .int .i64 0]), 2, 16) := by kernel_rfl

set_option maxHeartbeats 1600000 in
set_option maxRecDepth 100000 in
theorem visit_any (N V : Nat) (w0 w : World) (fr : List Nat) (bF cF : Nat) (s s' : CS) (vO vC : Value) (v : Nat)
    (hR : CRep N V w0 w (.slice (some ⟨bF, 0, none⟩) fr.length cF) s vO vC) (hF : ∀ (i n : Nat), fr[i]? = some n → w0.cell? ⟨bF, i, none⟩ = some (.int .i64 (n : Int))) (hFb : bF < N) (hs : visitP fr s v = some s') :
    Calls Yba.prog 46 #[.int .i64 (v : Int), .pointer (some ⟨N + 8, 0, none⟩), .pointer (some ⟨N + 3, 0, none⟩), .pointer (some ⟨N + 5, 0, none⟩), .pointer (some ⟨N + 6, 0, none⟩), .pointer (some ⟨N + 7, 0, none⟩), .pointer (some ⟨N, 0, none⟩)] w
      fun e w' => e = .returned (.tuple #[]) ∧ ∃ vO' vC', CRep N V w0 w' (.slice (some ⟨bF, 0, none⟩) fr.length cF) s' vO' vC' := by
  obtain ⟨i3, h3i, h3z, h3s, h3b⟩ := info_parts info3
  obtain ⟨i5, h5i, h5z, h5s, h5b⟩ := info_parts info135
  have c8 : w.cell? ⟨N + 8, 0, none⟩ = some (.int .i64 (s.vis : Int)) := cellB hR.b8 rfl
  have f8 : w.frozen? ⟨N + 8, 0, none⟩ = false := freeB hR.b8
  obtain ⟨e, i0, l0, he, hi0, hl0, hb, rfl⟩ : ∃ e i0 l0, fr[v]? = some e ∧ s.idx[v]? = some i0 ∧ s.low[v]? = some l0 ∧ (s.vis < big ∧ s.opn.length < big ∧ s.calls.length < big) ∧
      s' = { s with vis := s.vis + 1, idx := s.idx.set v (s.vis + 1), low := s.low.set v (s.vis + 1), opn := s.opn ++ [v], calls := s.calls ++ [(v, e)] } := by
    unfold visitP at hs
    split at hs
    · rename_i h1 h2 h3
      split at hs
      · exact ⟨_, _, _, h1, h2, h3, by assumption, by simpa using hs.symm⟩
      · cases hs
    · cases hs
  unfold big at hb
  obtain ⟨hb1, hb2, hb3⟩ := hb
  have hvV : v < V := by have := (List.getElem?_eq_some_iff.1 hi0).1; have := hR.l2; omega
  have hvF : v < fr.length := (List.getElem?_eq_some_iff.1 he).1
  obtain ⟨W1, hW1⟩ : ∃ W, W = w.setCell ⟨N + 8, 0, none⟩ (.int .i64 ((s.vis : Int) + 1)) := ⟨_, rfl⟩
  have HW : Hid _ := hW1
  have R1 : CRep N V w0 W1 (.slice (some ⟨bF, 0, none⟩) fr.length cF) { s with vis := s.vis + 1 } vO vC := by rw [hW1]; exact hR.set8 (s.vis + 1)
  have c3 : W1.cell? ⟨N + 3, 0, none⟩ = some (.slice (some ⟨N + 2, 0, none⟩) V V) := cellB R1.b3 rfl
  have c5 : W1.cell? ⟨N + 5, 0, none⟩ = some (.slice (some ⟨N + 4, 0, none⟩) V V) := cellB R1.b5 rfl
  have k8 : W1.cell? ⟨N + 8, 0, none⟩ = some (.int .i64 ((s.vis : Int) + 1)) := cellB R1.b8 rfl
  have k2 : W1.cell? ⟨N + 2, v, none⟩ = some (.int .i64 (i0 : Int)) := cellB R1.b2 (natCells_get hi0)
  have k4 : W1.cell? ⟨N + 4, v, none⟩ = some (.int .i64 (l0 : Int)) := cellB R1.b4 (natCells_get hl0)
  have f2 : W1.frozen? ⟨N + 2, v, none⟩ = false := freeB R1.b2
  have f4 : W1.frozen? ⟨N + 4, v, none⟩ = false := freeB R1.b4
  have R2 := ((R1.set2 v (s.vis + 1)).set4 v (s.vis + 1)).drew
  have eF : W1.cell? ⟨bF, v, none⟩ = some (.int .i64 (e : Int)) := (R1.below.cell (p := ⟨bF, v, none⟩) hFb).trans (hF v e he)
  have HR : Hid _ := R2
  have HF : Hid _ := And.intro hF he
  clear hR hF hs R1 R2 he hi0 hl0 hW1
  go_enter Yba.func46, Yba.ntmps46
  go_wp2
  have hW1 := HW.out
  rw [← hW1]
  clear hW1 c8 f8 HW
  go_region
  clear c3 c5 k8 k2 k4 f2 f4
  obtain ⟨W2, hW2⟩ : ∃ W, W = ((W1.setCell ⟨N + 2, v, none⟩ (.int .i64 ((s.vis : Int) + 1))).setCell ⟨N + 4, v, none⟩ (.int .i64 ((s.vis : Int) + 1))).drew := ⟨_, rfl⟩
  rw [← hW2]
  have R2 : CRep N V w0 W2 (.slice (some ⟨bF, 0, none⟩) fr.length cF) { s with vis := s.vis + 1, idx := s.idx.set v (s.vis + 1), low := s.low.set v (s.vis + 1) } vO vC := by rw [hW2]; exact HR.out
  have q0 : W2.cell? ⟨N, 0, none⟩ = some (.slice (some ⟨bF, 0, none⟩) fr.length cF) := cellB R2.b0 rfl
  have q6 : W2.cell? ⟨N + 6, 0, none⟩ = some vO := cellB R2.b6 rfl
  have hz := lt_of_block R2.b8
  clear hW2 eF HR
  replace R2 : Hid _ := R2
  go_wp2_with (at_builtin; refine wpList_append_own _ rfl (.tmp 18) (.tmp 20) 39 rfl (N + 9) 3 i3 (.int .i64 0) 1 8 Yba.underlying39 h3i h3z h3s h3b rfl (by decide) vO s.opn.length (natCells s.opn) rfl (by exact R2.out.oO.alloc _) ⟨W2.heap.size, 0, none⟩ 1 1 [.int .i64 (v : Int)] rfl rfl ?c1 (by simp [Value.oneCell']) ?c2 ?c3 ?c4 ?_)
  case c1 => first | exact (fun _ _ h => h) | exact cells_one _ _ _
  case c2 => unfold maxLen; omega
  case c3 => omega
  case c4 => simp only [World.size_alloc]; omega
  intro v1 W3 O3 G3 hx
  clear hx
  obtain ⟨g1, cap1, rfl⟩ := Joins.ownsRow_form O3 (by omega)
  have R3 := (R2.out.alloc (.cells #[.int .i64 (v : Int)] 3)).setO (l := s.opn ++ [v]) (by rw [natCells_append, List.length_append]; exact O3) G3
  have m6 : W3.cell? ⟨N + 6, 0, none⟩ = some vO := cellB (((R2.out.alloc (.cells #[.int .i64 (v : Int)] 3)).keepO G3 _ (by omega)).trans (R2.out.alloc _).b6) rfl
  have n6 : W3.frozen? ⟨N + 6, 0, none⟩ = false := freeB (((R2.out.alloc (.cells #[.int .i64 (v : Int)] 3)).keepO G3 _ (by omega)).trans (R2.out.alloc _).b6)
  clear O3 G3 R2 q6 q0 hz
  have HR : Hid _ := R3
  clear R3
  obtain ⟨W4, hW4⟩ : ∃ W, W = W3.setCell ⟨N + 6, 0, none⟩ (.slice (some ⟨g1, 0, none⟩) (s.opn.length + 1) cap1) := ⟨_, rfl⟩
  have HW : Hid _ := hW4
  go_wp2
  rw [← hW4]
  have R4 := HR.out
  rw [← hW4] at R4
  clear m6 n6 HR HW
  clear hW4
  have q0 : W4.cell? ⟨N, 0, none⟩ = some (.slice (some ⟨bF, 0, none⟩) fr.length cF) := cellB R4.b0 rfl
  have q7 : W4.cell? ⟨N + 7, 0, none⟩ = some vC := cellB R4.b7 rfl
  have eF : W4.cell? ⟨bF, v, none⟩ = some (.int .i64 (e : Int)) := (R4.below.cell (p := ⟨bF, v, none⟩) hFb).trans (HF.out.1 v e HF.out.2)
  have q0a : ∀ o, (W4.alloc o).cell? ⟨N, 0, none⟩ = some (.slice (some ⟨bF, 0, none⟩) fr.length cF) := fun o => cellB (R4.alloc o).b0 rfl
  have q7a : ∀ o, (W4.alloc o).cell? ⟨N + 7, 0, none⟩ = some vC := fun o => cellB (R4.alloc o).b7 rfl
  have eFa : ∀ o, (W4.alloc o).cell? ⟨bF, v, none⟩ = some (.int .i64 (e : Int)) := fun o => ((R4.alloc o).below.cell (p := ⟨bF, v, none⟩) hFb).trans (HF.out.1 v e HF.out.2)
  have hz := lt_of_block R4.b8
  replace R4 : Hid _ := R4
  clear HF
  go_region_law
    (refine step_append_lies _ (by rfl) _ _ _ (by rfl) (N + 9) 135 i5 _ 2 16 Yba.underlying133 h5i h5z h5s h5b rfl (by omega) vC s.calls.length (pairCells s.calls) (by rfl) (by exact (R4.out.alloc _).drew.oC) ⟨W4.heap.size, 0, none⟩ 1 1 [.int .i64 (v : Int), .int .i64 (e : Int)] (by rfl) (by rfl) (by exact cells_two _ _ _ _) (by intro u hu; simp at hu; rcases hu with rfl | rfl <;> rfl) (by omega) (by unfold maxLen; omega) (by omega) (by simp; omega) (W4.heap.size + 1) (by simp) ?_; intro g2 c2 w2 hown2 hgrow2 hat2 hlt2; have x7 : w2.cell? ⟨N + 7, 0, none⟩ = some vC := cellB (((R4.out.alloc _).drew.keepC hgrow2 _ (by omega)).trans (R4.out.alloc _).drew.b7) rfl; have n7 : w2.frozen? ⟨N + 7, 0, none⟩ = false := freeB (((R4.out.alloc _).drew.keepC hgrow2 _ (by omega)).trans (R4.out.alloc _).drew.b7))
  all_goals
    have R5 := (R4.out.alloc _).drew.setC (l := s.calls ++ [(v, e)]) (by rw [pairCells_append, List.length_append]; exact hown2) hgrow2
    have HF : Hid _ := R5
    clear hown2 hgrow2 R5 R4 q0 q7 eF q0a q7a eFa
    go_wp2
    go_end0
    exact ⟨rfl, _, _, HF.out⟩
end Go.Proofs.Ybulkbewa
