/- newWalk: the four drawn makes: the blocks in any order. -/
import Derived.Test.YbulkbewaScc
namespace Go.Proofs.Ybulkbewa
open Go.RowKit

theorem five_new (w : World) (o1 o2 o3 o4 o5 : Obj) : let W := ((((w.alloc o1).alloc o2).alloc o3).alloc o4).alloc o5
    W.heap[w.heap.size]? = some o1 ∧ W.heap[w.heap.size + 1]? = some o2 ∧ W.heap[w.heap.size + 1 + 1]? = some o3 ∧ W.heap[w.heap.size + 1 + 1 + 1]? = some o4 ∧ W.heap[w.heap.size + 1 + 1 + 1 + 1]? = some o5 := by
  have al : ∀ (W : World) (o : Obj) (b : Nat) (x : Obj), W.heap[b]? = some x → (W.alloc o).heap[b]? = some x := fun W o b x h => (Below.heap_alloc _ _ _ (Array.getElem?_eq_some_iff.1 h).1).trans h
  have nw : ∀ (W : World) (o : Obj) (b : Nat), W.heap.size = b → (W.alloc o).heap[b]? = some o := fun W o b h => by subst h; exact heap_alloc_new _ _
  exact ⟨al _ _ _ _ (al _ _ _ _ (al _ _ _ _ (al _ _ _ _ (nw _ _ _ rfl)))), al _ _ _ _ (al _ _ _ _ (al _ _ _ _ (nw _ _ _ (by simp)))), al _ _ _ _ (al _ _ _ _ (nw _ _ _ (by simp))), al _ _ _ _ (nw _ _ _ (by simp)), nw _ _ _ (by simp)⟩

set_option maxHeartbeats 3200000 in
set_option maxRecDepth 100000 in
theorem newWalk_any (w : World) (bd E n : Nat) (aN : Option Addr) (cN : Nat) (hE : E ≤ 1000000000) (hn : n ≤ 1000000000)
    (h4 : w.cell? ⟨bd, 4, none⟩ = some (.slice aN (n + 1) cN)) :
    Calls Yba.prog 18 #[.pointer (some ⟨bd, 0, none⟩), .int .i64 (E : Int)] w fun e w' => ∃ b2 b3 b4 b5, e = .returned (.pointer (some ⟨w.heap.size + 4, 0, none⟩)) ∧
      w'.heap[w.heap.size + 4]? = some (.cells #[.pointer (some ⟨bd, 0, none⟩), .int .i64 0, .slice (some ⟨b2, 0, none⟩) E E, .slice (some ⟨b3, 0, none⟩) E E, .slice (some ⟨b4, 0, none⟩) n n, .slice (some ⟨b5, 0, none⟩) n n, .slice none 0 0] 101 (0, 0)) ∧
      w'.heap[b2]? = some (.cells (natCells (List.replicate E 0)).toArray 3 (0, 0)) ∧ w'.heap[b3]? = some (.cells (natCells (List.replicate E 0)).toArray 3 (0, 0)) ∧
      w'.heap[b4]? = some (.cells (natCells (List.replicate n 0)).toArray 3 (0, 0)) ∧ w'.heap[b5]? = some (.cells (natCells (List.replicate n 0)).toArray 3 (0, 0)) ∧
      (w.heap.size ≤ b2 ∧ b2 < w.heap.size + 4 ∧ w.heap.size ≤ b3 ∧ b3 < w.heap.size + 4 ∧ w.heap.size ≤ b4 ∧ b4 < w.heap.size + 4 ∧ w.heap.size ≤ b5 ∧ b5 < w.heap.size + 4 ∧ b2 ≠ b3 ∧ b2 ≠ b4 ∧ b2 ≠ b5 ∧ b3 ≠ b4 ∧ b3 ≠ b5 ∧ b4 ≠ b5) ∧ w'.heap.size = w.heap.size + 5 ∧ Below w.heap.size w w' := by
  have hmE := fun W => make39 W E hE
  have hmN := fun W => make39 W n hn
  go_enter Yba.func18, Yba.ntmps18
  go_wp2
  go_region
  all_goals
    go_wp2
    go_ret
    obtain ⟨e0, e1, e2, e3, e4⟩ := five_new w _ _ _ _ _
    refine ⟨_, _, _, _, rfl, e4, ?_, ?_, ?_, ?_, ?_, ?_, ?_⟩
    · first | exact e0 | exact e1 | exact e2 | exact e3
    · first | exact e0 | exact e1 | exact e2 | exact e3
    · first | exact e0 | exact e1 | exact e2 | exact e3
    · first | exact e0 | exact e1 | exact e2 | exact e3
    · omega
    · simp
    · exact ((((((Below.refl _ w).alloc (Nat.le_refl _) _).alloc (by simp) _).alloc (by simp; omega) _).alloc (by simp; omega) _).alloc (by simp; omega) _).drew
end Go.Proofs.Ybulkbewa
