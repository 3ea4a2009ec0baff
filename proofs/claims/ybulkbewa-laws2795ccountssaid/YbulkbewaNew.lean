/- New (function 10). -/
import Derived.Test.YbulkbewaKrep
namespace Go.Proofs.Ybulkbewa
open Go.RowKit Go.Maps

set_option maxHeartbeats 1600000 in
set_option maxRecDepth 100000 in
theorem new_any (w : World) :
    Calls Yba.prog 10 #[.slice none 0 0] w fun e w' => ∃ bc bi bm, e = .returned (.pointer (some ⟨bc, 0, none⟩)) ∧ KRep w.heap.size w w' bc bi bm ⟨0, [], [], [], []⟩ [] [] (fun _ => .slice none 0 0) (fun _ => []) (.slice none 0 0) (.slice none 0 0) (.map []) (.map []) := by
  have hmm := @run_makeMap Yba.prog
  go_enter Yba.func10, Yba.ntmps10
  go_wp2
  go_ret
  refine ⟨_, w.heap.size, w.heap.size + 1, rfl, ?_⟩
  have al : ∀ (W : World) (o : Obj) (b : Nat) (x : Obj), W.heap[b]? = some x → (W.alloc o).heap[b]? = some x := fun W o b x h => (Below.heap_alloc _ _ _ (Array.getElem?_eq_some_iff.1 h).1).trans h
  have nw : ∀ (W : World) (o : Obj) (b : Nat), W.heap.size = b → (W.alloc o).heap[b]? = some o := fun W o b h => by subst h; exact heap_alloc_new _ _
  have m1 : (w.alloc (.map #[] 0)).ownsMap Yba.prog 3 (plainElem (H := Unit) Yba.prog 3) w.heap.size 0 (.map []) := World.ownsMap_made _ _ _ _
  have m2 : ((w.alloc (.map #[] 0)).alloc (.map #[] 0)).ownsMap Yba.prog 3 ptrElem (w.heap.size + 1) 0 (.map []) := by
    have := World.ownsMap_made (w.alloc (.map #[] 0)) Yba.prog 3 ptrElem
    rwa [World.size_alloc] at this
  refine ⟨nw _ _ _ (by simp), (m1.alloc _).alloc _, m2.alloc _, MapOf.nil, MapOf.nil, World.ownsRow_nil _ _ _ _, World.ownsRow_nil _ _ _ _, ⟨fun _ => World.ownsRow_nil _ _ _ _, fun _ _ _ => .inl rfl⟩, fun k p mb h => by simp at h, rfl, by simp, by simp, rfl, fun e ev h => by simp at h, fun k mb h => by simp at h, fun _ _ => rfl, fun _ _ => ⟨rfl, rfl⟩, (((Below.refl _ w).alloc (Nat.le_refl _) _).alloc (by simp) _).alloc (by simp; omega) _, by omega, Nat.le_refl _, by omega, by omega⟩
end Go.Proofs.Ybulkbewa
