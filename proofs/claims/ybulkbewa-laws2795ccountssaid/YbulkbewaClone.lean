/- slices.Clone at []int: a slice that is not nil. -/
import Derived.Test.YbulkbewaRooms
namespace Go.Proofs.Ybulkbewa
open Go.RowKit

set_option maxHeartbeats 1600000 in
set_option maxRecDepth 100000 in
theorem clone_any (w : World) (xs : List Value) (g o cap : Nat) (hl : xs.length ≤ 1000000000) (h1 : ∀ u ∈ xs, u.oneCell' = true)
    (hc : ∀ i u, xs[i]? = some u → w.cell? ⟨g, o + i, none⟩ = some u) (hg : g < w.heap.size) :
    Calls Yba.prog 13 #[.slice (some ⟨g, o, none⟩) xs.length cap] w fun e w' => ∃ v, e = .returned v ∧ w'.ownsRow w.heap.size 3 1 v xs.length xs ∧ Below w.heap.size w w' := by
  obtain ⟨i3, h3i, h3z, h3s, h3b⟩ := info_parts info3
  have he : ∀ W : World, (binOp .eql 39 (.slice (some ⟨g, o, none⟩) xs.length cap) (.slice none 0 0)).run Yba.prog W = .ok (.bool false) W := fun _ => rfl
  go_enter Yba.func13, Yba.ntmps13
  go_wp2_with (at_builtin; refine wpList_append_own_at _ rfl (.tmp 5) (.tmp 6) 39 rfl w.heap.size 3 i3 (.int .i64 0) 1 8 Yba.underlying39 h3i h3z h3s h3b rfl (by decide) (.slice (some ⟨w.heap.size, 0, none⟩) 0 0) 0 [] rfl ?c0 ⟨g, o, none⟩ xs.length cap xs rfl (by rw [Nat.mul_one]) ?c1 h1 ?c2 ?c3 ?c4 ?_)
  case c0 => exact ⟨rfl, .inr ⟨w.heap.size, 0, #[], rfl, Nat.le_refl _, heap_alloc_new _ _, Nat.le_refl _, by simp [maxLen], rfl, rfl⟩⟩
  case c1 =>
    intro j u hu
    rw [Addr.add_lit]
    have : (w.alloc (.cells #[] 3)).cell? ⟨g, o + j, none⟩ = w.cell? ⟨g, o + j, none⟩ := World.cell?_of_block (w := w) (Below.heap_alloc _ _ _ hg)
    exact this.trans (hc j u hu)
  case c2 => unfold maxLen; omega
  case c3 => omega
  case c4 => simp
  intro v1 W3 O3 G3 _ _
  have HG : Hid _ := And.intro O3 G3
  clear O3 G3
  go_wp2
  go_ret
  obtain ⟨O3, G3⟩ := HG.out
  refine ⟨_, rfl, ?_, ?_⟩
  · simpa using O3
  · exact ((Below.refl _ w).alloc (Nat.le_refl _) _).grown G3 (by simp) (fun x hx => by simp [Value.ownBlock] at hx; omega)
end Go.Proofs.Ybulkbewa
