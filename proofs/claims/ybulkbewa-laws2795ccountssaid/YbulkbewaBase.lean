/- Small facts on the heap, used by this seat's walks: a block known whole; what is kept; the built-in clear on a row known whole. -/
import Derived.Test.YbulkbewaProg
import Derived.WalkKit
import Derived.WalkSpells
import Derived.WalkLawsBesides
namespace Go.Proofs.Ybulkbewa
open Go.RowKit

/-- a block's cell, read -/
theorem cellB {w : World} {b o : Nat} {G : Array Value} {t : TypeId} {v : Value} (h : w.heap[b]? = some (.cells G t (0, 0))) (hv : G[o]? = some v) : w.cell? ⟨b, o, none⟩ = some v := by
  rw [cell_of_row w b o G t (0, 0) h]; exact hv
theorem freeB {w : World} {b o : Nat} {G : Array Value} {t : TypeId} (h : w.heap[b]? = some (.cells G t (0, 0))) : w.frozen? ⟨b, o, none⟩ = false := frozen_of_row w b o G t h

theorem heap_setCell_at {w : World} {b o : Nat} {G : Array Value} {t : TypeId} (v : Value) (h : w.heap[b]? = some (.cells G t (0, 0))) :
    (w.setCell ⟨b, o, none⟩ v).heap[b]? = some (.cells (G.setIfInBounds o v) t (0, 0)) := by
  rw [setCell_eq_setRow w b o G t (0, 0) v h]
  exact setRow_heap w b G _ t (0, 0) h

/-- Of the blocks that w has, all but those of 'bs' are in w' as they were; the streams are as they were. -/
structure Kept (bs : Nat → Prop) (w w' : World) : Prop where
  os : w'.os = w.os
  tape : w'.tape = w.tape
  output : w'.output = w.output
  size : w.heap.size ≤ w'.heap.size
  block : ∀ k, k < w.heap.size → ¬ bs k → w'.heap[k]? = w.heap[k]?

theorem Kept.refl (bs : Nat → Prop) (w : World) : Kept bs w w := ⟨rfl, rfl, rfl, Nat.le_refl _, fun _ _ _ => rfl⟩

theorem Kept.trans {bs : Nat → Prop} {a b c : World} (h : Kept bs a b) (k : Kept bs b c) : Kept bs a c :=
  ⟨k.os.trans h.os, k.tape.trans h.tape, k.output.trans h.output, Nat.le_trans h.size k.size, fun i hi hn => (k.block i (Nat.lt_of_lt_of_le hi h.size) hn).trans (h.block i hi hn)⟩

theorem Kept.mono {bs cs : Nat → Prop} {w w' : World} (h : Kept bs w w') (hm : ∀ k, k < w.heap.size → bs k → cs k) : Kept cs w w' :=
  ⟨h.os, h.tape, h.output, h.size, fun k hk hn => h.block k hk (fun hb => hn (hm k hk hb))⟩

theorem Kept.drew {bs : Nat → Prop} {a w : World} (h : Kept bs a w) : Kept bs a w.drew := ⟨h.os, h.tape, h.output, h.size, h.block⟩

theorem Kept.alloc {bs : Nat → Prop} {a w : World} (h : Kept bs a w) (o : Obj) : Kept bs a (w.alloc o) :=
  h.trans ⟨rfl, rfl, rfl, by simp, fun k hk _ => Below.heap_alloc _ _ _ hk⟩

theorem Kept.setCell {bs : Nat → Prop} {a w : World} (h : Kept bs a w) {p : Addr} (hp : bs p.block ∨ a.heap.size ≤ p.block) (u : Value) : Kept bs a (w.setCell p u) := by
  refine ⟨h.os, h.tape, h.output, by simpa [World.setCell] using h.size, fun k hk hn => ?_⟩
  rw [Below.heap_setCell _ _ _ _ (fun e => ?_)]
  · exact h.block k hk hn
  · rcases hp with hp | hp
    · exact hn (e ▸ hp)
    · omega

theorem Kept.setRow {bs : Nat → Prop} {a w : World} (h : Kept bs a w) {g : Nat} (hp : bs g ∨ a.heap.size ≤ g) (cs : Array Value) : Kept bs a (w.setRow g cs) := by
  refine ⟨h.os, h.tape, h.output, by simpa [World.setRow] using h.size, fun k hk hn => ?_⟩
  rw [setRow_other _ _ _ _ (fun e => ?_)]
  · exact h.block k hk hn
  · rcases hp with hp | hp
    · exact hn (e ▸ hp)
    · omega

theorem Kept.grown {bs : Nat → Prop} {a w w' : World} {row : Option Nat} (h : Kept bs a w) (hg : w.grownBy w' row) (hr : ∀ k, row = some k → bs k ∨ a.heap.size ≤ k) : Kept bs a w' := by
  refine ⟨hg.os.trans h.os, hg.tape.trans h.tape, hg.output.trans h.output, Nat.le_trans h.size hg.size, fun k hk hn => ?_⟩
  rw [hg.block k (Nat.lt_of_lt_of_le hk h.size) (fun e => ?_)]
  · exact h.block k hk hn
  · rcases hr k e.symm with hp | hp
    · exact hn hp
    · omega

theorem Kept.of_below {w w' : World} (h : Below w.heap.size w w') (bs : Nat → Prop) : Kept bs w w' := ⟨h.os, h.tape, h.output, h.size, fun k hk _ => h.block k hk⟩

theorem Kept.below {bs : Nat → Prop} {w w' : World} (h : Kept bs w w') {B : Nat} (hB : B ≤ w.heap.size) (hn : ∀ k, k < B → ¬ bs k) : Below B w w' :=
  ⟨h.os, h.tape, h.output, h.size, fun k hk => h.block k (by omega) (hn k hk)⟩

theorem Kept.cell {bs : Nat → Prop} {w w' : World} (h : Kept bs w w') {p : Addr} (hp : p.block < w.heap.size) (hn : ¬ bs p.block) : w'.cell? p = w.cell? p := World.cell?_of_block (w := w) (h.block p.block hp hn)

/-- the built-in clear on a row that is known whole -/
theorem run_clear_row {P : Program} (w : World) (t ty e e2 : TypeId) (i : TypeInfo) (z : Value) (ht : P.underlying t = some (.slice e)) (hi : P.info? e = some i) (hz : i.zero = some z)
    (hz1 : ∀ v ∈ z.cells, v.oneCell' = true)
    (g n c : Nat) (cur : Array Value) (hg : w.heap[g]? = some (.cells cur e2 (0, 0))) (hs : cur.size = n * z.cells.size) :
    (Builtin.clear_ #[t] ty #[.slice (some ⟨g, 0, none⟩) n c]).run P w = .ok (.tuple #[]) (w.setRow g (Builtin.zeroCells z.cells n)) := by
  by_cases h0 : n = 0
  · subst h0
    have hc : cur = #[] := Array.eq_empty_of_size_eq_zero (by simpa using hs)
    have hzc : Builtin.zeroCells z.cells 0 = cur := by
      rw [hc]; apply Array.eq_empty_of_size_eq_zero; simp [size_zeroCells]
    rw [hzc, setRow_self w g cur e2 (0, 0) hg]
    simp [Builtin.clear_, run_underlying ht]
  · have hst := run_storeCells_at P g 0 e2 (Builtin.zeroCells z.cells n).toList 0 cur w hg (by simp [size_zeroCells, hs]) (by
      intro v hv
      simp only [Builtin.zeroCells, Array.toList_map, List.mem_map, Array.toList_range, List.mem_range] at hv
      obtain ⟨j, hj, rfl⟩ := hv
      have hp : 0 < z.cells.size := by
        rcases Nat.eq_zero_or_pos z.cells.size with h | h
        · rw [h] at hj; simp at hj
        · exact h
      have hlt := Nat.mod_lt j hp
      rw [getElem!_pos z.cells _ hlt]
      exact hz1 _ (Array.getElem_mem hlt))
    have hd : cur.toList.drop (0 + 0 + (Builtin.zeroCells z.cells n).toList.length) = [] := by
      apply List.drop_eq_nil_of_le
      simp [size_zeroCells, hs]
    rw [hd] at hst
    simp only [Nat.add_zero, List.take_zero, List.nil_append, List.append_nil, Array.toArray_toList] at hst
    match n, h0 with
    | n + 1, _ => simp [Builtin.clear_, run_underlying ht, zeroValue, typeInfo, hi, hz, hst]

theorem zeroCells_at (z : Array Value) (n i r : Nat) (hr : r < z.size) (hi : i < n) : (Builtin.zeroCells z n)[i * z.size + r]? = some (z[r]) := by
  have hlt : i * z.size + r < n * z.size := by
    have : (i + 1) * z.size ≤ n * z.size := Nat.mul_le_mul_right _ hi
    rw [Nat.add_mul] at this; omega
  have hm : (i * z.size + r) % z.size = r := by
    rw [Nat.mul_comm, Nat.mul_add_mod]; exact Nat.mod_eq_of_lt hr
  simp only [Builtin.zeroCells, Array.getElem?_map]
  rw [Array.getElem?_eq_getElem (by simpa using hlt)]
  simp [hm, hr]

end Go.Proofs.Ybulkbewa
