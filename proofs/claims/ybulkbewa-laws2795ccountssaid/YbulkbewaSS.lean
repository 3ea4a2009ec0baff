/- slices.Clone, Sort, Compact on the survivors. -/
import Derived.Test.YbulkbewaShelf2
import Derived.Test.YbulkbewaBase
import Derived.Sort.Grow
import Derived.Test.YbulkbewaPLaw
namespace Go.Proofs.Ybulkbewa
open Go.RowKit Go.Sort

theorem grown_sorted {w : World} {g n : Nat} {os : Array Obj} (d : Array Int) : w.grownBy (grow (putRow (Value.int .i64) (Sort.ahead w n) g 0 d) os) (some g) := by
  refine ⟨rfl, rfl, rfl, by simp, fun k hk hne => ?_⟩
  rw [heap_grow_old _ _ (by simpa using hk)]
  have : g ≠ k := fun e => hne (by rw [e])
  simp [putRow, mapBlock, Sort.ahead, Array.getElem?_modify, this]
theorem grown_put {w : World} {g n : Nat} (d : Array Int) : w.grownBy (putRow (Value.int .i64) (Sort.ahead w n) g 0 d) (some g) := by
  refine ⟨rfl, rfl, rfl, by simp, fun k hk hne => ?_⟩
  have : g ≠ k := fun e => hne (by rw [e])
  simp [putRow, mapBlock, Sort.ahead, Array.getElem?_modify, this]

def sorted (zs : List Int) : List Int := zs.mergeSort fun x y => decide (x ≤ y)

theorem sort_any (w : World) (g cap : Nat) (zs : List Int) (hH : Holds (Value.int .i64) w g 0 zs.toArray) (hg : g < w.heap.size) (hl : zs.length ≤ 1024) :
    Calls Yba.prog 14 #[.slice (some ⟨g, 0, none⟩) zs.length cap] w fun e w' => e = .returned (.tuple #[]) ∧ Holds (Value.int .i64) w' g 0 (sorted zs).toArray ∧ w.grownBy w' (some g) := by
  refine (Yba.slices_Sort_int g 0 cap zs w hH hg (by omega)).mono ?_
  rintro e w' ⟨rfl, n, os, rfl⟩
  refine ⟨rfl, ?_, grown_sorted _⟩
  have h1 : Holds (Value.int .i64) (putRow (Value.int .i64) (Sort.ahead w n) g 0 (sorted zs).toArray) g 0 (sorted zs).toArray := holds_putRow _ _ _ _ zs.toArray _ (holds_ahead _ _ _ _ _ _ hH) (by simp [sorted])
  have hb : (grow (putRow (Value.int .i64) (Sort.ahead w n) g 0 (sorted zs).toArray) os).heap[g]? = (putRow (Value.int .i64) (Sort.ahead w n) g 0 (sorted zs).toArray).heap[g]? := heap_grow_old _ _ (by simpa using hg)
  intro j hj
  obtain ⟨h2, h3⟩ := h1 j hj
  exact ⟨(World.cell?_of_block (a := ⟨g, 0 + j, none⟩) hb).trans h2, (World.frozen?_of_block (a := ⟨g, 0 + j, none⟩) hb).trans h3⟩

theorem compact_length_le (zs : List Int) : (Lib.compact zs).length ≤ zs.length := by
  unfold Lib.compact Lib.compactUpTo
  rw [List.length_map]
  exact Nat.le_trans (List.length_filter_le _ _) (by simp)

theorem compact_any (w : World) (g cap : Nat) (zs : List Int) (hH : Holds (Value.int .i64) w g 0 zs.toArray) (hl : zs.length ≤ 1024) (hcap : zs.length ≤ cap) :
    Calls Yba.prog 15 #[.slice (some ⟨g, 0, none⟩) zs.length cap] w fun e w' => e = .returned (.slice (some ⟨g, 0, none⟩) (Lib.compact zs).length cap) ∧ (∀ j, j < (Lib.compact zs).length → w'.cell? ⟨g, 0 + j, none⟩ = some (.int .i64 ((Lib.compact zs).getD j 0))) ∧ w.grownBy w' (some g) := by
  refine (Yba.slices_Compact_int g 0 cap zs w hH (by omega) hcap).mono ?_
  rintro e w' ⟨rfl, n, rfl⟩
  refine ⟨rfl, fun j hj => ?_, grown_put _⟩
  have hle := compact_length_le zs
  have h1 := cell?_putRow (Value.int .i64) (Sort.ahead w n) g 0 zs.toArray (Lib.compact zs ++ List.replicate (zs.length - (Lib.compact zs).length) 0).toArray (holds_ahead _ _ _ _ _ _ hH) (by simp; omega) j (by simp; omega)
  rw [h1]
  congr 2
  rw [getElem!_pos _ j (by simp; omega)]
  simp [hj]

/-- the three, one behind the other -/
theorem holds_of_row {w : World} {B g cap : Nat} {zs : List Int} (h : w.ownsRow B 3 1 (.slice (some ⟨g, 0, none⟩) zs.length cap) zs.length (zs.map (Value.int .i64))) : Holds (Value.int .i64) w g 0 zs.toArray ∧ g < w.heap.size ∧ zs.length ≤ cap ∧ B ≤ g := by
  rcases h.2 with ⟨h1, _⟩ | ⟨g', cap', cur, h1, h2, h3, h4, h5, h6, h7⟩
  · cases h1
  · cases h1
    refine ⟨fun j hj => ?_, (Array.getElem?_eq_some_iff.1 h3).1, h4, h2⟩
    have hj' : j < zs.length := by simpa using hj
    refine ⟨?_, by simp [World.frozen?, h3]⟩
    rw [Nat.mul_one] at h7
    have e1 : (cur.toList.take zs.length)[j]? = (zs.map (Value.int .i64))[j]? := by rw [h7]
    rw [List.getElem?_take_of_lt hj'] at e1
    simp only [World.cell?, h3, Nat.zero_add]
    simp only [Option.isSome_none, Bool.false_eq_true, if_false]
    rw [← Array.getElem?_toList, e1]
    simp [hj']

def SV (N : Nat) (w : World) (a : Option Addr) (cap : Nat) (zs : List Int) : Prop := zs = [] ∨ ∃ g, a = some ⟨g, 0, none⟩ ∧ Holds (Value.int .i64) w g 0 zs.toArray ∧ N ≤ g ∧ g < w.heap.size ∧ zs.length ≤ cap
def SC (N : Nat) (w : World) (a : Option Addr) (zs : List Int) : Prop := zs = [] ∨ ∃ g, a = some ⟨g, 0, none⟩ ∧ N ≤ g ∧ g < w.heap.size ∧ ∀ j, j < zs.length → w.cell? ⟨g, 0 + j, none⟩ = some (.int .i64 (zs.getD j 0))

theorem clone_sv (w : World) (zs : List Int) (a : Option Addr) (b o cap : Nat) (hl : zs.length ≤ 1024) (ha : 0 < zs.length → a = some ⟨b, o, none⟩) (hc : ∀ (i : Nat) (x : Int), zs[i]? = some x → w.cell? ⟨b, o + i, none⟩ = some (.int .i64 x)) :
    Calls Yba.prog 13 #[.slice a zs.length cap] w fun e w' => ∃ a' cap', e = .returned (.slice a' zs.length cap') ∧ SV w.heap.size w' a' cap' zs ∧ Below w.heap.size w w' := by
  cases zs with
  | nil =>
    cases a with
    | none =>
      refine (Yba.slices_Clone_int_nil 0 cap w).mono ?_
      rintro e w' ⟨rfl, rfl⟩
      exact ⟨none, 0, rfl, .inl rfl, Below.refl _ _⟩
    | some a =>
      refine (Yba.slices_Clone_int_zero a cap w).mono ?_
      rintro e w' ⟨v', rfl, h1, _, h3⟩
      rcases h1.2 with ⟨rfl, _⟩ | ⟨g', cap', cur, rfl, _⟩
      · exact ⟨none, 0, rfl, .inl rfl, h3⟩
      · exact ⟨_, cap', rfl, .inl rfl, h3⟩
  | cons z zs =>
    obtain rfl := ha (by simp)
    refine (Yba.slices_Clone_int b o (z :: zs).length cap (z :: zs) w (Nat.le_refl _) (by omega) (fun j hj => hc j _ (get_of_lt _ _ _ hj))).mono ?_
    rintro e w' ⟨v', rfl, h1, h2, h3⟩
    rw [List.take_length] at h1
    rcases h1.2 with ⟨rfl, _⟩ | ⟨g', cap', cur, rfl, _⟩
    · exact absurd rfl h2
    · obtain ⟨q1, q2, q3, q4⟩ := holds_of_row h1
      exact ⟨_, cap', rfl, .inr ⟨g', rfl, q1, q4, q2, q3⟩, h3⟩

theorem sort_sv (N : Nat) (w : World) (zs : List Int) (a : Option Addr) (cap : Nat) (hl : zs.length ≤ 1024) (h : SV N w a cap zs) (hN : N ≤ w.heap.size) :
    Calls Yba.prog 14 #[.slice a zs.length cap] w fun e w' => e = .returned (.tuple #[]) ∧ SV N w' a cap (sorted zs) ∧ Below N w w' := by
  rcases h with rfl | ⟨g, rfl, h1, h2, h3, h4⟩
  · refine (Yba.slices_Sort_int_none a cap w).mono ?_
    rintro e w' ⟨rfl, rfl⟩
    exact ⟨rfl, .inl (by simp [sorted]), Below.refl _ _⟩
  · refine (sort_any w g cap zs h1 h3 hl).mono ?_
    rintro e w' ⟨rfl, q1, q2⟩
    exact ⟨rfl, .inr ⟨g, rfl, q1, h2, Nat.lt_of_lt_of_le h3 q2.size, by simpa [sorted] using h4⟩, (Below.refl _ w).grown q2 hN (fun b hb => by cases hb; exact h2)⟩

theorem compact_sv (N : Nat) (w : World) (zs : List Int) (a : Option Addr) (n cap : Nat) (hn : n = zs.length) (hl : zs.length ≤ 1024) (h : SV N w a cap zs) (hN : N ≤ w.heap.size) :
    Calls Yba.prog 15 #[.slice a n cap] w fun e w' => e = .returned (.slice a (Lib.compact zs).length cap) ∧ SC N w' a (Lib.compact zs) ∧ Below N w w' := by
  subst hn
  rcases h with rfl | ⟨g, rfl, h1, h2, h3, h4⟩
  · refine (Yba.slices_Compact_int_empty a cap w).mono ?_
    rintro e w' ⟨rfl, rfl⟩
    exact ⟨rfl, .inl rfl, Below.refl _ _⟩
  · refine (compact_any w g cap zs h1 hl h4).mono ?_
    rintro e w' ⟨rfl, q1, q2⟩
    exact ⟨rfl, .inr ⟨g, rfl, h2, Nat.lt_of_lt_of_le h3 q2.size, q1⟩, (Below.refl _ w).grown q2 hN (fun b hb => by cases hb; exact h2)⟩

theorem contains_sv (N : Nat) (w : World) (ss : List Int) (a : Option Addr) (cap : Nat) (x : Int) (hl : ss.length ≤ 1024) (h : SC N w a ss) :
    Calls Yba.prog 16 #[.slice a ss.length cap, .int .i64 x] w fun e w' => e = .returned (.bool (decide (x ∈ ss))) ∧ w' = w := by
  rcases h with rfl | ⟨g, rfl, h1, h2, h3⟩
  · refine (Yba.slices_Contains_int_empty a cap x w).mono ?_
    rintro e w' ⟨rfl, rfl⟩
    exact ⟨by simp, rfl⟩
  · refine (Yba.slices_Contains_int g 0 ss.length cap ss x w (Nat.le_refl _) (by omega) h3).mono ?_
    rintro e w' ⟨rfl, rfl⟩
    refine ⟨?_, rfl⟩
    rw [List.take_length]
    congr 2
    rw [Bool.eq_iff_iff]
    simp

theorem SC.up {N N' : Nat} {w w' : World} {a : Option Addr} {zs : List Int} (h : SC N w a zs) (hb : Below N' w w') (hN : w.heap.size ≤ N') : SC N w' a zs := by
  rcases h with rfl | ⟨g, rfl, h1, h2, h3⟩
  · exact .inl rfl
  · exact .inr ⟨g, rfl, h1, Nat.lt_of_lt_of_le h2 hb.size, fun j hj => (hb.cell (p := ⟨g, 0 + j, none⟩) (by show g < N'; omega)).trans (h3 j hj)⟩
theorem ssOf_length_le (svl : List Int) : (ssOf svl).length ≤ svl.length := by
  have := compact_length_le (svl.mergeSort fun x y => decide (x ≤ y))
  rw [List.length_mergeSort] at this
  exact this
end Go.Proofs.Ybulkbewa
