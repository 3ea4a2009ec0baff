/- the law's own arrays. -/
import Derived.Test.YbulkbewaSS
import Derived.Test.YbulkbewaVisit
namespace Go.Proofs.Ybulkbewa
open Go.RowKit

def boolCells (l : List Bool) : List Value := l.map Value.bool
theorem boolCells_set (l : List Bool) (i : Nat) (b : Bool) : (boolCells l).toArray.setIfInBounds i (.bool b) = (boolCells (l.set i b)).toArray := by
  apply Array.ext'
  simp [boolCells, List.map_set]
theorem boolCells_get {l : List Bool} {i : Nat} {b : Bool} (h : l[i]? = some b) : (boolCells l).toArray[i]? = some (.bool b) := by simp [boolCells, h]

def pL (ops : List (Int × Int × Bool)) : List Bool := iM.map (bM ops)
def dL (ops : List (Int × Int × Bool)) : List Bool := iM.flatMap fun z => iE.map (bD ops z)
def nL (ops : List (Int × Int × Bool)) : List Nat := iE.map (ON ops)
def cL (ops : List (Int × Int × Bool)) : List Bool := iE.map (bB ops)

structure AR (W9 wx : World) (N : Nat) (ops : List (Int × Int × Bool)) : Prop where
  below : Below N W9 wx
  sz : N + 4 ≤ wx.heap.size
  p : wx.heap[N]? = some (.cells (boolCells (pL ops)).toArray 58 (0, 0))
  d : wx.heap[N + 1]? = some (.cells (boolCells (dL ops)).toArray 60 (0, 0))
  n : wx.heap[N + 1 + 1]? = some (.cells (natCells (nL ops)).toArray 61 (0, 0))
  b : wx.heap[N + 1 + 1 + 1]? = some (.cells (boolCells (cL ops)).toArray 59 (0, 0))

theorem bM_snoc (ops : List (Int × Int × Bool)) (z y x : Int) (b : Bool) : bM (ops ++ [(z, y, b)]) x = (bM ops x || decide (z = x)) := by simp [bM]
theorem bD_snoc (ops : List (Int × Int × Bool)) (z y x v : Int) (b : Bool) : bD (ops ++ [(z, y, b)]) x v = (bD ops x v || decide (x = z ∧ v = y ∧ b = false)) := by
  unfold bD
  rw [Bool.eq_iff_iff]
  simp only [List.mem_append, List.mem_singleton, Prod.mk.injEq, decide_eq_true_eq, Bool.or_eq_true, eq_comm (a := false)]
theorem bB_snoc (ops : List (Int × Int × Bool)) (z y v : Int) (b : Bool) : bB (ops ++ [(z, y, b)]) v = (bB ops v || decide (y = v ∧ b = true)) := by simp [bB]
theorem ON_snoc (ops : List (Int × Int × Bool)) (z y v : Int) (b : Bool) : ON (ops ++ [(z, y, b)]) v = ON ops v + if y = v ∧ b = false then 1 else 0 := by
  unfold ON
  rw [List.countP_append, List.countP_singleton]
  simp
theorem tC_snoc (ops : List (Int × Int × Bool)) (z y : Int) (b : Bool) : tC (ops ++ [(z, y, b)]) = tC ops + if b then 0 else 1 := by
  unfold tC
  rw [List.countP_append, List.countP_singleton]
  cases b <;> simp

theorem pL_snoc (ops : List (Int × Int × Bool)) (m : Nat) (y : Int) (b : Bool) (hm : m < 4) : pL (ops ++ [((m : Int), y, b)]) = (pL ops).set m true := by
  obtain rfl | rfl | rfl | rfl : m = 0 ∨ m = 1 ∨ m = 2 ∨ m = 3 := by omega
  all_goals simp [pL, iM, bM_snoc]
theorem cL_true (ops : List (Int × Int × Bool)) (e : Nat) (z : Int) (he : e < 5) : cL (ops ++ [(z, (e : Int), true)]) = (cL ops).set e true := by
  obtain rfl | rfl | rfl | rfl | rfl : e = 0 ∨ e = 1 ∨ e = 2 ∨ e = 3 ∨ e = 4 := by omega
  all_goals simp [cL, iE, bB_snoc]
theorem cL_false (ops : List (Int × Int × Bool)) (y z : Int) : cL (ops ++ [(z, y, false)]) = cL ops := by simp [cL, iE, bB_snoc]
theorem nL_true (ops : List (Int × Int × Bool)) (y z : Int) : nL (ops ++ [(z, y, true)]) = nL ops := by simp [nL, iE, ON_snoc]
theorem nL_false (ops : List (Int × Int × Bool)) (e : Nat) (z : Int) (he : e < 5) : nL (ops ++ [(z, (e : Int), false)]) = (nL ops).set e (ON ops (e : Int) + 1) := by
  obtain rfl | rfl | rfl | rfl | rfl : e = 0 ∨ e = 1 ∨ e = 2 ∨ e = 3 ∨ e = 4 := by omega
  all_goals simp [nL, iE, ON_snoc]
theorem dL_true (ops : List (Int × Int × Bool)) (y z : Int) : dL (ops ++ [(z, y, true)]) = dL ops := by simp [dL, iM, iE, bD_snoc]
theorem dL_false (ops : List (Int × Int × Bool)) (m e : Nat) (hm : m < 4) (he : e < 5) : dL (ops ++ [((m : Int), (e : Int), false)]) = (dL ops).set (m * 5 + e) true := by
  obtain rfl | rfl | rfl | rfl : m = 0 ∨ m = 1 ∨ m = 2 ∨ m = 3 := by omega
  all_goals
    obtain rfl | rfl | rfl | rfl | rfl : e = 0 ∨ e = 1 ∨ e = 2 ∨ e = 3 ∨ e = 4 := by omega
    all_goals simp [dL, iM, iE, bD_snoc]
theorem nL_get (ops : List (Int × Int × Bool)) (e : Nat) (he : e < 5) : (nL ops)[e]? = some (ON ops (e : Int)) := by
  obtain rfl | rfl | rfl | rfl | rfl : e = 0 ∨ e = 1 ∨ e = 2 ∨ e = 3 ∨ e = 4 := by omega
  all_goals simp [nL, iE]
theorem cL_get (ops : List (Int × Int × Bool)) (e : Nat) (he : e < 5) : (cL ops)[e]? = some (bB ops (e : Int)) := by
  obtain rfl | rfl | rfl | rfl | rfl : e = 0 ∨ e = 1 ∨ e = 2 ∨ e = 3 ∨ e = 4 := by omega
  all_goals simp [cL, iE]
theorem pL_get (ops : List (Int × Int × Bool)) (m : Nat) (hm : m < 4) : (pL ops)[m]? = some (bM ops (m : Int)) := by
  obtain rfl | rfl | rfl | rfl : m = 0 ∨ m = 1 ∨ m = 2 ∨ m = 3 := by omega
  all_goals simp [pL, iM]
theorem dL_get (ops : List (Int × Int × Bool)) (m e : Nat) (hm : m < 4) (he : e < 5) : (dL ops)[m * 5 + e]? = some (bD ops (m : Int) (e : Int)) := by
  obtain rfl | rfl | rfl | rfl : m = 0 ∨ m = 1 ∨ m = 2 ∨ m = 3 := by omega
  all_goals
    obtain rfl | rfl | rfl | rfl | rfl : e = 0 ∨ e = 1 ∨ e = 2 ∨ e = 3 ∨ e = 4 := by omega
    all_goals simp [dL, iM, iE]

theorem AR.alloc {W9 wx : World} {N : Nat} {ops : List (Int × Int × Bool)} (h : AR W9 wx N ops) (o : Obj) : AR W9 (wx.alloc o) N ops := by
  have hs := h.sz
  have hk : ∀ k, k < wx.heap.size → (wx.alloc o).heap[k]? = wx.heap[k]? := fun k hk => Below.heap_alloc _ _ _ hk
  exact ⟨h.below.alloc (by omega) o, by simp; omega, (hk _ (by omega)).trans h.p, (hk _ (by omega)).trans h.d, (hk _ (by omega)).trans h.n, (hk _ (by omega)).trans h.b⟩
theorem AR.drewN {W9 wx : World} {N : Nat} {ops : List (Int × Int × Bool)} (h : AR W9 wx N ops) (q : Nat) : AR W9 (wx.drewN q) N ops := by
  have hh : (wx.drewN q).heap = wx.heap := by
    clear h
    induction q with
    | zero => rfl
    | succ n ih => exact ih
  exact ⟨below_drewN h.below q, by rw [hh]; exact h.sz, by rw [hh]; exact h.p, by rw [hh]; exact h.d, by rw [hh]; exact h.n, by rw [hh]; exact h.b⟩

theorem AR.bcast {W9 wx : World} {N : Nat} {ops : List (Int × Int × Bool)} (h : AR W9 wx N ops) (m e : Nat) (hm : m < 4) (he : e < 5) :
    AR W9 ((wx.setCell ⟨N, m, none⟩ (.bool true)).setCell ⟨N + 1 + 1 + 1, e, none⟩ (.bool true)) N (ops ++ [((m : Int), (e : Int), true)]) := by
  have hs := h.sz
  refine ⟨(h.below.setCell (by simp) _).setCell (by simp only; omega) _, by simp [World.setCell]; omega, ?_, ?_, ?_, ?_⟩
  · rw [Below.heap_setCell _ _ _ _ (by simp only; omega), pL_snoc _ _ _ _ hm, ← boolCells_set]
    exact heap_setCell_at _ h.p
  · rw [Below.heap_setCell _ _ _ _ (by simp only; omega), Below.heap_setCell _ _ _ _ (by simp only; omega), dL_true]
    exact h.d
  · rw [Below.heap_setCell _ _ _ _ (by simp only; omega), Below.heap_setCell _ _ _ _ (by simp only; omega), nL_true]
    exact h.n
  · rw [cL_true _ _ _ he, ← boolCells_set]
    exact heap_setCell_at _ ((Below.heap_setCell _ _ _ _ (by simp only; omega)).trans h.b)

theorem AR.deliver {W9 wx : World} {N : Nat} {ops : List (Int × Int × Bool)} (h : AR W9 wx N ops) (m e : Nat) (hm : m < 4) (he : e < 5) :
    AR W9 (((wx.setCell ⟨N, m, none⟩ (.bool true)).setCell ⟨N + 1, m * 5 + e, none⟩ (.bool true)).setCell ⟨N + 1 + 1, e, none⟩ (.int .i64 ((ON ops (e : Int) + 1 : Nat) : Int))) N (ops ++ [((m : Int), (e : Int), false)]) := by
  have hs := h.sz
  refine ⟨((h.below.setCell (by simp) _).setCell (by simp only; omega) _).setCell (by simp only; omega) _, by simp [World.setCell]; omega, ?_, ?_, ?_, ?_⟩
  · rw [Below.heap_setCell _ _ _ _ (by simp only; omega), Below.heap_setCell _ _ _ _ (by simp only; omega), pL_snoc _ _ _ _ hm, ← boolCells_set]
    exact heap_setCell_at _ h.p
  · rw [Below.heap_setCell _ _ _ _ (by simp only; omega), dL_false _ _ _ hm he, ← boolCells_set]
    exact heap_setCell_at _ ((Below.heap_setCell _ _ _ _ (by simp only; omega)).trans h.d)
  · rw [nL_false _ _ _ he, ← natCells_set]
    exact heap_setCell_at _ ((Below.heap_setCell _ _ _ _ (by simp only; omega)).trans ((Below.heap_setCell _ _ _ _ (by simp only; omega)).trans h.n))
  · rw [Below.heap_setCell _ _ _ _ (by simp only; omega), Below.heap_setCell _ _ _ _ (by simp only; omega), Below.heap_setCell _ _ _ _ (by simp only; omega), cL_false]
    exact h.b
end Go.Proofs.Ybulkbewa
