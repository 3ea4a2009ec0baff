/- the law's own loops, counted (plain). -/
import Derived.Test.YbulkbewaARR
namespace Go.Proofs.Ybulkbewa

theorem iM_succ (i : Nat) (h : i < 4) : iM.take (i + 1) = iM.take i ++ [(i : Int)] := by
  obtain rfl | rfl | rfl | rfl : i = 0 ∨ i = 1 ∨ i = 2 ∨ i = 3 := by omega
  all_goals rfl
theorem iM_split (i : Nat) (h : i < 4) : iM = iM.take i ++ (i : Int) :: iM.drop (i + 1) := by
  obtain rfl | rfl | rfl | rfl : i = 0 ∨ i = 1 ∨ i = 2 ∨ i = 3 := by omega
  all_goals rfl
theorem iE_succ (i : Nat) (h : i < 5) : iE.take (i + 1) = iE.take i ++ [(i : Int)] := by
  obtain rfl | rfl | rfl | rfl | rfl : i = 0 ∨ i = 1 ∨ i = 2 ∨ i = 3 ∨ i = 4 := by omega
  all_goals rfl

def nP (ops : List (Int × Int × Bool)) (i : Nat) : Nat := ((iM.take i).filter (bM ops)).length
def sP (ops : List (Int × Int × Bool)) (i : Nat) : Nat := (((iM.take i).filter (bM ops)).map (dC ops)).sum
def cD (ops : List (Int × Int × Bool)) (z : Int) (e : Nat) : Nat := (iE.take e).countP (bD ops z)
def cH (ops : List (Int × Int × Bool)) (ss : List Int) (y : Int) (m : Nat) : Nat := (iM.take m).countP fun z => bD ops z y && decide (z ∈ ss)
def cU (ops : List (Int × Int × Bool)) (e : Nat) : Nat := ((iE.take e).map fun y => if bB ops y then 0 else ON ops y).sum
def cA (ops : List (Int × Int × Bool)) (ss : List Int) (e : Nat) : Nat := (iE.take e).countP fun y => decide (0 < hC ops ss y ∧ hC ops ss y < ss.length)

theorem nP_true {ops : List (Int × Int × Bool)} {i : Nat} (h : i < 4) (hb : bM ops (i : Int) = true) : nP ops (i + 1) = nP ops i + 1 := by
  unfold nP; rw [iM_succ i h, List.filter_append]; simp [hb]
theorem nP_false {ops : List (Int × Int × Bool)} {i : Nat} (h : i < 4) (hb : bM ops (i : Int) = false) : nP ops (i + 1) = nP ops i := by
  unfold nP; rw [iM_succ i h, List.filter_append]; simp [hb]
theorem sP_true {ops : List (Int × Int × Bool)} {i : Nat} (h : i < 4) (hb : bM ops (i : Int) = true) : sP ops (i + 1) = sP ops i + dC ops (i : Int) := by
  unfold sP; rw [iM_succ i h, List.filter_append]; simp [hb]
theorem sP_false {ops : List (Int × Int × Bool)} {i : Nat} (h : i < 4) (hb : bM ops (i : Int) = false) : sP ops (i + 1) = sP ops i := by
  unfold sP; rw [iM_succ i h, List.filter_append]; simp [hb]
theorem nP_le (ops : List (Int × Int × Bool)) (i : Nat) : nP ops i ≤ 4 := by
  unfold nP
  exact Nat.le_trans (List.length_filter_le _ _) (by simp [iM]; omega)
theorem cD_succ (ops : List (Int × Int × Bool)) (z : Int) {e : Nat} (h : e < 5) : cD ops z (e + 1) = cD ops z e + if bD ops z (e : Int) then 1 else 0 := by
  unfold cD; rw [iE_succ e h, List.countP_append, List.countP_singleton]
theorem cD_le (ops : List (Int × Int × Bool)) (z : Int) (e : Nat) : cD ops z e ≤ 5 := by
  unfold cD
  exact Nat.le_trans List.countP_le_length (by simp [iE]; omega)
theorem cH_succ (ops : List (Int × Int × Bool)) (ss : List Int) (y : Int) {m : Nat} (h : m < 4) : cH ops ss y (m + 1) = cH ops ss y m + if bD ops (m : Int) y && decide ((m : Int) ∈ ss) then 1 else 0 := by
  unfold cH; rw [iM_succ m h, List.countP_append, List.countP_singleton]
theorem cH_le (ops : List (Int × Int × Bool)) (ss : List Int) (y : Int) (m : Nat) : cH ops ss y m ≤ 4 := by
  unfold cH
  exact Nat.le_trans List.countP_le_length (by simp [iM]; omega)
theorem cU_succ (ops : List (Int × Int × Bool)) {e : Nat} (h : e < 5) : cU ops (e + 1) = cU ops e + if bB ops (e : Int) then 0 else ON ops (e : Int) := by
  unfold cU; rw [iE_succ e h]; simp
theorem cA_succ (ops : List (Int × Int × Bool)) (ss : List Int) {e : Nat} (h : e < 5) : cA ops ss (e + 1) = cA ops ss e + if 0 < hC ops ss (e : Int) ∧ hC ops ss (e : Int) < ss.length then 1 else 0 := by
  unfold cA; rw [iE_succ e h, List.countP_append, List.countP_singleton]; simp
theorem cA_le (ops : List (Int × Int × Bool)) (ss : List Int) (e : Nat) : cA ops ss e ≤ 5 := by
  unfold cA
  exact Nat.le_trans List.countP_le_length (by simp [iE]; omega)
theorem ON_le (ops : List (Int × Int × Bool)) (y : Int) : ON ops y ≤ ops.length := List.countP_le_length
theorem cU_le (ops : List (Int × Int × Bool)) : ∀ e, e ≤ 5 → cU ops e ≤ e * ops.length
  | 0, _ => by simp [cU]
  | e + 1, h => by
    have := cU_le ops e (by omega)
    have h2 := ON_le ops (e : Int)
    rw [cU_succ ops (by omega), Nat.add_mul, Nat.one_mul]
    split <;> omega
theorem sP_le (ops : List (Int × Int × Bool)) : ∀ i, i ≤ 4 → sP ops i ≤ i * 5
  | 0, _ => by simp [sP]
  | i + 1, h => by
    have := sP_le ops i (by omega)
    have h2 : dC ops (i : Int) ≤ 5 := cD_le ops (i : Int) 5
    cases hb : bM ops (i : Int)
    · rw [sP_false (by omega) hb]; omega
    · rw [sP_true (by omega) hb]; omega

theorem dlv_at {ops : List (Int × Int × Bool)} {i : Nat} (h : i < 4) (hb : bM ops (i : Int) = true) : ((iM.filter (bM ops)).map fun z => (z, dC ops z))[nP ops i]? = some ((i : Int), dC ops (i : Int)) := by
  unfold nP
  conv => lhs; arg 1; rw [iM_split i h]
  rw [List.filter_append, List.filter_cons, if_pos hb, List.map_append, List.getElem?_append_right (by simp)]
  simp
theorem nP_lt {ops : List (Int × Int × Bool)} {i : Nat} (h : i < 4) (hb : bM ops (i : Int) = true) : nP ops i < (iM.filter (bM ops)).length := by
  have := (List.getElem?_eq_some_iff.1 (dlv_at h hb)).1
  simpa using this
theorem nP_four (ops : List (Int × Int × Bool)) : nP ops 4 = (iM.filter (bM ops)).length := rfl
theorem sP_four (ops : List (Int × Int × Bool)) : sP ops 4 = ((iM.filter (bM ops)).map (dC ops)).sum := rfl
theorem cD_five (ops : List (Int × Int × Bool)) (z : Int) : cD ops z 5 = dC ops z := rfl
theorem cH_four (ops : List (Int × Int × Bool)) (ss : List Int) (y : Int) : cH ops ss y 4 = hC ops ss y := rfl
theorem cU_five (ops : List (Int × Int × Bool)) : cU ops 5 = uC ops := rfl
theorem cA_five (ops : List (Int × Int × Bool)) (ss : List Int) : cA ops ss 5 = aC ops ss := rfl

theorem cntCells_get {l : List (Int × Nat)} {i : Nat} {p : Int × Nat} (h : l[i]? = some p) : (cntCells l)[i * 2]? = some (.int .i64 p.1) ∧ (cntCells l)[i * 2 + 1]? = some (.int .i64 (p.2 : Int)) := by
  induction l generalizing i with
  | nil => cases h
  | cons a l ih =>
    cases i with
    | zero => simp at h; subst h; simp [cntCells]
    | succ i =>
      obtain ⟨h1, h2⟩ := ih (i := i) (by simpa using h)
      have e : ∀ j, (cntCells (a :: l))[(i + 1) * 2 + j]? = (cntCells l)[i * 2 + j]? := fun j => by
        rw [show cntCells (a :: l) = [Value.int .i64 a.1, Value.int .i64 (a.2 : Int)] ++ cntCells l from rfl, List.getElem?_append_right (by simp; omega)]
        congr 1
        simp
        omega
      exact ⟨(e 0).trans h1, (e 1).trans h2⟩
end Go.Proofs.Ybulkbewa
