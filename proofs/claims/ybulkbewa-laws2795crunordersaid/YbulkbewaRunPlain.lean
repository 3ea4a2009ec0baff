/- the plain side of LawS2795CRunOrder: four lines, judged. -/
import Derived.Test.YbulkbewaAdd
import Derived.Test.YbulkbewaJHead
namespace Go.Proofs.Ybulkbewa

def KA (x ea : Int) : KS := ⟨1, [⟨ea, false, 1, []⟩], [⟨x, [0], -1, [0]⟩], [], []⟩
def KB (x ea eb : Int) : KS := ⟨2, [⟨ea, false, 1, []⟩, ⟨eb, true, 0, [0]⟩], [⟨x, [0], 0, []⟩], [⟨-1, 0, 1⟩], [0]⟩
def KC (x y ea eb : Int) (b : Bool) : KS := if b then ⟨3, [⟨ea, false, 1, []⟩, ⟨eb, true, 1, [0]⟩], [⟨x, [0], 0, []⟩, ⟨y, [1], -1, [1]⟩], [⟨-1, 0, 1⟩], [0]⟩ else ⟨3, [⟨ea, false, 2, []⟩, ⟨eb, true, 0, [0]⟩], [⟨x, [0], 0, []⟩, ⟨y, [0], -1, [0]⟩], [⟨-1, 0, 1⟩], [0]⟩
def KD (x y ea eb : Int) (b : Bool) : KS := ⟨4, [⟨ea, false, 2, []⟩, ⟨eb, true, 1, [0]⟩], [⟨x, [0], 0, []⟩, if b then ⟨y, [1, 0], -1, [1, 0]⟩ else ⟨y, [0, 1], -1, [0, 1]⟩], [⟨-1, 0, 1⟩], [0]⟩

theorem addA (x ea : Int) : addP ⟨0, [], [], [], []⟩ x ea false 0 0 = some (KA x ea) := by simp [addP, memP, evnP, KA, big]
theorem addB (x ea eb : Int) (h : ea ≠ eb) : addP (KA x ea) x eb true 0 1 = some (KB x ea eb) := by
  have h' : eb ≠ ea := Ne.symm h
  simp [addP, memP, evnP, KA, KB, big, bcastP, h']
theorem addC (x y ea eb : Int) (h : ea ≠ eb) (hx : x ≠ y) (b : Bool) : addP (KB x ea eb) y (if b then eb else ea) false 1 (if b then 1 else 0) = some (KC x y ea eb b) := by
  have h' : eb ≠ ea := Ne.symm h
  have hx' : y ≠ x := Ne.symm hx
  cases b <;> simp [addP, memP, evnP, KB, KC, big, h', hx']
theorem addD (x y ea eb : Int) (h : ea ≠ eb) (hx : x ≠ y) (b : Bool) : addP (KC x y ea eb b) y (if b then ea else eb) false 1 (if b then 0 else 1) = some (KD x y ea eb b) := by
  have h' : eb ≠ ea := Ne.symm h
  have hx' : y ≠ x := Ne.symm hx
  cases b <;> simp [addP, memP, evnP, KC, KD, big, h', hx']
def dagD : DG := { pastNode := [1], events := [0, 1], eventsFrom := [0, 1, 1, 2], next := [0, 1], nextFrom := [0, 0, 1, 2] }
theorem condD (x y ea eb : Int) (b : Bool) : condP (KD x y ea eb b).evs (KD x y ea eb b).pasts (KD x y ea eb b).inp 20 = some dagD := by rfl
theorem judgeD1 (x y ea eb : Int) (b : Bool) : ∃ a, judgeP (KD x y ea eb b) dagD 20 (fun _ => false) 0 (KD x y ea eb b).mem = some (a, 2, 0) ∧ a.dup = 0 ∧ a.run = (if b then 1 else 0) := by
  cases b <;> exact ⟨_, rfl, rfl, rfl⟩
theorem judgeD2 (x y ea eb : Int) (b : Bool) : ∃ a, judgeP (KD x y ea eb b) dagD 20 (fun _ => false) 0 (KD x y ea eb b).mem.reverse = some (a, 2, 0) ∧ a.dup = 0 ∧ a.run = (if b then 1 else 0) := by
  cases b <;> exact ⟨_, rfl, rfl, rfl⟩
end Go.Proofs.Ybulkbewa
