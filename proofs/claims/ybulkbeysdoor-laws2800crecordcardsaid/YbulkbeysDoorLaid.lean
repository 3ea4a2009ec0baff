/- WHAT THE ROWS' CELL 'laid' GIVES (the table of powers of ten), and a world that meets it. -/
import Derived.Test.YbulkbeysDoorLike
import Derived.Stop.LaidErr
import Derived.LaidLaws
import Derived.Lib.LaidTab
namespace Go.Proofs.YbulkbeysDoor
open Go.RowKit

theorem own : ownKnob Ybad.prog.godebug = none := by kernel_rfl
theorem laidOut : laidOutB Ybad.prog = true := by kernel_rfl
theorem gPow : Ybad.prog.globalNamed tabName = some 0 := by kernel_rfl
theorem gPowType : (Ybad.prog.globals[0]?).map (·.type) = some 50 := by kernel_rfl
theorem cells50 : Ybad.prog.cellsOf 50 = 20 := by kernel_rfl

theorem laidSame : Rows.lawS2800CLikeSentRow.laid = Rows.lawS2800CRecordRow.laid := rfl

theorem tab_of_laid {W : World} (h : laidMet Ybad.prog Rows.lawS2800CRecordRow.laid W) : Tab W :=
  Lib.tabIs_of_head (name := tabName) (zs := Lib.pow10Tab) (n := 20) gPow gPowType Ybad.underlying50 Ybad.underlying39 (by kernel_rfl) cells50 h.tail.tail

def cellsP : Array Value := (Lib.pow10Tab.map fun z => Value.int .u64 z).toArray
def cellsA : Array Value := ([0, 1, 28, 2, 29, 14, 24, 3, 30, 22, 20, 15, 25, 17, 4, 8, 31, 27, 13, 23, 21, 19, 16, 7, 26, 12, 18, 6, 11, 5, 10, 9].map fun z => Value.int .u8 z).toArray
def cellsC : Array Value := ([0, 1, 56, 2, 57, 49, 28, 3, 61, 58, 42, 50, 38, 29, 17, 4, 62, 47, 59, 36, 45, 43, 51, 22, 53, 39, 33, 30, 24, 18, 12, 5, 63, 55, 48, 27, 60, 41, 37, 16, 46, 35, 44, 21, 52, 32, 23, 11, 54, 26, 40, 15, 34, 20, 31, 10, 25, 14, 19, 9, 13, 8, 7, 6].map fun z => Value.int .u8 z).toArray

def putIn (cs : Array Value) : Obj → Obj
  | .cells _ t frozen => .cells cs t frozen
  | o => o

theorem laid_met (os : Os) (args : Array Value) : laidMet Ybad.prog Rows.lawS2800CRecordRow.laid (({ World.holding Ybad.prog os ⟨#[], #[], []⟩ with heap := (((World.holding Ybad.prog os ⟨#[], #[], []⟩).heap.modify 0 (putIn cellsP)).modify 1 (putIn cellsA)).modify 2 (putIn cellsC) } : World).forCall (fun _ _ => 0) ⟨#[], args, []⟩).memory :=
  laidMet_of_run' 8 (by kernel_rfl) (by kernel_rfl)

end Go.Proofs.YbulkbeysDoor
