/- SortedFunc over an empty map. -/

import Derived.Test.YbulkbewaSort
namespace Go.Proofs.Ybulkbewa
open Go.RowKit Go.Maps Go.Shelf

set_option maxHeartbeats 1600000 in
set_option maxRecDepth 100000 in
theorem ins_nil (w : World) : Calls Yba.prog 55 #[.slice none 0 0, .int .i64 0, .int .i64 0, .func (.func 22) #[] #[]] w fun e w' => e = .returned (.tuple #[]) ∧ w' = w := by
  go_enter Yba.func55, Yba.ntmps55
  go_wp2_with fail
  go_loopw [8] (fun i wx => i = .int .i64 1 ∧ wx = w) (fun _ _ => 0)
  case atStart => exact ⟨rfl, rfl⟩
  case round =>
    obtain ⟨rfl, rfl⟩ := hrel
    go_wp2_with fail
    refine bodyPost_end (results_none rfl _ _ _) rfl ?_
    exact ⟨rfl, rfl⟩

set_option maxHeartbeats 1600000 in
set_option maxRecDepth 100000 in
theorem pdq_nil (w : World) (k : Int) : Calls Yba.prog 48 #[.slice none 0 0, .int .i64 0, .int .i64 0, .int .i64 k, .func (.func 22) #[] #[]] w fun e w' => e = .returned (.tuple #[]) ∧ w' = w := by
  go_enter Yba.func48, Yba.ntmps48
  go_wp2_with fail
  go_loopw [1, 2] (fun a b wx => a = .int .i64 0 ∧ b = .int .i64 0 ∧ wx = w) (fun _ _ _ => 0)
  case atStart => exact ⟨rfl, rfl, rfl⟩
  case round =>
    obtain ⟨rfl, rfl, rfl⟩ := hrel
    go_wp2_with fail
    refine (ins_nil _).mono ?_
    rintro _ w1 ⟨rfl, rfl⟩
    go_wp2_with fail
    refine bodyPost_ret (results_none rfl _ _ _) rfl ?_
    exact ⟨rfl, rfl⟩

set_option maxHeartbeats 1600000 in
set_option maxRecDepth 100000 in
theorem sortFunc_nil (w : World) : Calls Yba.prog 31 #[.slice none 0 0, .func (.func 22) #[] #[]] w fun e w' => e = .returned (.tuple #[]) ∧ w' = w := by
  go_enter Yba.func31, Yba.ntmps31
  go_wp2_with fail
  refine (bitsLen12 0 w (by omega)).mono ?_
  rintro _ w1 ⟨⟨l, rfl⟩, rfl⟩
  go_wp2_with fail
  refine (pdq_nil _ _).mono ?_
  rintro _ w2 ⟨rfl, rfl⟩
  go_wp2_with fail
  refine bodyPost_end (results_none rfl _ _ _) rfl ?_
  exact ⟨rfl, rfl⟩

set_option maxHeartbeats 1600000 in
set_option maxRecDepth 100000 in
theorem sorted_nil (w : World) (Bm b nn : Nat) (D0 : DataW Unit) (hD : MapOf D0 []) (hBm : Bm < w.heap.size) (hm : w.cell? ⟨Bm, 0, none⟩ = some (.map (some b))) (hown : w.ownsMap Yba.prog 3 ptrElem b nn D0) :
    Calls Yba.prog 20 #[.func (.func 32) #[] #[.pointer (some ⟨Bm, 0, none⟩)], .func (.func 22) #[] #[]] w fun e w' => e = .returned (.slice none 0 0) ∧ Below w.heap.size w w' := by
  have hcol := callsIn_wide.1 (collect_in Fence.wide 3 trivial trivial rfl (Nat.le_refl _) 32 #[.pointer (some ⟨Bm, 0, none⟩)] trivial (enters_of Yba.func32 (by kernel_rfl) rfl) _ (Maps.size D0) (by rw [hD.sz]; unfold maxLen; simp) (by rw [hD.sz]; simp) w (values_gives 1 (Nat.le_refl _) Bm b nn D0 [] hD w hBm hm hown))
  have hcolH : Hid _ := And.intro hcol trivial
  clear hcol hown hm
  go_enter Yba.func20, Yba.ntmps20
  go_wp2_with fail
  refine hcolH.out.1.mono ?_
  rintro e w1 ⟨v, ss, rfl, ⟨ps, hps, rfl⟩, hrow, hnil, hb⟩
  obtain rfl := hps.eq_nil
  obtain rfl := hnil.2 rfl
  have H : Hid _ := hb
  clear hb hrow hnil hcolH
  go_wp2_with fail
  refine (sortFunc_nil _).mono ?_
  rintro _ w2 ⟨rfl, rfl⟩
  go_wp2_with fail
  go_ret
  exact ⟨rfl, H.out⟩
end Go.Proofs.Ybulkbewa
