/- slices.SortedFunc over maps.Values: the members, sorted by their ids. -/
import Derived.Test.YbulkbewaIter
import Derived.Test.YbulkbewaShelf
import Derived.Lib.OwnBridge
import Derived.Deep.QuietTactic
import Derived.BigQuiet
namespace Go.Proofs.Ybulkbewa
open Go.RowKit Go.Maps Go.Sort Go.Shelf

set_option maxHeartbeats 1000000 in
set_option maxRecDepth 100000 in
theorem closure22 (bx cy : Nat) (x y : Int) (W : World) (hx : W.cell? ⟨bx, 0, none⟩ = some (.int .i64 x)) (hy : W.cell? ⟨cy, 0, none⟩ = some (.int .i64 y)) :
    Calls Yba.prog 22 #[encP bx, encP cy] W fun e w' => e = .returned (.int .i64 (Lib.compareInt x y)) ∧ ∃ q, w' = W.drewN q := by
  have hcon : ∀ W, Calls Yba.prog 23 #[.int .i64 x, .int .i64 y] W fun e w' => e = .returned (.int .i64 (Lib.compareInt x y)) ∧ w' = W := fun W => AnyG.cmp_Compare_int Yba.cmpC x y W
  generalize Lib.compareInt x y = r at hcon ⊢
  go_enter Yba.func22, Yba.ntmps22
  go_wp2_with fail
  go_region_with (go_at_call 23; refine (hcon _).mono ?_; rintro e w' ⟨rfl, rfl⟩)
  all_goals
    go_wp2
    go_ret
    exact ⟨rfl, 1, rfl⟩

theorem sw_block {α : Type} [Inhabited α] (enc : α → Value) (w : World) (blk off m : Nat) (dk : Array α) (os : Array Obj) {b : Nat} (hb : b < w.heap.size) (hne : blk ≠ b) : (sortWorld enc w blk off m dk os).heap[b]? = w.heap[b]? := by
  simp only [sortWorld, grow, putRow, mapBlock, Sort.ahead]
  rw [Array.getElem?_append_left (by simpa using hb), Array.getElem?_modify, if_neg hne]

theorem ownsRow_drewN {w : World} {base : Nat} {e : TypeId} {sz : Nat} {v : Value} {n : Nat} {xs : List Value} (h : w.ownsRow base e sz v n xs) (q : Nat) : (w.drewN q).ownsRow base e sz v n xs := by
  induction q generalizing w with
  | zero => exact h
  | succ q ih => exact ih (w := w) h
theorem below_drewN {B : Nat} {w0 w : World} (h : Below B w0 w) (q : Nat) : Below B w0 (w.drewN q) := by
  induction q generalizing w with
  | zero => exact h
  | succ q ih => exact (ih h).drew

theorem bitsLen12 (n : Nat) (W : World) (h : n ≤ 12) : Calls Yba.prog 27 #[.int .u64 n] W fun e w' => (∃ l : Int, e = .returned (.int .i64 l)) ∧ w' = W :=
  (Any.bits_Len Yba.bitsLen n W (by omega) (by omega)).mono fun _ _ ⟨he, hw⟩ => ⟨⟨_, he⟩, hw⟩

theorem compareInt_neg (x y : Int) : Lib.compareInt x y < 0 ↔ x < y := by
  unfold Lib.compareInt
  split
  · simp [*]
  · split <;> simp [*] <;> omega

/-- the members' row, sorted by their ids -/
theorem sortFunc_any (w : World) (ms ps : List (Int × Nat)) (hps : ps.Perm ms) (hnd : (ms.map (·.1)).Nodup) (h0 : 0 < ms.length) (h12 : ms.length ≤ 12) (B : Nat) (v : Value)
    (hown : w.ownsRow B 78 1 v (ps.map (·.2)).length ((ps.map (·.2)).map encP)) (hv : v ≠ .slice none 0 0) (hid : ∀ p ∈ ms, p.2 < B ∧ w.cell? ⟨p.2, 0, none⟩ = some (.int .i64 p.1)) :
    Calls Yba.prog 31 #[v, .func (.func 22) #[] #[]] w fun e w' => e = .returned (.tuple #[]) ∧ ∃ qs : List (Int × Nat), qs.Perm ms ∧ qs.Pairwise (fun p q => p.1 < q.1) ∧ w'.ownsRow B 78 1 v ms.length ((qs.map (·.2)).map encP) ∧ Below B w w' := by
  obtain ⟨p0, hp0⟩ : ∃ p, p ∈ ms := by
    cases ms with
    | nil => simp at h0
    | cons a l => exact ⟨a, by simp⟩
  let α := {p : Int × Nat // p ∈ ms}
  letI : Inhabited α := ⟨⟨p0, hp0⟩⟩
  let enc : α → Value := fun p => encP p.1.2
  let cf : α → α → Int := fun p q => Lib.compareInt p.1.1 q.1.1
  obtain ⟨zs, hzs⟩ : ∃ zs : List α, zs.map (·.1) = ps := ⟨ps.pmap (fun p h => ⟨p, h⟩) (fun p hp => hps.mem_iff.1 hp), by simp [List.map_pmap]⟩
  have hze : (ps.map (·.2)).map encP = zs.map enc := by rw [← hzs]; simp [enc, List.map_map, Function.comp_def]
  have hlen : ps.length = ms.length := hps.length_eq
  rw [hze, List.length_map, hlen] at hown
  obtain ⟨g, cap, rfl, hBg, hglt, hn1, hn2, hzl, hH⟩ := Lib.holds_of_ownsRow hown hv
  have hS : SWO (ltOf cf) := by
    have key : ∀ x y : α, ltOf cf x y = decide (x.1.1 < y.1.1) := fun x y => by simp only [ltOf, cf, compareInt_neg]
    refine ⟨fun x => ?_, fun x y z => ?_, fun x y z => ?_⟩ <;> simp only [key, decide_eq_true_eq, decide_eq_false_iff_not] <;> omega
  have eg : ∀ args w, (callFunc 22 args).run Yba.prog w = .ok (.enter 22 args) w := enters_of Yba.func22 (by kernel_rfl) rfl
  have hcmp : CmpReads Yba.prog 22 #[] enc cf g 0 zs.toArray.size w := fun m os dk _ x y => by
    have hx := hid x.1 x.2
    have hy := hid y.1 y.2
    refine closure22 x.1.2 y.1.2 x.1.1 y.1.1 _ ?_ ?_
    · rw [← hx.2]; exact World.cell?_of_block (w := w) (sw_block (b := x.1.2) enc w g 0 m dk os (by omega) (by omega))
    · rw [← hy.2]; exact World.cell?_of_block (w := w) (sw_block (b := y.1.2) enc w g 0 m dk os (by omega) (by omega))
  have hcon := Any.slices_SortFunc_small_sorted Yba.sortF enc (fun _ => rfl) cf hS 22 #[] g 0 cap zs.toArray w eg hcmp hH (by simp; omega) bitsLen12
  rw [show zs.toArray.size = ms.length by simp; omega] at hcon
  refine hcon.mono ?_
  rintro e w' ⟨rfl, d', q, hperm, hsort, rfl⟩
  have hds : d'.size = ms.length := by have := hperm.1; simp at this; omega
  have hpm : d'.toList.Perm zs := by
    have := hperm.2.2
    rw [Array.extract_eq_self_of_le (by omega), Array.extract_eq_self_of_le (by simp; omega)] at this
    simpa using this
  refine ⟨rfl, d'.toList.map (·.1), ?_, ?_, ?_, ?_⟩
  · have h1 := hpm.map (·.1)
    rw [hzs] at h1
    exact h1.trans hps
  · have hle : (d'.toList.map (·.1)).Pairwise (fun p q : Int × Nat => p.1 ≤ q.1) := by
      rw [List.pairwise_map, List.pairwise_iff_getElem]
      intro i j hi hj hij
      have hi' : i < d'.size := by simpa using hi
      have hj' : j < d'.size := by simpa using hj
      have h2 := hsort i j (Nat.zero_le _) hij (by omega)
      rw [getElem!_pos d' j hj', getElem!_pos d' i hi'] at h2
      simp only [ltOf, cf, compareInt_neg, decide_eq_false_iff_not] at h2
      simp only [Array.getElem_toList]
      omega
    have hnd' : (d'.toList.map (·.1)).Pairwise (fun p q : Int × Nat => p.1 ≠ q.1) := by
      have h1 := hpm.map (·.1)
      rw [hzs] at h1
      have h2 := ((h1.trans hps).map (·.1)).nodup_iff.2 hnd
      exact List.Pairwise.of_map (·.1) (fun a b hab => hab) h2
    exact (hle.and hnd').imp (fun h => by omega)
  · have h1 := Lib.ownsRow_putRow (q := 0) (k := ms.length) (ys := d'.toList) hown (by simpa using hds) (Nat.le_refl _)
    rw [List.take_of_length_le (by simp [hds])] at h1
    have h2 := ownsRow_drewN h1 q
    simp only [List.map_map] at h2 ⊢
    exact h2
  · exact below_drewN (Lib.below_putRow (q := 0) (Below.refl B w) hBg) q

/-- maps.Values' value gives the members' blocks, in some order -/
theorem values_gives (n : Nat) (hn : 1 ≤ n) (Bm b nn : Nat) (D0 : DataW Unit) (ms : List (Int × Nat)) (hD : MapOf D0 ms) (w : World) (hBm : Bm < w.heap.size)
    (hm : w.cell? ⟨Bm, 0, none⟩ = some (.map (some b))) (hown : w.ownsMap Yba.prog 3 ptrElem b nn D0) :
    SeqGives Fence.wide n Yba.prog 32 #[.pointer (some ⟨Bm, 0, none⟩)] encP (fun xs => ∃ ps : List (Int × Nat), ps.Perm ms ∧ xs = ps.map (·.2)) (Maps.size D0) w := fun l J W hW hJ hY h0 => by
  have hown' : W.ownsMap Yba.prog 3 ptrElem b nn D0 := by
    have hbl := hown.lt
    obtain ⟨es, clock, hb, Ft, hs, hD⟩ := hown
    exact ⟨es, clock, (hW.block b hbl).trans hb, Ft, hs, hD⟩
  exact values1_in Fence.wide n trivial rfl hn l Bm b nn D0 ms hD J hY W hJ ((hW.cell (p := ⟨Bm, 0, none⟩) hBm).trans hm) hown' h0

set_option maxHeartbeats 1000000 in
set_option maxRecDepth 100000 in
/-- slices.SortedFunc(maps.Values(members), by id) -/
theorem sorted_any (w : World) (Bm b nn : Nat) (D0 : DataW Unit) (ms : List (Int × Nat)) (hD : MapOf D0 ms) (hBm : Bm < w.heap.size) (hm : w.cell? ⟨Bm, 0, none⟩ = some (.map (some b))) (hown : w.ownsMap Yba.prog 3 ptrElem b nn D0)
    (h0 : 0 < ms.length) (h12 : ms.length ≤ 12) (hid : ∀ p ∈ ms, p.2 < w.heap.size ∧ w.cell? ⟨p.2, 0, none⟩ = some (.int .i64 p.1)) :
    Calls Yba.prog 20 #[.func (.func 32) #[] #[.pointer (some ⟨Bm, 0, none⟩)], .func (.func 22) #[] #[]] w fun e w' => ∃ (v : Value) (qs : List (Int × Nat)), e = .returned v ∧ qs.Perm ms ∧ qs.Pairwise (fun p q => p.1 < q.1) ∧ w'.ownsRow w.heap.size 78 1 v ms.length ((qs.map (·.2)).map encP) ∧ Below w.heap.size w w' := by
  have hcol := callsIn_wide.1 (collect_in Fence.wide 3 trivial trivial rfl (Nat.le_refl _) 32 #[.pointer (some ⟨Bm, 0, none⟩)] trivial (enters_of Yba.func32 (by kernel_rfl) rfl) _ (Maps.size D0) (by rw [hD.sz]; unfold maxLen; omega) (by rw [hD.sz]; omega) w (values_gives 1 (Nat.le_refl _) Bm b nn D0 ms hD w hBm hm hown))
  have hcolH : Hid _ := And.intro hcol hid
  clear hcol hid hown hm
  go_enter Yba.func20, Yba.ntmps20
  go_wp2_with fail
  refine hcolH.out.1.mono ?_
  rintro e w1 ⟨v, ss, rfl, ⟨ps, hps, rfl⟩, hrow, hnil, hb⟩
  have hv : v ≠ .slice none 0 0 := fun e => by
    have := hnil.1 e
    have h1 := hps.length_eq
    have h2 := congrArg List.length this
    simp at h2
    rw [h2] at h1
    simp at h1
    omega
  have hsf := sortFunc_any w1 ms ps hps hD.nd h0 h12 w.heap.size v hrow hv (fun p hp => ⟨(hcolH.out.2 p hp).1, (hb.cell (p := ⟨p.2, 0, none⟩) (hcolH.out.2 p hp).1).trans (hcolH.out.2 p hp).2⟩)
  have H : Hid _ := And.intro hsf hb
  clear hsf hb hrow hnil hcolH
  go_wp2_with fail
  refine H.out.1.mono ?_
  rintro e w2 ⟨rfl, qs, h1, h2, h3, h4⟩
  have H2 : Hid _ := And.intro h1 (And.intro h2 (And.intro h3 (H.out.2.trans h4)))
  clear h1 h2 h3 h4 H
  go_wp2
  go_ret
  exact ⟨v, qs, rfl, H2.out.1, H2.out.2.1, H2.out.2.2.1, H2.out.2.2.2⟩
end Go.Proofs.Ybulkbewa
