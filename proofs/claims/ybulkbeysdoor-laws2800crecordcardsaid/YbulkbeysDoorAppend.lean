/- The appending of numbers (AppendUint, AppendInt of the library) into a slice in the midst of the Writer's block. -/
import Derived.Test.YbulkbeysDoorShelf
import Derived.Test.YbulkbeysDoorBase
import Derived.Lib.Walk
import Derived.Lib.ItoaWalk
import Derived.Lib.ItoaMem
import Derived.Lib.AppendIntMem
import Derived.CellFam
namespace Go.Proofs.YbulkbeysDoor
open Go.RowKit Go.Sort

theorem info5 : (Ybad.prog.info? 5).map (fun i => (i.zero, i.size, i.bytes)) = some (some (.int .u8 0), 1, 1) := by kernel_rfl

/-- the table that numDigits reads is there -/
def Tab (w : World) : Prop := Lib.TabIs Ybad.prog w tabName .u64 Lib.pow10Tab

theorem bytes_one (l : List UInt8) : ∀ u ∈ Lib.byteCells l, u.oneCell' = true := by
  intro u' hu'; simp only [Lib.byteCells, List.mem_map] at hu'; obtain ⟨b, _, rfl⟩ := hu'; rfl

/-- what an append into the midst of a block leaves in it -/
def midPut (cur : Array Value) (o : Nat) (news : List Value) : Array Value := (cur.toList.take o ++ news ++ cur.toList.drop (o + news.length)).toArray

theorem midPut_size (cur : Array Value) (o : Nat) (news : List Value) (h : o + news.length ≤ cur.size) : (midPut cur o news).size = cur.size := by
  simp [midPut]; omega
theorem midPut_low (cur : Array Value) (o : Nat) (news : List Value) (h : o + news.length ≤ cur.size) (j : Nat) (hj : j < o) : (midPut cur o news)[j]? = cur[j]? := by
  simp only [midPut, List.getElem?_toArray, List.append_assoc]
  rw [List.getElem?_append_left (by simp; omega), List.getElem?_take, if_pos hj, Array.getElem?_toList]
theorem midPut_at (cur : Array Value) (o : Nat) (news : List Value) (h : o + news.length ≤ cur.size) (j : Nat) (hj : j < news.length) : (midPut cur o news)[o + j]? = news[j]? := by
  simp only [midPut, List.getElem?_toArray, List.append_assoc]
  have hl : (cur.toList.take o).length = o := by simp; omega
  rw [List.getElem?_append_right (by rw [hl]; omega), hl, Nat.add_sub_cancel_left, List.getElem?_append_left hj]

theorem appendUint_small (w : World) (bw n u : Nat) (hu : u < 100) (cur : Array Value) (hg : w.heap[bw]? = some (.cells cur 26 (0, 0))) (hsz : cur.size = 21) (hroom : n + (Lib.decDigits u).length ≤ 20) :
    Calls Ybad.prog 15 #[.slice (some ⟨bw, 1, none⟩) n 20, .int .u64 u, .int .i64 10] w fun e w' =>
      e = .returned (.slice (some ⟨bw, 1, none⟩) (n + (Lib.decDigits u).length) 20) ∧ w'.heap[bw]? = some (.cells (midPut cur (1 + n) (Lib.byteCells (Lib.decDigits u))) 26 (0, 0)) ∧ Kept (fun b => b = bw) w w' := by
  obtain ⟨i0, hi, hz0, hz1, hz2⟩ := info_parts info5
  have hsl : (⟨(Lib.decDigits u).toArray⟩ : ByteArray).size = (Lib.decDigits u).length := by simp [ByteArray.size]
  go_enter Ybad.func15, Ybad.ntmps15
  go_wp2_with (first
    | (go_at_call 16; refine (Ybad.internal_strconv_small u hu _).mono ?_; rintro e w' ⟨rfl, hw'⟩; obtain rfl : w = w' := hw'.symm)
    | (at_builtin; refine wpList_append_mid_str rfl _ _ 22 9 rfl 5 26 i0 Ybad.underlying22 Ybad.underlying9 hi hz1 bw 1 n 20 rfl cur hg ⟨(Lib.decDigits u).toArray⟩ rfl (by rw [hsl]; omega) (by rw [hsl]; omega) ?_))
  intro w1 HW
  go_wp2
  go_ret
  have hw1 : w1 = w.setRow bw (midPut cur (1 + n) (Lib.byteCells (Lib.decDigits u))) := by
    rw [HW.out]
    unfold midPut
    rw [Lib.byteCells_length, List.append_assoc]
    rfl
  refine ⟨rfl, ?_, ?_⟩
  · rw [hw1]; exact setRow_heap _ _ _ _ _ _ hg
  · rw [hw1]; exact (Kept.refl (fun b => b = bw) _).setRow (Or.inl rfl) _

set_option maxHeartbeats 1600000 in
set_option maxRecDepth 100000 in
theorem appendUint_big (w : World) (bw n u : Nat) (hu : 100 ≤ u) (hu64 : u < 18446744073709551616) (cur : Array Value) (hg : w.heap[bw]? = some (.cells cur 26 (0, 0))) (hsz : cur.size = 21) (hroom : n + (Lib.decDigits u).length ≤ 20) (htab : Tab w) :
    Calls Ybad.prog 15 #[.slice (some ⟨bw, 1, none⟩) n 20, .int .u64 u, .int .i64 10] w fun e w' =>
      e = .returned (.slice (some ⟨bw, 1, none⟩) (n + (Lib.decDigits u).length) 20) ∧ w'.heap[bw]? = some (.cells (midPut cur (1 + n) (Lib.byteCells (Lib.decDigits u))) 26 (0, 0)) ∧ Kept (fun b => b = bw) w w' := by
  obtain ⟨i0, hi, hz0, hz1, hz2⟩ := info_parts info5
  have hu1 : 1 ≤ u := by omega
  have hnd20 : Lib.nDigits u ≤ 20 := by have := Lib.numDigits_eq u hu1 hu64; split at this <;> omega
  have hal : Ybad.prog.arrayLen 43 = 24 := by simp [Program.arrayLen, Ybad.underlying43]
  rw [Lib.decDigits_length] at hroom
  have hsl : ∀ W, (Instr.sliceAt 43 (.pointer (some ⟨w.heap.size, 0, none⟩)) none (some (.int .i64 (Lib.nDigits u : Int))) none).run Ybad.prog W = .ok (.slice (some ⟨w.heap.size, 0, none⟩) (Lib.nDigits u) 24) W := fun W => by
    rw [run_sliceAt_array_h W 43 ⟨w.heap.size, 0, none⟩ (by simp [Program.arrayLen, Program.elem, Ybad.underlying43]) .i64 (Lib.nDigits u : Int) (by omega) (by rw [hal]; omega)]
    go_simp
  have hH0 := Lib.holds_zero0 w 43 (Lib.nDigits u) (by omega)
  have hfmt := Ybad.internal_strconv_formatBase10 w.heap.size 0 24 u (Array.replicate (Lib.nDigits u) 0) (w.alloc (.cells Lib.zeros24 43)) hH0 (by rw [Array.size_replicate]; exact Lib.lt_pow_nDigits u) hu64 (by rw [Array.size_replicate]; omega)
  rw [Array.size_replicate] at hfmt
  have HH0 := Lib.hid hH0
  have iu : (100 : Int) ≤ (u : Int) := by omega
  have HG : Hid _ := hg
  clear hH0 hal hg
  go_enter Ybad.func15, Ybad.ntmps15
  go_wp2_with (first
    | (go_at_call 17; refine (Ybad.internal_strconv_numDigits u hu1 hu64 _ (Lib.tabIs_alloc htab _)).mono ?_; rintro e w' ⟨rfl, rfl⟩))
  go_at_call 18
  refine hfmt.mono ?_
  rintro e w' ⟨rfl, k, v', dk, rfl, hF⟩
  have hcells : ∀ j u', (Lib.byteCells (Lib.decDigits u))[j]? = some u' → ((putRow (fun (b : UInt8) => Value.int .u8 (b.toNat : Int)) (w.alloc (.cells Lib.zeros24 43)) w.heap.size 0 dk).drewN k).cell? ((⟨w.heap.size, 0, none⟩ : Addr).add j) = some u' := by
    intro j u' hj
    have hjl : j < (Lib.decDigits u).length := by
      have h5 := (List.getElem?_eq_some_iff.1 hj).1
      rwa [Lib.byteCells_length] at h5
    have e5 : (Lib.byteCells (Lib.decDigits u))[j]? = some (Value.int .u8 ((Lib.decDigits u)[j].toNat : Int)) := by simp [Lib.byteCells, hjl]
    rw [e5] at hj
    cases hj
    rw [Lib.row_is_numeral hF j hjl, Lib.add_plain, World.cell?_drewN]
    exact cell?_putRow (fun (b : UInt8) => Value.int .u8 (b.toNat : Int)) _ w.heap.size 0 _ dk HH0.out (by rw [hF.size, Array.size_replicate]) j (by rw [hF.size]; rw [Lib.decDigits_length] at hjl; exact hjl)
  obtain ⟨os, eo⟩ := Lib.fin_at w (.cells Lib.zeros24 43) dk k 0
  have hnx2 : Below w.heap.size w ((putRow (fun (b : UInt8) => Value.int .u8 (b.toNat : Int)) (w.alloc (.cells Lib.zeros24 43)) w.heap.size 0 dk).drewN k) := by rw [eo]; exact Lib.below_grow w.heap.size w (Nat.le_refl _) k os
  generalize (putRow (fun (b : UInt8) => Value.int .u8 (b.toNat : Int)) (w.alloc (.cells Lib.zeros24 43)) w.heap.size 0 dk).drewN k = W2 at hcells hnx2 ⊢
  clear eo HH0 hfmt
  have hg2 : W2.heap[bw]? = some (.cells cur 26 (0, 0)) := (hnx2.block _ (lt_of_block HG.out)).trans HG.out
  go_wp2_with (at_builtin; refine wpList_append_mid rfl _ _ 22 rfl 5 26 i0 Ybad.underlying22 hi hz1 bw 1 n 20 rfl cur hg2 ⟨w.heap.size, 0, none⟩ (Lib.nDigits u) 24 rfl (Lib.byteCells (Lib.decDigits u)) ?c0 hcells (bytes_one _) ?c3 ?c4 ?_)
  case c0 => rw [Lib.byteCells_length, Lib.decDigits_length]
  case c3 => omega
  case c4 => omega
  intro w1 HW
  go_wp2
  go_ret
  have hw1 : w1 = W2.setRow bw (midPut cur (1 + n) (Lib.byteCells (Lib.decDigits u))) := by
    rw [HW.out]
    unfold midPut
    rw [Lib.byteCells_length, Lib.decDigits_length, List.append_assoc]
  refine ⟨by rw [Lib.decDigits_length]; rfl, ?_, ?_⟩
  · rw [hw1]; exact setRow_heap _ _ _ _ _ _ hg2
  · rw [hw1]; exact (Kept.of_below hnx2 (fun b => b = bw)).setRow (Or.inl rfl) _

theorem nDigits_le : ∀ (k u : Nat), u < 10 ^ (k + 1) → Lib.nDigits u ≤ k + 1
  | 0, u, h => by rw [Lib.nDigits_small (by simpa using h)]; omega
  | k + 1, u, h => by
    by_cases h10 : u < 10
    · rw [Lib.nDigits_small h10]; omega
    · rw [Lib.nDigits_big h10]
      have := nDigits_le k (u / 10) (by rw [Nat.div_lt_iff_lt_mul (by omega)]; rw [Nat.pow_succ] at h; exact h)
      omega

theorem digits19 (u : Nat) (h : u ≤ 9223372036854775808) : (Lib.decDigits u).length ≤ 19 := by
  rw [Lib.decDigits_length]
  exact nDigits_le 18 u (by omega)

/-- the table that numDigits reads is there, whatever is done from block B on -/
def Tb (B : Nat) (w : World) : Prop := Lib.TabBelow Ybad.prog B w tabName .u64 Lib.pow10Tab

theorem appendUint_mid (w : World) (bw n u : Nat) (hu64 : u < 18446744073709551616) (cur : Array Value) (hg : w.heap[bw]? = some (.cells cur 26 (0, 0))) (hsz : cur.size = 21) (hroom : n + (Lib.decDigits u).length ≤ 20) (htab : Tab w) :
    Calls Ybad.prog 15 #[.slice (some ⟨bw, 1, none⟩) n 20, .int .u64 u, .int .i64 10] w fun e w' =>
      e = .returned (.slice (some ⟨bw, 1, none⟩) (n + (Lib.decDigits u).length) 20) ∧ w'.heap[bw]? = some (.cells (midPut cur (1 + n) (Lib.byteCells (Lib.decDigits u))) 26 (0, 0)) ∧ Kept (fun b => b = bw) w w' := by
  by_cases h : u < 100
  · exact appendUint_small w bw n u h cur hg hsz hroom
  · exact appendUint_big w bw n u (by omega) hu64 cur hg hsz hroom htab

/-- what the writer's block is behind a number's formatting into its scratch space -/
def NumAt (w' : World) (bw : Nat) (cur : Array Value) (l : List UInt8) : Prop :=
  ∃ cur' : Array Value, w'.heap[bw]? = some (.cells cur' 26 (0, 0)) ∧ cur'.size = 21 ∧ cur'[0]? = cur[0]? ∧ ∀ j, j < l.length → cur'[1 + j]? = (Lib.byteCells l)[j]?

theorem appendInt_in (B : Nat) (w : World) (bw : Nat) (i : Int) (h0 : -9223372036854775808 ≤ i) (h1 : i ≤ 9223372036854775807) (cur : Array Value) (hg : w.heap[bw]? = some (.cells cur 26 (0, 0))) (hsz : cur.size = 21) (hB : B ≤ bw) (htb : Tb B w) :
    Calls Ybad.prog 14 #[.slice (some ⟨bw, 1, none⟩) 0 20, .int .i64 i, .int .i64 10] w fun e w' =>
      e = .returned (.slice (some ⟨bw, 1, none⟩) (Lib.itoa i).length 20) ∧ NumAt w' bw cur (Lib.itoa i) ∧ Kept (fun b => b = bw) w w' := by
  obtain ⟨i0, hi, hz0, hz1, hz2⟩ := info_parts info5
  have lw := lt_of_block hg
  by_cases hneg : i < 0
  · obtain ⟨u, rfl⟩ : ∃ u : Nat, i = -(u : Int) := ⟨i.natAbs, by omega⟩
    have hu1 : 1 ≤ u := by omega
    have hu64 : u < 18446744073709551616 := by omega
    have hd := digits19 u (by omega)
    have hwr : IntKind.u64.wrap (-IntKind.u64.wrap (-(u : Int))) = (u : Int) := by rw [IntKind.wrap_u64, IntKind.wrap_u64]; omega
    rw [Lib.itoa_neg u hu1]
    have hg1 : ∀ o, (w.alloc o).heap[bw]? = some (.cells cur 26 (0, 0)) := fun o => (Below.heap_alloc _ _ _ lw).trans hg
    go_enter Ybad.func14, Ybad.ntmps14
    go_wp2_with (at_builtin; refine wpList_append_mid rfl _ _ 22 rfl 5 26 i0 Ybad.underlying22 hi hz1 bw 1 0 20 rfl cur (hg1 _) ⟨w.heap.size, 0, none⟩ 1 1 rfl [Value.int .u8 45] rfl ?c1 ?c2 (by omega) (by omega) ?_)
    case c1 =>
      first
        | exact cell_one_new _ _ _
        | (intro j u' hj; match j, hj with | 0, hj => simp at hj; subst hj; simp)
    case c2 => intro u' hu'; simp at hu'; subst hu'; rfl
    intro w1 HW
    have hw1 : w1 = (w.alloc (.cells #[.int .u8 45] 5)).setRow bw (midPut cur 1 [Value.int .u8 45]) := by
      rw [HW.out]; simp [midPut]
    have hgw : w1.heap[bw]? = some (.cells (midPut cur 1 [Value.int .u8 45]) 26 (0, 0)) := by rw [hw1]; exact setRow_heap _ _ _ _ _ _ (hg1 _)
    have hk1 : Kept (fun b => b = bw) w w1 := by rw [hw1]; exact ((Kept.refl (fun b => b = bw) w).alloc _).setRow (Or.inl rfl) _
    have hs1 := midPut_size cur 1 [Value.int .u8 45] (by simp; omega)
    have ht1 : Tab w1 := htb w1 (hk1.below (by omega) (fun k hk => by omega))
    clear HW hw1 hg1
    have HG := And.intro hgw hk1
    replace HG : Hid _ := HG
    clear hgw hk1
    go_wp2_with (go_at_call 15; refine (appendUint_mid w1 bw 1 u hu64 _ HG.out.1 (by omega) (by omega) ht1).mono ?_; rintro e w2 ⟨rfl, hg2, hk2⟩)
    go_ret
    refine ⟨?_, ⟨_, hg2, ?_, ?_, ?_⟩, HG.out.2.trans hk2⟩
    · show _ = Ending.returned (.slice (some ⟨bw, 1, none⟩) ((Lib.decDigits u).length + 1) 20)
      rw [Nat.add_comm]; rfl
    · rw [midPut_size _ _ _ (by rw [Lib.byteCells_length]; omega)]; omega
    · rw [midPut_low _ _ _ (by rw [Lib.byteCells_length]; omega) 0 (by omega), midPut_low _ _ _ (by simp; omega) 0 (by omega)]
    · intro j hj
      match j, hj with
      | 0, _ =>
        rw [midPut_low _ _ _ (by rw [Lib.byteCells_length]; omega) 1 (by omega)]
        exact midPut_at cur 1 [Value.int .u8 45] (by simp; omega) 0 (by simp)
      | j + 1, hj =>
        have hj' : j < (Lib.decDigits u).length := by simpa using hj
        have := midPut_at (midPut cur 1 [Value.int .u8 45]) (1 + 1) (Lib.byteCells (Lib.decDigits u)) (by rw [Lib.byteCells_length]; omega) j (by rw [Lib.byteCells_length]; exact hj')
        rw [show 1 + (j + 1) = 1 + 1 + j by omega, this]
        simp [Lib.byteCells]
  · obtain ⟨u, rfl⟩ : ∃ u : Nat, i = u := ⟨i.toNat, by omega⟩
    have hu64 : u < 18446744073709551616 := by omega
    have hd := digits19 u (by omega)
    rw [Lib.itoa_nonneg]
    have HG : Hid _ := hg
    clear hg
    go_enter Ybad.func14, Ybad.ntmps14
    go_wp2_with (go_at_call 15; refine (appendUint_mid w bw 0 u hu64 cur HG.out hsz (by omega) htb.here).mono ?_; rintro e w2 ⟨rfl, hg2, hk2⟩)
    go_ret
    refine ⟨rfl, ⟨_, hg2, ?_, ?_, ?_⟩, hk2⟩
    · rw [midPut_size _ _ _ (by rw [Lib.byteCells_length]; omega)]; omega
    · rw [midPut_low _ _ _ (by rw [Lib.byteCells_length]; omega) 0 (by omega)]
    · intro j hj
      exact midPut_at cur (1 + 0) (Lib.byteCells (Lib.decDigits u)) (by rw [Lib.byteCells_length]; omega) j (by rw [Lib.byteCells_length]; exact hj)

theorem appendInt_any (B : Nat) (w : World) (bw : Nat) (i : Int) (h0 : -9223372036854775808 ≤ i) (h1 : i ≤ 9223372036854775807) (cur : Array Value) (hg : w.heap[bw]? = some (.cells cur 26 (0, 0))) (hsz : cur.size = 21) (hB : B ≤ bw) (htb : Tb B w) :
    Calls Ybad.prog 13 #[.slice (some ⟨bw, 1, none⟩) 0 20, .int .i64 i, .int .i64 10] w fun e w' =>
      e = .returned (.slice (some ⟨bw, 1, none⟩) (Lib.itoa i).length 20) ∧ NumAt w' bw cur (Lib.itoa i) ∧ Kept (fun b => b = bw) w w' := by
  have HG : Hid _ := hg
  clear hg
  go_enter Ybad.func13, Ybad.ntmps13
  go_wp2_with (go_at_call 14; refine (appendInt_in B w bw i h0 h1 cur HG.out hsz hB htb).mono ?_; rintro e w2 ⟨rfl, hn2, hk2⟩)
  go_ret
  exact ⟨rfl, hn2, hk2⟩
end Go.Proofs.YbulkbeysDoor
