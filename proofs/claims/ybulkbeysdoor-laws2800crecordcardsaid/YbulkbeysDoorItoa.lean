/- The two helpers of the laws: the numeral (zzs2800citoa) and the comparison of rows of bytes (zzs2800ceq). -/
import Derived.Test.YbulkbeysDoorRecord
import Derived.Deep.QuietTactic
import Derived.BigQuiet
namespace Go.Proofs.YbulkbeysDoor
open Go.RowKit

/-- '==' of two byte rows that hold the same -/
theorem ceq_same (w : World) (a1 a2 : Option Addr) (n c1 c2 b1 o1 b2 o2 : Nat) (Z : Nat → Int) (hn : n ≤ 100000)
    (h1 : 0 < n → a1 = some ⟨b1, o1, none⟩) (h2 : 0 < n → a2 = some ⟨b2, o2, none⟩)
    (z1 : ∀ i, i < n → w.cell? ⟨b1, o1 + i, none⟩ = some (.int .u8 (Z i))) (z2 : ∀ i, i < n → w.cell? ⟨b2, o2 + i, none⟩ = some (.int .u8 (Z i))) :
    Calls Ybad.prog 8 #[.slice a1 n c1, .slice a2 n c2] w fun e w' => e = .returned (.bool true) ∧ ∃ k, w' = w.drewN k := by
  go_enter Ybad.func8, Ybad.ntmps8
  go_wp2
  go_loopw [5] (fun i wx => ∃ (k q : Nat), k ≤ n ∧ i = .int .i64 k ∧ wx = w.drewN q) (fun i _ => n - (intOf i).toNat)
  case atStart => exact ⟨0, 0, Nat.zero_le _, rfl, rfl⟩
  case round =>
    obtain ⟨k, q, hk, rfl, rfl⟩ := hrel
    by_cases hlt : k < n
    · have d1 := z1 k hlt
      have d2 := z2 k hlt
      obtain rfl := h1 (by omega)
      obtain rfl := h2 (by omega)
      have hi : (k : Int) < (n : Int) := by omega
      clear z1 z2
      go_wp2
      go_quiet (fail)
      go_wp2
      go_roundw
      case rel => exact ⟨k + 1, _, by omega, by go_num, rfl⟩
      case measure => simp [intOf]; omega
    · go_wp2
      go_ret
      exact ⟨rfl, q, rfl⟩


theorem dec_big (v : Nat) (h : 10 ≤ v) : Lib.decDigits v = Lib.decDigits (v / 10) ++ [UInt8.ofNat (48 + v % 10)] := by
  rw [Lib.decDigits, dif_neg (by omega)]
theorem dec_small (v : Nat) (h : v < 10) : Lib.decDigits v = [UInt8.ofNat (48 + v)] := Lib.decDigits_one h
theorem dec_pos (v : Nat) : 0 < (Lib.decDigits v).length := by rw [Lib.decDigits_length]; exact Lib.nDigits_pos _

/-- what has been written so far: S, the last digits of U; v is what is left -/
def DigInv (U v : Nat) (S : List UInt8) : Prop := (0 < v ∧ Lib.decDigits U = Lib.decDigits v ++ S) ∨ (v = 0 ∧ S = Lib.decDigits U)

theorem dig_step {U v : Nat} {S : List UInt8} (h : DigInv U v S) (hv : 0 < v) : DigInv U (v / 10) (UInt8.ofNat (48 + v % 10) :: S) := by
  rcases h with ⟨_, h⟩ | ⟨h, _⟩
  · by_cases h10 : v < 10
    · refine .inr ⟨by omega, ?_⟩
      rw [h, dec_small v h10, show v % 10 = v by omega]; rfl
    · refine .inl ⟨by omega, ?_⟩
      rw [h, dec_big v (by omega), List.append_assoc]; rfl
  · omega

theorem dig_len {U v : Nat} {S : List UInt8} (h : DigInv U v S) (hv : 0 < v) : S.length + 1 ≤ (Lib.decDigits U).length := by
  rcases h with ⟨_, h⟩ | ⟨h, _⟩
  · rw [h, List.length_append]; have := dec_pos v; omega
  · omega

theorem byte_dig (v : Nat) : Value.int .u8 (48 + (v : Int) % 10) = Value.int .u8 ((UInt8.ofNat (48 + v % 10)).toNat : Int) := by
  have : (UInt8.ofNat (48 + v % 10)).toNat = 48 + v % 10 := by rw [UInt8.toNat_ofNat']; omega
  rw [this]; congr 1

/-- the digits' array, from place j on -/
def DigAt (w wr : World) (j : Nat) (S : List UInt8) : Prop :=
  ∃ D : Array Value, wr.heap[w.heap.size]? = some (.cells D 24 (0, 0)) ∧ D.size = 20 ∧ j + S.length = 20 ∧ D.toList.drop j = Lib.byteCells S ∧ Below w.heap.size w wr

theorem digAt_put {w wr : World} {j : Nat} {S : List UInt8} (h : DigAt w wr (j + 1) S) (b : UInt8) : DigAt w (wr.setCell ⟨w.heap.size, j, none⟩ (.int .u8 b.toNat)) j (b :: S) := by
  obtain ⟨D, hD, hs, hl, hd, hb⟩ := h
  refine ⟨_, heap_setCell_at _ hD, by simpa using hs, by simp; omega, ?_, hb.setCell (p := ⟨w.heap.size, j, none⟩) (Nat.le_refl _) _⟩
  rw [Array.toList_setIfInBounds, List.drop_set, if_neg (by omega), Nat.sub_self]
  rw [List.drop_eq_getElem_cons (by simp; omega)]
  simp only [List.set_cons_zero]
  rw [hd]
  rfl

theorem slice24 (W : World) (b j : Nat) (hj : j < 20) : (Instr.sliceAt 24 (.pointer (some ⟨b, 0, none⟩)) (some (.int .i64 (j : Int))) none none).run Ybad.prog W = .ok (.slice (some ⟨b, j, none⟩) (20 - j) (20 - j)) W := by
  have hal : Ybad.prog.arrayLen 24 = 20 := by simp [Program.arrayLen, Ybad.underlying24]
  rw [run_sliceAt_array_l W 24 ⟨b, 0, none⟩ (by simp [Program.arrayLen, Program.elem, Ybad.underlying24]) .i64 (j : Int) (by omega) (by rw [hal]; omega), hal]
  go_simp
  omega

theorem ownsRow_base2 {w : World} {base base' : Nat} {e : TypeId} {size : Nat} {v : Value} {n : Nat} {xs : List Value} (h : w.ownsRow base e size v n xs) (hb : base' ≤ base) : w.ownsRow base' e size v n xs := by
  obtain ⟨h1, h2⟩ := h
  refine ⟨h1, ?_⟩
  rcases h2 with h2 | ⟨g, cap, cur, hv', hg, r⟩
  · exact Or.inl h2
  · exact Or.inr ⟨g, cap, cur, hv', by omega, r⟩

set_option maxHeartbeats 1600000 in
set_option maxRecDepth 100000 in
theorem citoa_any (n : Int) (hn : I64 n) (w : World) :
    Calls Ybad.prog 7 #[.int .i64 n] w fun e w' => ∃ gb, e = .returned (.slice (some ⟨gb, 0, none⟩) (Lib.itoa n).length 21) ∧ w.heap.size ≤ gb ∧ w'.ownsRow w.heap.size 5 1 (.slice (some ⟨gb, 0, none⟩) (Lib.itoa n).length 21) (Lib.itoa n).length (Lib.byteCells (Lib.itoa n)) ∧ Below w.heap.size w w' := by
  obtain ⟨i0, hi, hz0, hz1, hz2⟩ := info_parts info5
  obtain ⟨hn0, hn1⟩ := hn
  by_cases hneg : n < 0
  · obtain ⟨U, rfl⟩ : ∃ U : Nat, n = -(U : Int) := ⟨n.natAbs, by omega⟩
    have hU1 : 1 ≤ U := by omega
    have hU : (U : Int) ≤ 9223372036854775808 := by omega
    have hd := digits19 U (by omega)
    rw [Lib.itoa_neg U hU1]
    have D0 : DigAt w (w.alloc (.cells #[.int .u8 0, .int .u8 0, .int .u8 0, .int .u8 0, .int .u8 0, .int .u8 0, .int .u8 0, .int .u8 0, .int .u8 0, .int .u8 0, .int .u8 0, .int .u8 0, .int .u8 0, .int .u8 0, .int .u8 0, .int .u8 0, .int .u8 0, .int .u8 0, .int .u8 0, .int .u8 0] 24)) 20 [] :=
      ⟨_, heap_alloc_new _ _, rfl, rfl, rfl, (Below.refl _ _).alloc (Nat.le_refl _) _⟩
    have HD : Hid _ := D0
    clear D0
    go_enter Ybad.func7, Ybad.ntmps7
    go_wp2
    go_loopw [3, 6] (fun u i wx => ∃ (v j : Nat) (S : List UInt8), u = .int .u64 v ∧ i = .int .i64 j ∧ v ≤ 9223372036854775808 ∧ DigInv U v S ∧ DigAt w wx j S) (fun u _ _ => (intOf u).toNat)
    case atStart => exact ⟨U, 20, [], by go_num, rfl, by omega, .inl ⟨hU1, by simp⟩, HD.out⟩
    case round =>
      clear HD
      obtain ⟨v, j, S, rfl, rfl, hv63, hI, hA⟩ := hrel
      have hjS : j + S.length = 20 := by obtain ⟨_, _, _, h, _⟩ := hA; exact h
      have HA := And.intro hI hA
      replace HA : Hid _ := HA
      by_cases hv : 0 < v
      · have hlen := dig_len hI hv
        obtain ⟨j, rfl⟩ : ∃ k, j = k + 1 := ⟨j - 1, by omega⟩
        obtain ⟨D, hD, hDs, _, _, hB⟩ := hA
        have e0 := cellB (o := j) hD (Array.getElem?_eq_getElem (by omega))
        have e1 : wr.frozen? ⟨w.heap.size, j, none⟩ = false := freeB hD
        clear hI hD hB
        go_wp2
        go_roundw
        case rel => exact ⟨v / 10, j, _, by go_num, by go_num, by omega, dig_step HA.out.1 hv, by rw [byte_dig]; exact digAt_put HA.out.2 _⟩
        case measure => simp [intOf]; omega
      · obtain rfl : v = 0 := by omega
        have hSU : S = Lib.decDigits U := by
          rcases hI with ⟨h, _⟩ | ⟨_, h⟩
          · omega
          · exact h
        subst hSU
        have hpos := dec_pos U
        obtain ⟨D, hD, hDs, _, hDd, hB⟩ := hA
        have hsz := hB.size
        have hsl : ∀ W, (Instr.sliceAt 24 (.pointer (some ⟨w.heap.size, 0, none⟩)) (some (.int .i64 (j : Int))) none none).run Ybad.prog W = .ok (.slice (some ⟨w.heap.size, j, none⟩) (20 - j) (20 - j)) W := fun W => slice24 W _ j (by omega)
        have hcell : ∀ k u, (Lib.byteCells (Lib.decDigits U))[k]? = some u → D[j + k]? = some u := by
          intro k u hk
          rw [← hDd, List.getElem?_drop, Array.getElem?_toList] at hk
          exact hk
        have HD : Hid _ := hD
        have hlt0 := lt_of_block hD
        clear hI HA hD hDd
        go_wp2_with (at_make; refine wpList_make_own _ rfl _ _ 22 rfl wr.heap.size 5 i0 _ 1 Ybad.underlying22 hi hz0 hz1 _ _ _ 21 rfl rfl rfl ?b1 ?b2 (Nat.le_refl _) ?_)
        case b1 => first | omega | (rw [hz2]; omega)
        case b2 => unfold maxLen; omega
        intro w1 hown1 hgrow1
        have hD1 : w1.heap[w.heap.size]? = some (.cells D 24 (0, 0)) := (hgrow1.block _ (lt_of_block HD.out) (by simp)).trans HD.out
        have hb1 : Below w.heap.size w w1 := hB.grown hgrow1 hsz (by intro k hk; cases hk)
        have hs1 := hgrow1.size
        clear HD hgrow1
        have HD1 := And.intro hD1 hb1
        replace HD1 : Hid _ := HD1
        have hdw := lt_of_block hD1
        clear hD1 hb1
        go_wp2_with (at_builtin; refine wpList_append_fits _ rfl _ _ 22 rfl wr.heap.size 5 i0 1 Ybad.underlying22 hi hz1 wr.heap.size 0 21 [] rfl (hown1.alloc _) ⟨w1.heap.size, 0, none⟩ 1 1 [.int .u8 45] rfl rfl ?g1 ?g2 (by omega) ?_)
        case g1 => exact cell_one_new _ _ _
        case g2 => intro u hu; simp at hu; subst hu; rfl
        intro w2 hown2 hgrow2
        have hgw := (hown1.lt wr.heap.size rfl).2
        have hD2 : w2.heap[w.heap.size]? = some (.cells D 24 (0, 0)) := (hgrow2.block _ (by simp; omega) (by simp; omega)).trans ((Below.heap_alloc _ _ _ hdw).trans HD1.out.1)
        have hb2 : Below w.heap.size w w2 := (HD1.out.2.alloc (by omega) _).grown hgrow2 (by simp; omega) (by intro k hk; simp at hk; omega)
        clear HD1 hgrow2 hown1
        have HD2 := And.intro hD2 hb2
        replace HD2 : Hid _ := HD2
        have hcell2 : ∀ k u, (Lib.byteCells (Lib.decDigits U))[k]? = some u → w2.cell? ((⟨w.heap.size, j, none⟩ : Addr).add k) = some u := fun k u hk => by rw [Addr.add_lit]; exact cellB hD2 (hcell k u hk)
        clear hD2 hb2 hcell
        go_wp2_with (at_builtin; refine wpList_append_fits _ rfl _ _ 22 rfl wr.heap.size 5 i0 1 Ybad.underlying22 hi hz1 wr.heap.size 1 21 [.int .u8 45] rfl hown2 ⟨w.heap.size, j, none⟩ (20 - j) (20 - j) (Lib.byteCells (Lib.decDigits U)) rfl ?g3 hcell2 (bytes_one _) (by omega) ?_)
        case g3 => rw [Lib.byteCells_length]; omega
        intro w3 hown3 hgrow3
        have hb3 : Below w.heap.size w w3 := HD2.out.2.grown hgrow3 HD2.out.2.size (by intro k hk; simp at hk; omega)
        clear hgrow3 hown2 HD2 hcell2
        have hjn : 1 + (20 - j) = (45 :: Lib.decDigits U).length := by simp; omega
        rw [hjn] at hown3
        have HF := And.intro hown3 hb3
        replace HF : Hid _ := HF
        clear hown3 hb3
        go_wp2
        go_ret
        refine ⟨wr.heap.size, ?_, hsz, ?_, HF.out.2⟩
        · show _ = Ending.returned (.slice _ (45 :: Lib.decDigits U).length 21)
          rw [← hjn]; rfl
        · exact ownsRow_base2 HF.out.1 hsz

  · obtain ⟨U, rfl⟩ : ∃ U : Nat, n = (U : Int) := ⟨n.toNat, by omega⟩
    have hU : (U : Int) ≤ 9223372036854775807 := by omega
    have hd := digits19 U (by omega)
    rw [Lib.itoa_nonneg]
    by_cases hU0 : U = 0
    · subst hU0
      have D0 : DigAt w (w.alloc (.cells #[.int .u8 0, .int .u8 0, .int .u8 0, .int .u8 0, .int .u8 0, .int .u8 0, .int .u8 0, .int .u8 0, .int .u8 0, .int .u8 0, .int .u8 0, .int .u8 0, .int .u8 0, .int .u8 0, .int .u8 0, .int .u8 0, .int .u8 0, .int .u8 0, .int .u8 0, .int .u8 48] 24)) 19 [48] :=
        ⟨_, heap_alloc_new _ _, rfl, rfl, rfl, (Below.refl _ _).alloc (Nat.le_refl _) _⟩
      have HD : Hid _ := D0
      clear D0
      go_enter Ybad.func7, Ybad.ntmps7
      go_wp2
      go_loopw [3, 6] (fun u i wx => ∃ (v j : Nat) (S : List UInt8), u = .int .u64 v ∧ i = .int .i64 j ∧ v ≤ 9223372036854775808 ∧ DigInv 0 v S ∧ DigAt w wx j S) (fun u _ _ => (intOf u).toNat)
      case atStart => exact ⟨0, 19, [48], rfl, rfl, by omega, .inr ⟨rfl, (dec_small 0 (by omega)).symm⟩, HD.out⟩
      case round =>
        clear HD
        obtain ⟨v, j, S, rfl, rfl, hv63, hI, hA⟩ := hrel
        have hjS : j + S.length = 20 := by obtain ⟨_, _, _, h, _⟩ := hA; exact h
        have HA := And.intro hI hA
        replace HA : Hid _ := HA
        by_cases hv : 0 < v
        · have hlen := dig_len hI hv
          obtain ⟨j, rfl⟩ : ∃ k, j = k + 1 := ⟨j - 1, by omega⟩
          obtain ⟨D, hD, hDs, _, _, hB⟩ := hA
          have e0 := cellB (o := j) hD (Array.getElem?_eq_getElem (by omega))
          have e1 : wr.frozen? ⟨w.heap.size, j, none⟩ = false := freeB hD
          clear hI hD hB
          go_wp2
          go_roundw
          case rel => exact ⟨v / 10, j, _, by go_num, by go_num, by omega, dig_step HA.out.1 hv, by rw [byte_dig]; exact digAt_put HA.out.2 _⟩
          case measure => simp [intOf]; omega
        · obtain rfl : v = 0 := by omega
          have hSU : S = Lib.decDigits 0 := by
            rcases hI with ⟨h, _⟩ | ⟨_, h⟩
            · omega
            · exact h
          subst hSU
          have hpos := dec_pos 0
          obtain ⟨D, hD, hDs, _, hDd, hB⟩ := hA
          have hsz := hB.size
          have hsl : ∀ W, (Instr.sliceAt 24 (.pointer (some ⟨w.heap.size, 0, none⟩)) (some (.int .i64 (j : Int))) none none).run Ybad.prog W = .ok (.slice (some ⟨w.heap.size, j, none⟩) (20 - j) (20 - j)) W := fun W => slice24 W _ j (by omega)
          have hcell : ∀ k u, (Lib.byteCells (Lib.decDigits 0))[k]? = some u → D[j + k]? = some u := by
            intro k u hk
            rw [← hDd, List.getElem?_drop, Array.getElem?_toList] at hk
            exact hk
          have HD : Hid _ := hD
          have hlt0 := lt_of_block hD
          clear hI HA hD hDd
          go_wp2_with (at_make; refine wpList_make_own _ rfl _ _ 22 rfl wr.heap.size 5 i0 _ 1 Ybad.underlying22 hi hz0 hz1 _ _ _ 21 rfl rfl rfl ?b1 ?b2 (Nat.le_refl _) ?_)
          case b1 => first | omega | (rw [hz2]; omega)
          case b2 => unfold maxLen; omega
          intro w1 hown1 hgrow1
          have hD1 : w1.heap[w.heap.size]? = some (.cells D 24 (0, 0)) := (hgrow1.block _ (lt_of_block HD.out) (by simp)).trans HD.out
          have hb1 : Below w.heap.size w w1 := hB.grown hgrow1 hsz (by intro k hk; cases hk)
          have hs1 := hgrow1.size
          clear HD hgrow1
          have hcell2 : ∀ k u, (Lib.byteCells (Lib.decDigits 0))[k]? = some u → w1.cell? ((⟨w.heap.size, j, none⟩ : Addr).add k) = some u := fun k u hk => by rw [Addr.add_lit]; exact cellB hD1 (hcell k u hk)
          have HD2 : Hid _ := hb1
          clear hD1 hb1 hcell
          go_wp2_with (at_builtin; refine wpList_append_fits _ rfl _ _ 22 rfl wr.heap.size 5 i0 1 Ybad.underlying22 hi hz1 wr.heap.size 0 21 [] rfl hown1 ⟨w.heap.size, j, none⟩ (20 - j) (20 - j) (Lib.byteCells (Lib.decDigits 0)) rfl ?g3 hcell2 (bytes_one _) (by omega) ?_)
          case g3 => rw [Lib.byteCells_length]; omega
          intro w3 hown3 hgrow3
          have hb3 : Below w.heap.size w w3 := HD2.out.grown hgrow3 HD2.out.size (by intro k hk; simp at hk; omega)
          clear hgrow3 hown1 HD2 hcell2
          have hjn : 20 - j = (Lib.decDigits 0).length := by omega
          try simp only [Nat.zero_add, List.nil_append] at hown3
          rw [hjn] at hown3
          have HF := And.intro hown3 hb3
          replace HF : Hid _ := HF
          clear hown3 hb3
          go_wp2
          go_ret
          refine ⟨wr.heap.size, ?_, hsz, ?_, HF.out.2⟩
          · rw [← hjn]; first | rfl | (simp only [Nat.zero_add]; rfl)
          · exact ownsRow_base2 HF.out.1 hsz

    · have hU1 : 1 ≤ U := by omega
      have D0 : DigAt w (w.alloc (.cells #[.int .u8 0, .int .u8 0, .int .u8 0, .int .u8 0, .int .u8 0, .int .u8 0, .int .u8 0, .int .u8 0, .int .u8 0, .int .u8 0, .int .u8 0, .int .u8 0, .int .u8 0, .int .u8 0, .int .u8 0, .int .u8 0, .int .u8 0, .int .u8 0, .int .u8 0, .int .u8 0] 24)) 20 [] :=
        ⟨_, heap_alloc_new _ _, rfl, rfl, rfl, (Below.refl _ _).alloc (Nat.le_refl _) _⟩
      have HD : Hid _ := D0
      clear D0
      go_enter Ybad.func7, Ybad.ntmps7
      go_wp2
      go_loopw [3, 6] (fun u i wx => ∃ (v j : Nat) (S : List UInt8), u = .int .u64 v ∧ i = .int .i64 j ∧ v ≤ 9223372036854775808 ∧ DigInv U v S ∧ DigAt w wx j S) (fun u _ _ => (intOf u).toNat)
      case atStart => exact ⟨U, 20, [], by go_num, rfl, by omega, .inl ⟨hU1, by simp⟩, HD.out⟩
      case round =>
        clear HD
        obtain ⟨v, j, S, rfl, rfl, hv63, hI, hA⟩ := hrel
        have hjS : j + S.length = 20 := by obtain ⟨_, _, _, h, _⟩ := hA; exact h
        have HA := And.intro hI hA
        replace HA : Hid _ := HA
        by_cases hv : 0 < v
        · have hlen := dig_len hI hv
          obtain ⟨j, rfl⟩ : ∃ k, j = k + 1 := ⟨j - 1, by omega⟩
          obtain ⟨D, hD, hDs, _, _, hB⟩ := hA
          have e0 := cellB (o := j) hD (Array.getElem?_eq_getElem (by omega))
          have e1 : wr.frozen? ⟨w.heap.size, j, none⟩ = false := freeB hD
          clear hI hD hB
          go_wp2
          go_roundw
          case rel => exact ⟨v / 10, j, _, by go_num, by go_num, by omega, dig_step HA.out.1 hv, by rw [byte_dig]; exact digAt_put HA.out.2 _⟩
          case measure => simp [intOf]; omega
        · obtain rfl : v = 0 := by omega
          have hSU : S = Lib.decDigits U := by
            rcases hI with ⟨h, _⟩ | ⟨_, h⟩
            · omega
            · exact h
          subst hSU
          have hpos := dec_pos U
          obtain ⟨D, hD, hDs, _, hDd, hB⟩ := hA
          have hsz := hB.size
          have hsl : ∀ W, (Instr.sliceAt 24 (.pointer (some ⟨w.heap.size, 0, none⟩)) (some (.int .i64 (j : Int))) none none).run Ybad.prog W = .ok (.slice (some ⟨w.heap.size, j, none⟩) (20 - j) (20 - j)) W := fun W => slice24 W _ j (by omega)
          have hcell : ∀ k u, (Lib.byteCells (Lib.decDigits U))[k]? = some u → D[j + k]? = some u := by
            intro k u hk
            rw [← hDd, List.getElem?_drop, Array.getElem?_toList] at hk
            exact hk
          have HD : Hid _ := hD
          have hlt0 := lt_of_block hD
          clear hI HA hD hDd
          go_wp2_with (at_make; refine wpList_make_own _ rfl _ _ 22 rfl wr.heap.size 5 i0 _ 1 Ybad.underlying22 hi hz0 hz1 _ _ _ 21 rfl rfl rfl ?b1 ?b2 (Nat.le_refl _) ?_)
          case b1 => first | omega | (rw [hz2]; omega)
          case b2 => unfold maxLen; omega
          intro w1 hown1 hgrow1
          have hD1 : w1.heap[w.heap.size]? = some (.cells D 24 (0, 0)) := (hgrow1.block _ (lt_of_block HD.out) (by simp)).trans HD.out
          have hb1 : Below w.heap.size w w1 := hB.grown hgrow1 hsz (by intro k hk; cases hk)
          have hs1 := hgrow1.size
          clear HD hgrow1
          have hcell2 : ∀ k u, (Lib.byteCells (Lib.decDigits U))[k]? = some u → w1.cell? ((⟨w.heap.size, j, none⟩ : Addr).add k) = some u := fun k u hk => by rw [Addr.add_lit]; exact cellB hD1 (hcell k u hk)
          have HD2 : Hid _ := hb1
          clear hD1 hb1 hcell
          go_wp2_with (at_builtin; refine wpList_append_fits _ rfl _ _ 22 rfl wr.heap.size 5 i0 1 Ybad.underlying22 hi hz1 wr.heap.size 0 21 [] rfl hown1 ⟨w.heap.size, j, none⟩ (20 - j) (20 - j) (Lib.byteCells (Lib.decDigits U)) rfl ?g3 hcell2 (bytes_one _) (by omega) ?_)
          case g3 => rw [Lib.byteCells_length]; omega
          intro w3 hown3 hgrow3
          have hb3 : Below w.heap.size w w3 := HD2.out.grown hgrow3 HD2.out.size (by intro k hk; simp at hk; omega)
          clear hgrow3 hown1 HD2 hcell2
          have hjn : 20 - j = (Lib.decDigits U).length := by omega
          try simp only [Nat.zero_add, List.nil_append] at hown3
          rw [hjn] at hown3
          have HF := And.intro hown3 hb3
          replace HF : Hid _ := HF
          clear hown3 hb3
          go_wp2
          go_ret
          refine ⟨wr.heap.size, ?_, hsz, ?_, HF.out.2⟩
          · rw [← hjn]; first | rfl | (simp only [Nat.zero_add]; rfl)
          · exact ownsRow_base2 HF.out.1 hsz

end Go.Proofs.YbulkbeysDoor
