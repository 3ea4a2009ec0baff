import Derived.Test.YbulkbeysDoorLike
import Derived.Laws.CopyOwn
namespace Go.Proofs.YbulkbeysDoor
open Go.RowKit

/-- what has been gathered, behind an append -/
theorem own_next {W0 W X W' : World} {B n k : Nat} {v v' : Value} {lst ext : List UInt8} {xs : List Value} (hx : xs = Lib.byteCells lst ++ Lib.byteCells ext) (hown' : W'.ownsRow B 5 1 v' k xs)
    (hown : W.ownsRow B 5 1 v n (Lib.byteCells lst)) (hXW : Below W.heap.size W X) (hgrow : X.grownBy W' v.ownBlock) (hb : Below B W0 W) (hB : B ≤ W.heap.size) :
    W'.ownsRow B 5 1 v' (lst ++ ext).length (Lib.byteCells (lst ++ ext)) ∧ Below B W0 W' ∧ k = (lst ++ ext).length := by
  subst hx
  have hl : k = (lst ++ ext).length := by
    have := hown'.1
    rw [← Lib.byteCells_append, Lib.byteCells_length] at this
    omega
  refine ⟨?_, (hb.trans (hXW.mono hB)).grown hgrow (by have := hXW.size; omega) (fun k hk => (hown.lt k hk).1), hl⟩
  rw [← hl, Lib.byteCells_append]
  exact hown'


theorem cells_one (w : World) (a : Value) (t : TypeId) : ∀ j u, [a][j]? = some u → (w.alloc (.cells #[a] t)).cell? ((⟨w.heap.size, 0, none⟩ : Addr).add j) = some u := by
  intro j u h
  match j, h with
  | 0, h => cases h; rw [Addr.add_lit]; exact cellB (heap_alloc_new _ _) rfl
theorem cells_three (w : World) (a b c : Value) (t : TypeId) : ∀ j u, [a, b, c][j]? = some u → (w.alloc (.cells #[a, b, c] t)).cell? ((⟨w.heap.size, 0, none⟩ : Addr).add j) = some u := by
  intro j u h
  match j, h with
  | 0, h => cases h; rw [Addr.add_lit]; exact cellB (heap_alloc_new _ _) rfl
  | 1, h => cases h; rw [Addr.add_lit]; exact cellB (heap_alloc_new _ _) rfl
  | 2, h => cases h; rw [Addr.add_lit]; exact cellB (heap_alloc_new _ _) rfl
theorem own_cells {w : World} {B n ga cp : Nat} {l : List UInt8} (h : w.ownsRow B 5 1 (.slice (some ⟨ga, 0, none⟩) n cp) n (Lib.byteCells l)) : ∀ j u, (Lib.byteCells l)[j]? = some u → w.cell? ((⟨ga, 0, none⟩ : Addr).add j) = some u := by
  intro j u hj
  have hjl : j < l.length := by have := (List.getElem?_eq_some_iff.1 hj).1; rwa [Lib.byteCells_length] at this
  rw [Addr.add_lit, Nat.zero_add, own_cell h j hjl, ← hj]
  simp [Lib.byteCells, List.getD, hjl]

set_option maxHeartbeats 3200000 in
set_option maxRecDepth 100000 in
theorem record (w : World) (a0 : Option Addr) (np cp : Nat) (pl : List UInt8) (hpl : pl.length = np) (hnone : a0 = none → np = 0 ∧ cp = 0) (hnp63 : np ≤ maxLen)
    (hcell : ∀ ad, a0 = some ad → (0 < np → ad.block < w.heap.size) ∧ ∀ j u, (Lib.byteCells pl)[j]? = some u → w.cell? (ad.add j) = some u)
    (file : ByteArray) (g s c n : Int) (hg : I64 g) (hs : I64 s) (hc : I64 c) (hn : I64 n) (hf63 : file.size ≤ maxLen) (htab : Tab w) :
    Calls Ybad.prog 3 #[.slice a0 np cp, .int .i64 g, .int .i64 s, .int .i64 c, .int .i64 n, .string file] w fun e w' => e = .returned (.bool true) ∧ Below w.heap.size w w' := by
  unfold maxLen at hf63 hnp63
  by_cases hpn : np ≤ 1024
  case neg =>
    go_enter Ybad.func3, Ybad.ntmps3
    go_wp2
    go_ret
    exact ⟨rfl, Below.refl _ _⟩
  by_cases hfl : file.size ≤ 1024
  case neg =>
    go_enter Ybad.func3, Ybad.ntmps3
    go_wp2
    go_ret
    exact ⟨rfl, Below.refl _ _⟩
  obtain ⟨i0, hi, hz0, hz1, hz2⟩ := info_parts info5
  have tb0 : Tb w.heap.size w := Lib.tabBelow_of_tabIs htab
  have hT := tail_le g s c n file.data.toList hg hs hc hn
  have hfs : file.data.toList.length = file.size := Array.length_toList
  have nq := fun W => run_neq_slice_nil_any (P := Ybad.prog) W 22 5 a0 np cp 0 0 Ybad.underlying22
  have lg := itoa_le g hg.1 hg.2
  have ls := itoa_le s hs.1 hs.2
  have lc := itoa_le c hc.1 hc.2
  have ln := itoa_le n hn.1 hn.2
  have start : (a0 = none ∧ np = 0 ∧ cp = 0) ∨ ∃ ad, a0 = some ad := by
    cases a0 with
    | none => exact .inl ⟨rfl, hnone rfl⟩
    | some ad => exact .inr ⟨ad, rfl⟩
  rcases start with ⟨rfl, rfl, rfl⟩ | ⟨ad, rfl⟩
  · have hb0 : Below w.heap.size w w := Below.refl _ _
    have hown0 : w.ownsRow w.heap.size 5 1 (.slice none 0 0) pl.length (Lib.byteCells pl) := by
      obtain rfl : pl = [] := List.eq_nil_of_length_eq_zero hpl
      exact World.ownsRow_nil _ _ _ _
    have hpl0 : pl.length ≤ 0 := by omega
    have HPL : Hid _ := hpl
    clear hpl
    simp only [Option.isNone_none] at nq
    go_enter Ybad.func3, Ybad.ntmps3
    go_wp2_with fail
    have hW1 : Wr (w.alloc (.cells #[.slice none 0 0, .int .u8 0, .int .u8 0, .int .u8 0, .int .u8 0, .int .u8 0, .int .u8 0, .int .u8 0, .int .u8 0, .int .u8 0, .int .u8 0, .int .u8 0, .int .u8 0, .int .u8 0, .int .u8 0, .int .u8 0, .int .u8 0, .int .u8 0, .int .u8 0, .int .u8 0, .int .u8 0] 26)) w.heap.size w.heap.size pl := wr_new w w.heap.size (.slice none 0 0) pl _ rfl rfl hown0 hb0.size
    have hbA : Below w.heap.size w (w.alloc (.cells #[.slice none 0 0, .int .u8 0, .int .u8 0, .int .u8 0, .int .u8 0, .int .u8 0, .int .u8 0, .int .u8 0, .int .u8 0, .int .u8 0, .int .u8 0, .int .u8 0, .int .u8 0, .int .u8 0, .int .u8 0, .int .u8 0, .int .u8 0, .int .u8 0, .int .u8 0, .int .u8 0, .int .u8 0] 26)) := hb0.alloc hb0.size _
    refine (go_any _ w.heap.size w.heap.size pl file g s c n hg hs hc hn hW1 (by omega) (tb0.on' hbA)).mono ?_
    rintro e w1 ⟨rfl, W1, hb1⟩
    have hbw1 := hbA.trans hb1
    clear hW1 hbA hb1 hown0
    go_wp2_with fail
    refine (take_any w1 _ _ _ W1).mono ?_
    rintro e w2 ⟨v1, rfl, hown1, hb2⟩
    have hbw2 := hbw1.trans hb2
    clear W1 hbw1 hb2
    obtain ⟨L, hL⟩ : ∃ L, L = pl ++ [103, 111, 32] ++ tail g s c n file.data.toList := ⟨_, rfl⟩
    rw [← hL] at hown1
    have hLn : pl.length + 3 ≤ L.length := by rw [hL]; simp only [List.length_append, List.length_cons, List.length_nil]; omega
    have hLn2 : L.length ≤ 3000 := by rw [hL]; simp only [List.length_append, List.length_cons, List.length_nil]; omega
    obtain ⟨ga, ca, rfl, hga, hca⟩ := own_slice hown1 (by omega)
    have hz2w := hbw2.size
    have hgaw := (hown1.lt ga (by rfl)).2
    have HO := And.intro hown1 (And.intro hbw2 hL)
    replace HO : Hid _ := HO
    have hsrc : ∀ W, Below w2.heap.size w2 W → ∀ ad', (none : Option Addr) = some ad' → ∀ j u, (Lib.byteCells pl)[j]? = some u → W.cell? (ad'.add j) = some u := fun W hW ad' had' j u hj => by
      obtain ⟨h1, h2⟩ := hcell ad' had'
      exact ((hbw2.trans (hW.mono hz2w)).cell (by unfold Addr.add; split <;> exact h1 (by have := (List.getElem?_eq_some_iff.1 hj).1; rw [Lib.byteCells_length] at this; omega))).trans (h2 j u hj)
    clear hown1 hbw2 hL hT hfs
    go_wp2_with (at_make; refine wpList_make_own _ rfl _ _ 22 rfl w2.heap.size 5 i0 _ 1 Ybad.underlying22 hi hz0 hz1 _ _ _ (0 + file.size + 100) rfl rfl (by first | rfl | omega | (simp; omega)) ?q1 ?q2 (Nat.le_refl _) ?_)
    case q1 => first | omega | (rw [hz2]; omega)
    case q2 => unfold maxLen; omega
    intro w3 hown3 hgrow3
    have hb3 : Below w2.heap.size w2 w3 := (Below.refl _ _).grown hgrow3 (Nat.le_refl _) (by intro k hk; cases hk)
    have hsrc3 := hsrc w3 hb3
    clear hgrow3 hsrc
    go_wp2_with (at_builtin; refine wpList_append_fits_any _ rfl (.tmp 53) (.tmp 54) 22 rfl w2.heap.size 5 i0 1 Ybad.underlying22 hi hz1 w2.heap.size 0 _ [] rfl hown3 (none) (0) (0) (Lib.byteCells pl) rfl (by rw [Lib.byteCells_length]; omega) (by first | (intro _; exact ⟨rfl, rfl⟩) | (intro h; cases h)) hsrc3 (bytes_one _) (by omega) ?_)
    intro W4 O4 G4
    have B4 : Below w2.heap.size w2 W4 := hb3.grown G4 hb3.size (by intro k hk; simp at hk; omega)
    clear hb3 hown3 G4 hsrc3
    obtain ⟨v4, hv4⟩ : ∃ v, v = Value.slice (some ⟨w2.heap.size, 0, none⟩) (0) (0 + file.size + 100) := ⟨_, rfl⟩
    replace hv4 : Hid _ := hv4
    go_wp2_with (at_builtin; (refine wpList_append_own _ rfl (.tmp 56) (.tmp 57) 22 rfl w2.heap.size 5 i0 (.int .u8 0) 1 1 Ybad.underlying22 hi hz0 hz1 hz2 rfl (by decide) _ (0) (Lib.byteCells pl) rfl (by exact O4.alloc _) ⟨W4.heap.size, 0, none⟩ 3 3 (Lib.byteCells [103, 111, 32]) rfl rfl ?c1 (bytes_one _) ?c2 ?c3 ?c4 ?_))
    case c1 => first | exact (fun _ _ h => h) | exact cells_three _ _ _ _ _
    case c2 => unfold maxLen; omega
    case c3 => omega
    case c4 => have := B4.size; (try simp only [World.size_alloc]); omega
    intro v5 W5 O5' G hx
    clear hx
    obtain ⟨O5, B5, N⟩ := own_next (ext := [103, 111, 32]) rfl O5' O4 ((Below.refl _ _).alloc (Nat.le_refl _) _) G B4 B4.size
    obtain ⟨l5, hl5⟩ : ∃ l, l = pl ++ [103, 111, 32] := ⟨_, rfl⟩
    rw [← hl5] at O5 N
    have n5 : l5.length ≤ pl.length + 3 := by omega
    replace hl5 : Hid _ := hl5
    clear O4 B4 O5' G N
    clear hv4
    go_wp2_with fail
    refine (citoa_any g hg _).mono ?_
    rintro e X6 ⟨gb, rfl, hgb, hownT, hbT⟩
    have O5x := ownsRow_below O5 hbT (Nat.le_refl _)
    have hszT := hbT.size
    have hnT := hownT.1
    clear hnT
    have hcT : ∀ j u, (Lib.byteCells (Lib.itoa g))[j]? = some u → X6.cell? ((⟨gb, 0, none⟩ : Addr).add j) = some u := fun j u hj => own_cells hownT j u hj
    clear hownT
    go_wp2_with (at_builtin; refine wpList_append_own _ rfl (.tmp 59) (.tmp 61) 22 rfl w2.heap.size 5 i0 (.int .u8 0) 1 1 Ybad.underlying22 hi hz0 hz1 hz2 rfl (by decide) v5 (l5.length) (Lib.byteCells l5) rfl O5x ⟨gb, 0, none⟩ (Lib.itoa g).length 21 (Lib.byteCells (Lib.itoa g)) rfl (by rw [Lib.byteCells_length]; omega) hcT (bytes_one _) ?c2 ?c3 ?c4 ?_)
    case c2 => unfold maxLen; omega
    case c3 => omega
    case c4 => have := B5.size; omega
    intro v6 W6 O6' G hx
    clear hx
    obtain ⟨O6, B6, N⟩ := own_next (ext := Lib.itoa g) rfl O6' O5 hbT G B5 B5.size
    obtain ⟨l6, hl6⟩ : ∃ l, l = l5 ++ Lib.itoa g := ⟨_, rfl⟩
    rw [← hl6] at O6 N
    have n6 : l6.length ≤ pl.length + 23 := by omega
    replace hl6 : Hid _ := hl6
    clear O5 B5 O6' G N
    clear hbT hcT O5x hszT hgb
    clear n5
    go_wp2_with (at_builtin; (refine wpList_append_own _ rfl (.tmp 63) (.tmp 64) 22 rfl w2.heap.size 5 i0 (.int .u8 0) 1 1 Ybad.underlying22 hi hz0 hz1 hz2 rfl (by decide) v6 (l6.length) (Lib.byteCells l6) rfl (by exact O6.alloc _) ⟨W6.heap.size, 0, none⟩ 1 1 (Lib.byteCells [32]) rfl rfl ?c1 (bytes_one _) ?c2 ?c3 ?c4 ?_))
    case c1 => first | exact (fun _ _ h => h) | exact cells_one _ _ _
    case c2 => unfold maxLen; omega
    case c3 => omega
    case c4 => have := B6.size; (try simp only [World.size_alloc]); omega
    intro v7 W7 O7' G hx
    clear hx
    obtain ⟨O7, B7, N⟩ := own_next (ext := [32]) rfl O7' O6 ((Below.refl _ _).alloc (Nat.le_refl _) _) G B6 B6.size
    obtain ⟨l7, hl7⟩ : ∃ l, l = l6 ++ [32] := ⟨_, rfl⟩
    rw [← hl7] at O7 N
    have n7 : l7.length ≤ pl.length + 24 := by omega
    replace hl7 : Hid _ := hl7
    clear O6 B6 O7' G N
    clear n6
    go_wp2_with fail
    refine (citoa_any s hs _).mono ?_
    rintro e X8 ⟨gb, rfl, hgb, hownT, hbT⟩
    have O7x := ownsRow_below O7 hbT (Nat.le_refl _)
    have hszT := hbT.size
    have hnT := hownT.1
    clear hnT
    have hcT : ∀ j u, (Lib.byteCells (Lib.itoa s))[j]? = some u → X8.cell? ((⟨gb, 0, none⟩ : Addr).add j) = some u := fun j u hj => own_cells hownT j u hj
    clear hownT
    go_wp2_with (at_builtin; refine wpList_append_own _ rfl (.tmp 66) (.tmp 68) 22 rfl w2.heap.size 5 i0 (.int .u8 0) 1 1 Ybad.underlying22 hi hz0 hz1 hz2 rfl (by decide) v7 (l7.length) (Lib.byteCells l7) rfl O7x ⟨gb, 0, none⟩ (Lib.itoa s).length 21 (Lib.byteCells (Lib.itoa s)) rfl (by rw [Lib.byteCells_length]; omega) hcT (bytes_one _) ?c2 ?c3 ?c4 ?_)
    case c2 => unfold maxLen; omega
    case c3 => omega
    case c4 => have := B7.size; omega
    intro v8 W8 O8' G hx
    clear hx
    obtain ⟨O8, B8, N⟩ := own_next (ext := Lib.itoa s) rfl O8' O7 hbT G B7 B7.size
    obtain ⟨l8, hl8⟩ : ∃ l, l = l7 ++ Lib.itoa s := ⟨_, rfl⟩
    rw [← hl8] at O8 N
    have n8 : l8.length ≤ pl.length + 44 := by omega
    replace hl8 : Hid _ := hl8
    clear O7 B7 O8' G N
    clear hbT hcT O7x hszT hgb
    clear n7
    go_wp2_with (at_builtin; (refine wpList_append_own _ rfl (.tmp 70) (.tmp 71) 22 rfl w2.heap.size 5 i0 (.int .u8 0) 1 1 Ybad.underlying22 hi hz0 hz1 hz2 rfl (by decide) v8 (l8.length) (Lib.byteCells l8) rfl (by exact O8.alloc _) ⟨W8.heap.size, 0, none⟩ 1 1 (Lib.byteCells [32]) rfl rfl ?c1 (bytes_one _) ?c2 ?c3 ?c4 ?_))
    case c1 => first | exact (fun _ _ h => h) | exact cells_one _ _ _
    case c2 => unfold maxLen; omega
    case c3 => omega
    case c4 => have := B8.size; (try simp only [World.size_alloc]); omega
    intro v9 W9 O9' G hx
    clear hx
    obtain ⟨O9, B9, N⟩ := own_next (ext := [32]) rfl O9' O8 ((Below.refl _ _).alloc (Nat.le_refl _) _) G B8 B8.size
    obtain ⟨l9, hl9⟩ : ∃ l, l = l8 ++ [32] := ⟨_, rfl⟩
    rw [← hl9] at O9 N
    have n9 : l9.length ≤ pl.length + 45 := by omega
    replace hl9 : Hid _ := hl9
    clear O8 B8 O9' G N
    clear n8
    go_wp2_with fail
    refine (citoa_any c hc _).mono ?_
    rintro e X10 ⟨gb, rfl, hgb, hownT, hbT⟩
    have O9x := ownsRow_below O9 hbT (Nat.le_refl _)
    have hszT := hbT.size
    have hnT := hownT.1
    clear hnT
    have hcT : ∀ j u, (Lib.byteCells (Lib.itoa c))[j]? = some u → X10.cell? ((⟨gb, 0, none⟩ : Addr).add j) = some u := fun j u hj => own_cells hownT j u hj
    clear hownT
    go_wp2_with (at_builtin; refine wpList_append_own _ rfl (.tmp 73) (.tmp 75) 22 rfl w2.heap.size 5 i0 (.int .u8 0) 1 1 Ybad.underlying22 hi hz0 hz1 hz2 rfl (by decide) v9 (l9.length) (Lib.byteCells l9) rfl O9x ⟨gb, 0, none⟩ (Lib.itoa c).length 21 (Lib.byteCells (Lib.itoa c)) rfl (by rw [Lib.byteCells_length]; omega) hcT (bytes_one _) ?c2 ?c3 ?c4 ?_)
    case c2 => unfold maxLen; omega
    case c3 => omega
    case c4 => have := B9.size; omega
    intro v10 W10 O10' G hx
    clear hx
    obtain ⟨O10, B10, N⟩ := own_next (ext := Lib.itoa c) rfl O10' O9 hbT G B9 B9.size
    obtain ⟨l10, hl10⟩ : ∃ l, l = l9 ++ Lib.itoa c := ⟨_, rfl⟩
    rw [← hl10] at O10 N
    have n10 : l10.length ≤ pl.length + 65 := by omega
    replace hl10 : Hid _ := hl10
    clear O9 B9 O10' G N
    clear hbT hcT O9x hszT hgb
    clear n9
    go_wp2_with (at_builtin; (refine wpList_append_own _ rfl (.tmp 77) (.tmp 78) 22 rfl w2.heap.size 5 i0 (.int .u8 0) 1 1 Ybad.underlying22 hi hz0 hz1 hz2 rfl (by decide) v10 (l10.length) (Lib.byteCells l10) rfl (by exact O10.alloc _) ⟨W10.heap.size, 0, none⟩ 1 1 (Lib.byteCells [32]) rfl rfl ?c1 (bytes_one _) ?c2 ?c3 ?c4 ?_))
    case c1 => first | exact (fun _ _ h => h) | exact cells_one _ _ _
    case c2 => unfold maxLen; omega
    case c3 => omega
    case c4 => have := B10.size; (try simp only [World.size_alloc]); omega
    intro v11 W11 O11' G hx
    clear hx
    obtain ⟨O11, B11, N⟩ := own_next (ext := [32]) rfl O11' O10 ((Below.refl _ _).alloc (Nat.le_refl _) _) G B10 B10.size
    obtain ⟨l11, hl11⟩ : ∃ l, l = l10 ++ [32] := ⟨_, rfl⟩
    rw [← hl11] at O11 N
    have n11 : l11.length ≤ pl.length + 66 := by omega
    replace hl11 : Hid _ := hl11
    clear O10 B10 O11' G N
    clear n10
    go_wp2_with fail
    refine (citoa_any n hn _).mono ?_
    rintro e X12 ⟨gb, rfl, hgb, hownT, hbT⟩
    have O11x := ownsRow_below O11 hbT (Nat.le_refl _)
    have hszT := hbT.size
    have hnT := hownT.1
    clear hnT
    have hcT : ∀ j u, (Lib.byteCells (Lib.itoa n))[j]? = some u → X12.cell? ((⟨gb, 0, none⟩ : Addr).add j) = some u := fun j u hj => own_cells hownT j u hj
    clear hownT
    go_wp2_with (at_builtin; refine wpList_append_own _ rfl (.tmp 80) (.tmp 82) 22 rfl w2.heap.size 5 i0 (.int .u8 0) 1 1 Ybad.underlying22 hi hz0 hz1 hz2 rfl (by decide) v11 (l11.length) (Lib.byteCells l11) rfl O11x ⟨gb, 0, none⟩ (Lib.itoa n).length 21 (Lib.byteCells (Lib.itoa n)) rfl (by rw [Lib.byteCells_length]; omega) hcT (bytes_one _) ?c2 ?c3 ?c4 ?_)
    case c2 => unfold maxLen; omega
    case c3 => omega
    case c4 => have := B11.size; omega
    intro v12 W12 O12' G hx
    clear hx
    obtain ⟨O12, B12, N⟩ := own_next (ext := Lib.itoa n) rfl O12' O11 hbT G B11 B11.size
    obtain ⟨l12, hl12⟩ : ∃ l, l = l11 ++ Lib.itoa n := ⟨_, rfl⟩
    rw [← hl12] at O12 N
    have n12 : l12.length ≤ pl.length + 86 := by omega
    replace hl12 : Hid _ := hl12
    clear O11 B11 O12' G N
    clear hbT hcT O11x hszT hgb
    clear n11
    go_wp2_with (at_builtin; (refine wpList_append_own _ rfl (.tmp 84) (.tmp 85) 22 rfl w2.heap.size 5 i0 (.int .u8 0) 1 1 Ybad.underlying22 hi hz0 hz1 hz2 rfl (by decide) v12 (l12.length) (Lib.byteCells l12) rfl (by exact O12.alloc _) ⟨W12.heap.size, 0, none⟩ 1 1 (Lib.byteCells [32]) rfl rfl ?c1 (bytes_one _) ?c2 ?c3 ?c4 ?_))
    case c1 => first | exact (fun _ _ h => h) | exact cells_one _ _ _
    case c2 => unfold maxLen; omega
    case c3 => omega
    case c4 => have := B12.size; (try simp only [World.size_alloc]); omega
    intro v13 W13 O13' G hx
    clear hx
    obtain ⟨O13, B13, N⟩ := own_next (ext := [32]) rfl O13' O12 ((Below.refl _ _).alloc (Nat.le_refl _) _) G B12 B12.size
    obtain ⟨l13, hl13⟩ : ∃ l, l = l12 ++ [32] := ⟨_, rfl⟩
    rw [← hl13] at O13 N
    have n13 : l13.length ≤ pl.length + 87 := by omega
    replace hl13 : Hid _ := hl13
    clear O12 B12 O13' G N
    clear n12
    go_wp2_with (at_builtin; refine Lib.wpList_append_own_string _ rfl (.tmp 87) (.tmp 88) 22 9 rfl w2.heap.size 5 i0 Ybad.underlying22 Ybad.underlying9 hi hz0 hz1 hz2 v13 (l13.length) (Lib.byteCells l13) rfl O13 file rfl ?c2 ?c3 ?c4 ?_)
    case c2 => unfold maxLen; omega
    case c3 => omega
    case c4 => have := B13.size; (try simp only [World.size_alloc]); omega
    intro v14 W14 O14' G hx
    clear hx
    obtain ⟨O14, B14, N⟩ := own_next (ext := file.data.toList) rfl O14' O13 (Below.refl _ _) G B13 B13.size
    obtain ⟨l14, hl14⟩ : ∃ l, l = l13 ++ file.data.toList := ⟨_, rfl⟩
    rw [← hl14] at O14 N
    have n14 : l14.length ≤ pl.length + 87 + file.size := by omega
    replace hl14 : Hid _ := hl14
    clear O13 B13 O14' G N
    clear n13
    go_wp2_with (at_builtin; (refine wpList_append_own _ rfl (.tmp 90) (.tmp 91) 22 rfl w2.heap.size 5 i0 (.int .u8 0) 1 1 Ybad.underlying22 hi hz0 hz1 hz2 rfl (by decide) v14 (l14.length) (Lib.byteCells l14) rfl (by exact O14.alloc _) ⟨W14.heap.size, 0, none⟩ 1 1 (Lib.byteCells [10]) rfl rfl ?c1 (bytes_one _) ?c2 ?c3 ?c4 ?_))
    case c1 => first | exact (fun _ _ h => h) | exact cells_one _ _ _
    case c2 => unfold maxLen; omega
    case c3 => omega
    case c4 => have := B14.size; (try simp only [World.size_alloc]); omega
    intro v15 W15 O15' G hx
    clear hx
    obtain ⟨O15, B15, N⟩ := own_next (ext := [10]) rfl O15' O14 ((Below.refl _ _).alloc (Nat.le_refl _) _) G B14 B14.size
    obtain ⟨l15, hl15⟩ : ∃ l, l = l14 ++ [10] := ⟨_, rfl⟩
    rw [← hl15] at O15 N
    have n15 : l15.length ≤ pl.length + 88 + file.size := by omega
    replace hl15 : Hid _ := hl15
    clear O14 B14 O15' G N
    clear n14
    have hLl : l15 = L := by
      rw [HO.out.2.2, hl15.out, hl14.out, hl13.out, hl12.out, hl11.out, hl10.out, hl9.out, hl8.out, hl7.out, hl6.out, hl5.out]
      simp only [tail, List.append_assoc]
    clear hl15 hl14 hl13 hl12 hl11 hl10 hl9 hl8 hl7 hl6 hl5
    rw [hLl] at O15
    clear hLl n15 l15
    obtain ⟨gb, cb, rfl, hgb, hcb⟩ := own_slice O15 (by omega)
    have kB : ∀ i, i < L.length → W15.cell? ⟨gb, 0 + i, none⟩ = some (.int .u8 ((L.getD i 0).toNat : Int)) := fun i hi => by rw [Nat.zero_add]; exact own_cell O15 i hi
    have hownA := ownsRow_below HO.out.1 B15 (Nat.le_refl _)
    have kA : ∀ i, i < L.length → W15.cell? ⟨ga, 0 + i, none⟩ = some (.int .u8 ((L.getD i 0).toNat : Int)) := fun i hi => by rw [Nat.zero_add]; exact own_cell hownA i hi
    have HF : Below w.heap.size w W15 := HO.out.2.1.trans (B15.mono hz2w)
    replace HF : Hid _ := HF
    clear HO hownA O15 B15
    go_wp2_with fail
    refine (ceq_same _ _ _ L.length _ _ ga 0 gb 0 (fun i => ((L.getD i 0).toNat : Int)) (by omega) (fun _ => rfl) (fun _ => rfl) kA kB).mono ?_
    rintro e wz ⟨rfl, kk, rfl⟩
    clear kA kB
    go_wp2
    go_ret
    exact ⟨rfl, below_drewN HF.out _⟩
  · simp only [Option.isNone_some] at nq
    obtain ⟨hadw, hadc⟩ := hcell ad rfl
    go_enter Ybad.func3, Ybad.ntmps3
    go_wp2_with (first
      | (at_make; refine wpList_make_full _ rfl _ _ 22 rfl w.heap.size 5 i0 _ 1 Ybad.underlying22 hi hz0 hz1 _ _ _ _ np rfl rfl rfl rfl ?b1 ?b2 (Nat.le_refl _) ?_))
    case b1 => first | omega | (rw [hz2]; omega)
    case b2 => unfold maxLen; omega
    intro w1 hown1 hgrow1
    obtain ⟨cur, hcur, hcs⟩ : ∃ cur : List Value, w1.heap[w.heap.size]? = some (.cells cur.toArray 5 (0, 0)) ∧ cur.length = np := by
      rcases hown1.2 with ⟨hv, _⟩ | ⟨gg, cap, cu, hv, _, hh, _, _, hsz, _⟩
      · cases hv
      · cases hv
        exact ⟨cu.toList, by simpa using hh, by simpa using hsz⟩
    have hb1 : Below w.heap.size w w1 := (Below.refl _ _).grown hgrow1 (Nat.le_refl _) (by intro k hk; cases hk)
    have hadc1 : ∀ j u, (Lib.byteCells pl)[j]? = some u → w1.cell? (ad.add j) = some u := fun j u hj => (hb1.cell (by unfold Addr.add; split <;> exact hadw (by have := (List.getElem?_eq_some_iff.1 hj).1; rw [Lib.byteCells_length] at this; omega))).trans (hadc j u hj)
    have hsz5 : (Ybad.prog.info? 5).map (·.size) = some 1 := by rw [hi]; simp [hz1]
    clear hown1 hgrow1
    go_wp2_with (refine wpList_copy_splice rfl (.tmp 30) (.tmp 31) 22 22 rfl 5 Ybad.underlying22 hsz5 (some ⟨w.heap.size, 0, none⟩) (some ad) np np np cp rfl rfl w.heap.size 0 cur 5 hcur (Lib.byteCells pl) ?p1 ?p2 ?p3 (bytes_one _) w.heap.size w hb1 (Nat.le_refl _) ?_)
    case p1 => rw [Lib.byteCells_length, hpl]; simp
    case p2 => intro _; exact hadc1
    case p3 => rw [Lib.byteCells_length, hpl]; omega
    intro W0 HW hb0
    have hown0 : W0.ownsRow w.heap.size 5 1 (.slice (some ⟨w.heap.size, 0, none⟩) pl.length np) pl.length (Lib.byteCells pl) := by
      refine ⟨by rw [Lib.byteCells_length]; omega, .inr ⟨w.heap.size, np, _, by rw [hpl], Nat.le_refl _, HW.out, by omega, by unfold maxLen; omega, ?_, ?_⟩⟩
      · simp only [List.size_toArray]; rw [length_splice _ _ _ (by rw [Lib.byteCells_length]; omega)]; omega
      · simp only [splice, List.take_zero, List.nil_append]
        rw [List.take_left' (by rw [Lib.byteCells_length]; omega)]
    subst hpl
    clear HW hcur hb1 hadc1
    go_wp2_with fail
    have hW1 : Wr (W0.alloc (.cells #[.slice (some ⟨w.heap.size, 0, none⟩) pl.length pl.length, .int .u8 0, .int .u8 0, .int .u8 0, .int .u8 0, .int .u8 0, .int .u8 0, .int .u8 0, .int .u8 0, .int .u8 0, .int .u8 0, .int .u8 0, .int .u8 0, .int .u8 0, .int .u8 0, .int .u8 0, .int .u8 0, .int .u8 0, .int .u8 0, .int .u8 0, .int .u8 0] 26)) w.heap.size W0.heap.size pl := wr_new W0 w.heap.size (.slice (some ⟨w.heap.size, 0, none⟩) pl.length pl.length) pl _ rfl rfl hown0 hb0.size
    have hbA : Below w.heap.size w (W0.alloc (.cells #[.slice (some ⟨w.heap.size, 0, none⟩) pl.length pl.length, .int .u8 0, .int .u8 0, .int .u8 0, .int .u8 0, .int .u8 0, .int .u8 0, .int .u8 0, .int .u8 0, .int .u8 0, .int .u8 0, .int .u8 0, .int .u8 0, .int .u8 0, .int .u8 0, .int .u8 0, .int .u8 0, .int .u8 0, .int .u8 0, .int .u8 0, .int .u8 0] 26)) := hb0.alloc hb0.size _
    refine (go_any _ w.heap.size W0.heap.size pl file g s c n hg hs hc hn hW1 (by omega) (tb0.on' hbA)).mono ?_
    rintro e w1 ⟨rfl, W1, hb1⟩
    have hbw1 := hbA.trans hb1
    clear hW1 hbA hb1 hown0
    go_wp2_with fail
    refine (take_any w1 _ _ _ W1).mono ?_
    rintro e w2 ⟨v1, rfl, hown1, hb2⟩
    have hbw2 := hbw1.trans hb2
    clear W1 hbw1 hb2
    obtain ⟨L, hL⟩ : ∃ L, L = pl ++ [103, 111, 32] ++ tail g s c n file.data.toList := ⟨_, rfl⟩
    rw [← hL] at hown1
    have hLn : pl.length + 3 ≤ L.length := by rw [hL]; simp only [List.length_append, List.length_cons, List.length_nil]; omega
    have hLn2 : L.length ≤ 3000 := by rw [hL]; simp only [List.length_append, List.length_cons, List.length_nil]; omega
    obtain ⟨ga, ca, rfl, hga, hca⟩ := own_slice hown1 (by omega)
    have hz2w := hbw2.size
    have hgaw := (hown1.lt ga (by rfl)).2
    have HO := And.intro hown1 (And.intro hbw2 hL)
    replace HO : Hid _ := HO
    have hsrc : ∀ W, Below w2.heap.size w2 W → ∀ ad', (some ad : Option Addr) = some ad' → ∀ j u, (Lib.byteCells pl)[j]? = some u → W.cell? (ad'.add j) = some u := fun W hW ad' had' j u hj => by
      obtain ⟨h1, h2⟩ := hcell ad' had'
      exact ((hbw2.trans (hW.mono hz2w)).cell (by unfold Addr.add; split <;> exact h1 (by have := (List.getElem?_eq_some_iff.1 hj).1; rw [Lib.byteCells_length] at this; omega))).trans (h2 j u hj)
    clear hown1 hbw2 hL hT hfs
    go_wp2_with (at_make; refine wpList_make_own _ rfl _ _ 22 rfl w2.heap.size 5 i0 _ 1 Ybad.underlying22 hi hz0 hz1 _ _ _ (pl.length + file.size + 100) rfl rfl (by first | rfl | omega | (simp; omega)) ?q1 ?q2 (Nat.le_refl _) ?_)
    case q1 => first | omega | (rw [hz2]; omega)
    case q2 => unfold maxLen; omega
    intro w3 hown3 hgrow3
    have hb3 : Below w2.heap.size w2 w3 := (Below.refl _ _).grown hgrow3 (Nat.le_refl _) (by intro k hk; cases hk)
    have hsrc3 := hsrc w3 hb3
    clear hgrow3 hsrc
    go_wp2_with (at_builtin; refine wpList_append_fits_any _ rfl (.tmp 53) (.tmp 54) 22 rfl w2.heap.size 5 i0 1 Ybad.underlying22 hi hz1 w2.heap.size 0 _ [] rfl hown3 (some ad) (pl.length) (cp) (Lib.byteCells pl) rfl (by rw [Lib.byteCells_length]; omega) (by first | (intro _; exact ⟨rfl, rfl⟩) | (intro h; cases h)) hsrc3 (bytes_one _) (by omega) ?_)
    intro W4 O4 G4
    have B4 : Below w2.heap.size w2 W4 := hb3.grown G4 hb3.size (by intro k hk; simp at hk; omega)
    clear hb3 hown3 G4 hsrc3
    obtain ⟨v4, hv4⟩ : ∃ v, v = Value.slice (some ⟨w2.heap.size, 0, none⟩) (pl.length) (pl.length + file.size + 100) := ⟨_, rfl⟩
    replace hv4 : Hid _ := hv4
    go_wp2_with (at_builtin; (refine wpList_append_own _ rfl (.tmp 56) (.tmp 57) 22 rfl w2.heap.size 5 i0 (.int .u8 0) 1 1 Ybad.underlying22 hi hz0 hz1 hz2 rfl (by decide) _ (pl.length) (Lib.byteCells pl) rfl (by exact O4.alloc _) ⟨W4.heap.size, 0, none⟩ 3 3 (Lib.byteCells [103, 111, 32]) rfl rfl ?c1 (bytes_one _) ?c2 ?c3 ?c4 ?_))
    case c1 => first | exact (fun _ _ h => h) | exact cells_three _ _ _ _ _
    case c2 => unfold maxLen; omega
    case c3 => omega
    case c4 => have := B4.size; (try simp only [World.size_alloc]); omega
    intro v5 W5 O5' G hx
    clear hx
    obtain ⟨O5, B5, N⟩ := own_next (ext := [103, 111, 32]) rfl O5' O4 ((Below.refl _ _).alloc (Nat.le_refl _) _) G B4 B4.size
    obtain ⟨l5, hl5⟩ : ∃ l, l = pl ++ [103, 111, 32] := ⟨_, rfl⟩
    rw [← hl5] at O5 N
    have n5 : l5.length ≤ pl.length + 3 := by omega
    replace hl5 : Hid _ := hl5
    clear O4 B4 O5' G N
    clear hv4
    go_wp2_with fail
    refine (citoa_any g hg _).mono ?_
    rintro e X6 ⟨gb, rfl, hgb, hownT, hbT⟩
    have O5x := ownsRow_below O5 hbT (Nat.le_refl _)
    have hszT := hbT.size
    have hnT := hownT.1
    clear hnT
    have hcT : ∀ j u, (Lib.byteCells (Lib.itoa g))[j]? = some u → X6.cell? ((⟨gb, 0, none⟩ : Addr).add j) = some u := fun j u hj => own_cells hownT j u hj
    clear hownT
    go_wp2_with (at_builtin; refine wpList_append_own _ rfl (.tmp 59) (.tmp 61) 22 rfl w2.heap.size 5 i0 (.int .u8 0) 1 1 Ybad.underlying22 hi hz0 hz1 hz2 rfl (by decide) v5 (l5.length) (Lib.byteCells l5) rfl O5x ⟨gb, 0, none⟩ (Lib.itoa g).length 21 (Lib.byteCells (Lib.itoa g)) rfl (by rw [Lib.byteCells_length]; omega) hcT (bytes_one _) ?c2 ?c3 ?c4 ?_)
    case c2 => unfold maxLen; omega
    case c3 => omega
    case c4 => have := B5.size; omega
    intro v6 W6 O6' G hx
    clear hx
    obtain ⟨O6, B6, N⟩ := own_next (ext := Lib.itoa g) rfl O6' O5 hbT G B5 B5.size
    obtain ⟨l6, hl6⟩ : ∃ l, l = l5 ++ Lib.itoa g := ⟨_, rfl⟩
    rw [← hl6] at O6 N
    have n6 : l6.length ≤ pl.length + 23 := by omega
    replace hl6 : Hid _ := hl6
    clear O5 B5 O6' G N
    clear hbT hcT O5x hszT hgb
    clear n5
    go_wp2_with (at_builtin; (refine wpList_append_own _ rfl (.tmp 63) (.tmp 64) 22 rfl w2.heap.size 5 i0 (.int .u8 0) 1 1 Ybad.underlying22 hi hz0 hz1 hz2 rfl (by decide) v6 (l6.length) (Lib.byteCells l6) rfl (by exact O6.alloc _) ⟨W6.heap.size, 0, none⟩ 1 1 (Lib.byteCells [32]) rfl rfl ?c1 (bytes_one _) ?c2 ?c3 ?c4 ?_))
    case c1 => first | exact (fun _ _ h => h) | exact cells_one _ _ _
    case c2 => unfold maxLen; omega
    case c3 => omega
    case c4 => have := B6.size; (try simp only [World.size_alloc]); omega
    intro v7 W7 O7' G hx
    clear hx
    obtain ⟨O7, B7, N⟩ := own_next (ext := [32]) rfl O7' O6 ((Below.refl _ _).alloc (Nat.le_refl _) _) G B6 B6.size
    obtain ⟨l7, hl7⟩ : ∃ l, l = l6 ++ [32] := ⟨_, rfl⟩
    rw [← hl7] at O7 N
    have n7 : l7.length ≤ pl.length + 24 := by omega
    replace hl7 : Hid _ := hl7
    clear O6 B6 O7' G N
    clear n6
    go_wp2_with fail
    refine (citoa_any s hs _).mono ?_
    rintro e X8 ⟨gb, rfl, hgb, hownT, hbT⟩
    have O7x := ownsRow_below O7 hbT (Nat.le_refl _)
    have hszT := hbT.size
    have hnT := hownT.1
    clear hnT
    have hcT : ∀ j u, (Lib.byteCells (Lib.itoa s))[j]? = some u → X8.cell? ((⟨gb, 0, none⟩ : Addr).add j) = some u := fun j u hj => own_cells hownT j u hj
    clear hownT
    go_wp2_with (at_builtin; refine wpList_append_own _ rfl (.tmp 66) (.tmp 68) 22 rfl w2.heap.size 5 i0 (.int .u8 0) 1 1 Ybad.underlying22 hi hz0 hz1 hz2 rfl (by decide) v7 (l7.length) (Lib.byteCells l7) rfl O7x ⟨gb, 0, none⟩ (Lib.itoa s).length 21 (Lib.byteCells (Lib.itoa s)) rfl (by rw [Lib.byteCells_length]; omega) hcT (bytes_one _) ?c2 ?c3 ?c4 ?_)
    case c2 => unfold maxLen; omega
    case c3 => omega
    case c4 => have := B7.size; omega
    intro v8 W8 O8' G hx
    clear hx
    obtain ⟨O8, B8, N⟩ := own_next (ext := Lib.itoa s) rfl O8' O7 hbT G B7 B7.size
    obtain ⟨l8, hl8⟩ : ∃ l, l = l7 ++ Lib.itoa s := ⟨_, rfl⟩
    rw [← hl8] at O8 N
    have n8 : l8.length ≤ pl.length + 44 := by omega
    replace hl8 : Hid _ := hl8
    clear O7 B7 O8' G N
    clear hbT hcT O7x hszT hgb
    clear n7
    go_wp2_with (at_builtin; (refine wpList_append_own _ rfl (.tmp 70) (.tmp 71) 22 rfl w2.heap.size 5 i0 (.int .u8 0) 1 1 Ybad.underlying22 hi hz0 hz1 hz2 rfl (by decide) v8 (l8.length) (Lib.byteCells l8) rfl (by exact O8.alloc _) ⟨W8.heap.size, 0, none⟩ 1 1 (Lib.byteCells [32]) rfl rfl ?c1 (bytes_one _) ?c2 ?c3 ?c4 ?_))
    case c1 => first | exact (fun _ _ h => h) | exact cells_one _ _ _
    case c2 => unfold maxLen; omega
    case c3 => omega
    case c4 => have := B8.size; (try simp only [World.size_alloc]); omega
    intro v9 W9 O9' G hx
    clear hx
    obtain ⟨O9, B9, N⟩ := own_next (ext := [32]) rfl O9' O8 ((Below.refl _ _).alloc (Nat.le_refl _) _) G B8 B8.size
    obtain ⟨l9, hl9⟩ : ∃ l, l = l8 ++ [32] := ⟨_, rfl⟩
    rw [← hl9] at O9 N
    have n9 : l9.length ≤ pl.length + 45 := by omega
    replace hl9 : Hid _ := hl9
    clear O8 B8 O9' G N
    clear n8
    go_wp2_with fail
    refine (citoa_any c hc _).mono ?_
    rintro e X10 ⟨gb, rfl, hgb, hownT, hbT⟩
    have O9x := ownsRow_below O9 hbT (Nat.le_refl _)
    have hszT := hbT.size
    have hnT := hownT.1
    clear hnT
    have hcT : ∀ j u, (Lib.byteCells (Lib.itoa c))[j]? = some u → X10.cell? ((⟨gb, 0, none⟩ : Addr).add j) = some u := fun j u hj => own_cells hownT j u hj
    clear hownT
    go_wp2_with (at_builtin; refine wpList_append_own _ rfl (.tmp 73) (.tmp 75) 22 rfl w2.heap.size 5 i0 (.int .u8 0) 1 1 Ybad.underlying22 hi hz0 hz1 hz2 rfl (by decide) v9 (l9.length) (Lib.byteCells l9) rfl O9x ⟨gb, 0, none⟩ (Lib.itoa c).length 21 (Lib.byteCells (Lib.itoa c)) rfl (by rw [Lib.byteCells_length]; omega) hcT (bytes_one _) ?c2 ?c3 ?c4 ?_)
    case c2 => unfold maxLen; omega
    case c3 => omega
    case c4 => have := B9.size; omega
    intro v10 W10 O10' G hx
    clear hx
    obtain ⟨O10, B10, N⟩ := own_next (ext := Lib.itoa c) rfl O10' O9 hbT G B9 B9.size
    obtain ⟨l10, hl10⟩ : ∃ l, l = l9 ++ Lib.itoa c := ⟨_, rfl⟩
    rw [← hl10] at O10 N
    have n10 : l10.length ≤ pl.length + 65 := by omega
    replace hl10 : Hid _ := hl10
    clear O9 B9 O10' G N
    clear hbT hcT O9x hszT hgb
    clear n9
    go_wp2_with (at_builtin; (refine wpList_append_own _ rfl (.tmp 77) (.tmp 78) 22 rfl w2.heap.size 5 i0 (.int .u8 0) 1 1 Ybad.underlying22 hi hz0 hz1 hz2 rfl (by decide) v10 (l10.length) (Lib.byteCells l10) rfl (by exact O10.alloc _) ⟨W10.heap.size, 0, none⟩ 1 1 (Lib.byteCells [32]) rfl rfl ?c1 (bytes_one _) ?c2 ?c3 ?c4 ?_))
    case c1 => first | exact (fun _ _ h => h) | exact cells_one _ _ _
    case c2 => unfold maxLen; omega
    case c3 => omega
    case c4 => have := B10.size; (try simp only [World.size_alloc]); omega
    intro v11 W11 O11' G hx
    clear hx
    obtain ⟨O11, B11, N⟩ := own_next (ext := [32]) rfl O11' O10 ((Below.refl _ _).alloc (Nat.le_refl _) _) G B10 B10.size
    obtain ⟨l11, hl11⟩ : ∃ l, l = l10 ++ [32] := ⟨_, rfl⟩
    rw [← hl11] at O11 N
    have n11 : l11.length ≤ pl.length + 66 := by omega
    replace hl11 : Hid _ := hl11
    clear O10 B10 O11' G N
    clear n10
    go_wp2_with fail
    refine (citoa_any n hn _).mono ?_
    rintro e X12 ⟨gb, rfl, hgb, hownT, hbT⟩
    have O11x := ownsRow_below O11 hbT (Nat.le_refl _)
    have hszT := hbT.size
    have hnT := hownT.1
    clear hnT
    have hcT : ∀ j u, (Lib.byteCells (Lib.itoa n))[j]? = some u → X12.cell? ((⟨gb, 0, none⟩ : Addr).add j) = some u := fun j u hj => own_cells hownT j u hj
    clear hownT
    go_wp2_with (at_builtin; refine wpList_append_own _ rfl (.tmp 80) (.tmp 82) 22 rfl w2.heap.size 5 i0 (.int .u8 0) 1 1 Ybad.underlying22 hi hz0 hz1 hz2 rfl (by decide) v11 (l11.length) (Lib.byteCells l11) rfl O11x ⟨gb, 0, none⟩ (Lib.itoa n).length 21 (Lib.byteCells (Lib.itoa n)) rfl (by rw [Lib.byteCells_length]; omega) hcT (bytes_one _) ?c2 ?c3 ?c4 ?_)
    case c2 => unfold maxLen; omega
    case c3 => omega
    case c4 => have := B11.size; omega
    intro v12 W12 O12' G hx
    clear hx
    obtain ⟨O12, B12, N⟩ := own_next (ext := Lib.itoa n) rfl O12' O11 hbT G B11 B11.size
    obtain ⟨l12, hl12⟩ : ∃ l, l = l11 ++ Lib.itoa n := ⟨_, rfl⟩
    rw [← hl12] at O12 N
    have n12 : l12.length ≤ pl.length + 86 := by omega
    replace hl12 : Hid _ := hl12
    clear O11 B11 O12' G N
    clear hbT hcT O11x hszT hgb
    clear n11
    go_wp2_with (at_builtin; (refine wpList_append_own _ rfl (.tmp 84) (.tmp 85) 22 rfl w2.heap.size 5 i0 (.int .u8 0) 1 1 Ybad.underlying22 hi hz0 hz1 hz2 rfl (by decide) v12 (l12.length) (Lib.byteCells l12) rfl (by exact O12.alloc _) ⟨W12.heap.size, 0, none⟩ 1 1 (Lib.byteCells [32]) rfl rfl ?c1 (bytes_one _) ?c2 ?c3 ?c4 ?_))
    case c1 => first | exact (fun _ _ h => h) | exact cells_one _ _ _
    case c2 => unfold maxLen; omega
    case c3 => omega
    case c4 => have := B12.size; (try simp only [World.size_alloc]); omega
    intro v13 W13 O13' G hx
    clear hx
    obtain ⟨O13, B13, N⟩ := own_next (ext := [32]) rfl O13' O12 ((Below.refl _ _).alloc (Nat.le_refl _) _) G B12 B12.size
    obtain ⟨l13, hl13⟩ : ∃ l, l = l12 ++ [32] := ⟨_, rfl⟩
    rw [← hl13] at O13 N
    have n13 : l13.length ≤ pl.length + 87 := by omega
    replace hl13 : Hid _ := hl13
    clear O12 B12 O13' G N
    clear n12
    go_wp2_with (at_builtin; refine Lib.wpList_append_own_string _ rfl (.tmp 87) (.tmp 88) 22 9 rfl w2.heap.size 5 i0 Ybad.underlying22 Ybad.underlying9 hi hz0 hz1 hz2 v13 (l13.length) (Lib.byteCells l13) rfl O13 file rfl ?c2 ?c3 ?c4 ?_)
    case c2 => unfold maxLen; omega
    case c3 => omega
    case c4 => have := B13.size; (try simp only [World.size_alloc]); omega
    intro v14 W14 O14' G hx
    clear hx
    obtain ⟨O14, B14, N⟩ := own_next (ext := file.data.toList) rfl O14' O13 (Below.refl _ _) G B13 B13.size
    obtain ⟨l14, hl14⟩ : ∃ l, l = l13 ++ file.data.toList := ⟨_, rfl⟩
    rw [← hl14] at O14 N
    have n14 : l14.length ≤ pl.length + 87 + file.size := by omega
    replace hl14 : Hid _ := hl14
    clear O13 B13 O14' G N
    clear n13
    go_wp2_with (at_builtin; (refine wpList_append_own _ rfl (.tmp 90) (.tmp 91) 22 rfl w2.heap.size 5 i0 (.int .u8 0) 1 1 Ybad.underlying22 hi hz0 hz1 hz2 rfl (by decide) v14 (l14.length) (Lib.byteCells l14) rfl (by exact O14.alloc _) ⟨W14.heap.size, 0, none⟩ 1 1 (Lib.byteCells [10]) rfl rfl ?c1 (bytes_one _) ?c2 ?c3 ?c4 ?_))
    case c1 => first | exact (fun _ _ h => h) | exact cells_one _ _ _
    case c2 => unfold maxLen; omega
    case c3 => omega
    case c4 => have := B14.size; (try simp only [World.size_alloc]); omega
    intro v15 W15 O15' G hx
    clear hx
    obtain ⟨O15, B15, N⟩ := own_next (ext := [10]) rfl O15' O14 ((Below.refl _ _).alloc (Nat.le_refl _) _) G B14 B14.size
    obtain ⟨l15, hl15⟩ : ∃ l, l = l14 ++ [10] := ⟨_, rfl⟩
    rw [← hl15] at O15 N
    have n15 : l15.length ≤ pl.length + 88 + file.size := by omega
    replace hl15 : Hid _ := hl15
    clear O14 B14 O15' G N
    clear n14
    have hLl : l15 = L := by
      rw [HO.out.2.2, hl15.out, hl14.out, hl13.out, hl12.out, hl11.out, hl10.out, hl9.out, hl8.out, hl7.out, hl6.out, hl5.out]
      simp only [tail, List.append_assoc]
    clear hl15 hl14 hl13 hl12 hl11 hl10 hl9 hl8 hl7 hl6 hl5
    rw [hLl] at O15
    clear hLl n15 l15
    obtain ⟨gb, cb, rfl, hgb, hcb⟩ := own_slice O15 (by omega)
    have kB : ∀ i, i < L.length → W15.cell? ⟨gb, 0 + i, none⟩ = some (.int .u8 ((L.getD i 0).toNat : Int)) := fun i hi => by rw [Nat.zero_add]; exact own_cell O15 i hi
    have hownA := ownsRow_below HO.out.1 B15 (Nat.le_refl _)
    have kA : ∀ i, i < L.length → W15.cell? ⟨ga, 0 + i, none⟩ = some (.int .u8 ((L.getD i 0).toNat : Int)) := fun i hi => by rw [Nat.zero_add]; exact own_cell hownA i hi
    have HF : Below w.heap.size w W15 := HO.out.2.1.trans (B15.mono hz2w)
    replace HF : Hid _ := HF
    clear HO hownA O15 B15
    go_wp2_with fail
    refine (ceq_same _ _ _ L.length _ _ ga 0 gb 0 (fun i => ((L.getD i 0).toNat : Int)) (by omega) (fun _ => rfl) (fun _ => rfl) kA kB).mono ?_
    rintro e wz ⟨rfl, kk, rfl⟩
    clear kA kB
    go_wp2
    go_ret
    exact ⟨rfl, below_drewN HF.out _⟩
end Go.Proofs.YbulkbeysDoor
