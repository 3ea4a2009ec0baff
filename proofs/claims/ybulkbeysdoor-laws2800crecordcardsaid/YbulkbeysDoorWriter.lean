/- The Writer: what it holds; its methods word and int. -/
import Derived.Test.YbulkbeysDoorAppend
import Derived.Deep.RegionHeld3
import Derived.Deep.AppendLies
namespace Go.Proofs.YbulkbeysDoor
open Go.RowKit

/-- Whatever is no row of bytes, and is not the writer's own block, lies as it lay. -/
def Fr (bw : Nat) (w w' : World) : Prop := ∀ k c e f, w.heap[k]? = some (.cells c e f) → e ≠ 5 → k ≠ bw → w'.heap[k]? = some (.cells c e f)

theorem Fr.refl (bw : Nat) (w : World) : Fr bw w w := fun _ _ _ _ h _ _ => h
theorem Fr.trans {bw : Nat} {a b c : World} (h : Fr bw a b) (g : Fr bw b c) : Fr bw a c := fun k x e f hk he hb => g k x e f (h k x e f hk he hb) he hb
theorem Fr.alloc {bw : Nat} {a w : World} (h : Fr bw a w) (o : Obj) : Fr bw a (w.alloc o) := fun k x e f hk he hb => by
  have := h k x e f hk he hb
  rw [Below.heap_alloc _ _ _ (lt_of_block this)]; exact this
theorem Fr.setCell {bw : Nat} {a w : World} (h : Fr bw a w) (o : Nat) (v : Value) : Fr bw a (w.setCell ⟨bw, o, none⟩ v) := fun k x e f hk he hb => by
  rw [Below.heap_setCell _ _ _ _ hb]; exact h k x e f hk he hb
theorem Fr.grown {bw B n : Nat} {a w w' : World} {v : Value} {xs : List Value} (h : Fr bw a w) (hown : w.ownsRow B 5 1 v n xs) (hg : w.grownBy w' v.ownBlock) : Fr bw a w' := fun k x e f hk he hb => by
  have h1 := h k x e f hk he hb
  rw [hg.block k (lt_of_block h1) (fun h2 => ?_)]
  · exact h1
  · rcases hown.2 with ⟨hv, _⟩ | ⟨g, cap, cur, hv, _, hh, _⟩
    · rw [hv] at h2; cases h2
    · rw [hv] at h2
      simp only [Value.ownBlock, Option.some.injEq] at h2
      subst h2
      rw [h1] at hh
      simp only [Option.some.injEq, Obj.cells.injEq] at hh
      exact he hh.2.1
theorem Fr.of_kept {bw : Nat} {a w : World} (h : Kept (fun b => b = bw) a w) : Fr bw a w := fun k _ _ _ hk _ hb => (h.block k (lt_of_block hk) hb).trans hk

/-- THE WRITER at block bw holds the bytes l, in a row of the call's own from block B on -/
def Wr (w : World) (B bw : Nat) (l : List UInt8) : Prop :=
  ∃ (v : Value) (cur : Array Value), w.heap[bw]? = some (.cells cur 26 (0, 0)) ∧ cur.size = 21 ∧ cur[0]? = some v ∧ w.ownsRow B 5 1 v l.length (Lib.byteCells l) ∧ B ≤ bw

theorem own_ne {w : World} {B bw n : Nat} {v : Value} {xs : List Value} {cur : Array Value} (hown : w.ownsRow B 5 1 v n xs) (hg : w.heap[bw]? = some (.cells cur 26 (0, 0))) : v.ownBlock ≠ some bw := by
  intro h
  rcases hown.2 with ⟨hv, _⟩ | ⟨g, cap, c, hv, _, hh, _⟩
  · rw [hv] at h; cases h
  · rw [hv] at h
    simp [Value.ownBlock] at h
    subst h
    rw [hg] at hh
    simp at hh

theorem own_form {w : World} {B n : Nat} {v : Value} {xs : List Value} (hown : w.ownsRow B 5 1 v n xs) : ∃ A c, v = .slice A n c := by
  rcases hown.2 with ⟨hv, h0⟩ | ⟨g, cap, cur, hv, _⟩
  · exact ⟨none, 0, by rw [hv, h0]⟩
  · exact ⟨_, _, hv⟩

theorem wr_put {w1 : World} {B bw : Nat} {v1 : Value} {l : List UInt8} {cur : Array Value} (hb : w1.heap[bw]? = some (.cells cur 26 (0, 0))) (hs : cur.size = 21) (hown : w1.ownsRow B 5 1 v1 l.length (Lib.byteCells l)) (hB : B ≤ bw) :
    Wr (w1.setCell ⟨bw, 0, none⟩ v1) B bw l :=
  ⟨v1, _, heap_setCell_at v1 hb, by simpa using hs, by rw [Array.getElem?_setIfInBounds, if_pos rfl, if_pos (by omega)], ownsRow_setCell_other hown (own_ne hown hb) v1, hB⟩

theorem cell_one_at (X : World) (v : Value) (t : TypeId) (n : Nat) (h : n = X.heap.size) : ∀ j u, [v][j]? = some u → (X.alloc (.cells #[v] t)).cell? ((⟨n, 0, none⟩ : Addr).add j) = some u := by
  subst h; exact cell_one_new _ _ _

/-- THE TRAILING BYTE: behind a store of the buffer's value (n1 bytes l1) and the append of one byte more -/
theorem byte_fin {w w1 w3 : World} {B bw n1 c1 : Nat} {A1 : Option Addr} {l1 : List UInt8} {cur : Array Value} {o : Obj} {v3 : Value} (b : UInt8) (hg1 : w1.heap[bw]? = some (.cells cur 26 (0, 0))) (hs : cur.size = 21)
    (hown1 : w1.ownsRow B 5 1 (.slice A1 n1 c1) n1 (Lib.byteCells l1)) (hB : B ≤ bw) (hb1 : Below B w w1) (hf1 : Fr bw w w1)
    (hown3 : w3.ownsRow B 5 1 v3 (n1 + 1) (Lib.byteCells l1 ++ [.int .u8 b.toNat])) (hgrow3 : ((w1.setCell ⟨bw, 0, none⟩ (.slice A1 n1 c1)).alloc o).grownBy w3 (Value.slice A1 n1 c1).ownBlock) :
    (∃ x, w3.cell? ⟨bw, 0, none⟩ = some x) ∧ w3.frozen? ⟨bw, 0, none⟩ = false ∧ Wr (w3.setCell ⟨bw, 0, none⟩ v3) B bw (l1 ++ [b]) ∧ Below B w (w3.setCell ⟨bw, 0, none⟩ v3) ∧ Fr bw w (w3.setCell ⟨bw, 0, none⟩ v3) := by
  have lw := lt_of_block hg1
  have hne := own_ne hown1 hg1
  have hg2 := heap_setCell_at (o := 0) (.slice A1 n1 c1) hg1
  have hg3 : w3.heap[bw]? = _ := (hgrow3.block bw (by simp [World.setCell]; omega) (fun h => hne h.symm)).trans ((Below.heap_alloc _ _ _ (by simpa [World.setCell] using lw)).trans hg2)
  have hlen : n1 = l1.length := by have := hown1.1; rw [Lib.byteCells_length] at this; omega
  have hown3' : w3.ownsRow B 5 1 v3 (l1 ++ [b]).length (Lib.byteCells (l1 ++ [b])) := by
    rw [Lib.byteCells_append, List.length_append, ← hlen]
    exact hown3
  have hb3 : Below B w w3 := ((hb1.setCell (p := ⟨bw, 0, none⟩) hB _).alloc (by simp [World.setCell]; omega) o).grown hgrow3 (by simp [World.setCell]; omega) (fun k hk => (hown1.lt k hk).1)
  exact ⟨⟨_, cellB hg3 (Array.getElem?_eq_getElem (by simp; omega))⟩, freeB hg3, wr_put hg3 (by simpa using hs) hown3' hB, hb3.setCell (p := ⟨bw, 0, none⟩) hB _,
    (((hf1.setCell 0 _).alloc o).grown ((ownsRow_setCell_other (a := ⟨bw, 0, none⟩) hown1 hne _).alloc o) hgrow3).setCell 0 _⟩

theorem word_any (w : World) (B bw : Nat) (l : List UInt8) (s : ByteArray) (hW : Wr w B bw l) (hlim : l.length + s.size ≤ 1000000) :
    Calls Ybad.prog 10 #[.pointer (some ⟨bw, 0, none⟩), .string s] w fun e w' => e = .returned (.tuple #[]) ∧ Wr w' B bw (l ++ s.data.toList ++ [32]) ∧ Below B w w' ∧ Fr bw w w' := by
  obtain ⟨v, cur, hg, hsz, hv, hown, hB⟩ := hW
  obtain ⟨i0, hi, hz0, hz1, hz2⟩ := info_parts info5
  have lw := lt_of_block hg
  have c0 : w.cell? ⟨bw, 0, none⟩ = some v := cellB hg hv
  have hne := own_ne hown hg
  obtain ⟨A, c, hvf⟩ := own_form hown
  subst hvf
  have HG : Hid _ := hg
  clear hg hv
  go_enter Ybad.func10, Ybad.ntmps10
  go_wp2_with (at_builtin; refine Lib.wpList_append_own_string _ rfl _ _ 22 9 rfl B 5 i0 Ybad.underlying22 Ybad.underlying9 hi hz0 hz1 hz2 _ _ _ rfl hown s rfl (by unfold maxLen; omega) (by omega) (by omega) ?_)
  intro v1 w1 hown1 hgrow1 _
  have hg1 : w1.heap[bw]? = some (.cells cur 26 (0, 0)) := (hgrow1.block _ lw (fun h => hne h.symm)).trans HG.out
  have hb1 : Below B w w1 := (Below.refl _ _).grown hgrow1 (by omega) (fun k hk => (hown.lt k hk).1)
  have hf1 : Fr bw w w1 := (Fr.refl bw w).grown hown hgrow1
  obtain ⟨A1, c1, hv1⟩ := own_form hown1
  subst hv1
  have e0 : w1.cell? ⟨bw, 0, none⟩ = some (cur[0]'(by omega)) := cellB hg1 (Array.getElem?_eq_getElem _)
  have e1 : w1.frozen? ⟨bw, 0, none⟩ = false := freeB hg1
  have hown1' : w1.ownsRow B 5 1 (.slice A1 (l.length + s.size) c1) (l.length + s.size) (Lib.byteCells (l ++ s.data.toList)) := by
    rw [Lib.byteCells_append]
    exact hown1
  have hown2 := ownsRow_setCell_other (a := ⟨bw, 0, none⟩) hown1' (own_ne hown1' hg1) (.slice A1 (l.length + s.size) c1)
  have hlw : bw < w1.heap.size := lt_of_block hg1
  have HW := fun (o : Obj) (v3 : Value) (w3 : World) => byte_fin (w := w) (w1 := w1) (w3 := w3) (o := o) (v3 := v3) 32 hg1 hsz hown1' hB hb1 hf1
  replace HW : Hid _ := HW
  clear hown1' hown1 hgrow1 hown hg1 hb1 hf1
  go_wp2_with (at_builtin; refine wpList_append_own _ rfl (.tmp 17) (.tmp 18) 22 rfl B 5 i0 (.int .u8 0) 1 1 Ybad.underlying22 hi hz0 hz1 hz2 rfl (by decide) _ _ _ rfl (hown2.alloc _) ⟨w1.heap.size, 0, none⟩ 1 1 [.int .u8 32] rfl rfl ?d1 ?d2 ?d3 ?d4 ?d5 ?_)
  case d1 => exact cell_one_at _ _ _ _ (by simp [World.setCell])
  case d2 => intro u hu; simp at hu; subst hu; rfl
  case d3 => unfold maxLen; omega
  case d4 => omega
  case d5 => simp [World.setCell]; omega
  intro v3 w3 hown3 hgrow3 _
  obtain ⟨A3, c3, hv3⟩ := own_form hown3
  subst hv3
  obtain ⟨⟨x, e2⟩, e3, W3, hb3, hf3⟩ := HW.out _ _ _ hown3 hgrow3
  have HF := And.intro W3 (And.intro hb3 hf3)
  replace HF : Hid _ := HF
  clear hown3 hgrow3 W3 hb3 hf3 HW hown2
  go_wp2
  go_end0
  exact ⟨rfl, HF.out.1, HF.out.2.1, HF.out.2.2⟩

theorem NumAt.news {w' : World} {bw : Nat} {cur : Array Value} {l : List UInt8} (h : NumAt w' bw cur l) : ∀ j u, (Lib.byteCells l)[j]? = some u → w'.cell? ((⟨bw, 1, none⟩ : Addr).add j) = some u := by
  obtain ⟨cur', hc1, _, _, hc4⟩ := h
  intro j u hj
  have hjl : j < l.length := by
    have h5 := (List.getElem?_eq_some_iff.1 hj).1
    rwa [Lib.byteCells_length] at h5
  rw [Addr.add_lit]
  exact cellB hc1 ((hc4 j hjl).trans hj)

theorem far_cell {w1 w2 : World} {bw : Nat} {row : Option Nat} {cur : Array Value} {l : List UInt8} (hg : w1.grownBy w2 row) (hne : row ≠ some bw) (h : NumAt w1 bw cur l) : ∃ x, w2.cell? ⟨bw, 0, none⟩ = some x ∧ w2.frozen? ⟨bw, 0, none⟩ = false := by
  obtain ⟨cur', hc1, hc2, _, _⟩ := h
  have h2 := (hg.block bw (lt_of_block hc1) (fun e => hne e.symm)).trans hc1
  exact ⟨_, cellB h2 (Array.getElem?_eq_getElem (by omega)), freeB h2⟩

theorem itoa_pos (i : Int) : 0 < (Lib.itoa i).length := by
  unfold Lib.itoa
  split
  · simp
  · rw [Lib.decDigits_length]; exact Lib.nDigits_pos _

theorem itoa_le (i : Int) (h0 : -9223372036854775808 ≤ i) (h1 : i ≤ 9223372036854775807) : (Lib.itoa i).length ≤ 20 := by
  unfold Lib.itoa
  split
  · have := digits19 i.natAbs (by omega); simp; omega
  · have := digits19 i.toNat (by omega); omega

theorem bytes_mem (l : List UInt8) : ∀ u ∈ Lib.byteCells l, u.oneCell' = true := bytes_one l

set_option maxHeartbeats 1600000 in
set_option maxRecDepth 100000 in
theorem int_any (w : World) (B bw : Nat) (l : List UInt8) (i : Int) (h0 : -9223372036854775808 ≤ i) (h1 : i ≤ 9223372036854775807) (hW : Wr w B bw l) (hlim : l.length ≤ 1000000) (htb : Tb B w) :
    Calls Ybad.prog 11 #[.pointer (some ⟨bw, 0, none⟩), .int .i64 i] w fun e w' => e = .returned (.tuple #[]) ∧ Wr w' B bw (l ++ Lib.itoa i ++ [32]) ∧ Below B w w' ∧ Fr bw w w' := by
  obtain ⟨v, cur, hg, hsz, hv, hown, hB⟩ := hW
  obtain ⟨i0, hi, hz0, hz1, hz2⟩ := info_parts info5
  have lw := lt_of_block hg
  have c0 : w.cell? ⟨bw, 0, none⟩ = some v := cellB hg hv
  have hne := own_ne hown hg
  have hpos := itoa_pos i
  have hle := itoa_le i h0 h1
  obtain ⟨A, c, hvf⟩ := own_form hown
  subst hvf
  have call : ∀ W : World, W.heap = w.heap → W.os = w.os → W.tape = w.tape → W.output = w.output → Calls Ybad.prog 13 #[.slice (some ⟨bw, 1, none⟩) 0 20, .int .i64 i, .int .i64 10] W fun e w' =>
      e = .returned (.slice (some ⟨bw, 1, none⟩) (Lib.itoa i).length 20) ∧ w'.cell? ⟨bw, 0, none⟩ = some (.slice A l.length c) ∧ NumAt w' bw cur (Lib.itoa i) ∧ w'.ownsRow B 5 1 (.slice A l.length c) l.length (Lib.byteCells l) ∧ Kept (fun b => b = bw) w w' := by
    intro W e1 e2 e3 e4
    have hbW : Below B w W := ⟨e2, e3, e4, by rw [e1]; exact Nat.le_refl _, fun k _ => by rw [e1]⟩
    refine (appendInt_any B W bw i h0 h1 cur (by rw [e1]; exact hg) hsz hB (htb.on hbW)).mono ?_
    rintro e w' ⟨rfl, hN, hk⟩
    have hk' : Kept (fun b => b = bw) w w' := ⟨hk.os.trans e2, hk.tape.trans e3, hk.output.trans e4, by rw [← e1]; exact hk.size, fun k hkk hn => by rw [← e1]; exact hk.block k (by rw [e1]; exact hkk) hn⟩
    refine ⟨rfl, ?_, hN, ?_, hk'⟩
    · obtain ⟨cur', hc1, _, hc3, _⟩ := hN
      exact cellB hc1 (hc3.trans hv)
    · obtain ⟨q1, q2⟩ := hown
      refine ⟨q1, ?_⟩
      rcases q2 with q2 | ⟨g, cap, cu, hv', hgg, hh, r⟩
      · exact Or.inl q2
      · exact Or.inr ⟨g, cap, cu, hv', hgg, (hk'.block g (lt_of_block hh) (fun e => hne (by rw [hv', e]; rfl))).trans hh, r⟩
  have HG : Hid _ := hg
  clear hg hv hown
  go_enter Ybad.func11, Ybad.ntmps11
  go_wp2_with fail
  go_region_law
    (first
      | (refine step_call rfl 13 _ _ rfl Ybad.f13 _ Ybad.func13 (by kernel_rfl) rfl #[.slice (some ⟨bw, 1, none⟩) 0 20, .int .i64 i, .int .i64 10] (by simp [Act.eval, Act.put]) ?_; refine (call _ (by exact rfl) (by exact rfl) (by exact rfl) (by exact rfl)).mono ?_; rintro e w1 ⟨rfl, hc1, hN, hown1, hk1⟩; have hnews := hN.news; have hs1 := hk1.size; refine ⟨_, rfl, ?_⟩)
      | (refine step_append_lies _ (by rfl) _ _ _ (by rfl) B 5 i0 _ 1 1 Ybad.underlying22 hi hz0 hz1 hz2 rfl (by omega) _ l.length (Lib.byteCells l) (by rfl) hown1 ⟨bw, 1, none⟩ (Lib.itoa i).length 20 (Lib.byteCells (Lib.itoa i)) (by rfl) (by rw [Lib.byteCells_length, Nat.mul_one]) hnews (bytes_mem _) hpos (by unfold maxLen; omega) (by omega) (by omega) w1.heap.size rfl ?_; intro g2 c2 w2 hown2 hgrow2 hat2 hlt2; obtain ⟨x2, f2, z2⟩ := far_cell hgrow2 hne hN))
  all_goals
    obtain ⟨cur', hg1, hsz1, _, _⟩ := hN
    have hg2 : w2.heap[bw]? = some (.cells cur' 26 (0, 0)) := (hgrow2.block _ (lt_of_block hg1) (fun h => hne h.symm)).trans hg1
    have hb2 : Below B w w2 := (hk1.below (by omega) (fun k hk => by omega)).grown hgrow2 (by omega) (fun k hk => (hown1.lt k hk).1)
    have hown2' : w2.ownsRow B 5 1 (.slice (some ⟨g2, 0, none⟩) (l.length + (Lib.itoa i).length) c2) (l.length + (Lib.itoa i).length) (Lib.byteCells (l ++ Lib.itoa i)) := by
      rw [Lib.byteCells_append]; exact hown2
    have hown3 := ownsRow_setCell_other (a := ⟨bw, 0, none⟩) hown2' (own_ne hown2' hg2) (.slice (some ⟨g2, 0, none⟩) (l.length + (Lib.itoa i).length) c2)
    have hlw : bw < w2.heap.size := lt_of_block hg2
    have HW := fun (o : Obj) (v3 : Value) (w3 : World) => byte_fin (w := w) (w1 := w2) (w3 := w3) (o := o) (v3 := v3) 32 hg2 hsz1 hown2' hB hb2 ((Fr.of_kept hk1).grown hown1 hgrow2)
    replace HW : Hid _ := HW
    clear hown2' hown2 hgrow2 hown1 hg1 hg2 hb2 hk1 hc1 hnews call c0
    go_wp2_with (at_builtin; refine wpList_append_own _ rfl (.tmp 22) (.tmp 23) 22 rfl B 5 i0 (.int .u8 0) 1 1 Ybad.underlying22 hi hz0 hz1 hz2 rfl (by decide) _ _ _ rfl (hown3.alloc _) ⟨w2.heap.size, 0, none⟩ 1 1 [.int .u8 32] rfl rfl (cell_one_at _ _ _ _ (by simp [World.setCell])) (by intro u hu; simp at hu; subst hu; rfl) (by unfold maxLen; omega) (by omega) (by simp [World.setCell]; omega) ?_)
    intro v3 w3 hown3 hgrow3 _
    obtain ⟨A3, c3, hv3⟩ := own_form hown3
    subst hv3
    obtain ⟨⟨x, e2⟩, e3, W3, hb3, hf3⟩ := HW.out _ _ _ hown3 hgrow3
    have HF := And.intro W3 (And.intro hb3 hf3)
    replace HF : Hid _ := HF
    clear hown3 hgrow3 W3 hb3 hf3 HW
    go_wp2
    go_end0
    exact ⟨rfl, HF.out.1, HF.out.2.1, HF.out.2.2⟩
end Go.Proofs.YbulkbeysDoor
