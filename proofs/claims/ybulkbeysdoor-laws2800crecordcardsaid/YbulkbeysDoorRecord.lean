/- The Writer: its methods pos, Go, Sent and Take. -/
import Derived.Test.YbulkbeysDoorWriter
namespace Go.Proofs.YbulkbeysDoor
open Go.RowKit

/-- append of a string, as one step of a region that draws its order -/
theorem step_append_str {P : Program} {ops : Array Oper} {o : Oper} {a : Act} {w : World} {K : Act → World → Prop} {Q : Exit → Act → World → Prop} {E : Prop} (hgd : o.guard = none) (sl x : Operand) (t u : TypeId)
    (ho : o.op = .call { callee := .builtin .append, args := #[sl, x], argTypes := #[t, u] })
    (base : Nat) (e : TypeId) (i : TypeInfo) (ht : P.underlying t = some (.slice e)) (hu : P.underlying u = some .string) (hi : P.info? e = some i) (hz : i.zero = some (.int .u8 0))
    (hsize : i.size = 1) (hby : i.bytes = 1)
    (v : Value) (n : Nat) (xs : List Value) (hs : a.eval sl = v) (hown : w.ownsRow base e 1 v n xs) (s : ByteArray) (hx : a.eval x = .string s)
    (h63 : n + s.size ≤ maxLen) (hbytes : n + s.size ≤ 140737488355328) (hbase : base ≤ w.heap.size)
    (h : ∀ v' w', w'.ownsRow base e 1 v' (n + s.size) (xs ++ Lib.strCells s) → w.grownBy w' v.ownBlock → K (a.put o.dst v') w') :
    if Region.wanted o (yielded ops a.tmps) = true then Oper.wp P o a w K Q else E := by
  have hw : Region.wanted o (yielded ops a.tmps) = true := by simp [Region.wanted, hgd]
  rw [if_pos hw]
  obtain ⟨v', w', hr, h2, h3, h4⟩ := Lib.run_append_own_string (P := P) w base t u o.type e i ht hu hi hz hsize hby v n xs hown s h63 hbytes hbase
  unfold Oper.wp execOp
  simp only [ho, resolve, invoke, builtin, Sem.run_bind, Sem.run_pure, Result.andThen_ok, List.map_toArray, List.map_cons, List.map_nil, hs, hx, hr]
  exact h v' w' h2 h3

theorem far_cell2 {w1 w2 : World} {bw : Nat} {row : Option Nat} {cur : Array Value} (hg : w1.grownBy w2 row) (hne : row ≠ some bw) (hc1 : w1.heap[bw]? = some (.cells cur 26 (0, 0))) (hs : 0 < cur.size) : ∃ x, w2.cell? ⟨bw, 0, none⟩ = some x ∧ w2.frozen? ⟨bw, 0, none⟩ = false := by
  have h2 := (hg.block bw (lt_of_block hc1) (fun e => hne e.symm)).trans hc1
  exact ⟨_, cellB h2 (Array.getElem?_eq_getElem hs), freeB h2⟩

set_option maxHeartbeats 1600000 in
set_option maxRecDepth 100000 in
theorem pos_any (w : World) (B bw : Nat) (l : List UInt8) (file : ByteArray) (i : Int) (h0 : -9223372036854775808 ≤ i) (h1 : i ≤ 9223372036854775807) (hW : Wr w B bw l) (hlim : l.length + file.size ≤ 500000) (htb : Tb B w) :
    Calls Ybad.prog 12 #[.pointer (some ⟨bw, 0, none⟩), .agg #[.string file, .int .i64 i]] w fun e w' => e = .returned (.tuple #[]) ∧ Wr w' B bw (l ++ Lib.itoa i ++ [32] ++ file.data.toList ++ [10]) ∧ Below B w w' ∧ Fr bw w w' := by
  obtain ⟨i0, hi, hz0, hz1, hz2⟩ := info_parts info5
  have hle := itoa_le i h0 h1
  obtain ⟨P, hP⟩ : ∃ P : Array Value, P = #[.string file, .int .i64 i] := ⟨_, rfl⟩
  have hBw : B ≤ w.heap.size := by obtain ⟨_, _, hg, _, _, _, hB⟩ := hW; have := lt_of_block hg; omega
  have hb0 : Below B w (w.alloc (.cells #[.string file, .int .i64 i] 29)) := (Below.refl _ _).alloc hBw _
  have hf0 : Fr bw w (w.alloc (.cells #[.string file, .int .i64 i] 29)) := (Fr.refl _ _).alloc _
  have hW0 : Wr (w.alloc (.cells #[.string file, .int .i64 i] 29)) B bw l := by
    obtain ⟨v, cur, hg, hsz, hv, hown, hB⟩ := hW
    exact ⟨v, cur, (Below.heap_alloc _ _ _ (lt_of_block hg)).trans hg, hsz, hv, hown.alloc _, hB⟩
  have cint := int_any (w.alloc (.cells #[.string file, .int .i64 i] 29)) B bw l i h0 h1 hW0 (by omega) (htb.on hb0)
  have hbp : w.heap.size ≠ bw := by obtain ⟨_, _, hg, _⟩ := hW; have := lt_of_block hg; omega
  clear hW hW0
  go_enter Ybad.func12, Ybad.ntmps12
  go_wp2_with (go_at_call 11; refine cint.mono ?_; rintro e w1 ⟨rfl, W1, hb1, hf1⟩; clear cint)
  have hp1 : w1.heap[w.heap.size]? = some (.cells #[.string file, .int .i64 i] 29 (0, 0)) := hf1 _ _ _ _ (heap_alloc_new _ _) (by decide) hbp
  have hb2 : Below B w w1 := hb0.trans hb1
  have hf2 : Fr bw w w1 := hf0.trans hf1
  obtain ⟨v, cur, hg, hsz, hv, hown, hB⟩ := W1
  obtain ⟨A, c, hvf⟩ := own_form hown
  subst hvf
  have lw := lt_of_block hg
  have c0 : w1.cell? ⟨bw, 0, none⟩ = some _ := cellB hg hv
  have c1 : w1.cell? ⟨w.heap.size, 0, none⟩ = some (.string file) := cellB hp1 rfl
  have hne := own_ne hown hg
  have hlen : (l ++ Lib.itoa i ++ [32]).length ≤ 600000 := by simp; omega
  obtain ⟨L, hL⟩ : ∃ L, L = l ++ Lib.itoa i ++ [32] := ⟨_, rfl⟩
  rw [← hL] at hown hlen c0 hne hv
  have HL : Hid _ := hL
  have HG : Hid _ := hg
  clear hg hv hL hb0 hf0 hb1 hf1 hp1
  go_region_law
    (first
      | (refine step_append_str rfl _ _ 22 9 rfl B 5 i0 Ybad.underlying22 Ybad.underlying9 hi hz0 hz1 hz2 (.slice A L.length c) L.length (Lib.byteCells L) (by rfl) (by exact hown) file (by rfl) (by unfold maxLen; omega) (by omega) (by have := hb2.size; simp; omega) ?_; intro v2 w2 hown2 hgrow2; obtain ⟨A2, c2, hv2⟩ := own_form hown2; subst hv2; obtain ⟨x2, f2, z2⟩ := far_cell2 (w1 := w1.drew) hgrow2 hne HG.out (by omega)))
  all_goals
    have hg2 : w2.heap[bw]? = some (.cells cur 26 (0, 0)) := (hgrow2.block _ lw (fun h => hne h.symm)).trans HG.out
    have hb3 : Below B w w2 := (hb2.drew).grown hgrow2 (by have := hb2.size; simp; omega) (fun k hk => (hown.lt k hk).1)
    have hf3 : Fr bw w w2 := hf2.trans (Fr.grown (w := w1.drew) (fun _ _ _ _ h _ _ => h) hown hgrow2)
    have hown2' : w2.ownsRow B 5 1 (.slice A2 (L.length + file.size) c2) (L.length + file.size) (Lib.byteCells (L ++ file.data.toList)) := by
      rw [Lib.byteCells_append]; exact hown2
    have hown3 := ownsRow_setCell_other (a := ⟨bw, 0, none⟩) hown2' (own_ne hown2' hg2) (.slice A2 (L.length + file.size) c2)
    have hlw : bw < w2.heap.size := lt_of_block hg2
    have HW := fun (o : Obj) (v3 : Value) (w3 : World) => byte_fin (w := w) (w1 := w2) (w3 := w3) (o := o) (v3 := v3) 10 hg2 hsz hown2' hB hb3 hf3
    replace HW : Hid _ := HW
    clear hown2' hown2 hgrow2 hown hg2 hb2 hf2 hb3 hf3 c0 c1
    go_wp2_with (at_builtin; refine wpList_append_own _ rfl (.tmp 22) (.tmp 23) 22 rfl B 5 i0 (.int .u8 0) 1 1 Ybad.underlying22 hi hz0 hz1 hz2 rfl (by decide) _ _ _ rfl (hown3.alloc _) ⟨w2.heap.size, 0, none⟩ 1 1 [.int .u8 10] rfl rfl (cell_one_at _ _ _ _ (by simp [World.setCell])) (by intro u hu; simp at hu; subst hu; rfl) (by unfold maxLen; omega) (by omega) (by simp [World.setCell]; omega) ?_)
    intro v3 w3 hown3 hgrow3 _
    obtain ⟨A3, c3, hv3⟩ := own_form hown3
    subst hv3
    obtain ⟨⟨x, e2⟩, e3, W3, hb3, hf3⟩ := HW.out _ _ _ hown3 hgrow3
    have HF := And.intro W3 (And.intro hb3 hf3)
    replace HF : Hid _ := HF
    clear hown3 hgrow3 W3 hb3 hf3 HW
    go_wp2
    go_end0
    exact ⟨rfl, by rw [← HL.out]; exact HF.out.1, HF.out.2.1, HF.out.2.2⟩

/-- what a record of the word wd writes behind it -/
def tail (g s c n : Int) (file : List UInt8) : List UInt8 := Lib.itoa g ++ [32] ++ Lib.itoa s ++ [32] ++ Lib.itoa c ++ [32] ++ Lib.itoa n ++ [32] ++ file ++ [10]

def I64 (i : Int) : Prop := -9223372036854775808 ≤ i ∧ i ≤ 9223372036854775807

theorem tail_le (g s c n : Int) (file : List UInt8) (hg : I64 g) (hs : I64 s) (hc : I64 c) (hn : I64 n) : (tail g s c n file).length ≤ 85 + file.length := by
  have := itoa_le g hg.1 hg.2
  have := itoa_le s hs.1 hs.2
  have := itoa_le c hc.1 hc.2
  have := itoa_le n hn.1 hn.2
  simp [tail]; omega

set_option maxRecDepth 100000 in
theorem go_any (w : World) (B bw : Nat) (l : List UInt8) (file : ByteArray) (g s c n : Int) (hg : I64 g) (hs : I64 s) (hc : I64 c) (hn : I64 n) (hW : Wr w B bw l) (hlim : l.length + file.size ≤ 100000) (htb : Tb B w) :
    Calls Ybad.prog 5 #[.pointer (some ⟨bw, 0, none⟩), .int .i64 g, .int .i64 s, .int .i64 c, .agg #[.string file, .int .i64 n]] w fun e w' => e = .returned (.tuple #[]) ∧ Wr w' B bw (l ++ [103, 111, 32] ++ tail g s c n file.data.toList) ∧ Below B w w' := by
  have l1 := itoa_le g hg.1 hg.2
  have l2 := itoa_le s hs.1 hs.2
  have l3 := itoa_le c hc.1 hc.2
  have hBw : B ≤ w.heap.size := by obtain ⟨_, _, hgg, _, _, _, hB⟩ := hW; have := lt_of_block hgg; omega
  have hb0 : Below B w (w.alloc (.cells #[.string file, .int .i64 n] 29)) := (Below.refl _ _).alloc hBw _
  have hW0 : Wr (w.alloc (.cells #[.string file, .int .i64 n] 29)) B bw l := by
    obtain ⟨v, cur, hgg, hsz, hv, hown, hB⟩ := hW
    exact ⟨v, cur, (Below.heap_alloc _ _ _ (lt_of_block hgg)).trans hgg, hsz, hv, hown.alloc _, hB⟩
  have hbp : w.heap.size ≠ bw := by obtain ⟨_, _, hgg, _⟩ := hW; have := lt_of_block hgg; omega
  have k0 := word_any (w.alloc (.cells #[.string file, .int .i64 n] 29)) B bw l ⟨#[103, 111]⟩ hW0 (by simp [ByteArray.size]; omega)
  clear hW hW0
  go_enter Ybad.func5, Ybad.ntmps5
  go_wp2_with (go_at_call 10; refine k0.mono ?_; rintro e w1 ⟨rfl, W1, hb1, hf1⟩; clear k0)
  have hb1' := hb0.trans hb1
  have k1 := int_any w1 B bw _ g hg.1 hg.2 W1 (by simp; omega) (htb.on hb1')
  refine k1.mono ?_
  rintro e w2 ⟨rfl, W2, hb2, hf2⟩
  have hb2' := hb1'.trans hb2
  have k2 := int_any w2 B bw _ s hs.1 hs.2 W2 (by simp; omega) (htb.on hb2')
  clear k1 W1
  go_wp2_with fail
  refine k2.mono ?_
  rintro e w3 ⟨rfl, W3, hb3, hf3⟩
  have hb3' := hb2'.trans hb3
  have k3 := int_any w3 B bw _ c hc.1 hc.2 W3 (by simp; omega) (htb.on hb3')
  clear k2 W2
  go_wp2_with fail
  refine k3.mono ?_
  rintro e w4 ⟨rfl, W4, hb4, hf4⟩
  have hb4' := hb3'.trans hb4
  have hp4 : w4.heap[w.heap.size]? = some (.cells #[.string file, .int .i64 n] 29 (0, 0)) := (((hf1.trans hf2).trans hf3).trans hf4) _ _ _ _ (heap_alloc_new _ _) (by decide) hbp
  have c0 : w4.cell? ⟨w.heap.size, 0, none⟩ = some (.string file) := cellB hp4 rfl
  have c1 : w4.cell? ⟨w.heap.size, 1, none⟩ = some (.int .i64 n) := cellB hp4 rfl
  have k4 := pos_any w4 B bw _ file n hn.1 hn.2 W4 (by simp; omega) (htb.on hb4')
  clear k3 W3 hp4
  go_wp2_with (go_at_call 12; refine k4.mono ?_; rintro e w5 ⟨rfl, W5, hb5, hf5⟩; clear k4)
  go_end0
  refine ⟨rfl, ?_, hb4'.trans hb5⟩
  have e : l ++ [103, 111, 32] ++ tail g s c n file.data.toList = l ++ (⟨#[103, 111]⟩ : ByteArray).data.toList ++ [32] ++ Lib.itoa g ++ [32] ++ Lib.itoa s ++ [32] ++ Lib.itoa c ++ [32] ++ Lib.itoa n ++ [32] ++ file.data.toList ++ [10] := by
    simp [tail]
  rw [e]
  exact W5
set_option maxRecDepth 100000 in
theorem sent_any (w : World) (B bw : Nat) (l : List UInt8) (file : ByteArray) (g s c n : Int) (hg : I64 g) (hs : I64 s) (hc : I64 c) (hn : I64 n) (hW : Wr w B bw l) (hlim : l.length + file.size ≤ 100000) (htb : Tb B w) :
    Calls Ybad.prog 9 #[.pointer (some ⟨bw, 0, none⟩), .int .i64 g, .int .i64 s, .int .i64 c, .agg #[.string file, .int .i64 n]] w fun e w' => e = .returned (.tuple #[]) ∧ Wr w' B bw (l ++ [115, 101, 110, 116, 32] ++ tail g s c n file.data.toList) ∧ Below B w w' := by
  have l1 := itoa_le g hg.1 hg.2
  have l2 := itoa_le s hs.1 hs.2
  have l3 := itoa_le c hc.1 hc.2
  have hBw : B ≤ w.heap.size := by obtain ⟨_, _, hgg, _, _, _, hB⟩ := hW; have := lt_of_block hgg; omega
  have hb0 : Below B w (w.alloc (.cells #[.string file, .int .i64 n] 29)) := (Below.refl _ _).alloc hBw _
  have hW0 : Wr (w.alloc (.cells #[.string file, .int .i64 n] 29)) B bw l := by
    obtain ⟨v, cur, hgg, hsz, hv, hown, hB⟩ := hW
    exact ⟨v, cur, (Below.heap_alloc _ _ _ (lt_of_block hgg)).trans hgg, hsz, hv, hown.alloc _, hB⟩
  have hbp : w.heap.size ≠ bw := by obtain ⟨_, _, hgg, _⟩ := hW; have := lt_of_block hgg; omega
  have k0 := word_any (w.alloc (.cells #[.string file, .int .i64 n] 29)) B bw l ⟨#[115, 101, 110, 116]⟩ hW0 (by simp [ByteArray.size]; omega)
  clear hW hW0
  go_enter Ybad.func9, Ybad.ntmps9
  go_wp2_with (go_at_call 10; refine k0.mono ?_; rintro e w1 ⟨rfl, W1, hb1, hf1⟩; clear k0)
  have hb1' := hb0.trans hb1
  have k1 := int_any w1 B bw _ g hg.1 hg.2 W1 (by simp; omega) (htb.on hb1')
  refine k1.mono ?_
  rintro e w2 ⟨rfl, W2, hb2, hf2⟩
  have hb2' := hb1'.trans hb2
  have k2 := int_any w2 B bw _ s hs.1 hs.2 W2 (by simp; omega) (htb.on hb2')
  clear k1 W1
  go_wp2_with fail
  refine k2.mono ?_
  rintro e w3 ⟨rfl, W3, hb3, hf3⟩
  have hb3' := hb2'.trans hb3
  have k3 := int_any w3 B bw _ c hc.1 hc.2 W3 (by simp; omega) (htb.on hb3')
  clear k2 W2
  go_wp2_with fail
  refine k3.mono ?_
  rintro e w4 ⟨rfl, W4, hb4, hf4⟩
  have hb4' := hb3'.trans hb4
  have hp4 : w4.heap[w.heap.size]? = some (.cells #[.string file, .int .i64 n] 29 (0, 0)) := (((hf1.trans hf2).trans hf3).trans hf4) _ _ _ _ (heap_alloc_new _ _) (by decide) hbp
  have c0 : w4.cell? ⟨w.heap.size, 0, none⟩ = some (.string file) := cellB hp4 rfl
  have c1 : w4.cell? ⟨w.heap.size, 1, none⟩ = some (.int .i64 n) := cellB hp4 rfl
  have k4 := pos_any w4 B bw _ file n hn.1 hn.2 W4 (by simp; omega) (htb.on hb4')
  clear k3 W3 hp4
  go_wp2_with (go_at_call 12; refine k4.mono ?_; rintro e w5 ⟨rfl, W5, hb5, hf5⟩; clear k4)
  go_end0
  refine ⟨rfl, ?_, hb4'.trans hb5⟩
  have e : l ++ [115, 101, 110, 116, 32] ++ tail g s c n file.data.toList = l ++ (⟨#[115, 101, 110, 116]⟩ : ByteArray).data.toList ++ [32] ++ Lib.itoa g ++ [32] ++ Lib.itoa s ++ [32] ++ Lib.itoa c ++ [32] ++ Lib.itoa n ++ [32] ++ file.data.toList ++ [10] := by
    simp [tail]
  rw [e]
  exact W5

theorem take_any (w : World) (B bw : Nat) (l : List UInt8) (hW : Wr w B bw l) :
    Calls Ybad.prog 6 #[.pointer (some ⟨bw, 0, none⟩), .slice none 0 0] w fun e w' => ∃ v, e = .returned v ∧ w'.ownsRow B 5 1 v l.length (Lib.byteCells l) ∧ Below B w w' := by
  obtain ⟨v, cur, hg, hsz, hv, hown, hB⟩ := hW
  have c0 : w.cell? ⟨bw, 0, none⟩ = some v := cellB hg hv
  have z0 : w.frozen? ⟨bw, 0, none⟩ = false := freeB hg
  obtain ⟨A, c, hvf⟩ := own_form hown
  subst hvf
  have HH := And.intro (ownsRow_setCell_other (a := ⟨bw, 0, none⟩) hown (own_ne hown hg) (.slice none 0 0)) ((Below.refl B w).setCell (p := ⟨bw, 0, none⟩) hB (.slice none 0 0))
  replace HH : Hid _ := HH
  clear hown hg hv
  go_enter Ybad.func6, Ybad.ntmps6
  go_wp2
  go_ret
  exact ⟨_, rfl, HH.out.1, HH.out.2⟩
end Go.Proofs.YbulkbeysDoor
