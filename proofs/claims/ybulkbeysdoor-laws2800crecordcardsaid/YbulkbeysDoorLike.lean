/- The law LikeSent: its walk. -/
import Derived.Test.YbulkbeysDoorItoa
import Derived.Deep.QuietTactic
import Derived.BigQuiet
namespace Go.Proofs.YbulkbeysDoor
open Go.RowKit

theorem Tb.mono {B B' : Nat} {w : World} (h : Tb B w) (hB : B ≤ B') : Tb B' w := fun w' hb => h w' (hb.mono hB)
theorem Tb.on' {B : Nat} {w w1 : World} (h : Tb B w) (hb : Below B w w1) : Tb B w1 := Lib.TabBelow.on h hb

/-- a writer that has just been made -/
theorem wr_new (w : World) (B : Nat) (v : Value) (l : List UInt8) (cs : Array Value) (hcs : cs.size = 21) (hc0 : cs[0]? = some v) (hown : w.ownsRow B 5 1 v l.length (Lib.byteCells l)) (hB : B ≤ w.heap.size) :
    Wr (w.alloc (.cells cs 26)) B w.heap.size l :=
  ⟨v, cs, heap_alloc_new _ _, hcs, hc0, hown.alloc _, hB⟩

/-- the cells of the zero Writer -/
def zeroW : Array Value := #[.slice none 0 0, .int .u8 0, .int .u8 0, .int .u8 0, .int .u8 0, .int .u8 0, .int .u8 0, .int .u8 0, .int .u8 0, .int .u8 0, .int .u8 0, .int .u8 0, .int .u8 0, .int .u8 0, .int .u8 0, .int .u8 0, .int .u8 0, .int .u8 0, .int .u8 0, .int .u8 0, .int .u8 0]

theorem own_slice {w : World} {B n : Nat} {v : Value} {xs : List Value} (h : w.ownsRow B 5 1 v n xs) (hn : 0 < n) : ∃ ga cp, v = .slice (some ⟨ga, 0, none⟩) n cp ∧ B ≤ ga ∧ n ≤ cp := by
  rcases h.2 with ⟨_, h0⟩ | ⟨g, cap, cur, hv, hB, _, hc, _⟩
  · omega
  · exact ⟨g, cap, hv, hB, hc⟩

theorem own_cell {w : World} {B n ga cp : Nat} {l : List UInt8} (h : w.ownsRow B 5 1 (.slice (some ⟨ga, 0, none⟩) n cp) n (Lib.byteCells l)) (j : Nat) (hj : j < l.length) : w.cell? ⟨ga, j, none⟩ = some (.int .u8 ((l.getD j 0).toNat : Int)) := by
  have hl : n = l.length := by have := h.1; rw [Lib.byteCells_length] at this; omega
  have := h.cellAt j (by omega)
  rw [this]
  simp [Lib.byteCells, List.getD, hj]

theorem ownsRow_below {w w' : World} {B base : Nat} {e : TypeId} {size : Nat} {v : Value} {n : Nat} {xs : List Value} (h : w.ownsRow base e size v n xs) (hb : Below B w w') (hv : w.heap.size ≤ B) : w'.ownsRow base e size v n xs := by
  obtain ⟨h1, h2⟩ := h
  refine ⟨h1, ?_⟩
  rcases h2 with h2 | ⟨g, cap, cur, hv', hg, hh, r⟩
  · exact Or.inl h2
  · exact Or.inr ⟨g, cap, cur, hv', hg, (hb.block g (by have := lt_of_block hh; omega)).trans hh, r⟩

set_option maxHeartbeats 1600000 in
set_option maxRecDepth 100000 in
theorem likeSent (w : World) (file : ByteArray) (g s c n : Int) (hg : I64 g) (hs : I64 s) (hc : I64 c) (hn : I64 n) (hf63 : file.size ≤ maxLen) (htab : Tab w) :
    Calls Ybad.prog 4 #[.int .i64 g, .int .i64 s, .int .i64 c, .int .i64 n, .string file] w fun e w' => e = .returned (.bool true) ∧ Below w.heap.size w w' := by
  unfold maxLen at hf63
  by_cases hfl : file.size ≤ 1024
  case neg =>
    go_enter Ybad.func4, Ybad.ntmps4
    go_wp2
    go_ret
    exact ⟨rfl, Below.refl _ _⟩
  have tb0 : Tb w.heap.size w := Lib.tabBelow_of_tabIs htab
  have hT := tail_le g s c n file.data.toList hg hs hc hn
  have hfs : file.data.toList.length = file.size := Array.length_toList
  go_enter Ybad.func4, Ybad.ntmps4
  go_wp2_with fail
  have hW1 : Wr ((w.alloc (.cells #[.string file, .int .i64 n] 29)).alloc (.cells zeroW 26)) (w.heap.size + 1) (w.heap.size + 1) [] := by
    have := wr_new (w.alloc (.cells #[.string file, .int .i64 n] 29)) (w.heap.size + 1) (.slice none 0 0) [] zeroW rfl rfl (World.ownsRow_nil _ _ _ _) (by simp)
    simpa using this
  have hbA : Below w.heap.size w ((w.alloc (.cells #[.string file, .int .i64 n] 29)).alloc (.cells zeroW 26)) := ((Below.refl _ _).alloc (Nat.le_refl _) _).alloc (by simp) _
  have tb1 : Tb (w.heap.size + 1) ((w.alloc (.cells #[.string file, .int .i64 n] 29)).alloc (.cells zeroW 26)) := (tb0.on' hbA).mono (by omega)
  have hp1 : ((w.alloc (.cells #[.string file, .int .i64 n] 29)).alloc (.cells zeroW 26)).heap[w.heap.size]? = some (.cells #[.string file, .int .i64 n] 29 (0, 0)) := (Below.heap_alloc _ _ _ (by simp)).trans (heap_alloc_new _ _)
  refine (go_any _ (w.heap.size + 1) (w.heap.size + 1) [] file g s c n hg hs hc hn hW1 (by simp; omega) tb1).mono ?_
  rintro e w1 ⟨rfl, W1, hb1⟩
  have hp2 := (hb1.block w.heap.size (by omega)).trans hp1
  have hz1 := hb1.size
  simp only [World.size_alloc] at hz1
  have hbw1 := hbA.trans (hb1.mono (by omega))
  clear hW1 hbA tb1 hp1
  go_wp2_with fail
  refine (take_any w1 _ _ _ W1).mono ?_
  rintro e w2 ⟨v1, rfl, hown1, hb2⟩
  have hz2 := hb2.size
  have hp3 := (hb2.block w.heap.size (by omega)).trans hp2
  have hbw2 := hbw1.trans (hb2.mono (by omega))
  clear W1 hp2 hbw1 hb1 hb2
  obtain ⟨L, hL⟩ : ∃ L, L = tail g s c n file.data.toList := ⟨_, rfl⟩
  rw [← hL] at hown1 hT
  rw [List.nil_append, show (([103, 111, 32] : List UInt8) ++ L).length = L.length + 3 by simp] at hown1
  have c0 : w2.cell? ⟨w.heap.size, 0, none⟩ = some (.string file) := cellB hp3 rfl
  have c1 : w2.cell? ⟨w.heap.size, 1, none⟩ = some (.int .i64 n) := cellB hp3 rfl
  obtain ⟨ga, ca, rfl, hga, hca⟩ := own_slice hown1 (by omega)
  have lp := lt_of_block hp3
  have HO := And.intro hown1 (And.intro hp3 (And.intro hbw2 hL))
  replace HO : Hid _ := HO
  clear hown1 hp3 hbw2 hL
  go_wp2_with fail
  have hW2 : Wr (w2.alloc (.cells zeroW 26)) w2.heap.size w2.heap.size [] := wr_new w2 w2.heap.size (.slice none 0 0) [] zeroW rfl rfl (World.ownsRow_nil _ _ _ _) (Nat.le_refl _)
  have hbB : Below w2.heap.size w2 (w2.alloc (.cells zeroW 26)) := (Below.refl _ _).alloc (Nat.le_refl _) _
  have tb2 : Tb w2.heap.size (w2.alloc (.cells zeroW 26)) := ((tb0.on' HO.out.2.2.1).mono (by omega)).on' hbB
  refine (sent_any _ w2.heap.size w2.heap.size [] file g s c n hg hs hc hn hW2 (by simp; omega) tb2).mono ?_
  rintro e w3 ⟨rfl, W3, hb3⟩
  clear hW2 tb2
  have hb3' := hbB.trans hb3
  go_wp2_with fail
  refine (take_any w3 _ _ _ W3).mono ?_
  rintro e w4 ⟨v2, rfl, hown2, hb4⟩
  have hb4' := hb3'.trans hb4
  obtain ⟨hown1, hp3, hbw2, hL⟩ := HO.out
  have hown1' := ownsRow_below hown1 hb4' (Nat.le_refl _)
  have hbw4 : Below w.heap.size w w4 := hbw2.trans (hb4'.mono (by omega))
  rw [List.nil_append, ← hL, show (([115, 101, 110, 116, 32] : List UInt8) ++ L).length = L.length + 5 by simp] at hown2
  obtain ⟨gb, cb, rfl, hgb, hcb⟩ := own_slice hown2 (by omega)
  have kA : ∀ i, i < L.length → w4.cell? ⟨ga, 3 + i, none⟩ = some (.int .u8 ((L.getD i 0).toNat : Int)) := fun i hi => by
    rw [own_cell hown1' (3 + i) (by simp; omega)]
    simp [List.getD, Nat.add_comm 3 i]
  have kB : ∀ i, i < L.length → w4.cell? ⟨gb, 5 + i, none⟩ = some (.int .u8 ((L.getD i 0).toNat : Int)) := fun i hi => by
    rw [own_cell hown2 (5 + i) (by simp; omega)]
    simp [List.getD, Nat.add_comm 5 i]
  have sA : ∀ cap, (convert 22 9 (.slice (some ⟨ga, 0, none⟩) 3 cap)).run Ybad.prog w4 = .ok (.string ⟨#[103, 111, 32]⟩) w4 := fun cap =>
    run_convert_bytes_back w4 22 9 5 ⟨ga, 0, none⟩ cap [103, 111, 32] Ybad.underlying22 Ybad.underlying5 Ybad.underlying9 (fun j hj => by
      rw [Addr.add_lit, Nat.zero_add]
      have := own_cell hown1' j (by simp at hj ⊢; omega)
      rw [this]
      match j, hj with
      | 0, _ => rfl
      | 1, _ => rfl
      | 2, _ => rfl)
  have sB : ∀ cap, (convert 22 9 (.slice (some ⟨gb, 0, none⟩) 5 cap)).run Ybad.prog w4 = .ok (.string ⟨#[115, 101, 110, 116, 32]⟩) w4 := fun cap =>
    run_convert_bytes_back w4 22 9 5 ⟨gb, 0, none⟩ cap [115, 101, 110, 116, 32] Ybad.underlying22 Ybad.underlying5 Ybad.underlying9 (fun j hj => by
      rw [Addr.add_lit, Nat.zero_add]
      have := own_cell hown2 j (by simp at hj ⊢; omega)
      rw [this]
      match j, hj with
      | 0, _ => rfl
      | 1, _ => rfl
      | 2, _ => rfl
      | 3, _ => rfl
      | 4, _ => rfl)
  have hLp : 0 < L.length := by rw [hL]; simp only [tail, List.length_append, List.length_cons, List.length_nil]; omega
  have hc3 : ¬ ca = 3 := by omega
  have hc5 : ¬ cb = 5 := by omega
  have HF : Hid _ := hbw4
  clear HO hown1 hown1' hown2 hbw2 hbw4 hp3 hL W3 hb3 hb3' hb4 hb4' hbB c0 c1
  go_wp2
  go_quiet ((go_at_call 8; refine Calls.quiet_of (ceq_same _ _ _ L.length _ _ ga 3 gb 5 (fun i => ((L.getD i 0).toNat : Int)) (by omega) ?_ ?_ (fun i hi => kA i hi) (fun i hi => kB i hi)) <;> (intro _; rfl)))
  go_wp2
  go_ret
  exact ⟨rfl, below_drewN HF.out _⟩
end Go.Proofs.YbulkbeysDoor
