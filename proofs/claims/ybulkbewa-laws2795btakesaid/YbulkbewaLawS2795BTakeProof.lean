/- The proof of Rows.LawS2795BTakeSaid: the arguments opened, the walk (YbulkbewaTakeLaw), the row. -/
import Derived.Test.YbulkbewaTakeLaw
import Derived.Test.YbulkbewaRows
import Derived.ProofKit
import Derived.OpenShut
import Derived.ChangeOld
import Derived.Below
import Derived.Deep.SlicePairs
namespace Go.Proofs.Ybulkbewa.lawS2795BTake
open Go.ChangeShapes Go.WideShapes Go.ChangeAt Go.RowKit Go.Deep

theorem own : ownKnob Yba.prog.godebug = none := by kernel_rfl
theorem laidOut : laidOutB Yba.prog = true := by kernel_rfl
theorem cells30 : Yba.prog.cellsOf 30 = 2 := by kernel_rfl
theorem cells28 : Yba.prog.cellsOf 28 = 1 := by kernel_rfl
theorem cells5 : Yba.prog.cellsOf 5 = 1 := by kernel_rfl
theorem cells40 : Yba.prog.cellsOf 40 = 1 := by kernel_rfl

theorem addr_of_cell {w : World} {a : Addr} {v : Value} (h : w.cell? (a.add 0) = some v) : ∃ b off, a = ⟨b, off, none⟩ := by
  obtain ⟨b, off, spot⟩ := a
  have hspot : spot = none := by simpa [Addr.add] using World.cell?_spot h
  subst hspot
  exact ⟨b, off, rfl⟩

/-- the second argument, opened -/
theorem at_open {H : Type} {enc : TypeId × Value → H} {W : World} {fuel : Nat} {a1 : Option Addr} {m c1 : Nat} {x : DataW H × List MemPlace}
    (h : DataW.trod enc Yba.prog W 0 (fun _ => true) true fuel 27 [.slice a1 m c1] = some x) : m ≤ maxLen ∧ ∃ b off Z, AtIn W a1 m b off Z := by
  rcases open_ints Yba.underlying27 Yba.underlying40 cells40 h with ⟨hcs, _⟩ | ⟨a, len, cap, zs, hcs, _, hl, hm, hz, _, hcell, hwz⟩
  · simp at hcs
    obtain ⟨rfl, rfl, rfl⟩ := hcs
    exact ⟨Nat.zero_le _, 0, 0, fun _ => 0, ⟨fun h => absurd h (Nat.lt_irrefl _), fun i h => absurd h (Nat.not_lt_zero _), fun i h => absurd h (Nat.not_lt_zero _), fun h => absurd h (Nat.lt_irrefl _)⟩⟩
  · simp at hcs
    obtain ⟨rfl, rfl, rfl⟩ := hcs
    have hzl : zs.length = c1 := by simpa using hz
    refine ⟨by omega, ?_⟩
    by_cases hp : 0 < m
    · obtain ⟨b, off, rfl, hc⟩ := ints_at hcell (by omega)
      refine ⟨b, off, fun i => zs.getD i 0, ⟨fun _ => rfl, fun i hi => hc i (by omega), fun i hi => ?_, fun _ => lt_of_block_cell (hc 0 (by omega))⟩⟩
      have := bounds_i8 (hwz (zs.getD i 0) (by simp only [List.getD_eq_getElem?_getD]; rw [List.getElem?_eq_getElem (by omega)]; exact List.getElem_mem _))
      exact this
    · exact ⟨0, 0, fun _ => 0, ⟨fun h => absurd h hp, fun i h => absurd h (by omega), fun i h => absurd h (by omega), fun h => absurd h hp⟩⟩

/-- the first argument, opened -/
theorem gs_open {H : Type} {enc : TypeId × Value → H} {W : World} {fuel : Nat} {a0 : Option Addr} {n c0 : Nat} {x : DataW H × List MemPlace}
    (h : DataW.trod enc Yba.prog W 0 (fun _ => true) true fuel 26 [.slice a0 n c0] = some x) :
    n ≤ maxLen ∧ ∃ b off GA GL GC GM gb go GZ, GsIn W a0 n b off GA GL GC GM gb go GZ ∧ ∀ i, i < n → GL i ≤ maxLen := by
  rcases open_slice_pairs Yba.underlying26 Yba.underlying30 cells30 rfl rfl cells28 cells5 h with ⟨hcs, _⟩ | ⟨a, len, cap, m, fl, V0, V1, D0, D1, P0, P1, hcs, _, hl, hm, hmm, _, hx⟩
  · simp at hcs
    obtain ⟨rfl, rfl, rfl⟩ := hcs
    exact ⟨Nat.zero_le _, 0, 0, fun _ => none, fun _ => 0, fun _ => 0, fun _ => 0, fun _ => 0, fun _ => 0, fun _ _ => 0, ⟨fun h => absurd h (Nat.lt_irrefl _), fun i h => absurd h (Nat.not_lt_zero _), fun i h => absurd h (Nat.not_lt_zero _), fun i h => absurd h (Nat.not_lt_zero _), fun i h => absurd h (Nat.not_lt_zero _), fun i h => absurd h (Nat.not_lt_zero _), fun i h => absurd h (Nat.not_lt_zero _), fun h => absurd h (Nat.lt_irrefl _), fun i h => absurd h (Nat.not_lt_zero _)⟩, fun i h => absurd h (Nat.not_lt_zero _)⟩
  · simp at hcs
    obtain ⟨rfl, rfl, rfl⟩ := hcs
    have hmc : m = c0 := by simpa using hmm
    refine ⟨by omega, ?_⟩
    have each : ∀ i, i < n → ∃ q : (Option Addr × Nat × Nat) × Int × (Nat × Nat) × (Nat → Int), V0 i = .slice q.1.1 q.1.2.1 q.1.2.2 ∧ V1 i = .int .u8 q.2.1 ∧ (0 ≤ q.2.1 ∧ q.2.1 ≤ 255) ∧ q.1.2.1 ≤ maxLen ∧
        (0 < q.1.2.1 → q.1.1 = some ⟨q.2.2.1.1, q.2.2.1.2, none⟩ ∧ q.2.2.1.1 < W.heap.size) ∧ (∀ k, k < q.1.2.1 → W.cell? ⟨q.2.2.1.1, q.2.2.1.2 + k, none⟩ = some (.int .u8 (q.2.2.2 k)) ∧ 0 ≤ q.2.2.2 k ∧ q.2.2.2 k ≤ 255) := by
      intro i hi
      obtain ⟨_, _, g0, g1⟩ := hx i (by omega)
      obtain ⟨v, hv, _, hwv⟩ := DataW.trod_int Yba.underlying5 g1
      simp at hv
      have hb := bounds_u8 hwv
      rcases open_ints Yba.underlying28 Yba.underlying5 cells5 g0 with ⟨hcs, _⟩ | ⟨a', len', cap', zs, hcs, _, hl', hm', hz, _, hcell, hwz⟩
      · simp at hcs
        exact ⟨((none, 0, 0), v, (0, 0), fun _ => 0), hcs, hv, hb, Nat.zero_le _, fun h => absurd h (Nat.lt_irrefl _), fun k h => absurd h (Nat.not_lt_zero _)⟩
      · simp at hcs
        have hzl : zs.length = cap' := by simpa using hz
        by_cases hp : 0 < len'
        · obtain ⟨b, off, rfl, hc⟩ := ints_at hcell (by omega)
          refine ⟨((some ⟨b, off, none⟩, len', cap'), v, (b, off), fun i => zs.getD i 0), hcs, hv, hb, by show len' ≤ maxLen; omega, fun _ => ⟨rfl, lt_of_block_cell (hc 0 (by omega))⟩, fun k hk => ?_⟩
          have hk' : k < len' := hk
          exact ⟨hc k (by omega), bounds_u8 (hwz (zs.getD k 0) (by simp only [List.getD_eq_getElem?_getD]; rw [List.getElem?_eq_getElem (by omega)]; exact List.getElem_mem _))⟩
        · exact ⟨((some a', len', cap'), v, (0, 0), fun _ => 0), hcs, hv, hb, by show len' ≤ maxLen; omega, fun h => absurd h hp, fun k h => absurd h (by show ¬ k < len'; omega)⟩
    obtain ⟨q, hq⟩ := choose_lt each
    by_cases hp : 0 < n
    · obtain ⟨b, off, rfl⟩ := addr_of_cell (by have := (hx 0 (by omega)).1; simpa using this)
      refine ⟨b, off, fun i => (q i).1.1, fun i => (q i).1.2.1, fun i => (q i).1.2.2, fun i => (q i).2.1, fun i => (q i).2.2.1.1, fun i => (q i).2.2.1.2, fun i => (q i).2.2.2, ⟨fun _ => rfl, fun i hi => ?_, fun i hi => ?_, fun i hi h => ((hq i hi).2.2.2.2.1 h).1, fun i hi k hk => ((hq i hi).2.2.2.2.2 k hk).1, fun i hi => (hq i hi).2.2.1, fun i hi k hk => ((hq i hi).2.2.2.2.2 k hk).2, fun _ => ?_, fun i hi h => ((hq i hi).2.2.2.2.1 h).2⟩, fun i hi => (hq i hi).2.2.2.1⟩
      · have := (hx i (by omega)).1
        rw [(hq i hi).1, Addr.add_lit] at this
        exact this
      · have := (hx i (by omega)).2.1
        rw [(hq i hi).2.1, Addr.add_lit] at this
        exact this
      · have := (hx 0 (by omega)).1
        rw [Addr.add_lit] at this
        exact lt_of_block_cell this
    · exact ⟨0, 0, fun _ => none, fun _ => 0, fun _ => 0, fun _ => 0, fun _ => 0, fun _ => 0, fun _ _ => 0, ⟨fun h => absurd h hp, fun i h => absurd h (by omega), fun i h => absurd h (by omega), fun i h => absurd h (by omega), fun i h => absurd h (by omega), fun i h => absurd h (by omega), fun i h => absurd h (by omega), fun h => absurd h hp, fun i h => absurd h (by omega)⟩, fun i h => absurd h (by omega)⟩

set_option maxRecDepth 100000 in
theorem lifted (os : Os) (started : os.Started) (H : Type) (enc : TypeId × Value → H) :
    ReturnsInHanded {} Yba.checked os 5 .any (Rows.lawS2795BTakeSpec.pre6 enc Yba.prog Yba.f5 Rows.lawS2795BTakeRow.domain false) (Rows.lawS2795BTakeSpec.post enc Yba.prog Yba.f5 false true false false) := by
  refine returnsInHanded_of_change (C := Yba.checked) own started (by kernel_rfl) Yba.func5
    (ChangeSpec.witness6 (enc := enc) (C := Yba.checked) false ⟨#[], #[.slice none 0 0, .slice none 0 0], []⟩ 8 (by kernel_rfl) (by kernel_rfl) (by kernel_rfl) (by kernel_rfl)) ?_
  intro W base args ds gs before hval0 hW hcnd _
  have hval : ∀ (j : Nat) t v, Yba.f5.params[j]? = some t → args[j]? = some v → Value.okWide Yba.prog W .any base t v := hval0
  have hW' := hW
  obtain ⟨p, q, hA0, hV, rfl, hfz, hnd⟩ := hW
  have hA : DataW.TrodAll enc Yba.prog W 0 (fun _ => true) true Yba.f5.params.toList args.toList ds p := hA0
  rw [Yba.params5] at hA hval
  obtain ⟨v0, vs0, d0, ds0, p0, q0, hargs, rfl, rfl, h0, r0⟩ := trodAll_cons hA
  obtain ⟨v1, vs1, d1, ds1, p1, q1, rfl, rfl, rfl, h1, r1⟩ := trodAll_cons r0
  obtain ⟨rfl, rfl, rfl⟩ := trodAll_nil r1
  obtain rfl : args = #[v0, v1] := by cases args; simp_all
  obtain ⟨rfl, rfl⟩ := trodVars_none hV
  obtain ⟨a0, len0, cap0, rfl⟩ := okWide_slice Yba.underlying26 (hval 0 26 v0 rfl rfl)
  obtain ⟨a1, len1, cap1, rfl⟩ := okWide_slice Yba.underlying27 (hval 1 27 v1 rfl rfl)
  have k0 := h0
  have k1 := h1
  have lt0 : ∀ x ∈ p0, x.block < W.heap.size := by obtain ⟨m, hm⟩ := k0; exact DataW.trod_lt m _ _ _ hm
  have lt1 : ∀ x ∈ p1, x.block < W.heap.size := by obtain ⟨m, hm⟩ := k1; exact DataW.trod_lt m _ _ _ hm
  obtain ⟨fuel0, hf0⟩ := h0
  obtain ⟨fuel1, hf1⟩ := h1
  obtain ⟨hn, b, off, GA, GL, GC, GM, gb, go, GZ, hgs, hgl⟩ := gs_open (by simpa [Value.cells] using hf0)
  obtain ⟨hm, b1, off1, Z, hat⟩ := at_open (by simpa [Value.cells] using hf1)
  clear hA0 hval0
  refine (btake W a0 a1 len0 cap0 len1 cap1 b off b1 off1 GA GL GC GM gb go GZ Z hgs hat hn hm hgl).mono fun e W' ⟨he, bel⟩ => ?_
  subst he
  exact ⟨_, rfl, _, _, _, [], _, [], hW', trodAll_mk1 (shut_bool Yba.underlying4 _), (trodAll_cons_mk (Below.trod laidOut (by kernel_rfl) (of_decide_eq_true (by kernel_rfl)) k0 bel lt0) (trodAll_cons_mk (Below.trod laidOut (by kernel_rfl) (of_decide_eq_true (by kernel_rfl)) k1 bel lt1) trodAll_mk0)), rfl, bel.frame _, fun h => by cases h⟩

theorem over : Rows.lawS2795BTakeRow.holds Yba.pinned (OpenSpec.ofChange Rows.lawS2795BTakeSpec) :=
  OpenClaim.holds_of_wide 5 Yba.f5 rfl rfl rfl rfl rfl rfl rfl ⟨rfl, rfl, rfl, rfl, rfl⟩ rfl rfl rfl rfl rfl (by kernel_rfl) Yba.func5 (by kernel_rfl)
    (of_decide_eq_true (by kernel_rfl)) (by unfold Func.isWrapper; first | (rw [if_pos (by decide +kernel)]; kernel_rfl) | (rw [if_neg (by decide +kernel)]; exact ⟨rfl, rfl⟩))
    (fun os started H enc _ => lifted os started H enc)

/-- THE STATEMENT -/
theorem proved : Rows.LawS2795BTakeSaid := over
end Go.Proofs.Ybulkbewa.lawS2795BTake
