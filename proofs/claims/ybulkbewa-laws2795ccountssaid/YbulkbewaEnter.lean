import Derived.Test.YbulkbewaWalkMem
namespace Go.Proofs.Ybulkbewa
open Go.RowKit

/-- the dag in memory, below B -/
structure DRep (B : Nat) (w : World) (bd : Nat) (d : DG) (v0 v1 v2 v3 v4 : Value) : Prop where
  c0 : w.cell? ⟨bd, 0, none⟩ = some v0
  c1 : w.cell? ⟨bd, 1, none⟩ = some v1
  c2 : w.cell? ⟨bd, 2, none⟩ = some v2
  c3 : w.cell? ⟨bd, 3, none⟩ = some v3
  c4 : w.cell? ⟨bd, 4, none⟩ = some v4
  s0 : SlN B w v0 d.pastNode
  s1 : SlN B w v1 d.events
  s2 : SlN B w v2 d.eventsFrom
  s3 : SlN B w v3 d.next
  s4 : SlN B w v4 d.nextFrom
  lt : bd < B

theorem info142 : (Yba.prog.info? 142).map (fun i => (i.zero, i.size, i.bytes)) = some (some (.agg #[.int .i64 0, .int .i64 0]), 2, 16) := by kernel_rfl

set_option maxHeartbeats 3200000 in
set_option maxRecDepth 100000 in
theorem enter_any (B : Nat) (w0 w : World) (bw bd b2 b3 b4 b5 E n : Nat) (d : DG) (v0 v1 v2 v3 v4 : Value) (s s' : WS) (vS : Value) (m : Nat)
    (hD : DRep B w0 bd d v0 v1 v2 v3 v4) (hR : WRep B w0 w bw bd b2 b3 b4 b5 E n s vS) (hB : WB B bw b2 b3 b4 b5) (hs : enterP d s m = some s') :
    Calls Yba.prog 49 #[.pointer (some ⟨bw, 0, none⟩), .int .i64 (m : Int)] w fun e w' => e = .returned (.tuple #[]) ∧ ∃ vS', WRep B w0 w' bw bd b2 b3 b4 b5 E n s' vS' := by
  obtain ⟨lo, hi, nf, hlo, hhi, hnf, x4, h4, x5, h5, hle, hhl, hsb, l, hl, rfl⟩ : ∃ lo hi nf, d.eventsFrom[m]? = some lo ∧ d.eventsFrom[m + 1]? = some hi ∧ d.nextFrom[m]? = some nf ∧ ∃ x4, s.done[m]? = some x4 ∧ ∃ x5, s.latest[m]? = some x5 ∧ lo ≤ hi ∧ hi ≤ d.events.length ∧ s.stack.length < big ∧
      ∃ l, scanP s ((d.events.drop lo).take (hi - lo)) (-1) = some l ∧ s' = { s with done := s.done.set m s.member, latest := s.latest.set m l, stack := s.stack ++ [(m, nf)] } := by
    unfold enterP at hs
    split at hs
    · rename_i q1 q2 q3 q4 q5
      split at hs
      · rename_i hc
        split at hs
        · rename_i q6
          exact ⟨_, _, _, q1, q2, q3, _, q4, _, q5, hc.1, hc.2.1, hc.2.2, _, q6, (Option.some.inj hs).symm⟩
        · cases hs
      · cases hs
    · cases hs
  unfold big at hsb
  obtain ⟨i6, h6i, h6z, h6s, h6b⟩ := info_parts info142
  obtain ⟨a1, g1, o1, k1, rfl, hk1, hm1, ha1, hc1⟩ := hD.s1
  obtain ⟨a2, g2, o2, k2, rfl, hk2, hm2, ha2, hc2⟩ := hD.s2
  obtain ⟨a4, g4, o4, k4', rfl, hk4, hm4, ha4, hc4⟩ := hD.s4
  have hm1l : m + 1 < d.eventsFrom.length := (List.getElem?_eq_some_iff.1 hhi).1
  have hm4l : m < d.nextFrom.length := (List.getElem?_eq_some_iff.1 hnf).1
  obtain ⟨rfl, hg2⟩ := ha2 (by omega)
  obtain ⟨rfl, hg4⟩ := ha4 (by omega)
  have bel := hR.below
  have hbd := hD.lt
  have D0 : ∀ (W : World), Below B w0 W → ∀ p : Addr, p.block < B → W.cell? p = w0.cell? p := fun W h p hp => h.cell hp
  have p0 : w.cell? ⟨bw, 0, none⟩ = some (.pointer (some ⟨bd, 0, none⟩)) := cellB hR.c rfl
  have p1 : w.cell? ⟨bw, 1, none⟩ = some (.int .i64 (s.member : Int)) := cellB hR.c rfl
  have p2 : w.cell? ⟨bw, 2, none⟩ = some (.slice (some ⟨b2, 0, none⟩) E E) := cellB hR.c rfl
  have p3 : w.cell? ⟨bw, 3, none⟩ = some (.slice (some ⟨b3, 0, none⟩) E E) := cellB hR.c rfl
  have e1 := (D0 w bel ⟨bd, 1, none⟩ hbd).trans hD.c1
  have e2 := (D0 w bel ⟨bd, 2, none⟩ hbd).trans hD.c2
  have e2a := (D0 w bel ⟨g2, o2 + m, none⟩ hg2).trans (hc2 m lo hlo)
  have e2b := (D0 w bel ⟨g2, o2 + (m + 1), none⟩ hg2).trans (hc2 (m + 1) hi hhi)
  have HR : Hid _ := And.intro hR (And.intro hD hl)
  replace bel : Hid _ := bel
  have HC : Hid _ := And.intro hc1 (And.intro hc4 (And.intro hnf (And.intro h4 h5)))
  clear hR hD hc1 hc2 hc4 hlo hhi hnf h4 h5 D0 hs hl
  go_enter Yba.func49, Yba.ntmps49
  go_wp2
  go_quiet (fail)
  obtain ⟨A, hA⟩ : ∃ A, A = (if k1 = lo then a1 else Option.map (fun x => x.add lo) a1) := ⟨_, rfl⟩
  rw [← hA]
  have HA : lo < hi → A = some ⟨g1, o1 + lo, none⟩ ∧ g1 < B := fun h => by
    obtain ⟨h1, h2⟩ := ha1 (by omega)
    rw [hA, if_neg (by omega), h1]
    exact ⟨by simp [Addr.add_lit], h2⟩
  clear hA ha1
  obtain ⟨L, hL⟩ : ∃ L, L = (d.events.drop lo).take (hi - lo) := ⟨_, rfl⟩
  have hLl : L.length = hi - lo := by rw [hL]; simp; omega
  have hLc : ∀ i x, L[i]? = some x → w0.cell? ⟨g1, o1 + lo + i, none⟩ = some (.int .i64 ((x : Nat) : Int)) := fun i x h => by
    rw [Nat.add_assoc]
    refine HC.out.1 (lo + i) x ?_
    rw [hL, List.getElem?_take] at h
    split at h
    · rwa [List.getElem?_drop] at h
    · cases h
  have hl := HR.out.2.2
  rw [← hL] at hl
  have HL : Hid _ := And.intro hLl (And.intro hLc hl)
  clear hL hLl hLc hl
  go_wp2
  go_loopw [4, 37] (fun x i wx => ∃ (k : Nat) (z : Int), k ≤ hi - lo ∧ i = .int .i64 k ∧ x = .int .i64 z ∧ (∃ q, wx = w.drewN q) ∧ scanP s (L.drop k) z = some l) (fun _ i _ => (hi - lo) - (intOf i).toNat)
  case atStart => exact ⟨0, -1, Nat.zero_le _, rfl, rfl, ⟨_, rfl⟩, by simpa using HL.out.2.2⟩
  case round =>
    obtain ⟨k, z, hk, rfl, rfl, ⟨q, rfl⟩, hsc⟩ := hrel
    by_cases hlt : k < hi - lo
    · obtain ⟨rfl, hg1⟩ := HA (by omega)
      obtain ⟨x, hx⟩ : ∃ x, L[k]? = some x := ⟨_, List.getElem?_eq_getElem (by rw [HL.out.1]; exact hlt)⟩
      have xc : w.cell? ⟨g1, o1 + lo + k, none⟩ = some (.int .i64 (x : Int)) := (bel.out.cell (p := ⟨g1, o1 + lo + k, none⟩) hg1).trans (HL.out.2.1 k x hx)
      have hdr : L.drop k = x :: L.drop (k + 1) := by
        obtain ⟨h1, h2⟩ := List.getElem?_eq_some_iff.1 hx
        rw [List.drop_eq_getElem_cons h1, h2]
      rw [hdr] at hsc
      simp only [scanP] at hsc
      split at hsc
      · rename_i mm ff hmm hff
        have xs : w.cell? ⟨b2, x, none⟩ = some (.int .i64 (mm : Int)) := cellB HR.out.1.h2 (natCells_get hmm)
        have xf : w.cell? ⟨b3, x, none⟩ = some (.int .i64 (ff : Int)) := cellB HR.out.1.h3 (natCells_get hff)
        have hxE : x < E := by have := (List.getElem?_eq_some_iff.1 hmm).1; have := HR.out.1.l2; omega
        replace hsc : Hid _ := hsc
        clear hmm hff hx hdr
        go_wp2
        go_quiet (fail)
        by_cases hmem : mm = s.member
        · subst hmem
          go_wp2
          go_roundw
          case rel => exact ⟨k + 1, max z (ff : Int), by omega, by go_num, rfl, ⟨_, rfl⟩, by simpa using hsc.out⟩
          case measure => simp [intOf]; omega
        · have hmem' : ¬ (mm : Int) = (s.member : Int) := by omega
          obtain rfl : l = never := by have := hsc.out; rw [if_neg hmem] at this; exact (Option.some.inj this).symm
          go_wp2
          have p4 : w.cell? ⟨bw, 4, none⟩ = some (.slice (some ⟨b4, 0, none⟩) n n) := cellB HR.out.1.c rfl
          have p5 : w.cell? ⟨bw, 5, none⟩ = some (.slice (some ⟨b5, 0, none⟩) n n) := cellB HR.out.1.c rfl
          have k4 : w.cell? ⟨b4, m, none⟩ = some (.int .i64 (x4 : Int)) := cellB HR.out.1.h4 (natCells_get HC.out.2.2.2.1)
          have k5 : w.cell? ⟨b5, m, none⟩ = some (.int .i64 x5) := cellB HR.out.1.h5 (intCells_get HC.out.2.2.2.2)
          have f4 : w.frozen? ⟨b4, m, none⟩ = false := freeB HR.out.1.h4
          have f5 : w.frozen? ⟨b5, m, none⟩ = false := freeB HR.out.1.h5
          have hmn : m < n := by have := (List.getElem?_eq_some_iff.1 HC.out.2.2.2.1).1; have := HR.out.1.l4; omega
          have d45 : ¬ b4 = b5 := hB.d.2.2.2.2.2.2.2.2.2
          have d54 : ¬ b5 = b4 := fun e => d45 e.symm
          go_region
          obtain ⟨W5, hW5⟩ : ∃ W, W = ((w.drewN (q + nq + 1)).setCell ⟨b4, m, none⟩ (.int .i64 (s.member : Int))).setCell ⟨b5, m, none⟩ (.int .i64 9223372036854775807) := ⟨_, rfl⟩
          rw [← hW5]
          have R5 : WRep B w0 W5 bw bd b2 b3 b4 b5 E n { s with done := s.done.set m s.member, latest := s.latest.set m never } vS := by
            rw [hW5]; exact (((HR.out.1.drewN _).set4 hB m s.member).set5 hB m never)
          have R5n := R5.below
          have y0 : W5.cell? ⟨bw, 0, none⟩ = some (.pointer (some ⟨bd, 0, none⟩)) := cellB R5.c rfl
          have y6 : W5.cell? ⟨bw, 6, none⟩ = some vS := cellB R5.c rfl
          have yd : W5.cell? ⟨bd, 4, none⟩ = some (.slice (some ⟨g4, o4, none⟩) d.nextFrom.length k4') := (R5n.cell (p := ⟨bd, 4, none⟩) hbd).trans HR.out.2.1.c4
          have yn : W5.cell? ⟨g4, o4 + m, none⟩ = some (.int .i64 (nf : Int)) := (R5n.cell (p := ⟨g4, o4 + m, none⟩) hg4).trans (HC.out.2.1 m nf HC.out.2.2.1)
          have y0a : ∀ o, (W5.alloc o).cell? ⟨bw, 0, none⟩ = some (.pointer (some ⟨bd, 0, none⟩)) := fun o => cellB (R5.alloc hB o).c rfl
          have y6a : ∀ o, (W5.alloc o).cell? ⟨bw, 6, none⟩ = some vS := fun o => cellB (R5.alloc hB o).c rfl
          have yda : ∀ o, (W5.alloc o).cell? ⟨bd, 4, none⟩ = some (.slice (some ⟨g4, o4, none⟩) d.nextFrom.length k4') := fun o => ((R5.alloc hB o).below.cell (p := ⟨bd, 4, none⟩) hbd).trans HR.out.2.1.c4
          have yna : ∀ o, (W5.alloc o).cell? ⟨g4, o4 + m, none⟩ = some (.int .i64 (nf : Int)) := fun o => ((R5.alloc hB o).below.cell (p := ⟨g4, o4 + m, none⟩) hg4).trans (HC.out.2.1 m nf HC.out.2.2.1)
          have hz := lt_of_block R5.c
          have hBz := hB.g.1
          replace R5 : Hid _ := R5
          clear hW5 R5n p4 p5 k4 k5 f4 f5 p0 p1 p2 p3 e1 e2 e2a e2b xc xs xf
          go_wp2
          go_region_law
            (refine step_append_lies _ (by rfl) _ _ _ (by rfl) B 142 i6 _ 2 16 Yba.underlying99 h6i h6z h6s h6b rfl (by omega) vS s.stack.length (pairCells s.stack) (by rfl) (by exact (R5.out.alloc hB _).drew.oS) ⟨W5.heap.size, 0, none⟩ 1 1 [.int .i64 (m : Int), .int .i64 (nf : Int)] (by rfl) (by rfl) (by exact cells_two _ _ _ _) (by intro u hu; simp at hu; rcases hu with rfl | rfl <;> rfl) (by omega) (by unfold maxLen; omega) (by omega) (by simp; omega) (W5.heap.size + 1) (by simp) ?_; intro gz cz wz hownz hgrowz hatz hltz; have x7 : wz.cell? ⟨bw, 6, none⟩ = some vS := cellB ((R5.out.alloc hB _).drew.keepS hgrowz (R5.out.alloc hB _).drew.c (by decide)) rfl; have n7 : wz.frozen? ⟨bw, 6, none⟩ = false := freeB ((R5.out.alloc hB _).drew.keepS hgrowz (R5.out.alloc hB _).drew.c (by decide)))
          all_goals
            have R6 := (R5.out.alloc hB _).drew.setS hB (l := s.stack ++ [(m, nf)]) (by rw [pairCells_append, List.length_append]; exact hownz) hgrowz
            have HF : Hid _ := R6
            clear hownz hgrowz R6 R5 y0 y6 yd yn y0a y6a yda yna
            go_wp2
            go_end0
            exact ⟨rfl, _, HF.out⟩
      · cases hsc
    · obtain rfl : k = hi - lo := by omega
      have hnil : L.drop (hi - lo) = [] := by rw [List.drop_eq_nil_iff, HL.out.1]; exact Nat.le_refl _
      rw [hnil] at hsc
      obtain rfl : z = l := by simpa [scanP] using hsc
      clear hsc hnil hk hlt
      go_wp2
      have p4 : w.cell? ⟨bw, 4, none⟩ = some (.slice (some ⟨b4, 0, none⟩) n n) := cellB HR.out.1.c rfl
      have p5 : w.cell? ⟨bw, 5, none⟩ = some (.slice (some ⟨b5, 0, none⟩) n n) := cellB HR.out.1.c rfl
      have k4 : w.cell? ⟨b4, m, none⟩ = some (.int .i64 (x4 : Int)) := cellB HR.out.1.h4 (natCells_get HC.out.2.2.2.1)
      have k5 : w.cell? ⟨b5, m, none⟩ = some (.int .i64 x5) := cellB HR.out.1.h5 (intCells_get HC.out.2.2.2.2)
      have f4 : w.frozen? ⟨b4, m, none⟩ = false := freeB HR.out.1.h4
      have f5 : w.frozen? ⟨b5, m, none⟩ = false := freeB HR.out.1.h5
      have hmn : m < n := by have := (List.getElem?_eq_some_iff.1 HC.out.2.2.2.1).1; have := HR.out.1.l4; omega
      have d45 : ¬ b4 = b5 := hB.d.2.2.2.2.2.2.2.2.2
      have d54 : ¬ b5 = b4 := fun e => d45 e.symm
      go_region
      obtain ⟨W5, hW5⟩ : ∃ W, W = ((w.drewN (q + 1)).setCell ⟨b4, m, none⟩ (.int .i64 (s.member : Int))).setCell ⟨b5, m, none⟩ (.int .i64 z) := ⟨_, rfl⟩
      rw [← hW5]
      have R5 : WRep B w0 W5 bw bd b2 b3 b4 b5 E n { s with done := s.done.set m s.member, latest := s.latest.set m z } vS := by
        rw [hW5]; exact (((HR.out.1.drewN _).set4 hB m s.member).set5 hB m z)
      have R5n := R5.below
      have y0 : W5.cell? ⟨bw, 0, none⟩ = some (.pointer (some ⟨bd, 0, none⟩)) := cellB R5.c rfl
      have y6 : W5.cell? ⟨bw, 6, none⟩ = some vS := cellB R5.c rfl
      have yd : W5.cell? ⟨bd, 4, none⟩ = some (.slice (some ⟨g4, o4, none⟩) d.nextFrom.length k4') := (R5n.cell (p := ⟨bd, 4, none⟩) hbd).trans HR.out.2.1.c4
      have yn : W5.cell? ⟨g4, o4 + m, none⟩ = some (.int .i64 (nf : Int)) := (R5n.cell (p := ⟨g4, o4 + m, none⟩) hg4).trans (HC.out.2.1 m nf HC.out.2.2.1)
      have y0a : ∀ o, (W5.alloc o).cell? ⟨bw, 0, none⟩ = some (.pointer (some ⟨bd, 0, none⟩)) := fun o => cellB (R5.alloc hB o).c rfl
      have y6a : ∀ o, (W5.alloc o).cell? ⟨bw, 6, none⟩ = some vS := fun o => cellB (R5.alloc hB o).c rfl
      have yda : ∀ o, (W5.alloc o).cell? ⟨bd, 4, none⟩ = some (.slice (some ⟨g4, o4, none⟩) d.nextFrom.length k4') := fun o => ((R5.alloc hB o).below.cell (p := ⟨bd, 4, none⟩) hbd).trans HR.out.2.1.c4
      have yna : ∀ o, (W5.alloc o).cell? ⟨g4, o4 + m, none⟩ = some (.int .i64 (nf : Int)) := fun o => ((R5.alloc hB o).below.cell (p := ⟨g4, o4 + m, none⟩) hg4).trans (HC.out.2.1 m nf HC.out.2.2.1)
      have hz := lt_of_block R5.c
      have hBz := hB.g.1
      replace R5 : Hid _ := R5
      clear hW5 R5n p4 p5 k4 k5 f4 f5 p0 p1 p2 p3 e1 e2 e2a e2b
      go_wp2
      go_region_law
        (refine step_append_lies _ (by rfl) _ _ _ (by rfl) B 142 i6 _ 2 16 Yba.underlying99 h6i h6z h6s h6b rfl (by omega) vS s.stack.length (pairCells s.stack) (by rfl) (by exact (R5.out.alloc hB _).drew.oS) ⟨W5.heap.size, 0, none⟩ 1 1 [.int .i64 (m : Int), .int .i64 (nf : Int)] (by rfl) (by rfl) (by exact cells_two _ _ _ _) (by intro u hu; simp at hu; rcases hu with rfl | rfl <;> rfl) (by omega) (by unfold maxLen; omega) (by omega) (by simp; omega) (W5.heap.size + 1) (by simp) ?_; intro gz cz wz hownz hgrowz hatz hltz; have x7 : wz.cell? ⟨bw, 6, none⟩ = some vS := cellB ((R5.out.alloc hB _).drew.keepS hgrowz (R5.out.alloc hB _).drew.c (by decide)) rfl; have n7 : wz.frozen? ⟨bw, 6, none⟩ = false := freeB ((R5.out.alloc hB _).drew.keepS hgrowz (R5.out.alloc hB _).drew.c (by decide)))
      all_goals
        have R6 := (R5.out.alloc hB _).drew.setS hB (l := s.stack ++ [(m, nf)]) (by rw [pairCells_append, List.length_append]; exact hownz) hgrowz
        have HF : Hid _ := R6
        clear hownz hgrowz R6 R5 y0 y6 yd yn y0a y6a yda yna
        go_wp2
        go_end0
        exact ⟨rfl, _, HF.out⟩
end Go.Proofs.Ybulkbewa
