/- condense (function 19) computes condP. -/
import Derived.Test.YbulkbewaCondLoop
import Derived.Deep.CutBlock
import Derived.Deep.DeepCutAuto
namespace Go.Proofs.Ybulkbewa
open Go.RowKit

theorem countP_length : ∀ {cs st st' : List Nat} {n : Nat}, countP cs st = some st' → st.length = n → st'.length = n
  | [], st, st', n, h, hn => by cases h; exact hn
  | c :: cs, st, st', n, h, hn => by
    rw [countP] at h
    split at h
    · split at h
      · exact countP_length h (by simpa using hn)
      · cases h
    · cases h
theorem sumP_length : ∀ {k c : Nat} {st st' : List Nat} {n : Nat}, sumP k c st = some st' → st.length = n → st'.length = n
  | 0, c, st, st', n, h, hn => by cases h; exact hn
  | k + 1, c, st, st', n, h, hn => by
    rw [sumP] at h
    split at h
    · split at h
      · exact sumP_length h (by simpa using hn)
      · cases h
    · cases h
theorem placeP_length : ∀ {cs : List Nat} {v : Nat} {a a' : List Nat × List Nat} {n m : Nat}, placeP cs v a = some a' → a.1.length = n → a.2.length = m → a'.1.length = n ∧ a'.2.length = m
  | [], v, a, a', n, m, h, hn, hm => by cases h; exact ⟨hn, hm⟩
  | c :: cs, v, a, a', n, m, h, hn, hm => by
    rw [placeP] at h
    split at h
    · split at h
      · exact placeP_length h (by simpa using hn) (by simpa using hm)
      · cases h
    · cases h

theorem upd45 {α : Type} (f : Nat → α) (a b a' b' : α) : upd (upd (upd (upd f 4 a) 5 b) 4 a') 5 b' = upd (upd f 4 a') 5 b' := by
  funext x
  by_cases h5 : x = 5
  · subst h5; rw [upd_same, upd_same]
  · rw [upd_other _ _ h5, upd_other _ _ h5]
    by_cases h4 : x = 4
    · subst h4; rw [upd_same, upd_same]
    · rw [upd_other _ _ h4, upd_other _ _ h5, upd_other _ _ h4, upd_other _ _ h4]
theorem Rooms.slnB {B : Nat} {w w2 : World} {V : Nat → Value} {X : Nat → List Nat} (h : Rooms B w V X) (hh : ∀ c g, (V c).ownBlock = some g → w2.heap[g]? = w.heap[g]?) (c : Nat) : SlN w.heap.size w2 (V c) (X c) := by
  have h2 := h.same hh
  obtain ⟨a, cap, hv, h1, h3⟩ := h.any c
  by_cases h0 : 0 < (X c).length
  · obtain ⟨g, cap', hv', _, _⟩ := h.form c h0
    have e := hv.symm.trans hv'
    cases e
    exact ⟨some ⟨g, 0, none⟩, g, 0, cap, hv, h1, h3, fun _ => ⟨rfl, (h.lt (c := c) (by rw [hv']; rfl)).2⟩, fun i x hx => by rw [Nat.zero_add]; exact h2.cell hv' hx⟩
  · exact ⟨a, 0, 0, cap, hv, h1, h3, fun h4 => absurd h4 h0, fun i x hx => by have := (List.getElem?_eq_some_iff.1 hx).1; omega⟩

set_option maxHeartbeats 6400000 in
set_option maxRecDepth 100000 in
theorem cond_any (w : World) (bc : Nat) (evs : List EV) (ps : List PastP) (inp : List Nat) (fuel : Nat) (d : DG) (vE vP vI : Value) (vp : Nat → Value)
    (hE : SlE w.heap.size w vE evs vp) (hP : SlP w.heap.size w vP ps) (hI : SlN w.heap.size w vI inp) (hc5 : w.cell? ⟨bc, 5, none⟩ = some vP) (hc6 : w.cell? ⟨bc, 6, none⟩ = some vI) (hbc : bc < w.heap.size)
    (hs : condP evs ps inp fuel = some d) :
    Calls Yba.prog 19 #[.pointer (some ⟨bc, 5, none⟩), vE] w fun e w' => ∃ bd v0 v1 v2 v3 v4, e = .returned (.pointer (some ⟨bd, 0, none⟩)) ∧ w.heap.size ≤ bd ∧ (∀ w2 : World, (∀ b, w.heap.size ≤ b → b < w'.heap.size → w2.heap[b]? = w'.heap[b]?) → DRep w'.heap.size w2 bd d v0 v1 v2 v3 v4) ∧ Below w.heap.size w w' := by
  obtain ⟨aE, bE, cE, rfl, hE1, hE2, hE3, hE4⟩ := hE
  obtain ⟨aP, bP, cP, rfl, hP1, hP2, hP3, hP4⟩ := hP
  obtain ⟨aI, bI, oI, cI, rfl, hI1, hI2, hI3, hI4⟩ := hI
  obtain ⟨a0, a1, sf, comp, st0, start, bp, kf, hb1, hb2, hev, hpa, hfl, htl, hcp, htn, hcn, hcl, hel, hct, hsm, hpl, hnd, rfl⟩ := condP_cases hs
  obtain ⟨i3, h3i, h3z, h3s, h3b⟩ := info_parts info3
  unfold big at hb1 hb2 htl hcn
  have hcl1 : comp.length ≤ a1.1.length := by omega
  have hcl2 : a1.1.length ≤ comp.length := by omega
  clear hcl
  obtain ⟨N, hN⟩ : ∃ N, N = w.heap.size := ⟨_, rfl⟩
  have hmk : ∀ W : World, (Instr.makeSlice 39 (.int .i64 0) (.int .i64 ((evs.length : Int) + (ps.length : Int) + 1))).run Yba.prog W = .ok (.slice (some ⟨W.heap.size, 0, none⟩) 0 (evs.length + ps.length + 1)) (W.alloc (.cells (natCells (List.replicate (evs.length + ps.length + 1) 0)).toArray 3)) := fun W => by
    rw [← make39c W _ (by omega)]; simp
  rw [← hN] at hE3 hP3 hI3 hbc
  rw [← hN] at hE4
  have HN : Hid _ := hN
  have HE : Hid _ := And.intro hE4 (And.intro hP4 hI4)
  have HS : Hid _ := And.intro hev (And.intro hpa (And.intro hcp (And.intro htn (And.intro hct (And.intro hsm (And.intro hpl hnd))))))
  clear hE4 hP4 hI4 hs hev hpa hcp htn hct hsm hpl hnd hN
  go_enter Yba.func19, Yba.ntmps19
  go_upto_block 0 with fail
  go_cut [6, 7] (fun vF vT wx => ∃ (V : Nat → Value) (X : Nat → List Nat), vF = V 0 ∧ vT = V 1 ∧ (∀ c, 2 ≤ c → V c = .slice none 0 0) ∧ CM N w wx V X ∧ X 0 = a0.1 ∧ X 1 = a0.2)
  case first =>
    go_wp2_with fail
    go_loopw [6, 7, 45] (fun vF vT i wx => ∃ (k : Nat) (V : Nat → Value) (X : Nat → List Nat), k ≤ evs.length ∧ i = .int .i64 k ∧ vF = V 0 ∧ vT = V 1 ∧ (∀ c, 2 ≤ c → V c = .slice none 0 0) ∧ CM N w wx V X ∧ evP evs.length (evs.drop k) (X 0, X 1) = some a0) (fun _ _ i _ => evs.length - (intOf i).toNat)
    case atStart =>
      refine ⟨0, upd (fun _ => .slice none 0 0) 0 (.slice (some ⟨w.heap.size, 0, none⟩) 0 (evs.length + ps.length + 1)), upd (fun _ => []) 0 [], Nat.zero_le _, rfl, rfl, rfl, fun c hc => upd_other _ _ (by omega), ⟨?_, ?_, ?_⟩, by simpa [upd] using HS.out.1⟩
      · refine Rooms.made ⟨fun c => World.ownsRow_nil _ _ _ _, fun c c' _ => .inl rfl⟩ (by have := HN.out; omega) rfl [] (by simp) (by unfold maxLen; omega) (by simp [natCells_length]) (by simp [natCells])
      · have := HN.out; subst this; exact (Below.refl _ w).alloc (Nat.le_refl _) _
      · have := HN.out; simp; omega
    case round =>
      clear hmk
      obtain ⟨k, V, X, hk, rfl, rfl, rfl, hnil, hM, hrun⟩ := hrel
      by_cases hlt : k < evs.length
      · obtain ⟨rfl, hbE⟩ := hE3 (by omega)
        obtain ⟨ev, hx⟩ : ∃ x, evs[k]? = some x := ⟨_, List.getElem?_eq_getElem hlt⟩
        have hdr : evs.drop k = ev :: evs.drop (k + 1) := by
          obtain ⟨h1, h2⟩ := List.getElem?_eq_some_iff.1 hx
          rw [List.drop_eq_getElem_cons h1, h2]
        rw [hdr, evP] at hrun
        split at hrun
        · rename_i hg
          obtain ⟨hg1, hg2, hg3⟩ := hg
          unfold big at hg1 hg2 hg3
          simp only at hg1 hg2
          obtain ⟨e0, e1, e2, e3, eN⟩ := HE.out.1 k ev hx
          obtain ⟨aQ, bQ, oQ, cQ, hvp, hQ1, hQ2, hQ3, hQ4⟩ := eN
          rw [hvp] at e3
          have f0 := (hM.b.cell (p := ⟨bE, k * 4, none⟩) hbE).trans e0
          have f1 := (hM.b.cell (p := ⟨bE, k * 4 + 1, none⟩) hbE).trans e1
          have f2 := (hM.b.cell (p := ⟨bE, k * 4 + 2, none⟩) hbE).trans e2
          have f3 := (hM.b.cell (p := ⟨bE, k * 4 + 3, none⟩) hbE).trans e3
          obtain ⟨aF, cF, hVF, hF1, hF2⟩ := hM.r.any 0
          obtain ⟨aT, cT, hVT, hT1, hT2⟩ := hM.r.any 1
          have hz := hM.s
          rw [hVF, hVT]
          have HM : Hid _ := And.intro hM (And.intro hnil hrun)
          have HQ : Hid _ := And.intro hQ4 hg3
          clear hM hnil hrun hQ4 hx hdr e0 e1 e2 e3 hg3
          go_wp2_with (at_builtin; refine wpList_append_own_at _ rfl (.tmp 49) (.tmp 52) 39 rfl N 3 i3 (.int .i64 0) 1 8 Yba.underlying39 h3i h3z h3s h3b rfl (by decide) (.slice aF (X 0).length cF) (X 0).length (natCells (X 0)) rfl ?c0 ⟨wr.heap.size + 1, 0, none⟩ 1 1 [.int .i64 ((X 1).length : Int)] rfl rfl ?c1 (by simp [Value.oneCell']) ?c2 ?c3 ?c4 ?_)
          case c0 => rw [← hVF]; exact ((HM.out.1.alloc _).alloc _).r.own 0
          case c2 => unfold maxLen; omega
          case c3 => omega
          case c4 => omega
          intro v1 W3 O3 G3 hne A3
          obtain ⟨g1, cap1, rfl⟩ := Joins.ownsRow_form O3 (by omega)
          have M3 : CM N w W3 (upd V 0 (.slice (some ⟨g1, 0, none⟩) ((X 0).length + 1) cap1)) (upd X 0 (X 0 ++ [(X 1).length])) := ((HM.out.1.alloc _).alloc _).appended (c := 0) hVF (news := [(X 1).length]) rfl O3 G3 (by simpa using A3)
          have b9 : W3.heap[wr.heap.size]? = some (.cells #[.int .i64 ev.id, .bool ev.bc, .int .i64 (ev.dl : Int), .slice aQ ev.pasts.length cQ] 84 (0, 0)) := by
            refine ((HM.out.1.alloc _).alloc _).r.keep (c := 0) (by rw [hVF]; exact G3) ?_ (by decide)
            rw [Below.heap_alloc _ _ _ (by simp)]
            exact heap_alloc_new _ _
          have c93 : W3.cell? ⟨wr.heap.size, 3, none⟩ = some (.slice aQ ev.pasts.length cQ) := cellB b9 rfl
          replace M3 : Hid _ := M3
          clear hne A3 O3 G3 f0 f1 f2 f3 b9
          go_wp2
          go_loopw [7, 57] (fun vT i wx => ∃ (k2 : Nat) (V' : Nat → Value) (X' : Nat → List Nat), k2 ≤ ev.pasts.length ∧ i = .int .i64 k2 ∧ vT = V' 1 ∧ V' 0 = .slice (some ⟨g1, 0, none⟩) ((X 0).length + 1) cap1 ∧ X' 0 = X 0 ++ [(X 1).length] ∧ X' 1 = X 1 ++ (ev.pasts.take k2).map (evs.length + ·) ∧ (∀ c, 2 ≤ c → V' c = .slice none 0 0) ∧ CM N w wx V' X') (fun _ i _ => ev.pasts.length - (intOf i).toNat)
          case atStart => exact ⟨0, _, _, Nat.zero_le _, rfl, (by rw [upd_other _ _ (by decide)]; exact hVT.symm), (by exact upd_same _ _ _), (by exact upd_same _ _ _), (by rw [upd_other _ _ (by decide)]; simp), (by intro c hc; rw [upd_other _ _ (by omega)]; exact HM.out.2.1 c hc), M3.out⟩
          case round =>
            clear M3 c93
            obtain ⟨k2, V', X', hk2, rfl, rfl, hV0, hX0, hX1, hnil, hM⟩ := hrel
            by_cases hlt2 : k2 < ev.pasts.length
            · obtain ⟨rfl, hbQ⟩ := hQ3 (by omega)
              obtain ⟨x, hx⟩ : ∃ x, ev.pasts[k2]? = some x := ⟨_, List.getElem?_eq_getElem hlt2⟩
              have hxb : x < 1000000000 := HQ.out.2 x (List.mem_of_getElem? hx)
              have xc := (hM.b.cell (p := ⟨bQ, oQ + k2, none⟩) hbQ).trans (HQ.out.1 k2 x hx)
              obtain ⟨aT2, cT2, hVT2, _, _⟩ := hM.r.any 1
              have hlen : (X' 1).length = (X 1).length + k2 := by rw [hX1]; simp; omega
              have htk : ev.pasts.take (k2 + 1) = ev.pasts.take k2 ++ [x] := by rw [List.take_add_one, hx]; rfl
              have hz2 := hM.s
              rw [hVT2, hlen]
              have HK : Hid _ := And.intro hM (And.intro hV0 (And.intro hX0 (And.intro hX1 (And.intro hnil (And.intro hVT2 htk)))))
              rw [hlen] at hVT2
              have HL : Hid _ := And.intro hlen hVT2
              clear hM hV0 hX0 hX1 hnil hVT2 htk hx hlen
              go_wp2_with (at_builtin; refine wpList_append_own_at _ rfl (.tmp 61) (.tmp 65) 39 rfl N 3 i3 (.int .i64 0) 1 8 Yba.underlying39 h3i h3z h3s h3b rfl (by decide) (.slice aT2 ((X 1).length + k2) cT2) ((X 1).length + k2) (natCells (X' 1)) rfl ?d0 ⟨wr.heap.size, 0, none⟩ 1 1 [.int .i64 ((evs.length : Int) + (x : Int))] rfl rfl ?d1 (by simp [Value.oneCell']) ?d2 ?d3 ?d4 ?_)
              case d0 => rw [← HL.out.2, ← HL.out.1]; exact (HK.out.1.alloc _).r.own 1
              case d2 => unfold maxLen; omega
              case d3 => omega
              case d4 => omega
              intro v2 W4 O4 G4 hne A4
              have M4 : CM N w W4 (upd V' 1 v2) (upd X' 1 (X' 1 ++ [evs.length + x])) := (HK.out.1.alloc _).appended (c := 1) HL.out.2 (news := [evs.length + x]) rfl (by rw [HL.out.1]; simpa [natCells] using O4) G4 (by simpa using A4)
              replace M4 : Hid _ := M4
              clear hne A4 O4 G4 xc
              go_wp2
              go_roundw
              case rel =>
                obtain ⟨_, hV0, hX0, hX1, hnil, _, htk⟩ := HK.out
                refine ⟨k2 + 1, _, _, by omega, by go_num, (upd_same _ _ _).symm, ?_, ?_, ?_, ?_, M4.out⟩
                · rw [upd_other _ _ (by decide)]; exact hV0
                · rw [upd_other _ _ (by decide)]; exact hX0
                · rw [upd_same, hX1, htk, List.map_append, List.append_assoc]; rfl
                · intro c hc; rw [upd_other _ _ (by omega)]; exact hnil c hc
              case measure => simp [intOf]; omega
            · obtain rfl : k2 = ev.pasts.length := by omega
              rw [List.take_length] at hX1
              have HK : Hid _ := And.intro hM (And.intro hV0 (And.intro hX0 (And.intro hX1 hnil)))
              clear hM hV0 hX0 hX1 hnil
              go_wp2
              go_roundw
              case rel =>
                obtain ⟨hM, hV0, hX0, hX1, hnil⟩ := HK.out
                exact ⟨k + 1, V', X', by omega, by go_num, hV0.symm, rfl, hnil, hM, by rw [hX0, hX1]; exact HM.out.2.2⟩
              case measure => simp [intOf]; omega
        · cases hrun
      · obtain rfl : k = evs.length := by omega
        rw [List.drop_length, evP] at hrun
        have HK : Hid _ := And.intro hM (And.intro hnil hrun)
        clear hM hnil hrun
        go_wp2
        go_meet
        obtain ⟨hM, hnil, hrun⟩ := HK.out
        cases hrun
        exact ⟨V, X, rfl, rfl, hnil, hM, rfl, rfl⟩
  case rest =>
    clear hmk
    obtain ⟨V, X, rfl, rfl, hnil, hM, hX0, hX1⟩ := hcut
    have g5 := (hM.b.cell (p := ⟨bc, 5, none⟩) hbc).trans hc5
    go_upto_block 4 with fail
    go_cut [6, 7] (fun vF vT wx => ∃ (V : Nat → Value) (X : Nat → List Nat), vF = V 0 ∧ vT = V 1 ∧ (∀ c, 2 ≤ c → V c = .slice none 0 0) ∧ CM N w wx V X ∧ X 0 = a1.1 ∧ X 1 = a1.2)
    case first =>
      clear g5
      go_wp2_with fail
      go_loopw [6, 7, 74] (fun vF vT i wx => ∃ (k : Nat) (V : Nat → Value) (X : Nat → List Nat), k ≤ ps.length ∧ i = .int .i64 k ∧ vF = V 0 ∧ vT = V 1 ∧ (∀ c, 2 ≤ c → V c = .slice none 0 0) ∧ CM N w wx V X ∧ pastsP evs.length inp (ps.drop k) (X 0, X 1) = some a1) (fun _ _ i _ => ps.length - (intOf i).toNat)
      case atStart => exact ⟨0, V, X, Nat.zero_le _, rfl, rfl, rfl, hnil, hM, by rw [hX0, hX1]; exact HS.out.2.1⟩
      case round =>
        clear hM hnil hX0 hX1
        obtain ⟨k, V, X, hk, rfl, rfl, rfl, hnil, hM, hrun⟩ := hrel
        by_cases hlt : k < ps.length
        · obtain ⟨rfl, hbP⟩ := hP3 (by omega)
          obtain ⟨p, hx⟩ : ∃ x, ps[k]? = some x := ⟨_, List.getElem?_eq_getElem hlt⟩
          have hdr : ps.drop k = p :: ps.drop (k + 1) := by
            obtain ⟨h1, h2⟩ := List.getElem?_eq_some_iff.1 hx
            rw [List.drop_eq_getElem_cons h1, h2]
          rw [hdr, pastsP] at hrun
          split at hrun
          · rename_i hg
            obtain ⟨hg1, hg2, hg3, hg4, hg5⟩ := hg
            unfold big at hg3 hg4
            simp only at hg3 hg4
            obtain ⟨rfl, hbI⟩ := hI3 (by omega)
            have hw1 : p.hi ≤ cI := by omega
            have hw2 : p.lo ≤ p.hi := by omega
            have hw3 : ¬ cI = p.lo := by omega
            obtain ⟨e0, e1, e2⟩ := HE.out.2.1 k p hx
            have f0 := (hM.b.cell (p := ⟨bP, k * 3, none⟩) hbP).trans e0
            have f1 := (hM.b.cell (p := ⟨bP, k * 3 + 1, none⟩) hbP).trans e1
            have f2 := (hM.b.cell (p := ⟨bP, k * 3 + 2, none⟩) hbP).trans e2
            obtain ⟨aF, cF, hVF, hF1, hF2⟩ := hM.r.any 0
            obtain ⟨aT, cT, hVT, hT1, hT2⟩ := hM.r.any 1
            have hz := hM.s
            rw [hVF, hVT]
            have HM : Hid _ := And.intro hM (And.intro hnil hrun)
            clear hM hnil hrun hx hdr e0 e1 e2
            go_wp2_with (at_builtin; refine wpList_append_own_at _ rfl (.tmp 78) (.tmp 81) 39 rfl N 3 i3 (.int .i64 0) 1 8 Yba.underlying39 h3i h3z h3s h3b rfl (by decide) (.slice aF (X 0).length cF) (X 0).length (natCells (X 0)) rfl ?p0 ⟨wr.heap.size + 1, 0, none⟩ 1 1 [.int .i64 ((X 1).length : Int)] rfl rfl ?p1 (by simp [Value.oneCell']) ?p2 ?p3 ?p4 ?_)
            case p0 => rw [← hVF]; exact ((HM.out.1.alloc _).alloc _).r.own 0
            case p2 => unfold maxLen; omega
            case p3 => omega
            case p4 => omega
            intro v1 W3 O3 G3 hne A3
            obtain ⟨g1, cap1, rfl⟩ := Joins.ownsRow_form O3 (by omega)
            have M3 : CM N w W3 (upd V 0 (.slice (some ⟨g1, 0, none⟩) ((X 0).length + 1) cap1)) (upd X 0 (X 0 ++ [(X 1).length])) := ((HM.out.1.alloc _).alloc _).appended (c := 0) hVF (news := [(X 1).length]) rfl O3 G3 (by simpa using A3)
            obtain ⟨b13, hb13⟩ : ∃ b, b = wr.heap.size := ⟨_, rfl⟩
            have b13c : W3.heap[b13]? = some (.cells #[.int .i64 p.prev, .int .i64 (p.lo : Int), .int .i64 (p.hi : Int)] 110 (0, 0)) := by
              rw [hb13]
              refine ((HM.out.1.alloc _).alloc _).r.keep (c := 0) (by rw [hVF]; exact G3) ?_ (by decide)
              rw [Below.heap_alloc _ _ _ (by simp)]
              exact heap_alloc_new _ _
            rw [← hb13]
            have c0 : W3.cell? ⟨b13, 0, none⟩ = some (.int .i64 p.prev) := cellB b13c rfl
            obtain ⟨V5, hV5⟩ : ∃ V5, V5 = upd V 0 (.slice (some ⟨g1, 0, none⟩) ((X 0).length + 1) cap1) := ⟨_, rfl⟩
            obtain ⟨X5, hX5⟩ : ∃ X5, X5 = upd X 0 (X 0 ++ [(X 1).length]) := ⟨_, rfl⟩
            have hV50 : V5 0 = .slice (some ⟨g1, 0, none⟩) ((X 0).length + 1) cap1 := by rw [hV5, upd_same]
            have hX50 : X5 0 = X 0 ++ [(X 1).length] := by rw [hX5, upd_same]
            have hV51 : V5 1 = .slice aT (X 1).length cT := by rw [hV5, upd_other _ _ (by decide)]; exact hVT
            have hX51' : X5 1 = X 1 := by rw [hX5, upd_other _ _ (by decide)]
            have hnil5 : ∀ c, 2 ≤ c → V5 c = .slice none 0 0 := fun c hc => by rw [hV5, upd_other _ _ (by omega)]; exact HM.out.2.1 c hc
            rw [← hV5, ← hX5] at M3
            clear hne A3 O3 G3 f0 f1 f2 hb13 hV5 hX5
            by_cases hpv : 0 ≤ p.prev
            · have hpr : prevP evs.length p = [evs.length + p.prev.toNat] := by simp [prevP, hpv]
              obtain ⟨pn, hpn⟩ : ∃ pn : Nat, p.prev = (pn : Int) := ⟨p.prev.toNat, by omega⟩
              have hpn' : p.prev.toNat = pn := by omega
              rw [hpn'] at hpr
              rw [hpn] at c0 b13c hg5
              have HB13 : Hid _ := b13c
              have M3' : Hid _ := M3
              have hz3 := M3.s
              clear M3 b13c hpv
              go_wp2_with (at_builtin; refine wpList_append_own_at _ rfl (.tmp 86) (.tmp 91) 39 rfl N 3 i3 (.int .i64 0) 1 8 Yba.underlying39 h3i h3z h3s h3b rfl (by decide) (.slice aT (X 1).length cT) (X 1).length (natCells (X 1)) rfl ?q0 ⟨W3.heap.size, 0, none⟩ 1 1 [.int .i64 ((evs.length : Int) + (pn : Int))] rfl rfl ?q1 (by simp [Value.oneCell']) ?q2 ?q3 ?q4 ?_)
              case q0 => rw [← hV51, ← hX51']; exact (M3'.out.alloc _).r.own 1
              case q1 => exact cells_one _ _ _
              case q2 => unfold maxLen; omega
              case q3 => omega
              case q4 => simp only [World.size_alloc]; omega
              intro v2 W5 O5 G5 hne A5
              obtain ⟨g2, cap2, rfl⟩ := Joins.ownsRow_form O5 (by omega)
              have M5 := (M3'.out.alloc _).appended (c := 1) hV51 (news := [evs.length + pn]) rfl (by rw [hX51']; simpa [natCells] using O5) G5 (by simpa using A5)
              have b13c : W5.heap[b13]? = some (.cells #[.int .i64 (pn : Int), .int .i64 (p.lo : Int), .int .i64 (p.hi : Int)] 110 (0, 0)) :=
                (M3'.out.alloc _).r.keep (c := 1) (by rw [hV51]; exact G5) ((Below.heap_alloc _ _ _ (Array.getElem?_eq_some_iff.1 HB13.out).1).trans HB13.out) (by decide)
              obtain ⟨V6, hV6⟩ : ∃ V6, V6 = upd V5 1 (.slice (some ⟨g2, 0, none⟩) ((X 1).length + 1) cap2) := ⟨_, rfl⟩
              obtain ⟨X6, hX6⟩ : ∃ X6, X6 = upd X5 1 (X5 1 ++ [evs.length + pn]) := ⟨_, rfl⟩
              rw [← hV6, ← hX6] at M5
              have hV60 : V6 0 = .slice (some ⟨g1, 0, none⟩) ((X 0).length + 1) cap1 := by rw [hV6, upd_other _ _ (by decide)]; exact hV50
              have hX60 : X6 0 = X 0 ++ [(X 1).length] := by rw [hX6, upd_other _ _ (by decide)]; exact hX50
              have hV61 : V6 1 = .slice (some ⟨g2, 0, none⟩) ((X 1).length + 1) cap2 := by rw [hV6, upd_same]
              have hX61 : X6 1 = X 1 ++ prevP evs.length p := by rw [hX6, upd_same, hX51', hpr]
              have hX6l : (X6 1).length = (X 1).length + 1 := by rw [hX61, hpr]; simp
              have hnil6 : ∀ c, 2 ≤ c → V6 c = .slice none 0 0 := fun c hc => by rw [hV6, upd_other _ _ (by omega)]; exact hnil5 c hc
              replace M5 : Hid _ := M5
              clear hne A5 O5 G5 c0 hV6 hX6 HB13 M3' hV50 hX50 hV51 hX51' hnil5
              go_wp2
              have M5' := M5.out
              have gl : W5.cell? ⟨b13, 1, none⟩ = some (.int .i64 (p.lo : Int)) := cellB b13c rfl
              have gh : W5.cell? ⟨b13, 2, none⟩ = some (.int .i64 (p.hi : Int)) := cellB b13c rfl
              have g6 := (M5'.b.cell (p := ⟨bc, 6, none⟩) hbc).trans hc6
              have hz5 := M5'.s
              have hnews : ∀ (j : Nat) (u : Value), (natCells ((inp.drop p.lo).take (p.hi - p.lo)))[j]? = some u → W5.cell? ((⟨bI, oI + p.lo, none⟩ : Addr).add j) = some u := fun j u hu => by
                rw [Addr.add_lit]
                refine (M5'.b.cell (p := ⟨bI, oI + p.lo + j, none⟩) hbI).trans ?_
                simp only [natCells, List.getElem?_map, Option.map_eq_some_iff] at hu
                obtain ⟨x, hx, rfl⟩ := hu
                rw [Nat.add_assoc]
                refine HE.out.2.2 (p.lo + j) x ?_
                rw [List.getElem?_take] at hx
                split at hx
                · rwa [List.getElem?_drop] at hx
                · cases hx
              have hnl : (natCells ((inp.drop p.lo).take (p.hi - p.lo))).length = (p.hi - p.lo) * 1 := by rw [natCells_length]; simp; omega
              have hn1 : ∀ u ∈ natCells ((inp.drop p.lo).take (p.hi - p.lo)), u.oneCell' = true := fun u hu => by simp only [natCells, List.mem_map] at hu; obtain ⟨x, _, rfl⟩ := hu; rfl
              have HT5 : Hid (W5.ownsRow N 3 1 (.slice (some ⟨g2, 0, none⟩) ((X 1).length + 1) cap2) ((X 1).length + 1) (natCells (X6 1))) := by have h := M5'.r.own 1; rw [hV61, hX6l] at h; exact h
              replace hnews : Hid _ := hnews
              replace hn1 : Hid _ := hn1
              clear b13c M5'
              go_region_law
                (refine step_append_lies _ (by rfl) _ _ _ (by rfl) N 3 i3 _ 1 8 Yba.underlying39 h3i h3z h3s h3b rfl (by omega) (.slice (some ⟨g2, 0, none⟩) ((X 1).length + 1) cap2) ((X 1).length + 1) (natCells (X6 1)) (by rfl) (by exact HT5.out) ⟨bI, oI + p.lo, none⟩ (p.hi - p.lo) (cI - p.lo) (natCells ((inp.drop p.lo).take (p.hi - p.lo))) (by rfl) hnl (by exact hnews.out) hn1.out (by omega) (by unfold maxLen; omega) (by omega) (by simpa using hz5) W5.heap.size (by simp) ?_; intro gz cz wz hownz hgrowz hatz hltz)
              all_goals
                have M6 : CM N w wz (upd V6 1 (.slice (some ⟨gz, 0, none⟩) (((X 1).length + 1) + (p.hi - p.lo)) cz)) (upd X6 1 (X6 1 ++ (inp.drop p.lo).take (p.hi - p.lo))) := M5.out.drew.appended (c := 1) hV61 (news := (inp.drop p.lo).take (p.hi - p.lo)) (by simpa [natCells_length] using hnl) (by rw [hX6l]; exact hownz) hgrowz (by rcases hatz with h | h; exact .inl h.symm; exact .inr (by rw [h]; rfl))
                replace M6 : Hid _ := M6
                clear hownz hgrowz hatz gl gh g6
                go_wp2
                go_roundw
                case rel =>
                  refine ⟨k + 1, _, _, by omega, by go_num, ?_, (upd_same _ _ _).symm, ?_, M6.out, ?_⟩
                  · rw [upd_other _ _ (by decide)]; exact hV60.symm
                  · intro c hc; rw [upd_other _ _ (by omega)]; exact hnil6 c hc
                  · rw [upd_other _ _ (by decide), upd_same, hX60, hX61]; exact HM.out.2.2
                case measure => simp [intOf]; omega
            · have hpr : prevP evs.length p = [] := by simp [prevP, hpv]
              have hX51 : X5 1 = X 1 ++ prevP evs.length p := by rw [hX51', hpr, List.append_nil]
              have hX5l : (X5 1).length = (X 1).length := by rw [hX51']
              obtain ⟨W5, hW5⟩ : ∃ W, W = W3 := ⟨_, rfl⟩
              rw [← hW5] at M3 b13c c0 ⊢
              have M5 : Hid _ := M3
              clear M3 hW5
              go_wp2
              have M5' := M5.out
              have gl : W5.cell? ⟨b13, 1, none⟩ = some (.int .i64 (p.lo : Int)) := cellB b13c rfl
              have gh : W5.cell? ⟨b13, 2, none⟩ = some (.int .i64 (p.hi : Int)) := cellB b13c rfl
              have g6 := (M5'.b.cell (p := ⟨bc, 6, none⟩) hbc).trans hc6
              have hz5 := M5'.s
              have hnews : ∀ (j : Nat) (u : Value), (natCells ((inp.drop p.lo).take (p.hi - p.lo)))[j]? = some u → W5.cell? ((⟨bI, oI + p.lo, none⟩ : Addr).add j) = some u := fun j u hu => by
                rw [Addr.add_lit]
                refine (M5'.b.cell (p := ⟨bI, oI + p.lo + j, none⟩) hbI).trans ?_
                simp only [natCells, List.getElem?_map, Option.map_eq_some_iff] at hu
                obtain ⟨x, hx, rfl⟩ := hu
                rw [Nat.add_assoc]
                refine HE.out.2.2 (p.lo + j) x ?_
                rw [List.getElem?_take] at hx
                split at hx
                · rwa [List.getElem?_drop] at hx
                · cases hx
              have hnl : (natCells ((inp.drop p.lo).take (p.hi - p.lo))).length = (p.hi - p.lo) * 1 := by rw [natCells_length]; simp; omega
              have hn1 : ∀ u ∈ natCells ((inp.drop p.lo).take (p.hi - p.lo)), u.oneCell' = true := fun u hu => by simp only [natCells, List.mem_map] at hu; obtain ⟨x, _, rfl⟩ := hu; rfl
              have HT5 : Hid (W5.ownsRow N 3 1 (.slice aT (X 1).length cT) (X 1).length (natCells (X5 1))) := by have h := M5'.r.own 1; rw [hV51, hX5l] at h; exact h
              replace hnews : Hid _ := hnews
              replace hn1 : Hid _ := hn1
              clear b13c M5'
              go_region_law
                (refine step_append_lies _ (by rfl) _ _ _ (by rfl) N 3 i3 _ 1 8 Yba.underlying39 h3i h3z h3s h3b rfl (by omega) (.slice aT (X 1).length cT) (X 1).length (natCells (X5 1)) (by rfl) (by exact HT5.out) ⟨bI, oI + p.lo, none⟩ (p.hi - p.lo) (cI - p.lo) (natCells ((inp.drop p.lo).take (p.hi - p.lo))) (by rfl) hnl (by exact hnews.out) hn1.out (by omega) (by unfold maxLen; omega) (by omega) (by simpa using hz5) W5.heap.size (by simp) ?_; intro gz cz wz hownz hgrowz hatz hltz)
              all_goals
                have M6 : CM N w wz (upd V5 1 (.slice (some ⟨gz, 0, none⟩) ((X 1).length + (p.hi - p.lo)) cz)) (upd X5 1 (X5 1 ++ (inp.drop p.lo).take (p.hi - p.lo))) := M5.out.drew.appended (c := 1) hV51 (news := (inp.drop p.lo).take (p.hi - p.lo)) (by simpa [natCells_length] using hnl) (by rw [hX5l]; exact hownz) hgrowz (by rcases hatz with h | h; exact .inl h.symm; exact .inr (by rw [h]; rfl))
                replace M6 : Hid _ := M6
                clear hownz hgrowz hatz gl gh g6
                go_wp2
                go_roundw
                case rel =>
                  refine ⟨k + 1, _, _, by omega, by go_num, ?_, (upd_same _ _ _).symm, ?_, M6.out, ?_⟩
                  · rw [upd_other _ _ (by decide)]; exact hV50.symm
                  · intro c hc; rw [upd_other _ _ (by omega)]; exact hnil5 c hc
                  · rw [upd_other _ _ (by decide), upd_same, hX50, hX51]; exact HM.out.2.2
                case measure => simp [intOf]; omega
          · cases hrun
        · obtain rfl : k = ps.length := by omega
          rw [List.drop_length, pastsP] at hrun
          have HK : Hid _ := And.intro hM (And.intro hnil hrun)
          clear hM hnil hrun
          go_wp2
          go_meet
          obtain ⟨hM, hnil, hrun⟩ := HK.out
          cases hrun
          exact ⟨V, X, rfl, rfl, hnil, hM, rfl, rfl⟩
    case rest =>
      clear hM hnil hX0 hX1 g5
      obtain ⟨V, X, rfl, rfl, hnil, hM, hX0, hX1⟩ := hcut
      obtain ⟨aF, cF, hVF, hF1, hF2⟩ := hM.r.any 0
      obtain ⟨aT, cT, hVT, hT1, hT2⟩ := hM.r.any 1
      rw [hX0] at hVF hF1
      rw [hX1] at hVT hT1
      rw [hVF, hVT]
      have hz := hM.s
      have hmk4 : ∀ W : World, (Instr.makeSlice 39 (.int .i64 ((sf.cnt : Int) + 1)) (.int .i64 ((sf.cnt : Int) + 1))).run Yba.prog W = .ok (.slice (some ⟨W.heap.size, 0, none⟩) (sf.cnt + 1) (sf.cnt + 1)) (W.alloc (.cells (natCells (List.replicate (sf.cnt + 1) 0)).toArray 3)) := fun W => make39 W (sf.cnt + 1) (by omega)
      have HM : Hid _ := And.intro hM (And.intro hnil (And.intro hX0 hX1))
      clear hM hnil hX0 hX1
      go_wp2_with (at_builtin; refine wpList_append_own_at _ rfl (.tmp 105) (.tmp 108) 39 rfl N 3 i3 (.int .i64 0) 1 8 Yba.underlying39 h3i h3z h3s h3b rfl (by decide) (.slice aF a1.1.length cF) a1.1.length (natCells a1.1) rfl ?r0 ⟨wc.heap.size, 0, none⟩ 1 1 [.int .i64 (a1.2.length : Int)] rfl rfl ?r1 (by simp [Value.oneCell']) ?r2 ?r3 ?r4 ?_)
      case r0 => rw [← hVF, ← HM.out.2.2.1]; exact (HM.out.1.alloc _).r.own 0
      case r1 => exact cells_one _ _ _
      case r2 => unfold maxLen; omega
      case r3 => omega
      case r4 => simp only [World.size_alloc]; omega
      intro v1 W3 O3 G3 hne A3
      obtain ⟨gF, capF, rfl⟩ := Joins.ownsRow_form O3 (by omega)
      obtain ⟨fr, hfr⟩ : ∃ fr, fr = a1.1 ++ [a1.2.length] := ⟨_, rfl⟩
      have hfrl : fr.length = a1.1.length + 1 := by rw [hfr]; simp
      have M3 : CM N w W3 (upd V 0 (.slice (some ⟨gF, 0, none⟩) fr.length capF)) (upd X 0 fr) := by
        have := (HM.out.1.alloc _).appended (c := 0) hVF (news := [a1.2.length]) rfl (by rw [HM.out.2.2.1]; exact O3) G3 (by simpa using A3)
        rw [HM.out.2.2.1, ← hfr] at this
        rw [hfrl]
        exact this
      rw [← hfrl]
      have hfr1 : fr.length ≤ a1.1.length + 1 := by omega
      have hfr2 : a1.1.length + 1 ≤ fr.length := by omega
      clear hfrl
      obtain ⟨bT, hbT, hcT⟩ := M3.r.read (c := 1) (a := aT) (n := a1.2.length) (cap := cT) (by rw [upd_other _ _ (by decide)]; exact hVT)
      rw [upd_other _ _ (by decide), HM.out.2.2.2] at hbT hcT
      have hFb := (M3.r.lt (c := 0) (g := gF) (by rw [upd_same]; rfl)).2
      have hcmp := comp_any W3 fr a1.2 gF capF aT bT cT fuel sf (by omega) (by omega) hFb (fun i n h => M3.r.cell (c := 0) (upd_same _ _ _) (by rw [upd_same]; exact h)) hbT hcT (by omega) (by rw [hfr]; exact HS.out.2.2.1)
      rw [show fr.length - 1 = comp.length by omega] at hcmp
      have hcmpH : Hid _ := And.intro hcmp M3
      have HFR : Hid _ := hfr
      clear hcmp M3 hne A3 O3 G3 hbT hcT hfr
      go_wp2_with fail
      refine hcmpH.out.1.mono ?_
      rintro e W4 ⟨rfl, hc4, hB4⟩
      obtain ⟨gc, hgc⟩ : ∃ g, g = W3.heap.size + 1 := ⟨_, rfl⟩
      rw [← hgc] at hc4 ⊢
      have M4 : CM N w W4 (upd (upd V 0 (.slice (some ⟨gF, 0, none⟩) fr.length capF)) 2 (.slice (some ⟨gc, 0, none⟩) comp.length comp.length)) (upd (upd X 0 fr) 2 comp) := by
        refine (hcmpH.out.2.called hB4).adopt (B' := W3.heap.size) ⟨by rw [natCells_length, Nat.mul_one], .inr ⟨gc, comp.length, (natCells comp).toArray, rfl, by omega, ?_, Nat.le_refl _, by unfold maxLen; omega, by simp [natCells_length], by rw [List.toList_toArray, List.take_of_length_le (by rw [natCells_length, Nat.mul_one]; exact Nat.le_refl _)]⟩⟩ hcmpH.out.2.s (fun c g hg => (hcmpH.out.2.r.lt hg).2)
        rw [hc4, toNats_cells HS.out.2.2.2.1]
      clear hcmpH hc4 hB4
      have hz4 := M4.s
      obtain ⟨gs, hgs⟩ : ∃ g, g = W4.heap.size := ⟨_, rfl⟩
      have M5 := M4.made (c := 3) (by rw [upd_other _ _ (by decide), upd_other _ _ (by decide)]; exact HM.out.2.1 3 (by decide)) (sf.cnt + 1) (by omega)
      rw [← hgs] at M5
      obtain ⟨V4, hV4⟩ : ∃ V4, V4 = upd (upd (upd V 0 (.slice (some ⟨gF, 0, none⟩) fr.length capF)) 2 (.slice (some ⟨gc, 0, none⟩) comp.length comp.length)) 3 (.slice (some ⟨gs, 0, none⟩) (sf.cnt + 1) (sf.cnt + 1)) := ⟨_, rfl⟩
      obtain ⟨X4, hX4⟩ : ∃ X4, X4 = upd (upd (upd X 0 fr) 2 comp) 3 (List.replicate (sf.cnt + 1) 0) := ⟨_, rfl⟩
      rw [← hV4, ← hX4] at M5
      have v0 : V4 0 = .slice (some ⟨gF, 0, none⟩) fr.length capF := by rw [hV4, upd_other _ _ (by decide), upd_other _ _ (by decide), upd_same]
      have v1 : V4 1 = .slice aT a1.2.length cT := by rw [hV4, upd_other _ _ (by decide), upd_other _ _ (by decide), upd_other _ _ (by decide)]; exact hVT
      have v2 : V4 2 = .slice (some ⟨gc, 0, none⟩) comp.length comp.length := by rw [hV4, upd_other _ _ (by decide), upd_same]
      have v3 : V4 3 = .slice (some ⟨gs, 0, none⟩) (sf.cnt + 1) (sf.cnt + 1) := by rw [hV4, upd_same]
      have vn : ∀ c, 4 ≤ c → V4 c = .slice none 0 0 := fun c hc => by rw [hV4, upd_other _ _ (by omega), upd_other _ _ (by omega), upd_other _ _ (by omega)]; exact HM.out.2.1 c (by omega)
      have x0 : X4 0 = fr := by rw [hX4, upd_other _ _ (by decide), upd_other _ _ (by decide), upd_same]
      have x1 : X4 1 = a1.2 := by rw [hX4, upd_other _ _ (by decide), upd_other _ _ (by decide), upd_other _ _ (by decide)]; exact HM.out.2.2.2
      have x2 : X4 2 = comp := by rw [hX4, upd_other _ _ (by decide), upd_same]
      have x3 : X4 = upd X4 3 (List.replicate (sf.cnt + 1) 0) := by rw [hX4, upd_upd]
      rw [x3] at M5
      have M5' : Hid _ := M5
      have HV : Hid _ := And.intro v0 (And.intro v1 (And.intro v2 (And.intro v3 (And.intro vn (And.intro x0 (And.intro x1 (And.intro x2 HFR.out)))))))
      have HGS : Hid _ := hgs
      clear M5 M4 hV4 hX4 v0 v1 v2 v3 vn x0 x1 x2 x3 HM hVF hVT hgs HFR hgc hFb
      go_upto_block 6 with fail
      rw [← HGS.out]
      go_cut [] (fun wx => CM N w wx V4 (upd X4 3 st0))
      case first =>
        clear hmk4
        go_wp2_with fail
        go_loopw [121] (fun i wx => ∃ (k : Nat) (st : List Nat), k ≤ comp.length ∧ i = .int .i64 k ∧ CM N w wx V4 (upd X4 3 st) ∧ countP (comp.drop k) st = some st0 ∧ st.length = sf.cnt + 1) (fun i _ => comp.length - (intOf i).toNat)
        case atStart => exact ⟨0, _, Nat.zero_le _, rfl, M5'.out, HS.out.2.2.2.2.1, by simp⟩
        case round =>
          clear M5'
          obtain ⟨k, st, hk, rfl, hM, hrun, hst⟩ := hrel
          by_cases hlt : k < comp.length
          · obtain ⟨c, hx⟩ : ∃ x, comp[k]? = some x := ⟨_, List.getElem?_eq_getElem hlt⟩
            have hdr : comp.drop k = c :: comp.drop (k + 1) := by
              obtain ⟨h1, h2⟩ := List.getElem?_eq_some_iff.1 hx
              rw [List.drop_eq_getElem_cons h1, h2]
            rw [hdr, countP] at hrun
            split at hrun
            · rename_i y hy
              split at hrun
              · rename_i hyb
                unfold big at hyb
                have hcl1 : c + 1 < sf.cnt + 1 := by have := (List.getElem?_eq_some_iff.1 hy).1; omega
                have d1 := hM.cell HV.out.2.2.1 (i := k) (x := c) (by rw [upd_other _ _ (by decide), HV.out.2.2.2.2.2.2.2.1]; exact hx)
                have d2 := hM.cell HV.out.2.2.2.1 (i := c + 1) (x := y) (by rw [upd_same]; exact hy)
                have d3 := hM.r.free HV.out.2.2.2.1 (i := c + 1)
                have HK : Hid _ := And.intro hM hrun
                clear hM hrun hy hx hdr
                go_wp2
                go_roundw
                case rel =>
                  refine ⟨k + 1, st.set (c + 1) (y + 1), by omega, by go_num, ?_, HK.out.2, by simpa using hst⟩
                  have := HK.out.1.set HV.out.2.2.2.1 (c + 1) (y + 1)
                  rwa [upd_upd, upd_same] at this
                case measure => simp [intOf]; omega
              · cases hrun
            · cases hrun
          · obtain rfl : k = comp.length := by omega
            rw [List.drop_length, countP] at hrun
            cases hrun
            have HK : Hid _ := hM
            clear hM
            go_wp2
            go_meet
            exact HK.out
      case rest =>
        clear M5' hmk4 HGS
        replace hcut : Hid _ := hcut
        go_upto_block 8 with fail
        go_cut [] (fun wx => CM N w wx V4 (upd X4 3 start))
        case first =>
          go_wp2_with fail
          go_loopw [134] (fun i wx => ∃ (k : Nat) (st : List Nat), k ≤ sf.cnt ∧ i = .int .i64 k ∧ CM N w wx V4 (upd X4 3 st) ∧ sumP (sf.cnt - k) k st = some start ∧ st.length = sf.cnt + 1) (fun i _ => sf.cnt - (intOf i).toNat)
          case atStart => exact ⟨0, st0, Nat.zero_le _, rfl, hcut.out, HS.out.2.2.2.2.2.1, countP_length HS.out.2.2.2.2.1 (by simp)⟩
          case round =>
            clear hcut
            obtain ⟨k, st, hk, rfl, hM, hrun, hst⟩ := hrel
            by_cases hlt : k < sf.cnt
            · obtain ⟨m, hm⟩ : ∃ m, sf.cnt - k = m + 1 := ⟨sf.cnt - k - 1, by omega⟩
              rw [hm, sumP] at hrun
              split at hrun
              · rename_i x y hx hy
                split at hrun
                · rename_i hyb
                  unfold big at hyb
                  have d1 := hM.cell HV.out.2.2.2.1 (i := k) (x := x) (by rw [upd_same]; exact hx)
                  have d2 := hM.cell HV.out.2.2.2.1 (i := k + 1) (x := y) (by rw [upd_same]; exact hy)
                  have d3 := hM.r.free HV.out.2.2.2.1 (i := k + 1)
                  have HK : Hid _ := And.intro hM hrun
                  clear hM hrun hy hx
                  go_wp2
                  go_region
                  go_wp2
                  go_roundw
                  case rel =>
                    refine ⟨k + 1, st.set (k + 1) (y + x), by omega, by go_num, ?_, by rw [show sf.cnt - (k + 1) = m by omega]; exact HK.out.2, by simpa using hst⟩
                    have := (HK.out.1.set HV.out.2.2.2.1 (k + 1) (y + x)).drew
                    rwa [upd_upd, upd_same] at this
                  case measure => simp [intOf]; omega
                · cases hrun
              · cases hrun
            · obtain rfl : k = sf.cnt := by omega
              rw [Nat.sub_self, sumP] at hrun
              cases hrun
              have HK : Hid _ := hM
              clear hM
              go_wp2
              go_meet
              exact HK.out
        case rest =>
          have hsl : start.length = sf.cnt + 1 := sumP_length HS.out.2.2.2.2.2.1 (countP_length HS.out.2.2.2.2.1 (by simp))
          have hmk5 : ∀ W : World, (Instr.makeSlice 39 (.int .i64 (comp.length : Int)) (.int .i64 (comp.length : Int))).run Yba.prog W = .ok (.slice (some ⟨W.heap.size, 0, none⟩) comp.length comp.length) (W.alloc (.cells (natCells (List.replicate comp.length 0)).toArray 3)) := fun W => make39 W comp.length (by omega)
          have M7 := hcut.made (c := 4) (HV.out.2.2.2.2.1 4 (by decide)) comp.length (by omega)
          obtain ⟨gb, hgb⟩ : ∃ g, g = wc.heap.size := ⟨_, rfl⟩
          rw [← hgb] at M7
          have htl : (start.take sf.cnt).length = sf.cnt := by rw [List.length_take]; omega
          have hz7 := hcut.s
          have g7 : gs < wc.heap.size := (hcut.r.lt (c := 3) (by rw [HV.out.2.2.2.1]; rfl)).2
          have hcl7 : Hid _ := And.intro (clone_any (wc.alloc (.cells (natCells (List.replicate comp.length 0)).toArray 3)) (natCells (start.take sf.cnt)) gs 0 (sf.cnt + 1) (by rw [natCells_length]; omega) (fun u hu => by simp only [natCells, List.mem_map] at hu; obtain ⟨x, _, rfl⟩ := hu; rfl) (fun i u hu => by
            simp only [natCells, List.getElem?_map, Option.map_eq_some_iff] at hu
            obtain ⟨x, hx, rfl⟩ := hu
            rw [Nat.zero_add]
            refine M7.cell (c := 3) (by rw [upd_other _ _ (by decide)]; exact HV.out.2.2.2.1) ?_
            rw [upd_other _ _ (by decide), upd_same]
            rw [List.getElem?_take] at hx
            split at hx
            · exact hx
            · cases hx) (by simp; omega)) M7
          rw [natCells_length, htl] at hcl7
          have HSL : Hid _ := hsl
          clear M7 hcut hsl htl
          go_wp2_with fail
          refine hcl7.out.1.mono ?_
          rintro e W8 ⟨vp5, rfl, hown8, hB8⟩
          have M8 : CM N w W8 (upd (upd V4 4 (.slice (some ⟨gb, 0, none⟩) comp.length comp.length)) 5 vp5) (upd (upd (upd X4 3 start) 4 (List.replicate comp.length 0)) 5 (start.take sf.cnt)) := by
            refine (hcl7.out.2.called hB8).adopt (B' := (wc.alloc (.cells (natCells (List.replicate comp.length 0)).toArray 3)).heap.size) ?_ hcl7.out.2.s (fun c g hg => (hcl7.out.2.r.lt hg).2)
            have : (start.take sf.cnt).length = sf.cnt := by rw [List.length_take, HSL.out]; omega
            rw [this]; exact hown8
          rw [← hgb]
          clear hmk5 hgb hown8 hB8 hcl7 g7 hz7
          obtain ⟨V6, hV6⟩ : ∃ V6, V6 = upd (upd V4 4 (.slice (some ⟨gb, 0, none⟩) comp.length comp.length)) 5 vp5 := ⟨_, rfl⟩
          obtain ⟨X6, hX6⟩ : ∃ X6, X6 = upd X4 3 start := ⟨_, rfl⟩
          rw [← hV6, ← hX6] at M8
          have v0 : V6 0 = .slice (some ⟨gF, 0, none⟩) fr.length capF := by rw [hV6, upd_other _ _ (by decide), upd_other _ _ (by decide)]; exact HV.out.1
          have v1 : V6 1 = .slice aT a1.2.length cT := by rw [hV6, upd_other _ _ (by decide), upd_other _ _ (by decide)]; exact HV.out.2.1
          have v2 : V6 2 = .slice (some ⟨gc, 0, none⟩) comp.length comp.length := by rw [hV6, upd_other _ _ (by decide), upd_other _ _ (by decide)]; exact HV.out.2.2.1
          have v3 : V6 3 = .slice (some ⟨gs, 0, none⟩) (sf.cnt + 1) (sf.cnt + 1) := by rw [hV6, upd_other _ _ (by decide), upd_other _ _ (by decide)]; exact HV.out.2.2.2.1
          have v4 : V6 4 = .slice (some ⟨gb, 0, none⟩) comp.length comp.length := by rw [hV6, upd_other _ _ (by decide), upd_same]
          have v5 : V6 5 = vp5 := by rw [hV6, upd_same]
          have vn : ∀ c, 6 ≤ c → V6 c = .slice none 0 0 := fun c hc => by rw [hV6, upd_other _ _ (by omega), upd_other _ _ (by omega)]; exact HV.out.2.2.2.2.1 c (by omega)
          have x0 : X6 0 = fr := by rw [hX6, upd_other _ _ (by decide)]; exact HV.out.2.2.2.2.2.1
          have x1 : X6 1 = a1.2 := by rw [hX6, upd_other _ _ (by decide)]; exact HV.out.2.2.2.2.2.2.1
          have x2 : X6 2 = comp := by rw [hX6, upd_other _ _ (by decide)]; exact HV.out.2.2.2.2.2.2.2.1
          have x3 : X6 3 = start := by rw [hX6, upd_same]
          have HV6 : Hid _ := And.intro v0 (And.intro v1 (And.intro v2 (And.intro v3 (And.intro v4 (And.intro v5 (And.intro vn (And.intro x0 (And.intro x1 (And.intro x2 x3)))))))))
          have HFR : Hid _ := HV.out.2.2.2.2.2.2.2.2
          replace M8 : Hid _ := M8
          clear hV6 hX6 v0 v1 v2 v3 v4 v5 vn x0 x1 x2 x3 HV
          go_upto_block 10 with fail
          go_cut [] (fun wx => CM N w wx V6 (upd (upd X6 4 bp.1) 5 bp.2))
          case first =>
            go_wp2_with fail
            go_loopw [158] (fun i wx => ∃ (k : Nat) (a : List Nat × List Nat), k ≤ comp.length ∧ i = .int .i64 k ∧ CM N w wx V6 (upd (upd X6 4 a.1) 5 a.2) ∧ placeP (comp.drop k) k a = some bp ∧ a.1.length = comp.length ∧ a.2.length = sf.cnt) (fun i _ => comp.length - (intOf i).toNat)
            case atStart => exact ⟨0, _, Nat.zero_le _, rfl, M8.out, HS.out.2.2.2.2.2.2.1, by simp, by simp [HSL.out]⟩
            case round =>
              clear M8
              obtain ⟨k, a, hk, rfl, hM, hrun, ha1, ha2⟩ := hrel
              by_cases hlt : k < comp.length
              · obtain ⟨c, hx⟩ : ∃ x, comp[k]? = some x := ⟨_, List.getElem?_eq_getElem hlt⟩
                have hdr : comp.drop k = c :: comp.drop (k + 1) := by
                  obtain ⟨h1, h2⟩ := List.getElem?_eq_some_iff.1 hx
                  rw [List.drop_eq_getElem_cons h1, h2]
                rw [hdr, placeP] at hrun
                split at hrun
                · rename_i p hp
                  split at hrun
                  · rename_i hpl
                    rw [ha1] at hpl
                    have hcc : c < sf.cnt := by have := (List.getElem?_eq_some_iff.1 hp).1; omega
                    obtain ⟨gp, cp, hvp, hp1, hp2⟩ := hM.r.form 5 (by rw [upd_same]; omega)
                    rw [upd_same, ha2] at hvp hp1
                    obtain rfl := HV6.out.2.2.2.2.2.1.symm.trans hvp
                    have ne1 := hM.ne HV6.out.2.2.2.2.1 hvp (by decide)
                    have ne2 : ¬ gp = gb := fun e => ne1 e.symm
                    have d1 := hM.cell HV6.out.2.2.1 (i := k) (x := c) (by rw [upd_other _ _ (by decide), upd_other _ _ (by decide), HV6.out.2.2.2.2.2.2.2.2.2.1]; exact hx)
                    have d2 := hM.cell hvp (i := c) (x := p) (by rw [upd_same]; exact hp)
                    have d3 := hM.r.free hvp (i := c)
                    obtain ⟨z, hz⟩ : ∃ z, a.1[p]? = some z := ⟨_, List.getElem?_eq_getElem (by omega)⟩
                    have d4 := hM.cell HV6.out.2.2.2.2.1 (i := p) (x := z) (by rw [upd_other _ _ (by decide), upd_same]; exact hz)
                    have d5 := hM.r.free HV6.out.2.2.2.2.1 (i := p)
                    have HK : Hid _ := And.intro hM (And.intro hrun hvp)
                    clear hM hrun hp hx hdr hz hvp
                    go_wp2
                    go_roundw
                    case rel =>
                      refine ⟨k + 1, (a.1.set p k, a.2.set c (p + 1)), by omega, by go_num, ?_, HK.out.2.1, by simpa using ha1, by simpa using ha2⟩
                      have := (HK.out.1.set HV6.out.2.2.2.2.1 p k).set HK.out.2.2 c (p + 1)
                      rw [upd_other _ _ (show (4 : Nat) ≠ 5 by decide), upd_same, upd_other _ _ (show (5 : Nat) ≠ 4 by decide), upd_same, upd45] at this
                      exact this
                    case measure => simp [intOf]; omega
                  · cases hrun
                · cases hrun
              · obtain rfl : k = comp.length := by omega
                rw [List.drop_length, placeP] at hrun
                cases hrun
                have HK : Hid _ := hM
                clear hM
                go_wp2
                go_meet
                exact HK.out
          case rest =>
            clear M8
            have hmk6 : ∀ W : World, (Instr.makeSlice 39 (.int .i64 (sf.cnt : Int)) (.int .i64 (sf.cnt : Int))).run Yba.prog W = .ok (.slice (some ⟨W.heap.size, 0, none⟩) sf.cnt sf.cnt) (W.alloc (.cells (natCells (List.replicate sf.cnt 0)).toArray 3)) := fun W => make39 W sf.cnt (by omega)
            replace hcut : Hid _ := hcut
            go_upto_block 12 with fail
            clear hmk6
            obtain ⟨vA, hvA⟩ : ∃ v, v = Value.slice (if comp.length = evs.length then some ⟨gc, 0, none⟩ else some ⟨gc, evs.length, none⟩) (comp.length - evs.length) (comp.length - evs.length) := ⟨_, rfl⟩
            rw [← hvA]
            have n7 := HV6.out.2.2.2.2.2.2.1 7 (by decide)
            have n9 := HV6.out.2.2.2.2.2.2.1 9 (by decide)
            have n10 := HV6.out.2.2.2.2.2.2.1 10 (by decide)
            have M9 := (((hcut.out.made1 (c := 7) n7).made1 (c := 9) (by rw [upd_other _ _ (by decide)]; exact n9)).alloc (.cells #[vA, .slice none 0 0, .slice (some ⟨wc.heap.size, 0, none⟩) 1 1, .slice none 0 0, .slice (some ⟨wc.heap.size + 1, 0, none⟩) 1 1] 112)).made (c := 10) (by rw [upd_other _ _ (by decide), upd_other _ _ (by decide)]; exact n10) sf.cnt (by omega)
            simp only [World.size_alloc] at M9
            obtain ⟨bd, hbd⟩ : ∃ b, b = wc.heap.size + 1 + 1 := ⟨_, rfl⟩
            obtain ⟨gl, hgl⟩ : ∃ b, b = wc.heap.size + 1 + 1 + 1 := ⟨_, rfl⟩
            rw [← hgl] at M9 ⊢
            rw [← hbd]
            obtain ⟨V9, hV9⟩ : ∃ V9, V9 = upd (upd (upd V6 7 (.slice (some ⟨wc.heap.size, 0, none⟩) 1 1)) 9 (.slice (some ⟨wc.heap.size + 1, 0, none⟩) 1 1)) 10 (.slice (some ⟨gl, 0, none⟩) sf.cnt sf.cnt) := ⟨_, rfl⟩
            obtain ⟨X9, hX9⟩ : ∃ X9, X9 = upd (upd (upd (upd (upd X6 4 bp.1) 5 bp.2) 7 [0]) 9 [0]) 10 (List.replicate sf.cnt 0) := ⟨_, rfl⟩
            rw [← hV9, ← hX9] at M9
            obtain ⟨W9, hW9⟩ : ∃ W, W = ((((wc.alloc (.cells #[.int .i64 0] 3)).alloc (.cells #[.int .i64 0] 3)).alloc (.cells #[vA, .slice none 0 0, .slice (some ⟨wc.heap.size, 0, none⟩) 1 1, .slice none 0 0, .slice (some ⟨wc.heap.size + 1, 0, none⟩) 1 1] 112)).alloc (.cells (natCells (List.replicate sf.cnt 0)).toArray 3)) := ⟨_, rfl⟩
            rw [← hW9] at M9 ⊢
            have k6 : V9 6 = .slice none 0 0 := by rw [hV9, upd_other _ _ (by decide), upd_other _ _ (by decide), upd_other _ _ (by decide)]; exact HV6.out.2.2.2.2.2.2.1 6 (by decide)
            have k7 : V9 7 = .slice (some ⟨wc.heap.size, 0, none⟩) 1 1 := by rw [hV9, upd_other _ _ (by decide), upd_other _ _ (by decide), upd_same]
            have k8 : V9 8 = .slice none 0 0 := by rw [hV9, upd_other _ _ (by decide), upd_other _ _ (by decide), upd_other _ _ (by decide)]; exact HV6.out.2.2.2.2.2.2.1 8 (by decide)
            have k9 : V9 9 = .slice (some ⟨wc.heap.size + 1, 0, none⟩) 1 1 := by rw [hV9, upd_other _ _ (by decide), upd_same]
            have D9 : DM N w W9 bd vA V9 X9 V9 X9 := by
              refine ⟨M9, ?_, fun _ _ => rfl, fun _ _ => rfl, by have := hcut.out.s; omega⟩
              rw [k6, k7, k8, k9, hW9, hbd, Below.heap_alloc _ _ _ (by simp)]
              have := heap_alloc_new ((wc.alloc (.cells #[.int .i64 0] 3)).alloc (.cells #[.int .i64 0] 3)) (.cells #[vA, .slice none 0 0, .slice (some ⟨wc.heap.size, 0, none⟩) 1 1, .slice none 0 0, .slice (some ⟨wc.heap.size + 1, 0, none⟩) 1 1] 112)
              simpa using this
            have vv : ∀ c, c ≤ 5 → V9 c = V6 c := fun c hc => by rw [hV9, upd_other _ _ (by omega), upd_other _ _ (by omega), upd_other _ _ (by omega)]
            have xx : ∀ c, c ≤ 3 → X9 c = X6 c := fun c hc => by rw [hX9, upd_other _ _ (by omega), upd_other _ _ (by omega), upd_other _ _ (by omega), upd_other _ _ (by omega), upd_other _ _ (by omega)]
            have v0 : V9 0 = .slice (some ⟨gF, 0, none⟩) fr.length capF := (vv 0 (by decide)).trans HV6.out.1
            have v1 : V9 1 = .slice aT a1.2.length cT := (vv 1 (by decide)).trans HV6.out.2.1
            have v2 : V9 2 = .slice (some ⟨gc, 0, none⟩) comp.length comp.length := (vv 2 (by decide)).trans HV6.out.2.2.1
            have v3 : V9 3 = .slice (some ⟨gs, 0, none⟩) (sf.cnt + 1) (sf.cnt + 1) := (vv 3 (by decide)).trans HV6.out.2.2.2.1
            have v4 : V9 4 = .slice (some ⟨gb, 0, none⟩) comp.length comp.length := (vv 4 (by decide)).trans HV6.out.2.2.2.2.1
            have v10 : V9 10 = .slice (some ⟨gl, 0, none⟩) sf.cnt sf.cnt := by rw [hV9, upd_same]
            have x0 : X9 0 = fr := (xx 0 (by decide)).trans HV6.out.2.2.2.2.2.2.2.1
            have x1 : X9 1 = a1.2 := (xx 1 (by decide)).trans HV6.out.2.2.2.2.2.2.2.2.1
            have x2 : X9 2 = comp := (xx 2 (by decide)).trans HV6.out.2.2.2.2.2.2.2.2.2.1
            have x3 : X9 3 = start := (xx 3 (by decide)).trans HV6.out.2.2.2.2.2.2.2.2.2.2
            have x4 : X9 4 = bp.1 := by rw [hX9, upd_other _ _ (by decide), upd_other _ _ (by decide), upd_other _ _ (by decide), upd_other _ _ (by decide), upd_same]
            have x5 : ∃ l, X9 5 = l := ⟨_, rfl⟩
            have hlk : lk X9 = { linked := List.replicate sf.cnt 0, events := [], eventsFrom := [0], next := [], nextFrom := [0] } := by
              have e10 : X9 10 = List.replicate sf.cnt 0 := by rw [hX9, upd_same]
              have e9 : X9 9 = [0] := by rw [hX9, upd_other _ _ (by decide), upd_same]
              have e7 : X9 7 = [0] := by rw [hX9, upd_other _ _ (by decide), upd_other _ _ (by decide), upd_same]
              have e6 : X9 6 = [] := by
                have := (M9.r.own 6).2
                rw [k6] at this
                rcases this with ⟨_, h⟩ | ⟨g, cap, cur, h, _⟩
                · exact List.length_eq_zero_iff.1 h
                · cases h
              have e8 : X9 8 = [] := by
                have := (M9.r.own 8).2
                rw [k8] at this
                rcases this with ⟨_, h⟩ | ⟨g, cap, cur, h, _⟩
                · exact List.length_eq_zero_iff.1 h
                · cases h
              simp only [lk, e10, e9, e7, e6, e8]
            have hbl : bp.1.length = comp.length := (placeP_length HS.out.2.2.2.2.2.2.1 (n := comp.length) (m := sf.cnt) (by simp) (by simp [HSL.out])).1
            have hbl1 : bp.1.length ≤ comp.length := by omega
            have hbl2 : comp.length ≤ bp.1.length := by omega
            have HV9 : Hid _ := And.intro v0 (And.intro v1 (And.intro v2 (And.intro v3 (And.intro v4 (And.intro v10 (And.intro x0 (And.intro x1 (And.intro x2 (And.intro x3 x4)))))))))
            have H9 : Hid _ := And.intro D9 hlk
            have HVA : Hid _ := hvA
            clear hvA n7 n9 n10 M9 hbd hgl hV9 hX9 hW9 k6 k7 k8 k9 D9 vv xx v0 v1 v2 v3 v4 v10 x0 x1 x2 x3 x4 x5 hlk hbl HV6 hcut
            go_wp2_with fail
            refine cond_loop7 N evs.length sf.cnt w W9 bd vA V9 X9 fr a1.2 comp start bp.1 kf gF capF aT cT gc gs gb gl hcn (by omega) hT1 hT2 (by omega) hbl1 HV9.out H9.out.1 (by rw [H9.out.2, HFR.out]; exact HS.out.2.2.2.2.2.2.2) _ _ ?hexit _ _ _ _ _ _ _ _ _ _ _ _ _ _ _ _ _ _ _ _ _ _ _ _ _ _ _ _ _ _ _ _ _ _ _ _ _ _ _ _ _ _ _ _ _ _ _ _ _ _ _ _ _ _ _ _ _ _ _ _ _ _ _ _ _ _ _ _ _ _ _ _ _ _ _ _ _ _ _ _ _ _ _ _ _ _ _ _ _ _ _ _ _ _ _ _ _ _ _ _ _ _ _ _ _ _ _ _ _ _ _ _ _ _ _ _ _ _ _ _ _ _ _ _ _ _ _ _ _ _ _ _ _ _ _ _ _ _ _ _ _ _ _ _ _ _ _ _ _ _ _ _ _ _ _ _ _ _ _ _ _ _ _ _ _ _ _ _ _ _ _ _ _ _ _ _ _ _ _ _ _ _ _ _ _ _ _ _ _ _ _ _ _ _ _ _ _ _ _ _ _ _ _ _ _ _ _ _ _ _ _ _ _ _ _ _ _ _ _ _ _ _ _ _ _ _ _ _ _ _ _ _ _ _ _ _ _ _ _ _ _ _ _ _ _ _ _ _ _ _ _ _ _ _ _ _ _ _ _ _ _ _ _ _ _ _ _ _ _ _ _ _ _ _ _ _ _ _ _ _ _ _ _ _ _ _ _
            case hexit =>
              intro V X wr hD hk
              intros
              have HK : Hid _ := And.intro hD hk
              clear hD hk
              go_wp2
              go_ret
              obtain ⟨hD, hk⟩ := HK.out
              subst hk
              have hN := HN.out
              refine ⟨bd, vA, V 6, V 7, V 8, V 9, rfl, by have := hD.lb; omega, fun w2 hw2 => ?_, by rw [← hN]; exact hD.m.b⟩
              have hh : ∀ c g, (V c).ownBlock = some g → w2.heap[g]? = wr.heap[g]? := fun c g hg => hw2 g (by rw [← hN]; exact (hD.m.r.lt hg).1) (hD.m.r.lt hg).2
              have hd2 := (hw2 bd (by rw [← hN]; exact hD.lb) (lt_of_block hD.d)).trans hD.d
              refine ⟨cellB hd2 rfl, cellB hd2 rfl, cellB hd2 rfl, cellB hd2 rfl, cellB hd2 rfl, ?_, hD.m.r.slnB hh 6, hD.m.r.slnB hh 7, hD.m.r.slnB hh 8, hD.m.r.slnB hh 9, lt_of_block hD.d⟩
              have w2v := (hD.hv 2 (.inl (by decide))).trans HV9.out.2.2.1
              refine ⟨_, gc, evs.length, comp.length - evs.length, by rw [List.length_drop]; exact HVA.out, by rw [List.length_drop]; exact Nat.le_refl _, by omega, fun h => ⟨?_, (hD.m.r.lt (c := 2) (by rw [w2v]; rfl)).2⟩, fun i x hx => ?_⟩
              · rw [List.length_drop] at h
                rw [if_neg (by omega)]
              · rw [List.getElem?_drop] at hx
                exact (hD.m.r.same hh).cell w2v (by rw [hD.hx 2 (by decide), HV9.out.2.2.2.2.2.2.2.2.1]; exact hx)
end Go.Proofs.Ybulkbewa
