/- Judge (function 12). -/
import Derived.Test.YbulkbewaJHead
import Derived.Test.YbulkbewaCond
import Derived.Test.YbulkbewaJLoop
import Derived.Test.YbulkbewaSort
import Derived.Maps.OwnSet
import Derived.Deep.QuietTactic
import Derived.BigQuiet
import Derived.Deep.CutBlock
import Derived.Deep.DeepCutAuto
namespace Go.Proofs.Ybulkbewa
open Go.RowKit Go.Maps

set_option maxHeartbeats 32000000 in
set_option maxRecDepth 100000 in
theorem judge_any (B0 : Nat) (w0 w : World) (bc bi bm : Nat) (K : KS) (il ms : List (Int × Nat)) (V : Nat → Value) (X : Nat → List Nat) (vE vP : Value) (Di Dm : DataW Unit) (svl : List Int) (vSv : Value) (ns fuel : Nat) (d : DG)
    (h : KRep B0 w0 w bc bi bm K il ms V X vE vP Di Dm) (hne : 0 < K.mem.length) (h12 : K.mem.length ≤ 12) (_hln : K.lines < 1000000000) (hEb : K.evs.length < 1000000000) (hEp : 0 < K.evs.length)
    (hsv : ∃ a b o cap, vSv = .slice a svl.length cap ∧ svl.length ≤ cap ∧ cap ≤ 9223372036854775807 ∧ (0 < svl.length → a = some ⟨b, o, none⟩ ∧ b < w.heap.size) ∧ ∀ (i : Nat) (x : Int), svl[i]? = some x → w.cell? ⟨b, o + i, none⟩ = some (.int .i64 x) ∧ (Lit.int .i64 x).wf = true) (hsvb : svl.length < 1000000000)
    (hns : ∀ u : List Int, u.Nodup → (∀ z, z ∈ u ↔ z ∈ svl) → u.length = ns)
    (hwf : ∀ mb ∈ K.mem, (Lit.int .i64 mb.id).wf = true)
    (hd : condP K.evs K.pasts K.inp fuel = some d) (hdn : 0 < d.nextFrom.length ∧ d.nextFrom.length ≤ 1000000000)
    (hJ : ∀ L : List MB, L.Perm K.mem → L.Pairwise (fun a b => a.id < b.id) → ∃ R, judgeP K d fuel (fun z => decide (z ∈ svl)) ns L = some R) :
    Calls Yba.prog 12 #[.pointer (some ⟨bc, 0, none⟩), vSv] w fun e w' => ∃ (br : Nat) (vD : Value) (L : List MB) (a : JA) (u g : Nat), e = .returned (.pointer (some ⟨br, 0, none⟩)) ∧ L.Perm K.mem ∧ L.Pairwise (fun a b => a.id < b.id) ∧ judgeP K d fuel (fun z => decide (z ∈ svl)) ns L = some (a, u, g) ∧
      w'.heap[br]? = some (.cells #[.int .i64 (K.mem.length : Int), .int .i64 (K.lines : Int), .int .i64 (a.dup : Int), .bool false, .int .i64 0, .int .i64 (a.run : Int), .int .i64 (u : Int), .int .i64 (g : Int), vD] 55 (0, 0)) ∧ w'.ownsRow w.heap.size 63 2 vD a.dlv.length (cntCells a.dlv) ∧ w.heap.size ≤ br ∧ Below w.heap.size w w' := by
  obtain ⟨aV, bV, oV, cV, rfl, hV1, hV2, hV3, hV4⟩ := hsv
  have hml : ms.length = K.mem.length := by have := congrArg List.length h.mi; simpa using this
  obtain ⟨N, hN⟩ : ∃ N, N = w.heap.size := ⟨_, rfl⟩
  have hlm : ∀ ty, (Builtin.len_ #[71] ty #[.map (some bm)]).run Yba.prog w = .ok (.int .i64 (K.mem.length : Int)) w := fun ty => by
    rw [h.om.len Yba.underlying71 ty, h.dm.sz, hml]
  have hlm' : ∀ ty, (Builtin.len_ #[71] ty #[.map (some bm)]).run Yba.prog w.drew = .ok (.int .i64 (K.mem.length : Int)) w.drew := fun ty => by
    rw [h.om.drew.len Yba.underlying71 ty, h.dm.sz, hml]
  have hneq : ∀ W : World, (binOp .neq 69 (.slice none 0 0) (.slice none 0 0)).run Yba.prog W = .ok (.bool false) W := fun _ => rfl
  have hmm := @run_makeMap Yba.prog
  have c0 : w.cell? ⟨bc, 0, none⟩ = some (.slice none 0 0) := cellB h.c rfl
  have c1 : w.cell? ⟨bc, 1, none⟩ = some (.int .i64 (K.lines : Int)) := cellB h.c rfl
  have c4 : w.cell? ⟨bc, 4, none⟩ = some (.map (some bm)) := cellB h.c rfl
  have hbc := lt_of_block h.c
  have HH : Hid _ := And.intro h (And.intro hwf (And.intro hd (And.intro hJ (And.intro hV4 (And.intro hns hml)))))
  have HN : Hid _ := hN
  rw [← hN] at hV3 hbc
  clear h hwf hd hJ hV4 hns hml hN
  go_enter Yba.func12, Yba.ntmps12
  go_upto_region 1 with fail
  go_cut [5] (fun r wx => r = .pointer (some ⟨N, 0, none⟩) ∧ ∃ q, wx = (w.alloc (.cells #[.int .i64 (K.mem.length : Int), .int .i64 (K.lines : Int), .int .i64 0, .bool false, .int .i64 0, .int .i64 0, .int .i64 0, .int .i64 0, .slice none 0 0] 55)).drewN q)
  case first =>
    go_region
    all_goals
      go_wp2
      go_meet
      exact ⟨by rw [HN.out], 1, rfl⟩
  case rest =>
    obtain ⟨rfl, q, rfl⟩ := hcut
    clear c0 c1 c4 hlm hlm' hneq
    obtain ⟨rp, hrp⟩ : ∃ rp : Array Value, rp = #[.int .i64 (K.mem.length : Int), .int .i64 (K.lines : Int), .int .i64 0, .bool false, .int .i64 0, .int .i64 0, .int .i64 0, .int .i64 0, .slice none 0 0] := ⟨_, rfl⟩
    rw [← hrp]
    have hsz1 : ((w.alloc (.cells rp 55)).drewN q).heap.size = N + 1 := by rw [HN.out]; simp
    have hrep1 : ((w.alloc (.cells rp 55)).drewN q).heap[N]? = some (.cells rp 55 (0, 0)) := by
      have e1 : ∀ (W : World) (n : Nat), (W.drewN n).heap = W.heap := fun W n => by
        induction n with
        | zero => rfl
        | succ n ih => exact ih
      rw [e1, HN.out]; exact heap_alloc_new _ _
    have hb1 : Below N w ((w.alloc (.cells rp 55)).drewN q) := by rw [HN.out]; exact below_drewN ((Below.refl _ w).alloc (Nat.le_refl _) _) q
    obtain ⟨W1, hW1⟩ : ∃ W, W = (w.alloc (.cells rp 55)).drewN q := ⟨_, rfl⟩
    rw [← hW1] at hsz1 hrep1 hb1 ⊢
    have HRP : Hid _ := hrp
    have hsz1a : W1.heap.size ≤ N + 1 := by omega
    have hsz1b : N + 1 ≤ W1.heap.size := by omega
    have H1 : Hid _ := And.intro hrep1 (And.intro hb1 hsz1)
    clear hW1 hrp hrep1 hb1 hsz1
    go_upto_block 0 with fail
    clear hmm
    rw [H1.out.2.2]
    go_cut [] (fun wx => ∃ Ds, wx.ownsMap Yba.prog 3 (plainElem Yba.prog 4) (N + 1) svl.length Ds ∧ SurvOf Ds svl ∧ wx.heap[N]? = some (.cells rp 55 (0, 0)) ∧ Below N w wx ∧ N + 2 ≤ wx.heap.size)
    case first =>
      go_wp2_with fail
      go_loopw [40] (fun i wx => ∃ (k : Nat) (Ds : DataW Unit), k ≤ svl.length ∧ i = .int .i64 k ∧ wx.ownsMap Yba.prog 3 (plainElem Yba.prog 4) (N + 1) k Ds ∧ SurvOf Ds (svl.take k) ∧ wx.heap[N]? = some (.cells rp 55 (0, 0)) ∧ Below N w wx ∧ N + 2 ≤ wx.heap.size) (fun i _ => svl.length - (intOf i).toNat)
      case atStart =>
        obtain ⟨hrep1, hb1, hsz1⟩ := H1.out
        have hmd := World.ownsMap_made W1 Yba.prog 3 (plainElem (H := Unit) Yba.prog 4)
        rw [hsz1] at hmd
        exact ⟨0, _, Nat.zero_le _, rfl, hmd, SurvOf.nil, (Below.heap_alloc _ _ _ (by omega)).trans hrep1, hb1.alloc (by omega) _, by simp; omega⟩
      case round =>
        obtain ⟨k, Ds, hk, rfl, hown, hS, hrep, hb, hz⟩ := hrel
        by_cases hlt : k < svl.length
        · obtain ⟨rfl, hbV⟩ := hV3 (by omega)
          obtain ⟨x, hx⟩ : ∃ x, svl[k]? = some x := ⟨_, List.getElem?_eq_getElem hlt⟩
          obtain ⟨hxc, hxw⟩ := HH.out.2.2.2.2.1 k x hx
          have xc : wr.cell? ⟨bV, oV + k, none⟩ = some (.int .i64 x) := (hb.cell (p := ⟨bV, oV + k, none⟩) hbV).trans hxc
          have htk : svl.take (k + 1) = svl.take k ++ [x] := by rw [List.take_add_one, hx]; rfl
          have HZ : Hid _ := And.intro hown (And.intro hS (And.intro hrep (And.intro hb htk)))
          clear hown hS hrep hb htk hx hxc
          go_wp2_with (at_mapUpdate; refine wpList_mapUpdate_own _ rfl _ _ _ 87 rfl 3 4 (int_keyed Yba.underlying3) Yba.underlying87 (plainElem Yba.prog 4) (N + 1) k Ds rfl (by exact HZ.out.1) (by unfold maxLen; omega) (.int .i64 x) (.bool true) (.int .i64 x) rfl rfl (keyOf_int_mk Yba.underlying3 hxw) (.lit (.bool true)) [] (plainElem_bool Yba.underlying4 true) ?_; intro W2 hown2 hg2; have H2 : Hid _ := And.intro hown2 hg2; clear hown2 hg2)
          go_roundw
          case rel =>
            obtain ⟨hown, hS, hrep, hb, htk⟩ := HZ.out
            obtain ⟨hown2, hg2⟩ := H2.out
            refine ⟨k + 1, _, by omega, by go_num, hown2, by rw [htk]; exact hS.put hown.isMap (hown.tidy (int_keyed Yba.underlying3)) x, map_keep hg2 hrep (by obtain ⟨es, cl, hb', _⟩ := hown; exact ⟨es, cl, hb'⟩), hb.grown hg2 (by omega) (fun b e => by cases e; omega), Nat.le_trans hz hg2.size⟩
          case measure => simp [intOf]; omega
        · obtain rfl : k = svl.length := by omega
          rw [List.take_length] at hS
          have HZ : Hid _ := And.intro hown (And.intro hS (And.intro hrep hb))
          clear hown hS hrep hb
          go_wp2
          go_meet
          exact ⟨Ds, HZ.out.1, HZ.out.2.1, HZ.out.2.2.1, HZ.out.2.2.2, hz⟩
    case rest =>
      clear H1 hsz1a hsz1b
      obtain ⟨Ds, hown, hS, hrep, hb, hz⟩ := hcut
      generalize hwO : wc = wO at *
      clear hwO wc
      have hK := HH.out.1
      have hNw := HN.out
      have c3 : wO.cell? ⟨bc, 3, none⟩ = some vE := (hb.cell (p := ⟨bc, 3, none⟩) hbc).trans (cellB hK.c rfl)
      have hE := hK.slE
      have hP := hK.slP
      have hI := hK.slI
      rw [← hNw] at hE hP hI
      obtain ⟨aE, bE, cE, hvE, hE1, hE2, hE3, hE4⟩ := hE
      have hEc : SlE wO.drew.heap.size wO.drew vE K.evs (fun i => V (3 * i + 1)) := ⟨aE, bE, cE, hvE, hE1, hE2, fun h0 => ⟨(hE3 h0).1, by have := (hE3 h0).2; show bE < wO.heap.size; omega⟩, fun i ev hi => by
        obtain ⟨q0, q1, q2, q3, q4⟩ := hE4 i ev hi
        have hi' := (List.getElem?_eq_some_iff.1 hi).1
        have hbE := (hE3 (by omega)).2
        exact ⟨(hb.cell (p := ⟨bE, i * 4, none⟩) hbE).trans q0, (hb.cell (p := ⟨bE, i * 4 + 1, none⟩) hbE).trans q1, (hb.cell (p := ⟨bE, i * 4 + 2, none⟩) hbE).trans q2, (hb.cell (p := ⟨bE, i * 4 + 3, none⟩) hbE).trans q3, q4.up (by show N ≤ wO.heap.size; omega) hb.drew⟩⟩
      have hPc : SlP wO.drew.heap.size wO.drew vP K.pasts := by
        obtain ⟨a', b', cap', hv', h1', h2', h3', h4'⟩ := hP
        refine ⟨a', b', cap', hv', h1', h2', fun h0 => ⟨(h3' h0).1, by have := (h3' h0).2; show b' < wO.heap.size; omega⟩, fun i p hi => ?_⟩
        obtain ⟨q0, q1, q2⟩ := h4' i p hi
        have hi' := (List.getElem?_eq_some_iff.1 hi).1
        have hbE := (h3' (by omega)).2
        exact ⟨(hb.cell (p := ⟨b', i * 3, none⟩) hbE).trans q0, (hb.cell (p := ⟨b', i * 3 + 1, none⟩) hbE).trans q1, (hb.cell (p := ⟨b', i * 3 + 2, none⟩) hbE).trans q2⟩
      have hIc : SlN wO.drew.heap.size wO.drew (V 0) K.inp := hI.up (by show N ≤ wO.heap.size; omega) hb.drew
      have hcond := cond_any wO.drew bc K.evs K.pasts K.inp fuel d vE vP (V 0) (fun i => V (3 * i + 1)) hEc hPc hIc ((hb.cell (p := ⟨bc, 5, none⟩) hbc).trans (cellB hK.c rfl)) ((hb.cell (p := ⟨bc, 6, none⟩) hbc).trans (cellB hK.c rfl)) (by show bc < wO.heap.size; omega) HH.out.2.2.1
      rw [hvE] at hcond c3
      have c3d : ∀ W : World, Below N w W → W.cell? ⟨bc, 3, none⟩ = some (.slice aE K.evs.length cE) := fun W hW => by rw [← hvE]; exact (hW.cell (p := ⟨bc, 3, none⟩) hbc).trans (cellB hK.c rfl)
      have HC : Hid _ := And.intro hcond (And.intro c3d (And.intro hown (And.intro hS (And.intro hrep hb))))
      have HV : Hid _ := And.intro hvE (And.intro hE3 hE4)
      clear hcond hEc hPc hIc hE4 hP hI hK hown hS hrep hb hNw c3d hvE
      go_upto_region 8 with fail
      go_cut [9] (fun v wx => ∃ (wA : World) (bd b2 b3 b4 b5 : Nat) (v0 v1 v2 v3 v4 : Value), v = .pointer (some ⟨wA.heap.size + 4, 0, none⟩) ∧ wO.heap.size ≤ bd ∧ (∀ W : World, (∀ b, wO.heap.size ≤ b → b < wA.heap.size → W.heap[b]? = wA.heap[b]?) → DRep wA.heap.size W bd d v0 v1 v2 v3 v4) ∧ Below wO.heap.size wO wA ∧
        wx.heap[wA.heap.size + 4]? = some (.cells #[.pointer (some ⟨bd, 0, none⟩), .int .i64 0, .slice (some ⟨b2, 0, none⟩) K.evs.length K.evs.length, .slice (some ⟨b3, 0, none⟩) K.evs.length K.evs.length, .slice (some ⟨b4, 0, none⟩) (d.nextFrom.length - 1) (d.nextFrom.length - 1), .slice (some ⟨b5, 0, none⟩) (d.nextFrom.length - 1) (d.nextFrom.length - 1), .slice none 0 0] 101 (0, 0)) ∧
        wx.heap[b2]? = some (.cells (natCells (List.replicate K.evs.length 0)).toArray 3 (0, 0)) ∧ wx.heap[b3]? = some (.cells (natCells (List.replicate K.evs.length 0)).toArray 3 (0, 0)) ∧
        wx.heap[b4]? = some (.cells (natCells (List.replicate (d.nextFrom.length - 1) 0)).toArray 3 (0, 0)) ∧ wx.heap[b5]? = some (.cells (natCells (List.replicate (d.nextFrom.length - 1) 0)).toArray 3 (0, 0)) ∧
        (wA.heap.size ≤ b2 ∧ b2 < wA.heap.size + 4 ∧ wA.heap.size ≤ b3 ∧ b3 < wA.heap.size + 4 ∧ wA.heap.size ≤ b4 ∧ b4 < wA.heap.size + 4 ∧ wA.heap.size ≤ b5 ∧ b5 < wA.heap.size + 4 ∧ b2 ≠ b3 ∧ b2 ≠ b4 ∧ b2 ≠ b5 ∧ b3 ≠ b4 ∧ b3 ≠ b5 ∧ b4 ≠ b5) ∧ wx.heap.size = wA.heap.size + 5 ∧ Below wA.heap.size wA wx)
      case first =>
        clear hE3
        go_region_with (first
          | (go_at_call 19; refine HC.out.1.mono ?_; rintro e wA ⟨bd, v0, v1, v2, v3, v4, rfl, hbd, hDR, hBA⟩; have k3 : wA.cell? ⟨bc, 3, none⟩ = some (.slice aE K.evs.length cE) := HC.out.2.1 wA (HC.out.2.2.2.2.2.drew.trans (hBA.mono (by show N ≤ wO.heap.size; omega))); have HA : Hid _ := And.intro hbd (And.intro hDR hBA); clear hbd hDR hBA)
          | (go_at_call 18; obtain ⟨aN, bN, oN, cN, hv4, hx1, hx2, hx3, hx4⟩ := (HA.out.2.1 wA (fun _ _ _ => rfl)).s4; refine (newWalk_any wA bd K.evs.length (d.nextFrom.length - 1) aN cN (by omega) (by omega) (by rw [(HA.out.2.1 wA (fun _ _ _ => rfl)).c4, hv4, Nat.sub_add_cancel (by omega)])).mono ?_; rintro e wx ⟨b2, b3, b4, b5, rfl, n1, n2, n3, n4, n5, n6, n7, n8⟩; have HB : Hid _ := And.intro n1 (And.intro n2 (And.intro n3 (And.intro n4 (And.intro n5 (And.intro n6 (And.intro n7 n8)))))); clear n1 n2 n3 n4 n5 n6 n7 n8 hv4 hx1 hx2 hx3 hx4 k3))
        all_goals
          go_wp2_with fail
          go_meet
          exact ⟨wA, bd, b2, b3, b4, b5, v0, v1, v2, v3, v4, rfl, HA.out.1, HA.out.2.1, (Below.refl _ wO).drew.trans HA.out.2.2, HB.out⟩
      case rest =>
        obtain ⟨wA, bd, b2, b3, b4, b5, v0, v1, v2, v3, v4, rfl, hbd, hDR, hBA, n1, n2, n3, n4, n5, n6, n7, n8⟩ := hcut
        obtain ⟨_, c3d, hown, hS, hrep, hb⟩ := HC.out
        have hBw := hBA.size
        have hbA : Below N w wA := hb.trans (hBA.mono (by omega))
        have hbX : Below N w wc := hbA.trans (n8.mono (by omega))
        have c3 := c3d wc hbX
        have hK := HH.out.1
        have hNw := HN.out
        generalize hBd : wA.heap.size = B at *
        have hmk : ∀ W : World, (Instr.makeSlice 39 (.int .i64 (K.evs.length : Int)) (.int .i64 (K.evs.length : Int))).run Yba.prog W = .ok (.slice (some ⟨W.heap.size, 0, none⟩) K.evs.length K.evs.length) (W.alloc (.cells (natCells (List.replicate K.evs.length 0)).toArray 3)) := fun W => make39 W K.evs.length (by omega)
        obtain ⟨W3, hW3⟩ : ∃ W, W = wc.alloc (.cells (natCells (List.replicate K.evs.length 0)).toArray 3) := ⟨_, rfl⟩
        have hb3 : Below N w W3 := by rw [hW3]; exact hbX.alloc (by omega) _
        have c4 : W3.cell? ⟨bc, 4, none⟩ = some (.map (some bm)) := (hb3.cell (p := ⟨bc, 4, none⟩) hbc).trans (cellB hK.c rfl)
        have c4o : wc.cell? ⟨bc, 4, none⟩ = some (.map (some bm)) := (hbX.cell (p := ⟨bc, 4, none⟩) hbc).trans (cellB hK.c rfl)
        have c4a : ∀ o, (wc.alloc o).cell? ⟨bc, 4, none⟩ = some (.map (some bm)) := fun o => ((hbX.alloc (by omega) o).cell (p := ⟨bc, 4, none⟩) hbc).trans (cellB hK.c rfl)
        have hval := callsIn_wide.1 (values_in Fence.wide 3 trivial rfl (some bm) W3)
        obtain ⟨W4, hW4⟩ : ∃ W, W = W3.alloc (.cells #[.map (some bm)] 71) := ⟨_, rfl⟩
        have hz3 : W3.heap.size = B + 6 := by rw [hW3]; simp; omega
        have hb4 : Below N w W4 := by rw [hW4]; exact hb3.alloc (by omega) _
        have hom4 : W4.ownsMap Yba.prog 3 ptrElem bm K.mem.length Dm := by
          obtain ⟨es, cl, hbk, r⟩ := hK.om
          have := (Array.getElem?_eq_some_iff.1 hbk).1
          exact ⟨es, cl, (hb4.block bm (by omega)).trans hbk, r⟩
        have hm4 : W4.cell? ⟨B + 6, 0, none⟩ = some (.map (some bm)) := by rw [hW4, ← hz3]; exact cellB (heap_alloc_new _ _) rfl
        have hmsl := HH.out.2.2.2.2.2.2
        have hsort := sorted_any W4 (B + 6) bm K.mem.length Dm ms hK.dm (by rw [hW4]; simp; omega) hm4 hom4 (by omega) (by omega) (fun p hp => by
          obtain ⟨k, hk⟩ := List.mem_iff_getElem?.1 hp
          have hkl := (List.getElem?_eq_some_iff.1 hk).1
          obtain ⟨mb, hmb⟩ : ∃ mb, K.mem[k]? = some mb := ⟨_, List.getElem?_eq_getElem (by omega)⟩
          have hh := hK.m k p mb hk hmb
          have hl := lt_of_block hh
          have hz4 := hb4.size
          refine ⟨by omega, (hb4.cell (p := ⟨p.2, 0, none⟩) (by show p.2 < N; omega)).trans (cellB hh ?_)⟩
          have e1 : (ms.map (·.1))[k]? = some p.1 := by simp [hk]
          rw [hK.mi] at e1
          simp only [List.getElem?_map, hmb, Option.map_some, Option.some.injEq] at e1
          rw [← e1]; rfl)
        rw [← hW4] at hval
        rw [hz3] at hval
        have HS : Hid _ := And.intro hval (And.intro hsort (And.intro hW3 hW4))
        have HX : Hid _ := And.intro n1 (And.intro n2 (And.intro n3 (And.intro n4 (And.intro n5 (And.intro n6 (And.intro n7 n8))))))
        have HY : Hid _ := And.intro hbd (And.intro hDR (And.intro hBA (And.intro hbX (And.intro hBd (And.intro hb4 hz3)))))
        have hszc : wc.heap.size ≤ B + 5 := by omega
        clear n1 n2 n3 n4 n5 n6 n7 n8 hbd hDR hBA hbX hBd hb4 hz3 hval hsort hW3 hW4 hK hNw hmsl hom4 hm4 c3d hown hS hrep hb hbA hb3
        go_wp2_with fail
        rw [← HS.out.2.2.1]
        refine HS.out.1.mono ?_
        rintro e W4' ⟨rfl, rfl⟩
        clear hmk c3 c4 c4o c4a
        go_wp2_with fail
        refine HS.out.2.1.mono ?_
        rintro e W5 ⟨vM, qs, rfl, hq1, hq2, hq3, hq4⟩
        have hK := HH.out.1
        have hmsl := HH.out.2.2.2.2.2.2
        have hNw := HN.out
        obtain ⟨gM, cM, rfl⟩ := Joins.ownsRow_form hq3 (by omega)
        obtain ⟨L, hL1, hL2, hL3⟩ := hK.order hq1
        have hqs : qs.length = ms.length := hq1.length_eq
        have hLl : L.length = ms.length := by have := hL1.length_eq; omega
        have hLs : L.Pairwise (fun a b => a.id < b.id) := by
          have e1 : (qs.map (·.1)).Pairwise (· < ·) := List.pairwise_map.2 hq2
          rw [← hL2] at e1
          exact List.pairwise_map.1 e1
        obtain ⟨R, hR⟩ := HH.out.2.2.2.1 L hL1 hLs
        obtain ⟨af, hmem, htal⟩ : ∃ af, membersP d K.evs fuel (fun z => decide (z ∈ svl)) L 0 ⟨⟨0, List.replicate K.evs.length 0, List.replicate K.evs.length 0, List.replicate (d.nextFrom.length - 1) 0, List.replicate (d.nextFrom.length - 1) 0, []⟩, List.replicate K.evs.length 0, 0, 0, []⟩ = some af ∧ tallyP ns K.evs 0 af.held 0 0 = some (R.2.1, R.2.2) ∧ R.1 = af := by
          have hR2 := hR
          unfold judgeP at hR2
          split at hR2
          · cases hR2
          · rename_i a ha
            split at hR2
            · cases hR2
            · rename_i q2 hq2'
              cases hR2
              exact ⟨a, ha, hq2', rfl⟩
        obtain ⟨n1, n2, n3, n4, n5, n6, n7, n8⟩ := HX.out
        obtain ⟨hbd, hDR, hBA, hbX, hBd, hb4, hz3⟩ := HY.out
        obtain ⟨_, _, hW3, hW4⟩ := HS.out
        obtain ⟨_, _, hown, hS, hrep, hb⟩ := HC.out
        have hBw := hBA.size
        have hW4s : W4'.heap.size = B + 7 := by rw [hW4]; simp; omega
        have hk5 : ∀ b, b < B + 5 → W5.heap[b]? = wc.heap[b]? := fun b hbb => by
          rw [hq4.block b (by omega), hW4, Below.heap_alloc _ _ _ (by omega), hW3, Below.heap_alloc _ _ _ (by omega)]
        have hkA : ∀ b, b < B → W5.heap[b]? = wA.heap[b]? := fun b hbb => (hk5 b (by omega)).trans (n8.block b hbb)
        have hkO : ∀ b, b < wO.heap.size → W5.heap[b]? = wO.heap[b]? := fun b hbb => (hkA b (by omega)).trans (hBA.block b hbb)
        have hk6 : W5.heap[B + 5]? = some (.cells (natCells (List.replicate K.evs.length 0)).toArray 3 (0, 0)) := by
          rw [hq4.block (B + 5) (by omega), hW4, Below.heap_alloc _ _ _ (by omega), hW3, ← n7]; exact heap_alloc_new _ _
        obtain ⟨c, hc⟩ : ∃ c : JC, c = { w := w, wA := wA, Nc := wO.heap.size, B := B, br := N, bs := N + 1, bw := B + 4, bd := bd, b2 := b2, b3 := b3, b4 := b4, b5 := b5, bh := B + 5, E := K.evs.length, n := d.nextFrom.length - 1, mc := K.mem.length, ln := K.lines, vM := .slice (some ⟨gM, 0, none⟩) qs.length cM, ms := qs, Ds := Ds, ns := svl.length } := ⟨_, rfl⟩
        have hG : JG c := by
          rw [hc]
          refine ⟨⟨by simp only; omega, by simp only; omega⟩, by simp only; omega, by simp only; omega⟩
        have hic : intCells (List.replicate (d.nextFrom.length - 1) 0) = natCells (List.replicate (d.nextFrom.length - 1) 0) := by simp [intCells, natCells]
        have hM5 : JM c W5 ⟨0, List.replicate K.evs.length 0, List.replicate K.evs.length 0, List.replicate (d.nextFrom.length - 1) 0, List.replicate (d.nextFrom.length - 1) 0, []⟩ (List.replicate K.evs.length 0) 0 0 0 0 [] (.slice none 0 0) (.slice none 0 0) := by
          rw [hc]
          refine ⟨?_, fun b h1 h2 => hkA b h2, ?_, ?_, ⟨(hk5 (B + 4) (by omega)).trans n1, (hk5 b2 (by omega)).trans n2, (hk5 b3 (by omega)).trans n3, (hk5 b4 (by omega)).trans n4, ?_, World.ownsRow_nil _ _ _ _, Below.refl _ _, by simp, by simp, by simp, by simp, fun _ _ ho _ _ _ _ _ _ => ho⟩, hk6, World.ownsRow_nil _ _ _ _, ?_, by simp⟩
          · have := hb4.trans (hq4.mono (by omega))
            rw [hNw] at this
            exact this
          · exact (hkO N (by omega)).trans (hrep.trans (by rw [HRP.out]; rfl))
          · obtain ⟨es, cl, hbk, r⟩ := hown
            exact ⟨es, cl, (hkO (N + 1) (by omega)).trans hbk, r⟩
          · show W5.heap[b5]? = some (.cells (intCells (List.replicate (d.nextFrom.length - 1) 0)).toArray 3 (0, 0))
            rw [hic]; exact (hk5 b5 (by omega)).trans n5
          · have := ownsRow_base_a hq3 (base' := B) (by omega)
            rw [← hqs] at this
            exact this
        have hDc : ∀ W : World, (∀ b, c.Nc ≤ b → b < c.B → W.heap[b]? = c.wA.heap[b]?) → DRep c.B W c.bd d v0 v1 v2 v3 v4 := by rw [hc]; exact hDR
        have H5 : Hid _ := And.intro hM5 (And.intro hDc (And.intro hmem (And.intro htal (And.intro hL3 (And.intro hqs (And.intro hLl (And.intro hL1 (And.intro hLs (And.intro hR hS)))))))))
        have HCc : Hid _ := hc
        have hcM : qs.length ≤ ms.length := by omega
        have hLm : ms.length = L.length := by omega
        have hcb : wc.heap.size = B + 5 := n7
        dsimp only
        rw [hLm, hcb]
        clear hM5 hDc hmem htal hL3 hL1 hLs hR hS n1 n2 n3 n4 n5 n6 n7 n8 hbd hDR hBA hbX hBd hb4 hz3 hW3 hW4 hq1 hq2 hq3 hq4 hown hrep hb hk5 hkA hkO hk6 hic hK hNw hcb hLm HS HX HY HC hW4s hc hL2 hLl hqs hcM hmsl
        go_upto_block 2 with fail
        go_wp2_with fail
        obtain rfl := HCc.out
        obtain ⟨hM5, hDc, hmem, htal, hL3, hqs', hLl', hL1, hLs, hR, hS⟩ := H5.out
        have hNw := HN.out
        obtain ⟨haE, hbE⟩ := hE3 hEp
        refine judge_loop2 _ hG K L d fuel (fun z => decide (z ∈ svl)) svl ⟨⟨0, List.replicate K.evs.length 0, List.replicate K.evs.length 0, List.replicate (d.nextFrom.length - 1) 0, List.replicate (d.nextFrom.length - 1) 0, []⟩, List.replicate K.evs.length 0, 0, 0, []⟩ af bc bE cE gM cM (.slice none 0 0) (.slice none 0 0) v0 v1 v2 v3 v4 (fun i => V (3 * i + 1)) W5 rfl (by show L.length = qs.length; omega) rfl (by show bc < w.heap.size; omega) (cellB HH.out.1.c rfl) (by
            have h1 : w.cell? ⟨bc, 3, none⟩ = some vE := cellB HH.out.1.c rfl
            rw [HV.out.1, haE] at h1
            exact h1) (by show bE < w.heap.size; omega) (fun i ev hi => by
            obtain ⟨_, _, _, q3, q4⟩ := HV.out.2.2 i ev hi
            rw [hNw] at q4
            exact ⟨q3, q4⟩) (fun i mb hi => by
            obtain ⟨p, vdv, vsi, past, r1, r2, r3, r4⟩ := hL3 i mb hi
            exact ⟨p, vdv, vsi, past, r1, r2, r3, r4, HH.out.2.1 mb (hL1.mem_iff.1 (List.mem_of_getElem? hi))⟩) hDc hS (fun z => rfl) hM5 hmem _ _ ?hexit _ _ _ _ _ _ _ _ _ _ _ _ _ _ _ _ _ _ _ _ _ _ _ _ _ _ _ _ _ _ _ _ _ _ _ _ _ _ _ _ _ _ _ _ _ _ _ _ _ _ _ _ _ _ _ _ _ _ _ _ _ _ _ _ _ _ _ _ _ _ _ _ _ _ _ _ _ _ _ _ _ _ _ _ _ _ _ _ _ _ _ _ _ _ _ _ _ _ _ _ _ _ _ _ _ _ _ _ _ _ _ _ _ _ _ _ _ _ _ _ _ _ _ _ _ _ _ _ _ _ _ _ _ _ _ _ _ _ _ _ _ _ _ _ _ _ _ _ _ _ _ _ _ _ _ _ _ _ _ _ _ _ _ _ _ _ _ _ _ _ _ _ _ _ _ _ _ _ _ _ _ _ _ _ _ _ _ _ _ _ _ _ _ _ _ _ _ _ _ _ _ _ _ _ _ _ _ _ _ _ _ _ _ _ _ _ _ _ _ _ _ _ _ _ _ _ _ _ _ _ _ _ _ _ _ _ _ _ _ _ _ _ _ _ _ _ _ _ _ _ _ _
        case hexit =>
          intro vS vD wr hM
          intros
          dsimp only
          obtain ⟨u0, hu0⟩ : ∃ u0, u0 = R.2.1 := ⟨_, rfl⟩
          obtain ⟨g0, hg0⟩ : ∃ g0, g0 = R.2.2 := ⟨_, rfl⟩
          have htal2 := htal.1
          rw [← hu0, ← hg0] at htal2
          have hsz : Maps.size Ds = ns := by
            obtain ⟨u, hu1, hu2, hu3⟩ := hS.sz
            rw [hu3]; exact HH.out.2.2.2.2.2.1 u hu1 hu2
          have k3 : wr.cell? ⟨bc, 3, none⟩ = some (.slice (some ⟨bE, 0, none⟩) K.evs.length cE) := by
            have h1 : w.cell? ⟨bc, 3, none⟩ = some vE := cellB HH.out.1.c rfl
            rw [HV.out.1, haE] at h1
            exact (hM.s1.cell (p := ⟨bc, 3, none⟩) (by show bc < w.heap.size; omega)).trans h1
          have HF : Hid _ := And.intro hM (And.intro htal2 (And.intro hL1 (And.intro hLs (And.intro hR (And.intro htal.2 (And.intro hu0 (And.intro hg0 hsz)))))))
          clear hM htal htal2 hL1 hLs hR hu0 hg0 hsz hM5 hDc hmem hL3 hqs' hLl' hS H5 hNw haE HCc
          go_upto_block 8 with fail
          clear k3
          go_wp2_with fail
          go_loopg [220] K.evs.length (fun j i wx => ∃ (k u g : Nat), k ≤ K.evs.length ∧ j = K.evs.length - k ∧ i = .int .i64 k ∧ JM ({ w := w, wA := wA, Nc := wO.heap.size, B := B, br := N, bs := N + 1, bw := B + 4, bd := bd, b2 := b2, b3 := b3, b4 := b4, b5 := b5, bh := B + 5, E := K.evs.length, n := d.nextFrom.length - 1, mc := K.mem.length, ln := K.lines, vM := .slice (some ⟨gM, 0, none⟩) qs.length cM, ms := qs, Ds := Ds, ns := svl.length } : JC) wx af.s af.held af.dup af.run u g af.dlv vS vD ∧ tallyP ns (K.evs.drop k) k af.held u g = some (u0, g0))
          case atStart => exact ⟨0, 0, 0, Nat.zero_le _, rfl, rfl, HF.out.1, HF.out.2.1⟩
          case round =>
            obtain ⟨k, u, g, hk, rfl, rfl, hM, hrun⟩ := hrel
            by_cases hlt : k < K.evs.length
            · obtain ⟨ev, hx⟩ : ∃ x, K.evs[k]? = some x := ⟨_, List.getElem?_eq_getElem hlt⟩
              have hdr : K.evs.drop k = ev :: K.evs.drop (k + 1) := by
                obtain ⟨h1, h2⟩ := List.getElem?_eq_some_iff.1 hx
                rw [List.drop_eq_getElem_cons h1, h2]
              rw [hdr, tallyP] at hrun
              split at hrun
              · rename_i hh0 hhd
                split at hrun
                · rename_i hgg
                  obtain ⟨hgg1, hgg2⟩ := hgg
                  unfold big at hgg1 hgg2
                  obtain ⟨q0, q1, q2, q3, q4⟩ := HV.out.2.2 k ev hx
                  have hNw := HN.out
                  have f0 := (hM.s1.cell (p := ⟨bE, k * 4, none⟩) (by show bE < w.heap.size; omega)).trans q0
                  have f1 := (hM.s1.cell (p := ⟨bE, k * 4 + 1, none⟩) (by show bE < w.heap.size; omega)).trans q1
                  have f2 := (hM.s1.cell (p := ⟨bE, k * 4 + 2, none⟩) (by show bE < w.heap.size; omega)).trans q2
                  have f3 := (hM.s1.cell (p := ⟨bE, k * 4 + 3, none⟩) (by show bE < w.heap.size; omega)).trans q3
                  clear hNw q0 q1 q2 q3 q4 hx hdr
                  obtain ⟨aQ, cQ, hVQ, _, _⟩ := HH.out.1.r.any (3 * k + 1)
                  have f3' : wr.cell? ⟨bE, k * 4 + 3, none⟩ = some (.slice aQ (X (3 * k + 1)).length cQ) := by rw [← hVQ]; exact f3
                  have r6 : wr.cell? ⟨N, 6, none⟩ = some (.int .i64 (u : Int)) := cellB hM.rep rfl
                  have r6a : ∀ o, (wr.alloc o).cell? ⟨N, 6, none⟩ = some (.int .i64 (u : Int)) := fun o => cellB (hM.alloc hG o).rep rfl
                  have r6f : ∀ o, (wr.alloc o).frozen? ⟨N, 6, none⟩ = false := fun o => freeB (hM.alloc hG o).rep
                  have hzr := lt_of_block hM.rep
                  have zr : ¬ N = wr.heap.size := by have : N < wr.heap.size := hzr; omega
                  have zr' : ¬ wr.heap.size = N := fun e' => zr e'.symm
                  have HZ : Hid _ := And.intro hM (And.intro hrun hhd)
                  clear hM hrun hhd f3 hVQ hzr
                  go_upto_if 227 with fail
                  go_cut [] (fun wx => JM ({ w := w, wA := wA, Nc := wO.heap.size, B := B, br := N, bs := N + 1, bw := B + 4, bd := bd, b2 := b2, b3 := b3, b4 := b4, b5 := b5, bh := B + 5, E := K.evs.length, n := d.nextFrom.length - 1, mc := K.mem.length, ln := K.lines, vM := .slice (some ⟨gM, 0, none⟩) qs.length cM, ms := qs, Ds := Ds, ns := svl.length } : JC) wx af.s af.held af.dup af.run (if ev.bc then u else u + ev.dl) g af.dlv vS vD)
                  case first =>
                    cases hbv : ev.bc with
                    | true =>
                      have HBV : Hid _ := hbv
                      go_wp2
                      go_meet
                      rw [HBV.out]
                      exact HZ.out.1.alloc hG _
                    | false =>
                      have HBV : Hid _ := hbv
                      have hF := ((HZ.out.1.alloc hG (.cells #[.int .i64 ev.id, .bool false, .int .i64 (ev.dl : Int), .slice aQ (X (3 * k + 1)).length cQ] 84)).repS hG (i := 6) (u := .int .i64 ((u : Int) + (ev.dl : Int))) (dup' := af.dup) (run' := af.run) (unb' := u + ev.dl) (agr' := g) (by simp)).drew
                      have HG6 : Hid _ := hF
                      clear hF
                      go_wp2
                      go_region
                      all_goals
                        go_wp2
                        go_meet
                        rw [HBV.out]
                        exact HG6.out
                  case rest =>
                    clear f0 f1 f2 f3' r6 r6a r6f zr zr'
                    obtain ⟨u2, hu2⟩ : ∃ u2, u2 = (if ev.bc then u else u + ev.dl) := ⟨_, rfl⟩
                    have hr2 := HZ.out.2.1
                    rw [← hu2] at hcut hr2
                    have hl1 : ∀ q ty, (Builtin.len_ #[87] ty #[.map (some (N + 1))]).run Yba.prog (wc.drewN q) = .ok (.int .i64 (ns : Int)) (wc.drewN q) := fun q ty => by
                      have hh := (hcut.drewN q).sm.len Yba.underlying87 ty
                      rw [hh, HF.out.2.2.2.2.2.2.2.2]
                    have hl2 : ∀ ty, (Builtin.len_ #[87] ty #[.map (some (N + 1))]).run Yba.prog wc = .ok (.int .i64 (ns : Int)) wc := hl1 0
                    have hl3 : ∀ ty, (Builtin.len_ #[87] ty #[.map (some (N + 1))]).run Yba.prog wc.drew = .ok (.int .i64 (ns : Int)) wc.drew := hl1 1
                    have hc5 : wc.cell? ⟨B + 5, k, none⟩ = some (.int .i64 (hh0 : Int)) := cellB hcut.hd (natCells_get HZ.out.2.2)
                    have r7 : wc.cell? ⟨N, 7, none⟩ = some (.int .i64 (g : Int)) := cellB hcut.rep rfl
                    have r7f : wc.frozen? ⟨N, 7, none⟩ = false := freeB hcut.rep
                    have HU : Hid _ := And.intro hcut hr2
                    clear hcut hr2 hu2
                    by_cases h0 : 0 < hh0
                    · have h0' : (0 : Int) < (hh0 : Int) := by omega
                      by_cases h1 : hh0 < ns
                      · have h1' : (hh0 : Int) < (ns : Int) := by omega
                        have hr3 := HU.out.2
                        rw [if_pos ⟨h0, h1⟩] at hr3
                        have hF7 := fun q => (HU.out.1.drewN q).repS hG (i := 7) (u := .int .i64 ((g : Int) + 1)) (dup' := af.dup) (run' := af.run) (unb' := u2) (agr' := g + 1) (by simp)
                        have H7 : Hid _ := And.intro hr3 hF7
                        clear hr3 hF7
                        go_wp2
                        go_region
                        all_goals
                          go_wp2
                          go_roundg (K.evs.length - (k + 1))
                          case measure => omega
                          case rel => exact ⟨k + 1, u2, g + 1, by omega, rfl, by go_num, H7.out.2 1, H7.out.1⟩
                      · have h1' : ¬ (hh0 : Int) < (ns : Int) := by omega
                        have hr3 := HU.out.2
                        rw [if_neg (fun h => h1 h.2)] at hr3
                        have H7 : Hid _ := hr3
                        clear hr3
                        go_wp2
                        go_region
                        all_goals
                          go_wp2
                          go_roundg (K.evs.length - (k + 1))
                          case measure => omega
                          case rel => exact ⟨k + 1, u2, g, by omega, rfl, by go_num, HU.out.1.drewN 1, H7.out⟩
                    · have h0' : ¬ (0 : Int) < (hh0 : Int) := by omega
                      have hr3 := HU.out.2
                      rw [if_neg (fun h => h0 h.1)] at hr3
                      have H7 : Hid _ := hr3
                      clear hr3
                      go_wp2
                      go_region
                      all_goals
                        go_wp2
                        go_roundg (K.evs.length - (k + 1))
                        case measure => omega
                        case rel => exact ⟨k + 1, u2, g, by omega, rfl, by go_num, HU.out.1.drewN 1, H7.out⟩
                · cases hrun
              · cases hrun
            · obtain rfl : k = K.evs.length := by omega
              rw [List.drop_length, tallyP] at hrun
              have HZ : Hid _ := And.intro hM (Option.some.inj hrun)
              clear hM hrun
              go_wp2
              go_ret
              obtain ⟨hM, hug⟩ := HZ.out
              obtain ⟨_, _, hL1, hLs, hR, hRa, hu0, hg0, _⟩ := HF.out
              have hNw := HN.out
              have e1 : u = u0 := congrArg Prod.fst hug
              have e2 : g = g0 := congrArg Prod.snd hug
              refine ⟨N, vD, L, af, u, g, rfl, hL1, hLs, ?_, hM.rep, ?_, by omega, hM.s1⟩
              · rw [hR, e1, e2, hu0, hg0, ← hRa]
              · exact ownsRow_base_a hM.dl (by show w.heap.size ≤ B; have := hG.rr; simp only at this; omega)
end Go.Proofs.Ybulkbewa
