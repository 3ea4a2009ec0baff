/- Judge (function 12) of a Checker that has seen no line. -/
import Derived.Test.YbulkbewaJHead
import Derived.Test.YbulkbewaCond
import Derived.Test.YbulkbewaSE
import Derived.Test.YbulkbewaJLoop
import Derived.Test.YbulkbewaSort
import Derived.Maps.OwnSet
import Derived.Deep.QuietTactic
import Derived.BigQuiet
import Derived.Deep.CutBlock
import Derived.Deep.DeepCutAuto
namespace Go.Proofs.Ybulkbewa
open Go.RowKit Go.Maps

set_option maxHeartbeats 32000000 in
set_option maxRecDepth 100000 in
theorem judge_none (B0 : Nat) (w0 w : World) (bc bi bm ln : Nat) (ps : List PastP) (inp : List Nat) (il ms : List (Int × Nat)) (V : Nat → Value) (X : Nat → List Nat) (vE vP : Value) (Di Dm : DataW Unit) (svl : List Int) (vSv : Value) (fuel : Nat) (d : DG)
    (h : KRep B0 w0 w bc bi bm ⟨ln, [], [], ps, inp⟩ il ms V X vE vP Di Dm)
    (hsv : ∃ a b o cap, vSv = .slice a svl.length cap ∧ svl.length ≤ cap ∧ cap ≤ 9223372036854775807 ∧ (0 < svl.length → a = some ⟨b, o, none⟩ ∧ b < w.heap.size) ∧ ∀ (i : Nat) (x : Int), svl[i]? = some x → w.cell? ⟨b, o + i, none⟩ = some (.int .i64 x) ∧ (Lit.int .i64 x).wf = true) (hsvb : svl.length < 1000000000)
    (hd : condP [] ps inp fuel = some d) (hdn : 0 < d.nextFrom.length ∧ d.nextFrom.length ≤ 1000000000) :
    Calls Yba.prog 12 #[.pointer (some ⟨bc, 0, none⟩), vSv] w fun e w' => ∃ (br : Nat), e = .returned (.pointer (some ⟨br, 0, none⟩)) ∧
      w'.heap[br]? = some (.cells #[.int .i64 0, .int .i64 (ln : Int), .int .i64 0, .bool false, .int .i64 0, .int .i64 0, .int .i64 0, .int .i64 0, .slice none 0 0] 55 (0, 0)) ∧ w.heap.size ≤ br ∧ Below w.heap.size w w' := by
  obtain ⟨aV, bV, oV, cV, rfl, hV1, hV2, hV3, hV4⟩ := hsv
  have hml : ms = [] := by have := congrArg List.length h.mi; simpa using this
  obtain ⟨N, hN⟩ : ∃ N, N = w.heap.size := ⟨_, rfl⟩
  have hlm : ∀ ty, (Builtin.len_ #[71] ty #[.map (some bm)]).run Yba.prog w = .ok (.int .i64 (0 : Int)) w := fun ty => by
    rw [h.om.len Yba.underlying71 ty, h.dm.sz, hml]; rfl
  have hlm' : ∀ ty, (Builtin.len_ #[71] ty #[.map (some bm)]).run Yba.prog w.drew = .ok (.int .i64 (0 : Int)) w.drew := fun ty => by
    rw [h.om.drew.len Yba.underlying71 ty, h.dm.sz, hml]; rfl
  have hneq : ∀ W : World, (binOp .neq 69 (.slice none 0 0) (.slice none 0 0)).run Yba.prog W = .ok (.bool false) W := fun _ => rfl
  have hmm := @run_makeMap Yba.prog
  have c0 : w.cell? ⟨bc, 0, none⟩ = some (.slice none 0 0) := cellB h.c rfl
  have c1 : w.cell? ⟨bc, 1, none⟩ = some (.int .i64 (ln : Int)) := cellB h.c rfl
  have c4 : w.cell? ⟨bc, 4, none⟩ = some (.map (some bm)) := cellB h.c rfl
  have hbc := lt_of_block h.c
  have HH : Hid _ := And.intro h (And.intro trivial (And.intro hd (And.intro trivial (And.intro hV4 (And.intro trivial hml)))))
  have HN : Hid _ := hN
  rw [← hN] at hV3 hbc
  clear h hd hV4 hml hN
  go_enter Yba.func12, Yba.ntmps12
  go_upto_region 1 with fail
  go_cut [5] (fun r wx => r = .pointer (some ⟨N, 0, none⟩) ∧ ∃ q, wx = (w.alloc (.cells #[.int .i64 (0 : Int), .int .i64 (ln : Int), .int .i64 0, .bool false, .int .i64 0, .int .i64 0, .int .i64 0, .int .i64 0, .slice none 0 0] 55)).drewN q)
  case first =>
    go_region
    all_goals
      go_wp2
      go_meet
      exact ⟨by rw [HN.out], 1, rfl⟩
  case rest =>
    obtain ⟨rfl, q, rfl⟩ := hcut
    clear c0 c1 c4 hlm hlm' hneq
    obtain ⟨rp, hrp⟩ : ∃ rp : Array Value, rp = #[.int .i64 (0 : Int), .int .i64 (ln : Int), .int .i64 0, .bool false, .int .i64 0, .int .i64 0, .int .i64 0, .int .i64 0, .slice none 0 0] := ⟨_, rfl⟩
    rw [← hrp]
    have hsz1 : ((w.alloc (.cells rp 55)).drewN q).heap.size = N + 1 := by rw [HN.out]; simp
    have hrep1 : ((w.alloc (.cells rp 55)).drewN q).heap[N]? = some (.cells rp 55 (0, 0)) := by
      have e1 : ∀ (W : World) (n : Nat), (W.drewN n).heap = W.heap := fun W n => by
        induction n with
        | zero => rfl
        | succ n ih => exact ih
      rw [e1, HN.out]; exact heap_alloc_new _ _
    have hb1 : Below N w ((w.alloc (.cells rp 55)).drewN q) := by rw [HN.out]; exact below_drewN ((Below.refl _ w).alloc (Nat.le_refl _) _) q
    obtain ⟨W1, hW1⟩ : ∃ W, W = (w.alloc (.cells rp 55)).drewN q := ⟨_, rfl⟩
    rw [← hW1] at hsz1 hrep1 hb1 ⊢
    have HRP : Hid _ := hrp
    have hsz1a : W1.heap.size ≤ N + 1 := by omega
    have hsz1b : N + 1 ≤ W1.heap.size := by omega
    have H1 : Hid _ := And.intro hrep1 (And.intro hb1 hsz1)
    clear hW1 hrp hrep1 hb1 hsz1
    go_upto_block 0 with fail
    clear hmm
    rw [H1.out.2.2]
    go_cut [] (fun wx => ∃ Ds, wx.ownsMap Yba.prog 3 (plainElem Yba.prog 4) (N + 1) svl.length Ds ∧ SurvOf Ds svl ∧ wx.heap[N]? = some (.cells rp 55 (0, 0)) ∧ Below N w wx ∧ N + 2 ≤ wx.heap.size)
    case first =>
      go_wp2_with fail
      go_loopw [40] (fun i wx => ∃ (k : Nat) (Ds : DataW Unit), k ≤ svl.length ∧ i = .int .i64 k ∧ wx.ownsMap Yba.prog 3 (plainElem Yba.prog 4) (N + 1) k Ds ∧ SurvOf Ds (svl.take k) ∧ wx.heap[N]? = some (.cells rp 55 (0, 0)) ∧ Below N w wx ∧ N + 2 ≤ wx.heap.size) (fun i _ => svl.length - (intOf i).toNat)
      case atStart =>
        obtain ⟨hrep1, hb1, hsz1⟩ := H1.out
        have hmd := World.ownsMap_made W1 Yba.prog 3 (plainElem (H := Unit) Yba.prog 4)
        rw [hsz1] at hmd
        exact ⟨0, _, Nat.zero_le _, rfl, hmd, SurvOf.nil, (Below.heap_alloc _ _ _ (by omega)).trans hrep1, hb1.alloc (by omega) _, by simp; omega⟩
      case round =>
        obtain ⟨k, Ds, hk, rfl, hown, hS, hrep, hb, hz⟩ := hrel
        by_cases hlt : k < svl.length
        · obtain ⟨rfl, hbV⟩ := hV3 (by omega)
          obtain ⟨x, hx⟩ : ∃ x, svl[k]? = some x := ⟨_, List.getElem?_eq_getElem hlt⟩
          obtain ⟨hxc, hxw⟩ := HH.out.2.2.2.2.1 k x hx
          have xc : wr.cell? ⟨bV, oV + k, none⟩ = some (.int .i64 x) := (hb.cell (p := ⟨bV, oV + k, none⟩) hbV).trans hxc
          have htk : svl.take (k + 1) = svl.take k ++ [x] := by rw [List.take_add_one, hx]; rfl
          have HZ : Hid _ := And.intro hown (And.intro hS (And.intro hrep (And.intro hb htk)))
          clear hown hS hrep hb htk hx hxc
          go_wp2_with (at_mapUpdate; refine wpList_mapUpdate_own _ rfl _ _ _ 87 rfl 3 4 (int_keyed Yba.underlying3) Yba.underlying87 (plainElem Yba.prog 4) (N + 1) k Ds rfl (by exact HZ.out.1) (by unfold maxLen; omega) (.int .i64 x) (.bool true) (.int .i64 x) rfl rfl (keyOf_int_mk Yba.underlying3 hxw) (.lit (.bool true)) [] (plainElem_bool Yba.underlying4 true) ?_; intro W2 hown2 hg2; have H2 : Hid _ := And.intro hown2 hg2; clear hown2 hg2)
          go_roundw
          case rel =>
            obtain ⟨hown, hS, hrep, hb, htk⟩ := HZ.out
            obtain ⟨hown2, hg2⟩ := H2.out
            refine ⟨k + 1, _, by omega, by go_num, hown2, by rw [htk]; exact hS.put hown.isMap (hown.tidy (int_keyed Yba.underlying3)) x, map_keep hg2 hrep (by obtain ⟨es, cl, hb', _⟩ := hown; exact ⟨es, cl, hb'⟩), hb.grown hg2 (by omega) (fun b e => by cases e; omega), Nat.le_trans hz hg2.size⟩
          case measure => simp [intOf]; omega
        · obtain rfl : k = svl.length := by omega
          rw [List.take_length] at hS
          have HZ : Hid _ := And.intro hown (And.intro hS (And.intro hrep hb))
          clear hown hS hrep hb
          go_wp2
          go_meet
          exact ⟨Ds, HZ.out.1, HZ.out.2.1, HZ.out.2.2.1, HZ.out.2.2.2, hz⟩
    case rest =>
      clear H1 hsz1a hsz1b
      obtain ⟨Ds, hown, hS, hrep, hb, hz⟩ := hcut
      generalize hwO : wc = wO at *
      clear hwO wc
      have hK := HH.out.1
      have hNw := HN.out
      have c3 : wO.cell? ⟨bc, 3, none⟩ = some vE := (hb.cell (p := ⟨bc, 3, none⟩) hbc).trans (cellB hK.c rfl)
      have hE : SlE w.heap.size w vE ([] : List EV) (fun i => V (3 * i + 1)) := hK.slE
      have hP : SlP w.heap.size w vP ps := hK.slP
      have hI : SlN w.heap.size w (V 0) inp := hK.slI
      rw [← hNw] at hE hP hI
      obtain ⟨aE, bE, cE, hvE, hE1, hE2, hE3, hE4⟩ := hE
      have hvE : vE = .slice aE 0 cE := hvE
      have hEc : SlE wO.drew.heap.size wO.drew vE ([] : List EV) (fun i => V (3 * i + 1)) := ⟨aE, bE, cE, hvE, hE1, hE2, fun h0 => by simp at h0, fun i ev hi => by simp at hi⟩
      have hPc : SlP wO.drew.heap.size wO.drew vP ps := by
        obtain ⟨a', b', cap', hv', h1', h2', h3', h4'⟩ := hP
        refine ⟨a', b', cap', hv', h1', h2', fun h0 => ⟨(h3' h0).1, by have := (h3' h0).2; show b' < wO.heap.size; omega⟩, fun i p hi => ?_⟩
        obtain ⟨q0, q1, q2⟩ := h4' i p hi
        have hi' := (List.getElem?_eq_some_iff.1 hi).1
        have hbE := (h3' (by omega)).2
        exact ⟨(hb.cell (p := ⟨b', i * 3, none⟩) hbE).trans q0, (hb.cell (p := ⟨b', i * 3 + 1, none⟩) hbE).trans q1, (hb.cell (p := ⟨b', i * 3 + 2, none⟩) hbE).trans q2⟩
      have hIc : SlN wO.drew.heap.size wO.drew (V 0) inp := hI.up (by show N ≤ wO.heap.size; omega) hb.drew
      have hcond := cond_any wO.drew bc ([] : List EV) ps inp fuel d vE vP (V 0) (fun i => V (3 * i + 1)) hEc hPc hIc ((hb.cell (p := ⟨bc, 5, none⟩) hbc).trans (cellB hK.c rfl)) ((hb.cell (p := ⟨bc, 6, none⟩) hbc).trans (cellB hK.c rfl)) (by show bc < wO.heap.size; omega) HH.out.2.2.1
      rw [hvE] at hcond c3
      have c3d : ∀ W : World, Below N w W → W.cell? ⟨bc, 3, none⟩ = some (.slice aE 0 cE) := fun W hW => by rw [← hvE]; exact (hW.cell (p := ⟨bc, 3, none⟩) hbc).trans (cellB hK.c rfl)
      have HC : Hid _ := And.intro hcond (And.intro c3d (And.intro hown (And.intro hS (And.intro hrep hb))))
      have HV : Hid _ := And.intro hvE (And.intro hE3 hE4)
      clear hcond hEc hPc hIc hE4 hP hI hK hown hS hrep hb hNw c3d hvE
      go_upto_region 8 with fail
      go_cut [9] (fun v wx => ∃ (wA : World) (bd b2 b3 b4 b5 : Nat) (v0 v1 v2 v3 v4 : Value), v = .pointer (some ⟨wA.heap.size + 4, 0, none⟩) ∧ wO.heap.size ≤ bd ∧ (∀ W : World, (∀ b, wO.heap.size ≤ b → b < wA.heap.size → W.heap[b]? = wA.heap[b]?) → DRep wA.heap.size W bd d v0 v1 v2 v3 v4) ∧ Below wO.heap.size wO wA ∧
        wx.heap[wA.heap.size + 4]? = some (.cells #[.pointer (some ⟨bd, 0, none⟩), .int .i64 0, .slice (some ⟨b2, 0, none⟩) 0 0, .slice (some ⟨b3, 0, none⟩) 0 0, .slice (some ⟨b4, 0, none⟩) (d.nextFrom.length - 1) (d.nextFrom.length - 1), .slice (some ⟨b5, 0, none⟩) (d.nextFrom.length - 1) (d.nextFrom.length - 1), .slice none 0 0] 101 (0, 0)) ∧
        wx.heap[b2]? = some (.cells (natCells (List.replicate 0 0)).toArray 3 (0, 0)) ∧ wx.heap[b3]? = some (.cells (natCells (List.replicate 0 0)).toArray 3 (0, 0)) ∧
        wx.heap[b4]? = some (.cells (natCells (List.replicate (d.nextFrom.length - 1) 0)).toArray 3 (0, 0)) ∧ wx.heap[b5]? = some (.cells (natCells (List.replicate (d.nextFrom.length - 1) 0)).toArray 3 (0, 0)) ∧
        (wA.heap.size ≤ b2 ∧ b2 < wA.heap.size + 4 ∧ wA.heap.size ≤ b3 ∧ b3 < wA.heap.size + 4 ∧ wA.heap.size ≤ b4 ∧ b4 < wA.heap.size + 4 ∧ wA.heap.size ≤ b5 ∧ b5 < wA.heap.size + 4 ∧ b2 ≠ b3 ∧ b2 ≠ b4 ∧ b2 ≠ b5 ∧ b3 ≠ b4 ∧ b3 ≠ b5 ∧ b4 ≠ b5) ∧ wx.heap.size = wA.heap.size + 5 ∧ Below wA.heap.size wA wx)
      case first =>
        clear hE3
        go_region_with (first
          | (go_at_call 19; refine HC.out.1.mono ?_; rintro e wA ⟨bd, v0, v1, v2, v3, v4, rfl, hbd, hDR, hBA⟩; have k3 : wA.cell? ⟨bc, 3, none⟩ = some (.slice aE 0 cE) := HC.out.2.1 wA (HC.out.2.2.2.2.2.drew.trans (hBA.mono (by show N ≤ wO.heap.size; omega))); have HA : Hid _ := And.intro hbd (And.intro hDR hBA); clear hbd hDR hBA)
          | (go_at_call 18; obtain ⟨aN, bN, oN, cN, hv4, hx1, hx2, hx3, hx4⟩ := (HA.out.2.1 wA (fun _ _ _ => rfl)).s4; refine (newWalk_any wA bd 0 (d.nextFrom.length - 1) aN cN (by omega) (by omega) (by rw [(HA.out.2.1 wA (fun _ _ _ => rfl)).c4, hv4, Nat.sub_add_cancel (by omega)])).mono ?_; rintro e wx ⟨b2, b3, b4, b5, rfl, n1, n2, n3, n4, n5, n6, n7, n8⟩; have HB : Hid _ := And.intro n1 (And.intro n2 (And.intro n3 (And.intro n4 (And.intro n5 (And.intro n6 (And.intro n7 n8)))))); clear n1 n2 n3 n4 n5 n6 n7 n8 hv4 hx1 hx2 hx3 hx4 k3))
        all_goals
          go_wp2_with fail
          go_meet
          exact ⟨wA, bd, b2, b3, b4, b5, v0, v1, v2, v3, v4, rfl, HA.out.1, HA.out.2.1, (Below.refl _ wO).drew.trans HA.out.2.2, HB.out⟩
      case rest =>
        obtain ⟨wA, bd, b2, b3, b4, b5, v0, v1, v2, v3, v4, rfl, hbd, hDR, hBA, n1, n2, n3, n4, n5, n6, n7, n8⟩ := hcut
        obtain ⟨_, c3d, hown, hS, hrep, hb⟩ := HC.out
        have hBw := hBA.size
        have hbA : Below N w wA := hb.trans (hBA.mono (by omega))
        have hbX : Below N w wc := hbA.trans (n8.mono (by omega))
        have c3 := c3d wc hbX
        have hK := HH.out.1
        have hNw := HN.out
        generalize hBd : wA.heap.size = B at *
        have hmk : ∀ W : World, (Instr.makeSlice 39 (.int .i64 (0 : Int)) (.int .i64 (0 : Int))).run Yba.prog W = .ok (.slice (some ⟨W.heap.size, 0, none⟩) 0 0) (W.alloc (.cells (natCells (List.replicate 0 0)).toArray 3)) := fun W => make39 W 0 (by omega)
        obtain ⟨W3, hW3⟩ : ∃ W, W = wc.alloc (.cells (natCells []).toArray 3) := ⟨_, rfl⟩
        have hb3 : Below N w W3 := by rw [hW3]; exact hbX.alloc (by omega) _
        have c4 : W3.cell? ⟨bc, 4, none⟩ = some (.map (some bm)) := (hb3.cell (p := ⟨bc, 4, none⟩) hbc).trans (cellB hK.c rfl)
        have c4o : wc.cell? ⟨bc, 4, none⟩ = some (.map (some bm)) := (hbX.cell (p := ⟨bc, 4, none⟩) hbc).trans (cellB hK.c rfl)
        have c4a : ∀ o, (wc.alloc o).cell? ⟨bc, 4, none⟩ = some (.map (some bm)) := fun o => ((hbX.alloc (by omega) o).cell (p := ⟨bc, 4, none⟩) hbc).trans (cellB hK.c rfl)
        have hval := callsIn_wide.1 (values_in Fence.wide 3 trivial rfl (some bm) W3)
        obtain ⟨W4, hW4⟩ : ∃ W, W = W3.alloc (.cells #[.map (some bm)] 71) := ⟨_, rfl⟩
        have hz3 : W3.heap.size = B + 6 := by rw [hW3]; simp; omega
        have hb4 : Below N w W4 := by rw [hW4]; exact hb3.alloc (by omega) _
        have hom4 : W4.ownsMap Yba.prog 3 ptrElem bm 0 Dm := by
          obtain ⟨es, cl, hbk, r⟩ := hK.om
          have := (Array.getElem?_eq_some_iff.1 hbk).1
          exact ⟨es, cl, (hb4.block bm (by omega)).trans hbk, r⟩
        have hm4 : W4.cell? ⟨B + 6, 0, none⟩ = some (.map (some bm)) := by rw [hW4, ← hz3]; exact cellB (heap_alloc_new _ _) rfl
        have hmsl := HH.out.2.2.2.2.2.2
        have hsort := sorted_nil W4 (B + 6) bm 0 Dm (by have := hK.dm; rw [hmsl] at this; exact this) (by rw [hW4]; simp; omega) hm4 hom4
        rw [← hW4] at hval
        rw [hz3] at hval
        have HS : Hid _ := And.intro hval (And.intro hsort (And.intro hW3 hW4))
        have HX : Hid _ := And.intro n1 (And.intro n2 (And.intro n3 (And.intro n4 (And.intro n5 (And.intro n6 (And.intro n7 n8))))))
        have HY : Hid _ := And.intro hbd (And.intro hDR (And.intro hBA (And.intro hbX (And.intro hBd (And.intro hb4 hz3)))))
        have hszc : wc.heap.size ≤ B + 5 := by omega
        clear n1 n2 n3 n4 n5 n6 n7 n8 hbd hDR hBA hbX hBd hb4 hz3 hval hsort hW3 hW4 hK hNw hmsl hom4 hm4 c3d hown hS hrep hb hbA hb3
        go_wp2_with fail
        rw [← HS.out.2.2.1]
        refine HS.out.1.mono ?_
        rintro e W4' ⟨rfl, rfl⟩
        clear hmk c3 c4 c4o c4a
        go_wp2_with fail
        refine HS.out.2.1.mono ?_
        rintro e W5 ⟨rfl, hq4⟩
        have hrpW : W5.heap[N]? = some (.cells rp 55 (0, 0)) ∧ Below N w W5 := by
          obtain ⟨_, _, _, _, _, _, n7, n8⟩ := HX.out
          obtain ⟨hbd, hDR, hBA, hbX, hBd, hb4, hz3⟩ := HY.out
          obtain ⟨_, _, hW3, hW4⟩ := HS.out
          obtain ⟨_, _, hown, hS, hrep, hb⟩ := HC.out
          have hBw := hBA.size
          have hW4s : W4'.heap.size = B + 7 := by rw [hW4]; simp; omega
          refine ⟨?_, hb4.trans (hq4.mono (by omega))⟩
          rw [hq4.block N (by omega), hW4, Below.heap_alloc _ _ _ (by omega), hW3, Below.heap_alloc _ _ _ (by omega), n8.block N (by omega), hBA.block N (by omega)]
          exact hrep
        rw [HRP.out] at hrpW
        have k3 : W5.cell? ⟨bc, 3, none⟩ = some (.slice aE 0 cE) := HC.out.2.1 W5 hrpW.2
        have HF : Hid _ := hrpW
        clear hrpW hq4 HS HX HY HC HRP
        dsimp only
        go_upto_block 2 with fail
        go_cut [] (fun wx => wx = W5)
        case first =>
          go_wp2_with fail
          go_loopw [75] (fun i wx => i = .int .i64 0 ∧ wx = W5) (fun _ _ => 0)
          case atStart => exact ⟨rfl, rfl⟩
          case round =>
            obtain ⟨rfl, rfl⟩ := hrel
            go_wp2_with fail
            go_meet
            exact rfl
        case rest =>
          obtain rfl := hcut
          go_upto_block 8 with fail
          go_wp2_with fail
          go_loopw [220] (fun i wx => i = .int .i64 0 ∧ wx.heap = wc.heap ∧ Below N w wx) (fun _ _ => 0)
          case atStart => exact ⟨rfl, rfl, HF.out.2⟩
          case round =>
            obtain ⟨rfl, hh, hB⟩ := hrel
            have HG : Hid _ := And.intro hh hB
            clear hh hB
            go_wp2_with fail
            go_ret
            have hNw := HN.out
            exact ⟨N, rfl, by rw [HG.out.1]; exact HF.out.1, by omega, by rw [← hNw]; exact HG.out.2⟩
end Go.Proofs.Ybulkbewa
