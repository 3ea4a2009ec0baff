/- zzs2795cadd (function 11) computes addP. -/
import Derived.Test.YbulkbewaBcast
import Derived.Maps.AppendAt
namespace Go.Proofs.Ybulkbewa
open Go.RowKit Go.Maps

def memP (K : KS) (mid : Int) : KS := if mid ∈ K.mem.map (·.id) then K else { K with mem := K.mem ++ [⟨mid, [], -1, []⟩] }
def evnP (K : KS) (eid : Int) : KS := if eid ∈ K.evs.map (·.id) then K else { K with evs := K.evs ++ [⟨eid, false, 0, []⟩] }

def addP (K : KS) (mid eid : Int) (b : Bool) (k e : Nat) : Option KS :=
  let K2 := evnP (memP { K with lines := K.lines + 1 } mid) eid
  match K2.mem[k]?, K2.evs[e]? with
  | some mb, some ev =>
    if mb.id = mid ∧ ev.id = eid ∧ K.lines < big ∧ K.mem.length < big ∧ K.evs.length < big ∧ mb.dv.length < big ∧ mb.since.length < big ∧ ev.dl < big then
      if b then bcastP { K2 with evs := K2.evs.set e { ev with bc := true } } k e
      else some { K2 with evs := K2.evs.set e { ev with dl := ev.dl + 1 }, mem := K2.mem.set k { mb with dv := mb.dv ++ [e], since := mb.since ++ [e] } }
    else none
  | _, _ => none

theorem map_set_id {evs : List EV} {e : Nat} {ev ev' : EV} (he : evs[e]? = some ev) (hid : ev'.id = ev.id) : (evs.set e ev').map (·.id) = evs.map (·.id) := by
  rw [List.map_set, hid]
  have : (evs.map (·.id))[e]? = some ev.id := by simp [he]
  obtain ⟨l1, g1⟩ := List.getElem?_eq_some_iff.1 this
  rw [← g1, List.set_getElem_self]

theorem bcastP_ids {K K' : KS} {k e : Nat} (h : bcastP K k e = some K') : K'.evs.map (·.id) = K.evs.map (·.id) := by
  unfold bcastP at h
  split at h
  · rename_i mb ev h1 h2
    split at h
    · split at h
      · split at h
        · cases h; exact map_set_id h2 rfl
        · cases h; rfl
      · cases h; exact map_set_id h2 rfl
    · cases h
  · cases h

theorem zero78 (w : World) : (zeroValue 78).run Yba.prog w = .ok (.pointer none) w := Yba.zeroValue78 w
theorem zero3 (w : World) : (zeroValue 3).run Yba.prog w = .ok (.int .i64 0) w := Yba.zeroValue3 w
theorem keyOf_int (z : Int) (hz : (Lit.int .i64 z).wf = true) : keyOf Yba.prog 3 (.int .i64 z) = some (.int .i64 z) := keyOf_int_mk Yba.underlying3 hz

theorem info84 : (Yba.prog.info? 84).map (fun i => (i.zero, i.size, i.bytes)) = some (some (.agg #[.int .i64 0, .bool false, .int .i64 0, .slice none 0 0]), 4, 48) := by kernel_rfl
theorem cells_four (w : World) (a b c d : Value) (t : TypeId) : ∀ j u, [a, b, c, d][j]? = some u → (w.alloc (.cells #[a, b, c, d] t)).cell? ((⟨w.heap.size, 0, none⟩ : Addr).add j) = some u := by
  intro j u h
  match j, h with
  | 0, h => cases h; rw [Addr.add_lit]; exact cellB (heap_alloc_new _ _) rfl
  | 1, h => cases h; rw [Addr.add_lit]; exact cellB (heap_alloc_new _ _) rfl
  | 2, h => cases h; rw [Addr.add_lit]; exact cellB (heap_alloc_new _ _) rfl
  | 3, h => cases h; rw [Addr.add_lit]; exact cellB (heap_alloc_new _ _) rfl

set_option maxHeartbeats 3200000 in
set_option maxRecDepth 100000 in
theorem add_any (B : Nat) (w0 w : World) (bc bi bm : Nat) (K K' : KS) (ms : List (Int × Nat)) (V : Nat → Value) (X : Nat → List Nat) (vE vP : Value) (Di Dm : DataW Unit) (mid eid : Int) (b : Bool) (k e : Nat)
    (h : KRep B w0 w bc bi bm K (K.evs.map (·.id)).zipIdx ms V X vE vP Di Dm) (hm : (Lit.int .i64 mid).wf = true) (hev : (Lit.int .i64 eid).wf = true) (hs : addP K mid eid b k e = some K') :
    Calls Yba.prog 11 #[.pointer (some ⟨bc, 0, none⟩), .int .i64 mid, .int .i64 eid, .bool b] w fun e' w' => e' = .returned (.tuple #[]) ∧ ∃ ms' V' X' vE' vP' Di' Dm', KRep B w0 w' bc bi bm K' (K'.evs.map (·.id)).zipIdx ms' V' X' vE' vP' Di' Dm' := by
  obtain ⟨K1, hK1⟩ : ∃ K1, K1 = memP { K with lines := K.lines + 1 } mid := ⟨_, rfl⟩
  obtain ⟨K2, hK2⟩ : ∃ K2, K2 = evnP K1 eid := ⟨_, rfl⟩
  obtain ⟨mb, ev, hmb, he, ⟨rfl, rfl, hg1, hg2, hg3, hg4, hg5, hg6⟩, hres⟩ : ∃ mb ev, K2.mem[k]? = some mb ∧ K2.evs[e]? = some ev ∧ (mb.id = mid ∧ ev.id = eid ∧ K.lines < big ∧ K.mem.length < big ∧ K.evs.length < big ∧ mb.dv.length < big ∧ mb.since.length < big ∧ ev.dl < big) ∧
      (if b then bcastP { K2 with evs := K2.evs.set e { ev with bc := true } } k e
      else some { K2 with evs := K2.evs.set e { ev with dl := ev.dl + 1 }, mem := K2.mem.set k { mb with dv := mb.dv ++ [e], since := mb.since ++ [e] } }) = some K' := by
    unfold addP at hs
    rw [← hK1, ← hK2] at hs
    simp only at hs
    split at hs
    · rename_i mb ev h1 h2
      split at hs
      · rename_i hg
        exact ⟨mb, ev, h1, h2, hg, hs⟩
      · cases hs
    · cases hs
  unfold big at hg1 hg2 hg3 hg4 hg5 hg6
  obtain ⟨i3, h3i, h3z, h3s, h3b⟩ := info_parts info3
  obtain ⟨i8, h8i, h8z, h8s, h8b⟩ := info_parts info84
  have h1 := h.lines (K.lines + 1)
  have c1 : w.cell? ⟨bc, 1, none⟩ = some (.int .i64 (K.lines : Int)) := cellB h.c rfl
  have f1 : w.frozen? ⟨bc, 1, none⟩ = false := freeB h.c
  obtain ⟨W1, hW1⟩ : ∃ W, W = w.setCell ⟨bc, 1, none⟩ (.int .i64 ((K.lines : Int) + 1)) := ⟨_, rfl⟩
  have h1' : KRep B w0 W1 bc bi bm { K with lines := K.lines + 1 } (K.evs.map (·.id)).zipIdx ms V X vE vP Di Dm := by rw [hW1]; exact h1
  have c4 : w.cell? ⟨bc, 4, none⟩ = some (.map (some bm)) := cellB h.c rfl
  have c4' : W1.cell? ⟨bc, 4, none⟩ = some (.map (some bm)) := cellB h1'.c rfl
  have H1 : Hid _ := And.intro h1' (And.intro hmb (And.intro he (And.intro hres (And.intro hK1 hK2))))
  have HW : Hid _ := hW1
  clear h h1 h1' hmb he hres hK1 hK2 hs hW1
  go_enter Yba.func11, Yba.ntmps11
  go_upto_if 29 with (at_lookup; have HWo := HW.out; rw [← HWo]; clear HWo; refine wpList_lookup_own_ok _ rfl _ _ 71 rfl 3 78 (int_keyed Yba.underlying3) Yba.underlying71 ptrElem (zero78 _) (.lit (.int .i64 (-1))) [] rfl bm K.mem.length Dm rfl H1.out.1.om (.int .i64 mb.id) (.int .i64 mb.id) rfl (keyOf_int _ hm) ?_; intro vL psL hvL)
  clear c1 f1 c4 HW
  go_cut [8, 9] (fun v _ wx => ∃ (ms' : List (Int × Nat)) (Dm' : DataW Unit) (p : Int × Nat), v = .pointer (some ⟨p.2, 0, none⟩) ∧ ms'[k]? = some p ∧ KRep B w0 wx bc bi bm K1 (K.evs.map (·.id)).zipIdx ms' V X vE vP Di Dm')
  case first =>
    obtain ⟨h1, hmb, he, hres, hK1, hK2⟩ := H1.out
    have hm2 : K2.mem = K1.mem := by rw [hK2, evnP]; split <;> rfl
    rw [hm2] at hmb
    by_cases hin : mb.id ∈ K.mem.map (·.id)
    · have hK1' : K1 = { K with lines := K.lines + 1 } := by rw [hK1, memP, if_pos hin]
      have hhas : Maps.has Dm (.int .i64 mb.id) = true := (h1.dm.has _).2 (by rw [h1.mi]; exact hin)
      rw [hK1'] at hmb
      have hml : ms.length = K.mem.length := by have := congrArg List.length h1.mi; simpa using this
      have hkl := (List.getElem?_eq_some_iff.1 hmb).1
      obtain ⟨p, hp⟩ : ∃ p, ms[k]? = some p := ⟨_, List.getElem?_eq_getElem (by show k < ms.length; rw [hml]; exact hkl)⟩
      have hpid : p.1 = mb.id := by
        have e1 : (ms.map (·.1))[k]? = some p.1 := by simp [hp]
        rw [h1.mi] at e1
        have e2 : (K.mem.map (·.id))[k]? = some mb.id := by simp [show K.mem[k]? = some mb from hmb]
        exact Option.some.inj (e1.symm.trans e2)
      have hvp : vL = .pointer (some ⟨p.2, 0, none⟩) := by
        rw [← hpid, h1.dm.val p (List.mem_of_getElem? hp)] at hvL
        exact ptrElem_inv hvL
      rw [hhas]
      have HF : Hid _ := And.intro hvp (And.intro hp (And.intro h1 hK1'))
      clear h1 hmb he hres hK1 hK2 hm2 hhas hvL hvp hp hpid hin hK1' hkl c4'
      go_wp2
      go_meet
      exact ⟨ms, Dm, p, HF.out.1, HF.out.2.1, by rw [HF.out.2.2.2]; exact HF.out.2.2.1⟩
    · have hK1' : K1 = { K with lines := K.lines + 1, mem := K.mem ++ [⟨mb.id, [], -1, []⟩] } := by rw [hK1, memP, if_neg hin]
      have hnot : mb.id ∉ ms.map (·.1) := by rw [h1.mi]; exact hin
      have hhas : Maps.has Dm (.int .i64 mb.id) = false := by
        cases hx : Maps.has Dm (.int .i64 mb.id) with
        | false => rfl
        | true => exact absurd ((h1.dm.has _).1 hx) hnot
      have hml : ms.length = K.mem.length := by have := congrArg List.length h1.mi; simpa using this
      have hkl : k = K.mem.length := by
        rw [hK1'] at hmb
        have h3 : (K.mem ++ [⟨mb.id, [], -1, []⟩])[k]? = some mb := hmb
        rw [List.getElem?_append] at h3
        split at h3
        · exact absurd (List.mem_map_of_mem (f := (·.id)) (List.mem_of_getElem? h3)) hin
        · have := (List.getElem?_eq_some_iff.1 h3).1
          simp at this
          omega
      rw [hhas]
      have c4a : ∀ o, (W1.alloc o).cell? ⟨bc, 4, none⟩ = some (.map (some bm)) := fun o => cellB (h1.alloc o).c rfl
      have HF : Hid _ := And.intro h1 (And.intro hK1' hnot)
      have hgeB := h1.ge.1
      have hzz := lt_of_block h1.c
      clear h1 hmb he hres hK1 hK2 hm2 hhas hvL hin hK1' hnot
      go_wp2_with (at_mapUpdate; refine wpList_mapUpdate_own _ rfl _ _ _ 71 rfl 3 78 (int_keyed Yba.underlying3) Yba.underlying71 ptrElem bm K.mem.length Dm rfl (by exact (HF.out.1.alloc _).om) (by unfold maxLen; omega) (.int .i64 mb.id) (.pointer (some ⟨W1.heap.size, 0, none⟩)) (.int .i64 mb.id) rfl rfl (keyOf_int _ hm) (.lit (.int .i64 (W1.heap.size : Int))) [] rfl ?_; intro W2 hown2 hg2)
      have hF := (HF.out.1.alloc _).putM HF.out.2.2 hown2 hg2 (heap_alloc_new _ _) (by omega) (fun hmem => by
        obtain ⟨q, hq, e2⟩ := List.mem_map.1 hmem
        obtain ⟨cur, hc⟩ := HF.out.1.mem_lt hq
        have := (Array.getElem?_eq_some_iff.1 hc).1
        omega)
      have HG : Hid _ := hF
      clear hF hown2 hg2 c4a
      go_wp2
      go_meet
      refine ⟨_, _, (mb.id, W1.heap.size), rfl, ?_, by rw [HF.out.2.1]; exact HG.out⟩
      rw [hkl, ← hml, List.getElem?_append_right (Nat.le_refl _), Nat.sub_self]
      rfl
  case rest =>
    clear c4'
    obtain ⟨ms2, Dm2, p, rfl, hp, h2⟩ := hcut
    have hev1 : K1.evs = K.evs := by rw [H1.out.2.2.2.2.1, memP]; split <;> rfl
    have hil : (K.evs.map (·.id)).zipIdx.length = K.evs.length := by simp
    have c2 : wc.cell? ⟨bc, 2, none⟩ = some (.map (some bi)) := cellB h2.c rfl
    have H2 : Hid _ := And.intro h2 (And.intro hp hev1)
    clear h2 hp hev1
    go_upto_if 49 with (at_lookup; refine wpList_lookup_own_ok_int _ rfl _ _ 70 rfl 3 3 .i64 (int_keyed Yba.underlying3) Yba.underlying70 Yba.underlying3 (zero3 _) bi _ Di rfl H2.out.1.oi (.int .i64 ev.id) (.int .i64 ev.id) rfl (keyOf_int _ hev) ?_; intro cL hat hwc)
    go_cut [10, 9] (fun v _ wx => v = .int .i64 (e : Int) ∧ ∃ (Di' : DataW Unit) (vE' : Value), KRep B w0 wx bc bi bm K2 (K2.evs.map (·.id)).zipIdx ms2 V X vE' vP Di' Dm2)
    case first =>
      obtain ⟨h2, hp, hev1⟩ := H2.out
      obtain ⟨_, hmb, he, hres, hK1, hK2⟩ := H1.out
      have hidx : ∀ (l : List Int) (i : Nat) (z : Int), l[i]? = some z → (z, i) ∈ l.zipIdx := fun l i z hz => by
        rw [List.mem_zipIdx_iff_getElem?]; exact hz
      by_cases hin : ev.id ∈ K1.evs.map (·.id)
      · have hK2' : K2 = K1 := by rw [hK2, evnP, if_pos hin]
        have hz : (K.evs.map (·.id))[e]? = some ev.id := by rw [hK2', hev1] at he; simp [he]
        have hmem := hidx _ _ _ hz
        have hhas : Maps.has Di (.int .i64 ev.id) = true := (h2.di.has _).2 (List.mem_map_of_mem (f := (·.1)) hmem)
        have hcl : cL = (e : Int) := by
          rw [h2.di.val _ hmem] at hat
          injection hat with hat
          injection hat with _ hat
          exact hat.symm
        rw [hhas, hcl]
        have HF : Hid _ := And.intro h2 (And.intro hK2' hev1)
        clear h2 hp hmb he hres hK1 hK2 hin hz hmem hhas hat hK2' hev1 hcl c2 H2
        go_wp2
        go_meet
        exact ⟨rfl, Di, vE, by rw [HF.out.2.1, HF.out.2.2]; exact HF.out.1⟩
      · have hK2' : K2 = { K1 with evs := K1.evs ++ [⟨ev.id, false, 0, []⟩] } := by rw [hK2, evnP, if_neg hin]
        have hnot : ev.id ∉ (K.evs.map (·.id)).zipIdx.map (·.1) := by
          rw [List.zipIdx_map_fst]; rw [hev1] at hin; exact hin
        have hhas : Maps.has Di (.int .i64 ev.id) = false := by
          cases hx : Maps.has Di (.int .i64 ev.id) with
          | false => rfl
          | true => exact absurd ((h2.di.has _).1 hx) hnot
        have hel : e = K.evs.length := by
          rw [hK2'] at he
          have h3 : (K1.evs ++ [⟨ev.id, false, 0, []⟩])[e]? = some ev := he
          rw [List.getElem?_append] at h3
          split at h3
          · exact absurd (List.mem_map_of_mem (f := (·.id)) (List.mem_of_getElem? h3)) hin
          · have := (List.getElem?_eq_some_iff.1 h3).1
            rw [← hev1]
            simp at this
            omega
        obtain ⟨aE, cE, hvE⟩ : ∃ a c, vE = .slice a K.evs.length c := by
          rw [← hev1]
          rcases h2.oE.2 with ⟨hv, h0⟩ | ⟨g, c, cur, hv, _⟩
          · exact ⟨none, 0, by rw [hv, h0]⟩
          · exact ⟨some ⟨g, 0, none⟩, c, hv⟩
        rw [hhas]
        have c3 : wc.cell? ⟨bc, 3, none⟩ = some (.slice aE K.evs.length cE) := by rw [← hvE]; exact cellB h2.c rfl
        have HF : Hid _ := And.intro h2 (And.intro hK2' (And.intro hnot hev1))
        have hwf : (Lit.int .i64 (K.evs.length : Int)).wf = true := Go.WalkArith.wf_i64 (by omega)
        clear h2 hp hmb he hres hK1 hK2 hin hhas hat hK2' hev1 hnot
        have hgeB := HF.out.1.ge.1
        go_wp2_with (first
          | (at_mapUpdate; refine wpList_mapUpdate_own _ rfl _ _ _ 70 rfl 3 3 (int_keyed Yba.underlying3) Yba.underlying70 (plainElem Yba.prog 3) bi (K.evs.map (·.id)).zipIdx.length Di rfl (by exact HF.out.1.oi) (by rw [hil]; unfold maxLen; omega) (.int .i64 ev.id) (.int .i64 (K.evs.length : Int)) (.int .i64 ev.id) rfl rfl (keyOf_int _ hev) (.lit (.int .i64 (K.evs.length : Int))) [] (plainElem_int Yba.underlying3 hwf) ?_; intro W2 hown2 hg2; have H3 := HF.out.1.putI HF.out.2.2.1 hown2 hg2; have c3' : W2.cell? ⟨bc, 3, none⟩ = some (.slice aE K.evs.length cE) := (by rw [← hvE]; exact cellB H3.c rfl); have hz2 := lt_of_block H3.c; replace H3 : Hid _ := H3; clear hown2 hg2)
          | (at_builtin; refine wpList_append_own_at _ rfl (.tmp 65) (.tmp 68) 72 rfl B 84 i8 _ 4 48 Yba.underlying72 h8i h8z h8s h8b rfl (by decide) (.slice aE K.evs.length cE) K.evs.length (evCells V 0 K.evs) rfl ?c0 ⟨_, 0, none⟩ 1 1 [.int .i64 ev.id, .bool false, .int .i64 0, .slice none 0 0] rfl rfl (cells_four _ _ _ _ _ _) (by simp [Value.oneCell']) ?c2 ?c3 ?c4 ?_))
        clear c3 c2
        case c0 =>
          have hh := (H3.out.alloc (.cells #[.int .i64 ev.id, .bool false, .int .i64 0, .slice none 0 0] 84)).oE
          rw [hvE, HF.out.2.2.2] at hh
          exact hh
        case c2 => unfold maxLen; omega
        case c3 => omega
        case c4 => first | omega | (simp only [World.size_alloc]; omega)
        intro v3 W3 O3 G3 hne A3
        obtain ⟨g3, cap3, rfl⟩ := Joins.ownsRow_form O3 (by omega)
        have t3 := (H3.out.alloc (.cells #[.int .i64 ev.id, .bool false, .int .i64 0, .slice none 0 0] 84)).touch (t := 84) (row := vE.ownBlock) (by rw [hvE]; exact G3) (row_block (H3.out.alloc _).oE)
        have x3 : W3.cell? ⟨bc, 3, none⟩ = some vE := cellB ((t3.c7 (by decide)).trans (H3.out.alloc _).c) rfl
        have n3 : W3.frozen? ⟨bc, 3, none⟩ = false := freeB ((t3.c7 (by decide)).trans (H3.out.alloc _).c)
        have h4 := (H3.out.alloc (.cells #[.int .i64 ev.id, .bool false, .int .i64 0, .slice none 0 0] 84)).pushE (z := ev.id) (by rw [HF.out.2.2.2]; exact O3) (by rw [hvE]; exact G3)
        have H4 : Hid _ := h4
        clear h4 t3 O3 G3 A3 hne
        go_wp2
        go_meet
        have hh := H4.out
        have hzi : (K.evs.map (·.id)).zipIdx ++ [(ev.id, K.evs.length)] = ((K1.evs ++ [(⟨ev.id, false, 0, []⟩ : EV)]).map (·.id)).zipIdx := by
          rw [HF.out.2.2.2, List.map_append, List.zipIdx_append]; simp
        rw [hzi] at hh
        exact ⟨by rw [hel], _, _, by rw [HF.out.2.1]; exact hh⟩
    case rest =>
      have hp2 := H2.out.2.1
      clear c2 H2
      obtain ⟨rfl, Di2, vE2, h3⟩ := hcut
      obtain ⟨_, hmb, he, hres, hKa, hKb⟩ := H1.out
      clear hKa hKb
      obtain ⟨gE, cap, hvE, hgE, hc1, hc2, _⟩ := h3.forE he
      have hel := (List.getElem?_eq_some_iff.1 he).1
      have c3 : wc.cell? ⟨bc, 3, none⟩ = some (.slice (some ⟨gE, 0, none⟩) K2.evs.length cap) := by rw [← hvE]; exact cellB h3.c rfl
      cases b with
      | true =>
        have hO := h3.oE
        rw [hvE] at hO
        have d1 : wc.cell? ⟨gE, e * 4 + 1, none⟩ = some (.bool ev.bc) := by rw [hO.cellAt _ (by omega)]; exact (evCells_get V 0 K2.evs e ev he).2.1
        have d2 : wc.frozen? ⟨gE, e * 4 + 1, none⟩ = false := hO.frozenAt _
        have h4 := h3.storeE hvE (j := e * 4 + 1) (u := .bool true) (evs' := K2.evs.set e { ev with bc := true }) (by simp) (evCells_setBc V true 0 K2.evs e ev he) (fun e2 ev2 he2 => by
          by_cases hee : e2 = e
          · subst hee
            rw [List.getElem?_set_self hel] at he2
            cases he2
            exact h3.x1 e2 ev he
          · rw [List.getElem?_set_ne (Ne.symm hee)] at he2
            exact h3.x1 e2 ev2 he2)
        have hres' : bcastP { K2 with evs := K2.evs.set e { ev with bc := true } } k e = some K' := by simpa using hres
        have hids : K'.evs.map (·.id) = K2.evs.map (·.id) := (bcastP_ids hres').trans (map_set_id he rfl)
        have HB := bcast_any B w0 _ bc bi bm _ K' _ ms2 V X vE2 vP Di2 Dm2 k e p h4 hp2 gE cap (by rw [hvE]; simp) hres'
        have H4 : Hid _ := And.intro HB hids
        clear h3 hp2 hmb he hres hvE hO h4 hres' hids HB H1
        go_wp2_with fail
        refine H4.out.1.mono ?_
        rintro e' wv ⟨rfl, V', X', vP', hR⟩
        have HR : Hid _ := hR
        clear hR
        go_wp2
        refine bodyPost_ret (results_none rfl _ _ _) rfl ?_
        exact ⟨rfl, ms2, V', X', _, _, _, _, by rw [H4.out.2]; exact HR.out⟩
      | false =>
        have hres' := Option.some.inj hres
        have hO := h3.oE
        rw [hvE] at hO
        have d1 : wc.cell? ⟨gE, e * 4 + 2, none⟩ = some (.int .i64 (ev.dl : Int)) := by rw [hO.cellAt _ (by omega)]; exact (evCells_get V 0 K2.evs e ev he).2.2.1
        have d2 : wc.frozen? ⟨gE, e * 4 + 2, none⟩ = false := hO.frozenAt _
        have h4 := h3.storeE hvE (j := e * 4 + 2) (u := .int .i64 ((ev.dl : Int) + 1)) (evs' := K2.evs.set e { ev with dl := ev.dl + 1 }) (by simp) (by rw [evCells_setDl V (ev.dl + 1) 0 K2.evs e ev he]; simp) (fun e2 ev2 he2 => by
          by_cases hee : e2 = e
          · subst hee
            rw [List.getElem?_set_self hel] at he2
            cases he2
            exact h3.x1 e2 ev he
          · rw [List.getElem?_set_ne (Ne.symm hee)] at he2
            exact h3.x1 e2 ev2 he2)
        obtain ⟨W4, hW4⟩ : ∃ W, W = wc.setCell ⟨gE, e * 4 + 2, none⟩ (.int .i64 ((ev.dl : Int) + 1)) := ⟨_, rfl⟩
        rw [← hW4] at h4
        obtain ⟨a2, k2c, hV2, _, _⟩ := h4.r.any (3 * k + 2)
        rw [(h4.x2 k mb hmb).1] at hV2
        have y1 : W4.cell? ⟨p.2, 1, none⟩ = some (.slice a2 mb.dv.length k2c) := by rw [← hV2]; exact cellB (h4.m k p mb hp2 hmb) rfl
        have y0 : wc.cell? ⟨p.2, 1, none⟩ = some (.slice a2 mb.dv.length k2c) := by rw [← hV2]; exact cellB (h3.m k p mb hp2 hmb) rfl
        have ne1 : ¬ gE = p.2 := fun e' => row_far h3.oE (h3.m k p mb hp2 hmb) (by decide) (by rw [hvE, e']; rfl)
        have ne2 : ¬ p.2 = gE := fun e' => ne1 e'.symm
        have hz4 := lt_of_block h4.c
        have hgeB := h4.ge.1
        have H4 : Hid _ := And.intro h4 (And.intro hp2 (And.intro hmb (And.intro he hres')))
        have HW4 : Hid _ := hW4
        have HSZ : Hid (W4.heap.size = wc.heap.size) := by show W4.heap.size = wc.heap.size; rw [hW4]; simp [World.setCell]
        clear h3 hp2 hmb he hres hres' hO h4 hW4
        go_wp2_with (at_builtin; have HWo := HW4.out; rw [← HWo]; clear HWo; refine wpList_append_own_at _ rfl (.tmp 99) (.tmp 101) 39 rfl B 3 i3 (.int .i64 0) 1 8 Yba.underlying39 h3i h3z h3s h3b rfl (by decide) (.slice a2 mb.dv.length k2c) mb.dv.length (natCells mb.dv) rfl ?q0 ⟨_, 0, none⟩ 1 1 [.int .i64 (e : Int)] rfl rfl ?q1 (by simp [Value.oneCell']) ?q2 ?q3 ?q4 ?_)
        case q0 =>
          have hh := (H4.out.1.alloc (.cells #[.int .i64 (e : Int)] 3)).r.own (3 * k + 2)
          rw [(H4.out.1.x2 k mb H4.out.2.2.1).1, hV2] at hh
          exact hh
        case q1 => rw [← HSZ.out]; exact cells_one _ _ _
        case q2 => unfold maxLen; omega
        case q3 => omega
        case q4 => first | omega | (simp only [World.size_alloc]; omega)
        intro v5 W5 O5 G5 hne A5
        obtain ⟨g5, cap5, rfl⟩ := Joins.ownsRow_form O5 (by omega)
        obtain ⟨h4, hp2, hmb, he, hres'⟩ := H4.out
        have t5 := (h4.alloc (.cells #[.int .i64 (e : Int)] 3)).touch (t := 3) (row := (V (3 * k + 2)).ownBlock) (by rw [hV2]; exact G5) (row_block ((h4.alloc _).r.own (3 * k + 2)))
        have r5 := (h4.alloc (.cells #[.int .i64 (e : Int)] 3)).r.grow (3 * k + 2) (l := mb.dv ++ [e]) (by rw [natCells_append, List.length_append]; exact O5) (by rw [hV2]; exact G5) (by rw [hV2]; simpa using A5)
        have h5 := (h4.alloc (.cells #[.int .i64 (e : Int)] 3)).setM (mb' := { mb with dv := mb.dv ++ [e] }) hp2 hmb t5 r5 (fun c hc _ => ⟨upd_other _ _ hc, upd_other _ _ hc⟩) ⟨upd_same _ _ _, by rw [upd_other _ _ (by omega)]; exact (h4.x2 k mb hmb).2⟩ rfl (off := 1) (u := .slice (some ⟨g5, 0, none⟩) (mb.dv.length + 1) cap5) (by rw [upd_other _ _ (show 3 * k + 3 ≠ 3 * k + 2 by omega), upd_same]; rfl)
        have hp5 := (t5.m8 (by decide) p (List.mem_of_getElem? hp2)).trans ((h4.alloc _).m k p mb hp2 hmb)
        have x5 : W5.cell? ⟨p.2, 1, none⟩ = some (V (3 * k + 2)) := cellB hp5 rfl
        have n5 : W5.frozen? ⟨p.2, 1, none⟩ = false := freeB hp5
        obtain ⟨W6, hW6⟩ : ∃ W, W = W5.setCell ⟨p.2, 1, none⟩ (.slice (some ⟨g5, 0, none⟩) (mb.dv.length + 1) cap5) := ⟨_, rfl⟩
        rw [← hW6] at h5
        have hkl := (List.getElem?_eq_some_iff.1 hmb).1
        have hmb5 : (K2.mem.set k { mb with dv := mb.dv ++ [e] })[k]? = some { mb with dv := mb.dv ++ [e] } := List.getElem?_set_self hkl
        obtain ⟨V5, hV5⟩ : ∃ V5, V5 = upd V (3 * k + 2) (.slice (some ⟨g5, 0, none⟩) (mb.dv.length + 1) cap5) := ⟨_, rfl⟩
        obtain ⟨X5, hX5⟩ : ∃ X5, X5 = upd X (3 * k + 2) (mb.dv ++ [e]) := ⟨_, rfl⟩
        rw [← hV5, ← hX5] at h5
        obtain ⟨a3, k3c, hV3, _, _⟩ := h5.r.any (3 * k + 3)
        rw [(h5.x2 k _ hmb5).2] at hV3
        have hV3o : V (3 * k + 3) = .slice a3 mb.since.length k3c := by rw [← hV3, hV5, upd_other _ _ (by omega)]
        have y3 : W5.cell? ⟨p.2, 3, none⟩ = some (.slice a3 mb.since.length k3c) := by rw [← hV3o]; exact cellB hp5 rfl
        have y6 : W6.cell? ⟨p.2, 3, none⟩ = some (.slice a3 mb.since.length k3c) := by rw [← hV3]; exact cellB (h5.m k p _ hp2 hmb5) rfl
        have hz6 := lt_of_block h5.c
        have H5 : Hid _ := And.intro h5 (And.intro hp2 (And.intro hmb5 (And.intro he hres')))
        have HW6 : Hid _ := hW6
        have HSZ6 : Hid (W6.heap.size = W5.heap.size) := by show W6.heap.size = W5.heap.size; rw [hW6]; simp [World.setCell]
        clear h4 hp2 hmb he hres' t5 r5 h5 hp5 O5 G5 A5 hne H4 HW4 hW6 hV5 hX5 hV2 y1 y0 hmb5 hV3o
        go_wp2_with (at_builtin; have HWo := HW6.out; rw [← HWo]; clear HWo; refine wpList_append_own_at _ rfl (.tmp 109) (.tmp 111) 39 rfl B 3 i3 (.int .i64 0) 1 8 Yba.underlying39 h3i h3z h3s h3b rfl (by decide) (.slice a3 mb.since.length k3c) mb.since.length (natCells mb.since) rfl ?r0 ⟨_, 0, none⟩ 1 1 [.int .i64 (e : Int)] rfl rfl ?r1 (by simp [Value.oneCell']) ?r2 ?r3 ?r4 ?_)
        case r0 =>
          have hh := (H5.out.1.alloc (.cells #[.int .i64 (e : Int)] 3)).r.own (3 * k + 3)
          rw [(H5.out.1.x2 k _ H5.out.2.2.1).2, hV3] at hh
          exact hh
        case r1 => rw [← HSZ6.out]; first | exact cells_one _ _ _ | (intro j u hj; have h1 := cells_one W6 (.int .i64 (e : Int)) 3 j u hj; rw [Addr.add_lit, Nat.zero_add] at h1; exact h1)
        case r2 => unfold maxLen; omega
        case r3 => omega
        case r4 => first | omega | (simp only [World.size_alloc]; omega)
        intro v7 W7 O7 G7 hne A7
        obtain ⟨g7, cap7, rfl⟩ := Joins.ownsRow_form O7 (by omega)
        obtain ⟨h5, hp2, hmb5, he, hres'⟩ := H5.out
        have t7 := (h5.alloc (.cells #[.int .i64 (e : Int)] 3)).touch (t := 3) (row := (V5 (3 * k + 3)).ownBlock) (by rw [hV3]; exact G7) (row_block ((h5.alloc _).r.own (3 * k + 3)))
        have r7 := (h5.alloc (.cells #[.int .i64 (e : Int)] 3)).r.grow (3 * k + 3) (l := mb.since ++ [e]) (by rw [natCells_append, List.length_append]; exact O7) (by rw [hV3]; exact G7) (by rw [hV3]; simpa using A7)
        have h7 := (h5.alloc (.cells #[.int .i64 (e : Int)] 3)).setM (mb' := { mb with dv := mb.dv ++ [e], since := mb.since ++ [e] }) hp2 hmb5 t7 r7 (fun c _ hc => ⟨upd_other _ _ hc, upd_other _ _ hc⟩) ⟨by rw [upd_other _ _ (by omega)]; exact (h5.x2 k _ hmb5).1, upd_same _ _ _⟩ rfl (off := 3) (u := .slice (some ⟨g7, 0, none⟩) (mb.since.length + 1) cap7) (by rw [upd_other _ _ (show 3 * k + 2 ≠ 3 * k + 3 by omega), upd_same]; rfl)
        have hp7 := (t7.m8 (by decide) p (List.mem_of_getElem? hp2)).trans ((h5.alloc _).m k p _ hp2 hmb5)
        have x7 : W7.cell? ⟨p.2, 3, none⟩ = some (V5 (3 * k + 3)) := cellB hp7 rfl
        have n7 : W7.frozen? ⟨p.2, 3, none⟩ = false := freeB hp7
        simp only [List.set_set] at h7
        have H7 : Hid _ := And.intro h7 (And.intro hres' he)
        clear h5 hp2 hmb5 he hres' t7 r7 h7 hp7 O7 G7 A7 hne H5 HW6 y3 y6 hV3
        go_wp2
        go_end0
        obtain ⟨h7, hres', he⟩ := H7.out
        subst hres'
        have e1 : (K2.evs.set e { ev with dl := ev.dl + 1 }).map (·.id) = K2.evs.map (·.id) := map_set_id he rfl
        rw [← e1] at h7
        exact ⟨rfl, ms2, _, _, _, _, _, _, h7⟩
end Go.Proofs.Ybulkbewa
