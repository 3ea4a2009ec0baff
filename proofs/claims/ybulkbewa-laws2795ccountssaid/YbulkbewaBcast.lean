/- broadcast (function 17) computes bcastP. -/
import Derived.Test.YbulkbewaKrep
import Derived.Deep.QuietTactic
import Derived.BigQuiet
import Derived.Deep.CutBlock
import Derived.Deep.DeepCutAuto
namespace Go.Proofs.Ybulkbewa
open Go.RowKit Go.Maps

def bcastP (K : KS) (k e : Nat) : Option KS :=
  match K.mem[k]?, K.evs[e]? with
  | some mb, some ev =>
    if K.inp.length + mb.since.length < big ∧ K.pasts.length < big ∧ ev.pasts.length < big ∧ mb.past < 1000000000 then
      if mb.since = [] then
        if 0 ≤ mb.past then some { K with evs := K.evs.set e { ev with pasts := ev.pasts ++ [mb.past.toNat] } } else some K
      else
        some { K with inp := K.inp ++ mb.since, pasts := K.pasts ++ [⟨mb.past, K.inp.length, K.inp.length + mb.since.length⟩], mem := K.mem.set k { mb with past := (K.pasts.length : Int), since := [] }, evs := K.evs.set e { ev with pasts := ev.pasts ++ [K.pasts.length] } }
    else none
  | _, _ => none

theorem info110 : (Yba.prog.info? 110).map (fun i => (i.zero, i.size, i.bytes)) = some (some (.agg #[.int .i64 0, .int .i64 0, .int .i64 0]), 3, 24) := by kernel_rfl
theorem cells_three (w : World) (a b c : Value) (t : TypeId) : ∀ j u, [a, b, c][j]? = some u → (w.alloc (.cells #[a, b, c] t)).cell? ((⟨w.heap.size, 0, none⟩ : Addr).add j) = some u := by
  intro j u h
  match j, h with
  | 0, h => cases h; rw [Addr.add_lit]; exact cellB (heap_alloc_new _ _) rfl
  | 1, h => cases h; rw [Addr.add_lit]; exact cellB (heap_alloc_new _ _) rfl
  | 2, h => cases h; rw [Addr.add_lit]; exact cellB (heap_alloc_new _ _) rfl

set_option maxHeartbeats 3200000 in
set_option maxRecDepth 100000 in
/-- the last statement: the past appended onto the event's -/
theorem bcast_tail (B : Nat) (w0 w : World) (bc bi bm : Nat) (K : KS) (il ms : List (Int × Nat)) (V : Nat → Value) (X : Nat → List Nat) (vE vP : Value) (Di Dm : DataW Unit) (k e : Nat) (p : Int × Nat) (mb : MB) (ev : EV)
    (h : KRep B w0 w bc bi bm K il ms V X vE vP Di Dm) (hk : ms[k]? = some p) (hmb : K.mem[k]? = some mb) (he : K.evs[e]? = some ev) (gE cap : Nat) (hvE : vE = .slice (some ⟨gE, 0, none⟩) K.evs.length cap) (hg : ev.pasts.length < 1000000000) (hp0 : mb.since = []) (hp1 : mb.past < 1000000000) (hp2 : 0 ≤ mb.past) :
    Calls Yba.prog 17 #[.pointer (some ⟨bc, 5, none⟩), .pointer (some ⟨p.2, 0, none⟩), .pointer (some ⟨gE, e * 4, none⟩)] w fun e' w' => e' = .returned (.tuple #[]) ∧ ∃ V' X', KRep B w0 w' bc bi bm { K with evs := K.evs.set e { ev with pasts := ev.pasts ++ [mb.past.toNat] } } il ms V' X' vE vP Di Dm := by
  obtain ⟨i3, h3i, h3z, h3s, h3b⟩ := info_parts info3
  obtain ⟨pn, hpn⟩ : ∃ pn : Nat, mb.past = (pn : Int) := ⟨mb.past.toNat, by omega⟩
  have hpt : mb.past.toNat = pn := by omega
  rw [hpt]
  obtain ⟨id, dv, past, since⟩ := mb
  simp only at hp0 hpn hp1 hp2
  subst hp0 hpn
  have hm := h.m k p _ hk hmb
  obtain ⟨aS, cS, hVS, _, _⟩ := h.r.any (3 * k + 3)
  have hX3 : X (3 * k + 3) = [] := (h.x2 k _ hmb).2
  rw [hX3] at hVS
  obtain ⟨aT, cT, hVT, _, _⟩ := h.r.any (3 * e + 1)
  rw [h.x1 e ev he] at hVT
  have c2 : w.cell? ⟨p.2, 2, none⟩ = some (.int .i64 (pn : Int)) := cellB hm rfl
  have c3 : w.cell? ⟨p.2, 3, none⟩ = some (.slice aS 0 cS) := by rw [← show V (3 * k + 3) = .slice aS 0 cS from hVS]; exact cellB hm rfl
  have hO := h.oE
  rw [hvE] at hO
  have hel := (List.getElem?_eq_some_iff.1 he).1
  have c4 : w.cell? ⟨gE, e * 4 + 3, none⟩ = some (.slice aT ev.pasts.length cT) := by
    rw [hO.cellAt _ (by omega), (evCells_get V 0 K.evs e ev he).2.2.2, Nat.zero_add, hVT]
  have c2a : ∀ o, (w.alloc o).cell? ⟨p.2, 2, none⟩ = some (.int .i64 (pn : Int)) := fun o => cellB ((h.alloc o).m k p _ hk hmb) rfl
  have c4a : ∀ o, (w.alloc o).cell? ⟨gE, e * 4 + 3, none⟩ = some (.slice aT ev.pasts.length cT) := fun o => by
    have hO2 := (h.alloc o).oE
    rw [hvE] at hO2
    rw [hO2.cellAt _ (by omega), (evCells_get V 0 K.evs e ev he).2.2.2, Nat.zero_add, hVT]
  have hz := lt_of_block h.c
  have hBz := h.ge.1
  have HH : Hid _ := And.intro h (And.intro hk (And.intro hmb he))
  clear h hk hmb he hm hX3 hO hVS
  go_enter Yba.func17, Yba.ntmps17
  go_wp2
  go_region_law
    (refine step_append_lies _ (by rfl) _ _ _ (by rfl) B 3 i3 _ 1 8 Yba.underlying39 h3i h3z h3s h3b rfl (by omega) (.slice aT ev.pasts.length cT) ev.pasts.length (natCells ev.pasts) (by rfl) (by have hh := (HH.out.1.alloc (.cells #[.int .i64 (pn : Int)] 3)).drew.r.own (3 * e + 1); rw [HH.out.1.x1 e ev HH.out.2.2.2, hVT] at hh; exact hh) ⟨w.heap.size, 0, none⟩ 1 1 [.int .i64 (pn : Int)] (by rfl) (by rfl) (by exact cells_one _ _ _) (by intro u hu; simp at hu; subst hu; rfl) (by omega) (by unfold maxLen; omega) (by omega) (by simp; omega) (w.heap.size + 1) (by simp) ?_; intro gz cz wz hownz hgrowz hatz hltz; have tz := (HH.out.1.alloc _).drew.touch hgrowz (t := 3) (by have := row_block ((HH.out.1.alloc (.cells #[.int .i64 (pn : Int)] 3)).drew.r.own (3 * e + 1)); rw [hVT] at this; exact this); have x7 : wz.cell? ⟨gE, e * 4 + 3, none⟩ = some (.slice aT ev.pasts.length cT) := (by have hO2 := tz.oE (by decide); rw [hvE] at hO2; rw [hO2.cellAt _ (by omega), (evCells_get V 0 K.evs e ev HH.out.2.2.2).2.2.2, Nat.zero_add, hVT]); have n7 : wz.frozen? ⟨gE, e * 4 + 3, none⟩ = false := (by have hO2 := tz.oE (by decide); rw [hvE] at hO2; exact hO2.frozenAt _); clear tz)
  all_goals
    have hr := (HH.out.1.alloc (.cells #[.int .i64 (pn : Int)] 3)).drew.r.grow (3 * e + 1) (l := ev.pasts ++ [pn]) (by rw [natCells_append, List.length_append]; exact hownz) (by rw [hVT]; exact hgrowz) (by rw [hVT]; rcases hatz with h | h; exact .inl h.symm; exact .inr (by rw [h]; simp [Value.ownBlock]))
    have hF := (HH.out.1.alloc _).drew.setEP HH.out.2.2.2 hvE ((HH.out.1.alloc _).drew.touch hgrowz (t := 3) (by have := row_block ((HH.out.1.alloc (.cells #[.int .i64 (pn : Int)] 3)).drew.r.own (3 * e + 1)); rw [hVT] at this; exact this)) hr
    have HF : Hid _ := hF
    clear hownz hgrowz hatz hr hF c2 c3 c4 c2a c4a
    go_wp2
    go_end0
    exact ⟨rfl, _, _, HF.out⟩

set_option maxHeartbeats 3200000 in
set_option maxRecDepth 100000 in
theorem bcast_any (B : Nat) (w0 w : World) (bc bi bm : Nat) (K K' : KS) (il ms : List (Int × Nat)) (V : Nat → Value) (X : Nat → List Nat) (vE vP : Value) (Di Dm : DataW Unit) (k e : Nat) (p : Int × Nat)
    (h : KRep B w0 w bc bi bm K il ms V X vE vP Di Dm) (hk : ms[k]? = some p) (gE cap : Nat) (hvE : vE = .slice (some ⟨gE, 0, none⟩) K.evs.length cap) (hs : bcastP K k e = some K') :
    Calls Yba.prog 17 #[.pointer (some ⟨bc, 5, none⟩), .pointer (some ⟨p.2, 0, none⟩), .pointer (some ⟨gE, e * 4, none⟩)] w fun e' w' => e' = .returned (.tuple #[]) ∧ ∃ V' X' vP', KRep B w0 w' bc bi bm K' il ms V' X' vE vP' Di Dm := by
  obtain ⟨mb, ev, hmb, he, ⟨hg1, hg2, hg3, hg4⟩, hcase⟩ : ∃ mb ev, K.mem[k]? = some mb ∧ K.evs[e]? = some ev ∧ (K.inp.length + mb.since.length < big ∧ K.pasts.length < big ∧ ev.pasts.length < big ∧ mb.past < 1000000000) ∧
      ((mb.since = [] ∧ 0 ≤ mb.past ∧ K' = { K with evs := K.evs.set e { ev with pasts := ev.pasts ++ [mb.past.toNat] } }) ∨ (mb.since = [] ∧ ¬ 0 ≤ mb.past ∧ K' = K) ∨
       (mb.since ≠ [] ∧ K' = { K with inp := K.inp ++ mb.since, pasts := K.pasts ++ [⟨mb.past, K.inp.length, K.inp.length + mb.since.length⟩], mem := K.mem.set k { mb with past := (K.pasts.length : Int), since := [] }, evs := K.evs.set e { ev with pasts := ev.pasts ++ [K.pasts.length] } })) := by
    unfold bcastP at hs
    split at hs
    · rename_i mb ev h1 h2
      split at hs
      · rename_i hg
        refine ⟨mb, ev, h1, h2, hg, ?_⟩
        split at hs
        · split at hs
          · exact .inl ⟨by assumption, by assumption, (Option.some.inj hs).symm⟩
          · exact .inr (.inl ⟨by assumption, by assumption, (Option.some.inj hs).symm⟩)
        · exact .inr (.inr ⟨by assumption, (Option.some.inj hs).symm⟩)
      · cases hs
    · cases hs
  unfold big at hg1 hg2 hg3
  rcases hcase with ⟨hs0, hp, rfl⟩ | ⟨hs0, hp, rfl⟩ | ⟨hs0, rfl⟩
  · refine (bcast_tail B w0 w bc bi bm K il ms V X vE vP Di Dm k e p mb ev h hk hmb he gE cap hvE hg3 hs0 hg4 hp).mono ?_
    rintro _ _ ⟨rfl, V', X', hR⟩
    exact ⟨rfl, V', X', vP, hR⟩
  · have hm := h.m k p _ hk hmb
    obtain ⟨aS, cS, hVS, _, _⟩ := h.r.any (3 * k + 3)
    rw [(h.x2 k _ hmb).2, hs0] at hVS
    have c2 : w.cell? ⟨p.2, 2, none⟩ = some (.int .i64 mb.past) := cellB hm rfl
    have c3 : w.cell? ⟨p.2, 3, none⟩ = some (.slice aS 0 cS) := by rw [← show V (3 * k + 3) = .slice aS 0 cS from hVS]; exact cellB hm rfl
    have hp' : mb.past < 0 := by omega
    have HH : Hid _ := h
    clear h hm hVS hs hmb he hk hvE
    go_enter Yba.func17, Yba.ntmps17
    go_wp2
    go_end0
    exact ⟨rfl, _, _, _, HH.out⟩
  · obtain ⟨i3, h3i, h3z, h3s, h3b⟩ := info_parts info3
    obtain ⟨i10, h10i, h10z, h10s, h10b⟩ := info_parts info110
    have hsl : 0 < mb.since.length := by
      cases hx : mb.since with
      | nil => exact absurd hx hs0
      | cons a l => simp
    have hm := h.m k p _ hk hmb
    obtain ⟨gS, cS, hVS, hS1, hS2⟩ := h.r.form (3 * k + 3) (by rw [(h.x2 k _ hmb).2]; exact hsl)
    rw [(h.x2 k _ hmb).2] at hVS hS1
    obtain ⟨aI, cI, hVI, _, _⟩ := h.r.any 0
    rw [h.x0] at hVI
    have c3 : w.cell? ⟨p.2, 3, none⟩ = some (.slice (some ⟨gS, 0, none⟩) mb.since.length cS) := by rw [← hVS]; exact cellB hm rfl
    have c6 : w.cell? ⟨bc, 6, none⟩ = some (.slice aI K.inp.length cI) := by rw [← hVI]; exact cellB h.c rfl
    have hz := lt_of_block h.c
    have hBz := h.ge.1
    have hnews : ∀ (j : Nat) (u : Value), (natCells mb.since)[j]? = some u → w.cell? ((⟨gS, 0, none⟩ : Addr).add j) = some u := fun j u hu => by
      rw [Addr.add_lit, Nat.zero_add]
      simp only [natCells, List.getElem?_map, Option.map_eq_some_iff] at hu
      obtain ⟨x, hx, rfl⟩ := hu
      exact h.r.cell hVS (by rw [(h.x2 k _ hmb).2]; exact hx)
    have hn1 : ∀ u ∈ natCells mb.since, u.oneCell' = true := fun u hu => by simp only [natCells, List.mem_map] at hu; obtain ⟨x, _, rfl⟩ := hu; rfl
    have HN : Hid _ := And.intro hnews hn1
    have HH : Hid _ := And.intro h (And.intro hk (And.intro hmb he))
    clear h hk hmb he hm hs hnews hn1
    go_enter Yba.func17, Yba.ntmps17
    go_upto_region 2 with fail
    go_cut [] (fun wx => ∃ V' X', KRep B w0 wx bc bi bm { K with inp := K.inp ++ mb.since } il ms V' X' vE vP Di Dm)
    case first =>
      go_region_law
        (refine step_append_lies _ (by rfl) _ _ _ (by rfl) B 3 i3 _ 1 8 Yba.underlying39 h3i h3z h3s h3b rfl (by omega) (.slice aI K.inp.length cI) K.inp.length (natCells K.inp) (by rfl) (by have hh := HH.out.1.drew.r.own 0; rw [HH.out.1.x0, hVI] at hh; exact hh) ⟨gS, 0, none⟩ mb.since.length cS (natCells mb.since) (by rfl) (by rw [natCells_length, Nat.mul_one]) (by exact HN.out.1) HN.out.2 (by omega) (by unfold maxLen; omega) (by omega) (by simp; omega) w.heap.size (by simp) ?_; intro gz cz wz hownz hgrowz hatz hltz; have tz := HH.out.1.drew.touch hgrowz (t := 3) (by have := row_block (HH.out.1.drew.r.own 0); rw [hVI] at this; exact this); have x7 : wz.cell? ⟨bc, 6, none⟩ = some (V 0) := cellB ((tz.c7 (by decide)).trans HH.out.1.c) rfl; have n7 : wz.frozen? ⟨bc, 6, none⟩ = false := freeB ((tz.c7 (by decide)).trans HH.out.1.c); clear tz)
      all_goals
        have hr := HH.out.1.drew.r.grow 0 (l := K.inp ++ mb.since) (by rw [natCells_append, List.length_append]; exact hownz) (by rw [hVI]; exact hgrowz) (by rw [hVI]; rcases hatz with h | h; exact .inl h.symm; exact .inr (by rw [h]; rfl))
        have hF := HH.out.1.drew.setInp (HH.out.1.drew.touch hgrowz (t := 3) (by have := row_block (HH.out.1.drew.r.own 0); rw [hVI] at this; exact this)) hr
        have HF : Hid _ := hF
        clear hownz hgrowz hatz hr hF c3 c6
        go_wp2
        go_meet
        exact ⟨_, _, HF.out⟩
    case rest =>
      clear c3 c6 HN hVS hVI
      obtain ⟨V2, X2, h2⟩ := hcut
      have hm2 := h2.m k p _ HH.out.2.1 HH.out.2.2.1
      obtain ⟨aI2, cI2, hVI2, _, _⟩ := h2.r.any 0
      rw [h2.x0, List.length_append] at hVI2
      obtain ⟨aP, cP, hvP⟩ : ∃ a c, vP = .slice a K.pasts.length c := by
        rcases h2.oP.2 with ⟨hv, h0⟩ | ⟨g, c, cur, hv, _⟩
        · exact ⟨none, 0, by rw [hv, h0]⟩
        · exact ⟨_, c, hv⟩
      have c2 : wc.cell? ⟨p.2, 2, none⟩ = some (.int .i64 mb.past) := cellB hm2 rfl
      have c5 : wc.cell? ⟨bc, 5, none⟩ = some (.slice aP K.pasts.length cP) := by rw [← hvP]; exact cellB h2.c rfl
      have c6 : wc.cell? ⟨bc, 6, none⟩ = some (.slice aI2 (K.inp.length + mb.since.length) cI2) := by rw [← hVI2]; exact cellB h2.c rfl
      have c2a : ∀ o, (wc.alloc o).cell? ⟨p.2, 2, none⟩ = some (.int .i64 mb.past) := fun o => cellB ((h2.alloc o).m k p _ HH.out.2.1 HH.out.2.2.1) rfl
      have c5a : ∀ o, (wc.alloc o).cell? ⟨bc, 5, none⟩ = some (.slice aP K.pasts.length cP) := fun o => by rw [← hvP]; exact cellB (h2.alloc o).c rfl
      have c6a : ∀ o, (wc.alloc o).cell? ⟨bc, 6, none⟩ = some (.slice aI2 (K.inp.length + mb.since.length) cI2) := fun o => by rw [← hVI2]; exact cellB (h2.alloc o).c rfl
      have hz2 := lt_of_block h2.c
      have H2 : Hid _ := h2
      clear h2 hm2 hVI2
      go_upto_region 3 with fail
      go_cut [] (fun wx => ∃ vP', KRep B w0 wx bc bi bm { K with inp := K.inp ++ mb.since, pasts := K.pasts ++ [⟨mb.past, K.inp.length, K.inp.length + mb.since.length⟩] } il ms V2 X2 vE vP' Di Dm)
      case first =>
        go_region_law
          (refine step_append_lies _ (by rfl) _ _ _ (by rfl) B 110 i10 _ 3 24 Yba.underlying73 h10i h10z h10s h10b rfl (by omega) (.slice aP K.pasts.length cP) K.pasts.length (pastCells K.pasts) (by rfl) (by have hh := (H2.out.alloc (.cells #[.int .i64 mb.past, .int .i64 (K.inp.length : Int), .int .i64 ((K.inp.length : Int) + (mb.since.length : Int))] 110)).drew.oP; rw [hvP] at hh; exact hh) ⟨wc.heap.size, 0, none⟩ 1 1 [.int .i64 mb.past, .int .i64 (K.inp.length : Int), .int .i64 ((K.inp.length : Int) + (mb.since.length : Int))] (by rfl) (by rfl) (by exact cells_three _ _ _ _ _) (by intro u hu; simp at hu; rcases hu with rfl | rfl | rfl <;> rfl) (by omega) (by unfold maxLen; omega) (by omega) (by simp; omega) (wc.heap.size + 1) (by simp) ?_; intro gz cz wz hownz hgrowz hatz hltz; have tz := (H2.out.alloc _).drew.touch hgrowz (t := 110) (by have := row_block H2.out.oP; rw [hvP] at this; intro b hb; obtain ⟨h1, cur, h2⟩ := this b hb; exact ⟨h1, cur, (Below.heap_alloc _ _ _ (Array.getElem?_eq_some_iff.1 h2).1).trans h2⟩); have x7 : wz.cell? ⟨bc, 5, none⟩ = some vP := cellB ((tz.c7 (by decide)).trans (H2.out.alloc _).drew.c) rfl; have n7 : wz.frozen? ⟨bc, 5, none⟩ = false := freeB ((tz.c7 (by decide)).trans (H2.out.alloc _).drew.c); clear tz)
        all_goals
          have hF := (H2.out.alloc _).drew.pushP (p := ⟨mb.past, K.inp.length, K.inp.length + mb.since.length⟩) (by simpa using hownz) (by rw [hvP]; exact hgrowz)
          have HF : Hid _ := hF
          clear hownz hgrowz hatz hF c2 c5 c6 c2a c5a c6a
          go_wp2
          go_meet
          exact ⟨_, HF.out⟩
      case rest =>
        clear c2 c5 c6 c2a c5a c6a hvP H2
        obtain ⟨vP', h3⟩ := hcut
        have hm3 := h3.m k p _ HH.out.2.1 HH.out.2.2.1
        obtain ⟨gS2, cS2, hVS2, hS3, hS4⟩ := h3.r.form (3 * k + 3) (by rw [(h3.x2 k _ HH.out.2.2.1).2]; exact hsl)
        rw [(h3.x2 k _ HH.out.2.2.1).2] at hVS2 hS3
        obtain ⟨aP2, cP2, hvP2⟩ : ∃ a c, vP' = .slice a (K.pasts.length + 1) c := by
          rcases h3.oP.2 with ⟨hv, h0⟩ | ⟨g, c, cur, hv, _⟩
          · simp at h0
          · exact ⟨some ⟨g, 0, none⟩, c, by rw [hv]; simp⟩
        have c5 : wc.cell? ⟨bc, 5, none⟩ = some (.slice aP2 (K.pasts.length + 1) cP2) := by rw [← hvP2]; exact cellB h3.c rfl
        have c2 : wc.cell? ⟨p.2, 2, none⟩ = some (.int .i64 mb.past) := cellB hm3 rfl
        have f2 : wc.frozen? ⟨p.2, 2, none⟩ = false := freeB hm3
        have c3 : wc.cell? ⟨p.2, 3, none⟩ = some (.slice (some ⟨gS2, 0, none⟩) mb.since.length cS2) := by rw [← hVS2]; exact cellB hm3 rfl
        have f3 : wc.frozen? ⟨p.2, 3, none⟩ = false := freeB hm3
        have t0 := h3.touch (w' := wc) (row := none) (t := 3) (World.grownBy.refl _ _) (fun b e => by cases e)
        have h4 := h3.setM (mb' := { mb with past := (K.pasts.length : Int) }) HH.out.2.1 HH.out.2.2.1 t0 h3.r (fun _ _ _ => ⟨rfl, rfl⟩) (h3.x2 k mb HH.out.2.2.1) rfl (off := 2) (u := .int .i64 (K.pasts.length : Int)) rfl
        obtain ⟨W4, hW4⟩ : ∃ W, W = wc.setCell ⟨p.2, 2, none⟩ (.int .i64 (K.pasts.length : Int)) := ⟨_, rfl⟩
        rw [← hW4] at h4
        have hkl : k < K.mem.length := (List.getElem?_eq_some_iff.1 HH.out.2.2.1).1
        have hmb4 : (K.mem.set k { mb with past := (K.pasts.length : Int) })[k]? = some { mb with past := (K.pasts.length : Int) } := List.getElem?_set_self hkl
        have t4 := h4.touch (w' := W4) (row := none) (t := 3) (World.grownBy.refl _ _) (fun b e => by cases e)
        have h5 := h4.setM (mb' := { mb with past := (K.pasts.length : Int), since := [] }) HH.out.2.1 hmb4 t4 (h4.r.cut0 hVS2) (fun c _ hc => ⟨upd_other _ _ hc, upd_other _ _ hc⟩) ⟨by rw [upd_other _ _ (by omega)]; exact (h4.x2 k _ hmb4).1, upd_same _ _ _⟩ rfl (off := 3) (u := .slice (some ⟨gS2, 0, none⟩) 0 cS2) (by rw [upd_other _ _ (by omega), upd_same]; rfl)
        obtain ⟨W5, hW5⟩ : ∃ W, W = W4.setCell ⟨p.2, 3, none⟩ (.slice (some ⟨gS2, 0, none⟩) 0 cS2) := ⟨_, rfl⟩
        rw [← hW5] at h5
        simp only [List.set_set] at h5
        have HW : Hid _ := And.intro hW4 hW5
        have H5 : Hid _ := h5
        clear h3 hm3 hvP2 t0 h4 hW4 t4 h5 hW5 hmb4 hVS2
        go_wp2
        rw [← HW.out.1, ← HW.out.2]
        have he5 := HH.out.2.2.2
        have hel := (List.getElem?_eq_some_iff.1 he5).1
        have hm5 := H5.out.m k p _ HH.out.2.1 (List.getElem?_set_self hkl)
        obtain ⟨V5, hV5⟩ : ∃ V5, V5 = upd V2 (3 * k + 3) (Value.slice (some ⟨gS2, 0, none⟩) 0 cS2) := ⟨_, rfl⟩
        obtain ⟨X5, hX5⟩ : ∃ X5, X5 = upd X2 (3 * k + 3) ([] : List Nat) := ⟨_, rfl⟩
        rw [← hV5, ← hX5] at H5
        rw [← hV5] at hm5
        obtain ⟨aT, cT, hVT, _, _⟩ := H5.out.r.any (3 * e + 1)
        rw [H5.out.x1 e ev he5] at hVT
        have y2 : W5.cell? ⟨p.2, 2, none⟩ = some (.int .i64 (K.pasts.length : Int)) := cellB hm5 rfl
        have y2a : ∀ o, (W5.alloc o).cell? ⟨p.2, 2, none⟩ = some (.int .i64 (K.pasts.length : Int)) := fun o => cellB ((Below.heap_alloc _ _ _ (lt_of_block hm5)).trans hm5) rfl
        have y4 : W5.cell? ⟨gE, e * 4 + 3, none⟩ = some (.slice aT ev.pasts.length cT) := by
          have hO := H5.out.oE
          rw [hvE] at hO
          rw [hO.cellAt _ (by show e * 4 + 3 < K.evs.length * 4; omega), (evCells_get V5 0 K.evs e ev he5).2.2.2, Nat.zero_add, hVT]
        have y4a : ∀ o, (W5.alloc o).cell? ⟨gE, e * 4 + 3, none⟩ = some (.slice aT ev.pasts.length cT) := fun o => by
          have hO := (H5.out.alloc o).oE
          rw [hvE] at hO
          rw [hO.cellAt _ (by show e * 4 + 3 < K.evs.length * 4; omega), (evCells_get V5 0 K.evs e ev he5).2.2.2, Nat.zero_add, hVT]
        have hz5 := lt_of_block H5.out.c
        have HE5 : Hid _ := he5
        clear hm5 hV5 hX5 HW c2 c3 c5 f2 f3 he5
        go_region_law
          (refine step_append_lies _ (by rfl) _ _ _ (by rfl) B 3 i3 _ 1 8 Yba.underlying39 h3i h3z h3s h3b rfl (by omega) (.slice aT ev.pasts.length cT) ev.pasts.length (natCells ev.pasts) (by rfl) (by have hh := (H5.out.alloc (.cells #[.int .i64 (K.pasts.length : Int)] 3)).drew.r.own (3 * e + 1); rw [H5.out.x1 e ev HE5.out, hVT] at hh; exact hh) ⟨W5.heap.size, 0, none⟩ 1 1 [.int .i64 (K.pasts.length : Int)] (by rfl) (by rfl) (by exact cells_one _ _ _) (by intro u hu; simp at hu; subst hu; rfl) (by omega) (by unfold maxLen; omega) (by omega) (by simp; omega) (W5.heap.size + 1) (by simp) ?_; intro gz cz wz hownz hgrowz hatz hltz; have tz := (H5.out.alloc _).drew.touch hgrowz (t := 3) (by have := row_block ((H5.out.alloc (.cells #[.int .i64 (K.pasts.length : Int)] 3)).drew.r.own (3 * e + 1)); rw [hVT] at this; exact this); have x7 : wz.cell? ⟨gE, e * 4 + 3, none⟩ = some (.slice aT ev.pasts.length cT) := (by have hO2 := tz.oE (by decide); rw [hvE] at hO2; rw [hO2.cellAt _ (by show e * 4 + 3 < K.evs.length * 4; omega), (evCells_get V5 0 K.evs e ev HE5.out).2.2.2, Nat.zero_add, hVT]); have n7 : wz.frozen? ⟨gE, e * 4 + 3, none⟩ = false := (by have hO2 := tz.oE (by decide); rw [hvE] at hO2; exact hO2.frozenAt _); clear tz)
        all_goals
          have hr := (H5.out.alloc (.cells #[.int .i64 (K.pasts.length : Int)] 3)).drew.r.grow (3 * e + 1) (l := ev.pasts ++ [K.pasts.length]) (by rw [natCells_append, List.length_append]; exact hownz) (by rw [hVT]; exact hgrowz) (by rw [hVT]; rcases hatz with h | h; exact .inl h.symm; exact .inr (by rw [h]; simp [Value.ownBlock]))
          have hF := (H5.out.alloc _).drew.setEP HE5.out hvE ((H5.out.alloc _).drew.touch hgrowz (t := 3) (by have := row_block ((H5.out.alloc (.cells #[.int .i64 (K.pasts.length : Int)] 3)).drew.r.own (3 * e + 1)); rw [hVT] at this; exact this)) hr
          have HF : Hid _ := hF
          clear hownz hgrowz hatz hr hF y2 y2a y4 y4a
          go_wp2
          go_end0
          have HFo := HF.out
          rw [hvE] at HFo
          exact ⟨rfl, _, _, _, HFo⟩
end Go.Proofs.Ybulkbewa
