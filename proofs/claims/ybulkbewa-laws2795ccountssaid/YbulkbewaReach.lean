import Derived.Test.YbulkbewaEnter
namespace Go.Proofs.Ybulkbewa
open Go.RowKit
def allNeverP : List (Nat × Nat) → List Int → List Int
  | [], l => l
  | p :: ps, l => allNeverP ps (l.set p.1 never)

theorem allNeverP_length : ∀ (ps : List (Nat × Nat)) (l : List Int), (allNeverP ps l).length = l.length
  | [], _ => rfl
  | p :: ps, l => by rw [allNeverP, allNeverP_length ps]; simp

theorem allNeverP_snoc : ∀ (ps : List (Nat × Nat)) (p : Nat × Nat) (l : List Int), allNeverP (ps ++ [p]) l = (allNeverP ps l).set p.1 never
  | [], _, _ => rfl
  | q :: ps, p, l => by rw [List.cons_append, allNeverP, allNeverP_snoc ps p]; rfl

def rstepP (d : DG) (s : WS) : Option WS :=
  match s.stack.getLast? with
  | none => none
  | some (v, e) =>
    match s.latest[v]?, d.nextFrom[v + 1]? with
    | some lv, some hi =>
      if lv = never then
        if ∀ p ∈ s.stack, p.1 < s.latest.length then some { s with latest := allNeverP s.stack s.latest, stack := [] } else none
      else if e = hi then
        match s.stack.dropLast.getLast? with
        | none => some { s with stack := s.stack.dropLast }
        | some (u, _) =>
          match s.latest[u]? with
          | some lu => some { s with stack := s.stack.dropLast, latest := s.latest.set u (max lu lv) }
          | none => none
      else
        match d.next[e]? with
        | none => none
        | some x =>
          match s.done[x]?, s.latest[x]? with
          | some dx, some lx =>
            if dx = s.member then some { s with stack := s.stack.dropLast ++ [(v, e + 1)], latest := s.latest.set v (max lv lx) }
            else enterP d { s with stack := s.stack.dropLast ++ [(v, e + 1)] } x
          | _, _ => none
    | _, _ => none

def rloopP (d : DG) : Nat → WS → Option WS
  | 0, _ => none
  | n + 1, s => if s.stack = [] then some s else (rstepP d s).bind (rloopP d n)

def reachP (d : DG) (fuel : Nat) (s : WS) (n : Nat) : Option (WS × Int) :=
  match s.done[n]?, s.latest[n]? with
  | some dn, some ln =>
    if dn = s.member then some (s, ln)
    else (enterP d s n).bind fun s1 => (rloopP d fuel s1).bind fun s2 => (s2.latest[n]?).map fun l => (s2, l)
  | _, _ => none

theorem rstepP_cases {d : DG} {s s' : WS} (h : rstepP d s = some s') : ∃ cs v e lv hi, s.stack = cs ++ [(v, e)] ∧ s.latest[v]? = some lv ∧ d.nextFrom[v + 1]? = some hi ∧
    ((lv = never ∧ (∀ p ∈ s.stack, p.1 < s.latest.length) ∧ s' = { s with latest := allNeverP s.stack s.latest, stack := [] }) ∨
     (lv ≠ never ∧ e = hi ∧ ((cs = [] ∧ s' = { s with stack := cs }) ∨ ∃ cs' u e' lu, cs = cs' ++ [(u, e')] ∧ s.latest[u]? = some lu ∧ s' = { s with stack := cs, latest := s.latest.set u (max lu lv) })) ∨
     (lv ≠ never ∧ e ≠ hi ∧ ∃ x dx lx, d.next[e]? = some x ∧ s.done[x]? = some dx ∧ s.latest[x]? = some lx ∧
        ((dx = s.member ∧ s' = { s with stack := cs ++ [(v, e + 1)], latest := s.latest.set v (max lv lx) }) ∨ (dx ≠ s.member ∧ enterP d { s with stack := cs ++ [(v, e + 1)] } x = some s')))) := by
  unfold rstepP at h
  split at h
  · cases h
  · rename_i v e hl
    obtain ⟨cs, hcs⟩ := last_split hl
    rw [hcs] at h
    simp only [List.dropLast_concat] at h
    split at h
    · rename_i lv hi h1 h2
      refine ⟨cs, v, e, lv, hi, hcs, h1, h2, ?_⟩
      split at h
      · split at h
        · exact .inl ⟨by assumption, by rw [hcs]; assumption, by rw [hcs]; exact (Option.some.inj h).symm⟩
        · cases h
      · split at h
        · refine .inr (.inl ⟨by assumption, by assumption, ?_⟩)
          split at h
          · rename_i hn
            exact .inl ⟨List.getLast?_eq_none_iff.1 hn, (Option.some.inj h).symm⟩
          · rename_i u e' hu
            obtain ⟨cs', hcs'⟩ := last_split hu
            split at h
            · exact .inr ⟨cs', u, e', _, hcs', by assumption, (Option.some.inj h).symm⟩
            · cases h
        · refine .inr (.inr ⟨by assumption, by assumption, ?_⟩)
          split at h
          · cases h
          · rename_i x hx
            split at h
            · rename_i dx lx h3 h4
              refine ⟨x, dx, lx, hx, h3, h4, ?_⟩
              split at h
              · exact .inl ⟨by assumption, (Option.some.inj h).symm⟩
              · exact .inr ⟨by assumption, h⟩
            · cases h
    · cases h

theorem WRep.setTop {B : Nat} {w0 w : World} {bw bd b2 b3 b4 b5 E n : Nat} {s : WS} {g m cap : Nat} {cs : List (Nat × Nat)} {v e : Nat} (h : WRep B w0 w bw bd b2 b3 b4 b5 E n s (.slice (some ⟨g, 0, none⟩) m cap)) (hc : s.stack = cs ++ [(v, e)]) (e' : Nat) :
    WRep B w0 (w.setCell ⟨g, cs.length * 2 + 1, none⟩ (.int .i64 (e' : Int))) bw bd b2 b3 b4 b5 E n { s with stack := cs ++ [(v, e')] } (.slice (some ⟨g, 0, none⟩) m cap) := by
  have hg : B ≤ g := (h.oS.lt g rfl).1
  have k : ∀ {b : Nat} {arr : Array Value} {t : TypeId}, w.heap[b]? = some (.cells arr t (0, 0)) → t ≠ 142 → (w.setCell ⟨g, cs.length * 2 + 1, none⟩ (.int .i64 (e' : Int))).heap[b]? = some (.cells arr t (0, 0)) := fun {b arr t} hb ht =>
    (Below.heap_setCell _ _ _ _ (fun e => h.notS hb ht (by have : b = g := e; rw [this]; rfl))).trans hb
  have hn : m = s.stack.length := by
    rcases h.oS.2 with ⟨h0, _⟩ | ⟨g', cap', cur, h0, _⟩
    · cases h0
    · cases h0; rfl
  have hst := (show w.ownsRow B 142 2 (.slice (some ⟨g, 0, none⟩) m cap) m (pairCells s.stack) by rw [hn]; rw [hn] at h; exact h.oS).stored (cs.length * 2 + 1) (.int .i64 (e' : Int))
  refine ⟨k h.c (by decide), k h.h2 (by decide), k h.h3 (by decide), k h.h4 (by decide), k h.h5 (by decide), ?_, h.below.setCell hg _, h.l2, h.l3, h.l4, h.l5, fun b o ho n1 n2 n3 n4 n5 hn => h.frS hst.2 (h.fr b o ho n1 n2 n3 n4 n5 hn) hn⟩
  have e1 : (pairCells s.stack).set (cs.length * 2 + 1) (.int .i64 (e' : Int)) = pairCells (cs ++ [(v, e')]) := by
    rw [hc, pairCells_append, pairCells_append, List.set_append, pairCells_length, if_neg (by omega), show cs.length * 2 + 1 - cs.length * 2 = 1 by omega]
    rfl
  have e2 : (cs ++ [(v, e')]).length = m := by rw [hn, hc]; simp
  show World.ownsRow _ _ _ _ _ (cs ++ [(v, e')]).length (pairCells (cs ++ [(v, e')]))
  rw [e2, ← e1]
  exact hst.1

theorem ownsRow_cut0 {w : World} {base : Nat} {e : TypeId} {size g cap n : Nat} {xs : List Value}
    (h : w.ownsRow base e size (.slice (some ⟨g, 0, none⟩) n cap) n xs) : w.ownsRow base e size (.slice (some ⟨g, 0, none⟩) 0 cap) 0 [] := by
  obtain ⟨_, h2⟩ := h
  rcases h2 with ⟨h0, _⟩ | ⟨g', cap', cur, hv, hg, hh, hn, hcap, hsz, htake⟩
  · cases h0
  · cases hv
    exact ⟨by simp, .inr ⟨g, cap, cur, rfl, hg, hh, by omega, hcap, hsz, by simp⟩⟩
theorem pairCells_get0 {l : List (Nat × Nat)} {k a b : Nat} (h : l[k]? = some (a, b)) : (pairCells l)[k * 2]? = some (.int .i64 (a : Int)) := by
  obtain ⟨h1, h2⟩ := List.getElem?_eq_some_iff.1 h
  have e : l = l.take k ++ (a, b) :: l.drop (k + 1) := by rw [← h2, List.getElem_cons_drop, List.take_append_drop]
  rw [e, pairCells_append, List.getElem?_append_right (by rw [pairCells_length, List.length_take]; omega), pairCells_length, List.length_take, Nat.min_eq_left (by omega), Nat.sub_self]
  rfl
theorem pairCells_get1 {l : List (Nat × Nat)} {k a b : Nat} (h : l[k]? = some (a, b)) : (pairCells l)[k * 2 + 1]? = some (.int .i64 (b : Int)) := by
  obtain ⟨h1, h2⟩ := List.getElem?_eq_some_iff.1 h
  have e : l = l.take k ++ (a, b) :: l.drop (k + 1) := by rw [← h2, List.getElem_cons_drop, List.take_append_drop]
  rw [e, pairCells_append, List.getElem?_append_right (by rw [pairCells_length, List.length_take]; omega), pairCells_length, List.length_take, Nat.min_eq_left (by omega), show k * 2 + 1 - k * 2 = 1 by omega]
  rfl

set_option maxHeartbeats 3200000 in
set_option maxRecDepth 100000 in
theorem reach_any (B : Nat) (w0 w : World) (bw bd b2 b3 b4 b5 E n : Nat) (d : DG) (v0 v1 v2 v3 v4 : Value) (s s' : WS) (vS : Value) (m fuel : Nat) (l : Int)
    (hD : DRep B w0 bd d v0 v1 v2 v3 v4) (hR : WRep B w0 w bw bd b2 b3 b4 b5 E n s vS) (hB : WB B bw b2 b3 b4 b5) (hs : reachP d fuel s m = some (s', l)) :
    Calls Yba.prog 34 #[.pointer (some ⟨bw, 0, none⟩), .int .i64 (m : Int)] w fun e w' => e = .returned (.int .i64 l) ∧ ∃ vS', WRep B w0 w' bw bd b2 b3 b4 b5 E n s' vS' := by
  obtain ⟨dn, ln, hdn, hln, hcase⟩ : ∃ dn ln, s.done[m]? = some dn ∧ s.latest[m]? = some ln ∧ ((dn = s.member ∧ s' = s ∧ l = ln) ∨ (dn ≠ s.member ∧ ∃ s1 , enterP d s m = some s1 ∧ rloopP d fuel s1 = some s' ∧ s'.latest[m]? = some l)) := by
    unfold reachP at hs
    split at hs
    · rename_i dn ln h1 h2
      refine ⟨dn, ln, h1, h2, ?_⟩
      split at hs
      · cases hs; exact .inl ⟨by assumption, rfl, rfl⟩
      · simp only [Option.bind_eq_some_iff, Option.map_eq_some_iff] at hs
        obtain ⟨s1, q1, s2, q2, l2, q3, q4⟩ := hs
        cases q4
        exact .inr ⟨by assumption, s1, q1, q2, q3⟩
    · cases hs
  have hmn : m < n := by have := (List.getElem?_eq_some_iff.1 hdn).1; have := hR.l4; omega
  have p1 : w.cell? ⟨bw, 1, none⟩ = some (.int .i64 (s.member : Int)) := cellB hR.c rfl
  have p4 : w.cell? ⟨bw, 4, none⟩ = some (.slice (some ⟨b4, 0, none⟩) n n) := cellB hR.c rfl
  have p5 : w.cell? ⟨bw, 5, none⟩ = some (.slice (some ⟨b5, 0, none⟩) n n) := cellB hR.c rfl
  have k4 : w.cell? ⟨b4, m, none⟩ = some (.int .i64 (dn : Int)) := cellB hR.h4 (natCells_get hdn)
  have k5 : w.cell? ⟨b5, m, none⟩ = some (.int .i64 ln) := cellB hR.h5 (intCells_get hln)
  have HR : Hid _ := And.intro hR hD
  have hbd := hD.lt
  replace hcase : Hid _ := hcase
  have nb5 : ¬ b5 = bw := fun e => hB.d.2.2.2.1 e.symm
  have nb5' : ¬ bw = b5 := hB.d.2.2.2.1
  clear hR hD hs hdn hln
  go_enter Yba.func34, Yba.ntmps34
  go_wp2
  go_quiet (fail)
  rcases hcase.out with ⟨rfl, rfl, rfl⟩ | ⟨hne, s1, hent, hloop, hfin⟩
  · clear hcase
    go_wp2
    go_ret
    exact ⟨rfl, _, HR.out.1.drewN _⟩
  · clear hcase p1 p4 p5 k4 k5
    have hne' : ¬ (dn : Int) = (s.member : Int) := by omega
    have HL : Hid _ := And.intro hloop hfin
    clear hloop hfin
    go_wp2_with fail
    refine (enter_any B w0 _ bw bd b2 b3 b4 b5 E n d v0 v1 v2 v3 v4 s s1 vS m HR.out.2 (HR.out.1.drewN _) hB hent).mono ?_
    rintro e wv ⟨rfl, vS1, R1⟩
    have HD : Hid _ := HR.out.2
    clear HR hent hne hne'
    go_wp2
    go_loopg [] fuel (fun j wx => ∃ (s : WS) (vS : Value), WRep B w0 wx bw bd b2 b3 b4 b5 E n s vS ∧ rloopP d j s = some s')
    case atStart => exact ⟨s1, vS1, R1, HL.out.1⟩
    case round =>
      clear R1
      obtain ⟨s3, vS3, R, hrun⟩ := hrel
      obtain ⟨j, rfl⟩ : ∃ j, gk = j + 1 := by
        cases gk with
        | zero => simp [rloopP] at hrun
        | succ j => exact ⟨j, rfl⟩
      have p6 : wr.cell? ⟨bw, 6, none⟩ = some vS3 := cellB R.c rfl
      have p5 : wr.cell? ⟨bw, 5, none⟩ = some (.slice (some ⟨b5, 0, none⟩) n n) := cellB R.c rfl
      by_cases hnil : s3.stack = []
      · obtain rfl : s3 = s' := by simpa [rloopP, hnil] using hrun
        have hlen : ∃ a c, vS3 = .slice a 0 c := by
          rcases R.oS.2 with ⟨rfl, _⟩ | ⟨g, cap, cur, rfl, _⟩
          · exact ⟨_, _, rfl⟩
          · rw [hnil]; exact ⟨_, _, rfl⟩
        obtain ⟨a3, c3, rfl⟩ := hlen
        have k5 : wr.cell? ⟨b5, m, none⟩ = some (.int .i64 l) := cellB R.h5 (intCells_get HL.out.2)
        replace R : Hid _ := R
        clear hrun hnil
        go_wp2
        go_ret
        exact ⟨rfl, _, R.out⟩
      · simp only [rloopP, if_neg hnil, Option.bind_eq_some_iff] at hrun
        obtain ⟨s4, hst, hrun⟩ := hrun
        obtain ⟨cs, v, e, lv, hi, hcs, hlv, hhi, hcase⟩ := rstepP_cases hst
        obtain ⟨gS, capS, rfl⟩ := Joins.ownsRow_form R.oS (by rw [hcs]; simp)
        have hgS : B ≤ gS := (R.oS.lt gS rfl).1
        have hln : s3.stack.length = cs.length + 1 := by rw [hcs]; simp
        have oS := R.oS
        rw [hln] at oS p6
        rw [hln] at R
        have t0 : wr.cell? ⟨gS, cs.length * 2, none⟩ = some (.int .i64 (v : Int)) := by
          rw [oS.cellAt _ (by omega), hcs, pairCells_append, List.getElem?_append_right (by rw [pairCells_length]; exact Nat.le_refl _), pairCells_length, Nat.sub_self]; rfl
        have t1 : wr.cell? ⟨gS, cs.length * 2 + 1, none⟩ = some (.int .i64 (e : Int)) := by
          rw [oS.cellAt _ (by omega), hcs, pairCells_append, List.getElem?_append_right (by rw [pairCells_length]; omega), pairCells_length, show cs.length * 2 + 1 - cs.length * 2 = 1 by omega]; rfl
        have f1 : wr.frozen? ⟨gS, cs.length * 2 + 1, none⟩ = false := oS.frozenAt _
        have k5v : wr.cell? ⟨b5, v, none⟩ = some (.int .i64 lv) := cellB R.h5 (intCells_get hlv)
        have hvn : v < n := by have := (List.getElem?_eq_some_iff.1 hlv).1; have := R.l5; omega
        obtain ⟨hcl, hcapS⟩ : cs.length + 1 ≤ 9223372036854775807 ∧ cs.length + 1 ≤ capS := by
          rcases oS.2 with ⟨h0, _⟩ | ⟨g', cap', cur, h0, _, _, h1, h2, _⟩
          · cases h0
          · cases h0; unfold maxLen at h2; exact ⟨by omega, by omega⟩
        obtain ⟨a3, g3, o3, k3', rfl, hk3, hm3, ha3, hc3⟩ := HD.out.s3
        obtain ⟨a4, g4, o4, k4', rfl, hk4, hm4, ha4, hc4⟩ := HD.out.s4
        have hv1l : v + 1 < d.nextFrom.length := (List.getElem?_eq_some_iff.1 hhi).1
        obtain ⟨rfl, hg4⟩ := ha4 (by omega)
        have D0 : ∀ p : Addr, p.block < B → wr.cell? p = w0.cell? p := fun p hp => R.below.cell hp
        have p0 : wr.cell? ⟨bw, 0, none⟩ = some (.pointer (some ⟨bd, 0, none⟩)) := cellB R.c rfl
        have e3 := (D0 ⟨bd, 3, none⟩ hbd).trans HD.out.c3
        have e4 := (D0 ⟨bd, 4, none⟩ hbd).trans HD.out.c4
        have e4a := (D0 ⟨g4, o4 + (v + 1), none⟩ hg4).trans (hc4 (v + 1) hi hhi)
        have HB : Hid _ := And.intro hrun (And.intro hcs (And.intro hlv (And.intro hc3 D0)))
        replace hcase : Hid _ := hcase
        have HO : Hid _ := oS
        replace R : Hid _ := R
        clear hst hnil hrun hlv hhi hcs hln hc3 hc4 oS D0
        go_wp2
        go_quiet (fail)
        obtain ⟨q1, hq1⟩ : ∃ q, q = nq := ⟨_, rfl⟩
        rw [← hq1]
        clear hq1
        go_wp2
        go_quiet (fail)
        obtain ⟨q2, hq2⟩ : ∃ q, q = nq := ⟨_, rfl⟩
        rw [← hq2]
        clear hq2
        rcases hcase.out with ⟨rfl, hall, rfl⟩ | ⟨hlv, rfl, hcase2⟩ | ⟨hlv, hne, x, dx, lx, hx, hdx, hlx, hcase2⟩
        · clear hcase
          unfold never
          go_wp2
          go_loopw [66] (fun i wx => ∃ k : Nat, k ≤ cs.length + 1 ∧ i = .int .i64 k ∧ WRep B w0 wx bw bd b2 b3 b4 b5 E n { s3 with latest := allNeverP (s3.stack.take k) s3.latest } (.slice (some ⟨gS, 0, none⟩) (cs.length + 1) capS)) (fun i _ => cs.length + 1 - (intOf i).toNat)
          case atStart => exact ⟨0, Nat.zero_le _, rfl, R.out.drewN _⟩
          case round =>
            clear p0 p5 p6 t0 t1 f1 k5v e3 e4 e4a HO R
            obtain ⟨k, hk, rfl, R⟩ := hrel
            have hsl : s3.stack.length = cs.length + 1 := by rw [HB.out.2.1]; simp
            by_cases hlt : k < cs.length + 1
            · obtain ⟨⟨pv, pe⟩, hp⟩ : ∃ p, s3.stack[k]? = some p := ⟨_, List.getElem?_eq_getElem (by omega)⟩
              have oS : wr.ownsRow B 142 2 (.slice (some ⟨gS, 0, none⟩) (cs.length + 1) capS) (cs.length + 1) (pairCells s3.stack) := by have := R.oS; rw [← hsl] at this ⊢; exact this
              have t0 : wr.cell? ⟨gS, k * 2, none⟩ = some (.int .i64 (pv : Int)) := by
                have := oS.cellAt (k * 2) (by omega)
                rw [this]
                exact pairCells_get0 hp
              have t1 : wr.cell? ⟨gS, k * 2 + 1, none⟩ = some (.int .i64 (pe : Int)) := by
                have := oS.cellAt (k * 2 + 1) (by omega)
                rw [this]
                exact pairCells_get1 hp
              have p5 : ∀ o, (wr.alloc o).cell? ⟨bw, 5, none⟩ = some (.slice (some ⟨b5, 0, none⟩) n n) := fun o => cellB (R.alloc hB o).c rfl
              have hpl : pv < s3.latest.length := hall _ (List.mem_of_getElem? hp)
              have hpn : pv < n := by have := R.l5; simp only [allNeverP_length] at this; omega
              obtain ⟨lz, hlz⟩ : ∃ lz, (allNeverP (s3.stack.take k) s3.latest)[pv]? = some lz := ⟨_, List.getElem?_eq_getElem (by rw [allNeverP_length]; exact hpl)⟩
              have k5 : ∀ o, (wr.alloc o).cell? ⟨b5, pv, none⟩ = some (.int .i64 lz) := fun o => cellB (R.alloc hB o).h5 (intCells_get hlz)
              have f5 : ∀ o, (wr.alloc o).frozen? ⟨b5, pv, none⟩ = false := fun o => freeB (R.alloc hB o).h5
              have hz := lt_of_block R.h5
              have z5 : ¬ b5 = wr.heap.size := by omega
              have z5' : ¬ wr.heap.size = b5 := by omega
              have htk : s3.stack.take (k + 1) = s3.stack.take k ++ [(pv, pe)] := by rw [List.take_add_one, hp]; rfl
              have HK : Hid _ := And.intro R (And.intro htk hlz)
              clear R oS htk hlz hp hsl hall
              go_wp2
              go_region
              go_wp2
              go_roundw
              case rel =>
                refine ⟨k + 1, by omega, by go_num, ?_⟩
                rw [HK.out.2.1, allNeverP_snoc]
                exact ((HK.out.1.set5 hB pv never).alloc hB _).drew
              case measure => simp [intOf]; omega
            · obtain rfl : k = cs.length + 1 := by omega
              rw [← hsl, List.take_length, hsl] at R
              have oS : wr.ownsRow B 142 2 (.slice (some ⟨gS, 0, none⟩) (cs.length + 1) capS) (cs.length + 1) (pairCells s3.stack) := by have := R.oS; rw [← hsl] at this ⊢; exact this
              have p6 : wr.cell? ⟨bw, 6, none⟩ = some (.slice (some ⟨gS, 0, none⟩) (cs.length + 1) capS) := cellB R.c rfl
              have f6 : wr.frozen? ⟨bw, 6, none⟩ = false := freeB R.c
              have p5 : wr.cell? ⟨bw, 5, none⟩ = some (.slice (some ⟨b5, 0, none⟩) n n) := cellB R.c rfl
              obtain ⟨j', hj'⟩ : ∃ j', j = j' + 1 := by
                cases j with
                | zero => have := HB.out.1; simp [rloopP] at this
                | succ j => exact ⟨j, rfl⟩
              have hfin : { s3 with latest := allNeverP s3.stack s3.latest, stack := [] } = s' := by
                have := HB.out.1; rw [hj'] at this; simpa [rloopP] using this
              have hlm := HL.out.2
              rw [← hfin] at hlm
              have k5 : wr.cell? ⟨b5, m, none⟩ = some (.int .i64 l) := cellB R.h5 (intCells_get hlm)
              have RP := R.setS hB (l := []) (ownsRow_cut0 oS) (World.grownBy.refl _ _)
              have HK : Hid _ := And.intro hfin RP
              clear R oS hfin hlm RP hsl hall hlt hk
              go_wp2
              go_ret
              obtain ⟨hfin, RP⟩ := HK.out
              subst hfin
              exact ⟨rfl, _, RP⟩
        · clear hcase
          have hlv' : ¬ lv = 9223372036854775807 := hlv
          have f6 : wr.frozen? ⟨bw, 6, none⟩ = false := freeB R.out.c
          have dg : ¬ gS = bw := fun e => R.out.notS R.out.c (by decide) (by rw [e]; rfl)
          have dg' : ¬ bw = gS := fun e => dg e.symm
          replace hcase2 : Hid _ := hcase2
          go_wp2
          go_quiet (fail)
          obtain ⟨q3, hq3⟩ : ∃ q, q = nq := ⟨_, rfl⟩
          rw [← hq3]
          clear hq3
          go_wp2
          go_region
          obtain ⟨W5, hW5⟩ : ∃ W, W = (wr.drewN (q1 + q2 + q3 + 1)).setCell ⟨bw, 6, none⟩ (.slice (some ⟨gS, 0, none⟩) cs.length capS) := ⟨_, rfl⟩
          rw [← hW5]
          have R5 : WRep B w0 W5 bw bd b2 b3 b4 b5 E n { s3 with stack := cs } (.slice (some ⟨gS, 0, none⟩) cs.length capS) := by
            rw [hW5]
            refine (R.out.drewN _).setS hB (l := cs) ?_ (World.grownBy.refl _ _)
            refine ownsRow_pop (n := cs.length) (xs := pairCells cs) (last := pairCells [(v, e)]) (pairCells_length _) ?_
            rw [← pairCells_append, ← HB.out.2.1]
            have := (R.out.drewN (q1 + q2 + q3 + 1)).oS
            rw [show s3.stack.length = cs.length + 1 by rw [HB.out.2.1]; simp] at this
            exact this
          have y6 : W5.cell? ⟨bw, 6, none⟩ = some (.slice (some ⟨gS, 0, none⟩) cs.length capS) := cellB R5.c rfl
          have y5 : W5.cell? ⟨bw, 5, none⟩ = some (.slice (some ⟨b5, 0, none⟩) n n) := cellB R5.c rfl
          have yv : W5.cell? ⟨b5, v, none⟩ = some (.int .i64 lv) := cellB R5.h5 (intCells_get HB.out.2.2.1)
          clear hW5 p0 p5 p6 t0 t1 f1 k5v e3 e4 e4a HO f6
          rcases hcase2.out with ⟨rfl, rfl⟩ | ⟨cs', u, e', lu, rfl, hlu, rfl⟩
          · clear hcase2
            replace R5 : Hid _ := R5
            go_wp2
            go_roundg j
            case measure => omega
            case rel => exact ⟨_, _, R5.out, HB.out.1⟩
          · clear hcase2
            have hl1 : (cs' ++ [(u, e')]).length = cs'.length + 1 := by simp
            rw [hl1] at R5 y6 hcl hcapS ⊢
            have oS : W5.ownsRow B 142 2 (.slice (some ⟨gS, 0, none⟩) (cs'.length + 1) capS) (cs'.length + 1) (pairCells (cs' ++ [(u, e')])) := by have := R5.oS; rw [hl1] at this; exact this
            have tu : W5.cell? ⟨gS, cs'.length * 2, none⟩ = some (.int .i64 (u : Int)) := by
              rw [oS.cellAt _ (by omega), pairCells_append, List.getElem?_append_right (by rw [pairCells_length]; exact Nat.le_refl _), pairCells_length, Nat.sub_self]; rfl
            have yu : W5.cell? ⟨b5, u, none⟩ = some (.int .i64 lu) := cellB R5.h5 (intCells_get hlu)
            have fu : W5.frozen? ⟨b5, u, none⟩ = false := freeB R5.h5
            have hun : u < n := by have := (List.getElem?_eq_some_iff.1 hlu).1; have h5 : s3.latest.length = n := R5.l5; omega
            replace R5 : Hid _ := R5
            clear oS hlu hl1
            go_wp2
            go_quiet (fail)
            obtain ⟨q4, hq4⟩ : ∃ q, q = nq := ⟨_, rfl⟩
            rw [← hq4]
            clear hq4
            go_wp2
            go_region
            all_goals
              go_wp2
              go_roundg j
              case measure => omega
              case rel => exact ⟨_, _, ((R5.out.drewN _).set5 hB u (max lu lv)), HB.out.1⟩
        · clear hcase
          have hlv' : ¬ lv = 9223372036854775807 := hlv
          have hne' : ¬ (e : Int) = (hi : Int) := by omega
          have hel : e < d.next.length := (List.getElem?_eq_some_iff.1 hx).1
          obtain ⟨rfl, hg3⟩ := ha3 (by omega)
          have e3a := (HB.out.2.2.2.2 ⟨g3, o3 + e, none⟩ hg3).trans (HB.out.2.2.2.1 e x hx)
          replace hcase2 : Hid _ := And.intro hdx (And.intro hlx hcase2)
          clear hx hdx hlx
          go_wp2
          go_quiet (fail)
          obtain ⟨q3, hq3⟩ : ∃ q, q = nq := ⟨_, rfl⟩
          rw [← hq3]
          clear hq3
          go_wp2
          go_quiet (fail)
          obtain ⟨q4, hq4⟩ : ∃ q, q = nq := ⟨_, rfl⟩
          rw [← hq4]
          clear hq4
          have R5 := (R.out.drewN (q1 + q2 + q3 + q4)).setTop HB.out.2.1 (e + 1)
          obtain ⟨W5, hW5⟩ : ∃ W, W = (wr.drewN (q1 + q2 + q3 + q4)).setCell ⟨gS, cs.length * 2 + 1, none⟩ (.int .i64 ((e : Int) + 1)) := ⟨_, rfl⟩
          have R6 : WRep B w0 W5 bw bd b2 b3 b4 b5 E n { s3 with stack := cs ++ [(v, e + 1)] } (.slice (some ⟨gS, 0, none⟩) (cs.length + 1) capS) := by rw [hW5]; exact R5
          have HW : Hid _ := hW5
          clear hW5 R5
          go_wp2
          rw [← HW.out]
          obtain ⟨hdx, hlx, _⟩ := hcase2.out
          have oS : W5.ownsRow B 142 2 (.slice (some ⟨gS, 0, none⟩) (cs.length + 1) capS) (cs.length + 1) (pairCells (cs ++ [(v, e + 1)])) := by have := R6.oS; rw [show (cs ++ [(v, e + 1)]).length = cs.length + 1 by simp] at this; exact this
          have y0 : W5.cell? ⟨gS, cs.length * 2, none⟩ = some (.int .i64 (v : Int)) := by
            rw [oS.cellAt _ (by omega), pairCells_append, List.getElem?_append_right (by rw [pairCells_length]; exact Nat.le_refl _), pairCells_length, Nat.sub_self]; rfl
          have y1 : W5.cell? ⟨bw, 1, none⟩ = some (.int .i64 (s3.member : Int)) := cellB R6.c rfl
          have y4 : W5.cell? ⟨bw, 4, none⟩ = some (.slice (some ⟨b4, 0, none⟩) n n) := cellB R6.c rfl
          have y5 : W5.cell? ⟨bw, 5, none⟩ = some (.slice (some ⟨b5, 0, none⟩) n n) := cellB R6.c rfl
          have yd : W5.cell? ⟨b4, x, none⟩ = some (.int .i64 (dx : Int)) := cellB R6.h4 (natCells_get hdx)
          have yx : W5.cell? ⟨b5, x, none⟩ = some (.int .i64 lx) := cellB R6.h5 (intCells_get hlx)
          have yv : W5.cell? ⟨b5, v, none⟩ = some (.int .i64 lv) := cellB R6.h5 (intCells_get HB.out.2.2.1)
          have fv : W5.frozen? ⟨b5, v, none⟩ = false := freeB R6.h5
          have hxn : x < n := by have := (List.getElem?_eq_some_iff.1 hdx).1; have h4 : s3.done.length = n := R6.l4; omega
          replace R6 : Hid _ := R6
          clear oS HW hdx hlx p0 p5 p6 t0 t1 f1 k5v e3 e4 e4a e3a HO
          go_quiet (fail)
          obtain ⟨q5, hq5⟩ : ∃ q, q = nq := ⟨_, rfl⟩
          rw [← hq5]
          clear hq5
          rcases hcase2.out.2.2 with ⟨rfl, rfl⟩ | ⟨hdm, hent⟩
          · clear hcase2
            go_wp2
            go_region
            all_goals
              go_wp2
              go_roundg j
              case measure => omega
              case rel => exact ⟨_, _, ((R6.out.drewN _).set5 hB v (max lv lx)), HB.out.1⟩
          · clear hcase2
            have hdm' : ¬ (dx : Int) = (s3.member : Int) := by omega
            have HE : Hid _ := hent
            clear hent y0 y1 y4 y5 yd yx yv fv
            go_wp2_with fail
            refine (enter_any B w0 _ bw bd b2 b3 b4 b5 E n d v0 v1 v2 _ _ _ _ _ x HD.out (R6.out.drewN _) hB HE.out).mono ?_
            rintro ez wv ⟨rfl, vS1, R1⟩
            replace R1 : Hid _ := R1
            go_wp2
            go_roundg j
            case measure => omega
            case rel => exact ⟨_, _, R1.out, HB.out.1⟩
end Go.Proofs.Ybulkbewa
