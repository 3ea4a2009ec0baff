/- reach and before are safe; what Judge counts. -/
import Derived.Test.YbulkbewaPCond
import Derived.Test.YbulkbewaJHead
namespace Go.Proofs.Ybulkbewa

structure RI (d : DG) (E : Nat) (s : WS) : Prop where
  ls : s.seen.length = E
  lf : s.first.length = E
  ld : s.done.length = d.nextFrom.length - 1
  ll : s.latest.length = d.nextFrom.length - 1
  st : ∀ p ∈ s.stack, p.1 < d.nextFrom.length - 1 ∧ d.nextFrom.getD p.1 0 ≤ p.2 ∧ p.2 ≤ d.nextFrom.getD (p.1 + 1) 0
  sl : s.stack.length + s.done.countP (· ≠ s.member) ≤ d.nextFrom.length - 1

def rmu (d : DG) (s : WS) : Nat := csum d.nextFrom s.stack + s.done.countP (· ≠ s.member) * (d.next.length + 2)

theorem pair_get {l : List Nat} {t : Nat} (h : (l ++ [t]).Pairwise (· ≤ ·)) (v : Nat) : l.getD v 0 ≤ t ∧ (v + 1 < l.length → l.getD v 0 ≤ l.getD (v + 1) 0) := by
  have h1 := List.pairwise_append.1 h
  constructor
  · by_cases hv : v < l.length
    · rw [List.getD_eq_getElem?_getD, List.getElem?_eq_getElem hv]
      exact h1.2.2 _ (List.getElem_mem hv) t (by simp)
    · rw [List.getD_eq_getElem?_getD, List.getElem?_eq_none (by omega)]
      simp
  · intro hv
    have := List.pairwise_iff_getElem.1 h1.1 v (v + 1) (by omega) hv (by omega)
    rw [List.getD_eq_getElem?_getD, List.getD_eq_getElem?_getD, List.getElem?_eq_getElem (show v < l.length by omega), List.getElem?_eq_getElem hv]
    exact this

theorem countP_set_ne : ∀ (l : List Nat) (i m : Nat), i < l.length → l.getD i 0 ≠ m → (l.set i m).countP (· ≠ m) + 1 = l.countP (· ≠ m)
  | x :: l, 0, m, _, h => by
    simp at h
    simp [h]
  | x :: l, i + 1, m, hi, h => by
    have := countP_set_ne l i m (by simpa using hi) (by simpa using h)
    simp only [List.set_cons_succ, List.countP_cons]
    omega

theorem scanP_some (s : WS) (E : Nat) (h1 : s.seen.length = E) (h2 : s.first.length = E) : ∀ (es : List Nat) (l : Int), (∀ e ∈ es, e < E) → ∃ l', scanP s es l = some l'
  | [], l, _ => ⟨l, rfl⟩
  | e :: es, l, h => by
    have he := h e (by simp)
    rw [scanP, get_of_lt s.seen e 0 (by omega), get_of_lt s.first e 0 (by omega)]
    simp only
    split
    · exact scanP_some s E h1 h2 es _ (fun x hx => h x (by simp [hx]))
    · exact ⟨_, rfl⟩

theorem RI.enter {d : DG} {E p : Nat} (D : DW d E p) {s : WS} (h : RI d E s) {n : Nat} (hn : n < d.nextFrom.length - 1) (hd : s.done.getD n 0 ≠ s.member) :
    ∃ s', enterP d s n = some s' ∧ RI d E s' ∧ s'.done.countP (· ≠ s'.member) + 1 = s.done.countP (· ≠ s.member) ∧ s'.stack = s.stack ++ [(n, d.nextFrom.getD n 0)] ∧ s'.member = s.member ∧ s'.seen = s.seen ∧ s'.first = s.first := by
  have hle := D.le
  have hnb := D.nb
  have e1 : d.eventsFrom[n]? = some (d.eventsFrom.getD n 0) := get_of_lt _ _ _ (by omega)
  have e2 : d.eventsFrom[n + 1]? = some (d.eventsFrom.getD (n + 1) 0) := get_of_lt _ _ _ (by omega)
  have e3 : d.nextFrom[n]? = some (d.nextFrom.getD n 0) := get_of_lt _ _ _ (by omega)
  have e4 : s.done[n]? = some (s.done.getD n 0) := get_of_lt _ _ _ (by rw [h.ld]; exact hn)
  have e5 : s.latest[n]? = some (s.latest.getD n 0) := get_of_lt _ _ _ (by rw [h.ll]; exact hn)
  obtain ⟨l, hl⟩ := scanP_some s E h.ls h.lf ((d.events.drop (d.eventsFrom.getD n 0)).take (d.eventsFrom.getD (n + 1) 0 - d.eventsFrom.getD n 0)) (-1) (fun x hx => D.e x (List.mem_of_mem_drop (List.mem_of_mem_take hx)))
  have hc := countP_set_ne s.done n s.member (by rw [h.ld]; exact hn) hd
  have hsl := h.sl
  refine ⟨{ s with done := s.done.set n s.member, latest := s.latest.set n l, stack := s.stack ++ [(n, d.nextFrom.getD n 0)] }, ?_, ⟨h.ls, h.lf, by simpa using h.ld, by simpa using h.ll, ?_, ?_⟩, hc, rfl, rfl, rfl, rfl⟩
  · unfold enterP
    simp only [e1, e2, e3, e4, e5]
    rw [if_pos ⟨(pair_get D.s1 n).2 (by omega), (pair_get D.s1 (n + 1)).1, by unfold big; omega⟩, hl]
  · intro q hq
    rcases List.mem_append.1 hq with hq | hq
    · exact h.st q hq
    · simp at hq
      subst hq
      exact ⟨hn, Nat.le_refl _, (pair_get D.s2 n).2 (by omega)⟩
  · simp only [List.length_append, List.length_cons, List.length_nil]
    omega

theorem RI.step {d : DG} {E p : Nat} (D : DW d E p) {s : WS} (h : RI d E s) (hne : s.stack ≠ []) :
    ∃ s', rstepP d s = some s' ∧ RI d E s' ∧ rmu d s' < rmu d s ∧ s'.member = s.member ∧ s'.seen = s.seen ∧ s'.first = s.first := by
  obtain ⟨cs, ⟨v, e⟩, hc⟩ : ∃ cs p, s.stack = cs ++ [p] := by
    rcases List.eq_nil_or_concat s.stack with h1 | ⟨a, b, h1⟩
    · exact absurd h1 hne
    · exact ⟨a, b, by simpa using h1⟩
  obtain ⟨hv, hlo, hhi⟩ := h.st (v, e) (by rw [hc]; simp)
  simp only at hv hlo hhi
  have e1 : s.latest[v]? = some (s.latest.getD v 0) := get_of_lt _ _ _ (by rw [h.ll]; exact hv)
  have e2 : d.nextFrom[v + 1]? = some (d.nextFrom.getD (v + 1) 0) := get_of_lt _ _ _ (by omega)
  have hms : csum d.nextFrom s.stack = csum d.nextFrom cs + (d.nextFrom.getD (v + 1) 0 - e + 1) := by rw [hc, csum_append, csum_one]
  have hsl := h.sl
  have hcl : s.stack.length = cs.length + 1 := by rw [hc]; simp
  have hcst : ∀ q ∈ cs, q.1 < d.nextFrom.length - 1 ∧ d.nextFrom.getD q.1 0 ≤ q.2 ∧ q.2 ≤ d.nextFrom.getD (q.1 + 1) 0 := fun q hq => h.st q (by rw [hc]; simp [hq])
  by_cases hnv : s.latest.getD v 0 = never
  · refine ⟨{ s with latest := allNeverP s.stack s.latest, stack := [] }, ?_, ⟨h.ls, h.lf, h.ld, by simp only; rw [allNeverP_length]; exact h.ll, by simp, by simp only [List.length_nil]; omega⟩, ?_, rfl, rfl, rfl⟩
    · unfold rstepP
      rw [hc]
      simp only [getLast_concat, e1, e2, if_pos hnv]
      rw [if_pos (fun q hq => by rw [h.ll]; exact (h.st q (by rw [hc]; exact hq)).1)]
    · unfold rmu
      simp only
      rw [hms, show csum d.nextFrom [] = 0 from rfl]
      omega
  · by_cases he : e = d.nextFrom.getD (v + 1) 0
    · rcases List.eq_nil_or_concat cs with rfl | ⟨c2, ⟨u, eu⟩, hcs⟩
      · refine ⟨{ s with stack := [] }, ?_, ⟨h.ls, h.lf, h.ld, h.ll, by simp, by simp only [List.length_nil]; omega⟩, ?_, rfl, rfl, rfl⟩
        · unfold rstepP
          simp only [hc, getLast_concat, e1, e2, if_neg hnv, if_pos he, List.dropLast_concat, List.getLast?_nil]
        · unfold rmu
          simp only
          rw [hms]
          omega
      · rw [List.concat_eq_append] at hcs
        have hu := (hcst (u, eu) (by rw [hcs]; simp)).1
        have e5 : s.latest[u]? = some (s.latest.getD u 0) := get_of_lt _ _ _ (by rw [h.ll]; exact hu)
        refine ⟨{ s with stack := cs, latest := s.latest.set u (max (s.latest.getD u 0) (s.latest.getD v 0)) }, ?_, ⟨h.ls, h.lf, h.ld, by simpa using h.ll, hcst, by simp only; omega⟩, ?_, rfl, rfl, rfl⟩
        · unfold rstepP
          simp only [hc, getLast_concat, e1, e2, if_neg hnv, if_pos he, List.dropLast_concat]
          rw [show cs.getLast? = some (u, eu) by rw [hcs]; simp]
          simp only [e5]
        · unfold rmu
          simp only
          rw [hms]
          omega
    · have hel : e < d.next.length := by have := (pair_get D.s2 (v + 1)).1; omega
      have e3 : d.next[e]? = some (d.next.getD e 0) := get_of_lt _ _ _ hel
      have hx : d.next.getD e 0 < d.nextFrom.length - 1 := D.x _ (List.mem_of_getElem? e3)
      generalize d.next.getD e 0 = x at e3 hx
      have e6 : s.done[x]? = some (s.done.getD x 0) := get_of_lt _ _ _ (by rw [h.ld]; exact hx)
      have e7 : s.latest[x]? = some (s.latest.getD x 0) := get_of_lt _ _ _ (by rw [h.ll]; exact hx)
      have hm1 : csum d.nextFrom (cs ++ [(v, e + 1)]) + 1 = csum d.nextFrom s.stack := by
        rw [hms, csum_append, csum_one]
        simp only
        omega
      have hst : ∀ q ∈ cs ++ [(v, e + 1)], q.1 < d.nextFrom.length - 1 ∧ d.nextFrom.getD q.1 0 ≤ q.2 ∧ q.2 ≤ d.nextFrom.getD (q.1 + 1) 0 := fun q hq => by
        rcases List.mem_append.1 hq with hq | hq
        · exact hcst q hq
        · simp at hq
          subst hq
          simp only
          omega
      by_cases hdx : s.done.getD x 0 = s.member
      · refine ⟨{ s with stack := cs ++ [(v, e + 1)], latest := s.latest.set v (max (s.latest.getD v 0) (s.latest.getD x 0)) }, ?_, ⟨h.ls, h.lf, h.ld, by simpa using h.ll, hst, by simp only [List.length_append, List.length_cons, List.length_nil]; omega⟩, ?_, rfl, rfl, rfl⟩
        · unfold rstepP
          simp only [hc, getLast_concat, e1, e2, if_neg hnv, if_neg he, List.dropLast_concat, e3, e6, e7, if_pos hdx]
        · unfold rmu
          simp only
          omega
      · have h' : RI d E { s with stack := cs ++ [(v, e + 1)] } := ⟨h.ls, h.lf, h.ld, h.ll, hst, by simp only [List.length_append, List.length_cons, List.length_nil]; omega⟩
        obtain ⟨s', g1, g2, g3, g4, g5, g6, g7⟩ := h'.enter D hx hdx
        refine ⟨s', ?_, g2, ?_, g5, g6, g7⟩
        · unfold rstepP
          simp only [hc, getLast_concat, e1, e2, if_neg hnv, if_neg he, List.dropLast_concat, e3, e6, e7, if_neg hdx]
          exact g1
        · have hdeg := (pair_get D.s2 (x + 1)).1
          simp only at g3 g4
          unfold rmu
          rw [g4, csum_append, csum_one, ← hm1, ← g3, Nat.add_mul]
          simp only
          omega

theorem RI.loop {d : DG} {E p : Nat} (D : DW d E p) : ∀ (n : Nat) (s : WS), RI d E s → rmu d s < n →
    ∃ s', rloopP d n s = some s' ∧ RI d E s' ∧ s'.stack = [] ∧ s'.member = s.member ∧ s'.seen = s.seen ∧ s'.first = s.first
  | 0, _, _, h => by omega
  | n + 1, s, h, hm => by
    by_cases hc : s.stack = []
    · exact ⟨s, by rw [rloopP, if_pos hc], h, hc, rfl, rfl, rfl⟩
    · obtain ⟨s1, h1, h2, h3, h4, h5, h6⟩ := h.step D hc
      obtain ⟨s2, g1, g2, g3, g4, g5, g6⟩ := RI.loop D n s1 h2 (by omega)
      exact ⟨s2, by rw [rloopP, if_neg hc, h1]; exact g1, g2, g3, g4.trans h4, g5.trans h5, g6.trans h6⟩

theorem reachP_some {d : DG} {E p : Nat} (D : DW d E p) (fuel : Nat) (hf : 10000000000000 ≤ fuel) {s : WS} (h : RI d E s) (hs : s.stack = []) {n : Nat} (hn : n < d.nextFrom.length - 1) :
    ∃ r, reachP d fuel s n = some r ∧ RI d E r.1 ∧ r.1.stack = [] ∧ r.1.member = s.member ∧ r.1.seen = s.seen ∧ r.1.first = s.first := by
  have e1 : s.done[n]? = some (s.done.getD n 0) := get_of_lt _ _ _ (by rw [h.ld]; exact hn)
  have e2 : s.latest[n]? = some (s.latest.getD n 0) := get_of_lt _ _ _ (by rw [h.ll]; exact hn)
  unfold reachP
  simp only [e1, e2]
  by_cases hd : s.done.getD n 0 = s.member
  · rw [if_pos hd]
    exact ⟨_, rfl, h, hs, rfl, rfl, rfl⟩
  · rw [if_neg hd]
    obtain ⟨s1, g1, g2, g3, g4, g5, g6, g7⟩ := h.enter D hn hd
    have hmu : rmu d s1 < fuel := by
      have hsl := h.sl
      have hxb := D.xb
      have hnb := D.nb
      have hdeg := (pair_get D.s2 (n + 1)).1
      unfold rmu
      rw [g4, hs, List.nil_append, csum_one]
      simp only
      have : s1.done.countP (· ≠ s1.member) * (d.next.length + 2) ≤ 100000 * 10000002 := Nat.mul_le_mul (by omega) (by omega)
      omega
    obtain ⟨s2, f1, f2, f3, f4, f5, f6⟩ := RI.loop D fuel s1 g2 hmu
    rw [g1]
    simp only [Option.bind_some]
    rw [f1]
    simp only [Option.bind_some]
    rw [get_of_lt s2.latest n 0 (by rw [f2.ll]; exact hn)]
    exact ⟨_, rfl, f2, f3, f4.trans g5, f5.trans g6, f6.trans g7⟩

theorem beforeP_some {d : DG} {E p : Nat} (D : DW d E p) (fuel : Nat) (hf : 10000000000000 ≤ fuel) : ∀ (ps : List Nat) (s : WS) (z : Int), RI d E s → s.stack = [] → (∀ q ∈ ps, q < p) →
    ∃ r, beforeP d fuel ps s z = some r ∧ RI d E r.1 ∧ r.1.stack = [] ∧ r.1.member = s.member ∧ r.1.seen = s.seen ∧ r.1.first = s.first
  | [], s, z, h, hs, _ => ⟨_, rfl, h, hs, rfl, rfl, rfl⟩
  | q :: ps, s, z, h, hs, hp => by
    have hq := hp q (by simp)
    have e1 : d.pastNode[q]? = some (d.pastNode.getD q 0) := get_of_lt _ _ _ (by rw [D.pl]; exact hq)
    obtain ⟨r, g1, g2, g3, g4, g5, g6⟩ := reachP_some D fuel hf h hs (D.pn _ (List.mem_of_getElem? e1))
    obtain ⟨r2, f1, f2, f3, f4, f5, f6⟩ := beforeP_some D fuel hf ps r.1 (max z r.2) g2 g3 (fun x hx => hp x (by simp [hx]))
    refine ⟨r2, ?_, f2, f3, f4.trans g4, f5.trans g5, f6.trans g6⟩
    rw [beforeP, e1]
    simp only
    rw [g1]
    simp only [Option.bind_some]
    exact f1
end Go.Proofs.Ybulkbewa
