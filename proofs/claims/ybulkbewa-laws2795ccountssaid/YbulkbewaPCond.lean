/- condense is safe: its plain text never fails on what the lines leave. -/
import Derived.Test.YbulkbewaPTar
import Derived.Test.YbulkbewaCondPlain
namespace Go.Proofs.Ybulkbewa

structure CW (evs : List EV) (ps : List PastP) (inp : List Nat) : Prop where
  ne : evs.length ≤ 5
  np : ps.length ≤ 1024
  ni : inp.length ≤ 1024
  ep : ∀ ev ∈ evs, ∀ p ∈ ev.pasts, p < ps.length
  et : (evs.map (·.pasts.length)).sum ≤ 1024
  pp : ∀ p ∈ ps, p.lo < p.hi ∧ p.hi ≤ inp.length ∧ p.prev < (ps.length : Int)
  pt : (ps.map fun p => p.hi - p.lo).sum ≤ 1024
  ie : ∀ x ∈ inp, x < evs.length

structure FT (M : Nat) (a : List Nat × List Nat) : Prop where
  srt : (a.1 ++ [a.2.length]).Pairwise (· ≤ ·)
  inb : ∀ x ∈ a.2, x < M

theorem FT.push {M : Nat} {a : List Nat × List Nat} (h : FT M a) (l : List Nat) (hl : ∀ x ∈ l, x < M) : FT M (a.1 ++ [a.2.length], a.2 ++ l) := by
  refine ⟨?_, fun x hx => ?_⟩
  · rw [List.pairwise_append]
    refine ⟨h.srt, by simp, fun x hx y hy => ?_⟩
    simp at hy
    subst hy
    rcases List.mem_append.1 hx with hx | hx
    · have := (List.pairwise_append.1 h.srt).2.2 x hx a.2.length (by simp)
      omega
    · simp at hx
      omega
  · rcases List.mem_append.1 hx with hx | hx
    · exact h.inb x hx
    · exact hl x hx

theorem evP_some (M n : Nat) : ∀ (evs : List EV) (a : List Nat × List Nat), FT M a → a.1.length + evs.length ≤ 100000 → a.2.length + (evs.map (·.pasts.length)).sum ≤ 100000 → (∀ ev ∈ evs, ∀ p ∈ ev.pasts, n + p < M) → M ≤ 100000 →
    ∃ a', evP n evs a = some a' ∧ FT M a' ∧ a'.1.length = a.1.length + evs.length ∧ a'.2.length = a.2.length + (evs.map (·.pasts.length)).sum
  | [], a, h, _, _, _, _ => ⟨a, rfl, h, by simp, by simp⟩
  | ev :: evs, a, h, h1, h2, h3, h4 => by
    simp only [List.map_cons, List.sum_cons, List.length_cons] at h1 h2 ⊢
    obtain ⟨a', g1, g2, g3, g4⟩ := evP_some M n evs (a.1 ++ [a.2.length], a.2 ++ ev.pasts.map (n + ·)) (h.push _ (fun x hx => by
      obtain ⟨p, hp, rfl⟩ := List.mem_map.1 hx
      exact h3 ev (by simp) p hp)) (by simp; omega) (by simp; omega) (fun e he => h3 e (by simp [he])) h4
    refine ⟨a', ?_, g2, by rw [g3]; simp; omega, by rw [g4]; simp; omega⟩
    rw [evP, if_pos ⟨by unfold big; omega, by unfold big; omega, fun p hp => by have := h3 ev (by simp) p hp; unfold big; omega⟩]
    exact g1

theorem pastsP_some (M n : Nat) (inp : List Nat) : ∀ (ps : List PastP) (a : List Nat × List Nat), FT M a → a.1.length + ps.length ≤ 100000 → a.2.length + ps.length + (ps.map fun p => p.hi - p.lo).sum ≤ 100000 →
    (∀ p ∈ ps, p.lo < p.hi ∧ p.hi ≤ inp.length ∧ n + p.prev < (M : Int)) → (∀ x ∈ inp, x < M) → M ≤ 100000 →
    ∃ a', pastsP n inp ps a = some a' ∧ FT M a' ∧ a'.1.length = a.1.length + ps.length ∧ a'.2.length ≤ a.2.length + ps.length + (ps.map fun p => p.hi - p.lo).sum
  | [], a, h, _, _, _, _, _ => ⟨a, rfl, h, by simp, by simp⟩
  | p :: ps, a, h, h1, h2, h3, h4, h5 => by
    simp only [List.map_cons, List.sum_cons, List.length_cons] at h1 h2 ⊢
    obtain ⟨q1, q2, q3⟩ := h3 p (by simp)
    have hl : (prevP n p ++ (inp.drop p.lo).take (p.hi - p.lo)).length ≤ 1 + (p.hi - p.lo) := by
      unfold prevP
      split <;> simp <;> omega
    obtain ⟨a', g1, g2, g3, g4⟩ := pastsP_some M n inp ps (a.1 ++ [a.2.length], a.2 ++ (prevP n p ++ (inp.drop p.lo).take (p.hi - p.lo))) (h.push _ (fun x hx => by
      rcases List.mem_append.1 hx with hx | hx
      · unfold prevP at hx
        split at hx
        · simp at hx; omega
        · cases hx
      · exact h4 x (List.mem_of_mem_drop (List.mem_of_mem_take hx)))) (by simp; omega) (by rw [List.length_append] ; omega) (fun e he => h3 e (by simp [he])) h4 h5
    refine ⟨a', ?_, g2, by rw [g3]; simp; omega, by rw [List.length_append] at g4; omega⟩
    rw [pastsP, if_pos ⟨q1, q2, by unfold big; omega, by unfold big; omega, by omega⟩, List.append_assoc]
    exact g1

theorem FT.graph {M : Nat} {a : List Nat × List Nat} (h : FT M a) (hM : a.1.length = M) (hM2 : M < 100000) (ht : a.2.length ≤ 100000) : GW (a.1 ++ [a.2.length]) a.2 := by
  have hel : ∀ x ∈ a.1 ++ [a.2.length], x ≤ a.2.length := fun x hx => by
    rcases List.mem_append.1 hx with hx | hx
    · exact (List.pairwise_append.1 h.srt).2.2 x hx a.2.length (by simp)
    · simp at hx; omega
  refine ⟨by simp, fun v hv => ?_, fun v => ?_, fun x hx => ?_, by simp; omega, ht⟩
  · have h1 : v < (a.1 ++ [a.2.length]).length := by omega
    have h2 : v + 1 < (a.1 ++ [a.2.length]).length := by omega
    have := List.pairwise_iff_getElem.1 h.srt v (v + 1) h1 h2 (by omega)
    rw [List.getD_eq_getElem?_getD, List.getD_eq_getElem?_getD, List.getElem?_eq_getElem h1, List.getElem?_eq_getElem h2]
    exact this
  · by_cases h1 : v < (a.1 ++ [a.2.length]).length
    · rw [List.getD_eq_getElem?_getD, List.getElem?_eq_getElem h1]
      exact hel _ (List.getElem_mem h1)
    · rw [List.getD_eq_getElem?_getD, List.getElem?_eq_none (by omega)]
      simp
  · have := h.inb x hx
    simp
    omega

theorem toNats_some : ∀ (l : List Int), (∀ x ∈ l, 0 ≤ x) → ∃ m, toNats l = some m ∧ m.map (fun x : Nat => (x : Int)) = l
  | [], _ => ⟨[], rfl, rfl⟩
  | c :: cs, h => by
    obtain ⟨m, h1, h2⟩ := toNats_some cs (fun x hx => h x (by simp [hx]))
    have hc := h c (by simp)
    refine ⟨c.toNat :: m, ?_, ?_⟩
    · rw [toNats, if_pos hc, h1]; rfl
    · rw [List.map_cons, h2, Int.toNat_of_nonneg hc]

theorem countP_some : ∀ (cs st : List Nat), (∀ c ∈ cs, c + 1 < st.length) → (∀ i, st.getD i 0 + cs.length < big) →
    ∃ st', countP cs st = some st' ∧ st'.length = st.length ∧ st'.getD 0 0 = st.getD 0 0 ∧ ∀ c, c + 1 < st.length → st'.getD (c + 1) 0 = st.getD (c + 1) 0 + cs.count c
  | [], st, _, _ => ⟨st, rfl, rfl, rfl, fun c _ => by simp⟩
  | c :: cs, st, h1, h2 => by
    have hc := h1 c (by simp)
    have e1 : st[c + 1]? = some (st.getD (c + 1) 0) := get_of_lt _ _ _ hc
    have hb := h2 (c + 1)
    simp only [List.length_cons] at h2 hb
    obtain ⟨st', g1, g2, g3, g4⟩ := countP_some cs (st.set (c + 1) (st.getD (c + 1) 0 + 1)) (fun x hx => by rw [List.length_set]; exact h1 x (by simp [hx])) (fun i => by
      rw [getD_set _ _ _ _ _ hc]
      have := h2 i
      split <;> omega)
    refine ⟨st', ?_, by rw [g2, List.length_set], ?_, fun x hx => ?_⟩
    · rw [countP, e1]
      simp only
      rw [if_pos (by omega)]
      exact g1
    · rw [g3, getD_set _ _ _ _ _ hc, if_neg (by omega)]
    · rw [g4 x (by rw [List.length_set]; exact hx), getD_set _ _ _ _ _ hc, List.count_cons]
      by_cases hxc : x = c
      · subst hxc; simp; omega
      · rw [if_neg (by omega), if_neg (by simp; omega)]; omega

theorem countP_lt_succ (l : List Nat) (i : Nat) : l.countP (· < i + 1) = l.countP (· < i) + l.count i := by
  induction l with
  | nil => rfl
  | cons a l ih =>
    simp only [List.countP_cons, List.count_cons, ih, beq_iff_eq, decide_eq_true_eq]
    split <;> split <;> split <;> omega

theorem sumP_some (comp : List Nat) (hb : comp.length < big) : ∀ (k c : Nat) (st : List Nat), c + k + 1 = st.length → (∀ i, i ≤ c → st.getD i 0 = comp.countP (· < i)) → (∀ i, c ≤ i → i + 1 < st.length → st.getD (i + 1) 0 = comp.count i) →
    ∃ st', sumP k c st = some st' ∧ st'.length = st.length ∧ ∀ i, i < st.length → st'.getD i 0 = comp.countP (· < i)
  | 0, c, st, h1, h2, _ => ⟨st, rfl, rfl, fun i hi => h2 i (by omega)⟩
  | k + 1, c, st, h1, h2, h3 => by
    have e1 : st[c]? = some (st.getD c 0) := get_of_lt _ _ _ (by omega)
    have e2 : st[c + 1]? = some (st.getD (c + 1) 0) := get_of_lt _ _ _ (by omega)
    have hc1 : c + 1 < st.length := by omega
    have hv : st.getD (c + 1) 0 + st.getD c 0 = comp.countP (· < c + 1) := by
      rw [h2 c (Nat.le_refl _), h3 c (Nat.le_refl _) hc1, countP_lt_succ]; omega
    obtain ⟨st', g1, g2, g3⟩ := sumP_some comp hb k (c + 1) (st.set (c + 1) (st.getD (c + 1) 0 + st.getD c 0)) (by rw [List.length_set]; omega) (fun i hi => by
      rw [getD_set _ _ _ _ _ hc1]
      split
      · next he => subst he; exact hv
      · exact h2 i (by omega)) (fun i hi hi2 => by
      rw [List.length_set] at hi2
      rw [getD_set _ _ _ _ _ hc1, if_neg (by omega)]
      exact h3 i (by omega) hi2)
    refine ⟨st', ?_, by rw [g2, List.length_set], fun i hi => g3 i (by rw [List.length_set]; exact hi)⟩
    rw [sumP, e1, e2]
    simp only
    rw [if_pos (by rw [hv]; exact Nat.lt_of_le_of_lt List.countP_le_length hb)]
    exact g1

theorem placeP_some (comp : List Nat) (m : Nat) (hm : ∀ c ∈ comp, c < m) : ∀ (cs : List Nat) (v : Nat) (a : List Nat × List Nat), a.1.length = comp.length → a.2.length = m → v + cs.length = comp.length → (∀ c ∈ cs, c < m) →
    (∀ c, c < m → a.2.getD c 0 + cs.count c ≤ comp.countP (· < c + 1)) → (∀ x ∈ a.1, x < comp.length) →
    ∃ b, placeP cs v a = some b ∧ b.1.length = comp.length ∧ ∀ x ∈ b.1, x < comp.length
  | [], v, a, h1, _, _, _, _, h6 => ⟨a, rfl, h1, h6⟩
  | c :: cs, v, a, h1, h2, h3, h4, h5, h6 => by
    have hc := h4 c (by simp)
    have e1 : a.2[c]? = some (a.2.getD c 0) := get_of_lt _ _ _ (by omega)
    have h7 := h5 c hc
    rw [List.count_cons] at h7
    simp only [beq_self_eq_true, if_true] at h7
    have h8 : comp.countP (· < c + 1) ≤ comp.length := List.countP_le_length
    simp only [List.length_cons] at h3
    obtain ⟨b, g1, g2, g3⟩ := placeP_some comp m hm cs (v + 1) (a.1.set (a.2.getD c 0) v, a.2.set c (a.2.getD c 0 + 1)) (by simp [h1]) (by simp [h2]) (by omega) (fun x hx => h4 x (by simp [hx])) (fun x hx => by
      simp only
      rw [getD_set _ _ _ _ _ (by omega)]
      have := h5 x hx
      rw [List.count_cons] at this
      split
      · next he => subst he; simp at this; omega
      · next he => rw [if_neg (by simp; omega)] at this; omega) (fun x hx => by
      rcases List.mem_or_eq_of_mem_set hx with hx | hx
      · exact h6 x hx
      · omega)
    refine ⟨b, ?_, g2, g3⟩
    rw [placeP, e1]
    simp only
    rw [if_pos (by omega)]
    exact g1

structure LW (m n : Nat) (k : LK) : Prop where
  l : k.linked.length = m
  e : ∀ x ∈ k.events, x < n
  x : ∀ x ∈ k.next, x < m

theorem edgesP_some (comp : List Nat) (node m n : Nat) (hm : ∀ c ∈ comp, c < m) : ∀ (xs : List Nat) (k : LK), LW m n k → (∀ x ∈ xs, x < comp.length) → k.next.length + xs.length < big →
    ∃ k', edgesP comp node xs k = some k' ∧ LW m n k' ∧ k'.events = k.events ∧ k'.eventsFrom = k.eventsFrom ∧ k'.nextFrom = k.nextFrom ∧ k.next.length ≤ k'.next.length ∧ k'.next.length ≤ k.next.length + xs.length
  | [], k, h, _, _ => ⟨k, rfl, h, rfl, rfl, rfl, Nat.le_refl _, by simp⟩
  | x :: xs, k, h, h1, h2 => by
    have hx := h1 x (by simp)
    have e1 : comp[x]? = some (comp.getD x 0) := get_of_lt _ _ _ hx
    have hc : comp.getD x 0 < m := hm _ (List.mem_of_getElem? e1)
    generalize comp.getD x 0 = c at e1 hc
    have e2 : k.linked[c]? = some (k.linked.getD c 0) := get_of_lt _ _ _ (by rw [h.l]; exact hc)
    simp only [List.length_cons] at h2 ⊢
    rw [edgesP, e1]
    simp only
    rw [e2]
    simp only
    rw [if_pos (by omega)]
    by_cases hp : c ≠ node ∧ k.linked.getD c 0 ≠ node + 1
    · rw [if_pos hp]
      obtain ⟨k', g1, g2, g3, g4, g5, g6, g7⟩ := edgesP_some comp node m n hm xs { k with linked := k.linked.set c (node + 1), next := k.next ++ [c] } ⟨by simpa using h.l, h.e, fun y hy => by
        rcases List.mem_append.1 hy with hy | hy
        · exact h.x y hy
        · simp at hy; omega⟩ (fun y hy => h1 y (by simp [hy])) (by simp; omega)
      simp only [List.length_append, List.length_cons, List.length_nil] at g6 g7
      exact ⟨k', g1, g2, g3, g4, g5, by omega, by omega⟩
    · rw [if_neg hp]
      obtain ⟨k', g1, g2, g3, g4, g5, g6, g7⟩ := edgesP_some comp node m n hm xs k h (fun y hy => h1 y (by simp [hy])) (by omega)
      exact ⟨k', g1, g2, g3, g4, g5, g6, by omega⟩

theorem vertsP_some {fr to comp : List Nat} (G : GW fr to) (n node m : Nat) (hm : ∀ c ∈ comp, c < m) (hl : comp.length = fr.length - 1) : ∀ (vs : List Nat) (k : LK), LW m n k → (∀ v ∈ vs, v < fr.length - 1) → k.events.length + vs.length < big → k.next.length + vs.length * to.length < big →
    ∃ k', vertsP fr to comp n node vs k = some k' ∧ LW m n k' ∧ k'.eventsFrom = k.eventsFrom ∧ k'.nextFrom = k.nextFrom ∧ k.events.length ≤ k'.events.length ∧ k'.events.length ≤ k.events.length + vs.length ∧ k.next.length ≤ k'.next.length ∧ k'.next.length ≤ k.next.length + vs.length * to.length
  | [], k, h, _, _, _ => ⟨k, rfl, h, rfl, rfl, Nat.le_refl _, by simp, Nat.le_refl _, by simp⟩
  | v :: vs, k, h, h1, h2, h3 => by
    have hv := h1 v (by simp)
    have e1 : fr[v]? = some (fr.getD v 0) := get_of_lt _ _ _ (by omega)
    have e2 : fr[v + 1]? = some (fr.getD (v + 1) 0) := get_of_lt _ _ _ (by omega)
    have hmn := G.mono v hv
    have htp := G.top (v + 1)
    simp only [List.length_cons, Nat.add_mul, Nat.one_mul] at h2 h3 ⊢
    have hvk : LW m n (vertP n v k) := by
      unfold vertP
      split
      · exact ⟨h.l, fun y hy => by
          rcases List.mem_append.1 hy with hy | hy
          · exact h.e y hy
          · simp at hy; omega, h.x⟩
      · exact h
    have hv1 : (vertP n v k).next = k.next ∧ (vertP n v k).eventsFrom = k.eventsFrom ∧ (vertP n v k).nextFrom = k.nextFrom ∧ k.events.length ≤ (vertP n v k).events.length ∧ (vertP n v k).events.length ≤ k.events.length + 1 := by
      unfold vertP
      split
      · simp
      · exact ⟨rfl, rfl, rfl, Nat.le_refl _, by omega⟩
    obtain ⟨v1, v2, v3, v4, v5⟩ := hv1
    have hlen : ((to.drop (fr.getD v 0)).take (fr.getD (v + 1) 0 - fr.getD v 0)).length ≤ to.length := by simp; omega
    obtain ⟨k1, g1, g2, g3, g4, g5, g6, g7⟩ := edgesP_some comp node m n hm ((to.drop (fr.getD v 0)).take (fr.getD (v + 1) 0 - fr.getD v 0)) (vertP n v k) hvk (fun x hx => by
      rw [hl]
      exact G.inb x (List.mem_of_mem_drop (List.mem_of_mem_take hx))) (by rw [v1]; omega)
    rw [v1] at g6 g7
    rw [g3.symm] at v4 v5
    obtain ⟨k2, f1, f2, f3, f4, f5, f6, f7, f8⟩ := vertsP_some G n node m hm hl vs k1 g2 (fun y hy => h1 y (by simp [hy])) (by omega) (by omega)
    refine ⟨k2, ?_, f2, by rw [f3, g4, v2], by rw [f4, g5, v3], by omega, by omega, by omega, by omega⟩
    rw [vertsP, e1, e2]
    simp only
    rw [if_pos ⟨hmn, htp, by omega⟩, g1]
    exact f1

structure NW (m n : Nat) (k : LK) : Prop where
  w : LW m n k
  s1 : (k.eventsFrom ++ [k.events.length]).Pairwise (· ≤ ·)
  s2 : (k.nextFrom ++ [k.next.length]).Pairwise (· ≤ ·)

theorem pair_le_last {l : List Nat} {a b : Nat} (h : (l ++ [a]).Pairwise (· ≤ ·)) (hab : a ≤ b) : (l ++ [a] ++ [b]).Pairwise (· ≤ ·) := by
  rw [List.pairwise_append]
  refine ⟨h, by simp, fun x hx y hy => ?_⟩
  simp at hy
  subst hy
  rcases List.mem_append.1 hx with hx | hx
  · have := (List.pairwise_append.1 h).2.2 x hx a (by simp)
    omega
  · simp at hx; omega
theorem pair_up {l : List Nat} {a b : Nat} (h : (l ++ [a]).Pairwise (· ≤ ·)) (hab : a ≤ b) : (l ++ [b]).Pairwise (· ≤ ·) := by
  rw [List.pairwise_append] at h ⊢
  refine ⟨h.1, by simp, fun x hx y hy => ?_⟩
  simp at hy
  subst hy
  have := h.2.2 x hx a (by simp)
  omega

theorem nodesP_some {fr to comp byNode start : List Nat} (G : GW fr to) (n m : Nat) (hm : ∀ c ∈ comp, c < m) (hl : comp.length = fr.length - 1) (hbl : byNode.length = comp.length) (hb : ∀ v ∈ byNode, v < fr.length - 1)
    (hsl : start.length = m + 1) (hs : ∀ i, i < m + 1 → start.getD i 0 = comp.countP (· < i)) (hbig : fr.length * to.length < big) (hmb : m < 100000) : ∀ (j node : Nat) (k : LK), node + j = m → NW m n k → k.eventsFrom.length = node + 1 → k.nextFrom.length = node + 1 → k.events.length ≤ comp.countP (· < node) → k.next.length ≤ comp.countP (· < node) * to.length →
    ∃ k', nodesP fr to comp byNode start n j node k = some k' ∧ NW m n k' ∧ k'.eventsFrom.length = m + 1 ∧ k'.nextFrom.length = m + 1 ∧ k'.next.length ≤ fr.length * to.length
  | 0, node, k, h1, h2, h3, h4, h5, h6 => ⟨k, rfl, h2, by omega, by omega, by
      have : comp.countP (· < node) ≤ comp.length := List.countP_le_length
      exact Nat.le_trans h6 (Nat.mul_le_mul_right _ (by omega))⟩
  | j + 1, node, k, h1, h2, h3, h4, h5, h6 => by
    have e1 : start[node]? = some (comp.countP (· < node)) := by rw [← hs node (by omega)]; exact get_of_lt _ _ _ (by omega)
    have e2 : start[node + 1]? = some (comp.countP (· < node + 1)) := by rw [← hs (node + 1) (by omega)]; exact get_of_lt _ _ _ (by omega)
    have hle : comp.countP (· < node + 1) ≤ comp.length := List.countP_le_length
    have hsucc := countP_lt_succ comp node
    have hfb := G.fb
    generalize comp.countP (· < node) = A at e1 h5 h6 hsucc
    generalize hB : comp.countP (· < node + 1) = B at e2 hle hsucc
    have hAB : A ≤ B := by omega
    have hlen : ((byNode.drop A).take (B - A)).length = B - A := by simp; omega
    have hBf : B * to.length ≤ fr.length * to.length := Nat.mul_le_mul_right _ (by omega)
    have hBA : A * to.length + (B - A) * to.length = B * to.length := by rw [← Nat.add_mul]; congr 1; omega
    have hbg : big = 1000000000 := rfl
    obtain ⟨k1, g1, g2, g3, g4, g5, g6, g7, g8⟩ := vertsP_some G n node m hm hl ((byNode.drop A).take (B - A)) k h2.w (fun v hv => hb v (List.mem_of_mem_drop (List.mem_of_mem_take hv))) (by omega) (by rw [hlen]; omega)
    rw [hlen] at g6 g8
    obtain ⟨k2, f1, f2⟩ := nodesP_some G n m hm hl hbl hb hsl hs hbig hmb j (node + 1) (closeP k1) (by omega) ⟨⟨g2.l, g2.e, g2.x⟩, by
        unfold closeP
        simp only
        rw [g3]
        exact pair_le_last (pair_up h2.s1 g5) (Nat.le_refl _), by
        unfold closeP
        simp only
        rw [g4]
        exact pair_le_last (pair_up h2.s2 g7) (Nat.le_refl _)⟩ (by unfold closeP; simp [g3, h3]) (by unfold closeP; simp [g4, h4]) (by unfold closeP; simp only; rw [hB]; omega) (by unfold closeP; simp only; rw [hB]; omega)
    refine ⟨k2, ?_, f2⟩
    rw [nodesP, e1, e2]
    simp only
    rw [if_pos ⟨hAB, by omega, by omega, by omega⟩, g1]
    exact f1

/-- what the walks need of the dag -/
structure DW (d : DG) (n p : Nat) : Prop where
  le : d.eventsFrom.length = d.nextFrom.length
  pos : 0 < d.nextFrom.length
  nb : d.nextFrom.length ≤ 100000
  xb : d.next.length ≤ 10000000
  s1 : (d.eventsFrom ++ [d.events.length]).Pairwise (· ≤ ·)
  s2 : (d.nextFrom ++ [d.next.length]).Pairwise (· ≤ ·)
  e : ∀ x ∈ d.events, x < n
  x : ∀ x ∈ d.next, x < d.nextFrom.length - 1
  pl : d.pastNode.length = p
  pn : ∀ x ∈ d.pastNode, x < d.nextFrom.length - 1

theorem condP_some {evs : List EV} {ps : List PastP} {inp : List Nat} (h : CW evs ps inp) (fuel : Nat) (hf : 10000000 ≤ fuel) : ∃ d, condP evs ps inp fuel = some d ∧ DW d evs.length ps.length := by
  obtain ⟨h1, h2, h3, h4, h5, h6, h7, h8⟩ := h
  obtain ⟨M, hM⟩ : ∃ M, M = evs.length + ps.length := ⟨_, rfl⟩
  obtain ⟨a0, a1, a2, a3, a4⟩ := evP_some M evs.length evs ([], []) ⟨by simp, by simp⟩ (by simp; omega) (by simp only [List.length_nil]; omega) (fun ev he p hp => by have := h4 ev he p hp; omega) (by omega)
  obtain ⟨b0, b1, b2, b3, b4⟩ := pastsP_some M evs.length inp ps a0 a2 (by rw [a3]; simp; omega) (by rw [a4]; simp only [List.length_nil]; omega) (fun p hp => by have := h6 p hp; omega) (fun x hx => by have := h8 x hx; omega) (by omega)
  simp only [List.length_nil, Nat.zero_add] at a3 a4
  have hbl : b0.1.length = M := by omega
  have htl : b0.2.length ≤ 4000 := by omega
  have G := b2.graph hbl (by omega) (by omega)
  have hfl : (b0.1 ++ [b0.2.length]).length = M + 1 := by simp [hbl]
  have hprod : (M + 1) * (b0.2.length + 2) ≤ 1030 * 4002 := Nat.mul_le_mul (by omega) (by omega)
  obtain ⟨sf, c1, c2, c3, c4⟩ := compP_some G fuel (by rw [hfl]; omega)
  rw [hfl, Nat.add_sub_cancel] at c2 c3 c4
  obtain ⟨comp, d1, d2⟩ := toNats_some sf.comp (fun x hx => by
    obtain ⟨i, hi, rfl⟩ := List.getElem_of_mem hx
    have := (c4 i (by omega)).1
    rw [List.getD_eq_getElem?_getD, List.getElem?_eq_getElem hi] at this
    exact this)
  have hcl : comp.length = M := by rw [← c2, ← d2]; simp
  have hcm : ∀ c ∈ comp, c < sf.cnt := fun c hc => by
    obtain ⟨i, hi, rfl⟩ := List.getElem_of_mem hc
    have := (c4 i (by omega)).2
    rw [← d2, List.getD_eq_getElem?_getD, List.getElem?_map, List.getElem?_eq_getElem hi] at this
    simpa using this
  have hbg : big = 1000000000 := rfl
  obtain ⟨st0, k1, k2, k3, k4⟩ := countP_some comp (List.replicate (sf.cnt + 1) 0) (fun c hc => by have := hcm c hc; simp; omega) (fun i => by rw [getD_replicate_zero]; omega)
  rw [List.length_replicate] at k2 k4
  obtain ⟨start, l1, l2, l3⟩ := sumP_some comp (by omega) sf.cnt 0 st0 (by omega) (fun i hi => by
    have : i = 0 := by omega
    subst this
    rw [k3, getD_replicate_zero]
    simp) (fun i _ hi => by
    rw [k4 i (by omega), getD_replicate_zero, Nat.zero_add])
  obtain ⟨bp, p1, p2, p3⟩ := placeP_some comp sf.cnt hcm comp 0 (List.replicate comp.length 0, start.take sf.cnt) (by simp) (by simp [l2, k2]) (by simp) hcm (fun c hc => by
    simp only
    have : (start.take sf.cnt).getD c 0 = start.getD c 0 := by
      rw [List.getD_eq_getElem?_getD, List.getD_eq_getElem?_getD, List.getElem?_take, if_pos hc]
    rw [this, l3 c (by omega), countP_lt_succ]
    exact Nat.le_refl _) (fun x hx => by
    simp only at hx
    obtain ⟨h9, rfl⟩ := List.mem_replicate.1 hx
    omega)
  have hprod2 : (M + 1) * b0.2.length ≤ 1030 * 4000 := Nat.mul_le_mul (by omega) (by omega)
  obtain ⟨k, q1, q2, q3, q4, q5⟩ := nodesP_some (byNode := bp.1) (start := start) G evs.length sf.cnt hcm (by rw [hfl]; omega) p2 (fun v hv => by have := p3 v hv; rw [hfl]; omega) (by omega) (fun i hi => l3 i (by omega)) (by rw [hfl]; omega) (by omega) sf.cnt 0
    { linked := List.replicate sf.cnt 0, events := [], eventsFrom := [0], next := [], nextFrom := [0] } (by omega) ⟨⟨by simp, by simp, by simp⟩, by simp, by simp⟩ rfl rfl (by simp) (by simp)
  refine ⟨{ pastNode := comp.drop evs.length, events := k.events, eventsFrom := k.eventsFrom, next := k.next, nextFrom := k.nextFrom }, ?_, ?_⟩
  · unfold condP
    rw [if_pos ⟨by omega, by omega⟩, a1]
    simp only
    rw [b1]
    simp only
    rw [if_pos ⟨by omega, by omega⟩, c1]
    simp only
    rw [d1]
    simp only
    rw [if_pos ⟨by omega, by omega, by omega⟩, k1]
    simp only
    rw [l1]
    simp only
    rw [p1]
    simp only
    rw [q1]
    rfl
  · rw [hfl] at q5
    exact ⟨by simp only; omega, by simp only; omega, by simp only; omega, by simp only; omega, q2.s1, q2.s2, q2.w.e, fun x hx => by have := q2.w.x x hx; simp only; omega, by simp; omega, fun x hx => by
      have := hcm x (List.mem_of_mem_drop hx)
      simp only
      omega⟩
end Go.Proofs.Ybulkbewa
