/- the lines: what the Checker holds behind them (plain). -/
import Derived.Test.YbulkbewaPJudge
import Derived.Test.YbulkbewaAdd
namespace Go.Proofs.Ybulkbewa

structure KI (K : KS) (n : Nat) (M E : Int → Prop) (D : Int → Int → Prop) (len dl : Int → Nat) (bc : Int → Prop) : Prop where
  mi : ∀ z, z ∈ K.mem.map (·.id) ↔ M z
  mn : (K.mem.map (·.id)).Nodup
  ei : ∀ z, z ∈ K.evs.map (·.id) ↔ E z
  en : (K.evs.map (·.id)).Nodup
  ml : ∀ (i : Nat) (mb : MB), K.mem[i]? = some mb → mb.dv.length = len mb.id ∧ mb.dv.length ≤ n
  md : ∀ (i : Nat) (mb : MB), K.mem[i]? = some mb → ∀ (e : Nat) (ev : EV), K.evs[e]? = some ev → (e ∈ mb.dv ↔ D mb.id ev.id)
  mx : ∀ (i : Nat) (mb : MB), K.mem[i]? = some mb → (∀ e ∈ mb.dv, e < K.evs.length) ∧ (∀ e ∈ mb.since, e < K.evs.length) ∧ mb.past < (K.pasts.length : Int)
  ed : ∀ (i : Nat) (ev : EV), K.evs[i]? = some ev → ev.dl = dl ev.id ∧ (ev.bc = true ↔ bc ev.id)
  es : (K.evs.map (·.dl)).sum ≤ n
  ix : ∀ x ∈ K.inp, x < K.evs.length
  isn : K.inp.length + (K.mem.map (·.since.length)).sum ≤ n
  ep : ∀ (i : Nat) (ev : EV), K.evs[i]? = some ev → ∀ p ∈ ev.pasts, p < K.pasts.length
  et : (K.evs.map (·.pasts.length)).sum ≤ n
  pn : K.pasts.length ≤ n
  pp : ∀ p ∈ K.pasts, p.lo < p.hi ∧ p.hi ≤ K.inp.length ∧ p.prev < (K.pasts.length : Int)
  pt : (K.pasts.map fun p => p.hi - p.lo).sum ≤ K.inp.length
  sM : ∀ z, ¬ M z → len z = 0 ∧ ∀ y, ¬ D z y
  sE : ∀ y, ¬ E y → dl y = 0 ∧ ¬ bc y ∧ ∀ z, ¬ D z y

theorem ids_inj {α : Type} {f : α → Int} {l : List α} (h : (l.map f).Nodup) {i j : Nat} {a b : α} (hi : l[i]? = some a) (hj : l[j]? = some b) (he : f a = f b) : i = j := by
  have h1 : (l.map f)[i]? = some (f a) := by simp [hi]
  have h2 : (l.map f)[j]? = some (f a) := by simp [hj, he]
  have hil : i < (l.map f).length := (List.getElem?_eq_some_iff.1 h1).1
  exact (List.getElem?_inj hil h).1 (h1.trans h2.symm)

theorem sum_set {α : Type} (f : α → Nat) : ∀ (l : List α) (i : Nat) (a b : α), l[i]? = some a → ((l.set i b).map f).sum + f a = (l.map f).sum + f b
  | x :: l, 0, a, b, h => by
    simp at h
    subst h
    simp only [List.set_cons_zero, List.map_cons, List.sum_cons]
    omega
  | x :: l, i + 1, a, b, h => by
    have := sum_set f l i a b (by simpa using h)
    simp only [List.set_cons_succ, List.map_cons, List.sum_cons]
    omega
theorem sum_get {α : Type} (f : α → Nat) : ∀ (l : List α) (i : Nat) (a : α), l[i]? = some a → f a ≤ (l.map f).sum
  | x :: l, 0, a, h => by
    simp at h
    subst h
    simp only [List.map_cons, List.sum_cons]
    omega
  | x :: l, i + 1, a, h => by
    have := sum_get f l i a (by simpa using h)
    simp only [List.map_cons, List.sum_cons]
    omega
theorem set_get {α : Type} {l : List α} {k i : Nat} {a b : α} (h : (l.set k a)[i]? = some b) : (i = k ∧ b = a ∧ k < l.length) ∨ (i ≠ k ∧ l[i]? = some b) := by
  rw [List.getElem?_set] at h
  by_cases hk : k = i
  · subst hk
    rw [if_pos rfl] at h
    split at h
    · cases h; exact .inl ⟨rfl, rfl, by assumption⟩
    · cases h
  · rw [if_neg hk] at h
    exact .inr ⟨fun e => hk e.symm, h⟩
theorem map_set_same {α : Type} {f : α → Int} {l : List α} {k : Nat} {a b : α} (h : l[k]? = some a) (hf : f b = f a) : (l.set k b).map f = l.map f := by
  rw [List.map_set, hf]
  have h1 : (l.map f)[k]? = some (f a) := by simp [h]
  apply List.ext_getElem?
  intro i
  rw [List.getElem?_set]
  split
  · next e =>
    subst e
    have := (List.getElem?_eq_some_iff.1 h1).1
    rw [if_pos this, h1]
  · rfl

theorem KI.mem {K : KS} {n : Nat} {M E : Int → Prop} {D : Int → Int → Prop} {len dl : Int → Nat} {bc : Int → Prop} (h : KI K n M E D len dl bc) (mid : Int) : KI (memP K mid) n (fun z => M z ∨ z = mid) E D len dl bc := by
  unfold memP
  by_cases hm : mid ∈ K.mem.map (·.id)
  · rw [if_pos hm]
    have hMm := (h.mi mid).1 hm
    refine ⟨fun z => ?_, h.mn, h.ei, h.en, h.ml, h.md, h.mx, h.ed, h.es, h.ix, h.isn, h.ep, h.et, h.pn, h.pp, h.pt, fun z hz => h.sM z (fun h' => hz (.inl h')), h.sE⟩
    rw [h.mi z]
    exact ⟨.inl, fun h' => h'.elim id (fun e => e ▸ hMm)⟩
  · rw [if_neg hm]
    have hMm : ¬ M mid := fun h' => hm ((h.mi mid).2 h')
    have hget : ∀ (i : Nat) (mb : MB), (K.mem ++ [⟨mid, [], -1, []⟩])[i]? = some mb → K.mem[i]? = some mb ∨ mb = ⟨mid, [], -1, []⟩ := fun i mb hi => by
      rw [List.getElem?_append] at hi
      split at hi
      · exact .inl hi
      · right
        have := List.mem_of_getElem? hi
        simpa using this
    refine ⟨fun z => ?_, ?_, h.ei, h.en, fun i mb hi => ?_, fun i mb hi e ev he => ?_, fun i mb hi => ?_, h.ed, h.es, h.ix, ?_, h.ep, h.et, h.pn, h.pp, h.pt, fun z hz => h.sM z (fun h' => hz (.inl h')), h.sE⟩
    · rw [← h.mi z]; simp
    · rw [List.map_append, List.nodup_append]
      exact ⟨h.mn, by simp, fun a ha b hb => by simp at hb; subst hb; exact fun e => hm (e ▸ ha)⟩
    · rcases hget i mb hi with h1 | rfl
      · exact h.ml i mb h1
      · simp [(h.sM mid hMm).1]
    · rcases hget i mb hi with h1 | rfl
      · exact h.md i mb h1 e ev he
      · simp [(h.sM mid hMm).2]
    · rcases hget i mb hi with h1 | rfl
      · exact h.mx i mb h1
      · simp only [List.not_mem_nil, false_imp_iff, implies_true, true_and]
        omega
    · have := h.isn
      simpa using this

theorem KI.evn {K : KS} {n : Nat} {M E : Int → Prop} {D : Int → Int → Prop} {len dl : Int → Nat} {bc : Int → Prop} (h : KI K n M E D len dl bc) (eid : Int) : KI (evnP K eid) n M (fun z => E z ∨ z = eid) D len dl bc := by
  unfold evnP
  by_cases hm : eid ∈ K.evs.map (·.id)
  · rw [if_pos hm]
    have hMm := (h.ei eid).1 hm
    refine ⟨h.mi, h.mn, fun z => ?_, h.en, h.ml, h.md, h.mx, h.ed, h.es, h.ix, h.isn, h.ep, h.et, h.pn, h.pp, h.pt, h.sM, fun z hz => h.sE z (fun h' => hz (.inl h'))⟩
    rw [h.ei z]
    exact ⟨.inl, fun h' => h'.elim id (fun e => e ▸ hMm)⟩
  · rw [if_neg hm]
    have hMm : ¬ E eid := fun h' => hm ((h.ei eid).2 h')
    have hget : ∀ (i : Nat) (ev : EV), (K.evs ++ [⟨eid, false, 0, []⟩])[i]? = some ev → K.evs[i]? = some ev ∨ (i = K.evs.length ∧ ev = ⟨eid, false, 0, []⟩) := fun i ev hi => by
      rw [List.getElem?_append] at hi
      split at hi
      · exact .inl hi
      · next hl =>
        right
        have := (List.getElem?_eq_some_iff.1 hi).1
        have h2 := List.mem_of_getElem? hi
        simp at this h2
        exact ⟨by omega, h2⟩
    have hll : (K.evs ++ [(⟨eid, false, 0, []⟩ : EV)]).length = K.evs.length + 1 := by simp
    refine ⟨h.mi, h.mn, fun z => ?_, ?_, h.ml, fun i mb hi e ev he => ?_, fun i mb hi => ?_, fun i ev hi => ?_, ?_, fun x hx => ?_, h.isn, fun i ev hi => ?_, ?_, h.pn, h.pp, h.pt, h.sM, fun z hz => h.sE z (fun h' => hz (.inl h'))⟩
    · rw [← h.ei z]; simp
    · rw [List.map_append, List.nodup_append]
      exact ⟨h.en, by simp, fun a ha b hb => by simp at hb; subst hb; exact fun e => hm (e ▸ ha)⟩
    · rcases hget e ev he with h1 | ⟨rfl, rfl⟩
      · exact h.md i mb hi e ev h1
      · constructor
        · intro h1
          have := (h.mx i mb hi).1 _ h1
          omega
        · intro h1
          exact absurd h1 ((h.sE eid hMm).2.2 _)
    · obtain ⟨h1, h2, h3⟩ := h.mx i mb hi
      simp only [hll]
      exact ⟨fun e he => by have := h1 e he; omega, fun e he => by have := h2 e he; omega, h3⟩
    · rcases hget i ev hi with h1 | ⟨_, rfl⟩
      · exact h.ed i ev h1
      · have := h.sE eid hMm
        simp [this.1, this.2.1]
    · have := h.es
      simpa using this
    · have := h.ix x hx
      simp only [hll]
      omega
    · rcases hget i ev hi with h1 | ⟨_, rfl⟩
      · exact h.ep i ev h1
      · simp
    · have := h.et
      simpa using this

/-- a line that delivers -/
theorem KI.deliver {K : KS} {n : Nat} {M E : Int → Prop} {D : Int → Int → Prop} {len dl : Int → Nat} {bc : Int → Prop} (h : KI K n M E D len dl bc) {k e : Nat} {mb : MB} {ev : EV} (hk : K.mem[k]? = some mb) (he : K.evs[e]? = some ev) :
    KI { K with evs := K.evs.set e { ev with dl := ev.dl + 1 }, mem := K.mem.set k { mb with dv := mb.dv ++ [e], since := mb.since ++ [e] } } (n + 1) M E (fun z y => D z y ∨ (z = mb.id ∧ y = ev.id)) (fun z => len z + if z = mb.id then 1 else 0) (fun y => dl y + if y = ev.id then 1 else 0) bc := by
  have hmm : (K.mem.set k { mb with dv := mb.dv ++ [e], since := mb.since ++ [e] }).map (·.id) = K.mem.map (·.id) := map_set_same hk rfl
  have hem : (K.evs.set e { ev with dl := ev.dl + 1 }).map (·.id) = K.evs.map (·.id) := map_set_same he rfl
  have hMm : M mb.id := (h.mi mb.id).1 (List.mem_map.2 ⟨mb, List.mem_of_getElem? hk, rfl⟩)
  have hEe : E ev.id := (h.ei ev.id).1 (List.mem_map.2 ⟨ev, List.mem_of_getElem? he, rfl⟩)
  have hel : e < K.evs.length := (List.getElem?_eq_some_iff.1 he).1
  have q1 := sum_set (·.dl) K.evs e ev { ev with dl := ev.dl + 1 } he
  have q2 := sum_set (·.since.length) K.mem k mb { mb with dv := mb.dv ++ [e], since := mb.since ++ [e] } hk
  have q3 := sum_set (·.pasts.length) K.evs e ev { ev with dl := ev.dl + 1 } he
  have n1 := h.es
  have n2 := h.isn
  have n3 := h.et
  have n4 := h.pn
  simp only [List.length_append, List.length_cons, List.length_nil] at q1 q2 q3
  refine ⟨fun z => ?_, ?_, fun z => ?_, ?_, fun i m hi => ?_, fun i m hi x v hx => ?_, fun i m hi => ?_, fun i v hi => ?_, ?_, ?_, ?_, fun i v hi => ?_, ?_, ?_, h.pp, h.pt, fun z hz => ?_, fun z hz => ?_⟩
  · simp only; rw [hmm]; exact h.mi z
  · simp only; rw [hmm]; exact h.mn
  · simp only; rw [hem]; exact h.ei z
  · simp only; rw [hem]; exact h.en
  · rcases set_get hi with ⟨_, rfl, _⟩ | ⟨hik, h1⟩
    · have := h.ml k mb hk
      simp only [List.length_append, List.length_cons, List.length_nil, if_true]
      omega
    · have := h.ml i m h1
      rw [if_neg (fun e' => hik (ids_inj h.mn h1 hk e'))]
      omega
  · have hv : K.evs[x]? = some { v with dl := if x = e then ev.dl else v.dl } ∧ (v.id = ev.id ↔ x = e) := by
      rcases set_get hx with ⟨rfl, rfl, _⟩ | ⟨hik, h1⟩
      · simp [he]
      · rw [if_neg hik]
        exact ⟨h1, fun e' => ids_inj h.en h1 he e', fun e' => absurd e' hik⟩
    obtain ⟨hv1, hv2⟩ := hv
    rcases set_get hi with ⟨_, rfl, _⟩ | ⟨hik, h1⟩
    · have := h.md k mb hk x _ hv1
      simp only at this ⊢
      rw [List.mem_append, this, List.mem_singleton, hv2]
      simp
    · have := h.md i m h1 x _ hv1
      simp only at this
      rw [this]
      have hne : m.id ≠ mb.id := fun e' => hik (ids_inj h.mn h1 hk e')
      simp [hne]
  · simp only [List.length_set]
    rcases set_get hi with ⟨_, rfl, _⟩ | ⟨hik, h1⟩
    · obtain ⟨g1, g2, g3⟩ := h.mx k mb hk
      refine ⟨fun x hx => ?_, fun x hx => ?_, g3⟩
      · rcases List.mem_append.1 hx with hx | hx
        · exact g1 x hx
        · simp at hx; omega
      · rcases List.mem_append.1 hx with hx | hx
        · exact g2 x hx
        · simp at hx; omega
    · exact h.mx i m h1
  · rcases set_get hi with ⟨_, rfl, _⟩ | ⟨hik, h1⟩
    · have := h.ed e ev he
      simp only [if_true]
      exact ⟨by omega, this.2⟩
    · have := h.ed i v h1
      rw [if_neg (fun e' => hik (ids_inj h.en h1 he e'))]
      exact this
  · simp only; omega
  · simp only [List.length_set]; exact h.ix
  · simp only; omega
  · rcases set_get hi with ⟨_, rfl, _⟩ | ⟨hik, h1⟩
    · exact h.ep e ev he
    · exact h.ep i v h1
  · simp only; omega
  · simp only; omega
  · have := h.sM z hz
    rw [if_neg (fun e' => hz (by rw [e']; exact hMm))]
    exact ⟨this.1, fun y h' => h'.elim (this.2 y) (fun e' => hz (by rw [e'.1]; exact hMm))⟩
  · have := h.sE z hz
    rw [if_neg (fun e' => hz (by rw [e']; exact hEe))]
    exact ⟨this.1, this.2.1, fun y h' => h'.elim (this.2.2 y) (fun e' => hz (by rw [e'.2]; exact hEe))⟩

/-- the event's mark of a broadcast line -/
theorem KI.setBc {K : KS} {n : Nat} {M E : Int → Prop} {D : Int → Int → Prop} {len dl : Int → Nat} {bc : Int → Prop} (h : KI K n M E D len dl bc) {e : Nat} {ev : EV} (he : K.evs[e]? = some ev) :
    KI { K with evs := K.evs.set e { ev with bc := true } } n M E D len dl (fun y => bc y ∨ y = ev.id) := by
  have hem : (K.evs.set e { ev with bc := true }).map (·.id) = K.evs.map (·.id) := map_set_same he rfl
  have hEe : E ev.id := (h.ei ev.id).1 (List.mem_map.2 ⟨ev, List.mem_of_getElem? he, rfl⟩)
  have q1 := sum_set (·.dl) K.evs e ev { ev with bc := true } he
  have q3 := sum_set (·.pasts.length) K.evs e ev { ev with bc := true } he
  have n1 := h.es
  have n3 := h.et
  simp only at q1 q3
  refine ⟨h.mi, h.mn, fun z => ?_, ?_, h.ml, fun i m hi x v hx => ?_, fun i m hi => ?_, fun i v hi => ?_, ?_, ?_, h.isn, fun i v hi => ?_, ?_, h.pn, h.pp, h.pt, h.sM, fun z hz => ?_⟩
  · simp only; rw [hem]; exact h.ei z
  · simp only; rw [hem]; exact h.en
  · rcases set_get hx with ⟨rfl, rfl, _⟩ | ⟨hik, h1⟩
    · exact h.md i m hi x ev he
    · exact h.md i m hi x v h1
  · simp only [List.length_set]; exact h.mx i m hi
  · rcases set_get hi with ⟨_, rfl, _⟩ | ⟨hik, h1⟩
    · have := h.ed e ev he
      exact ⟨this.1, by simp⟩
    · have := h.ed i v h1
      have hne : v.id ≠ ev.id := fun e' => hik (ids_inj h.en h1 he e')
      exact ⟨this.1, by rw [this.2]; simp [hne]⟩
  · simp only; omega
  · simp only [List.length_set]; exact h.ix
  · rcases set_get hi with ⟨_, rfl, _⟩ | ⟨hik, h1⟩
    · exact h.ep e ev he
    · exact h.ep i v h1
  · simp only; omega
  · have := h.sE z hz
    exact ⟨this.1, fun h' => h'.elim this.2.1 (fun e' => hz (by rw [e']; exact hEe)), this.2.2⟩

/-- broadcast -/
theorem KI.bcast {K : KS} {n : Nat} {M E : Int → Prop} {D : Int → Int → Prop} {len dl : Int → Nat} {bc : Int → Prop} (h : KI K n M E D len dl bc) (hn : n ≤ 1024) {k e : Nat} {mb : MB} {ev : EV} (hk : K.mem[k]? = some mb) (he : K.evs[e]? = some ev) :
    ∃ K', bcastP K k e = some K' ∧ KI K' (n + 1) M E D len dl bc ∧ K'.lines = K.lines := by
  have hbg : big = 1000000000 := rfl
  have n0 := sum_get (·.since.length) K.mem k mb hk
  have n1 := h.es
  have n2 := h.isn
  have n3 := h.et
  have n4 := h.pn
  have n5 := sum_get (·.pasts.length) K.evs e ev he
  obtain ⟨g1, g2, g3⟩ := h.mx k mb hk
  unfold bcastP
  simp only [hk, he]
  rw [if_pos ⟨by omega, by omega, by omega, by omega⟩]
  by_cases hs : mb.since = []
  · rw [if_pos hs]
    by_cases hp : 0 ≤ mb.past
    · rw [if_pos hp]
      refine ⟨_, rfl, ?_, rfl⟩
      have hem : (K.evs.set e { ev with pasts := ev.pasts ++ [mb.past.toNat] }).map (·.id) = K.evs.map (·.id) := map_set_same he rfl
      have q1 := sum_set (·.dl) K.evs e ev { ev with pasts := ev.pasts ++ [mb.past.toNat] } he
      have q3 := sum_set (·.pasts.length) K.evs e ev { ev with pasts := ev.pasts ++ [mb.past.toNat] } he
      simp only [List.length_append, List.length_cons, List.length_nil] at q1 q3
      refine ⟨h.mi, h.mn, fun z => ?_, ?_, fun i m hi => ?_, fun i m hi x v hx => ?_, fun i m hi => ?_, fun i v hi => ?_, ?_, ?_, by simp only; omega, fun i v hi => ?_, ?_, by simp only; omega, h.pp, h.pt, h.sM, h.sE⟩
      · simp only; rw [hem]; exact h.ei z
      · simp only; rw [hem]; exact h.en
      · have := h.ml i m hi; omega
      · rcases set_get hx with ⟨rfl, rfl, _⟩ | ⟨hik, h1⟩
        · exact h.md i m hi x ev he
        · exact h.md i m hi x v h1
      · simp only [List.length_set]; exact h.mx i m hi
      · rcases set_get hi with ⟨_, rfl, _⟩ | ⟨hik, h1⟩
        · exact h.ed e ev he
        · exact h.ed i v h1
      · simp only; omega
      · simp only [List.length_set]; exact h.ix
      · rcases set_get hi with ⟨_, rfl, _⟩ | ⟨hik, h1⟩
        · intro p hp'
          rcases List.mem_append.1 hp' with hp' | hp'
          · exact h.ep e ev he p hp'
          · simp at hp'
            simp only
            omega
        · exact h.ep i v h1
      · simp only; omega
    · rw [if_neg hp]
      exact ⟨K, rfl, ⟨h.mi, h.mn, h.ei, h.en, fun i m hi => by have := h.ml i m hi; omega, h.md, h.mx, h.ed, by omega, h.ix, by omega, h.ep, by omega, by omega, h.pp, h.pt, h.sM, h.sE⟩, rfl⟩
  · rw [if_neg hs]
    refine ⟨_, rfl, ?_, rfl⟩
    have hsl : 0 < mb.since.length := List.length_pos_iff.2 hs
    have hmm : (K.mem.set k { mb with past := (K.pasts.length : Int), since := [] }).map (·.id) = K.mem.map (·.id) := map_set_same hk rfl
    have hem : (K.evs.set e { ev with pasts := ev.pasts ++ [K.pasts.length] }).map (·.id) = K.evs.map (·.id) := map_set_same he rfl
    have q1 := sum_set (·.dl) K.evs e ev { ev with pasts := ev.pasts ++ [K.pasts.length] } he
    have q2 := sum_set (·.since.length) K.mem k mb { mb with past := (K.pasts.length : Int), since := [] } hk
    have q3 := sum_set (·.pasts.length) K.evs e ev { ev with pasts := ev.pasts ++ [K.pasts.length] } he
    simp only [List.length_append, List.length_cons, List.length_nil] at q1 q2 q3
    refine ⟨fun z => ?_, ?_, fun z => ?_, ?_, fun i m hi => ?_, fun i m hi x v hx => ?_, fun i m hi => ?_, fun i v hi => ?_, ?_, fun x hx => ?_, ?_, fun i v hi => ?_, ?_, ?_, fun p hp => ?_, ?_, h.sM, h.sE⟩
    · simp only; rw [hmm]; exact h.mi z
    · simp only; rw [hmm]; exact h.mn
    · simp only; rw [hem]; exact h.ei z
    · simp only; rw [hem]; exact h.en
    · rcases set_get hi with ⟨_, rfl, _⟩ | ⟨hik, h1⟩
      · have := h.ml k mb hk
        simp only
        omega
      · have := h.ml i m h1
        omega
    · have hv : ∃ v', K.evs[x]? = some v' ∧ v'.id = v.id := by
        rcases set_get hx with ⟨rfl, rfl, _⟩ | ⟨hik, h1⟩
        · exact ⟨ev, he, rfl⟩
        · exact ⟨v, h1, rfl⟩
      obtain ⟨v', hv1, hv2⟩ := hv
      rw [← hv2]
      rcases set_get hi with ⟨_, rfl, _⟩ | ⟨hik, h1⟩
      · exact h.md k mb hk x v' hv1
      · exact h.md i m h1 x v' hv1
    · simp only [List.length_set, List.length_append, List.length_cons, List.length_nil]
      rcases set_get hi with ⟨_, rfl, _⟩ | ⟨hik, h1⟩
      · simp only [List.not_mem_nil, false_imp_iff, implies_true, true_and]
        exact ⟨g1, by omega⟩
      · obtain ⟨f1, f2, f3⟩ := h.mx i m h1
        exact ⟨f1, f2, by omega⟩
    · rcases set_get hi with ⟨_, rfl, _⟩ | ⟨hik, h1⟩
      · exact h.ed e ev he
      · exact h.ed i v h1
    · simp only; omega
    · simp only [List.length_set]
      rcases List.mem_append.1 hx with hx | hx
      · exact h.ix x hx
      · exact g2 x hx
    · simp only [List.length_append]; omega
    · simp only [List.length_append, List.length_cons, List.length_nil]
      rcases set_get hi with ⟨_, rfl, _⟩ | ⟨hik, h1⟩
      · intro p hp'
        rcases List.mem_append.1 hp' with hp' | hp'
        · have := h.ep e ev he p hp'; omega
        · simp at hp'; omega
      · intro p hp'
        have := h.ep i v h1 p hp'
        omega
    · simp only; omega
    · simp only [List.length_append, List.length_cons, List.length_nil]; omega
    · simp only [List.length_append, List.length_cons, List.length_nil]
      rcases List.mem_append.1 hp with hp | hp
      · have := h.pp p hp
        omega
      · simp at hp
        subst hp
        simp only
        omega
    · have := h.pt
      simp only [List.map_append, List.map_cons, List.map_nil, List.sum_append, List.sum_cons, List.sum_nil, List.length_append]
      omega

/-- a line's member and event are found -/
theorem find_id {α : Type} {f : α → Int} {l : List α} {z : Int} (h : z ∈ l.map f) : ∃ (k : Nat) (a : α), l[k]? = some a ∧ f a = z := by
  obtain ⟨a, ha, he⟩ := List.mem_map.1 h
  obtain ⟨k, hk⟩ := List.mem_iff_getElem?.1 ha
  exact ⟨k, a, hk, he⟩

theorem nodup_bound : ∀ (B : Nat) (l : List Int), l.Nodup → (∀ z ∈ l, 0 ≤ z ∧ z < (B : Int)) → l.length ≤ B
  | 0, l, _, h => by
    cases l with
    | nil => simp
    | cons a l => have := h a (by simp); omega
  | B + 1, l, hn, h => by
    have h1 := nodup_bound B (l.erase (B : Int)) (hn.erase _) (fun z hz => by
      have h2 := h z (List.mem_of_mem_erase hz)
      have h3 : z ≠ (B : Int) := fun e => by
        subst e
        exact (List.Nodup.not_mem_erase hn) hz
      omega)
    rw [List.length_erase] at h1
    split at h1 <;> omega

/-- what the lines say -/
def OM (ops : List (Int × Int × Bool)) (z : Int) : Prop := ∃ o ∈ ops, o.1 = z
def OE (ops : List (Int × Int × Bool)) (y : Int) : Prop := ∃ o ∈ ops, o.2.1 = y
def OD (ops : List (Int × Int × Bool)) (z y : Int) : Prop := (z, y, false) ∈ ops
def OL (ops : List (Int × Int × Bool)) (z : Int) : Nat := ops.countP fun o => decide (o.1 = z ∧ o.2.2 = false)
def ON (ops : List (Int × Int × Bool)) (y : Int) : Nat := ops.countP fun o => decide (o.2.1 = y ∧ o.2.2 = false)
def OB (ops : List (Int × Int × Bool)) (y : Int) : Prop := ∃ z, (z, y, true) ∈ ops

def KO (K : KS) (ops : List (Int × Int × Bool)) : Prop := KI K ops.length (OM ops) (OE ops) (OD ops) (OL ops) (ON ops) (OB ops) ∧ K.lines = ops.length

theorem KO.nil : KO ⟨0, [], [], [], []⟩ [] := by
  refine ⟨⟨?_, ?_, ?_, ?_, ?_, ?_, ?_, ?_, ?_, ?_, ?_, ?_, ?_, ?_, ?_, ?_, ?_, ?_⟩, rfl⟩ <;> simp [OM, OE, OD, OL, ON, OB]

theorem KI.up {K : KS} {n : Nat} {M E : Int → Prop} {D : Int → Int → Prop} {len dl : Int → Nat} {bc : Int → Prop} (h : KI K n M E D len dl bc) (l : Nat) : KI { K with lines := l } n M E D len dl bc :=
  ⟨h.mi, h.mn, h.ei, h.en, h.ml, h.md, h.mx, h.ed, h.es, h.ix, h.isn, h.ep, h.et, h.pn, h.pp, h.pt, h.sM, h.sE⟩
theorem memP_lines (K : KS) (z : Int) : (memP K z).lines = K.lines := by unfold memP; split <;> rfl
theorem evnP_lines (K : KS) (z : Int) : (evnP K z).lines = K.lines := by unfold evnP; split <;> rfl

theorem KO.add {K : KS} {ops : List (Int × Int × Bool)} (h : KO K ops) (hn : ops.length < 1024) (hr : ∀ o ∈ ops, (0 ≤ o.1 ∧ o.1 < 4) ∧ 0 ≤ o.2.1 ∧ o.2.1 < 5) (z y : Int) (b : Bool) : ∃ k e K', addP K z y b k e = some K' ∧ KO K' (ops ++ [(z, y, b)]) := by
  obtain ⟨h, hl⟩ := h
  have h2 := ((h.up (K.lines + 1)).mem z).evn y
  obtain ⟨K2, hK2⟩ : ∃ K2, K2 = evnP (memP { K with lines := K.lines + 1 } z) y := ⟨_, rfl⟩
  have hl2 : K2.lines = ops.length + 1 := by rw [hK2, evnP_lines, memP_lines]; simp only; omega
  rw [← hK2] at h2
  obtain ⟨k, mb, hk, hmid⟩ := find_id ((h2.mi z).2 (.inr rfl))
  obtain ⟨e, ev, he, heid⟩ := find_id ((h2.ei y).2 (.inr rfl))
  have hbg : big = 1000000000 := rfl
  have n1 := h2.ml k mb hk
  have n2 := sum_get (·.since.length) K2.mem k mb hk
  have n3 := sum_get (·.dl) K2.evs e ev he
  have n4 := h2.isn
  have n5 := h2.es
  have n6 := nodup_bound 4 _ h.mn (fun x hx => by
    obtain ⟨o, ho, rfl⟩ := (h.mi x).1 hx
    exact (hr o ho).1)
  have n7 := nodup_bound 5 _ h.en (fun x hx => by
    obtain ⟨o, ho, rfl⟩ := (h.ei x).1 hx
    exact (hr o ho).2)
  rw [List.length_map] at n6 n7
  have hcond : mb.id = z ∧ ev.id = y ∧ K.lines < big ∧ K.mem.length < big ∧ K.evs.length < big ∧ mb.dv.length < big ∧ mb.since.length < big ∧ ev.dl < big := by
    refine ⟨hmid, heid, ?_, ?_, ?_, ?_, ?_, ?_⟩ <;> omega
  have eM : (fun x => OM ops x ∨ x = z) = OM (ops ++ [(z, y, b)]) := by
    funext x
    apply propext
    unfold OM
    constructor
    · rintro (⟨o, ho, rfl⟩ | rfl)
      · exact ⟨o, by simp [ho], rfl⟩
      · exact ⟨_, List.mem_append_right _ (List.mem_singleton.2 rfl), rfl⟩
    · rintro ⟨o, ho, rfl⟩
      rcases List.mem_append.1 ho with ho | ho
      · exact .inl ⟨o, ho, rfl⟩
      · simp at ho; subst ho; exact .inr rfl
  have eE : (fun x => OE ops x ∨ x = y) = OE (ops ++ [(z, y, b)]) := by
    funext x
    apply propext
    unfold OE
    constructor
    · rintro (⟨o, ho, rfl⟩ | rfl)
      · exact ⟨o, by simp [ho], rfl⟩
      · exact ⟨_, List.mem_append_right _ (List.mem_singleton.2 rfl), rfl⟩
    · rintro ⟨o, ho, rfl⟩
      rcases List.mem_append.1 ho with ho | ho
      · exact .inl ⟨o, ho, rfl⟩
      · simp at ho; subst ho; exact .inr rfl
  rw [eM, eE] at h2
  cases b
  · refine ⟨k, e, { K2 with evs := K2.evs.set e { ev with dl := ev.dl + 1 }, mem := K2.mem.set k { mb with dv := mb.dv ++ [e], since := mb.since ++ [e] } }, ?_, ?_, by simp only [hl2, List.length_append, List.length_cons, List.length_nil]⟩
    · unfold addP
      simp only
      rw [← hK2, hk, he]
      simp only
      rw [if_pos hcond]
      simp
    · have h3 := h2.deliver hk he
      have eD : (fun x v => OD ops x v ∨ (x = mb.id ∧ v = ev.id)) = OD (ops ++ [(z, y, false)]) := by
        rw [hmid, heid]
        funext x v
        apply propext
        unfold OD
        simp
      have eL : (fun x => OL ops x + if x = mb.id then 1 else 0) = OL (ops ++ [(z, y, false)]) := by
        rw [hmid]
        funext x
        unfold OL
        rw [List.countP_append, List.countP_singleton]
        simp only [and_true, decide_eq_true_eq, eq_comm (a := x)]
      have eN : (fun x => ON ops x + if x = ev.id then 1 else 0) = ON (ops ++ [(z, y, false)]) := by
        rw [heid]
        funext x
        unfold ON
        rw [List.countP_append, List.countP_singleton]
        simp only [and_true, decide_eq_true_eq, eq_comm (a := x)]
      have eB : OB ops = OB (ops ++ [(z, y, false)]) := by
        funext x
        apply propext
        unfold OB
        simp
      rw [eD, eL, eN, eB] at h3
      rw [List.length_append]
      exact h3
  · have h3 := h2.setBc he
    have hk' : ({ K2 with evs := K2.evs.set e { ev with bc := true } } : KS).mem[k]? = some mb := hk
    have he' : ({ K2 with evs := K2.evs.set e { ev with bc := true } } : KS).evs[e]? = some { ev with bc := true } := by
      simp only
      rw [List.getElem?_set, if_pos rfl, if_pos (List.getElem?_eq_some_iff.1 he).1]
    obtain ⟨K', g1, g2, g3⟩ := h3.bcast (by omega) hk' he'
    refine ⟨k, e, K', ?_, ?_, by rw [g3]; simp only [hl2, List.length_append, List.length_cons, List.length_nil]⟩
    · unfold addP
      simp only
      rw [← hK2, hk, he]
      simp only
      rw [if_pos hcond]
      simp only [if_true]
      exact g1
    · have eD : OD ops = OD (ops ++ [(z, y, true)]) := by
        funext x v
        apply propext
        unfold OD
        simp
      have eL : OL ops = OL (ops ++ [(z, y, true)]) := by
        funext x
        unfold OL
        rw [List.countP_append]
        simp
      have eN : ON ops = ON (ops ++ [(z, y, true)]) := by
        funext x
        unfold ON
        rw [List.countP_append]
        simp
      have eB : (fun x => OB ops x ∨ x = ev.id) = OB (ops ++ [(z, y, true)]) := by
        rw [heid]
        funext x
        apply propext
        unfold OB
        constructor
        · rintro (⟨o, ho⟩ | rfl)
          · exact ⟨o, by simp [ho]⟩
          · exact ⟨z, by simp⟩
        · rintro ⟨o, ho⟩
          rcases List.mem_append.1 ho with ho | ho
          · exact .inl ⟨o, ho⟩
          · simp at ho; exact .inr ho.2
      rw [eD, eL, eN, eB] at g2
      rw [List.length_append]
      exact g2

theorem KO.cw {K : KS} {ops : List (Int × Int × Bool)} (h : KO K ops) (hn : ops.length ≤ 1024) (hr : ∀ o ∈ ops, (0 ≤ o.1 ∧ o.1 < 4) ∧ 0 ≤ o.2.1 ∧ o.2.1 < 5) : CW K.evs K.pasts K.inp ∧ K.mem.length ≤ 4 := by
  obtain ⟨h, hl⟩ := h
  have n6 := nodup_bound 4 _ h.mn (fun x hx => by
    obtain ⟨o, ho, rfl⟩ := (h.mi x).1 hx
    exact (hr o ho).1)
  have n7 := nodup_bound 5 _ h.en (fun x hx => by
    obtain ⟨o, ho, rfl⟩ := (h.ei x).1 hx
    exact (hr o ho).2)
  rw [List.length_map] at n6 n7
  have n1 := h.pn
  have n2 := h.isn
  have n3 := h.et
  have n4 := h.pt
  exact ⟨⟨n7, by omega, by omega, fun ev hev p hp => by
    obtain ⟨i, hi⟩ := List.mem_iff_getElem?.1 hev
    exact h.ep i ev hi p hp, by omega, h.pp, by omega, h.ix⟩, n6⟩
end Go.Proofs.Ybulkbewa
