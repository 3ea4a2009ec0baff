/- components is safe: its plain text never fails on a well formed graph. -/
import Derived.Test.YbulkbewaScc
namespace Go.Proofs.Ybulkbewa

theorem getD_set {α : Type} (l : List α) (i j : Nat) (a d : α) (h : i < l.length) : (l.set i a).getD j d = if j = i then a else l.getD j d := by
  rw [List.getD_eq_getElem?_getD, List.getD_eq_getElem?_getD, List.getElem?_set]
  by_cases hj : i = j
  · subst hj; simp [h]
  · rw [if_neg hj, if_neg (fun e => hj e.symm)]
theorem get_of_lt {α : Type} (l : List α) (i : Nat) (d : α) (h : i < l.length) : l[i]? = some (l.getD i d) := by
  rw [List.getD_eq_getElem?_getD, List.getElem?_eq_getElem h]; rfl

structure GW (fr to : List Nat) : Prop where
  pos : 0 < fr.length
  mono : ∀ v, v < fr.length - 1 → fr.getD v 0 ≤ fr.getD (v + 1) 0
  top : ∀ v, fr.getD v 0 ≤ to.length
  inb : ∀ x ∈ to, x < fr.length - 1
  fb : fr.length ≤ 100000
  tb : to.length ≤ 100000

def unv (s : CS) : Nat := s.idx.count 0
def csum (fr : List Nat) (l : List (Nat × Nat)) : Nat := (l.map fun p => fr.getD (p.1 + 1) 0 - p.2 + 1).sum
def mu (fr to : List Nat) (s : CS) : Nat := csum fr s.calls + unv s * (to.length + 2)

theorem csum_append (fr : List Nat) (a b : List (Nat × Nat)) : csum fr (a ++ b) = csum fr a + csum fr b := by simp [csum]
theorem csum_one (fr : List Nat) (p : Nat × Nat) : csum fr [p] = fr.getD (p.1 + 1) 0 - p.2 + 1 := by simp [csum]

/-- what holds while components runs -/
structure TI (fr to : List Nat) (s : CS) : Prop where
  lc : s.comp.length = fr.length - 1
  li : s.idx.length = fr.length - 1
  ll : s.low.length = fr.length - 1
  sub : (s.calls.map (·.1)).Sublist s.opn
  nd : s.opn.Nodup
  ob : ∀ x ∈ s.opn, x < fr.length - 1 ∧ s.idx.getD x 0 ≠ 0
  ce : ∀ p ∈ s.calls, fr.getD p.1 0 ≤ p.2 ∧ p.2 ≤ fr.getD (p.1 + 1) 0
  vis : s.vis + unv s = fr.length - 1
  iv : ∀ x, s.idx.getD x 0 ≤ s.vis
  op : s.cnt + s.opn.length ≤ s.vis
  cv : ∀ x, x < fr.length - 1 → s.comp.getD x 0 = -1 ∨ (0 ≤ s.comp.getD x 0 ∧ s.comp.getD x 0 < (s.cnt : Int))
  cl : ∀ x, x < fr.length - 1 → s.idx.getD x 0 ≠ 0 → x ∈ s.opn ∨ 0 ≤ s.comp.getD x 0
  oc : ∀ x ∈ s.opn, s.comp.getD x 0 = -1
  un : ∀ x, x < fr.length - 1 → s.idx.getD x 0 = 0 → s.comp.getD x 0 = -1
  lo : ∀ x ∈ s.opn, s.low.getD x 0 ≤ s.idx.getD x 0
  rt : (s.calls = [] ∧ s.opn = []) ∨ ∃ r e cs os, s.calls = (r, e) :: cs ∧ s.opn = r :: os ∧ ∀ x ∈ s.opn, s.idx.getD r 0 ≤ s.low.getD x 0 ∧ s.idx.getD r 0 ≤ s.idx.getD x 0

theorem count_set_zero : ∀ (l : List Nat) (i a : Nat), i < l.length → l.getD i 0 = 0 → a ≠ 0 → (l.set i a).count 0 + 1 = l.count 0
  | x :: l, 0, a, _, h, ha => by
    simp at h
    subst h
    simp [ha]
  | x :: l, i + 1, a, hi, h, ha => by
    have := count_set_zero l i a (by simpa using hi) (by simpa using h) ha
    simp only [List.set_cons_succ, List.count_cons]
    omega

/-- a new vertex is visited -/
theorem TI.visit {fr to : List Nat} {s : CS} (G : GW fr to) (h : TI fr to s) {x : Nat} (hx : x < fr.length - 1) (h0 : s.idx.getD x 0 = 0) :
    ∃ s', visitP fr s x = some s' ∧ TI fr to s' ∧ unv s' + 1 = unv s ∧ s'.calls = s.calls ++ [(x, fr.getD x 0)] ∧ (∀ y, s.idx.getD y 0 ≠ 0 → s'.idx.getD y 0 ≠ 0) ∧ s'.idx.getD x 0 ≠ 0 := by
  have e1 : fr[x]? = some (fr.getD x 0) := get_of_lt _ _ _ (by omega)
  have e2 : s.idx[x]? = some (s.idx.getD x 0) := get_of_lt _ _ _ (by rw [h.li]; exact hx)
  have e3 : s.low[x]? = some (s.low.getD x 0) := get_of_lt _ _ _ (by rw [h.ll]; exact hx)
  have hno : x ∉ s.opn := fun hm => (h.ob x hm).2 h0
  have hv := h.vis
  have hop := h.op
  have hcl : s.calls.length ≤ s.opn.length := by simpa using h.sub.length_le
  have hfb := G.fb
  have hxi : x < s.idx.length := by rw [h.li]; exact hx
  have hxl : x < s.low.length := by rw [h.ll]; exact hx
  have hun := count_set_zero s.idx x (s.vis + 1) hxi h0 (by omega)
  refine ⟨{ s with vis := s.vis + 1, idx := s.idx.set x (s.vis + 1), low := s.low.set x (s.vis + 1), opn := s.opn ++ [x], calls := s.calls ++ [(x, fr.getD x 0)] }, ?_, ?_, hun, rfl, ?_, ?_⟩
  · unfold visitP
    simp only [e1, e2, e3]
    rw [if_pos (by unfold big; omega)]
  · have hid : ∀ y, (s.idx.set x (s.vis + 1)).getD y 0 = if y = x then s.vis + 1 else s.idx.getD y 0 := fun y => getD_set _ _ _ _ _ hxi
    have hlo : ∀ y, (s.low.set x (s.vis + 1)).getD y 0 = if y = x then s.vis + 1 else s.low.getD y 0 := fun y => getD_set _ _ _ _ _ hxl
    refine ⟨h.lc, by simpa using h.li, by simpa using h.ll, ?_, ?_, ?_, ?_, ?_, ?_, ?_, h.cv, ?_, ?_, ?_, ?_, ?_⟩
    · simpa using h.sub.append (List.Sublist.refl [x])
    · rw [List.nodup_append]
      exact ⟨h.nd, by simp, fun a ha b hb => by simp at hb; subst hb; exact fun e => hno (e ▸ ha)⟩
    · intro y hy
      simp only [hid]
      rcases List.mem_append.1 hy with hy | hy
      · refine ⟨(h.ob y hy).1, ?_⟩
        split
        · omega
        · exact (h.ob y hy).2
      · simp at hy
        subst hy
        exact ⟨hx, by simp⟩
    · intro p hp
      rcases List.mem_append.1 hp with hp | hp
      · exact h.ce p hp
      · simp at hp
        subst hp
        exact ⟨Nat.le_refl _, G.mono x hx⟩
    · have : unv { s with vis := s.vis + 1, idx := s.idx.set x (s.vis + 1), low := s.low.set x (s.vis + 1), opn := s.opn ++ [x], calls := s.calls ++ [(x, fr.getD x 0)] } + 1 = unv s := hun
      simp only
      omega
    · intro y
      simp only [hid]
      have := h.iv y
      split <;> omega
    · simp only [List.length_append, List.length_cons, List.length_nil]
      omega
    · intro y hy hne
      simp only [hid] at hne
      by_cases hyx : y = x
      · left; simp [hyx]
      · rw [if_neg hyx] at hne
        rcases h.cl y hy hne with h1 | h1
        · left; simp [h1]
        · right; exact h1
    · intro y hy
      rcases List.mem_append.1 hy with hy | hy
      · exact h.oc y hy
      · simp at hy
        subst hy
        exact h.un y hx h0
    · intro y hy hz
      simp only [hid] at hz
      split at hz
      · omega
      · exact h.un y hy hz
    · intro y hy
      simp only [hid, hlo]
      split
      · omega
      · rcases List.mem_append.1 hy with hy | hy
        · exact h.lo y hy
        · simp at hy; contradiction
    · right
      rcases h.rt with ⟨h1, h2⟩ | ⟨r, e, cs, os, h1, h2, h3⟩
      · refine ⟨x, fr.getD x 0, [], [], by simp [h1], by simp [h2], ?_⟩
        intro y hy
        simp only [h2, List.nil_append, List.mem_singleton] at hy
        subst hy
        simp only [hid, hlo, if_true]
        omega
      · refine ⟨r, e, cs ++ [(x, fr.getD x 0)], os ++ [x], by simp [h1], by simp [h2], ?_⟩
        have hrx : r ≠ x := fun e => hno (by rw [h2, e]; simp)
        intro y hy
        simp only [hid, hlo, if_neg hrx]
        have hr := h.iv r
        by_cases hyx : y = x
        · simp only [hyx, if_true]; omega
        · simp only [if_neg hyx]
          apply h3 y
          rcases List.mem_append.1 hy with hy | hy
          · exact hy
          · simp at hy; contradiction
  · intro y hy
    simp only
    rw [getD_set _ _ _ _ _ hxi]
    split
    · omega
    · exact hy
  · simp only
    rw [getD_set _ _ _ _ _ hxi]
    simp

theorem getLast_concat {α : Type} (l : List α) (x : α) : (l ++ [x]).getLast? = some x := by simp

/-- a component is taken off the open vertices -/
theorem popP_all : ∀ (B : List Nat) (n : Nat) (s : CS) (A : List Nat) (v : Nat), s.opn = A ++ v :: B.reverse → v ∉ B → B.length < n → (∀ x ∈ s.opn, x < s.comp.length) →
    ∃ comp', popP n s v = some { s with opn := A, comp := comp' } ∧ comp'.length = s.comp.length ∧ (∀ x, (x = v ∨ x ∈ B) → comp'.getD x 0 = (s.cnt : Int)) ∧ ∀ x, x ≠ v → x ∉ B → comp'.getD x 0 = s.comp.getD x 0
  | [], n + 1, s, A, v, ho, _, _, hb => by
    simp only [List.reverse_nil] at ho
    have hv : v < s.comp.length := hb v (by rw [ho]; simp)
    refine ⟨s.comp.set v s.cnt, ?_, by simp, fun x hx => ?_, fun x h1 _ => ?_⟩
    · unfold popP
      simp only [ho, getLast_concat, if_pos hv, if_true, List.dropLast_concat]
    · simp at hx
      subst hx
      rw [getD_set _ _ _ _ _ hv]
      simp
    · rw [getD_set _ _ _ _ _ hv, if_neg h1]
  | b :: B, n + 1, s, A, v, ho, hvB, hn, hb => by
    simp only [List.reverse_cons] at ho
    have ho' : s.opn = (A ++ v :: B.reverse) ++ [b] := by rw [ho]; simp
    have hbl : b < s.comp.length := hb b (by rw [ho']; simp)
    have hbv : b ≠ v := fun e => hvB (by simp [e])
    obtain ⟨comp', h1, h2, h3, h4⟩ := popP_all B n { s with opn := A ++ v :: B.reverse, comp := s.comp.set b s.cnt } A v rfl (fun e => hvB (by simp [e])) (by simp at hn; omega) (fun x hx => by
      simp only [List.length_set]
      exact hb x (by rw [ho']; exact List.mem_append_left _ hx))
    refine ⟨comp', ?_, by simpa using h2, fun x hx => ?_, fun x hxv hxB => ?_⟩
    · unfold popP
      rw [ho']
      simp only [getLast_concat, if_pos hbl, if_neg hbv, List.dropLast_concat]
      exact h1
    · by_cases hx2 : x = v ∨ x ∈ B
      · exact h3 x hx2
      · have hxb : x = b := by
          rcases hx with hx | hx
          · exact absurd (.inl hx) hx2
          · rcases List.mem_cons.1 hx with hx | hx
            · exact hx
            · exact absurd (.inr hx) hx2
        subst hxb
        rw [h4 x (fun e => hx2 (.inl e)) (fun e => hx2 (.inr e))]
        simp only
        rw [getD_set _ _ _ _ _ hbl]
        simp
    · have hxb : x ≠ b := fun e => hxB (by simp [e])
      rw [h4 x hxv (fun e => hxB (by simp [e]))]
      simp only
      rw [getD_set _ _ _ _ _ hbl, if_neg hxb]

theorem sub_cut {cs A B : List Nat} {v : Nat} (h : (cs ++ [v]).Sublist (A ++ v :: B)) (nd : (A ++ v :: B).Nodup) : cs.Sublist A := by
  obtain ⟨l1, l2, he, h1, h2⟩ := List.sublist_append_iff.1 h
  have ndv : v ∉ A ∧ v ∉ B := by
    rw [List.nodup_append] at nd
    obtain ⟨_, n2, n3⟩ := nd
    exact ⟨fun hA => n3 v hA v (by simp) rfl, (List.nodup_cons.1 n2).1⟩
  rcases List.eq_nil_or_concat l2 with rfl | ⟨l3, y, rfl⟩
  · rw [List.append_nil] at he
    exact absurd (h1.subset (by rw [← he]; simp)) ndv.1
  · rw [List.concat_eq_append, ← List.append_assoc] at he
    obtain ⟨rfl, h3⟩ := List.append_inj' he rfl
    obtain rfl : v = y := by simpa using h3
    rw [List.concat_eq_append] at h2
    have : l3 = [] := by
      rcases l3 with _ | ⟨z, l3⟩
      · rfl
      · exfalso
        rcases List.sublist_cons_iff.1 h2 with h4 | ⟨r, h4, h5⟩
        · exact ndv.2 (h4.subset (by simp))
        · simp only [List.cons_append, List.cons.injEq] at h4
          exact ndv.2 (h5.subset (by rw [← h4.2]; simp))
    subst this
    simpa using h1

theorem TI.callv {fr to : List Nat} {s : CS} (h : TI fr to s) {p : Nat × Nat} (hp : p ∈ s.calls) : p.1 ∈ s.opn := h.sub.subset (List.mem_map.2 ⟨p, hp, rfl⟩)

/-- a vertex is done with -/
theorem TI.finish {fr to : List Nat} {s : CS} (G : GW fr to) (h : TI fr to s) {cs : List (Nat × Nat)} {v e : Nat} (hc : s.calls = cs ++ [(v, e)]) :
    ∃ s', finishP { s with calls := cs } v = some s' ∧ TI fr to s' ∧ s'.calls = cs ∧ s'.idx = s.idx := by
  have hvo : v ∈ s.opn := h.callv (p := (v, e)) (by rw [hc]; simp)
  have hv := (h.ob v hvo).1
  have e1 : s.low[v]? = some (s.low.getD v 0) := get_of_lt _ _ _ (by rw [h.ll]; exact hv)
  have e2 : s.idx[v]? = some (s.idx.getD v 0) := get_of_lt _ _ _ (by rw [h.li]; exact hv)
  have hsub := h.sub
  rw [hc] at hsub
  simp only [List.map_append, List.map_cons, List.map_nil] at hsub
  have hvs := h.vis
  have hop := h.op
  have hfb := G.fb
  by_cases hlv : s.low.getD v 0 = s.idx.getD v 0
  · obtain ⟨A, B, hAB⟩ := List.append_of_mem hvo
    have nd := h.nd
    rw [hAB] at nd
    have nd' := nd
    rw [List.nodup_append] at nd'
    obtain ⟨nA, nB, nAB⟩ := nd'
    have hvB := (List.nodup_cons.1 nB).1
    obtain ⟨comp', h1, h2, h3, h4⟩ := popP_all B.reverse s.opn.length { s with calls := cs } A v (by simpa using hAB) (by simpa using hvB) (by rw [hAB]; simp; omega) (fun x hx => by
      have := (h.ob x hx).1
      rw [← h.lc] at this
      exact this)
    have hlen : s.opn.length = A.length + B.length + 1 := by rw [hAB]; simp; omega
    have hmA : ∀ x ∈ A, x ∈ s.opn := fun x hx => by rw [hAB]; exact List.mem_append_left _ hx
    refine ⟨{ s with calls := cs, opn := A, comp := comp', cnt := s.cnt + 1 }, ?_, ?_, rfl, rfl⟩
    · unfold finishP
      simp only [e1, e2]
      rw [if_pos hlv, h1]
      simp only
      rw [if_pos (by unfold big; omega)]
    · refine ⟨h2.trans h.lc, h.li, h.ll, ?_, nA, fun x hx => h.ob x (hmA x hx), fun p hp => h.ce p (by rw [hc]; simp [hp]), h.vis, h.iv, ?_, ?_, ?_, ?_, ?_, fun x hx => h.lo x (hmA x hx), ?_⟩
      · rw [hAB] at hsub
        exact sub_cut hsub nd
      · simp only
        omega
      · intro x hx
        simp only
        by_cases hxv : x = v ∨ x ∈ B.reverse
        · rw [h3 x hxv]
          right
          simp only
          omega
        · rw [h4 x (fun e => hxv (.inl e)) (fun e => hxv (.inr e))]
          have := h.cv x hx
          simp only at this ⊢
          omega
      · intro x hx hi
        simp only
        by_cases hxv : x = v ∨ x ∈ B.reverse
        · rw [h3 x hxv]
          right
          simp only
          omega
        · rw [h4 x (fun e => hxv (.inl e)) (fun e => hxv (.inr e))]
          rcases h.cl x hx hi with h5 | h5
          · left
            rw [hAB] at h5
            rcases List.mem_append.1 h5 with h5 | h5
            · exact h5
            · rcases List.mem_cons.1 h5 with h5 | h5
              · exact absurd (.inl h5) hxv
              · exact absurd (.inr (by simpa using h5)) hxv
          · exact .inr h5
      · intro x hx
        simp only
        rw [h4 x (fun e => nAB x hx v (by simp) e) (fun e => nAB x hx x (by simp at e; simp [e]) rfl)]
        exact h.oc x (hmA x hx)
      · intro x hx hi
        simp only at hi ⊢
        have hno : x ∉ s.opn := fun hm => (h.ob x hm).2 hi
        rw [h4 x (fun e => hno (e ▸ hvo)) (fun e => hno (by rw [hAB]; simp at e; simp [e]))]
        exact h.un x hx hi
      · rcases h.rt with ⟨h5, _⟩ | ⟨r, e', c0, os, h5, h6, h7⟩
        · rw [hc] at h5
          simp at h5
        · rcases A with _ | ⟨a, A⟩
          · left
            refine ⟨?_, rfl⟩
            rw [hAB] at hsub
            have := (sub_cut hsub nd).length_le
            simp at this
            exact this
          · right
            rw [hAB] at h6
            simp only [List.cons_append, List.cons.injEq] at h6
            obtain ⟨rfl, rfl⟩ := h6
            rw [hc] at h5
            rcases cs with _ | ⟨c, cs⟩
            · simp only [List.nil_append, List.cons.injEq] at h5
              have : v = a := congrArg Prod.fst h5.1
              exact absurd this.symm (nAB a (by simp) v (by simp))
            · simp only [List.cons_append, List.cons.injEq] at h5
              obtain ⟨rfl, _⟩ := h5
              exact ⟨a, e', cs, A, rfl, rfl, fun x hx => h7 x (hmA x hx)⟩
  · refine ⟨{ s with calls := cs }, ?_, ?_, rfl, rfl⟩
    · unfold finishP
      simp only [e1, e2]
      rw [if_neg hlv]
    · refine ⟨h.lc, h.li, h.ll, (List.sublist_append_left _ _).trans hsub, h.nd, h.ob, fun p hp => h.ce p (by rw [hc]; simp [hp]), h.vis, h.iv, h.op, h.cv, h.cl, h.oc, h.un, h.lo, ?_⟩
      rcases h.rt with ⟨h5, _⟩ | ⟨r, e', c0, os, h5, h6, h7⟩
      · rw [hc] at h5
        simp at h5
      · right
        rw [hc] at h5
        rcases cs with _ | ⟨c, cs⟩
        · simp only [List.nil_append, List.cons.injEq] at h5
          obtain rfl : v = r := congrArg Prod.fst h5.1
          have := (h7 v hvo).1
          have := h.lo v hvo
          omega
        · simp only [List.cons_append, List.cons.injEq] at h5
          obtain ⟨rfl, _⟩ := h5
          exact ⟨r, e', cs, os, rfl, h6, h7⟩

/-- the low of an open vertex is turned down -/
theorem TI.lower {fr to : List Nat} {s : CS} (h : TI fr to s) (hne : s.calls ≠ []) {u : Nat} (hu : u ∈ s.opn) (n : Nat) (hn : (∃ y ∈ s.opn, n = s.idx.getD y 0) ∨ ∃ y ∈ s.opn, n = s.low.getD y 0) :
    TI fr to { s with low := s.low.set u (min (s.low.getD u 0) n) } := by
  have hul : u < s.low.length := by rw [h.ll]; exact (h.ob u hu).1
  refine ⟨h.lc, h.li, by simpa using h.ll, h.sub, h.nd, h.ob, h.ce, h.vis, h.iv, h.op, h.cv, h.cl, h.oc, h.un, ?_, ?_⟩
  · intro y hy
    simp only
    rw [getD_set _ _ _ _ _ hul]
    have := h.lo y hy
    split
    · next he => subst he; omega
    · exact this
  · rcases h.rt with ⟨h1, _⟩ | ⟨r, e, cs, os, h1, h2, h3⟩
    · exact absurd h1 hne
    · refine .inr ⟨r, e, cs, os, h1, h2, fun y hy => ⟨?_, (h3 y hy).2⟩⟩
      simp only
      rw [getD_set _ _ _ _ _ hul]
      have := (h3 y hy).1
      have hu' := (h3 u hu).1
      split
      · rcases hn with ⟨z, hz, rfl⟩ | ⟨z, hz, rfl⟩
        · have := (h3 z hz).2; omega
        · have := (h3 z hz).1; omega
      · exact this

theorem TI.edge {fr to : List Nat} {s : CS} (h : TI fr to s) {cs : List (Nat × Nat)} {v e : Nat} (hc : s.calls = cs ++ [(v, e)]) (he : e < fr.getD (v + 1) 0) : TI fr to { s with calls := cs ++ [(v, e + 1)] } := by
  refine ⟨h.lc, h.li, h.ll, ?_, h.nd, h.ob, ?_, h.vis, h.iv, h.op, h.cv, h.cl, h.oc, h.un, h.lo, ?_⟩
  · have := h.sub
    rw [hc] at this
    simpa using this
  · intro p hp
    rcases List.mem_append.1 hp with hp | hp
    · exact h.ce p (by rw [hc]; simp [hp])
    · simp at hp
      subst hp
      have := (h.ce (v, e) (by rw [hc]; simp)).1
      simp only at this ⊢
      omega
  · rcases h.rt with ⟨h1, _⟩ | ⟨r, e', c0, os, h1, h2, h3⟩
    · rw [hc] at h1
      simp at h1
    · right
      rw [hc] at h1
      rcases cs with _ | ⟨c, cs⟩
      · simp only [List.nil_append, List.cons.injEq] at h1
        obtain rfl : v = r := congrArg Prod.fst h1.1
        exact ⟨v, e + 1, [], os, rfl, h2, h3⟩
      · simp only [List.cons_append, List.cons.injEq] at h1
        obtain ⟨rfl, _⟩ := h1
        exact ⟨r, e', cs ++ [(v, e + 1)], os, rfl, h2, h3⟩

theorem TI.step {fr to : List Nat} {s : CS} (G : GW fr to) (h : TI fr to s) (hne : s.calls ≠ []) :
    ∃ s', stepP fr to s = some s' ∧ TI fr to s' ∧ mu fr to s' < mu fr to s ∧ ∀ y, s.idx.getD y 0 ≠ 0 → s'.idx.getD y 0 ≠ 0 := by
  obtain ⟨cs, ⟨v, e⟩, hc⟩ : ∃ cs p, s.calls = cs ++ [p] := by
    rcases List.eq_nil_or_concat s.calls with h1 | ⟨a, b, h1⟩
    · exact absurd h1 hne
    · exact ⟨a, b, by simpa using h1⟩
  have hvo : v ∈ s.opn := h.callv (p := (v, e)) (by rw [hc]; simp)
  have hv := (h.ob v hvo).1
  have hce := h.ce (v, e) (by rw [hc]; simp)
  simp only at hce
  have e0 : fr[v + 1]? = some (fr.getD (v + 1) 0) := get_of_lt _ _ _ (by omega)
  have e1 : s.low[v]? = some (s.low.getD v 0) := get_of_lt _ _ _ (by rw [h.ll]; exact hv)
  have hms : csum fr s.calls = csum fr cs + (fr.getD (v + 1) 0 - e + 1) := by rw [hc, csum_append, csum_one]
  have htop := G.top (v + 1)
  by_cases he : e < fr.getD (v + 1) 0
  · have hE := h.edge hc he
    have hel : e < to.length := by omega
    have e2 : to[e]? = some (to.getD e 0) := get_of_lt _ _ _ hel
    have hx : to.getD e 0 < fr.length - 1 := G.inb _ (List.mem_of_getElem? e2)
    generalize to.getD e 0 = x at e2 hx
    have e3 : s.idx[x]? = some (s.idx.getD x 0) := get_of_lt _ _ _ (by rw [h.li]; exact hx)
    have e4 : s.comp[x]? = some (s.comp.getD x 0) := get_of_lt _ _ _ (by rw [h.lc]; exact hx)
    have hm1 : csum fr (cs ++ [(v, e + 1)]) + 1 = csum fr s.calls := by
      rw [hms, csum_append, csum_one]
      simp only
      omega
    by_cases h0 : s.idx.getD x 0 = 0
    · obtain ⟨s', h1, h2, h3, h4, h5, _⟩ := hE.visit G hx h0
      refine ⟨s', ?_, h2, ?_, h5⟩
      · unfold stepP
        simp only [hc, getLast_concat, e0, if_pos he, e2, e3, e4, e1, if_pos h0, List.dropLast_concat]
        exact h1
      · have h3' : unv s' + 1 = unv s := h3
        have hdeg := G.top (x + 1)
        unfold mu
        rw [h4]
        simp only
        rw [csum_append, csum_one, ← hm1, ← h3', Nat.add_mul]
        simp only
        omega
    · by_cases h1 : s.comp.getD x 0 < 0
      · have hxo : x ∈ s.opn := by
          rcases h.cl x hx h0 with h2 | h2
          · exact h2
          · omega
        refine ⟨_, ?_, hE.lower (by simp) (u := v) hvo (s.idx.getD x 0) (.inl ⟨x, hxo, rfl⟩), ?_, fun _ h => h⟩
        · unfold stepP
          simp only [hc, getLast_concat, e0, if_pos he, e2, e3, e4, e1, if_neg h0, if_pos h1, List.dropLast_concat]
        · show csum fr (cs ++ [(v, e + 1)]) + unv s * _ < csum fr s.calls + unv s * _
          omega
      · refine ⟨_, ?_, hE, ?_, fun _ h => h⟩
        · unfold stepP
          simp only [hc, getLast_concat, e0, if_pos he, e2, e3, e4, e1, if_neg h0, if_neg h1, List.dropLast_concat]
        · show csum fr (cs ++ [(v, e + 1)]) + unv s * _ < csum fr s.calls + unv s * _
          omega
  · rcases List.eq_nil_or_concat cs with rfl | ⟨c2, ⟨u, eu⟩, hcs⟩
    · obtain ⟨s', h1, h2, h3, h4⟩ := h.finish G hc
      refine ⟨s', ?_, h2, ?_, fun y hy => by rw [h4]; exact hy⟩
      · unfold stepP
        simp only [hc, getLast_concat, e0, if_neg he, List.dropLast_concat, List.getLast?_nil]
        exact h1
      · unfold mu unv
        rw [h3, h4, hms]
        omega
    · rw [List.concat_eq_append] at hcs
      have huo : u ∈ s.opn := h.callv (p := (u, eu)) (by rw [hc, hcs]; simp)
      have e5 : s.low[u]? = some (s.low.getD u 0) := get_of_lt _ _ _ (by rw [h.ll]; exact (h.ob u huo).1)
      have hL := h.lower hne (u := u) huo (s.low.getD v 0) (.inr ⟨v, hvo, rfl⟩)
      obtain ⟨s', h1, h2, h3, h4⟩ := hL.finish G (cs := cs) hc
      refine ⟨s', ?_, h2, ?_, fun y hy => by rw [h4]; exact hy⟩
      · unfold stepP
        simp only [hc, getLast_concat, e0, if_neg he, List.dropLast_concat]
        rw [show cs.getLast? = some (u, eu) by rw [hcs]; simp]
        simp only [e5, e1]
        exact h1
      · unfold mu unv
        rw [h3, h4, hms]
        simp only
        omega

theorem TI.inner {fr to : List Nat} (G : GW fr to) : ∀ (n : Nat) (s : CS), TI fr to s → mu fr to s < n →
    ∃ s', innerP fr to n s = some s' ∧ TI fr to s' ∧ s'.calls = [] ∧ ∀ y, s.idx.getD y 0 ≠ 0 → s'.idx.getD y 0 ≠ 0
  | 0, _, _, hm => by omega
  | n + 1, s, h, hm => by
    by_cases hc : s.calls = []
    · exact ⟨s, by rw [innerP, if_pos hc], h, hc, fun _ h => h⟩
    · obtain ⟨s1, h1, h2, h3, h4⟩ := h.step G hc
      obtain ⟨s2, h5, h6, h7, h8⟩ := TI.inner G n s1 h2 (by omega)
      exact ⟨s2, by rw [innerP, if_neg hc, h1]; exact h5, h6, h7, fun y hy => h8 y (h4 y hy)⟩

theorem unv_le {fr to : List Nat} {s : CS} (h : TI fr to s) : unv s ≤ fr.length - 1 := by
  have := h.vis
  omega

theorem TI.roots {fr to : List Nat} (G : GW fr to) (fuel : Nat) (hf : fr.length * (to.length + 2) < fuel) : ∀ (k r : Nat) (s : CS), TI fr to s → s.calls = [] → r + k = fr.length - 1 → (∀ y, y < r → s.idx.getD y 0 ≠ 0) →
    ∃ s', rootsP fr to fuel k r s = some s' ∧ TI fr to s' ∧ s'.calls = [] ∧ ∀ y, y < fr.length - 1 → s'.idx.getD y 0 ≠ 0
  | 0, r, s, h, hc, hr, hy => ⟨s, rfl, h, hc, fun y hl => hy y (by omega)⟩
  | k + 1, r, s, h, hc, hr, hy => by
    have hrl : r < fr.length - 1 := by omega
    have e1 : s.idx[r]? = some (s.idx.getD r 0) := get_of_lt _ _ _ (by rw [h.li]; exact hrl)
    by_cases h0 : s.idx.getD r 0 = 0
    · obtain ⟨s1, h1, h2, h3, h4, h5, h6⟩ := h.visit G hrl h0
      have hmu : mu fr to s1 < fuel := by
        have hu := unv_le h
        have ht := G.top (r + 1)
        have hp := G.pos
        unfold mu
        rw [h4, hc, List.nil_append, csum_one]
        simp only
        have h7 : (unv s1 + 1) * (to.length + 2) ≤ fr.length * (to.length + 2) := Nat.mul_le_mul_right _ (by omega)
        rw [Nat.add_mul] at h7
        omega
      obtain ⟨s2, g1, g2, g3, g4⟩ := TI.inner G fuel s1 h2 hmu
      obtain ⟨s3, g5, g6, g7, g8⟩ := TI.roots G fuel hf k (r + 1) s2 g2 g3 (by omega) (fun y hl => by
        by_cases hyr : y = r
        · subst hyr; exact g4 y h6
        · exact g4 y (h5 y (hy y (by omega))))
      refine ⟨s3, ?_, g6, g7, g8⟩
      rw [rootsP, e1]
      simp only
      rw [if_pos h0, h1]
      simp only [Option.bind_some]
      rw [g1]
      simp only [Option.bind_some]
      exact g5
    · obtain ⟨s3, g5, g6, g7, g8⟩ := TI.roots G fuel hf k (r + 1) s h hc (by omega) (fun y hl => by
        by_cases hyr : y = r
        · subst hyr; exact h0
        · exact hy y (by omega))
      refine ⟨s3, ?_, g6, g7, g8⟩
      rw [rootsP, e1]
      simp only
      rw [if_neg h0]
      exact g5

theorem getD_replicate_int (n i : Nat) (a d : Int) (h : i < n) : (List.replicate n a).getD i d = a := by
  rw [List.getD_eq_getElem?_getD]
  simp [h]
theorem getD_replicate_zero (n i : Nat) : (List.replicate n 0).getD i 0 = 0 := by
  rw [List.getD_eq_getElem?_getD]
  by_cases h : i < n <;> simp [h]

theorem TI.start {fr to : List Nat} : TI fr to (startP (fr.length - 1)) := by
  refine ⟨by simp [startP], by simp [startP], by simp [startP], by simp [startP], by simp [startP], by simp [startP], by simp [startP], by simp [startP, unv], fun x => ?_, by simp [startP], fun x hx => ?_, fun x hx h0 => ?_, by simp [startP], fun x hx _ => ?_, by simp [startP], .inl ⟨rfl, rfl⟩⟩
  · unfold startP; simp only; rw [getD_replicate_zero]; omega
  · left; exact getD_replicate_int _ _ _ _ hx
  · exact absurd (getD_replicate_zero _ _) h0
  · exact getD_replicate_int _ _ _ _ hx

/-- components answers, and numbers every vertex -/
theorem compP_some {fr to : List Nat} (G : GW fr to) (fuel : Nat) (hf : fr.length * (to.length + 2) < fuel) :
    ∃ s, compP fr to fuel = some s ∧ s.comp.length = fr.length - 1 ∧ s.cnt ≤ fr.length - 1 ∧ ∀ x, x < fr.length - 1 → 0 ≤ s.comp.getD x 0 ∧ s.comp.getD x 0 < (s.cnt : Int) := by
  obtain ⟨s, h1, h2, h3, h4⟩ := TI.roots G fuel hf (fr.length - 1) 0 _ TI.start rfl (by omega) (fun y hy => by omega)
  have ho : s.opn = [] := by
    rcases h2.rt with ⟨_, h5⟩ | ⟨r, e, cs, os, h5, _, _⟩
    · exact h5
    · rw [h3] at h5; cases h5
  refine ⟨s, h1, h2.lc, ?_, fun x hx => ?_⟩
  · have := h2.op
    have := h2.vis
    omega
  · rcases h2.cl x hx (h4 x hx) with h5 | h5
    · rw [ho] at h5; cases h5
    · have := h2.cv x hx
      omega
end Go.Proofs.Ybulkbewa
