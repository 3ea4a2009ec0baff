/- what Judge counts. -/
import Derived.Test.YbulkbewaPReach
namespace Go.Proofs.Ybulkbewa

def newc : List Nat → List Nat → Nat
  | _, [] => 0
  | pre, e :: es => (if e ∈ pre then 0 else 1) + newc (pre ++ [e]) es
def dupc : List Nat → List Nat → Nat
  | _, [] => 0
  | pre, e :: es => (if e ∈ pre then 1 else 0) + dupc (pre ++ [e]) es

theorem new_dup : ∀ (es pre : List Nat), newc pre es + dupc pre es = es.length
  | [], _ => rfl
  | e :: es, pre => by
    have := new_dup es (pre ++ [e])
    rw [newc, dupc, List.length_cons]
    split <;> omega

theorem newc_range (E : Nat) : ∀ (es pre : List Nat), (∀ e ∈ es, e < E) → newc pre es = (List.range E).countP fun x => decide (x ∈ es ∧ x ∉ pre)
  | [], pre, _ => by simp [newc]
  | e :: es, pre, h => by
    have he := h e (by simp)
    rw [newc, newc_range E es (pre ++ [e]) (fun x hx => h x (by simp [hx]))]
    by_cases hp : e ∈ pre
    · rw [if_pos hp, Nat.zero_add]
      apply List.countP_congr
      intro x _
      simp only [decide_eq_true_eq, List.mem_append, List.mem_cons, List.not_mem_nil, or_false]
      constructor
      · rintro ⟨h1, h2⟩
        exact ⟨.inr h1, fun h3 => h2 (.inl h3)⟩
      · rintro ⟨h1, h2⟩
        have hxe : x ≠ e := fun e' => h2 (e' ▸ hp)
        rcases h1 with h1 | h1
        · exact absurd h1 hxe
        · exact ⟨h1, fun h3 => h3.elim h2 hxe⟩
    · rw [if_neg hp]
      have key : ∀ (l : List Nat), l.countP (fun x => decide (x ∈ e :: es ∧ x ∉ pre)) = l.countP (fun x => decide (x ∈ es ∧ x ∉ pre ++ [e])) + l.count e := by
        intro l
        induction l with
        | nil => rfl
        | cons x l ih =>
          rw [List.countP_cons, List.countP_cons, List.count_cons, ih]
          by_cases hxe : x = e
          · subst hxe
            simp [hp]
            omega
          · simp [hxe]
            omega
      rw [key, List.count_range, if_pos he]
      omega

theorem firstP_some (b : Bool) (E M : Nat) (full : List Nat) : ∀ (es pre : List Nat) (s : WS) (held : List Nat) (n : Nat), full = pre ++ es → (∀ e ∈ es, e < E) → s.member = M → s.seen.length = E → s.first.length = E → held.length = E →
    (∀ e, e < E → (s.seen.getD e 0 = M ↔ e ∈ pre)) → (∀ e ∈ pre, s.first.getD e 0 = full.idxOf e) → (∀ e, held.getD e 0 + es.length < big) → n + es.length < big →
    ∃ s' held', firstP b es pre.length s held n = some (s', held', n + newc pre es) ∧ s'.member = M ∧ s'.seen.length = E ∧ s'.first.length = E ∧ held'.length = E ∧ s'.done = s.done ∧ s'.latest = s.latest ∧ s'.stack = s.stack ∧
      (∀ e, s'.seen.getD e 0 = s.seen.getD e 0 ∨ s'.seen.getD e 0 = M) ∧ (∀ e ∈ full, s'.first.getD e 0 = full.idxOf e) ∧
      ∀ e, e < E → held'.getD e 0 = held.getD e 0 + if b = true ∧ e ∈ es ∧ e ∉ pre then 1 else 0
  | [], pre, s, held, n, hf, h1, h2, h3, h4, h5, h6, h7, h8, h9 => by
    refine ⟨s, held, rfl, h2, h3, h4, h5, rfl, rfl, rfl, fun e => .inl rfl, fun e he => h7 e (by rw [hf] at he; simpa using he), fun e _ => by simp⟩
  | e :: es, pre, s, held, n, hf, h1, h2, h3, h4, h5, h6, h7, h8, h9 => by
    have he := h1 e (by simp)
    simp only [List.length_cons] at h8 h9
    have hf' : full = (pre ++ [e]) ++ es := by rw [hf]; simp
    have hl : (pre ++ [e]).length = pre.length + 1 := by simp
    have hh := h8 e
    rw [firstP, get_of_lt s.seen e 0 (by omega), get_of_lt s.first e 0 (by omega), get_of_lt held e 0 (by omega)]
    simp only
    rw [if_pos ⟨by omega, by omega⟩, h2]
    by_cases hp : e ∈ pre
    · rw [if_pos ((h6 e he).2 hp)]
      obtain ⟨s', held', g1, g2, g3, g4, g5, g6, g7, g8, g9, g10, g11⟩ := firstP_some b E M full es (pre ++ [e]) s held n hf' (fun x hx => h1 x (by simp [hx])) h2 h3 h4 h5 (fun x hx => by
        rw [h6 x hx]
        simp only [List.mem_append, List.mem_singleton]
        exact ⟨.inl, fun h => h.elim id (fun e' => e' ▸ hp)⟩) (fun x hx => by
        rcases List.mem_append.1 hx with hx | hx
        · exact h7 x hx
        · simp at hx; subst hx; exact h7 x hp) (fun x => by have := h8 x; omega) (by omega)
      rw [hl] at g1
      refine ⟨s', held', by rw [g1, newc, if_pos hp, Nat.zero_add], g2, g3, g4, g5, g6, g7, g8, g9, g10, fun x hx => ?_⟩
      rw [g11 x hx]
      congr 1
      simp only [List.mem_append, List.mem_cons]
      by_cases hxe : x = e
      · subst hxe; simp [hp]
      · simp [hxe]
    · rw [if_neg (fun h => hp ((h6 e he).1 h))]
      have hsx : e < s.seen.length := by omega
      have hfx : e < s.first.length := by omega
      have hhx : e < held.length := by omega
      have hidx : full.idxOf e = pre.length := by
        rw [hf, List.idxOf_append, if_neg hp]
        simp
      obtain ⟨s', held', g1, g2, g3, g4, g5, g6, g7, g8, g9, g10, g11⟩ := firstP_some b E M full es (pre ++ [e]) { s with seen := s.seen.set e s.member, first := s.first.set e pre.length } (if b then held.set e (held.getD e 0 + 1) else held) (n + 1) hf' (fun x hx => h1 x (by simp [hx])) h2 (by simpa using h3) (by simpa using h4) (by split <;> simp [h5]) (fun x hx => by
        simp only
        rw [getD_set _ _ _ _ _ hsx, h2]
        simp only [List.mem_append, List.mem_singleton]
        by_cases hxe : x = e
        · simp [hxe]
        · simp only [hxe, if_false, or_false]
          exact h6 x hx) (fun x hx => by
        simp only
        rw [getD_set _ _ _ _ _ hfx]
        by_cases hxe : x = e
        · rw [if_pos hxe, hxe, hidx]
        · rw [if_neg hxe]
          rcases List.mem_append.1 hx with hx | hx
          · exact h7 x hx
          · simp at hx; contradiction) (fun x => by
        have := h8 x
        split
        · rw [getD_set _ _ _ _ _ hhx]
          split
          · next h => subst h; omega
          · omega
        · omega) (by omega)
      rw [hl] at g1
      simp only at g6 g7 g8 g9
      refine ⟨s', held', by rw [← h2, g1, newc, if_neg hp]; congr 3; omega, g2, g3, g4, g5, g6, g7, g8, fun x => ?_, g10, fun x hx => ?_⟩
      · rcases g9 x with g | g
        · rw [g, getD_set _ _ _ _ _ hsx]
          split
          · exact .inr h2
          · exact .inl rfl
        · exact .inr g
      · rw [g11 x hx]
        by_cases hxe : x = e
        · subst hxe
          cases b
          · simp
          · simp only [if_true, true_and]
            rw [getD_set _ _ _ _ _ hhx]
            simp [hp]
        · have : (if b = true then held.set e (held.getD e 0 + 1) else held).getD x 0 = held.getD x 0 := by
            split
            · rw [getD_set _ _ _ _ _ hhx, if_neg hxe]
            · rfl
          rw [this]
          congr 1
          simp [hxe]

theorem passP_some {d : DG} {E p : Nat} (D : DW d E p) {evs : List EV} (hE : evs.length = E) (hp : ∀ ev ∈ evs, ∀ q ∈ ev.pasts, q < p) (fuel : Nat) (hf : 10000000000000 ≤ fuel) (full : List Nat) :
    ∀ (es pre : List Nat) (s : WS) (u r : Nat), full = pre ++ es → (∀ e ∈ es, e < E) → RI d E s → s.stack = [] → (∀ e ∈ full, s.first.getD e 0 = full.idxOf e) → u + es.length < big → r + es.length < big →
    ∃ s' r', passP d evs fuel es pre.length s u r = some (s', u + dupc pre es, r') ∧ r' ≤ r + es.length ∧ RI d E s' ∧ s'.stack = [] ∧ s'.seen = s.seen ∧ s'.member = s.member
  | [], pre, s, u, r, _, _, h2, h3, _, _, _ => ⟨s, r, rfl, by simp, h2, h3, rfl, rfl⟩
  | e :: es, pre, s, u, r, h0, h1, h2, h3, h4, h5, h6 => by
    have he := h1 e (by simp)
    simp only [List.length_cons] at h5 h6 ⊢
    have e1 : s.first[e]? = some (s.first.getD e 0) := get_of_lt _ _ _ (by rw [h2.lf]; exact he)
    have hel : e < evs.length := by omega
    have e2 : evs[e]? = some evs[e] := List.getElem?_eq_getElem hel
    obtain ⟨q, g1, g2, g3, g4, g5, g6⟩ := beforeP_some D fuel hf evs[e].pasts s (-1) h2 h3 (fun x hx => hp _ (List.getElem_mem hel) x hx)
    have hdec : s.first.getD e 0 < pre.length ↔ e ∈ pre := by
      rw [h4 e (by rw [h0]; simp), h0, List.idxOf_append]
      by_cases hpe : e ∈ pre
      · rw [if_pos hpe]; simp [hpe, List.idxOf_lt_length_iff]
      · rw [if_neg hpe]; simp [hpe]
    obtain ⟨s', r', f1, f2, f3, f4, f5, f6⟩ := passP_some D hE hp fuel hf full es (pre ++ [e]) q.1 (if s.first.getD e 0 < pre.length then u + 1 else u) (if (pre.length : Int) ≤ q.2 then r + 1 else r) (by rw [h0]; simp) (fun x hx => h1 x (by simp [hx])) g2 g3 (fun x hx => by rw [g6]; exact h4 x hx) (by split <;> omega) (by split <;> omega)
    refine ⟨s', r', ?_, by split at f2 <;> omega, f3, f4, f5.trans g5, f6.trans g4⟩
    rw [passP, e1, e2]
    simp only
    rw [if_pos ⟨by omega, by omega⟩, g1]
    simp only
    rw [List.length_append, List.length_singleton] at f1
    rw [f1, dupc]
    congr 3
    by_cases hpe : e ∈ pre
    · rw [if_pos (hdec.2 hpe), if_pos hpe]; omega
    · rw [if_neg (fun h => hpe (hdec.1 h)), if_neg hpe]; omega

theorem membersP_some {d : DG} {E p : Nat} (D : DW d E p) {evs : List EV} (hE : evs.length = E) (hp : ∀ ev ∈ evs, ∀ q ∈ ev.pasts, q < p) (fuel : Nat) (hf : 10000000000000 ≤ fuel) (sv : Int → Bool) :
    ∀ (L : List MB) (i : Nat) (a : JA), (∀ m ∈ L, m.dv.length ≤ 1024 ∧ ∀ e ∈ m.dv, e < E) → i + L.length ≤ 100 → a.dlv.length ≤ i → RI d E { a.s with member := i } → a.s.stack = [] → (∀ e, a.s.seen.getD e 0 ≤ i) → a.held.length = E →
    (∀ e, a.held.getD e 0 ≤ i) → a.dup ≤ i * 1024 → a.run ≤ i * 1024 →
    ∃ a', membersP d evs fuel sv L i a = some a' ∧ a'.dup = a.dup + (L.map fun m => dupc [] m.dv).sum ∧ a'.dlv = a.dlv ++ L.map (fun m => (m.id, newc [] m.dv)) ∧ a'.held.length = E ∧
      ∀ e, e < E → a'.held.getD e 0 = a.held.getD e 0 + L.countP fun m => sv m.id && decide (e ∈ m.dv)
  | [], i, a, _, _, _, _, _, _, h6, _, _, _ => ⟨a, rfl, by simp, by simp, h6, fun e _ => by simp⟩
  | m :: L, i, a, h1, h2, h3, h4, h5, h5', h6, h7, h8, h9 => by
    obtain ⟨m1, m2⟩ := h1 m (by simp)
    simp only [List.length_cons] at h2
    have hbg : big = 1000000000 := rfl
    obtain ⟨s1, held1, f1, f2, f3, f4, f5, f6, f7, f8, f9, f10, f11⟩ := firstP_some (sv m.id) E (i + 1) m.dv m.dv [] { a.s with member := i + 1 } a.held 0 rfl m2 rfl h4.ls h4.lf h6 (fun e _ => by
        have := h5' e
        simp only [List.not_mem_nil, iff_false]
        omega) (by simp) (fun e => by have := h7 e; omega) (by omega)
    simp only at f6 f7 f8
    simp only [List.length_nil, Nat.zero_add] at f1
    have hR1 : RI d E s1 := by
      refine ⟨f3, f4, by rw [f6]; exact h4.ld, by rw [f7]; exact h4.ll, by rw [f8, h5]; simp, ?_⟩
      rw [f8, h5, List.length_nil, Nat.zero_add]
      have : s1.done.length = d.nextFrom.length - 1 := by rw [f6]; exact h4.ld
      rw [← this]
      exact List.countP_le_length
    obtain ⟨s2, r2, g1, g2, g3, g4, g5, g6⟩ := passP_some D hE hp fuel hf m.dv m.dv [] s1 a.dup a.run rfl m2 hR1 (by rw [f8, h5]) f10 (by omega) (by omega)
    simp only [List.length_nil] at g1
    have hdl : dupc [] m.dv ≤ m.dv.length := by have := new_dup m.dv []; omega
    have hR2 : RI d E { s2 with member := i + 1 } := by
      have : s2 = { s2 with member := i + 1 } := by
        cases s2
        simp only at g6
        simp [g6, f2]
      rw [← this]; exact g3
    obtain ⟨a', q1, q2, q3, q4, q5⟩ := membersP_some D hE hp fuel hf sv L (i + 1) ⟨s2, held1, a.dup + dupc [] m.dv, r2, a.dlv ++ [(m.id, newc [] m.dv)]⟩ (fun x hx => h1 x (by simp [hx])) (by omega) (by simp; omega) hR2 g4 (fun e => by
        simp only
        rw [g5]
        have := h5' e
        rcases f9 e with h | h
        · rw [h]; simp only; omega
        · omega) f5 (fun e => by
        simp only
        by_cases he : e < E
        · rw [f11 e he]
          have := h7 e
          split <;> omega
        · rw [List.getD_eq_getElem?_getD, List.getElem?_eq_none (by omega)]
          simp) (by simp only; omega) (by simp only; omega)
    refine ⟨a', ?_, ?_, ?_, q4, fun e he => ?_⟩
    · rw [membersP, if_pos ⟨by omega, by omega, by omega⟩, f1]
      simp only
      rw [g1]
      exact q1
    · rw [q2]; simp only [List.map_cons, List.sum_cons]; omega
    · rw [q3]; simp
    · rw [q5 e he]
      simp only
      rw [f11 e he, List.countP_cons]
      simp only [List.not_mem_nil, not_false_eq_true, and_true, Bool.and_eq_true, decide_eq_true_eq]
      omega

theorem tallyP_some (ns : Nat) (held : List Nat) : ∀ (evs : List EV) (e u g : Nat), e + evs.length ≤ held.length → u + (evs.map (·.dl)).sum < big → g + evs.length < big →
    tallyP ns evs e held u g = some (u + (evs.map fun ev => if ev.bc then 0 else ev.dl).sum, g + (List.range' e evs.length).countP fun x => decide (0 < held.getD x 0 ∧ held.getD x 0 < ns))
  | [], e, u, g, _, _, _ => by simp [tallyP]
  | ev :: evs, e, u, g, h1, h2, h3 => by
    simp only [List.length_cons, List.map_cons, List.sum_cons] at h1 h2 h3 ⊢
    rw [tallyP, get_of_lt held e 0 (by omega)]
    simp only
    rw [if_pos ⟨by omega, by omega⟩, tallyP_some ns held evs (e + 1) _ _ (by omega) (by split <;> omega) (by split <;> omega), List.range'_succ, List.countP_cons]
    congr 2
    · split <;> omega
    · simp only [decide_eq_true_eq]
      split <;> omega

theorem judgeP_some {K : KS} {d : DG} (D : DW d K.evs.length K.pasts.length) (hp : ∀ ev ∈ K.evs, ∀ q ∈ ev.pasts, q < K.pasts.length) (fuel : Nat) (hf : 10000000000000 ≤ fuel) (sv : Int → Bool) (ns : Nat) (L : List MB)
    (hL : ∀ m ∈ L, m.dv.length ≤ 1024 ∧ ∀ e ∈ m.dv, e < K.evs.length) (hLl : L.length ≤ 100) (hd : (K.evs.map (·.dl)).sum < big) (hEl : K.evs.length < big) :
    ∃ a, judgeP K d fuel sv ns L = some (a, (K.evs.map fun ev => if ev.bc then 0 else ev.dl).sum, (List.range K.evs.length).countP fun x => decide (0 < (L.countP fun m => sv m.id && decide (x ∈ m.dv)) ∧ (L.countP fun m => sv m.id && decide (x ∈ m.dv)) < ns)) ∧
      a.dup = (L.map fun m => dupc [] m.dv).sum ∧ a.dlv = L.map fun m => (m.id, newc [] m.dv) := by
  obtain ⟨a, h1, h2, h3, h4, h5⟩ := membersP_some D rfl hp fuel hf sv L 0 ⟨⟨0, List.replicate K.evs.length 0, List.replicate K.evs.length 0, List.replicate (d.nextFrom.length - 1) 0, List.replicate (d.nextFrom.length - 1) 0, []⟩, List.replicate K.evs.length 0, 0, 0, []⟩ hL (by omega) (by simp) ⟨by simp, by simp, by simp, by simp, by simp, by simp only [List.length_nil, Nat.zero_add]; exact Nat.le_trans List.countP_le_length (by simp)⟩ rfl (fun e => by simp only; rw [getD_replicate_zero]; omega) (by simp) (fun e => by simp only; rw [getD_replicate_zero]; omega) (by simp) (by simp)
  refine ⟨a, ?_, by rw [h2]; simp, by rw [h3]; simp⟩
  unfold judgeP
  rw [h1]
  simp only
  rw [tallyP_some ns a.held K.evs 0 0 0 (by omega) (by omega) (by omega)]
  simp only [Nat.zero_add, List.range_eq_range']
  congr 3
  apply List.countP_congr
  intro x hx
  have hx' : x < K.evs.length := by simpa using hx
  rw [h5 x hx']
  simp only
  rw [getD_replicate_zero, Nat.zero_add]
end Go.Proofs.Ybulkbewa
