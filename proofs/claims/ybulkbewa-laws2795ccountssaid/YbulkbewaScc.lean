import Derived.Test.YbulkbewaVisit
import Derived.Deep.QuietTactic
import Derived.BigQuiet
import Derived.Lib.MinMax
namespace Go.Proofs.Ybulkbewa
open Go.RowKit

def popP : Nat → CS → Nat → Option CS
  | 0, _, _ => none
  | n + 1, s, v =>
    match s.opn.getLast? with
    | none => none
    | some x =>
      if x < s.comp.length then
        if x = v then some { s with opn := s.opn.dropLast, comp := s.comp.set x s.cnt }
        else popP n { s with opn := s.opn.dropLast, comp := s.comp.set x s.cnt } v
      else none

def finishP (s : CS) (v : Nat) : Option CS :=
  match s.low[v]?, s.idx[v]? with
  | some lv, some iv =>
    if lv = iv then
      match popP s.opn.length s v with
      | some s' => if s'.cnt < big then some { s' with cnt := s'.cnt + 1 } else none
      | none => none
    else some s
  | _, _ => none

def stepP (fr to : List Nat) (s : CS) : Option CS :=
  match s.calls.getLast? with
  | none => none
  | some (v, e) =>
    match fr[v + 1]? with
    | none => none
    | some hi =>
      if e < hi then
        match to[e]? with
        | none => none
        | some x =>
          match s.idx[x]?, s.comp[x]?, s.low[v]? with
          | some ix, some cx, some lv =>
            if ix = 0 then visitP fr { s with calls := s.calls.dropLast ++ [(v, e + 1)] } x
            else if cx < 0 then some { s with calls := s.calls.dropLast ++ [(v, e + 1)], low := s.low.set v (min lv ix) }
            else some { s with calls := s.calls.dropLast ++ [(v, e + 1)] }
          | _, _, _ => none
      else
        match s.calls.dropLast.getLast? with
        | none => finishP { s with calls := s.calls.dropLast } v
        | some (u, _) =>
          match s.low[u]?, s.low[v]? with
          | some lu, some lv => finishP { s with calls := s.calls.dropLast, low := s.low.set u (min lu lv) } v
          | _, _ => none

def innerP (fr to : List Nat) : Nat → CS → Option CS
  | 0, _ => none
  | n + 1, s => if s.calls = [] then some s else (stepP fr to s).bind (innerP fr to n)

def rootsP (fr to : List Nat) (fuel : Nat) : Nat → Nat → CS → Option CS
  | 0, _, s => some s
  | k + 1, r, s =>
    match s.idx[r]? with
    | none => none
    | some i => if i = 0 then (visitP fr s r).bind fun s1 => (innerP fr to fuel s1).bind (rootsP fr to fuel k (r + 1)) else rootsP fr to fuel k (r + 1) s

def startP (V : Nat) : CS := { comp := List.replicate V (-1), idx := List.replicate V 0, low := List.replicate V 0, opn := [], calls := [], vis := 0, cnt := 0 }

def compP (fr to : List Nat) (fuel : Nat) : Option CS := rootsP fr to fuel (fr.length - 1) 0 (startP (fr.length - 1))

theorem visitP_cnt {fr : List Nat} {s s' : CS} {v : Nat} (h : visitP fr s v = some s') : s'.cnt = s.cnt := by
  unfold visitP at h
  split at h
  · split at h
    · cases h; rfl
    · cases h
  · cases h

theorem last_split {α : Type} {l : List α} {x : α} (h : l.getLast? = some x) : ∃ a, l = a ++ [x] := by
  rcases List.eq_nil_or_concat l with rfl | ⟨a, y, rfl⟩
  · cases h
  · simp at h; subst h; exact ⟨a, by simp⟩

theorem stepP_cases {fr to : List Nat} {s s' : CS} (h : stepP fr to s = some s') : ∃ cs v e hi, s.calls = cs ++ [(v, e)] ∧ fr[v + 1]? = some hi ∧
    ((e < hi ∧ ∃ x ix cx lv, to[e]? = some x ∧ s.idx[x]? = some ix ∧ s.comp[x]? = some cx ∧ s.low[v]? = some lv ∧
        ((ix = 0 ∧ visitP fr { s with calls := cs ++ [(v, e + 1)] } x = some s') ∨ (ix ≠ 0 ∧ cx < 0 ∧ s' = { s with calls := cs ++ [(v, e + 1)], low := s.low.set v (min lv ix) }) ∨ (ix ≠ 0 ∧ ¬ cx < 0 ∧ s' = { s with calls := cs ++ [(v, e + 1)] }))) ∨
     (¬ e < hi ∧ ((cs = [] ∧ finishP { s with calls := cs } v = some s') ∨ ∃ cs' u e' lu lv, cs = cs' ++ [(u, e')] ∧ s.low[u]? = some lu ∧ s.low[v]? = some lv ∧ finishP { s with calls := cs, low := s.low.set u (min lu lv) } v = some s'))) := by
  unfold stepP at h
  split at h
  · cases h
  · rename_i v e hl
    obtain ⟨cs, hcs⟩ := last_split hl
    rw [hcs] at h
    simp only [List.dropLast_concat] at h
    split at h
    · cases h
    · rename_i hi hhi
      refine ⟨cs, v, e, hi, hcs, hhi, ?_⟩
      split at h
      · rename_i hlt
        refine .inl ⟨hlt, ?_⟩
        split at h
        · cases h
        · rename_i x hx
          split at h
          · rename_i ix cx lv h1 h2 h3
            refine ⟨x, ix, cx, lv, hx, h1, h2, h3, ?_⟩
            split at h
            · exact .inl ⟨by assumption, h⟩
            · split at h
              · exact .inr (.inl ⟨by assumption, by assumption, (Option.some.inj h).symm⟩)
              · exact .inr (.inr ⟨by assumption, by assumption, (Option.some.inj h).symm⟩)
          · cases h
      · rename_i hlt
        refine .inr ⟨hlt, ?_⟩
        split at h
        · rename_i hn
          exact .inl ⟨List.getLast?_eq_none_iff.1 hn, h⟩
        · rename_i u e' hu
          obtain ⟨cs', hcs'⟩ := last_split hu
          split at h
          · rename_i lu lv h1 h2
            exact .inr ⟨cs', u, e', lu, lv, hcs', h1, h2, h⟩
          · cases h

theorem finishP_cases {s s' : CS} {v : Nat} (h : finishP s v = some s') : ∃ lv iv, s.low[v]? = some lv ∧ s.idx[v]? = some iv ∧
    ((lv ≠ iv ∧ s' = s) ∨ (lv = iv ∧ ∃ s1, popP s.opn.length s v = some s1 ∧ s1.cnt < big ∧ s' = { s1 with cnt := s1.cnt + 1 })) := by
  unfold finishP at h
  split at h
  · rename_i lv iv h1 h2
    refine ⟨lv, iv, h1, h2, ?_⟩
    split at h
    · split at h
      · split at h
        · exact .inr ⟨by assumption, _, by assumption, by assumption, (Option.some.inj h).symm⟩
        · cases h
      · cases h
    · exact .inl ⟨by assumption, (Option.some.inj h).symm⟩
  · cases h

theorem popP_cases {n : Nat} {s s' : CS} {v : Nat} (h : popP (n + 1) s v = some s') : ∃ os x, s.opn = os ++ [x] ∧ x < s.comp.length ∧
    ((x = v ∧ s' = { s with opn := os, comp := s.comp.set x s.cnt }) ∨ (x ≠ v ∧ popP n { s with opn := os, comp := s.comp.set x s.cnt } v = some s')) := by
  unfold popP at h
  split at h
  · cases h
  · rename_i x hx
    obtain ⟨os, hos⟩ := last_split hx
    rw [hos] at h
    simp only [List.dropLast_concat] at h
    split at h
    · refine ⟨os, x, hos, by assumption, ?_⟩
      split at h
      · exact .inl ⟨by assumption, (Option.some.inj h).symm⟩
      · exact .inr ⟨by assumption, h⟩
    · cases h

theorem popP_cnt : ∀ {n : Nat} {s s' : CS} {v : Nat}, popP n s v = some s' → s'.cnt = s.cnt
  | 0, _, _, _, h => by simp [popP] at h
  | n + 1, s, s', v, h => by
    obtain ⟨os, x, _, _, ⟨_, rfl⟩ | ⟨_, h'⟩⟩ := popP_cases h
    · rfl
    · exact (popP_cnt h').trans rfl

theorem CRep.cnt {N V : Nat} {w0 w : World} {vF vO vC : Value} {s : CS} (h : CRep N V w0 w vF s vO vC) (n : Nat) : CRep N V w0 w vF { s with cnt := n } vO vC :=
  ⟨h.b0, h.b1, h.b2, h.b3, h.b4, h.b5, h.b6, h.b7, h.b8, h.oO, h.oC, h.below, h.l1, h.l2, h.l4⟩

/-- the top call's edge, stored -/
theorem CRep.setTop {N V : Nat} {w0 w : World} {vF vO : Value} {s : CS} {g n cap : Nat} {cs : List (Nat × Nat)} {v e : Nat} (h : CRep N V w0 w vF s vO (.slice (some ⟨g, 0, none⟩) n cap)) (hc : s.calls = cs ++ [(v, e)]) (e' : Nat) :
    CRep N V w0 (w.setCell ⟨g, cs.length * 2 + 1, none⟩ (.int .i64 (e' : Int))) vF { s with calls := cs ++ [(v, e')] } vO (.slice (some ⟨g, 0, none⟩) n cap) := by
  have hg : N + 9 ≤ g := (h.oC.lt g rfl).1
  have k : ∀ b, b < N + 9 → (w.setCell ⟨g, cs.length * 2 + 1, none⟩ (.int .i64 (e' : Int))).heap[b]? = w.heap[b]? := fun b hb => Below.heap_setCell _ _ _ _ (fun e => by have : b = g := e; omega)
  have hn : n = s.calls.length := by
    rcases h.oC.2 with ⟨h0, _⟩ | ⟨g', cap', cur, h0, _⟩
    · cases h0
    · cases h0; rfl
  have hst := (show w.ownsRow (N + 9) 135 2 (.slice (some ⟨g, 0, none⟩) n cap) n (pairCells s.calls) by rw [hn]; rw [hn] at h; exact h.oC).stored (cs.length * 2 + 1) (.int .i64 (e' : Int))
  refine ⟨(k _ (by omega)).trans h.b0, (k _ (by omega)).trans h.b1, (k _ (by omega)).trans h.b2, (k _ (by omega)).trans h.b3, (k _ (by omega)).trans h.b4, (k _ (by omega)).trans h.b5, (k _ (by omega)).trans h.b6, (k _ (by omega)).trans h.b7, (k _ (by omega)).trans h.b8, ?_, ?_, h.below.setCell (by show N ≤ g; omega) _, h.l1, h.l2, h.l4⟩
  · exact h.oO.kept hst.2 (own_alone h.oC h.oO (by decide))
  · have e1 : (pairCells s.calls).set (cs.length * 2 + 1) (.int .i64 (e' : Int)) = pairCells (cs ++ [(v, e')]) := by
      rw [hc, pairCells_append, pairCells_append, List.set_append, pairCells_length, if_neg (by omega), show cs.length * 2 + 1 - cs.length * 2 = 1 by omega]
      rfl
    have e2 : (cs ++ [(v, e')]).length = n := by rw [hn, hc]; simp
    show World.ownsRow _ _ _ _ _ (cs ++ [(v, e')]).length (pairCells (cs ++ [(v, e')]))
    rw [e2, ← e1]
    exact hst.1

theorem CRep.drewN {N V : Nat} {w0 w : World} {vF vO vC : Value} {s : CS} (h : CRep N V w0 w vF s vO vC) (n : Nat) : CRep N V w0 (w.drewN n) vF s vO vC := by
  induction n generalizing w with
  | zero => exact h
  | succ n ih => exact (ih h).drew

theorem natRep (n : Nat) : Array.replicate n (Value.int .i64 0) = (natCells (List.replicate n 0)).toArray := by
  apply Array.ext'
  simp [natCells]

theorem made_nat (n : Nat) : madeCells (Value.int .i64 0).cells n = (natCells (List.replicate n 0)).toArray := by
  rw [← natRep]
  exact Array.ext' (by rw [show (Value.int .i64 0).cells = #[Value.int .i64 0] from rfl, toList_madeCells_one]; simp)

theorem make39 (W : World) (n : Nat) (hn : n ≤ 1000000000) : (Instr.makeSlice 39 (.int .i64 (n : Int)) (.int .i64 (n : Int))).run Yba.prog W = .ok (.slice (some ⟨W.heap.size, 0, none⟩) n n) (W.alloc (.cells (natCells (List.replicate n 0)).toArray 3)) := by
  obtain ⟨i3, h3i, h3z, h3s, h3b⟩ := info_parts info3
  rw [run_make W 39 3 i3 _ Yba.underlying39 h3i h3z .i64 .i64 n n (by omega) (by omega) (by rw [h3b]; omega) (by omega), Int.toNat_natCast, h3s, Nat.mul_one, made_nat]

theorem fill_step (V k : Nat) (h : k < V) : (List.replicate k (-1 : Int) ++ List.replicate (V - k) 0).set k (-1) = List.replicate (k + 1) (-1) ++ List.replicate (V - (k + 1)) 0 := by
  obtain ⟨m, hm⟩ : ∃ m, V - k = m + 1 := ⟨V - k - 1, by omega⟩
  rw [List.set_append, List.length_replicate, if_neg (Nat.lt_irrefl k), Nat.sub_self, hm, show V - (k + 1) = m by omega, List.replicate_succ, List.set_cons_zero, List.replicate_succ', List.append_assoc]
  rfl

theorem fill_get (V k : Nat) (h : k < V) : (List.replicate k (-1 : Int) ++ List.replicate (V - k) 0)[k]? = some 0 := by
  simp only [List.getElem?_append, List.getElem?_replicate, List.length_replicate, Nat.lt_irrefl, if_false, Nat.sub_self]
  rw [if_pos (by omega)]

set_option maxHeartbeats 3200000 in
set_option maxRecDepth 100000 in
theorem comp_any (w : World) (fr to : List Nat) (bF cF : Nat) (aT : Option Addr) (bT cT : Nat) (fuel : Nat) (sf : CS)
    (hFn : 0 < fr.length) (hFl : fr.length ≤ 1000000000) (hFb : bF < w.heap.size) (hF : ∀ (i n : Nat), fr[i]? = some n → w.cell? ⟨bF, i, none⟩ = some (.int .i64 (n : Int)))
    (hT : 0 < to.length → aT = some ⟨bT, 0, none⟩ ∧ bT < w.heap.size) (hTc : ∀ (i n : Nat), to[i]? = some n → w.cell? ⟨bT, i, none⟩ = some (.int .i64 (n : Int)))
    (hTl : to.length ≤ 1000000000) (hs : compP fr to fuel = some sf) :
    Calls Yba.prog 29 #[.slice (some ⟨bF, 0, none⟩) fr.length cF, .slice aT to.length cT] w fun e w' =>
      e = .returned (.tuple #[.slice (some ⟨w.heap.size + 1, 0, none⟩) (fr.length - 1) (fr.length - 1), .int .i64 (sf.cnt : Int)]) ∧ w'.heap[w.heap.size + 1]? = some (.cells (intCells sf.comp).toArray 3 (0, 0)) ∧ Below w.heap.size w w' := by
  obtain ⟨V, hV⟩ : ∃ V, fr.length = V + 1 := ⟨fr.length - 1, by omega⟩
  have hmk := fun W => make39 W V (by omega)
  have HV : Hid _ := hV
  have hV2 : V + 1 ≤ fr.length := by omega
  have hV3 : fr.length ≤ V + 1 := by omega
  have HS : Hid _ := And.intro hF (And.intro hTc hs)
  have hsub : ((fr.length : Int) - 1) = (V : Int) := by omega
  clear hF hTc hs hV
  go_enter Yba.func29, Yba.ntmps29
  go_wp2
  obtain ⟨N, hN⟩ : ∃ N, N = w.heap.size := ⟨_, rfl⟩
  rw [← hN]
  have HN : Hid _ := hN
  have hNl : N ≤ w.heap.size := by omega
  have hNg : w.heap.size ≤ N := by omega
  clear hN
  go_loopw [27] (fun i wx => ∃ k : Nat, k ≤ V ∧ i = .int .i64 k ∧ wx.heap[N]? = some (.cells #[.slice (some ⟨bF, 0, none⟩) fr.length cF] 39 (0, 0)) ∧ wx.heap[N + 1]? = some (.cells (intCells (List.replicate k (-1) ++ List.replicate (V - k) 0)).toArray 3 (0, 0)) ∧ wx.heap.size = N + 2 ∧ Below N w wx) (fun i _ => V - (intOf i).toNat)
  case atStart =>
    have hN := HN.out
    refine ⟨0, Nat.zero_le _, rfl, ?_, ?_, ?_, ?_⟩
    · rw [hN, Below.heap_alloc _ _ _ (by simp)]; exact heap_alloc_new _ _
    · rw [hN]
      have := heap_alloc_new (w.alloc (.cells #[.slice (some ⟨bF, 0, none⟩) fr.length cF] 39)) (.cells (natCells (List.replicate V 0)).toArray 3)
      rw [World.size_alloc] at this
      rw [this]
      simp [natCells, intCells]
    · simp [hN]
    · rw [hN]; exact ((Below.refl _ _).alloc (Nat.le_refl _) _).alloc (by simp) _
  case round =>
    obtain ⟨k, hk, rfl, h0, h1, hz, hb⟩ := hrel
    by_cases hlt : k < V
    · have c0 : wr.cell? ⟨N + 1, k, none⟩ = some (.int .i64 0) := cellB h1 (intCells_get (fill_get V k hlt))
      have f0 : wr.frozen? ⟨N + 1, k, none⟩ = false := freeB h1
      have H := And.intro h0 (And.intro h1 (And.intro hz hb))
      replace H : Hid _ := H
      clear h0 h1 hz hb
      go_wp2
      go_roundw
      case rel =>
        obtain ⟨h0, h1, hz, hb⟩ := H.out
        refine ⟨k + 1, hlt, by go_num, (Below.heap_setCell _ _ _ _ (by show N ≠ N + 1; omega)).trans h0, (heap_setCell_at _ h1).trans (by rw [intCells_set, fill_step V k hlt]), by simpa [World.setCell] using hz, hb.setCell (by show N ≤ N + 1; omega) _⟩
      case measure => simp [intOf]; omega
    · obtain rfl : k = V := by omega
      have h1' : wr.heap[N + 1]? = some (.cells (intCells (List.replicate k (-1))).toArray 3 (0, 0)) := by rw [h1]; simp
      have H := And.intro h0 (And.intro h1' (And.intro hz hb))
      replace H : Hid _ := H
      have hz1 : N + 2 ≤ wr.heap.size := by omega
      clear h0 h1 h1' hb hk hlt
      go_wp2
      simp only [show N + 2 + 1 = N + 3 from rfl, show N + 3 + 1 = N + 4 from rfl, show N + 4 + 1 = N + 5 from rfl, show N + 5 + 1 = N + 6 from rfl, show N + 6 + 1 = N + 7 from rfl, show N + 7 + 1 = N + 8 from rfl]
      obtain ⟨h0, h1, hz, hb⟩ := H.out
      have R0 : CRep N k w (((((((wr.alloc (.cells (natCells (List.replicate k 0)).toArray 3)).alloc (.cells #[.slice (some ⟨N + 2, 0, none⟩) k k] 39)).alloc (.cells (natCells (List.replicate k 0)).toArray 3)).alloc (.cells #[.slice (some ⟨N + 4, 0, none⟩) k k] 39)).alloc (.cells #[.slice none 0 0] 39)).alloc (.cells #[.slice none 0 0] 133)).alloc (.cells #[.int .i64 0] 3)) (.slice (some ⟨bF, 0, none⟩) fr.length cF) (startP k) (.slice none 0 0) (.slice none 0 0) := by
        have al : ∀ (W : World) (o : Obj) (b : Nat) (x : Obj), W.heap[b]? = some x → (W.alloc o).heap[b]? = some x := fun W o b x h => (Below.heap_alloc _ _ _ (Array.getElem?_eq_some_iff.1 h).1).trans h
        have nw : ∀ (W : World) (o : Obj) (b : Nat), W.heap.size = b → (W.alloc o).heap[b]? = some o := fun W o b h => by subst h; exact heap_alloc_new _ _
        refine ⟨?_, ?_, ?_, ?_, ?_, ?_, ?_, ?_, ?_, World.ownsRow_nil _ _ _ _, World.ownsRow_nil _ _ _ _, ?_, ?_, ?_, ?_⟩
        · exact al _ _ _ _ (al _ _ _ _ (al _ _ _ _ (al _ _ _ _ (al _ _ _ _ (al _ _ _ _ (al _ _ _ _ h0))))))
        · exact al _ _ _ _ (al _ _ _ _ (al _ _ _ _ (al _ _ _ _ (al _ _ _ _ (al _ _ _ _ (al _ _ _ _ h1))))))
        · exact al _ _ _ _ (al _ _ _ _ (al _ _ _ _ (al _ _ _ _ (al _ _ _ _ (al _ _ _ _ (nw _ _ _ (by simp [hz])))))))
        · exact al _ _ _ _ (al _ _ _ _ (al _ _ _ _ (al _ _ _ _ (al _ _ _ _ (nw _ _ _ (by simp [hz]))))))
        · exact al _ _ _ _ (al _ _ _ _ (al _ _ _ _ (al _ _ _ _ (nw _ _ _ (by simp [hz])))))
        · exact al _ _ _ _ (al _ _ _ _ (al _ _ _ _ (nw _ _ _ (by simp [hz]))))
        · exact al _ _ _ _ (al _ _ _ _ (nw _ _ _ (by simp [hz])))
        · exact al _ _ _ _ (nw _ _ _ (by simp [hz]))
        · exact nw _ _ _ (by simp [hz])
        · exact (((((((hb.alloc (by omega) _).alloc (by simp; omega) _).alloc (by simp; omega) _).alloc (by simp; omega) _).alloc (by simp; omega) _).alloc (by simp; omega) _).alloc (by simp; omega) _)
        · simp [startP]
        · simp [startP]
        · simp [startP]
      clear H h0 h1 hz hb hz1
      go_loopw [40, 5] (fun i c wx => ∃ (r : Nat) (s : CS) (vO vC : Value), r ≤ k ∧ i = .int .i64 r ∧ c = .int .i64 (s.cnt : Int) ∧ CRep N k w wx (.slice (some ⟨bF, 0, none⟩) fr.length cF) s vO vC ∧ rootsP fr to fuel (k - r) r s = some sf) (fun i _ _ => k - (intOf i).toNat)
      case atStart => exact ⟨0, startP k, _, _, Nat.zero_le _, rfl, rfl, R0, by have := HS.out.2.2; unfold compP at this; rw [HV.out] at this; exact this⟩
      case round =>
        clear R0
        obtain ⟨r, s, vO, vC, hr, rfl, rfl, R, hrun⟩ := hrel
        by_cases hlt : r < k
        · obtain ⟨m, hm⟩ : ∃ m, k - r = m + 1 := ⟨k - r - 1, by omega⟩
          rw [hm] at hrun
          have hri : r < s.idx.length := by rw [R.l2]; exact hlt
          have hix := List.getElem?_eq_getElem hri
          obtain ⟨ix, hix'⟩ : ∃ ix, ix = s.idx[r] := ⟨_, rfl⟩
          rw [← hix'] at hix
          clear hix' hri
          have c3 : wr.cell? ⟨N + 3, 0, none⟩ = some (.slice (some ⟨N + 2, 0, none⟩) k k) := cellB R.b3 rfl
          have k2 : wr.cell? ⟨N + 2, r, none⟩ = some (.int .i64 (ix : Int)) := cellB R.b2 (natCells_get hix)
          by_cases h0 : ix = 0
          · subst h0
            simp only [rootsP, hix, if_pos, Option.bind_eq_some_iff] at hrun
            obtain ⟨s1, hv1, s2, hin, hrest⟩ := hrun
            have HR := And.intro R (And.intro hrest hin)
            replace HR : Hid _ := HR
            have HV1 : Hid _ := hv1
            have HM : Hid _ := hm
            clear R hrest hin hv1 hix hm
            go_wp2_with fail
            refine (visit_any N k w _ fr bF cF s s1 vO vC r HR.out.1 HS.out.1 (by omega) HV1.out).mono ?_
            rintro e wv ⟨rfl, vO1, vC1, R1⟩
            obtain ⟨_, hrest, hin⟩ := HR.out
            have hcnt : s.cnt = s1.cnt := (visitP_cnt HV1.out).symm
            rw [hcnt]
            clear HR HV1 c3 k2 hcnt
            go_wp2
            go_loopg [5] fuel (fun j c wx => ∃ (s : CS) (vO vC : Value), c = .int .i64 (s.cnt : Int) ∧ CRep N k w wx (.slice (some ⟨bF, 0, none⟩) fr.length cF) s vO vC ∧ innerP fr to j s = some s2)
            case atStart => exact ⟨s1, vO1, vC1, rfl, R1, hin⟩
            case round =>
              clear R1 hin
              obtain ⟨s3, vO3, vC3, rfl, R, hrun⟩ := hrel
              obtain ⟨j, rfl⟩ : ∃ j, gk = j + 1 := by
                cases gk with
                | zero => simp [innerP] at hrun
                | succ j => exact ⟨j, rfl⟩
              have q7 : wr.cell? ⟨N + 7, 0, none⟩ = some vC3 := cellB R.b7 rfl
              by_cases hnil : s3.calls = []
              · obtain rfl : s3 = s2 := by simpa [innerP, hnil] using hrun
                have hlen : ∃ a c, vC3 = .slice a 0 c := by
                  rcases R.oC.2 with ⟨rfl, _⟩ | ⟨g, cap, cur, rfl, _⟩
                  · exact ⟨_, _, rfl⟩
                  · rw [hnil]; exact ⟨_, _, rfl⟩
                obtain ⟨a3, c3, rfl⟩ := hlen
                have HR := And.intro R hrest
                replace HR : Hid _ := HR
                clear R hrun hrest hnil
                go_wp2
                go_roundw
                case rel => exact ⟨r + 1, s3, _, _, by omega, by go_num, rfl, HR.out.1, by rw [show k - (r + 1) = m by have := HM.out; omega]; exact HR.out.2⟩
                case measure => simp [intOf]; omega
              · simp only [innerP, if_neg hnil, Option.bind_eq_some_iff] at hrun
                obtain ⟨s4, hst, hrun⟩ := hrun
                obtain ⟨cs, v, e, hi, hcs, hhi, hcase⟩ := stepP_cases hst
                obtain ⟨gC, capC, rfl⟩ := Joins.ownsRow_form R.oC (by rw [hcs]; simp)
                have hgC : N + 9 ≤ gC := (R.oC.lt gC rfl).1
                have hln : s3.calls.length = cs.length + 1 := by rw [hcs]; simp
                have oC := R.oC
                rw [hln] at oC q7
                rw [hln] at R
                have t0 : wr.cell? ⟨gC, cs.length * 2, none⟩ = some (.int .i64 (v : Int)) := by
                  rw [oC.cellAt _ (by omega), hcs, pairCells_append, List.getElem?_append_right (by rw [pairCells_length]; exact Nat.le_refl _), pairCells_length, Nat.sub_self]; rfl
                have t1 : wr.cell? ⟨gC, cs.length * 2 + 1, none⟩ = some (.int .i64 (e : Int)) := by
                  rw [oC.cellAt _ (by omega), hcs, pairCells_append, List.getElem?_append_right (by rw [pairCells_length]; omega), pairCells_length, show cs.length * 2 + 1 - cs.length * 2 = 1 by omega]; rfl
                have f1 : wr.frozen? ⟨gC, cs.length * 2 + 1, none⟩ = false := oC.frozenAt _
                have q0 : wr.cell? ⟨N, 0, none⟩ = some (.slice (some ⟨bF, 0, none⟩) fr.length cF) := cellB R.b0 rfl
                have F1 : wr.cell? ⟨bF, v + 1, none⟩ = some (.int .i64 (hi : Int)) := (R.below.cell (p := ⟨bF, v + 1, none⟩) (by show bF < N; omega)).trans (HS.out.1 _ _ hhi)
                have hv1 : v + 1 < fr.length := (List.getElem?_eq_some_iff.1 hhi).1
                obtain ⟨hcl, hcapC⟩ : cs.length + 1 ≤ 9223372036854775807 ∧ cs.length + 1 ≤ capC := by
                  rcases oC.2 with ⟨h0, _⟩ | ⟨g', cap', cur, h0, _, _, h1, h2, _⟩
                  · cases h0
                  · cases h0; unfold maxLen at h2; exact ⟨by omega, by omega⟩
                clear oC hst hnil
                rcases hcase with ⟨hlt2, x, ix, cx, lv, hx, hix, hcx, hlv, hcase⟩ | ⟨hge, hcase⟩
                · obtain ⟨rfl, hbT⟩ := hT (by have := (List.getElem?_eq_some_iff.1 hx).1; omega)
                  have HB := And.intro hhi (And.intro hcs (And.intro hrest hrun))
                  replace HB : Hid _ := HB
                  have hR := R
                  replace R : Hid _ := R
                  clear hhi hcs hrest hrun hln
                  have c3 : wr.cell? ⟨N + 3, 0, none⟩ = some (.slice (some ⟨N + 2, 0, none⟩) k k) := cellB hR.b3 rfl
                  have c5 : wr.cell? ⟨N + 5, 0, none⟩ = some (.slice (some ⟨N + 4, 0, none⟩) k k) := cellB hR.b5 rfl
                  have k2 : wr.cell? ⟨N + 2, x, none⟩ = some (.int .i64 (ix : Int)) := cellB hR.b2 (natCells_get hix)
                  have k1 : wr.cell? ⟨N + 1, x, none⟩ = some (.int .i64 cx) := cellB hR.b1 (intCells_get hcx)
                  have k4 : wr.cell? ⟨N + 4, v, none⟩ = some (.int .i64 (lv : Int)) := cellB hR.b4 (natCells_get hlv)
                  have f4 : wr.frozen? ⟨N + 4, v, none⟩ = false := freeB hR.b4
                  have T1 : wr.cell? ⟨bT, e, none⟩ = some (.int .i64 (x : Int)) := (hR.below.cell (p := ⟨bT, e, none⟩) (by show bT < N; omega)).trans (HS.out.2.1 _ _ hx)
                  have hxk : x < k := by have := (List.getElem?_eq_some_iff.1 hix).1; have := hR.l2; omega
                  have hvk : v < k := by have := (List.getElem?_eq_some_iff.1 hlv).1; have := hR.l4; omega
                  have hel : e < to.length := (List.getElem?_eq_some_iff.1 hx).1
                  have RT := fun q => (hR.drewN q).setTop HB.out.2.1 (e + 1)
                  replace RT : Hid _ := RT
                  have hcase' : Hid _ := hcase
                  have ne3 : ¬ N + 3 = gC := by omega
                  have ne2 : ¬ N + 2 = gC := by omega
                  have ne1 : ¬ N + 1 = gC := by omega
                  have ne4 : ¬ N + 4 = gC := by omega
                  have ne5 : ¬ N + 5 = gC := by omega
                  have me3 : ¬ gC = N + 3 := by omega
                  have me2 : ¬ gC = N + 2 := by omega
                  have me1 : ¬ gC = N + 1 := by omega
                  have me4 : ¬ gC = N + 4 := by omega
                  have me5 : ¬ gC = N + 5 := by omega
                  have cxb : cx < 0 ∨ 0 ≤ cx := by omega
                  clear hR hcase hix hcx hlv hx
                  go_wp2
                  go_quiet (fail)
                  rcases hcase'.out with ⟨rfl, hvis⟩ | ⟨hix0, hcx0, rfl⟩ | ⟨hix0, hcx0, rfl⟩
                  · clear hcase'
                    go_wp2_with fail
                    refine (visit_any N k w _ fr bF cF _ s4 vO3 _ x (RT.out _) HS.out.1 (by omega) hvis).mono ?_
                    rintro e2 wv ⟨rfl, vO4, vC4, R4⟩
                    have hcnt : s4.cnt = s3.cnt := (visitP_cnt hvis).trans rfl
                    obtain ⟨_, _, hrest, hrun⟩ := HB.out
                    have HF := And.intro R4 (And.intro hrun hcnt)
                    replace HF : Hid _ := HF
                    clear R4 hrun hcnt RT HB R hvis
                    go_wp2
                    go_roundg j
                    case measure => omega
                    case rel => exact ⟨s4, vO4, vC4, by rw [HF.out.2.2], HF.out.1, HF.out.2.1⟩
                  · clear hcase'
                    go_wp2
                    go_region
                    go_wp2
                    go_roundg j
                    case measure => omega
                    case rel =>
                      refine ⟨{ s3 with calls := cs ++ [(v, e + 1)], low := s3.low.set v (min lv ix) }, vO3, .slice (some ⟨gC, 0, none⟩) (cs.length + 1) capC, rfl, ?_, HB.out.2.2.2⟩
                      have hmn : min (lv : Int) (ix : Int) = ((min lv ix : Nat) : Int) := by omega
                      rw [hmn]
                      exact ((RT.out _).set4 v (min lv ix)).drew
                  · clear hcase'
                    go_wp2
                    go_roundg j
                    case measure => omega
                    case rel => exact ⟨{ s3 with calls := cs ++ [(v, e + 1)] }, vO3, _, rfl, RT.out _, HB.out.2.2.2⟩
                · have HB := And.intro hrest hrun
                  replace HB : Hid _ := HB
                  have hR := R
                  replace R : Hid _ := R
                  rcases hcase with ⟨rfl, hfin⟩ | ⟨cs', u, e', lu, lv, rfl, hlu, hlv, hfin⟩
                  · simp only [List.length_nil, Nat.zero_add, Nat.zero_mul] at q7 t0 t1 f1 hR hcl hcapC
                    have RC := fun q => (hR.drewN q).setC (l := []) (ownsRow_pop (n := 0) (xs := []) rfl (by have := (hR.drewN q).oC; rw [hcs] at this; simpa using this)) (World.grownBy.refl _ _)
                    have ne3 : ¬ N + 7 = gC := by omega
                    have me3 : ¬ gC = N + 7 := by omega
                    have f7 : wr.frozen? ⟨N + 7, 0, none⟩ = false := freeB hR.b7
                    replace RC : Hid _ := RC
                    replace hfin : Hid _ := hfin
                    clear hR hhi hcs hrest hrun hln
                    go_wp2
                    go_quiet (fail)
                    go_wp2
                    obtain ⟨W5, hW5⟩ : ∃ W, W = (wr.drewN nq).setCell ⟨N + 7, 0, none⟩ (.slice (some ⟨gC, 0, none⟩) 0 capC) := ⟨_, rfl⟩
                    rw [← hW5]
                    have R5 : CRep N k w W5 (.slice (some ⟨bF, 0, none⟩) fr.length cF) ({ s3 with calls := [] }) vO3 (.slice (some ⟨gC, 0, none⟩) 0 capC) := by rw [hW5]; exact RC.out _
                    have hf5 := hfin.out
                    clear hfin
                    obtain ⟨s5, hs5⟩ : ∃ s5 : CS, s5 = { s3 with calls := [] } := ⟨_, rfl⟩
                    have hc5 : s3.cnt = s5.cnt := by rw [hs5]
                    rw [← hs5] at R5 hf5
                    rw [hc5]
                    clear hW5 hs5 hc5
                    obtain ⟨lv5, iv5, hl5, hi5, hcase⟩ := finishP_cases hf5
                    have d3 : W5.cell? ⟨N + 3, 0, none⟩ = some (.slice (some ⟨N + 2, 0, none⟩) k k) := cellB R5.b3 rfl
                    have d5 : W5.cell? ⟨N + 5, 0, none⟩ = some (.slice (some ⟨N + 4, 0, none⟩) k k) := cellB R5.b5 rfl
                    have d2 : W5.cell? ⟨N + 2, v, none⟩ = some (.int .i64 (iv5 : Int)) := cellB R5.b2 (natCells_get hi5)
                    have d4 : W5.cell? ⟨N + 4, v, none⟩ = some (.int .i64 (lv5 : Int)) := cellB R5.b4 (natCells_get hl5)
                    have hvk : v < k := by have := (List.getElem?_eq_some_iff.1 hl5).1; have := R5.l4; omega
                    replace R5 : Hid _ := R5
                    replace hcase : Hid _ := hcase
                    clear hf5 hl5 hi5
                    try go_wp2
                    go_quiet (fail)
                    clear d3 d5 d2 d4
                    rcases hcase.out with ⟨hne, rfl⟩ | ⟨rfl, s6, hpop, hbig, rfl⟩
                    · clear hcase
                      go_wp2
                      go_roundg j
                      case measure => omega
                      case rel => exact ⟨s4, _, _, rfl, R5.out.drewN _, HB.out.2⟩
                    · clear hcase
                      unfold big at hbig
                      go_wp2
                      have hrun6 := HB.out.2
                      have hcb : s5.cnt < 1000000000 := by have := popP_cnt hpop; omega
                      obtain ⟨c6, hc6⟩ : ∃ c, c = s5.cnt := ⟨_, rfl⟩
                      rw [← hc6] at hcb ⊢
                      try simp only [beq_self_eq_true]
                      try rw [show decide ((0 : Int) < (cs'.length : Int) + 1 + 1) = true from decide_eq_true (by omega)]
                      go_loopg [] s5.opn.length (fun jj wx => ∃ (s : CS) (vO : Value), CRep N k w wx (.slice (some ⟨bF, 0, none⟩) fr.length cF) s vO (.slice (some ⟨gC, 0, none⟩) 0 capC) ∧ s.cnt = c6 ∧ popP jj s v = some s6)
                      case atStart => exact ⟨s5, _, R5.out.drewN _, hc6.symm, hpop⟩
                      case round =>
                        clear R5 hpop hc6
                        obtain ⟨s7, vO7, R7, hc7, hpop⟩ := hrel
                        obtain ⟨jj, rfl⟩ : ∃ jj, gk = jj + 1 := by
                          cases gk with
                          | zero => simp [popP] at hpop
                          | succ jj => exact ⟨jj, rfl⟩
                        obtain ⟨os, x, hos, hxl, hcase⟩ := popP_cases hpop
                        obtain ⟨gO, capO, rfl⟩ := Joins.ownsRow_form R7.oO (by rw [hos]; simp)
                        have hgO : N + 9 ≤ gO := (R7.oO.lt gO rfl).1
                        have hln7 : s7.opn.length = os.length + 1 := by rw [hos]; simp
                        rw [hln7] at R7
                        have oO := R7.oO
                        rw [hln7] at oO
                        have p6 : wr.cell? ⟨N + 6, 0, none⟩ = some (.slice (some ⟨gO, 0, none⟩) (os.length + 1) capO) := cellB R7.b6 rfl
                        have g6 : wr.frozen? ⟨N + 6, 0, none⟩ = false := freeB R7.b6
                        have p0 : wr.cell? ⟨gO, os.length, none⟩ = some (.int .i64 (x : Int)) := by
                          rw [oO.cellAt _ (by omega), hos, natCells_append, List.getElem?_append_right (by rw [natCells_length]; exact Nat.le_refl _), natCells_length, Nat.sub_self]; rfl
                        obtain ⟨hcl7, hcap7⟩ : os.length + 1 ≤ 9223372036854775807 ∧ os.length + 1 ≤ capO := by
                          rcases oO.2 with ⟨h0, _⟩ | ⟨g', cap', cur, h0, _, _, h1, h2, _⟩
                          · cases h0
                          · cases h0; unfold maxLen at h2; exact ⟨by omega, by omega⟩
                        have hxk : x < k := by have := R7.l1; omega
                        obtain ⟨cx, hcx⟩ : ∃ cx, s7.comp[x]? = some cx := ⟨_, List.getElem?_eq_getElem hxl⟩
                        have p1 : wr.cell? ⟨N + 1, x, none⟩ = some (.int .i64 cx) := cellB R7.b1 (intCells_get hcx)
                        have g1 : wr.frozen? ⟨N + 1, x, none⟩ = false := freeB R7.b1
                        have RP := (R7.setO (l := os) (ownsRow_pop (n := os.length) (xs := natCells os) (last := natCells [x]) (by rw [natCells_length, Nat.mul_one]) (by rw [← natCells_append, ← hos]; exact oO)) (World.grownBy.refl _ _)).set1 x (c6 : Int)
                        have ne6 : ¬ N + 6 = gO := by omega
                        have me6 : ¬ gO = N + 6 := by omega
                        have ne1 : ¬ N + 1 = gO := by omega
                        have me1 : ¬ gO = N + 1 := by omega
                        replace RP : Hid _ := RP
                        replace hcase : Hid _ := hcase
                        have HC7 : Hid _ := hc7
                        clear R7 oO hos hln7 hpop hcx hxl hc7
                        by_cases hxv : x = v
                        · subst hxv
                          go_wp2
                          go_roundg j
                          case measure => omega
                          case rel =>
                            obtain ⟨_, h6⟩ | ⟨h, _⟩ := hcase.out
                            · have := HC7.out
                              subst this
                              subst h6
                              exact ⟨{ s7 with opn := os, comp := s7.comp.set x s7.cnt, cnt := s7.cnt + 1 }, _, _, rfl, RP.out.cnt _, hrun6⟩
                            · exact absurd rfl h
                        · go_wp2
                          go_roundg jj
                          case measure => omega
                          case rel =>
                            obtain ⟨h, _⟩ | ⟨_, h6⟩ := hcase.out
                            · exact absurd h hxv
                            · have := HC7.out
                              subst this
                              exact ⟨_, _, RP.out, rfl, h6⟩
                  ·
                    rw [show (cs' ++ [(u, e')]).length = cs'.length + 1 by simp] at q7 t0 t1 f1 hcl hcapC
                    have hR' := hR
                    rw [show (cs' ++ [(u, e')]).length = cs'.length + 1 by simp] at hR'
                    have oC := hR'.oC
                    rw [hcs] at oC
                    rw [show (cs' ++ [(u, e')] ++ [(v, e)]).length = cs'.length + 1 + 1 by simp] at oC
                    have RC := fun q => (hR'.drewN q).setC (l := cs' ++ [(u, e')]) (by rw [show (cs' ++ [(u, e')]).length = cs'.length + 1 by simp]; exact ownsRow_pop (n := cs'.length + 1) (xs := pairCells (cs' ++ [(u, e')])) (last := pairCells [(v, e)]) (by rw [pairCells_length]; simp) (by rw [← pairCells_append, ← hcs]; have h' := (hR'.drewN q).oC; rw [hcs] at h' ⊢; rw [show (cs' ++ [(u, e')] ++ [(v, e)]).length = cs'.length + 1 + 1 by simp] at h'; exact h')) (World.grownBy.refl _ _)
                    have tu : wr.cell? ⟨gC, cs'.length * 2, none⟩ = some (.int .i64 (u : Int)) := by
                      rw [oC.cellAt _ (by omega), pairCells_append, List.getElem?_append_left (by rw [pairCells_length]; simp), pairCells_append, List.getElem?_append_right (by rw [pairCells_length]; exact Nat.le_refl _), pairCells_length, Nat.sub_self]; rfl
                    have ne3 : ¬ N + 7 = gC := by omega
                    have me3 : ¬ gC = N + 7 := by omega
                    have f7 : wr.frozen? ⟨N + 7, 0, none⟩ = false := freeB hR.b7
                    have c5 : wr.cell? ⟨N + 5, 0, none⟩ = some (.slice (some ⟨N + 4, 0, none⟩) k k) := cellB hR.b5 rfl
                    have k4u : wr.cell? ⟨N + 4, u, none⟩ = some (.int .i64 (lu : Int)) := cellB hR.b4 (natCells_get hlu)
                    have k4v : wr.cell? ⟨N + 4, v, none⟩ = some (.int .i64 (lv : Int)) := cellB hR.b4 (natCells_get hlv)
                    have f4u : wr.frozen? ⟨N + 4, u, none⟩ = false := freeB hR.b4
                    have huk : u < k := by have := (List.getElem?_eq_some_iff.1 hlu).1; have := hR.l4; omega
                    have hvk0 : v < k := by have := (List.getElem?_eq_some_iff.1 hlv).1; have := hR.l4; omega
                    replace RC : Hid _ := RC
                    replace hfin : Hid _ := hfin
                    clear hR hR' oC hhi hcs hrest hrun hln hlu hlv
                    have hmn : min (lu : Int) (lv : Int) = ((min lu lv : Nat) : Int) := by omega
                    have HMN : Hid _ := hmn
                    clear hmn
                    go_wp2
                    go_quiet (fail)
                    go_wp2
                    go_region
                    obtain ⟨W5, hW5⟩ : ∃ W, W = (((wr.drewN nq).setCell ⟨N + 7, 0, none⟩ (.slice (some ⟨gC, 0, none⟩) (cs'.length + 1) capC)).setCell ⟨N + 4, u, none⟩ (.int .i64 (min (lu : Int) (lv : Int)))).drew := ⟨_, rfl⟩
                    rw [← hW5]
                    have R5 : CRep N k w W5 (.slice (some ⟨bF, 0, none⟩) fr.length cF) ({ s3 with calls := cs' ++ [(u, e')], low := s3.low.set u (min lu lv) }) vO3 (.slice (some ⟨gC, 0, none⟩) (cs'.length + 1) capC) := by rw [hW5]; exact (by rw [HMN.out]; exact ((RC.out _).set4 u (min lu lv)).drew)
                    have hf5 := hfin.out
                    clear hfin
                    obtain ⟨s5, hs5⟩ : ∃ s5 : CS, s5 = { s3 with calls := cs' ++ [(u, e')], low := s3.low.set u (min lu lv) } := ⟨_, rfl⟩
                    have hc5 : s3.cnt = s5.cnt := by rw [hs5]
                    rw [← hs5] at R5 hf5
                    rw [hc5]
                    clear hW5 hs5 hc5
                    obtain ⟨lv5, iv5, hl5, hi5, hcase⟩ := finishP_cases hf5
                    have d3 : W5.cell? ⟨N + 3, 0, none⟩ = some (.slice (some ⟨N + 2, 0, none⟩) k k) := cellB R5.b3 rfl
                    have d5 : W5.cell? ⟨N + 5, 0, none⟩ = some (.slice (some ⟨N + 4, 0, none⟩) k k) := cellB R5.b5 rfl
                    have d2 : W5.cell? ⟨N + 2, v, none⟩ = some (.int .i64 (iv5 : Int)) := cellB R5.b2 (natCells_get hi5)
                    have d4 : W5.cell? ⟨N + 4, v, none⟩ = some (.int .i64 (lv5 : Int)) := cellB R5.b4 (natCells_get hl5)
                    have hvk : v < k := by have := (List.getElem?_eq_some_iff.1 hl5).1; have := R5.l4; omega
                    replace R5 : Hid _ := R5
                    replace hcase : Hid _ := hcase
                    clear hf5 hl5 hi5
                    try go_wp2
                    go_quiet (fail)
                    clear d3 d5 d2 d4
                    rcases hcase.out with ⟨hne, rfl⟩ | ⟨rfl, s6, hpop, hbig, rfl⟩
                    · clear hcase
                      go_wp2
                      go_roundg j
                      case measure => omega
                      case rel => exact ⟨s4, _, _, rfl, R5.out.drewN _, HB.out.2⟩
                    · clear hcase
                      unfold big at hbig
                      go_wp2
                      have hrun6 := HB.out.2
                      have hcb : s5.cnt < 1000000000 := by have := popP_cnt hpop; omega
                      obtain ⟨c6, hc6⟩ : ∃ c, c = s5.cnt := ⟨_, rfl⟩
                      rw [← hc6] at hcb ⊢
                      try simp only [beq_self_eq_true]
                      try rw [show decide ((0 : Int) < (cs'.length : Int) + 1 + 1) = true from decide_eq_true (by omega)]
                      go_loopg [] s5.opn.length (fun jj wx => ∃ (s : CS) (vO : Value), CRep N k w wx (.slice (some ⟨bF, 0, none⟩) fr.length cF) s vO (.slice (some ⟨gC, 0, none⟩) (cs'.length + 1) capC) ∧ s.cnt = c6 ∧ popP jj s v = some s6)
                      case atStart => exact ⟨s5, _, R5.out.drewN _, hc6.symm, hpop⟩
                      case round =>
                        clear R5 hpop hc6
                        obtain ⟨s7, vO7, R7, hc7, hpop⟩ := hrel
                        obtain ⟨jj, rfl⟩ : ∃ jj, gk = jj + 1 := by
                          cases gk with
                          | zero => simp [popP] at hpop
                          | succ jj => exact ⟨jj, rfl⟩
                        obtain ⟨os, x, hos, hxl, hcase⟩ := popP_cases hpop
                        obtain ⟨gO, capO, rfl⟩ := Joins.ownsRow_form R7.oO (by rw [hos]; simp)
                        have hgO : N + 9 ≤ gO := (R7.oO.lt gO rfl).1
                        have hln7 : s7.opn.length = os.length + 1 := by rw [hos]; simp
                        rw [hln7] at R7
                        have oO := R7.oO
                        rw [hln7] at oO
                        have p6 : wr.cell? ⟨N + 6, 0, none⟩ = some (.slice (some ⟨gO, 0, none⟩) (os.length + 1) capO) := cellB R7.b6 rfl
                        have g6 : wr.frozen? ⟨N + 6, 0, none⟩ = false := freeB R7.b6
                        have p0 : wr.cell? ⟨gO, os.length, none⟩ = some (.int .i64 (x : Int)) := by
                          rw [oO.cellAt _ (by omega), hos, natCells_append, List.getElem?_append_right (by rw [natCells_length]; exact Nat.le_refl _), natCells_length, Nat.sub_self]; rfl
                        obtain ⟨hcl7, hcap7⟩ : os.length + 1 ≤ 9223372036854775807 ∧ os.length + 1 ≤ capO := by
                          rcases oO.2 with ⟨h0, _⟩ | ⟨g', cap', cur, h0, _, _, h1, h2, _⟩
                          · cases h0
                          · cases h0; unfold maxLen at h2; exact ⟨by omega, by omega⟩
                        have hxk : x < k := by have := R7.l1; omega
                        obtain ⟨cx, hcx⟩ : ∃ cx, s7.comp[x]? = some cx := ⟨_, List.getElem?_eq_getElem hxl⟩
                        have p1 : wr.cell? ⟨N + 1, x, none⟩ = some (.int .i64 cx) := cellB R7.b1 (intCells_get hcx)
                        have g1 : wr.frozen? ⟨N + 1, x, none⟩ = false := freeB R7.b1
                        have RP := (R7.setO (l := os) (ownsRow_pop (n := os.length) (xs := natCells os) (last := natCells [x]) (by rw [natCells_length, Nat.mul_one]) (by rw [← natCells_append, ← hos]; exact oO)) (World.grownBy.refl _ _)).set1 x (c6 : Int)
                        have ne6 : ¬ N + 6 = gO := by omega
                        have me6 : ¬ gO = N + 6 := by omega
                        have ne1 : ¬ N + 1 = gO := by omega
                        have me1 : ¬ gO = N + 1 := by omega
                        replace RP : Hid _ := RP
                        replace hcase : Hid _ := hcase
                        have HC7 : Hid _ := hc7
                        clear R7 oO hos hln7 hpop hcx hxl hc7
                        by_cases hxv : x = v
                        · subst hxv
                          go_wp2
                          go_roundg j
                          case measure => omega
                          case rel =>
                            obtain ⟨_, h6⟩ | ⟨h, _⟩ := hcase.out
                            · have := HC7.out
                              subst this
                              subst h6
                              exact ⟨{ s7 with opn := os, comp := s7.comp.set x s7.cnt, cnt := s7.cnt + 1 }, _, _, rfl, RP.out.cnt _, hrun6⟩
                            · exact absurd rfl h
                        · go_wp2
                          go_roundg jj
                          case measure => omega
                          case rel =>
                            obtain ⟨h, _⟩ | ⟨_, h6⟩ := hcase.out
                            · exact absurd h hxv
                            · have := HC7.out
                              subst this
                              exact ⟨_, _, RP.out, rfl, h6⟩
          · have hrun' : rootsP fr to fuel m (r + 1) s = some sf := by simpa [rootsP, hix, h0] using hrun
            have HR := And.intro R hrun'
            replace HR : Hid _ := HR
            clear R hrun hrun' hix
            go_wp2
            go_roundw
            case rel => exact ⟨r + 1, s, vO, vC, by omega, by go_num, rfl, HR.out.1, by rw [show k - (r + 1) = m by omega]; exact HR.out.2⟩
            case measure => simp [intOf]; omega
        · obtain rfl : r = k := by omega
          rw [Nat.sub_self] at hrun
          obtain rfl : s = sf := by simpa [rootsP] using hrun
          have HR : Hid _ := R
          clear R hrun hlt hr hT
          go_wp2
          go_ret2
          have hN := HN.out
          subst hN
          refine ⟨?_, HR.out.b1, HR.out.below⟩
          rw [show fr.length - 1 = r by omega]
          rfl
end Go.Proofs.Ybulkbewa
