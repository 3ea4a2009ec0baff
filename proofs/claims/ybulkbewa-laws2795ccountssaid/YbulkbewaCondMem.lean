/- condense: rows of ints held while it runs. -/
import Derived.Test.YbulkbewaCondPlain
import Derived.Test.YbulkbewaClone

namespace Go.Proofs.Ybulkbewa
open Go.RowKit

theorem condP_cases {evs : List EV} {ps : List PastP} {inp : List Nat} {fuel : Nat} {d : DG} (h : condP evs ps inp fuel = some d) :
    ∃ a0 a1 sf comp st0 start bp k, evs.length < big ∧ ps.length < big ∧ evP evs.length evs ([], []) = some a0 ∧ pastsP evs.length inp ps a0 = some a1 ∧ a1.1.length < 999999999 ∧ a1.2.length < big ∧
      compP (a1.1 ++ [a1.2.length]) a1.2 fuel = some sf ∧ toNats sf.comp = some comp ∧ sf.cnt < big ∧ comp.length = a1.1.length ∧ evs.length ≤ comp.length ∧
      countP comp (List.replicate (sf.cnt + 1) 0) = some st0 ∧ sumP sf.cnt 0 st0 = some start ∧ placeP comp 0 (List.replicate comp.length 0, start.take sf.cnt) = some bp ∧
      nodesP (a1.1 ++ [a1.2.length]) a1.2 comp bp.1 start evs.length sf.cnt 0 { linked := List.replicate sf.cnt 0, events := [], eventsFrom := [0], next := [], nextFrom := [0] } = some k ∧
      d = { pastNode := comp.drop evs.length, events := k.events, eventsFrom := k.eventsFrom, next := k.next, nextFrom := k.nextFrom } := by
  unfold condP at h
  split at h
  · rename_i h0
    split at h
    · cases h
    · rename_i a0 h1
      split at h
      · cases h
      · rename_i a1 h2
        split at h
        · rename_i h3
          split at h
          · cases h
          · rename_i sf h4
            split at h
            · cases h
            · rename_i comp h5
              split at h
              · rename_i h6
                split at h
                · cases h
                · rename_i st0 h7
                  split at h
                  · cases h
                  · rename_i start h8
                    split at h
                    · cases h
                    · rename_i bp h9
                      simp only [Option.map_eq_some_iff] at h
                      obtain ⟨k, h10, h11⟩ := h
                      exact ⟨a0, a1, sf, comp, st0, start, bp, k, h0.1, h0.2, h1, h2, h3.1, h3.2, h4, h5, h6.1, h6.2.1, h6.2.2, h7, h8, h9, h10, h11.symm⟩
              · cases h
        · cases h
  · cases h

structure CM (N : Nat) (w wx : World) (V : Nat → Value) (X : Nat → List Nat) : Prop where
  r : Rooms N wx V X
  b : Below N w wx
  s : N ≤ wx.heap.size

theorem CM.alloc {N : Nat} {w wx : World} {V : Nat → Value} {X : Nat → List Nat} (h : CM N w wx V X) (o : Obj) : CM N w (wx.alloc o) V X :=
  ⟨h.r.alloc o, h.b.alloc h.s o, by have := h.s; simp; omega⟩
theorem CM.drew {N : Nat} {w wx : World} {V : Nat → Value} {X : Nat → List Nat} (h : CM N w wx V X) : CM N w wx.drew V X := ⟨h.r.drew, h.b.drew, h.s⟩
theorem CM.drewN {N : Nat} {w wx : World} {V : Nat → Value} {X : Nat → List Nat} (h : CM N w wx V X) (q : Nat) : CM N w (wx.drewN q) V X := by
  induction q generalizing wx with
  | zero => exact h
  | succ q ih => exact (ih h).drew
theorem CM.set {N : Nat} {w wx : World} {V : Nat → Value} {X : Nat → List Nat} (h : CM N w wx V X) {c g n cap : Nat} (hv : V c = .slice (some ⟨g, 0, none⟩) n cap) (i x : Nat) : CM N w (wx.setCell ⟨g, i, none⟩ (.int .i64 (x : Int))) V (upd X c ((X c).set i x)) :=
  ⟨h.r.set hv i x, h.b.setCell ((h.r.lt (c := c) (by rw [hv]; rfl)).1) _, by have := h.s; simpa [World.setCell] using this⟩
/-- numbers appended onto room c -/
theorem CM.appended {N : Nat} {w wx w' : World} {V : Nat → Value} {X : Nat → List Nat} (h : CM N w wx V X) {c : Nat} {v v' : Value} (hv : V c = v) {m : Nat} {news : List Nat} (hm : news.length = m)
    (O : w'.ownsRow N 3 1 v' ((X c).length + m) (natCells (X c) ++ natCells news)) (G : wx.grownBy w' v.ownBlock) (A : v'.ownBlock = v.ownBlock ∨ v'.ownBlock = some wx.heap.size) :
    CM N w w' (upd V c v') (upd X c (X c ++ news)) := by
  refine ⟨h.r.grow c ?_ (by rw [hv]; exact G) (by rw [hv]; exact A), h.b.grown G h.s (fun g hg => (h.r.lt (c := c) (by rw [hv]; exact hg)).1), Nat.le_trans h.s G.size⟩
  rw [natCells_append, List.length_append, hm]
  exact O
theorem make39c (W : World) (c : Nat) (hn : c ≤ 3000000000) : (Instr.makeSlice 39 (.int .i64 0) (.int .i64 (c : Int))).run Yba.prog W = .ok (.slice (some ⟨W.heap.size, 0, none⟩) 0 c) (W.alloc (.cells (natCells (List.replicate c 0)).toArray 3)) := by
  obtain ⟨i3, h3i, h3z, h3s, h3b⟩ := info_parts info3
  rw [run_make W 39 3 i3 _ Yba.underlying39 h3i h3z .i64 .i64 0 c (by omega) (by omega) (by rw [h3b]; omega) (by omega), Int.toNat_natCast, h3s, Nat.mul_one, made_nat]
  rfl

theorem upd_upd {α : Type} (f : Nat → α) (c : Nat) (a b : α) : upd (upd f c a) c b = upd f c b := by
  funext x
  by_cases h : x = c
  · subst h; rw [upd_same, upd_same]
  · rw [upd_other _ _ h, upd_other _ _ h, upd_other _ _ h]

theorem Rooms.read {B : Nat} {w : World} {V : Nat → Value} {X : Nat → List Nat} (h : Rooms B w V X) {c n cap : Nat} {a : Option Addr} (hv : V c = .slice a n cap) :
    ∃ b, (0 < (X c).length → a = some ⟨b, 0, none⟩ ∧ b < w.heap.size) ∧ ∀ i x, (X c)[i]? = some x → w.cell? ⟨b, i, none⟩ = some (.int .i64 ((x : Nat) : Int)) := by
  by_cases h0 : 0 < (X c).length
  · obtain ⟨g, cap', hv', _, _⟩ := h.form c h0
    have e := hv.symm.trans hv'
    cases e
    exact ⟨g, fun _ => ⟨rfl, (h.lt (c := c) (by rw [hv']; rfl)).2⟩, fun i x hx => h.cell hv' hx⟩
  · exact ⟨0, fun h1 => absurd h1 h0, fun i x hx => by have := (List.getElem?_eq_some_iff.1 hx).1; omega⟩

/-- a row that another hand has made, taken as room c -/
theorem Rooms.adopt {B B' : Nat} {w : World} {V : Nat → Value} {X : Nat → List Nat} (h : Rooms B w V X) {c : Nat} {v : Value} {l : List Nat} (hown : w.ownsRow B' 3 1 v l.length (natCells l)) (hB : B ≤ B') (hlt : ∀ c g, (V c).ownBlock = some g → g < B') :
    Rooms B w (upd V c v) (upd X c l) := by
  have hown' : w.ownsRow B 3 1 v l.length (natCells l) := by
    refine ⟨hown.1, ?_⟩
    rcases hown.2 with hn | ⟨g, cap, cur, h1, h2, rest⟩
    · exact .inl hn
    · exact .inr ⟨g, cap, cur, h1, by omega, rest⟩
  have far : ∀ z, v.ownBlock = none ∨ (V z).ownBlock ≠ v.ownBlock := fun z => by
    cases hv : v.ownBlock with
    | none => exact .inl rfl
    | some g => exact .inr (fun e => by have h1 := (hown.lt g hv).1; have h2 := hlt z g e; omega)
  refine ⟨fun x => ?_, fun x y hxy => ?_⟩
  · by_cases hx : x = c
    · subst hx; rw [upd_same, upd_same]; exact hown'
    · rw [upd_other _ _ hx, upd_other _ _ hx]; exact h.own x
  · by_cases hx : x = c
    · subst hx
      rw [upd_same, upd_other _ _ (Ne.symm hxy)]
      rcases far y with h1 | h1
      · exact .inl h1
      · exact .inr (Ne.symm h1)
    · rw [upd_other _ _ hx]
      by_cases hy : y = c
      · subst hy
        rw [upd_same]
        rcases far x with h1 | h1
        · rw [h1]
          cases (V x).ownBlock with
          | none => exact .inl rfl
          | some g => exact .inr (by simp)
        · exact .inr h1
      · rw [upd_other _ _ hy]; exact h.apart x y hxy

theorem CM.called {N : Nat} {w wx w' : World} {V : Nat → Value} {X : Nat → List Nat} (h : CM N w wx V X) (hb : Below wx.heap.size wx w') : CM N w w' V X :=
  ⟨h.r.below hb, h.b.trans (hb.mono h.s), Nat.le_trans h.s hb.size⟩
theorem CM.adopt {N B' : Nat} {w wx : World} {V : Nat → Value} {X : Nat → List Nat} (h : CM N w wx V X) {c : Nat} {v : Value} {l : List Nat} (hown : wx.ownsRow B' 3 1 v l.length (natCells l)) (hB : N ≤ B') (hlt : ∀ c g, (V c).ownBlock = some g → g < B') :
    CM N w wx (upd V c v) (upd X c l) := ⟨h.r.adopt hown hB hlt, h.b, h.s⟩
theorem CM.made {N : Nat} {w wx : World} {V : Nat → Value} {X : Nat → List Nat} (h : CM N w wx V X) {c : Nat} (hc : V c = .slice none 0 0) (n : Nat) (hn : n ≤ 3000000000) :
    CM N w (wx.alloc (.cells (natCells (List.replicate n 0)).toArray 3)) (upd V c (.slice (some ⟨wx.heap.size, 0, none⟩) n n)) (upd X c (List.replicate n 0)) := by
  refine ⟨?_, h.b.alloc h.s _, by have := h.s; simp; omega⟩
  have := h.r.made h.s (c := c) (by rw [hc]; rfl) (List.replicate n 0) (cur := (natCells (List.replicate n 0)).toArray) (cap := n) (by simp) (by unfold maxLen; omega) (by simp [natCells_length]) (by rw [List.toList_toArray, List.take_of_length_le (by rw [natCells_length]; exact Nat.le_refl _)])
  rwa [List.length_replicate] at this
theorem CM.cell {N : Nat} {w wx : World} {V : Nat → Value} {X : Nat → List Nat} (h : CM N w wx V X) {c g n cap i x : Nat} (hv : V c = .slice (some ⟨g, 0, none⟩) n cap) (hx : (X c)[i]? = some x) : wx.cell? ⟨g, i, none⟩ = some (.int .i64 (x : Int)) := h.r.cell hv hx
theorem CM.ne {N : Nat} {w wx : World} {V : Nat → Value} {X : Nat → List Nat} (h : CM N w wx V X) {c c' g g' n n' cap cap' : Nat} (hv : V c = .slice (some ⟨g, 0, none⟩) n cap) (hv' : V c' = .slice (some ⟨g', 0, none⟩) n' cap') (hc : c ≠ c') : ¬ g = g' := fun e => by
  rcases h.r.apart c c' hc with h1 | h1
  · rw [hv] at h1; cases h1
  · rw [hv, hv'] at h1; exact h1 (by simp [Value.ownBlock, e])
end Go.Proofs.Ybulkbewa
