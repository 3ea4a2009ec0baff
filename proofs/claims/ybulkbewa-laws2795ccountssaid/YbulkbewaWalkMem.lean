/- what the walk of order.go holds in memory, and the plain text of enter. -/
import Derived.Test.YbulkbewaNewWalk
import Derived.Deep.QuietTactic
import Derived.BigQuiet
import Derived.Lib.MinMax
namespace Go.Proofs.Ybulkbewa
open Go.RowKit

structure DG where
  pastNode : List Nat
  events : List Nat
  eventsFrom : List Nat
  next : List Nat
  nextFrom : List Nat

structure WS where
  member : Nat
  seen : List Nat
  first : List Nat
  done : List Nat
  latest : List Int
  stack : List (Nat × Nat)

def never : Int := 9223372036854775807

def scanP (s : WS) : List Nat → Int → Option Int
  | [], l => some l
  | e :: es, l =>
    match s.seen[e]?, s.first[e]? with
    | some m, some f => if m = s.member then scanP s es (max l (f : Int)) else some never
    | _, _ => none

def enterP (d : DG) (s : WS) (n : Nat) : Option WS :=
  match d.eventsFrom[n]?, d.eventsFrom[n + 1]?, d.nextFrom[n]?, s.done[n]?, s.latest[n]? with
  | some lo, some hi, some nf, some _, some _ =>
    if lo ≤ hi ∧ hi ≤ d.events.length ∧ s.stack.length < big then
      match scanP s ((d.events.drop lo).take (hi - lo)) (-1) with
      | some l => some { s with done := s.done.set n s.member, latest := s.latest.set n l, stack := s.stack ++ [(n, nf)] }
      | none => none
    else none
  | _, _, _, _, _ => none

/-- a slice of numbers that is only read: below block B -/
def SlN (B : Nat) (w : World) (v : Value) (l : List Nat) : Prop :=
  ∃ a b o cap, v = .slice a l.length cap ∧ l.length ≤ cap ∧ cap ≤ 9223372036854775807 ∧ (0 < l.length → a = some ⟨b, o, none⟩ ∧ b < B) ∧ ∀ i x, l[i]? = some x → w.cell? ⟨b, o + i, none⟩ = some (.int .i64 ((x : Nat) : Int))

/-- what the walk holds in memory -/
structure WRep (B : Nat) (w0 w : World) (bw bd b2 b3 b4 b5 E n : Nat) (s : WS) (vS : Value) : Prop where
  c : w.heap[bw]? = some (.cells #[.pointer (some ⟨bd, 0, none⟩), .int .i64 (s.member : Int), .slice (some ⟨b2, 0, none⟩) E E, .slice (some ⟨b3, 0, none⟩) E E, .slice (some ⟨b4, 0, none⟩) n n, .slice (some ⟨b5, 0, none⟩) n n, vS] 101 (0, 0))
  h2 : w.heap[b2]? = some (.cells (natCells s.seen).toArray 3 (0, 0))
  h3 : w.heap[b3]? = some (.cells (natCells s.first).toArray 3 (0, 0))
  h4 : w.heap[b4]? = some (.cells (natCells s.done).toArray 3 (0, 0))
  h5 : w.heap[b5]? = some (.cells (intCells s.latest).toArray 3 (0, 0))
  oS : w.ownsRow B 142 2 vS s.stack.length (pairCells s.stack)
  below : Below B w0 w
  l2 : s.seen.length = E
  l3 : s.first.length = E
  l4 : s.done.length = n
  l5 : s.latest.length = n
  fr : ∀ (b : Nat) (o : Obj), w0.heap[b]? = some o → b ≠ bw → b ≠ b2 → b ≠ b3 → b ≠ b4 → b ≠ b5 → (∀ cur, o ≠ .cells cur 142 (0, 0)) → w.heap[b]? = some o

/-- the blocks' numbers -/
structure WB (B bw b2 b3 b4 b5 : Nat) : Prop where
  g : B ≤ bw ∧ B ≤ b2 ∧ B ≤ b3 ∧ B ≤ b4 ∧ B ≤ b5
  d : bw ≠ b2 ∧ bw ≠ b3 ∧ bw ≠ b4 ∧ bw ≠ b5 ∧ b2 ≠ b3 ∧ b2 ≠ b4 ∧ b2 ≠ b5 ∧ b3 ≠ b4 ∧ b3 ≠ b5 ∧ b4 ≠ b5

section
variable {B : Nat} {w0 w : World} {bw bd b2 b3 b4 b5 E n : Nat} {s : WS} {vS : Value}

theorem WRep.set2 (h : WRep B w0 w bw bd b2 b3 b4 b5 E n s vS) (hb : WB B bw b2 b3 b4 b5) (i : Nat) (x : Nat) : WRep B w0 (w.setCell ⟨b2, i, none⟩ (.int .i64 (x : Int))) bw bd b2 b3 b4 b5 E n { s with seen := s.seen.set i x } vS := by
  have k : ∀ b, b ≠ b2 → (w.setCell ⟨b2, i, none⟩ (.int .i64 (x : Int))).heap[b]? = w.heap[b]? := fun b hb => Below.heap_setCell _ _ _ _ (fun e => hb e)
  obtain ⟨g1, g2, g3, g4, g5⟩ := hb.g
  obtain ⟨d1, d2, d3, d4, d5, d6, d7, d8, d9, d10⟩ := hb.d
  refine ⟨(k _ d1).trans h.c, (heap_setCell_at _ h.h2).trans (by rw [natCells_set]), (k _ (Ne.symm d5)).trans h.h3, (k _ (Ne.symm d6)).trans h.h4, (k _ (Ne.symm d7)).trans h.h5, ?_, h.below.setCell g2 _, by simpa using h.l2, h.l3, h.l4, h.l5, fun b o ho n1 n2 n3 n4 n5 hn => (k _ n2).trans (h.fr b o ho n1 n2 n3 n4 n5 hn)⟩
  refine ownsRow_setCell_other h.oS (fun e => ?_) _
  rcases h.oS.2 with ⟨rfl, _⟩ | ⟨g, cap, cur, rfl, _, hg, _⟩
  · simp [Value.ownBlock] at e
  · have : g = b2 := by simpa [Value.ownBlock] using e
    subst this
    rw [h.h2] at hg
    cases hg
theorem WRep.set3 (h : WRep B w0 w bw bd b2 b3 b4 b5 E n s vS) (hb : WB B bw b2 b3 b4 b5) (i : Nat) (x : Nat) : WRep B w0 (w.setCell ⟨b3, i, none⟩ (.int .i64 (x : Int))) bw bd b2 b3 b4 b5 E n { s with first := s.first.set i x } vS := by
  have k : ∀ b, b ≠ b3 → (w.setCell ⟨b3, i, none⟩ (.int .i64 (x : Int))).heap[b]? = w.heap[b]? := fun b hb => Below.heap_setCell _ _ _ _ (fun e => hb e)
  obtain ⟨g1, g2, g3, g4, g5⟩ := hb.g
  obtain ⟨d1, d2, d3, d4, d5, d6, d7, d8, d9, d10⟩ := hb.d
  refine ⟨(k _ d2).trans h.c, (k _ d5).trans h.h2, (heap_setCell_at _ h.h3).trans (by rw [natCells_set]), (k _ (Ne.symm d8)).trans h.h4, (k _ (Ne.symm d9)).trans h.h5, ?_, h.below.setCell g3 _, h.l2, by simpa using h.l3, h.l4, h.l5, fun b o ho n1 n2 n3 n4 n5 hn => (k _ n3).trans (h.fr b o ho n1 n2 n3 n4 n5 hn)⟩
  refine ownsRow_setCell_other h.oS (fun e => ?_) _
  rcases h.oS.2 with ⟨rfl, _⟩ | ⟨g, cap, cur, rfl, _, hg, _⟩
  · simp [Value.ownBlock] at e
  · have : g = b3 := by simpa [Value.ownBlock] using e
    subst this
    rw [h.h3] at hg
    cases hg
theorem WRep.set4 (h : WRep B w0 w bw bd b2 b3 b4 b5 E n s vS) (hb : WB B bw b2 b3 b4 b5) (i : Nat) (x : Nat) : WRep B w0 (w.setCell ⟨b4, i, none⟩ (.int .i64 (x : Int))) bw bd b2 b3 b4 b5 E n { s with done := s.done.set i x } vS := by
  have k : ∀ b, b ≠ b4 → (w.setCell ⟨b4, i, none⟩ (.int .i64 (x : Int))).heap[b]? = w.heap[b]? := fun b hb => Below.heap_setCell _ _ _ _ (fun e => hb e)
  obtain ⟨g1, g2, g3, g4, g5⟩ := hb.g
  obtain ⟨d1, d2, d3, d4, d5, d6, d7, d8, d9, d10⟩ := hb.d
  refine ⟨(k _ d3).trans h.c, (k _ d6).trans h.h2, (k _ d8).trans h.h3, (heap_setCell_at _ h.h4).trans (by rw [natCells_set]), (k _ (Ne.symm d10)).trans h.h5, ?_, h.below.setCell g4 _, h.l2, h.l3, by simpa using h.l4, h.l5, fun b o ho n1 n2 n3 n4 n5 hn => (k _ n4).trans (h.fr b o ho n1 n2 n3 n4 n5 hn)⟩
  refine ownsRow_setCell_other h.oS (fun e => ?_) _
  rcases h.oS.2 with ⟨rfl, _⟩ | ⟨g, cap, cur, rfl, _, hg, _⟩
  · simp [Value.ownBlock] at e
  · have : g = b4 := by simpa [Value.ownBlock] using e
    subst this
    rw [h.h4] at hg
    cases hg
theorem WRep.set5 (h : WRep B w0 w bw bd b2 b3 b4 b5 E n s vS) (hb : WB B bw b2 b3 b4 b5) (i : Nat) (x : Int) : WRep B w0 (w.setCell ⟨b5, i, none⟩ (.int .i64 x)) bw bd b2 b3 b4 b5 E n { s with latest := s.latest.set i x } vS := by
  have k : ∀ b, b ≠ b5 → (w.setCell ⟨b5, i, none⟩ (.int .i64 x)).heap[b]? = w.heap[b]? := fun b hb => Below.heap_setCell _ _ _ _ (fun e => hb e)
  obtain ⟨g1, g2, g3, g4, g5⟩ := hb.g
  obtain ⟨d1, d2, d3, d4, d5, d6, d7, d8, d9, d10⟩ := hb.d
  refine ⟨(k _ d4).trans h.c, (k _ d7).trans h.h2, (k _ d9).trans h.h3, (k _ d10).trans h.h4, (heap_setCell_at _ h.h5).trans (by rw [intCells_set]), ?_, h.below.setCell g5 _, h.l2, h.l3, h.l4, by simpa using h.l5, fun b o ho n1 n2 n3 n4 n5 hn => (k _ n5).trans (h.fr b o ho n1 n2 n3 n4 n5 hn)⟩
  refine ownsRow_setCell_other h.oS (fun e => ?_) _
  rcases h.oS.2 with ⟨rfl, _⟩ | ⟨g, cap, cur, rfl, _, hg, _⟩
  · simp [Value.ownBlock] at e
  · have : g = b5 := by simpa [Value.ownBlock] using e
    subst this
    rw [h.h5] at hg
    cases hg
theorem WRep.setM (h : WRep B w0 w bw bd b2 b3 b4 b5 E n s vS) (hb : WB B bw b2 b3 b4 b5) (x : Nat) : WRep B w0 (w.setCell ⟨bw, 1, none⟩ (.int .i64 (x : Int))) bw bd b2 b3 b4 b5 E n { s with member := x } vS := by
  have k : ∀ b, b ≠ bw → (w.setCell ⟨bw, 1, none⟩ (.int .i64 (x : Int))).heap[b]? = w.heap[b]? := fun b hb => Below.heap_setCell _ _ _ _ (fun e => hb e)
  obtain ⟨g1, g2, g3, g4, g5⟩ := hb.g
  obtain ⟨d1, d2, d3, d4, d5, d6, d7, d8, d9, d10⟩ := hb.d
  refine ⟨heap_setCell_at _ h.c, (k _ d1.symm).trans h.h2, (k _ d2.symm).trans h.h3, (k _ d3.symm).trans h.h4, (k _ d4.symm).trans h.h5, ?_, h.below.setCell g1 _, h.l2, h.l3, h.l4, h.l5, fun b o ho n1 n2 n3 n4 n5 hn => (k _ n1).trans (h.fr b o ho n1 n2 n3 n4 n5 hn)⟩
  refine ownsRow_setCell_other h.oS (fun e => ?_) _
  rcases h.oS.2 with ⟨rfl, _⟩ | ⟨g, cap, cur, rfl, _, hg, _⟩
  · simp [Value.ownBlock] at e
  · have : g = bw := by simpa [Value.ownBlock] using e
    subst this
    rw [h.c] at hg
    cases hg
theorem WRep.notS (h : WRep B w0 w bw bd b2 b3 b4 b5 E n s vS) {b : Nat} {arr : Array Value} {t : TypeId} (hb : w.heap[b]? = some (.cells arr t (0, 0))) (ht : t ≠ 142) : vS.ownBlock ≠ some b := fun e => by
  rcases h.oS.2 with ⟨rfl, _⟩ | ⟨g, cap, cur, rfl, _, hg, _⟩
  · simp [Value.ownBlock] at e
  · have : g = b := by simpa [Value.ownBlock] using e
    subst this
    rw [hb] at hg
    cases hg
    exact ht rfl
theorem WRep.keepS (h : WRep B w0 w bw bd b2 b3 b4 b5 E n s vS) {w' : World} (hg : w.grownBy w' vS.ownBlock) {b : Nat} {arr : Array Value} {t : TypeId} (hb : w.heap[b]? = some (.cells arr t (0, 0))) (ht : t ≠ 142) : w'.heap[b]? = some (.cells arr t (0, 0)) :=
  (hg.block b (lt_of_block hb) (fun e => h.notS hb ht e.symm)).trans hb
theorem WRep.frS (h : WRep B w0 w bw bd b2 b3 b4 b5 E n s vS) {w' : World} (hg : w.grownBy w' vS.ownBlock) {b : Nat} {o : Obj} (hb : w.heap[b]? = some o) (hn : ∀ cur, o ≠ .cells cur 142 (0, 0)) : w'.heap[b]? = some o := by
  refine (hg.block b (Array.getElem?_eq_some_iff.1 hb).1 (fun e => ?_)).trans hb
  rcases h.oS.2 with ⟨rfl, _⟩ | ⟨g, cap, cur, rfl, _, hgc, _⟩
  · simp [Value.ownBlock] at e
  · have : b = g := by simpa [Value.ownBlock] using e
    subst this
    rw [hb] at hgc
    exact hn cur (Option.some.inj hgc)
theorem WRep.setS (h : WRep B w0 w bw bd b2 b3 b4 b5 E n s vS) (hb : WB B bw b2 b3 b4 b5) {w' : World} {v : Value} {l : List (Nat × Nat)} (hown : w'.ownsRow B 142 2 v l.length (pairCells l)) (hg : w.grownBy w' vS.ownBlock) :
    WRep B w0 (w'.setCell ⟨bw, 6, none⟩ v) bw bd b2 b3 b4 b5 E n { s with stack := l } v := by
  obtain ⟨g1, g2, g3, g4, g5⟩ := hb.g
  obtain ⟨d1, d2, d3, d4, d5, d6, d7, d8, d9, d10⟩ := hb.d
  have k : ∀ b, b ≠ bw → (w'.setCell ⟨bw, 6, none⟩ v).heap[b]? = w'.heap[b]? := fun b hb => Below.heap_setCell _ _ _ _ (fun e => hb e)
  have c' := h.keepS hg h.c (by decide)
  refine ⟨heap_setCell_at _ c', (k _ d1.symm).trans (h.keepS hg h.h2 (by decide)), (k _ d2.symm).trans (h.keepS hg h.h3 (by decide)), (k _ d3.symm).trans (h.keepS hg h.h4 (by decide)), (k _ d4.symm).trans (h.keepS hg h.h5 (by decide)), ?_, (h.below.grown hg (by have := lt_of_block h.c; omega) (fun x hx => (h.oS.lt x hx).1)).setCell g1 _, h.l2, h.l3, h.l4, h.l5, fun b o ho n1 n2 n3 n4 n5 hn => (k _ n1).trans (h.frS hg (h.fr b o ho n1 n2 n3 n4 n5 hn) hn)⟩
  refine ownsRow_setCell_other hown (fun e => ?_) _
  rcases hown.2 with ⟨rfl, _⟩ | ⟨g, cap, cur, rfl, _, hg', _⟩
  · simp [Value.ownBlock] at e
  · have : g = bw := by simpa [Value.ownBlock] using e
    subst this
    rw [c'] at hg'
    cases hg'
theorem WRep.alloc (h : WRep B w0 w bw bd b2 b3 b4 b5 E n s vS) (hb : WB B bw b2 b3 b4 b5) (o : Obj) : WRep B w0 (w.alloc o) bw bd b2 b3 b4 b5 E n s vS := by
  have k : ∀ b, b < w.heap.size → (w.alloc o).heap[b]? = w.heap[b]? := fun b hb => Below.heap_alloc _ _ _ hb
  exact ⟨(k _ (lt_of_block h.c)).trans h.c, (k _ (lt_of_block h.h2)).trans h.h2, (k _ (lt_of_block h.h3)).trans h.h3, (k _ (lt_of_block h.h4)).trans h.h4, (k _ (lt_of_block h.h5)).trans h.h5, h.oS.alloc _, h.below.alloc (by have := lt_of_block h.c; have := hb.g; omega) _, h.l2, h.l3, h.l4, h.l5, fun b o' ho n1 n2 n3 n4 n5 hn => (k _ (Array.getElem?_eq_some_iff.1 (h.fr b o' ho n1 n2 n3 n4 n5 hn)).1).trans (h.fr b o' ho n1 n2 n3 n4 n5 hn)⟩
theorem WRep.drew (h : WRep B w0 w bw bd b2 b3 b4 b5 E n s vS) : WRep B w0 w.drew bw bd b2 b3 b4 b5 E n s vS :=
  ⟨h.c, h.h2, h.h3, h.h4, h.h5, h.oS, h.below.drew, h.l2, h.l3, h.l4, h.l5, h.fr⟩
theorem WRep.drewN (h : WRep B w0 w bw bd b2 b3 b4 b5 E n s vS) (q : Nat) : WRep B w0 (w.drewN q) bw bd b2 b3 b4 b5 E n s vS := by
  induction q generalizing w with
  | zero => exact h
  | succ q ih => exact (ih h).drew
end
end Go.Proofs.Ybulkbewa
