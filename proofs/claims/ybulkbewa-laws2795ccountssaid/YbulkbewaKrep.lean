/- the Checker while lines are added: its plain state, what it holds in memory. -/
import Derived.Test.YbulkbewaMaps
import Derived.Test.YbulkbewaRooms
import Derived.Test.YbulkbewaCondPlain
namespace Go.Proofs.Ybulkbewa
open Go.RowKit Go.Maps

structure MB where
  id : Int
  dv : List Nat
  past : Int
  since : List Nat

structure KS where
  lines : Nat
  evs : List EV
  mem : List MB
  pasts : List PastP
  inp : List Nat

def evCells (V : Nat → Value) : Nat → List EV → List Value
  | _, [] => []
  | e, ev :: rest => [.int .i64 ev.id, .bool ev.bc, .int .i64 (ev.dl : Int), V (3 * e + 1)] ++ evCells V (e + 1) rest

def pastCells (ps : List PastP) : List Value := ps.flatMap fun p => [.int .i64 p.prev, .int .i64 (p.lo : Int), .int .i64 (p.hi : Int)]

theorem evCells_length (V : Nat → Value) : ∀ (e : Nat) (l : List EV), (evCells V e l).length = l.length * 4
  | _, [] => rfl
  | e, _ :: l => by simp only [evCells, List.length_append, evCells_length V (e + 1) l, List.length_cons, List.length_nil]; omega
theorem evCells_append (V : Nat → Value) : ∀ (e : Nat) (l : List EV) (ev : EV), evCells V e (l ++ [ev]) = evCells V e l ++ [.int .i64 ev.id, .bool ev.bc, .int .i64 (ev.dl : Int), V (3 * (e + l.length) + 1)]
  | e, [], ev => by simp [evCells]
  | e, a :: l, ev => by
    rw [List.cons_append, evCells, evCells_append V (e + 1) l ev, evCells, List.append_assoc, List.length_cons, show e + 1 + l.length = e + (l.length + 1) by omega]
theorem evCells_congr (V V' : Nat → Value) : ∀ (e : Nat) (l : List EV), (∀ i, e ≤ i → i < e + l.length → V (3 * i + 1) = V' (3 * i + 1)) → evCells V e l = evCells V' e l
  | _, [], _ => rfl
  | e, a :: l, h => by
    rw [evCells, evCells, h e (Nat.le_refl _) (by simp), evCells_congr V V' (e + 1) l (fun i h1 h2 => h i (by omega) (by simp at h2 ⊢; omega))]
theorem evCells_get (V : Nat → Value) : ∀ (e : Nat) (l : List EV) (i : Nat) (ev : EV), l[i]? = some ev → (evCells V e l)[i * 4]? = some (.int .i64 ev.id) ∧ (evCells V e l)[i * 4 + 1]? = some (.bool ev.bc) ∧ (evCells V e l)[i * 4 + 2]? = some (.int .i64 (ev.dl : Int)) ∧ (evCells V e l)[i * 4 + 3]? = some (V (3 * (e + i) + 1))
  | e, a :: l, 0, ev, h => by
    simp at h
    subst h
    simp [evCells]
  | e, a :: l, i + 1, ev, h => by
    have := evCells_get V (e + 1) l i ev (by simpa using h)
    rw [show e + 1 + i = e + (i + 1) by omega] at this
    have hh : ∀ j, (evCells V e (a :: l))[(i + 1) * 4 + j]? = (evCells V (e + 1) l)[i * 4 + j]? := fun j => by
      rw [evCells, List.getElem?_append_right (by simp; omega)]
      congr 1
      simp
      omega
    exact ⟨(hh 0).trans this.1, (hh 1).trans this.2.1, (hh 2).trans this.2.2.1, (hh 3).trans this.2.2.2⟩
  | _, [], _, _, h => by cases h
theorem evCells_setBc (V : Nat → Value) (b : Bool) : ∀ (e : Nat) (l : List EV) (i : Nat) (ev : EV), l[i]? = some ev → evCells V e (l.set i { ev with bc := b }) = (evCells V e l).set (i * 4 + 1) (.bool b)
  | e, a :: l, 0, ev, h => by
    simp at h
    subst h
    simp [evCells]
  | e, a :: l, i + 1, ev, h => by
    have ih := evCells_setBc V b (e + 1) l i ev (by simpa using h)
    rw [List.set_cons_succ, evCells, evCells, ih, List.set_append, if_neg (by simp; omega)]
    congr 2
    simp
    omega
  | _, [], _, _, h => by cases h
theorem evCells_setDl (V : Nat → Value) (b : Nat) : ∀ (e : Nat) (l : List EV) (i : Nat) (ev : EV), l[i]? = some ev → evCells V e (l.set i { ev with dl := b }) = (evCells V e l).set (i * 4 + 2) (.int .i64 (b : Int))
  | e, a :: l, 0, ev, h => by
    simp at h
    subst h
    simp [evCells]
  | e, a :: l, i + 1, ev, h => by
    have ih := evCells_setDl V b (e + 1) l i ev (by simpa using h)
    rw [List.set_cons_succ, evCells, evCells, ih, List.set_append, if_neg (by simp; omega)]
    congr 2
    simp
    omega
  | _, [], _, _, h => by cases h
theorem evCells_setPs (V V' : Nat → Value) (ps : List Nat) : ∀ (e : Nat) (l : List EV) (i : Nat) (ev : EV), l[i]? = some ev → (∀ j, j ≠ e + i → V' (3 * j + 1) = V (3 * j + 1)) → evCells V' e (l.set i { ev with pasts := ps }) = (evCells V e l).set (i * 4 + 3) (V' (3 * (e + i) + 1))
  | e, a :: l, 0, ev, h, hV => by
    simp at h
    subst h
    simp only [List.set_cons_zero, evCells, Nat.add_zero, Nat.zero_mul, Nat.zero_add, List.cons_append, List.nil_append, List.set_cons_succ]
    rw [evCells_congr V' V (e + 1) l (fun i h1 _ => hV i (by omega))]
  | e, a :: l, i + 1, ev, h, hV => by
    have ih := evCells_setPs V V' ps (e + 1) l i ev (by simpa using h) (fun j hj => hV j (by omega))
    rw [show e + 1 + i = e + (i + 1) by omega] at ih
    rw [List.set_cons_succ, evCells, evCells, ih, hV e (by omega), List.set_append, if_neg (by simp; omega)]
    congr 2
    simp
    omega
  | _, [], _, _, h, _ => by cases h
theorem pastCells_length (ps : List PastP) : (pastCells ps).length = ps.length * 3 := by
  induction ps with
  | nil => rfl
  | cons a l ih => simp only [pastCells, List.flatMap_cons, List.length_append, List.length_cons, List.length_nil] at ih ⊢; omega
theorem pastCells_append (a b : List PastP) : pastCells (a ++ b) = pastCells a ++ pastCells b := by simp [pastCells]
theorem pastCells_get : ∀ (l : List PastP) (i : Nat) (p : PastP), l[i]? = some p → (pastCells l)[i * 3]? = some (.int .i64 p.prev) ∧ (pastCells l)[i * 3 + 1]? = some (.int .i64 (p.lo : Int)) ∧ (pastCells l)[i * 3 + 2]? = some (.int .i64 (p.hi : Int))
  | a :: l, 0, p, h => by
    simp at h
    subst h
    simp [pastCells]
  | a :: l, i + 1, p, h => by
    have := pastCells_get l i p (by simpa using h)
    have hh : ∀ j, (pastCells (a :: l))[(i + 1) * 3 + j]? = (pastCells l)[i * 3 + j]? := fun j => by
      rw [show pastCells (a :: l) = pastCells [a] ++ pastCells l from pastCells_append [a] l, List.getElem?_append_right (by rw [pastCells_length]; simp; omega)]
      congr 1
      rw [pastCells_length]
      simp
      omega
    exact ⟨(hh 0).trans this.1, (hh 1).trans this.2.1, (hh 2).trans this.2.2⟩
  | [], _, _, h => by cases h

/-- the Checker in memory, while lines are added. Rooms: 0: inPasts; 3 e + 1: the pasts of event e; 3 k + 2, 3 k + 3: what member k delivered, in all and since its past. -/
structure KRep (B : Nat) (w0 w : World) (bc bi bm : Nat) (K : KS) (il ms : List (Int × Nat)) (V : Nat → Value) (X : Nat → List Nat) (vE vP : Value) (Di Dm : DataW Unit) : Prop where
  c : w.heap[bc]? = some (.cells #[.slice none 0 0, .int .i64 (K.lines : Int), .map (some bi), vE, .map (some bm), vP, V 0] 77 (0, 0))
  oi : w.ownsMap Yba.prog 3 (plainElem Yba.prog 3) bi il.length Di
  om : w.ownsMap Yba.prog 3 ptrElem bm K.mem.length Dm
  di : MapOf Di il
  dm : MapOf Dm ms
  oE : w.ownsRow B 84 4 vE K.evs.length (evCells V 0 K.evs)
  oP : w.ownsRow B 110 3 vP K.pasts.length (pastCells K.pasts)
  r : Rooms B w V X
  m : ∀ (k : Nat) (p : Int × Nat) (mb : MB), ms[k]? = some p → K.mem[k]? = some mb → w.heap[p.2]? = some (.cells #[.int .i64 mb.id, V (3 * k + 2), .int .i64 mb.past, V (3 * k + 3)] 81 (0, 0))
  mi : ms.map (·.1) = K.mem.map (·.id)
  nd : (ms.map (·.2)).Nodup
  mB : ∀ p ∈ ms, B ≤ p.2
  x0 : X 0 = K.inp
  x1 : ∀ e ev, K.evs[e]? = some ev → X (3 * e + 1) = ev.pasts
  x2 : ∀ k mb, K.mem[k]? = some mb → X (3 * k + 2) = mb.dv ∧ X (3 * k + 3) = mb.since
  n1 : ∀ e, K.evs.length ≤ e → V (3 * e + 1) = .slice none 0 0
  n2 : ∀ k, K.mem.length ≤ k → V (3 * k + 2) = .slice none 0 0 ∧ V (3 * k + 3) = .slice none 0 0
  below : Below B w0 w
  ge : B ≤ bc ∧ B ≤ bi ∧ B ≤ bm ∧ bi ≠ bm

theorem grown_set (w : World) (p : Addr) (u : Value) : w.grownBy (w.setCell p u) (some p.block) :=
  ⟨rfl, rfl, rfl, by simp [World.setCell], fun k _ hne => Below.heap_setCell _ _ _ _ (fun e => hne (by rw [e]))⟩

theorem row_far {w : World} {B b sz n : Nat} {e t : TypeId} {v : Value} {xs : List Value} {cur : Array Value} (h : w.ownsRow B e sz v n xs) (hb : w.heap[b]? = some (.cells cur t (0, 0))) (ht : t ≠ e) : v.ownBlock ≠ some b := fun he => by
  rcases h.2 with ⟨rfl, _⟩ | ⟨g, cap, c2, rfl, _, hg, _⟩
  · simp [Value.ownBlock] at he
  · have : g = b := by simpa [Value.ownBlock] using he
    subst this
    rw [hb] at hg
    cases hg
    exact ht rfl
theorem row_block {w : World} {B sz n : Nat} {e : TypeId} {v : Value} {xs : List Value} (h : w.ownsRow B e sz v n xs) : ∀ b, v.ownBlock = some b → B ≤ b ∧ ∃ cur, w.heap[b]? = some (.cells cur e (0, 0)) := fun b hb => by
  rcases h.2 with ⟨rfl, _⟩ | ⟨g, cap, cur, rfl, hB, hg, _⟩
  · simp [Value.ownBlock] at hb
  · have : g = b := by simpa [Value.ownBlock] using hb
    subst this
    exact ⟨hB, cur, hg⟩

section
variable {B : Nat} {w0 w w' : World} {bc bi bm : Nat} {K : KS} {il ms : List (Int × Nat)} {V : Nat → Value} {X : Nat → List Nat} {vE vP : Value} {Di Dm : DataW Unit}

/-- what a step leaves that turns one block, of type t -/
structure Left (B : Nat) (w0 w w' : World) (bc bi bm : Nat) (K : KS) (il ms : List (Int × Nat)) (V : Nat → Value) (X : Nat → List Nat) (vE vP : Value) (Di Dm : DataW Unit) (row : Option Nat) (t : TypeId) : Prop where
  c : some bc ≠ row → w'.heap[bc]? = w.heap[bc]?
  oi : w'.ownsMap Yba.prog 3 (plainElem Yba.prog 3) bi il.length Di
  om : w'.ownsMap Yba.prog 3 ptrElem bm K.mem.length Dm
  oE : t ≠ 84 → w'.ownsRow B 84 4 vE K.evs.length (evCells V 0 K.evs)
  oP : t ≠ 110 → w'.ownsRow B 110 3 vP K.pasts.length (pastCells K.pasts)
  r : t ≠ 3 → Rooms B w' V X
  m : ∀ p : Int × Nat, p ∈ ms → some p.2 ≠ row → w'.heap[p.2]? = w.heap[p.2]?
  below : Below B w0 w'
  c7 : t ≠ 77 → w'.heap[bc]? = w.heap[bc]?
  m8 : t ≠ 81 → ∀ p : Int × Nat, p ∈ ms → w'.heap[p.2]? = w.heap[p.2]?

theorem KRep.mem_lt (h : KRep B w0 w bc bi bm K il ms V X vE vP Di Dm) {p : Int × Nat} (hp : p ∈ ms) : ∃ cur, w.heap[p.2]? = some (.cells cur 81 (0, 0)) := by
  obtain ⟨k, hk⟩ := List.mem_iff_getElem?.1 hp
  have hl : k < K.mem.length := by
    have h1 := (List.getElem?_eq_some_iff.1 hk).1
    have h2 := congrArg List.length h.mi
    simp at h2
    omega
  exact ⟨_, h.m k p _ hk (List.getElem?_eq_getElem hl)⟩

theorem KRep.touch (h : KRep B w0 w bc bi bm K il ms V X vE vP Di Dm) {row : Option Nat} {t : TypeId} (hg : w.grownBy w' row) (hrow : ∀ b, row = some b → B ≤ b ∧ ∃ cur, w.heap[b]? = some (.cells cur t (0, 0))) :
    Left B w0 w w' bc bi bm K il ms V X vE vP Di Dm row t := by
  have hmap : ∀ b, (∃ es cl, w.heap[b]? = some (.map es cl)) → some b ≠ row := fun b ⟨es, cl, hb⟩ e => by
    obtain ⟨_, cur, hc⟩ := hrow b e.symm
    rw [hb] at hc
    cases hc
  have hfar : ∀ {e : TypeId} {sz n : Nat} {v : Value} {xs : List Value}, w.ownsRow B e sz v n xs → t ≠ e → v.ownBlock = none ∨ v.ownBlock ≠ row := fun {e sz n v xs} ho ht => by
    cases hv : v.ownBlock with
    | none => exact .inl rfl
    | some g =>
      refine .inr fun e' => ?_
      obtain ⟨_, cur, hc⟩ := hrow g e'.symm
      exact row_far ho hc ht hv
  have hc : some bc ≠ row → w'.heap[bc]? = w.heap[bc]? := fun hne => hg.block bc (lt_of_block h.c) hne
  have hm : ∀ p : Int × Nat, p ∈ ms → some p.2 ≠ row → w'.heap[p.2]? = w.heap[p.2]? := fun p hp hne => by
    obtain ⟨cur, hcur⟩ := h.mem_lt hp
    exact hg.block _ (Array.getElem?_eq_some_iff.1 hcur).1 hne
  refine ⟨hc, ?_, ?_, fun ht => h.oE.kept hg (hfar h.oE ht), fun ht => h.oP.kept hg (hfar h.oP ht), fun ht => ?_, hm, h.below.grown hg (by have := lt_of_block h.c; have := h.ge; omega) (fun b hb => (hrow b hb).1), fun ht => hc (fun e => ?_), fun ht p hp => hm p hp (fun e => ?_)⟩
  · obtain ⟨es, cl, hb, _⟩ := h.oi
    exact h.oi.kept hg (hmap bi ⟨es, cl, hb⟩)
  · obtain ⟨es, cl, hb, _⟩ := h.om
    exact h.om.kept hg (hmap bm ⟨es, cl, hb⟩)
  · refine h.r.same (fun c g hv => hg.block g (h.r.lt hv).2 (fun e => ?_))
    obtain ⟨_, cur, hc⟩ := hrow g e.symm
    exact row_far (h.r.own c) hc ht hv
  · obtain ⟨_, cur, hc2⟩ := hrow bc e.symm
    rw [h.c] at hc2
    cases hc2
    exact ht rfl
  · obtain ⟨_, cur, hc2⟩ := hrow p.2 e.symm
    obtain ⟨cur', hcur⟩ := h.mem_lt hp
    rw [hcur] at hc2
    cases hc2
    exact ht rfl

theorem KRep.alloc (h : KRep B w0 w bc bi bm K il ms V X vE vP Di Dm) (o : Obj) : KRep B w0 (w.alloc o) bc bi bm K il ms V X vE vP Di Dm := by
  have t := h.touch (w' := w.alloc o) (row := none) (t := 0) (World.grownBy_alloc w o none) (fun b e => by cases e)
  exact ⟨(t.c7 (by decide)).trans h.c, t.oi, t.om, h.di, h.dm, t.oE (by decide), t.oP (by decide), t.r (by decide), fun k p mb h1 h2 => (t.m8 (by decide) p (List.mem_of_getElem? h1)).trans (h.m k p mb h1 h2), h.mi, h.nd, h.mB, h.x0, h.x1, h.x2, h.n1, h.n2, t.below, h.ge⟩
theorem KRep.drew (h : KRep B w0 w bc bi bm K il ms V X vE vP Di Dm) : KRep B w0 w.drew bc bi bm K il ms V X vE vP Di Dm :=
  ⟨h.c, h.oi, h.om, h.di, h.dm, h.oE, h.oP, h.r.drew, h.m, h.mi, h.nd, h.mB, h.x0, h.x1, h.x2, h.n1, h.n2, h.below.drew, h.ge⟩
theorem KRep.lines (h : KRep B w0 w bc bi bm K il ms V X vE vP Di Dm) (n : Nat) : KRep B w0 (w.setCell ⟨bc, 1, none⟩ (.int .i64 (n : Int))) bc bi bm { K with lines := n } il ms V X vE vP Di Dm := by
  have t := h.touch (w' := w.setCell ⟨bc, 1, none⟩ (.int .i64 (n : Int))) (row := some bc) (t := 77) (grown_set _ _ _) (fun b e => by cases e; exact ⟨h.ge.1, _, h.c⟩)
  exact ⟨heap_setCell_at _ h.c, t.oi, t.om, h.di, h.dm, t.oE (by decide), t.oP (by decide), t.r (by decide), fun k p mb h1 h2 => (t.m8 (by decide) p (List.mem_of_getElem? h1)).trans (h.m k p mb h1 h2), h.mi, h.nd, h.mB, h.x0, h.x1, h.x2, h.n1, h.n2, t.below, h.ge⟩

theorem map_keep {w w' : World} {b : Nat} (hg : w.grownBy w' (some b)) {c : Nat} {cur : Array Value} {t : TypeId} {fz : Nat × Nat} (hc : w.heap[c]? = some (.cells cur t fz)) (hb : ∃ es cl, w.heap[b]? = some (.map es cl)) : w'.heap[c]? = some (.cells cur t fz) := by
  refine (hg.block c (Array.getElem?_eq_some_iff.1 hc).1 (fun e => ?_)).trans hc
  cases e
  obtain ⟨es, cl, hb⟩ := hb
  rw [hb] at hc
  cases hc
theorem row_map {w w' : World} {B b sz n : Nat} {e : TypeId} {v : Value} {xs : List Value} (h : w.ownsRow B e sz v n xs) (hg : w.grownBy w' (some b)) (hb : ∃ es cl, w.heap[b]? = some (.map es cl)) : w'.ownsRow B e sz v n xs := by
  refine h.kept hg ?_
  cases hv : v.ownBlock with
  | none => exact .inl rfl
  | some g =>
    refine .inr fun e' => ?_
    cases e'
    obtain ⟨_, cur, hc⟩ := row_block h b hv
    obtain ⟨es, cl, hb⟩ := hb
    rw [hb] at hc
    cases hc
/-- a new entry in ids -/
theorem KRep.putI (h : KRep B w0 w bc bi bm K il ms V X vE vP Di Dm) {z : Int} {e : Nat} (hz : z ∉ il.map (·.1)) (ho : w'.ownsMap Yba.prog 3 (plainElem Yba.prog 3) bi (il.length + 1) (Di.put (.int .i64 z) (.lit (.int .i64 (e : Int))))) (hg : w.grownBy w' (some bi)) :
    KRep B w0 w' bc bi bm K (il ++ [(z, e)]) ms V X vE vP (Di.put (.int .i64 z) (.lit (.int .i64 (e : Int)))) Dm := by
  have hb : ∃ es cl, w.heap[bi]? = some (.map es cl) := by obtain ⟨es, cl, hb, _⟩ := h.oi; exact ⟨es, cl, hb⟩
  refine ⟨map_keep hg h.c hb, by simpa using ho, h.om.kept hg (fun e => h.ge.2.2.2 (by cases e; rfl)), h.di.put h.oi.isMap (h.oi.tidy (int_keyed Yba.underlying3)) hz, h.dm, row_map h.oE hg hb, row_map h.oP hg hb, ?_, fun k p mb h1 h2 => map_keep hg (h.m k p mb h1 h2) hb, h.mi, h.nd, h.mB, h.x0, h.x1, h.x2, h.n1, h.n2, h.below.grown hg (by have := lt_of_block h.c; have := h.ge; omega) (fun b e => by cases e; exact h.ge.2.1), h.ge⟩
  exact ⟨fun c => row_map (h.r.own c) hg hb, h.r.apart⟩
/-- a new member -/
theorem KRep.putM (h : KRep B w0 w bc bi bm K il ms V X vE vP Di Dm) {z : Int} {b : Nat} (hz : z ∉ ms.map (·.1)) (ho : w'.ownsMap Yba.prog 3 ptrElem bm (K.mem.length + 1) (Dm.put (.int .i64 z) (.lit (.int .i64 (b : Int))))) (hg : w.grownBy w' (some bm))
    (hbk : w.heap[b]? = some (.cells #[.int .i64 z, .slice none 0 0, .int .i64 (-1), .slice none 0 0] 81 (0, 0))) (hbB : B ≤ b) (hbn : b ∉ ms.map (·.2)) :
    KRep B w0 w' bc bi bm { K with mem := K.mem ++ [⟨z, [], -1, []⟩] } il (ms ++ [(z, b)]) V X vE vP Di (Dm.put (.int .i64 z) (.lit (.int .i64 (b : Int)))) := by
  have hb : ∃ es cl, w.heap[bm]? = some (.map es cl) := by obtain ⟨es, cl, hb, _⟩ := h.om; exact ⟨es, cl, hb⟩
  have hml : ms.length = K.mem.length := by have := congrArg List.length h.mi; simpa using this
  have nil3 : ∀ c, V c = .slice none 0 0 → X c = [] := fun c hv => by
    have := (h.r.own c).2
    rw [hv] at this
    rcases this with ⟨_, h0⟩ | ⟨g, cap, cur, h0, _⟩
    · exact List.length_eq_zero_iff.1 h0
    · cases h0
  refine ⟨map_keep hg h.c hb, h.oi.kept hg (fun e => h.ge.2.2.2 (by cases e; rfl)), by simpa using ho, h.di, h.dm.put h.om.isMap (h.om.tidy (int_keyed Yba.underlying3)) hz, row_map h.oE hg hb, row_map h.oP hg hb, ⟨fun c => row_map (h.r.own c) hg hb, h.r.apart⟩, fun k p mb h1 h2 => ?_, by simp [h.mi], ?_, ?_, h.x0, h.x1, fun k mb h2 => ?_, h.n1, fun k hk => h.n2 k (by simp at hk; omega), h.below.grown hg (by have := lt_of_block h.c; have := h.ge; omega) (fun b e => by cases e; exact h.ge.2.2.1), h.ge⟩
  · rw [List.getElem?_append] at h1 h2
    split at h1
    · rw [if_pos (by omega)] at h2
      exact map_keep hg (h.m k p mb h1 h2) hb
    · rw [if_neg (by omega)] at h2
      have hk : k = ms.length := by
        have := (List.getElem?_eq_some_iff.1 h1).1
        simp at this
        omega
      subst hk
      simp only [Nat.sub_self, List.getElem?_cons_zero, Option.some.injEq] at h1
      rw [hml, Nat.sub_self] at h2
      simp only [List.getElem?_cons_zero, Option.some.injEq] at h2
      subst h1 h2
      obtain ⟨e2, e3⟩ := h.n2 ms.length (by omega)
      rw [e2, e3]
      exact map_keep hg hbk hb
  · rw [List.map_append, List.nodup_append]
    exact ⟨h.nd, by simp, fun a ha b' hb' e => by simp at hb'; subst hb'; exact hbn (e ▸ ha)⟩
  · intro p hp
    rcases List.mem_append.1 hp with hp | hp
    · exact h.mB p hp
    · simp at hp; subst hp; exact hbB
  · rw [List.getElem?_append] at h2
    split at h2
    · exact h.x2 k mb h2
    · have hk : k = K.mem.length := by
        have := (List.getElem?_eq_some_iff.1 h2).1
        simp at this
        omega
      subst hk
      simp only [Nat.sub_self, List.getElem?_cons_zero, Option.some.injEq] at h2
      subst h2
      obtain ⟨e2, e3⟩ := h.n2 K.mem.length (Nat.le_refl _)
      exact ⟨nil3 _ e2, nil3 _ e3⟩
/-- a new event -/
theorem KRep.pushE (h : KRep B w0 w bc bi bm K il ms V X vE vP Di Dm) {z : Int} {v' : Value} (O : w'.ownsRow B 84 4 v' (K.evs.length + 1) (evCells V 0 K.evs ++ [.int .i64 z, .bool false, .int .i64 0, .slice none 0 0])) (G : w.grownBy w' vE.ownBlock) :
    KRep B w0 (w'.setCell ⟨bc, 3, none⟩ v') bc bi bm { K with evs := K.evs ++ [⟨z, false, 0, []⟩] } il ms V X v' vP Di Dm := by
  have t := h.touch G (t := 84) (row_block h.oE)
  have c' := (t.c7 (by decide)).trans h.c
  have O' : w'.ownsRow B 84 4 v' (K.evs ++ [⟨z, false, 0, []⟩] : List EV).length (evCells V 0 (K.evs ++ [⟨z, false, 0, []⟩])) := by
    rw [evCells_append, List.length_append, Nat.zero_add, h.n1 _ (Nat.le_refl _)]; exact O
  have e1 : w'.grownBy (w'.setCell ⟨bc, 3, none⟩ v') (some bc) := grown_set _ _ _
  have far : ∀ {e : TypeId} {sz n : Nat} {v : Value} {xs : List Value}, w'.ownsRow B e sz v n xs → e ≠ 77 → (w'.setCell ⟨bc, 3, none⟩ v').ownsRow B e sz v n xs := fun {e sz n v xs} ho he => by
    refine ho.kept e1 ?_
    cases hv : v.ownBlock with
    | none => exact .inl rfl
    | some g => exact .inr (fun e' => row_far ho c' (Ne.symm he) (hv.trans e'))
  have mp : ∀ b, (∃ es cl, w'.heap[b]? = some (.map es cl)) → some b ≠ some bc := fun b ⟨es, cl, hb⟩ e => by cases e; rw [c'] at hb; cases hb
  have nil3 : X (3 * K.evs.length + 1) = [] := by
    have := (h.r.own (3 * K.evs.length + 1)).2
    rw [h.n1 _ (Nat.le_refl _)] at this
    rcases this with ⟨_, h0⟩ | ⟨g, cap, cur, h0, _⟩
    · exact List.length_eq_zero_iff.1 h0
    · cases h0
  refine ⟨heap_setCell_at _ c', t.oi.kept e1 (mp _ (by obtain ⟨es, cl, hb, _⟩ := t.oi; exact ⟨es, cl, hb⟩)), t.om.kept e1 (mp _ (by obtain ⟨es, cl, hb, _⟩ := t.om; exact ⟨es, cl, hb⟩)), h.di, h.dm, far O' (by decide), far (t.oP (by decide)) (by decide), (t.r (by decide)).setOther ((t.r (by decide)).notR c' (by decide)) _, fun k p mb h1 h2 => ?_, h.mi, h.nd, h.mB, h.x0, fun e ev he => ?_, h.x2, fun e he => h.n1 e (by simp at he; omega), h.n2, t.below.setCell h.ge.1 _, h.ge⟩
  · have hp := (t.m8 (by decide) p (List.mem_of_getElem? h1)).trans (h.m k p mb h1 h2)
    refine (Below.heap_setCell _ _ _ _ (fun e => ?_)).trans hp
    have : p.2 = bc := e
    rw [this, c'] at hp
    cases hp
  · rw [List.getElem?_append] at he
    split at he
    · exact h.x1 e ev he
    · have hk : e = K.evs.length := by
        have := (List.getElem?_eq_some_iff.1 he).1
        simp at this
        omega
      subst hk
      simp only [Nat.sub_self, List.getElem?_cons_zero, Option.some.injEq] at he
      subst he
      exact nil3

theorem KRep.forE (h : KRep B w0 w bc bi bm K il ms V X vE vP Di Dm) {e : Nat} {ev : EV} (he : K.evs[e]? = some ev) : ∃ gE cap, vE = .slice (some ⟨gE, 0, none⟩) K.evs.length cap ∧ B ≤ gE ∧ K.evs.length ≤ cap ∧ cap ≤ 9223372036854775807 ∧ w.heap[gE]? ≠ none := by
  have hl := (List.getElem?_eq_some_iff.1 he).1
  rcases h.oE.2 with ⟨_, h0⟩ | ⟨g, cap, cur, rfl, hB, hg, h1, h2, _⟩
  · omega
  · exact ⟨g, cap, rfl, hB, h1, by unfold maxLen at h2; exact h2, by rw [hg]; simp⟩
/-- a store into the events' row -/
theorem KRep.storeE (h : KRep B w0 w bc bi bm K il ms V X vE vP Di Dm) {gE cap : Nat} (hv : vE = .slice (some ⟨gE, 0, none⟩) K.evs.length cap) {j : Nat} {u : Value} {evs' : List EV} (hl : evs'.length = K.evs.length)
    (hc : evCells V 0 evs' = (evCells V 0 K.evs).set j u) (hx : ∀ e ev, evs'[e]? = some ev → X (3 * e + 1) = ev.pasts) :
    KRep B w0 (w.setCell ⟨gE, j, none⟩ u) bc bi bm { K with evs := evs' } il ms V X vE vP Di Dm := by
  have hO := h.oE
  rw [hv] at hO
  obtain ⟨h1, h2⟩ := hO.stored j u
  have t := h.touch (w' := w.setCell ⟨gE, j, none⟩ u) (row := vE.ownBlock) (t := 84) (by rw [hv]; exact h2) (row_block h.oE)
  refine ⟨(t.c7 (by decide)).trans h.c, t.oi, t.om, h.di, h.dm, ?_, t.oP (by decide), t.r (by decide), fun k p mb h1 h2 => (t.m8 (by decide) p (List.mem_of_getElem? h1)).trans (h.m k p mb h1 h2), h.mi, h.nd, h.mB, h.x0, hx, h.x2, fun e he => h.n1 e (by rw [hl] at he; exact he), h.n2, t.below, h.ge⟩
  show World.ownsRow _ _ _ _ _ evs'.length _
  rw [hl, hc, hv]
  exact h1
/-- a store into member k's block, rooms 3 k + 2, 3 k + 3 turned ahead of it -/
theorem KRep.setM (h : KRep B w0 w bc bi bm K il ms V X vE vP Di Dm) {k : Nat} {p : Int × Nat} {mb mb' : MB} (hk : ms[k]? = some p) (hmb : K.mem[k]? = some mb) {w1 : World} {V' : Nat → Value} {X' : Nat → List Nat} {row : Option Nat}
    (t : Left B w0 w w1 bc bi bm K il ms V X vE vP Di Dm row 3) (r' : Rooms B w1 V' X') (hV : ∀ c, c ≠ 3 * k + 2 → c ≠ 3 * k + 3 → V' c = V c ∧ X' c = X c) (hx : X' (3 * k + 2) = mb'.dv ∧ X' (3 * k + 3) = mb'.since) (hid : mb'.id = mb.id) {off : Nat} {u : Value}
    (harr : (#[.int .i64 mb.id, V (3 * k + 2), .int .i64 mb.past, V (3 * k + 3)] : Array Value).setIfInBounds off u = #[.int .i64 mb'.id, V' (3 * k + 2), .int .i64 mb'.past, V' (3 * k + 3)]) :
    KRep B w0 (w1.setCell ⟨p.2, off, none⟩ u) bc bi bm { K with mem := K.mem.set k mb' } il ms V' X' vE vP Di Dm := by
  have hp := (t.m8 (by decide) p (List.mem_of_getElem? hk)).trans (h.m k p mb hk hmb)
  have hkl := (List.getElem?_eq_some_iff.1 hmb).1
  have e1 : w1.grownBy (w1.setCell ⟨p.2, off, none⟩ u) (some p.2) := grown_set _ _ _
  have c' := (t.c7 (by decide)).trans h.c
  have far : ∀ {e : TypeId} {sz n : Nat} {v : Value} {xs : List Value}, w1.ownsRow B e sz v n xs → e ≠ 81 → (w1.setCell ⟨p.2, off, none⟩ u).ownsRow B e sz v n xs := fun {e sz n v xs} ho he => by
    refine ho.kept e1 ?_
    cases hv : v.ownBlock with
    | none => exact .inl rfl
    | some g => exact .inr (fun e' => row_far ho hp (Ne.symm he) (hv.trans e'))
  have mp : ∀ b, (∃ es cl, w1.heap[b]? = some (.map es cl)) → some b ≠ some p.2 := fun b ⟨es, cl, hb⟩ e => by cases e; rw [hp] at hb; cases hb
  have hV0 : V' 0 = V 0 := (hV 0 (by omega) (by omega)).1
  refine ⟨?_, t.oi.kept e1 (mp _ (by obtain ⟨es, cl, hb, _⟩ := t.oi; exact ⟨es, cl, hb⟩)), by simpa using t.om.kept e1 (mp _ (by obtain ⟨es, cl, hb, _⟩ := t.om; exact ⟨es, cl, hb⟩)), h.di, h.dm, ?_, far (t.oP (by decide)) (by decide), r'.setOther (r'.notR hp (by decide)) _, fun k2 p2 mb2 h1 h2 => ?_, ?_, h.nd, h.mB, (hV 0 (by omega) (by omega)).2.trans h.x0, fun e ev he => (hV (3 * e + 1) (by omega) (by omega)).2.trans (h.x1 e ev he), fun k2 mb2 h2 => ?_, fun e he => (hV (3 * e + 1) (by omega) (by omega)).1.trans (h.n1 e he), fun k2 hk2 => ?_, t.below.setCell (h.mB p (List.mem_of_getElem? hk)) _, h.ge⟩
  · rw [hV0]
    refine (Below.heap_setCell _ _ _ _ (fun e => ?_)).trans c'
    have e' : bc = p.2 := e
    rw [e', hp] at c'
    cases c'
  · rw [evCells_congr V' V 0 K.evs (fun i _ _ => (hV (3 * i + 1) (by omega) (by omega)).1)]
    exact far (t.oE (by decide)) (by decide)
  · by_cases hkk : k2 = k
    · subst hkk
      rw [hk] at h1
      cases h1
      have h2' : (K.mem.set k2 mb')[k2]? = some mb2 := h2
      rw [List.getElem?_set_self hkl] at h2'
      cases h2'
      rw [heap_setCell_at _ hp, harr]
    · have h2' : (K.mem.set k mb')[k2]? = some mb2 := h2
      rw [List.getElem?_set_ne (Ne.symm hkk)] at h2'
      obtain ⟨ea, _⟩ := hV (3 * k2 + 2) (by omega) (by omega)
      obtain ⟨eb, _⟩ := hV (3 * k2 + 3) (by omega) (by omega)
      rw [ea, eb]
      refine (Below.heap_setCell _ _ _ _ (fun e => ?_)).trans ((t.m8 (by decide) p2 (List.mem_of_getElem? h1)).trans (h.m k2 p2 mb2 h1 h2'))
      have e' : p2.2 = p.2 := e
      have i1 : (ms.map (·.2))[k2]? = some p2.2 := by simp [h1]
      have i2 : (ms.map (·.2))[k]? = some p.2 := by simp [hk]
      obtain ⟨l1, g1⟩ := List.getElem?_eq_some_iff.1 i1
      obtain ⟨l2, g2⟩ := List.getElem?_eq_some_iff.1 i2
      have hpw := List.pairwise_iff_getElem.1 h.nd
      rcases Nat.lt_or_gt_of_ne hkk with hlt | hlt
      · exact hpw k2 k l1 l2 hlt (g1.trans (e'.trans g2.symm))
      · exact hpw k k2 l2 l1 hlt (g2.trans (e'.symm.trans g1.symm))
  · show ms.map (·.1) = (K.mem.set k mb').map (·.id)
    rw [h.mi, List.map_set, hid]
    have : (K.mem.map (·.id))[k]? = some mb.id := by simp [hmb]
    obtain ⟨l1, g1⟩ := List.getElem?_eq_some_iff.1 this
    rw [← g1, List.set_getElem_self]
  · have h2' : (K.mem.set k mb')[k2]? = some mb2 := h2
    by_cases hkk : k2 = k
    · subst hkk
      rw [List.getElem?_set_self hkl] at h2'
      cases h2'
      exact hx
    · rw [List.getElem?_set_ne (Ne.symm hkk)] at h2'
      obtain ⟨_, ea⟩ := hV (3 * k2 + 2) (by omega) (by omega)
      obtain ⟨_, eb⟩ := hV (3 * k2 + 3) (by omega) (by omega)
      rw [ea, eb]
      exact h.x2 k2 mb2 h2'
  · have hk2' : K.mem.length ≤ k2 := by simpa using hk2
    obtain ⟨ea, _⟩ := hV (3 * k2 + 2) (by omega) (by omega)
    obtain ⟨eb, _⟩ := hV (3 * k2 + 3) (by omega) (by omega)
    rw [ea, eb]
    exact h.n2 k2 hk2'
/-- inPasts turned, then stored -/
theorem KRep.setInp (h : KRep B w0 w bc bi bm K il ms V X vE vP Di Dm) {w1 : World} {v' : Value} {l : List Nat} {row : Option Nat}
    (t : Left B w0 w w1 bc bi bm K il ms V X vE vP Di Dm row 3) (r' : Rooms B w1 (upd V 0 v') (upd X 0 l)) :
    KRep B w0 (w1.setCell ⟨bc, 6, none⟩ v') bc bi bm { K with inp := l } il ms (upd V 0 v') (upd X 0 l) vE vP Di Dm := by
  have c' := (t.c7 (by decide)).trans h.c
  have e1 : w1.grownBy (w1.setCell ⟨bc, 6, none⟩ v') (some bc) := grown_set _ _ _
  have far : ∀ {e : TypeId} {sz n : Nat} {v : Value} {xs : List Value}, w1.ownsRow B e sz v n xs → e ≠ 77 → (w1.setCell ⟨bc, 6, none⟩ v').ownsRow B e sz v n xs := fun {e sz n v xs} ho he => by
    refine ho.kept e1 ?_
    cases hv : v.ownBlock with
    | none => exact .inl rfl
    | some g => exact .inr (fun e' => row_far ho c' (Ne.symm he) (hv.trans e'))
  have mp : ∀ b, (∃ es cl, w1.heap[b]? = some (.map es cl)) → some b ≠ some bc := fun b ⟨es, cl, hb⟩ e => by cases e; rw [c'] at hb; cases hb
  have hV : ∀ c, c ≠ 0 → upd V 0 v' c = V c := fun c hc => upd_other _ _ hc
  have hX : ∀ c, c ≠ 0 → upd X 0 l c = X c := fun c hc => upd_other _ _ hc
  refine ⟨?_, t.oi.kept e1 (mp _ (by obtain ⟨es, cl, hb, _⟩ := t.oi; exact ⟨es, cl, hb⟩)), t.om.kept e1 (mp _ (by obtain ⟨es, cl, hb, _⟩ := t.om; exact ⟨es, cl, hb⟩)), h.di, h.dm, ?_, far (t.oP (by decide)) (by decide), r'.setOther (r'.notR c' (by decide)) _, fun k p mb h1 h2 => ?_, h.mi, h.nd, h.mB, upd_same _ _ _, fun e ev he => (hX _ (by omega)).trans (h.x1 e ev he), fun k mb hm => ?_, fun e he => (hV _ (by omega)).trans (h.n1 e he), fun k hk => ?_, t.below.setCell h.ge.1 _, h.ge⟩
  · rw [upd_same]; exact heap_setCell_at _ c'
  · rw [evCells_congr _ V 0 K.evs (fun i _ _ => hV _ (by omega))]
    exact far (t.oE (by decide)) (by decide)
  · have hp := (t.m8 (by decide) p (List.mem_of_getElem? h1)).trans (h.m k p mb h1 h2)
    rw [hV _ (by omega), hV _ (by omega)]
    refine (Below.heap_setCell _ _ _ _ (fun e => ?_)).trans hp
    have e' : p.2 = bc := e
    rw [e', c'] at hp
    cases hp
  · rw [hX _ (by omega), hX _ (by omega)]; exact h.x2 k mb hm
  · rw [hV _ (by omega), hV _ (by omega)]; exact h.n2 k hk
/-- a past appended, then stored -/
theorem KRep.pushP (h : KRep B w0 w bc bi bm K il ms V X vE vP Di Dm) {p : PastP} {v' : Value} (O : w'.ownsRow B 110 3 v' (K.pasts.length + 1) (pastCells K.pasts ++ [.int .i64 p.prev, .int .i64 (p.lo : Int), .int .i64 (p.hi : Int)])) (G : w.grownBy w' vP.ownBlock) :
    KRep B w0 (w'.setCell ⟨bc, 5, none⟩ v') bc bi bm { K with pasts := K.pasts ++ [p] } il ms V X vE v' Di Dm := by
  have t := h.touch G (t := 110) (row_block h.oP)
  have c' := (t.c7 (by decide)).trans h.c
  have O' : w'.ownsRow B 110 3 v' (K.pasts ++ [p]).length (pastCells (K.pasts ++ [p])) := by
    rw [pastCells_append, List.length_append]; exact O
  have e1 : w'.grownBy (w'.setCell ⟨bc, 5, none⟩ v') (some bc) := grown_set _ _ _
  have far : ∀ {e : TypeId} {sz n : Nat} {v : Value} {xs : List Value}, w'.ownsRow B e sz v n xs → e ≠ 77 → (w'.setCell ⟨bc, 5, none⟩ v').ownsRow B e sz v n xs := fun {e sz n v xs} ho he => by
    refine ho.kept e1 ?_
    cases hv : v.ownBlock with
    | none => exact .inl rfl
    | some g => exact .inr (fun e' => row_far ho c' (Ne.symm he) (hv.trans e'))
  have mp : ∀ b, (∃ es cl, w'.heap[b]? = some (.map es cl)) → some b ≠ some bc := fun b ⟨es, cl, hb⟩ e => by cases e; rw [c'] at hb; cases hb
  refine ⟨heap_setCell_at _ c', t.oi.kept e1 (mp _ (by obtain ⟨es, cl, hb, _⟩ := t.oi; exact ⟨es, cl, hb⟩)), t.om.kept e1 (mp _ (by obtain ⟨es, cl, hb, _⟩ := t.om; exact ⟨es, cl, hb⟩)), h.di, h.dm, far (t.oE (by decide)) (by decide), far O' (by decide), (t.r (by decide)).setOther ((t.r (by decide)).notR c' (by decide)) _, fun k q mb h1 h2 => ?_, h.mi, h.nd, h.mB, h.x0, h.x1, h.x2, h.n1, h.n2, t.below.setCell h.ge.1 _, h.ge⟩
  have hp := (t.m8 (by decide) q (List.mem_of_getElem? h1)).trans (h.m k q mb h1 h2)
  refine (Below.heap_setCell _ _ _ _ (fun e => ?_)).trans hp
  have e' : q.2 = bc := e
  rw [e', c'] at hp
  cases hp
/-- event e's pasts turned, then stored -/
theorem KRep.setEP (h : KRep B w0 w bc bi bm K il ms V X vE vP Di Dm) {e : Nat} {ev : EV} (he : K.evs[e]? = some ev) {w1 : World} {v' : Value} {l : List Nat} {row : Option Nat} {gE cap : Nat} (hvE : vE = .slice (some ⟨gE, 0, none⟩) K.evs.length cap)
    (t : Left B w0 w w1 bc bi bm K il ms V X vE vP Di Dm row 3) (r' : Rooms B w1 (upd V (3 * e + 1) v') (upd X (3 * e + 1) l)) :
    KRep B w0 (w1.setCell ⟨gE, e * 4 + 3, none⟩ v') bc bi bm { K with evs := K.evs.set e { ev with pasts := l } } il ms (upd V (3 * e + 1) v') (upd X (3 * e + 1) l) vE vP Di Dm := by
  have hel := (List.getElem?_eq_some_iff.1 he).1
  have hO := t.oE (by decide)
  have hO' := hO
  rw [hvE] at hO'
  obtain ⟨h1, h2⟩ := hO'.stored (e * 4 + 3) v'
  obtain ⟨_, cur, hcur⟩ := row_block hO gE (by rw [hvE]; rfl)
  have c' := (t.c7 (by decide)).trans h.c
  have far : ∀ {t2 : TypeId} {sz n : Nat} {v : Value} {xs : List Value}, w1.ownsRow B t2 sz v n xs → t2 ≠ 84 → (w1.setCell ⟨gE, e * 4 + 3, none⟩ v').ownsRow B t2 sz v n xs := fun {t2 sz n v xs} ho he => by
    refine ho.kept h2 ?_
    cases hv : v.ownBlock with
    | none => exact .inl rfl
    | some g => exact .inr (fun e' => row_far ho hcur (Ne.symm he) (hv.trans e'))
  have mp : ∀ b, (∃ es cl, w1.heap[b]? = some (.map es cl)) → some b ≠ some gE := fun b ⟨es, cl, hb⟩ e => by cases e; rw [hcur] at hb; cases hb
  have hV : ∀ c, c ≠ 3 * e + 1 → upd V (3 * e + 1) v' c = V c := fun c hc => upd_other _ _ hc
  have hX : ∀ c, c ≠ 3 * e + 1 → upd X (3 * e + 1) l c = X c := fun c hc => upd_other _ _ hc
  have keep : ∀ {b : Nat} {arr : Array Value} {t2 : TypeId}, w1.heap[b]? = some (.cells arr t2 (0, 0)) → t2 ≠ 84 → (w1.setCell ⟨gE, e * 4 + 3, none⟩ v').heap[b]? = some (.cells arr t2 (0, 0)) := fun {b arr t2} hb ht => by
    refine (Below.heap_setCell _ _ _ _ (fun e' => ?_)).trans hb
    have e'' : b = gE := e'
    rw [e'', hcur] at hb
    cases hb
    exact ht rfl
  refine ⟨?_, t.oi.kept h2 (mp _ (by obtain ⟨es, cl, hb, _⟩ := t.oi; exact ⟨es, cl, hb⟩)), t.om.kept h2 (mp _ (by obtain ⟨es, cl, hb, _⟩ := t.om; exact ⟨es, cl, hb⟩)), h.di, h.dm, ?_, far (t.oP (by decide)) (by decide), r'.setOther (r'.notR hcur (by decide)) _, fun k p mb h1 h2 => ?_, h.mi, h.nd, h.mB, (hX 0 (by omega)).trans h.x0, fun e2 ev2 he2 => ?_, fun k mb hm => ?_, fun e2 he2 => ?_, fun k hk => ?_, t.below.setCell (row_block hO gE (by rw [hvE]; rfl)).1 _, h.ge⟩
  · rw [hV 0 (by omega)]; exact keep c' (by decide)
  · show World.ownsRow _ _ _ _ _ (K.evs.set e { ev with pasts := l }).length _
    rw [List.length_set, evCells_setPs V _ l 0 K.evs e ev he (fun j hj => hV _ (by omega)), Nat.zero_add, upd_same, hvE]
    exact h1
  · rw [hV _ (by omega), hV _ (by omega)]
    exact keep ((t.m8 (by decide) p (List.mem_of_getElem? h1)).trans (h.m k p mb h1 h2)) (by decide)
  · have he2' : (K.evs.set e { ev with pasts := l })[e2]? = some ev2 := he2
    by_cases hee : e2 = e
    · subst hee
      rw [List.getElem?_set_self hel] at he2'
      cases he2'
      exact upd_same _ _ _
    · rw [List.getElem?_set_ne (Ne.symm hee)] at he2'
      exact (hX _ (by omega)).trans (h.x1 e2 ev2 he2')
  · rw [hX _ (by omega), hX _ (by omega)]; exact h.x2 k mb hm
  · have he2' : K.evs.length ≤ e2 := by simpa using he2
    exact (hV _ (by omega)).trans (h.n1 e2 he2')
  · rw [hV _ (by omega), hV _ (by omega)]; exact h.n2 k hk
end
end Go.Proofs.Ybulkbewa
