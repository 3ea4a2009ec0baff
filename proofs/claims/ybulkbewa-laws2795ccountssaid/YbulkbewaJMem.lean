/- Judge: its plain text, and what it holds in memory. -/
import Derived.Test.YbulkbewaBefore
import Derived.Test.YbulkbewaKrep
namespace Go.Proofs.Ybulkbewa
open Go.RowKit Go.Maps

def firstP (b : Bool) : List Nat → Nat → WS → List Nat → Nat → Option (WS × List Nat × Nat)
  | [], _, s, held, n => some (s, held, n)
  | e :: es, j, s, held, n =>
    match s.seen[e]?, s.first[e]?, held[e]? with
    | some m, some _, some h =>
      if h < big ∧ n < big then
        if m = s.member then firstP b es (j + 1) s held n
        else firstP b es (j + 1) { s with seen := s.seen.set e s.member, first := s.first.set e j } (if b then held.set e (h + 1) else held) (n + 1)
      else none
    | _, _, _ => none

def passP (d : DG) (evs : List EV) (fuel : Nat) : List Nat → Nat → WS → Nat → Nat → Option (WS × Nat × Nat)
  | [], _, s, u, r => some (s, u, r)
  | e :: es, j, s, u, r =>
    match s.first[e]?, evs[e]? with
    | some f, some ev =>
      if u < big ∧ r < big then
        match beforeP d fuel ev.pasts s (-1) with
        | some q => passP d evs fuel es (j + 1) q.1 (if f < j then u + 1 else u) (if (j : Int) ≤ q.2 then r + 1 else r)
        | none => none
      else none
    | _, _ => none

structure JA where
  s : WS
  held : List Nat
  dup : Nat
  run : Nat
  dlv : List (Int × Nat)

def membersP (d : DG) (evs : List EV) (fuel : Nat) (sv : Int → Bool) : List MB → Nat → JA → Option JA
  | [], _, a => some a
  | m :: ms, i, a =>
    if i < big ∧ a.dlv.length < big ∧ m.dv.length < big then
      match firstP (sv m.id) m.dv 0 { a.s with member := i + 1 } a.held 0 with
      | some q =>
        match passP d evs fuel m.dv 0 q.1 a.dup a.run with
        | some r => membersP d evs fuel sv ms (i + 1) ⟨r.1, q.2.1, r.2.1, r.2.2, a.dlv ++ [(m.id, q.2.2)]⟩
        | none => none
      | none => none
    else none

def tallyP (ns : Nat) : List EV → Nat → List Nat → Nat → Nat → Option (Nat × Nat)
  | [], _, _, u, g => some (u, g)
  | ev :: evs, e, held, u, g =>
    match held[e]? with
    | some h => if u + ev.dl < big ∧ g < big then tallyP ns evs (e + 1) held (if ev.bc then u else u + ev.dl) (if 0 < h ∧ h < ns then g + 1 else g) else none
    | none => none

def cntCells (l : List (Int × Nat)) : List Value := l.flatMap fun p => [Value.int .i64 p.1, Value.int .i64 (p.2 : Int)]
theorem cntCells_append (a b : List (Int × Nat)) : cntCells (a ++ b) = cntCells a ++ cntCells b := by simp [cntCells]

/-- survives: the numbers of a list -/
structure SurvOf (D : DataW Unit) (l : List Int) : Prop where
  has : ∀ z, Maps.has D (.int .i64 z) = true ↔ z ∈ l
  val : ∀ z ∈ l, ∀ zd, D.atKey (.int .i64 z) zd = .lit (.bool true)
  sz : ∃ u : List Int, u.Nodup ∧ (∀ z, z ∈ u ↔ z ∈ l) ∧ Maps.size D = u.length

theorem SurvOf.nil : SurvOf (.map []) [] := ⟨fun z => by simp [Maps.has], by simp, [], by simp, by simp, rfl⟩
theorem SurvOf.put {D : DataW Unit} {l : List Int} (h : SurvOf D l) (hD : IsMap D) (ht : Tidy D) (z : Int) : SurvOf (D.put (.int .i64 z) (.lit (.bool true))) (l ++ [z]) := by
  have hk : WideAt.IsKeyLit (.int .i64 z) := by simp [WideAt.IsKeyLit]
  refine ⟨fun y => ?_, fun y hy zd => ?_, ?_⟩
  · by_cases hyz : y = z
    · subst hyz; simp [has_put_same hD hk]
    · rw [has_put_other (by simpa using hyz), h.has y]; simp [hyz]
  · by_cases hyz : y = z
    · subst hyz; exact atKey_put_same hD hk _ _
    · rw [atKey_put_other (by simpa using hyz)]
      exact h.val y (by simpa [hyz] using hy) zd
  · obtain ⟨u, hu1, hu2, hu3⟩ := h.sz
    rw [size_put ht]
    by_cases hz : z ∈ l
    · rw [if_pos ((h.has z).2 hz)]
      exact ⟨u, hu1, fun y => by rw [hu2 y]; simp; intro e; subst e; exact hz, hu3⟩
    · have hf : Maps.has D (.int .i64 z) = false := by
        cases hx : Maps.has D (.int .i64 z) with
        | false => rfl
        | true => exact absurd ((h.has z).1 hx) hz
      rw [hf]
      refine ⟨u ++ [z], ?_, fun y => by simp [hu2 y], by simp [hu3]⟩
      rw [List.nodup_append]
      exact ⟨hu1, by simp, fun a ha b hb e => by simp at hb; subst hb; exact hz ((hu2 a).1 ha |> fun h => e ▸ h)⟩

/-- what stays the same while Judge runs, from condense on -/
structure JC where
  w : World
  wA : World
  Nc : Nat
  B : Nat
  br : Nat
  bs : Nat
  bw : Nat
  bd : Nat
  b2 : Nat
  b3 : Nat
  b4 : Nat
  b5 : Nat
  bh : Nat
  E : Nat
  n : Nat
  mc : Nat
  ln : Nat
  vM : Value
  ms : List (Int × Nat)
  Ds : DataW Unit
  ns : Nat

structure JG (c : JC) : Prop where
  wb : WB c.B c.bw c.b2 c.b3 c.b4 c.b5
  rr : c.w.heap.size ≤ c.br ∧ c.br < c.Nc ∧ c.w.heap.size ≤ c.bs ∧ c.bs < c.Nc ∧ c.br ≠ c.bs ∧ c.Nc ≤ c.B
  hh : c.B ≤ c.bh ∧ c.bh ≠ c.bw ∧ c.bh ≠ c.b2 ∧ c.bh ≠ c.b3 ∧ c.bh ≠ c.b4 ∧ c.bh ≠ c.b5

structure JM (c : JC) (wx : World) (s : WS) (held : List Nat) (dup run unb agr : Nat) (dlv : List (Int × Nat)) (vS vD : Value) : Prop where
  s1 : Below c.w.heap.size c.w wx
  s2 : ∀ b, c.Nc ≤ b → b < c.B → wx.heap[b]? = c.wA.heap[b]?
  rep : wx.heap[c.br]? = some (.cells #[.int .i64 (c.mc : Int), .int .i64 (c.ln : Int), .int .i64 (dup : Int), .bool false, .int .i64 0, .int .i64 (run : Int), .int .i64 (unb : Int), .int .i64 (agr : Int), vD] 55 (0, 0))
  sm : wx.ownsMap Yba.prog 3 (plainElem Yba.prog 4) c.bs c.ns c.Ds
  wr : WRep c.B wx wx c.bw c.bd c.b2 c.b3 c.b4 c.b5 c.E c.n s vS
  hd : wx.heap[c.bh]? = some (.cells (natCells held).toArray 3 (0, 0))
  dl : wx.ownsRow c.B 63 2 vD dlv.length (cntCells dlv)
  mm : wx.ownsRow c.B 78 1 c.vM c.ms.length ((c.ms.map (·.2)).map fun b => Value.pointer (some ⟨b, 0, none⟩))
  hl : held.length = c.E

theorem WRep.base {B : Nat} {w0 w : World} {bw bd b2 b3 b4 b5 E n : Nat} {s : WS} {vS : Value} (h : WRep B w0 w bw bd b2 b3 b4 b5 E n s vS) : WRep B w w bw bd b2 b3 b4 b5 E n s vS :=
  ⟨h.c, h.h2, h.h3, h.h4, h.h5, h.oS, Below.refl _ _, h.l2, h.l3, h.l4, h.l5, fun _ _ ho _ _ _ _ _ _ => ho⟩

/-- a world that turns one block, none of the walk's -/
theorem WRep.out {B : Nat} {w w' : World} {bw bd b2 b3 b4 b5 E n : Nat} {s : WS} {vS : Value} (h : WRep B w w bw bd b2 b3 b4 b5 E n s vS) {row : Option Nat} (hg : w.grownBy w' row) (hr : ∀ b, row = some b → b ≠ bw ∧ b ≠ b2 ∧ b ≠ b3 ∧ b ≠ b4 ∧ b ≠ b5 ∧ ∃ o, w.heap[b]? = some o ∧ ∀ cur, o ≠ .cells cur 142 (0, 0)) :
    WRep B w' w' bw bd b2 b3 b4 b5 E n s vS := by
  have k : ∀ {b : Nat} {o : Obj}, w.heap[b]? = some o → some b ≠ row → w'.heap[b]? = some o := fun {b o} hb hne => (hg.block b (Array.getElem?_eq_some_iff.1 hb).1 hne).trans hb
  have n1 : some bw ≠ row := fun e => (hr bw e.symm).1 rfl
  have n2 : some b2 ≠ row := fun e => (hr b2 e.symm).2.1 rfl
  have n3 : some b3 ≠ row := fun e => (hr b3 e.symm).2.2.1 rfl
  have n4 : some b4 ≠ row := fun e => (hr b4 e.symm).2.2.2.1 rfl
  have n5 : some b5 ≠ row := fun e => (hr b5 e.symm).2.2.2.2.1 rfl
  refine ⟨k h.c n1, k h.h2 n2, k h.h3 n3, k h.h4 n4, k h.h5 n5, h.oS.kept hg ?_, Below.refl _ _, h.l2, h.l3, h.l4, h.l5, fun _ _ ho _ _ _ _ _ _ => ho⟩
  cases hv : vS.ownBlock with
  | none => exact .inl rfl
  | some g =>
    refine .inr fun e => ?_
    obtain ⟨_, _, _, _, _, o, ho, hn⟩ := hr g e.symm
    obtain ⟨_, cur, hc⟩ := row_block h.oS g hv
    rw [ho] at hc
    exact hn cur (Option.some.inj hc)

section
variable {c : JC} {wx w' : World} {s : WS} {held : List Nat} {dup run unb agr : Nat} {dlv : List (Int × Nat)} {vS vD : Value}

structure JLeft (c : JC) (wx w' : World) (s : WS) (held : List Nat) (dlv : List (Int × Nat)) (vS vD : Value) (row : Option Nat) (t : TypeId) : Prop where
  s1 : Below c.w.heap.size c.w w'
  s2 : ∀ b, c.Nc ≤ b → b < c.B → w'.heap[b]? = c.wA.heap[b]?
  rep : some c.br ≠ row → w'.heap[c.br]? = wx.heap[c.br]?
  sm : w'.ownsMap Yba.prog 3 (plainElem Yba.prog 4) c.bs c.ns c.Ds
  hd : some c.bh ≠ row → w'.heap[c.bh]? = wx.heap[c.bh]?
  dl : t ≠ 63 → w'.ownsRow c.B 63 2 vD dlv.length (cntCells dlv)
  mm : t ≠ 78 → w'.ownsRow c.B 78 1 c.vM c.ms.length ((c.ms.map (·.2)).map fun b => Value.pointer (some ⟨b, 0, none⟩))
  wr : t ≠ 142 → (∀ b, row = some b → b ≠ c.bw ∧ b ≠ c.b2 ∧ b ≠ c.b3 ∧ b ≠ c.b4 ∧ b ≠ c.b5) → WRep c.B w' w' c.bw c.bd c.b2 c.b3 c.b4 c.b5 c.E c.n s vS

theorem JM.touch (h : JM c wx s held dup run unb agr dlv vS vD) (hG : JG c) {row : Option Nat} {t : TypeId} (hg : wx.grownBy w' row) (hrow : ∀ b, row = some b → c.w.heap.size ≤ b ∧ (b < c.Nc ∨ c.B ≤ b) ∧ ∃ cur, wx.heap[b]? = some (.cells cur t (0, 0))) :
    JLeft c wx w' s held dlv vS vD row t := by
  have hfar : ∀ {e : TypeId} {sz n : Nat} {v : Value} {xs : List Value}, wx.ownsRow c.B e sz v n xs → t ≠ e → v.ownBlock = none ∨ v.ownBlock ≠ row := fun {e sz n v xs} ho ht => by
    cases hv : v.ownBlock with
    | none => exact .inl rfl
    | some g =>
      refine .inr fun e' => ?_
      obtain ⟨_, _, cur, hc⟩ := hrow g e'.symm
      exact row_far ho hc ht hv
  have hz := lt_of_block h.wr.c
  have hzB := hG.wb.g.1
  refine ⟨h.s1.grown hg h.s1.size (fun b hb => (hrow b hb).1), fun b h1 h2 => ?_, fun hne => hg.block _ (lt_of_block h.rep) hne, ?_, fun hne => hg.block _ (lt_of_block h.hd) hne, fun ht => h.dl.kept hg (hfar h.dl ht), fun ht => h.mm.kept hg (hfar h.mm ht), fun ht hb => h.wr.out hg (fun b e => ?_)⟩
  · rw [← h.s2 b h1 h2]
    refine hg.block b (by omega) (fun e => ?_)
    have := (hrow b e.symm).2.1
    omega
  · refine h.sm.kept hg (fun e => ?_)
    obtain ⟨_, _, cur, hc⟩ := hrow _ e.symm
    obtain ⟨es, cl, hb, _⟩ := h.sm
    rw [hb] at hc
    cases hc
  · obtain ⟨h1, h2, h3, h4, h5⟩ := hb b e
    obtain ⟨_, _, cur, hc⟩ := hrow b e
    exact ⟨h1, h2, h3, h4, h5, _, hc, fun cur' e' => by cases e'; exact ht rfl⟩

theorem JM.alloc (h : JM c wx s held dup run unb agr dlv vS vD) (hG : JG c) (o : Obj) : JM c (wx.alloc o) s held dup run unb agr dlv vS vD := by
  have t := h.touch (w' := wx.alloc o) hG (row := none) (t := 0) (World.grownBy_alloc wx o none) (fun b e => by cases e)
  exact ⟨t.s1, t.s2, (t.rep (by simp)).trans h.rep, t.sm, t.wr (by decide) (fun b e => by cases e), (t.hd (by simp)).trans h.hd, t.dl (by decide), t.mm (by decide), h.hl⟩
theorem JM.drew (h : JM c wx s held dup run unb agr dlv vS vD) : JM c wx.drew s held dup run unb agr dlv vS vD :=
  ⟨h.s1.drew, h.s2, h.rep, h.sm, h.wr.drew.base, h.hd, h.dl, h.mm, h.hl⟩
theorem JM.drewN (h : JM c wx s held dup run unb agr dlv vS vD) (q : Nat) : JM c (wx.drewN q) s held dup run unb agr dlv vS vD := by
  induction q generalizing wx with
  | zero => exact h
  | succ q ih => exact (ih h).drew
theorem JM.setM (h : JM c wx s held dup run unb agr dlv vS vD) (hG : JG c) (i : Nat) : JM c (wx.setCell ⟨c.bw, 1, none⟩ (.int .i64 (i : Int))) { s with member := i } held dup run unb agr dlv vS vD := by
  have hB := hG.wb.g.1
  have hrr := hG.rr
  have hs := h.s1.size
  have t := h.touch (w' := wx.setCell ⟨c.bw, 1, none⟩ (.int .i64 (i : Int))) hG (row := some c.bw) (t := 101) (grown_set _ _ _) (fun b e => by cases e; exact ⟨by omega, .inr hB, _, h.wr.c⟩)
  exact ⟨t.s1, t.s2, (t.rep (fun e => by have := Option.some.inj e; omega)).trans h.rep, t.sm, (h.wr.setM hG.wb i).base, (t.hd (fun e => hG.hh.2.1 (Option.some.inj e))).trans h.hd, t.dl (by decide), t.mm (by decide), h.hl⟩
theorem JM.seen (h : JM c wx s held dup run unb agr dlv vS vD) (hG : JG c) (e m j : Nat) : JM c ((wx.setCell ⟨c.b2, e, none⟩ (.int .i64 (m : Int))).setCell ⟨c.b3, e, none⟩ (.int .i64 (j : Int))) { s with seen := s.seen.set e m, first := s.first.set e j } held dup run unb agr dlv vS vD := by
  have hB := hG.wb.g
  have hrr := hG.rr
  have hhh := hG.hh
  have t := h.touch (w' := wx.setCell ⟨c.b2, e, none⟩ (.int .i64 (m : Int))) hG (row := some c.b2) (t := 3) (grown_set _ _ _) (fun b e => by cases e; exact ⟨by omega, .inr hB.2.1, _, h.wr.h2⟩)
  have h1 : JM c (wx.setCell ⟨c.b2, e, none⟩ (.int .i64 (m : Int))) { s with seen := s.seen.set e m } held dup run unb agr dlv vS vD :=
    ⟨t.s1, t.s2, (t.rep (fun e => by have := Option.some.inj e; omega)).trans h.rep, t.sm, (h.wr.set2 hG.wb e m).base, (t.hd (fun e => hhh.2.2.1 (Option.some.inj e))).trans h.hd, t.dl (by decide), t.mm (by decide), h.hl⟩
  have t2 := h1.touch (w' := (wx.setCell ⟨c.b2, e, none⟩ (.int .i64 (m : Int))).setCell ⟨c.b3, e, none⟩ (.int .i64 (j : Int))) hG (row := some c.b3) (t := 3) (grown_set _ _ _) (fun b e => by cases e; exact ⟨by omega, .inr hB.2.2.1, _, h1.wr.h3⟩)
  exact ⟨t2.s1, t2.s2, (t2.rep (fun e => by have := Option.some.inj e; omega)).trans h1.rep, t2.sm, (h1.wr.set3 hG.wb e j).base, (t2.hd (fun e => hhh.2.2.2.1 (Option.some.inj e))).trans h1.hd, t2.dl (by decide), t2.mm (by decide), h.hl⟩
theorem JM.setH (h : JM c wx s held dup run unb agr dlv vS vD) (hG : JG c) (e x : Nat) : JM c (wx.setCell ⟨c.bh, e, none⟩ (.int .i64 (x : Int))) s (held.set e x) dup run unb agr dlv vS vD := by
  have hrr := hG.rr
  have hhh := hG.hh
  have t := h.touch (w' := wx.setCell ⟨c.bh, e, none⟩ (.int .i64 (x : Int))) hG (row := some c.bh) (t := 3) (grown_set _ _ _) (fun b e => by cases e; exact ⟨by omega, .inr hhh.1, _, h.hd⟩)
  exact ⟨t.s1, t.s2, (t.rep (fun e => by have := Option.some.inj e; omega)).trans h.rep, t.sm, t.wr (by decide) (fun b e => by cases e; exact hhh.2), (heap_setCell_at _ h.hd).trans (by rw [natCells_set]), t.dl (by decide), t.mm (by decide), by simpa using h.hl⟩
theorem JM.repS (h : JM c wx s held dup run unb agr dlv vS vD) (hG : JG c) {i : Nat} {u : Value} {dup' run' unb' agr' : Nat}
    (ha : (#[.int .i64 (c.mc : Int), .int .i64 (c.ln : Int), .int .i64 (dup : Int), .bool false, .int .i64 0, .int .i64 (run : Int), .int .i64 (unb : Int), .int .i64 (agr : Int), vD] : Array Value).setIfInBounds i u = #[.int .i64 (c.mc : Int), .int .i64 (c.ln : Int), .int .i64 (dup' : Int), .bool false, .int .i64 0, .int .i64 (run' : Int), .int .i64 (unb' : Int), .int .i64 (agr' : Int), vD]) :
    JM c (wx.setCell ⟨c.br, i, none⟩ u) s held dup' run' unb' agr' dlv vS vD := by
  have hrr := hG.rr
  have hB := hG.wb.g
  have hhh := hG.hh
  have t := h.touch (w' := wx.setCell ⟨c.br, i, none⟩ u) hG (row := some c.br) (t := 55) (grown_set _ _ _) (fun b e => by cases e; exact ⟨hrr.1, .inl hrr.2.1, _, h.rep⟩)
  exact ⟨t.s1, t.s2, (heap_setCell_at _ h.rep).trans (by rw [ha]), t.sm, t.wr (by decide) (fun b e => by cases e; omega), (t.hd (fun e => by have := Option.some.inj e; omega)).trans h.hd, t.dl (by decide), t.mm (by decide), h.hl⟩
theorem JM.push (h : JM c wx s held dup run unb agr dlv vS vD) (hG : JG c) {v' : Value} {p : Int × Nat} (O : w'.ownsRow c.B 63 2 v' (dlv.length + 1) (cntCells dlv ++ [.int .i64 p.1, .int .i64 (p.2 : Int)])) (G : wx.grownBy w' vD.ownBlock) :
    JM c (w'.setCell ⟨c.br, 8, none⟩ v') s held dup run unb agr (dlv ++ [p]) vS v' := by
  have hrr := hG.rr
  have hB := hG.wb.g
  have hhh := hG.hh
  have hbk := row_block h.dl
  have cells : ∀ {b : Nat} {arr : Array Value} {t : TypeId}, wx.heap[b]? = some (.cells arr t (0, 0)) → t ≠ 63 → some b ≠ vD.ownBlock := fun {b arr t} hb ht e => by
    obtain ⟨_, cur, hc⟩ := hbk b e.symm
    rw [hb] at hc
    cases hc
    exact ht rfl
  have t := h.touch (w' := w') hG (row := vD.ownBlock) (t := 63) G (fun b e => by obtain ⟨h1, h2⟩ := hbk b e; exact ⟨by omega, .inr h1, h2⟩)
  have hrep := (t.rep (cells h.rep (by decide))).trans h.rep
  have O' : w'.ownsRow c.B 63 2 v' (dlv ++ [p]).length (cntCells (dlv ++ [p])) := by rw [cntCells_append, List.length_append]; exact O
  have hwr := t.wr (by decide) (fun b e => by
    obtain ⟨h1, cur, hc⟩ := hbk b e
    refine ⟨fun e => ?_, fun e => ?_, fun e => ?_, fun e => ?_, fun e => ?_⟩ <;> subst e
    · rw [h.wr.c] at hc; cases hc
    · rw [h.wr.h2] at hc; cases hc
    · rw [h.wr.h3] at hc; cases hc
    · rw [h.wr.h4] at hc; cases hc
    · rw [h.wr.h5] at hc; cases hc)
  have g2 : w'.grownBy (w'.setCell ⟨c.br, 8, none⟩ v') (some c.br) := grown_set _ _ _
  have far : ∀ {e : TypeId} {sz n : Nat} {v : Value} {xs : List Value}, w'.ownsRow c.B e sz v n xs → (w'.setCell ⟨c.br, 8, none⟩ v').ownsRow c.B e sz v n xs := fun {e sz n v xs} ho => by
    refine ho.kept g2 ?_
    cases hv : v.ownBlock with
    | none => exact .inl rfl
    | some g => exact .inr (fun e' => by have h1 := (ho.lt g hv).1; have h2 := Option.some.inj e'; omega)
  refine ⟨t.s1.setCell hrr.1 _, fun b h1 h2 => (Below.heap_setCell _ _ _ _ (fun e => by have e' : b = c.br := e; omega)).trans (t.s2 b h1 h2), heap_setCell_at _ hrep, t.sm.kept g2 (fun e => hrr.2.2.2.2.1 (Option.some.inj e).symm), hwr.out g2 (fun b e => by cases e; exact ⟨by omega, by omega, by omega, by omega, by omega, _, hrep, fun cur e => by cases e⟩), (Below.heap_setCell _ _ _ _ (fun e => by have e' : c.bh = c.br := e; omega)).trans ((t.hd (cells h.hd (by decide))).trans h.hd), far O', far (t.mm (by decide)), h.hl⟩
/-- behind a call of before: the walk alone has turned -/
theorem JM.walked (h : JM c wx s held dup run unb agr dlv vS vD) (hG : JG c) {s' : WS} {vS' : Value} (hR : WRep c.B wx w' c.bw c.bd c.b2 c.b3 c.b4 c.b5 c.E c.n s' vS') : JM c w' s' held dup run unb agr dlv vS' vD := by
  have hrr := hG.rr
  have hB := hG.wb.g
  have hhh := hG.hh
  have hs := h.s1.size
  have own : ∀ {e : TypeId} {sz n : Nat} {v : Value} {xs : List Value}, wx.ownsRow c.B e sz v n xs → e ≠ 3 → e ≠ 101 → e ≠ 142 → w'.ownsRow c.B e sz v n xs := fun {e sz n v xs} ho h3 h101 h142 => by
    refine ⟨ho.1, ?_⟩
    rcases ho.2 with hn | ⟨g, cap, cur, hv, h1, hg, rest⟩
    · exact .inl hn
    · refine .inr ⟨g, cap, cur, hv, h1, hR.fr g _ hg (fun e => ?_) (fun e => ?_) (fun e => ?_) (fun e => ?_) (fun e => ?_) (fun cur' e => by cases e; exact h142 rfl), rest⟩ <;> subst e
      · rw [h.wr.c] at hg; cases hg; exact h101 rfl
      · rw [h.wr.h2] at hg; cases hg; exact h3 rfl
      · rw [h.wr.h3] at hg; cases hg; exact h3 rfl
      · rw [h.wr.h4] at hg; cases hg; exact h3 rfl
      · rw [h.wr.h5] at hg; cases hg; exact h3 rfl
  refine ⟨h.s1.trans (hR.below.mono (by omega)), fun b h1 h2 => (hR.below.block b h2).trans (h.s2 b h1 h2), (hR.below.block _ (by omega)).trans h.rep, ?_, hR.base, hR.fr _ _ h.hd hhh.2.1 hhh.2.2.1 hhh.2.2.2.1 hhh.2.2.2.2.1 hhh.2.2.2.2.2 (fun cur e => by cases e), own h.dl (by decide) (by decide) (by decide), own h.mm (by decide) (by decide) (by decide), h.hl⟩
  obtain ⟨es, cl, hb, r⟩ := h.sm
  exact ⟨es, cl, (hR.below.block _ (by omega)).trans hb, r⟩
end
end Go.Proofs.Ybulkbewa
