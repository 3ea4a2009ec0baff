/- condense: its plain text, and what it reads. -/
import Derived.Test.YbulkbewaBefore
import Derived.Test.YbulkbewaRooms
namespace Go.Proofs.Ybulkbewa
open Go.RowKit

structure EV where
  id : Int
  bc : Bool
  dl : Nat
  pasts : List Nat

structure PastP where
  prev : Int
  lo : Nat
  hi : Nat

/-- from and to, behind the events -/
def evP (n : Nat) : List EV → List Nat × List Nat → Option (List Nat × List Nat)
  | [], a => some a
  | ev :: rest, a =>
    if a.1.length < big ∧ a.2.length + ev.pasts.length < big ∧ ∀ p ∈ ev.pasts, p < big then
      evP n rest (a.1 ++ [a.2.length], a.2 ++ ev.pasts.map (n + ·))
    else none

def prevP (n : Nat) (p : PastP) : List Nat := if 0 ≤ p.prev then [n + p.prev.toNat] else []

/-- .. behind the pasts -/
def pastsP (n : Nat) (inp : List Nat) : List PastP → List Nat × List Nat → Option (List Nat × List Nat)
  | [], a => some a
  | p :: rest, a =>
    if p.lo < p.hi ∧ p.hi ≤ inp.length ∧ a.1.length < big ∧ a.2.length + 1 + (p.hi - p.lo) < big ∧ p.prev < 1000000000 then
      pastsP n inp rest (a.1 ++ [a.2.length], a.2 ++ prevP n p ++ (inp.drop p.lo).take (p.hi - p.lo))
    else none

def countP : List Nat → List Nat → Option (List Nat)
  | [], st => some st
  | c :: cs, st => match st[c + 1]? with
    | some x => if x < big then countP cs (st.set (c + 1) (x + 1)) else none
    | none => none

def sumP : Nat → Nat → List Nat → Option (List Nat)
  | 0, _, st => some st
  | k + 1, c, st => match st[c]?, st[c + 1]? with
    | some x, some y => if y + x < big then sumP k (c + 1) (st.set (c + 1) (y + x)) else none
    | _, _ => none

def placeP : List Nat → Nat → List Nat × List Nat → Option (List Nat × List Nat)
  | [], _, a => some a
  | c :: cs, v, a => match a.2[c]? with
    | some p => if p < a.1.length then placeP cs (v + 1) (a.1.set p v, a.2.set c (p + 1)) else none
    | none => none

structure LK where
  linked : List Nat
  events : List Nat
  eventsFrom : List Nat
  next : List Nat
  nextFrom : List Nat

def edgesP (comp : List Nat) (node : Nat) : List Nat → LK → Option LK
  | [], k => some k
  | x :: xs, k => match comp[x]? with
    | some c => match k.linked[c]? with
      | some l =>
        if k.next.length < big then
          if c ≠ node ∧ l ≠ node + 1 then edgesP comp node xs { k with linked := k.linked.set c (node + 1), next := k.next ++ [c] } else edgesP comp node xs k
        else none
      | none => none
    | none => none

def vertP (n v : Nat) (k : LK) : LK := if v < n then { k with events := k.events ++ [v] } else k

def vertsP (fr to comp : List Nat) (n node : Nat) : List Nat → LK → Option LK
  | [], k => some k
  | v :: vs, k =>
    match fr[v]?, fr[v + 1]? with
    | some a, some b =>
      if a ≤ b ∧ b ≤ to.length ∧ k.events.length < big then
        match edgesP comp node ((to.drop a).take (b - a)) (vertP n v k) with
        | some k' => vertsP fr to comp n node vs k'
        | none => none
      else none
    | _, _ => none

def closeP (k : LK) : LK := { k with eventsFrom := k.eventsFrom ++ [k.events.length], nextFrom := k.nextFrom ++ [k.next.length] }

def nodesP (fr to comp byNode start : List Nat) (n : Nat) : Nat → Nat → LK → Option LK
  | 0, _, k => some k
  | m + 1, node, k =>
    match start[node]?, start[node + 1]? with
    | some a, some b =>
      if a ≤ b ∧ b ≤ byNode.length ∧ k.eventsFrom.length < big ∧ k.nextFrom.length < big then
        match vertsP fr to comp n node ((byNode.drop a).take (b - a)) k with
        | some k' => nodesP fr to comp byNode start n m (node + 1) (closeP k')
        | none => none
      else none
    | _, _ => none

def toNats : List Int → Option (List Nat)
  | [] => some []
  | c :: cs => if 0 ≤ c then (toNats cs).map (c.toNat :: ·) else none

theorem toNats_cells : ∀ {l : List Int} {m : List Nat}, toNats l = some m → intCells l = natCells m
  | [], m, h => by cases h; rfl
  | c :: cs, m, h => by
    unfold toNats at h
    split at h
    · simp only [Option.map_eq_some_iff] at h
      obtain ⟨m', h1, rfl⟩ := h
      have := toNats_cells h1
      rename_i h0
      rw [show intCells (c :: cs) = .int .i64 c :: intCells cs from rfl, show natCells (c.toNat :: m') = .int .i64 ((c.toNat : Nat) : Int) :: natCells m' from rfl, this, Int.toNat_of_nonneg h0]
    · cases h

def condP (evs : List EV) (ps : List PastP) (inp : List Nat) (fuel : Nat) : Option DG :=
  if evs.length < big ∧ ps.length < big then
  match evP evs.length evs ([], []) with
  | none => none
  | some a0 =>
  match pastsP evs.length inp ps a0 with
  | none => none
  | some a1 =>
    if a1.1.length < 999999999 ∧ a1.2.length < big then
    match compP (a1.1 ++ [a1.2.length]) a1.2 fuel with
    | none => none
    | some sf =>
      match toNats sf.comp with
      | none => none
      | some comp =>
        if sf.cnt < big ∧ comp.length = a1.1.length ∧ evs.length ≤ comp.length then
        match countP comp (List.replicate (sf.cnt + 1) 0) with
        | none => none
        | some st0 =>
          match sumP sf.cnt 0 st0 with
          | none => none
          | some start =>
            match placeP comp 0 (List.replicate comp.length 0, start.take sf.cnt) with
            | none => none
            | some bp =>
              (nodesP (a1.1 ++ [a1.2.length]) a1.2 comp bp.1 start evs.length sf.cnt 0 { linked := List.replicate sf.cnt 0, events := [], eventsFrom := [0], next := [], nextFrom := [0] }).map
                (fun k => { pastNode := comp.drop evs.length, events := k.events, eventsFrom := k.eventsFrom, next := k.next, nextFrom := k.nextFrom })
        else none
    else none
  else none

theorem condP_small : condP [⟨0, false, 1, []⟩, ⟨1, true, 0, [0]⟩] [⟨-1, 0, 1⟩] [0] 20 = some { pastNode := [1], events := [0, 1], eventsFrom := [0, 1, 1, 2], next := [0, 1], nextFrom := [0, 0, 1, 2] } := by rfl

/-- the events, only read: below block B; vp i is the i-th event's slice of pasts -/
def SlE (B : Nat) (w : World) (v : Value) (evs : List EV) (vp : Nat → Value) : Prop :=
  ∃ a b cap, v = .slice a evs.length cap ∧ evs.length ≤ cap ∧ cap ≤ 9223372036854775807 ∧ (0 < evs.length → a = some ⟨b, 0, none⟩ ∧ b < B) ∧
    ∀ i ev, evs[i]? = some ev → w.cell? ⟨b, i * 4, none⟩ = some (.int .i64 ev.id) ∧ w.cell? ⟨b, i * 4 + 1, none⟩ = some (.bool ev.bc) ∧ w.cell? ⟨b, i * 4 + 2, none⟩ = some (.int .i64 (ev.dl : Int)) ∧ w.cell? ⟨b, i * 4 + 3, none⟩ = some (vp i) ∧ SlN B w (vp i) ev.pasts

/-- the pasts, only read -/
def SlP (B : Nat) (w : World) (v : Value) (ps : List PastP) : Prop :=
  ∃ a b cap, v = .slice a ps.length cap ∧ ps.length ≤ cap ∧ cap ≤ 9223372036854775807 ∧ (0 < ps.length → a = some ⟨b, 0, none⟩ ∧ b < B) ∧
    ∀ i p, ps[i]? = some p → w.cell? ⟨b, i * 3, none⟩ = some (.int .i64 p.prev) ∧ w.cell? ⟨b, i * 3 + 1, none⟩ = some (.int .i64 (p.lo : Int)) ∧ w.cell? ⟨b, i * 3 + 2, none⟩ = some (.int .i64 (p.hi : Int))
end Go.Proofs.Ybulkbewa
