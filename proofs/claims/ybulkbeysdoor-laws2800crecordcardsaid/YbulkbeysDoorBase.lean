/- Small facts on the heap, used by this seat's walks: a block known whole; what is kept; append into the midst of a block known whole. -/
import Derived.Test.YbulkbeysDoorProg
import Derived.WalkKit
import Derived.WalkSpells
import Derived.WalkLawsBesides
import Derived.Lib.AppendStr
import Derived.Shelf.Abstract
namespace Go.Proofs.YbulkbeysDoor
open Go.RowKit

/-- a block's cell, read -/
theorem cellB {w : World} {b o : Nat} {G : Array Value} {t : TypeId} {v : Value} (h : w.heap[b]? = some (.cells G t (0, 0))) (hv : G[o]? = some v) : w.cell? ⟨b, o, none⟩ = some v := by
  rw [cell_of_row w b o G t (0, 0) h]; exact hv
theorem freeB {w : World} {b o : Nat} {G : Array Value} {t : TypeId} (h : w.heap[b]? = some (.cells G t (0, 0))) : w.frozen? ⟨b, o, none⟩ = false := frozen_of_row w b o G t h

theorem heap_setCell_at {w : World} {b o : Nat} {G : Array Value} {t : TypeId} (v : Value) (h : w.heap[b]? = some (.cells G t (0, 0))) :
    (w.setCell ⟨b, o, none⟩ v).heap[b]? = some (.cells (G.setIfInBounds o v) t (0, 0)) := by
  rw [setCell_eq_setRow w b o G t (0, 0) v h]
  exact setRow_heap w b G _ t (0, 0) h

/-- Of the blocks that w has, all but those of 'bs' are in w' as they were; the streams are as they were. -/
structure Kept (bs : Nat → Prop) (w w' : World) : Prop where
  os : w'.os = w.os
  tape : w'.tape = w.tape
  output : w'.output = w.output
  size : w.heap.size ≤ w'.heap.size
  block : ∀ k, k < w.heap.size → ¬ bs k → w'.heap[k]? = w.heap[k]?

theorem Kept.refl (bs : Nat → Prop) (w : World) : Kept bs w w := ⟨rfl, rfl, rfl, Nat.le_refl _, fun _ _ _ => rfl⟩

theorem Kept.trans {bs : Nat → Prop} {a b c : World} (h : Kept bs a b) (k : Kept bs b c) : Kept bs a c :=
  ⟨k.os.trans h.os, k.tape.trans h.tape, k.output.trans h.output, Nat.le_trans h.size k.size, fun i hi hn => (k.block i (Nat.lt_of_lt_of_le hi h.size) hn).trans (h.block i hi hn)⟩

theorem Kept.mono {bs cs : Nat → Prop} {w w' : World} (h : Kept bs w w') (hm : ∀ k, k < w.heap.size → bs k → cs k) : Kept cs w w' :=
  ⟨h.os, h.tape, h.output, h.size, fun k hk hn => h.block k hk (fun hb => hn (hm k hk hb))⟩

theorem Kept.drew {bs : Nat → Prop} {a w : World} (h : Kept bs a w) : Kept bs a w.drew := ⟨h.os, h.tape, h.output, h.size, h.block⟩

theorem Kept.alloc {bs : Nat → Prop} {a w : World} (h : Kept bs a w) (o : Obj) : Kept bs a (w.alloc o) :=
  h.trans ⟨rfl, rfl, rfl, by simp, fun k hk _ => Below.heap_alloc _ _ _ hk⟩

theorem Kept.setCell {bs : Nat → Prop} {a w : World} (h : Kept bs a w) {p : Addr} (hp : bs p.block ∨ a.heap.size ≤ p.block) (u : Value) : Kept bs a (w.setCell p u) := by
  refine ⟨h.os, h.tape, h.output, by simpa [World.setCell] using h.size, fun k hk hn => ?_⟩
  rw [Below.heap_setCell _ _ _ _ (fun e => ?_)]
  · exact h.block k hk hn
  · rcases hp with hp | hp
    · exact hn (e ▸ hp)
    · omega

theorem Kept.setRow {bs : Nat → Prop} {a w : World} (h : Kept bs a w) {g : Nat} (hp : bs g ∨ a.heap.size ≤ g) (cs : Array Value) : Kept bs a (w.setRow g cs) := by
  refine ⟨h.os, h.tape, h.output, by simpa [World.setRow] using h.size, fun k hk hn => ?_⟩
  rw [setRow_other _ _ _ _ (fun e => ?_)]
  · exact h.block k hk hn
  · rcases hp with hp | hp
    · exact hn (e ▸ hp)
    · omega

theorem Kept.grown {bs : Nat → Prop} {a w w' : World} {row : Option Nat} (h : Kept bs a w) (hg : w.grownBy w' row) (hr : ∀ k, row = some k → bs k ∨ a.heap.size ≤ k) : Kept bs a w' := by
  refine ⟨hg.os.trans h.os, hg.tape.trans h.tape, hg.output.trans h.output, Nat.le_trans h.size hg.size, fun k hk hn => ?_⟩
  rw [hg.block k (Nat.lt_of_lt_of_le hk h.size) (fun e => ?_)]
  · exact h.block k hk hn
  · rcases hr k e.symm with hp | hp
    · exact hn hp
    · omega

theorem Kept.of_below {w w' : World} (h : Below w.heap.size w w') (bs : Nat → Prop) : Kept bs w w' := ⟨h.os, h.tape, h.output, h.size, fun k hk _ => h.block k hk⟩

theorem Kept.below {bs : Nat → Prop} {w w' : World} (h : Kept bs w w') {B : Nat} (hB : B ≤ w.heap.size) (hn : ∀ k, k < B → ¬ bs k) : Below B w w' :=
  ⟨h.os, h.tape, h.output, h.size, fun k hk => h.block k (by omega) (hn k hk)⟩

theorem Kept.cell {bs : Nat → Prop} {w w' : World} (h : Kept bs w w') {p : Addr} (hp : p.block < w.heap.size) (hn : ¬ bs p.block) : w'.cell? p = w.cell? p := World.cell?_of_block (w := w) (h.block p.block hp hn)

/-- append into the midst of a block that is known whole, where there is room: what is appended lies anywhere -/
theorem run_append_mid {P : Program} (w : World) (t ty e e2 : TypeId) (i : TypeInfo) (ht : P.underlying t = some (.slice e)) (hi : P.info? e = some i) (hs1 : i.size = 1)
    (g off n c : Nat) (cur : Array Value) (hg : w.heap[g]? = some (.cells cur e2 (0, 0))) (a : Addr) (m cc : Nat) (news : List Value) (hl : news.length = m)
    (hnews : ∀ j u, news[j]? = some u → w.cell? (a.add j) = some u) (h1 : ∀ u ∈ news, u.oneCell' = true) (hroom : n + m ≤ c) (hfit : off + n + m ≤ cur.size) :
    (Builtin.append_ #[t, t] ty #[.slice (some ⟨g, off, none⟩) n c, .slice (some a) m cc]).run P w =
      .ok (.slice (some ⟨g, off, none⟩) (n + m) c) (w.setRow g (cur.toList.take (off + n) ++ news ++ cur.toList.drop (off + n + m)).toArray) := by
  have hf := run_firstCells_some (P := P) w i.size m a m cc news (by rw [hs1, hl, Nat.mul_one]) hnews
  rw [hs1] at hf
  have hst := run_storeCells_at P g (off + n) e2 news 0 cur w hg (by rw [hl]; omega) h1
  simp only [Nat.add_zero, hl] at hst
  simp [Builtin.append_, run_underlying ht, sizeOf, typeInfo, hi, hs1, Builtin.lenOf, hroom, hf, Addr.add_lit, hst]

theorem run_append_mid_str {P : Program} (w : World) (t u ty e e2 : TypeId) (i : TypeInfo) (ht : P.underlying t = some (.slice e)) (hu : P.underlying u = some .string) (hi : P.info? e = some i) (hs1 : i.size = 1)
    (g off n c : Nat) (cur : Array Value) (hg : w.heap[g]? = some (.cells cur e2 (0, 0))) (s : ByteArray) (hroom : n + s.size ≤ c) (hfit : off + n + s.size ≤ cur.size) :
    (Builtin.append_ #[t, u] ty #[.slice (some ⟨g, off, none⟩) n c, .string s]).run P w =
      .ok (.slice (some ⟨g, off, none⟩) (n + s.size) c) (w.setRow g (cur.toList.take (off + n) ++ Lib.strCells s ++ cur.toList.drop (off + n + s.size)).toArray) := by
  have hf := Lib.run_firstCells_string (P := P) w 1 s
  have hst := run_storeCells_at P g (off + n) e2 (Lib.strCells s) 0 cur w hg (by simpa [Lib.strCells_length] using hfit) (Lib.strCells_oneCell s)
  simp only [Nat.add_zero, Lib.strCells_length] at hst
  simp [Builtin.append_, run_underlying ht, run_underlying hu, sizeOf, typeInfo, hi, hs1, Builtin.lenOf, hroom, hf, Addr.add_lit, hst]

theorem wpList_append_mid {P : Program} {w : World} {ops : Array Oper} {rest : List Oper} {o : Oper} {a : Act} {Q : Exit → Act → World → Prop} (hgd : o.guard = none) (s x : Operand) (t : TypeId)
    (ho : o.op = .call { callee := .builtin .append, args := #[s, x], argTypes := #[t, t] })
    (e e2 : TypeId) (i : TypeInfo) (ht : P.underlying t = some (.slice e)) (hi : P.info? e = some i) (hs1 : i.size = 1)
    (g off n c : Nat) (hs : a.eval s = .slice (some ⟨g, off, none⟩) n c) (cur : Array Value) (hg : w.heap[g]? = some (.cells cur e2 (0, 0))) (ad : Addr) (m cc : Nat) (hx : a.eval x = .slice (some ad) m cc) (news : List Value) (hl : news.length = m)
    (hnews : ∀ j u, news[j]? = some u → w.cell? (ad.add j) = some u) (h1 : ∀ u ∈ news, u.oneCell' = true) (hroom : n + m ≤ c) (hfit : off + n + m ≤ cur.size)
    (h : ∀ w', Hid (w' = w.setRow g (cur.toList.take (off + n) ++ news ++ cur.toList.drop (off + n + m)).toArray) → wpList P ops Q rest (a.put o.dst (.slice (some ⟨g, off, none⟩) (n + m) c)) w') : wpList P ops Q (o :: rest) a w := by
  refine wpList_plain hgd fun K hK => ?_
  have hr := run_append_mid (P := P) w t o.type e e2 i ht hi hs1 g off n c cur hg ad m cc news hl hnews h1 hroom hfit
  unfold Oper.wp execOp
  simp only [ho, resolve, invoke, builtin, Sem.run_bind, Sem.run_pure, Result.andThen_ok, List.map_toArray, List.map_cons, List.map_nil, hs, hx, hr]
  exact hK _ _ (h _ (show _ = _ from rfl))

theorem wpList_append_mid_str {P : Program} {w : World} {ops : Array Oper} {rest : List Oper} {o : Oper} {a : Act} {Q : Exit → Act → World → Prop} (hgd : o.guard = none) (s x : Operand) (t u : TypeId)
    (ho : o.op = .call { callee := .builtin .append, args := #[s, x], argTypes := #[t, u] })
    (e e2 : TypeId) (i : TypeInfo) (ht : P.underlying t = some (.slice e)) (hu : P.underlying u = some .string) (hi : P.info? e = some i) (hs1 : i.size = 1)
    (g off n c : Nat) (hs : a.eval s = .slice (some ⟨g, off, none⟩) n c) (cur : Array Value) (hg : w.heap[g]? = some (.cells cur e2 (0, 0))) (str : ByteArray) (hx : a.eval x = .string str)
    (hroom : n + str.size ≤ c) (hfit : off + n + str.size ≤ cur.size)
    (h : ∀ w', Hid (w' = w.setRow g (cur.toList.take (off + n) ++ Lib.strCells str ++ cur.toList.drop (off + n + str.size)).toArray) → wpList P ops Q rest (a.put o.dst (.slice (some ⟨g, off, none⟩) (n + str.size) c)) w') : wpList P ops Q (o :: rest) a w := by
  refine wpList_plain hgd fun K hK => ?_
  have hr := run_append_mid_str (P := P) w t u o.type e e2 i ht hu hi hs1 g off n c cur hg str hroom hfit
  unfold Oper.wp execOp
  simp only [ho, resolve, invoke, builtin, Sem.run_bind, Sem.run_pure, Result.andThen_ok, List.map_toArray, List.map_cons, List.map_nil, hs, hx, hr]
  exact hK _ _ (h _ (show _ = _ from rfl))

/-- a call of a Go function, as one step of a region that draws its order: by the callee's contract -/
theorem step_call {P : Program} {ops : Array Oper} {o : Oper} {a : Act} {w : World} {K : Act → World → Prop} {Q : Exit → Act → World → Prop} {E : Prop} (hg : o.guard = none) (f : FuncId) (xs : Array Operand) (ts : Array TypeId)
    (hop : o.op = .call { callee := .value (.func f), args := xs, argTypes := ts }) (fn : Func) (c : Code) (hf : P.funcs[f]? = some fn) (hname : (fn.name == "runtime.NumGoroutine") = false) (hb : fn.body = some c)
    (vs : Array Value) (hvs : xs.map a.eval = vs) (h : Calls P f vs w fun e w' => ∃ v, e = .returned v ∧ K (a.put o.dst v) w') :
    if Region.wanted o (yielded ops a.tmps) = true then Oper.wp P o a w K Q else E := by
  have hw : Region.wanted o (yielded ops a.tmps) = true := by simp [Region.wanted, hg]
  rw [if_pos hw]
  subst hvs
  have he : (callFunc f (xs.map a.eval)).run P w = .ok (.enter f (xs.map a.eval)) w := enters_of hf hname hb _ _
  unfold Oper.wp
  have hrun : (execOp a.eval o).run P w = .ok (.enter f (xs.map a.eval)) w := by
    simp [execOp, hop, resolve, Deferred.ofValue, Act.eval, invoke, he]
  rw [hrun, Oper.upon_enter]
  refine h.mono ?_
  rintro e w' ⟨v, rfl, hK⟩
  exact hK

end Go.Proofs.YbulkbeysDoor
