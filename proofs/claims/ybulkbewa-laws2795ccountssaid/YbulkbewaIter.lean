/- maps.Values over the members, slices.AppendSeq, slices.Collect: turned to this program's numbers off the kit's text on int keys. -/
import Derived.Test.YbulkbewaMaps
import Derived.Shelf.SlIterI.Collect
namespace Go.Proofs.Ybulkbewa
open Go.RowKit Go.Maps Go.Sort Go.Shelf

abbrev encP (b : Nat) : Value := .pointer (some ⟨b, 0, none⟩)
theorem info78 : (Yba.prog.info? 78).map (fun i => (i.zero, i.size, i.bytes)) = some (some (.pointer none), 1, 8) := by kernel_rfl

set_option maxRecDepth 100000 in
set_option maxHeartbeats 1000000 in
theorem values1_in (F : Fence) (n : Nat) (h32 : F.fn 32) (hro : F.round = none) (hn : 1 ≤ n) (l Bm b nn : Nat) (D0 : DataW Unit) (ms : List (Int × Nat)) (hD : MapOf D0 ms) (J : List Nat → World → Prop)
    (hY : ∀ pre x W, J pre W → pre.length < Maps.size D0 → YieldAt F (n - 1) Yba.prog l #[encP x] W fun e W' => e = .returned (.bool true) ∧ J (pre ++ [x]) W' ∧ KeepsWalks W W')
    (W : World) (hJ : AbidesFrom W.heap.size J) (hm : W.cell? ⟨Bm, 0, none⟩ = some (.map (some b))) (hown : W.ownsMap Yba.prog 3 ptrElem b nn D0) (h0 : J [] W) :
    CallsIn F n Yba.prog 32 #[.func (.yield l) #[] #[], .pointer (some ⟨Bm, 0, none⟩)] W fun e W' => (∃ v, e = .returned v) ∧ ∃ xs : List Nat, (∃ ps : List (Int × Nat), ps.Perm ms ∧ xs = ps.map (·.2)) ∧ J xs W' := by
  refine callsIn_of_wp Yba.func32 rfl h32 ?_ hro
  simp only [Yba.ntmps32, List.size_toArray, List.length_cons, List.length_nil, Nat.reduceAdd, Nat.reduceSub, Array.replicate_succ, Array.replicate_zero, List.push_toArray, List.append_toArray, List.nil_append, List.cons_append]
  gi_wp2_with (first
    | (gi_at_range; refine wpListIn_range_own _ rfl _ 71 rfl 3 78 (int_keyed Yba.underlying3) Yba.underlying71 _ b nn _ rfl hown ?_; intro w0 hrg0 hg0 hs0)
    | gi_in)
  go_frame
  gi_loopw [4] (fun _ wr => ∃ (left : Lit → Bool) (cnt : Nat) (ps : List (Int × Nat)), wr.ranges Yba.prog 3 ptrElem b W.heap.size nn D0 left cnt ∧ ps.length + cnt ≤ Maps.size D0 ∧ CollectedI D0 left (ps.map (·.1)) ∧ (∀ p ∈ ps, ∀ zd, D0.atKey (.int .i64 p.1) zd = .lit (.int .i64 (p.2 : Int))) ∧ J (ps.map (·.2)) wr)
    (fun _ wr => wr.rangeLeft b W.heap.size)
  case atStart =>
    exact ⟨_, _, [], hrg0, by simp, CollectedI.start D0, by simp, hJ [] W w0 none h0 hg0 (fun r e => by cases e)⟩
  case round =>
    obtain ⟨left, cnt, ps, hrg, hcs, hC, hV, hJs⟩ := hrel
    gi_wp2_with (first
      | (gi_at_next; refine wpListIn_next_ranges _ rfl _ rfl 3 (int_keyed Yba.underlying3) ptrElem encZ Value.pointer (fun key kl hk => by obtain ⟨x, hx, _⟩ := Maps.keyOf_i64 Yba.underlying3 hk; exact ⟨x, hx⟩) (fun v y hv => by unfold ptrElem at hv; split at hv; exact ⟨_, rfl⟩; exact ⟨_, rfl⟩; cases hv) b W.heap.size nn _ _ _ rfl hrg ?_ ?_)
      | gi_in)
    · -- NOTHING IS LEFT
      intro hc0 hl0
      gi_wp2
      go_end0
      exact ⟨⟨_, rfl⟩, _, ⟨ps, hD.perm hC.1 (fun z => by rw [hC.2 z, hl0]; simp) hV, rfl⟩, hJs⟩
    · -- AN ENTRY HAS COME: yield(v)
      intro x c kl yd yp w2 cnt2 hkey hlk hv hat hrg2 hlt hg2 hs2 hen
      obtain ⟨x', ex, rfl, _⟩ := Maps.keyOf_i64 Yba.underlying3 hkey
      obtain rfl : x = x' := encZ_inj ex
      have hstep := hC.step hlk hat
      have hhas : Maps.has D0 (.int .i64 x) = true := ((hstep.2 x).1 (by simp)).1
      obtain ⟨p, hp, hpx⟩ := List.mem_map.1 ((hD.has x).1 hhas)
      have hyd : yd = .lit (.int .i64 (p.2 : Int)) := by
        have h1 := hD.val p hp (.lit (.int .i64 0))
        rw [hpx, hat] at h1
        exact h1
      subst hyd
      obtain rfl : c = some ⟨p.2, 0, none⟩ := by have := ptrElem_inv hv; simpa using this
      have hJ2 : J (ps.map (·.2)) w2 := hJ _ wr w2 (some W.heap.size) hJs hg2 (fun r e => by cases e; exact ⟨Nat.le_refl _, hrg.iter_walk⟩)
      obtain ⟨fn, tmps, assign, body, hy, hR⟩ := hY (ps.map (·.2)) p.2 w2 hJ2 (by simp; omega)
      dsimp only [encP] at hy
      clear hs2
      gi_wp2
      refine hR.mono ?_
      rintro e W3 ⟨rfl, hJ3, hk3⟩
      gi_wp2
      have hrg3 := hrg2.of_walks hk3
      go_roundw
      case rel =>
        refine ⟨_, cnt2, ps ++ [(x, p.2)], hrg3, by simp; omega, by simpa using hstep, ?_, by simpa using hJ3⟩
        intro q hq zd
        rcases List.mem_append.1 hq with hq | hq
        · exact hV q hq zd
        · simp at hq; subst hq; exact hat zd
      case measure => rw [hrg3.left_eq, hrg.left_eq]; exact hlt

def It.apAssign : Code := (Code.region 2 #[{ dst := some 5, op := Op.assign (Operand.tmp 7), type := 78, pos := "iter.go:51", after := #[], guard := none }] false)
def It.apBody : Code := (Code.block 1 (Code.region 3 #[{ dst := some 8, op := Op.load 92 (Operand.tmp 2), type := 92, pos := "iter.go:52", after := #[], guard := none }, { dst := some 9, op := Op.move (Operand.tmp 5), type := 78, pos := "iter.go:52", after := #[], guard := none }, { dst := some 10, op := Op.buildSlice 92 1 #[(0, Operand.tmp 9)], type := 92, pos := "iter.go:52", after := #[{ on := 1, ground := Ground.data }], guard := none }, { dst := some 11, op := Op.call { callee := Callee.builtin Builtin.append, args := #[Operand.tmp 8, Operand.tmp 10], argTypes := #[92, 92] }, type := 92, pos := "iter.go:52", after := #[{ on := 0, ground := Ground.data }, { on := 2, ground := Ground.data }], guard := none }, { dst := none, op := Op.store 92 (Operand.tmp 2) (Operand.tmp 11), type := 0, pos := "iter.go:52", after := #[{ on := 3, ground := Ground.data }, { on := 3, ground := Ground.chain }, { on := 0, ground := Ground.phase }, { on := 1, ground := Ground.phase }, { on := 2, ground := Ground.phase }, { on := 3, ground := Ground.phase }], guard := none }] false))
/-- The loop's record: AppendSeq's temporaries as they stood at the entering: 's' boxed in block Bs; sv: the iterator's value. -/
def It.apRec (fn : FuncId) (sv : Value) (Bs D : Nat) (st : LoopState) (pend : Option Code) : Loop :=
  { state := st, pending := pend, fn, tmps := #[.slice none 0 0, sv, .pointer (some ⟨Bs, 0, none⟩), undef, .slice none 0 0, undef, sv, undef, undef, undef, undef, undef, undef], params := #[7], assign := It.apAssign, body := It.apBody, defers := D }

/-- BETWEEN TWO ROUNDS: the box holds a slice that owns, in a block of the call's own, what has come so far; IT IS nil JUST AS LONG AS NOTHING HAS COME; nothing that lay before the call has turned. -/
structure It.ApAt (w0 : World) (fn : FuncId) (sv : Value) (Bs l D : Nat) (ss : List Nat) (W : World) : Prop where
  box : ∃ v, W.heap[Bs]? = some (.cells #[v] 92 (0, 0)) ∧ W.ownsRow w0.heap.size 78 1 v ss.length (ss.map encP) ∧ (v = .slice none 0 0 ↔ ss = [])
  L : W.heap[l]? = some (.loop (It.apRec fn sv Bs D .ready none))
  K : W.heap[D]? = some (.deferred (some []))
  below : Below w0.heap.size w0 W

theorem It.ap_abides (w0 : World) (fn : FuncId) (sv : Value) (Bs l D B : Nat) (hB : w0.heap.size ≤ B) : AbidesFrom B (It.ApAt w0 fn sv Bs l D) := fun s W W' row h hg hrow => by
  have hrow' : ∀ r, row = some r → ∃ o : Obj, W.heap[r]? = some o ∧ o.isWalk = true := fun r e => (hrow r e).2
  obtain ⟨v, hv, hr, hn⟩ := h.box
  exact ⟨⟨v, (grownBy_keeps hg hrow' hv rfl).trans hv, ownsRow_abides_a hr hg hrow', hn⟩, (grownBy_keeps hg hrow' h.L rfl).trans h.L, (grownBy_keeps hg hrow' h.K rfl).trans h.K,
    h.below.grown hg h.below.size (fun k e => Nat.le_trans hB (hrow k e).1)⟩

set_option maxRecDepth 100000 in
set_option maxHeartbeats 2000000 in
theorem It.apYield (F : Fence) (m : Nat) (w0 : World) (fn : FuncId) (hfn : F.fn fn) (sv : Value) (Bs l D : Nat) (hBl : Bs ≠ l) (hDl : D ≠ l) (hDB : D ≠ Bs) (h0B : w0.heap.size ≤ Bs) (h0l : w0.heap.size ≤ l)
    (N : Nat) (hN : N ≤ maxLen) (hNb : N * 8 ≤ 140737488355328) (ss : List Nat) (x : Nat) (W : World) (h : It.ApAt w0 fn sv Bs l D ss W) (hlen : ss.length < N) :
    YieldAt F m Yba.prog l #[encP x] W fun e W' => e = .returned (.bool true) ∧ It.ApAt w0 fn sv Bs l D (ss ++ [x]) W' ∧ KeepsWalks W W' := by
  have hne : (92 : TypeId) ≠ 78 := by decide
  obtain ⟨i0, hi, hz0, hz1, hz2⟩ := info_parts info78
  obtain ⟨v, hv, hrow, _⟩ := h.box
  refine ⟨fn, #[.slice none 0 0, sv, .pointer (some ⟨Bs, 0, none⟩), undef, .slice none 0 0, undef, sv, encP x, undef, undef, undef, undef, undef], It.apAssign, It.apBody, by simpa [It.apRec] using run_yield (P := Yba.prog) (args := #[encP x]) h.L rfl, roundIn_of_wpIn hfn ?_⟩
  have hl : l < W.heap.size := (Array.getElem?_eq_some_iff.1 h.L).1
  have hbr := run_beginRound (P := Yba.prog) h.L rfl
  obtain ⟨W2, hW2⟩ : ∃ W2, W.putObj l (.loop { It.apRec fn sv Bs D .ready none with state := .busy }) = W2 := ⟨_, rfl⟩
  rw [hW2] at hbr
  have hg2 : W.grownBy W2 (some l) := by rw [← hW2]; exact grownBy_putObj_a _ _ _
  have hk2 : KeepsWalks W W2 := by rw [← hW2]; exact KeepsWalks.putObj _ h.L rfl
  have hv2 : W2.heap[Bs]? = some (.cells #[v] 92 (0, 0)) := by rw [← hW2]; exact (World.putObj_heap_other hBl).trans hv
  have hK2 : W2.heap[D]? = some (.deferred (some [])) := by rw [← hW2]; exact (World.putObj_heap_other hDl).trans h.K
  have hL2 : W2.heap[l]? = some (.loop { It.apRec fn sv Bs D .ready none with state := .busy }) := by rw [← hW2]; exact World.putObj_heap_same hl
  have hrow2 : W2.ownsRow w0.heap.size 78 1 v ss.length (ss.map encP) := hrow.kept hg2 (ownsRow_ne_a hrow h.L (fun cur e => by first | cases e | exact hne (Obj.cells.inj e).2.1))
  have hb2 : Below w0.heap.size w0 W2 := h.below.grown hg2 h.below.size (fun k e => by cases e; exact h0l)
  obtain ⟨hc2, hf2⟩ := cell_of_box_a hv2
  have hBlt : Bs < W2.heap.size := (Array.getElem?_eq_some_iff.1 hv2).1
  have hl2 : l < W2.heap.size := (Array.getElem?_eq_some_iff.1 hL2).1
  have hDlt : D < W2.heap.size := (Array.getElem?_eq_some_iff.1 hK2).1
  have ne_of : ∀ {j : Nat} {o : Obj}, W2.heap[j]? = some o → (∀ cur, o ≠ .cells cur 78 (0, 0)) → some j ≠ v.ownBlock := fun hj hno => by
    rcases ownsRow_ne_a hrow2 hj hno with e | e
    · rw [e]; simp
    · exact fun e' => e e'.symm
  clear hW2
  unfold It.apAssign
  gi_wp2_with gi_round_op_a
  unfold It.apBody
  gi_wp2_with (first
    | (gi_at_builtin; refine wpListIn_append_own _ rfl _ _ 92 rfl w0.heap.size 78 i0 (.pointer none) 1 8 Yba.underlying92 hi hz0 hz1 hz2 rfl (by decide) _ _ _ rfl (hrow2.alloc _) ⟨W2.heap.size, 0, none⟩ 1 1 [encP x] rfl rfl (cell_one_new _ _ _) (by simp [Value.oneCell', encP]) (by omega) (by omega) (by have := hb2.size; simp; omega) ?_; intro v' w3 hown' hg3 hnil3
       have hv3 : w3.heap[Bs]? = some (.cells #[v] 92 (0, 0)) := (hg3.block Bs (by simp; omega) (ne_of hv2 (fun cur e => by first | cases e | exact hne (Obj.cells.inj e).2.1))).trans ((Below.heap_alloc _ _ Bs hBlt).trans hv2)
       obtain ⟨hc3, hf3⟩ := cell_of_box_a hv3
       obtain ⟨g', cap', cur', rfl, hbase', hgb', hr1, hr2, hr3, hr4⟩ : ∃ g' cap' cur', v' = .slice (some ⟨g', 0, none⟩) (ss.length + 1) cap' ∧ w0.heap.size ≤ g' ∧ w3.heap[g']? = some (.cells cur' 78 (0, 0)) ∧ ss.length + 1 ≤ cap' ∧ cap' ≤ maxLen ∧ cur'.size = cap' * 1 ∧ cur'.toList.take ((ss.length + 1) * 1) = ss.map encP ++ [encP x] := by
         rcases hown'.2 with ⟨_, h0⟩ | h'
         · exact absurd h0 (by omega)
         · exact h'
       go_frame)
    | gi_round_op_a)
  have hg3' : (W2.alloc (.cells #[encP x] 78)).grownBy w3 v.ownBlock := hg3
  have hL3 : w3.heap[l]? = some (.loop { It.apRec fn sv Bs D .ready none with state := .busy }) := (hg3'.block l (by simp; omega) (ne_of hL2 (fun cur e => by first | cases e | exact hne (Obj.cells.inj e).2.1))).trans ((Below.heap_alloc _ _ l hl2).trans hL2)
  have hK3 : w3.heap[D]? = some (.deferred (some [])) := (hg3'.block D (by simp; omega) (ne_of hK2 (fun cur e => by first | cases e | exact hne (Obj.cells.inj e).2.1))).trans ((Below.heap_alloc _ _ D hDlt).trans hK2)
  obtain ⟨w4, hw4⟩ : ∃ w4, w3.setCell ⟨Bs, 0, none⟩ (.slice (some ⟨g', 0, none⟩) (ss.length + 1) cap') = w4 := ⟨_, rfl⟩
  rw [hw4]
  have hg4 : w3.grownBy w4 (some Bs) := by rw [← hw4]; exact grownBy_setCell0_a _ _ _
  have hv4 : w4.heap[Bs]? = some (.cells #[.slice (some ⟨g', 0, none⟩) (ss.length + 1) cap'] 92 (0, 0)) := by rw [← hw4]; exact heap_setCell_box_a _ hv3
  have hL4 : w4.heap[l]? = some (.loop { It.apRec fn sv Bs D .ready none with state := .busy }) := (hg4.block l (Array.getElem?_eq_some_iff.1 hL3).1 (fun e => hBl (by cases e; rfl))).trans hL3
  have hK4 : w4.heap[D]? = some (.deferred (some [])) := (hg4.block D (Array.getElem?_eq_some_iff.1 hK3).1 (fun e => hDB (by cases e; rfl))).trans hK3
  have hrow4 := hown'.kept hg4 (ownsRow_ne_a hown' hv3 (fun cur e => by first | cases e | exact hne (Obj.cells.inj e).2.1))
  have hl4 : l < w4.heap.size := (Array.getElem?_eq_some_iff.1 hL4).1
  have hb3 : Below w0.heap.size w0 w3 := (hb2.alloc hb2.size _).grown hg3' (by have := hb2.size; simp; omega) (fun k e => (hrow2.lt k e).1)
  have hb4 : Below w0.heap.size w0 w4 := hb3.grown hg4 hb3.size (fun k e => by cases e; exact h0B)
  have hk4 : KeepsWalks W w4 := ((hk2.trans (KeepsWalks.alloc _ _)).trans (KeepsWalks.of_grownBy hg3' (ownsRow_not_walk_a (hrow2.alloc _)))).trans (by rw [← hw4]; exact KeepsWalks.setCell _ _ _)
  clear hw4
  refine ⟨_, _, run_endRound none hL4, rfl, ⟨⟨_, (World.putObj_heap_other hBl).trans hv4, ?_, by simp⟩, World.putObj_heap_same hl4, (World.putObj_heap_other hDl).trans hK4, hb4.grown (grownBy_putObj_a _ _ _) hb4.size (fun k e => by cases e; exact h0l)⟩, hk4.trans (KeepsWalks.putObj _ hL4 rfl)⟩
  have := hrow4.kept (grownBy_putObj_a w4 l (.loop { { It.apRec fn sv Bs D .ready none with state := .busy } with state := if (none : Option Code).isNone then .ready else .done, pending := none })) (ownsRow_ne_a hrow4 hL4 (fun cur e => by first | cases e | exact hne (Obj.cells.inj e).2.1))
  simpa using this


set_option maxRecDepth 100000 in
set_option maxHeartbeats 2000000 in
/-- **slices.AppendSeq(nil, seq), AGAINST WHATEVER ITERATOR VALUE THAT 'SeqGives'**: it hands back a slice that owns, in a block of the call's own, JUST WHAT THE ITERATOR GAVE, IN THAT ORDER; nil JUST WHERE IT GAVE NOTHING (as Go: 'slices.Collect' of nothing is nil); nothing that lay before the call has turned. -/
theorem It.appendSeq_in (F : Fence) (n : Nat) (h11 : F.fn 47) (hro : F.round = none) (hn : 2 ≤ n) (g : Nat) (lb : Array Value) (hFg : F.fn g) (eg : ∀ args w, (callFunc g args).run Yba.prog w = .ok (.enter g args) w)
    (S : List Nat → Prop) (N : Nat) (hN : N ≤ maxLen) (hNb : N * 8 ≤ 140737488355328) (w : World) (hseq : SeqGives F (n - 1) Yba.prog g lb encP S N w) :
    CallsIn F n Yba.prog 47 #[.slice none 0 0, .func (.func g) #[] lb] w fun e w' => ∃ (v : Value) (ss : List Nat), e = .returned v ∧ S ss ∧ w'.ownsRow w.heap.size 78 1 v ss.length (ss.map encP) ∧ (v = .slice none 0 0 ↔ ss = []) ∧ Below w.heap.size w w' := by
  have h1 : 1 ≤ n := by omega
  have hne : (92 : TypeId) ≠ 78 := by decide
  refine callsIn_of_wp_marks Yba.func47 rfl h11 ?_ hro
  simp only [Yba.ntmps47, List.size_toArray, List.length_cons, List.length_nil, Nat.reduceAdd, Nat.reduceSub, Array.replicate_succ, Array.replicate_zero, List.push_toArray, List.append_toArray, List.nil_append, List.cons_append]
  gi_wp2
  refine wpIn_rangeFunc ?_
  intro fn hfn
  rw [hro]
  obtain ⟨W0, hW0⟩ : ∃ W0, w.alloc (.cells #[.slice none 0 0] 92) = W0 := ⟨_, rfl⟩
  have hs0 : W0.heap.size = w.heap.size + 1 := by rw [← hW0]; simp
  have hv0 : W0.heap[w.heap.size]? = some (.cells #[.slice none 0 0] 92 (0, 0)) := by rw [← hW0]; exact World.alloc_heap_new w _
  have hb0 : Below w.heap.size w W0 := by rw [← hW0]; exact (Below.refl _ w).alloc (Nat.le_refl _) _
  rw [hW0]
  obtain ⟨W1, hW1⟩ : ∃ W1, (W0.alloc (.deferred (some []))).alloc (.loop (It.apRec fn (.func (.func g) #[] lb) w.heap.size W0.heap.size .ready none)) = W1 := ⟨_, rfl⟩
  have hold : ∀ k, k < W0.heap.size → W1.heap[k]? = W0.heap[k]? := fun k hk => by
    rw [← hW1]; exact (Below.heap_alloc _ _ k (by simp; omega)).trans (Below.heap_alloc _ _ k hk)
  have hb1 : Below w.heap.size w W1 := by rw [← hW1]; exact (hb0.alloc hb0.size _).alloc (by have := hb0.size; simp; omega) _
  have hs1 : W1.heap.size = W0.heap.size + 2 := by rw [← hW1]; simp
  have hM : It.ApAt w fn (.func (.func g) #[] lb) w.heap.size (W0.heap.size + 1) W0.heap.size [] W1 :=
    ⟨⟨_, (hold w.heap.size (by omega)).trans hv0, ⟨rfl, .inl ⟨rfl, rfl⟩⟩, by simp⟩,
     by rw [← hW1]; have := World.alloc_heap_new (W0.alloc (.deferred (some []))) (.loop (It.apRec fn (.func (.func g) #[] lb) w.heap.size W0.heap.size .ready none)); rwa [World.size_alloc] at this,
     by rw [← hW1]; exact (Below.heap_alloc _ _ _ (by simp)).trans (World.alloc_heap_new W0 _), hb1⟩
  refine ⟨W0.heap.size + 1, [{ target := .collected W0.heap.size, args := #[] }], W1, { target := .fn (.func g) lb, args := #[.func (.yield (W0.heap.size + 1)) #[] #[]] }, W1, g,
    #[.func (.yield (W0.heap.size + 1)) #[] #[]] ++ lb, W1, ?_, ?_, ?_, ?_, fun _ => h1, ?_⟩
  · rw [← hW1]; exact run_enterLoop_outer _ _ _ _ _
  · simp [resolve, go_sem]
  · intro f' hf'; simp [Target.leads] at hf'; subst hf'; exact hFg
  · simp [invoke, go_sem, eg]
  · refine (hseq (W0.heap.size + 1) (It.ApAt w fn (.func (.func g) #[] lb) w.heap.size (W0.heap.size + 1) W0.heap.size) W1 hb1 (It.ap_abides _ _ _ _ _ _ _ hb1.size)
      (fun pre x W hJ hl => It.apYield F (n - 1 - 1) w fn hfn _ w.heap.size (W0.heap.size + 1) W0.heap.size (by omega) (by omega) (by omega) (Nat.le_refl _) (by omega) N hN hNb pre x W hJ hl) hM).mono ?_
    rintro e W2 ⟨⟨v0, rfl⟩, ss, hS, h2⟩
    obtain ⟨v, hv, hrow, hnil⟩ := h2.box
    have hend := run_endLoop (P := Yba.prog) h2.L (by simp [It.apRec])
    obtain ⟨W3, hW3⟩ : ∃ W3, W2.putObj (W0.heap.size + 1) (.loop { It.apRec fn (.func (.func g) #[] lb) w.heap.size W0.heap.size .ready none with state := .exhausted }) = W3 := ⟨_, rfl⟩
    rw [hW3] at hend
    have hg3 : W2.grownBy W3 (some (W0.heap.size + 1)) := by rw [← hW3]; exact grownBy_putObj_a _ _ _
    have hv3 : W3.heap[w.heap.size]? = some (.cells #[v] 92 (0, 0)) := by rw [← hW3]; exact (World.putObj_heap_other (by omega)).trans hv
    have hK3 : W3.heap[W0.heap.size]? = some (.deferred (some [])) := by rw [← hW3]; exact (World.putObj_heap_other (by omega)).trans h2.K
    have hrow3 := hrow.kept hg3 (ownsRow_ne_a hrow h2.L (fun cur e => by first | cases e | exact hne (Obj.cells.inj e).2.1))
    have hb3 : Below w.heap.size w W3 := h2.below.grown hg3 h2.below.size (fun k e => by cases e; omega)
    obtain ⟨hc3, hf3⟩ := cell_of_box_a hv3
    clear hW3
    refine ⟨none, W3, hend, ?_⟩
    gi_wp2
    rw [← hs0]
    refine ⟨by simp, .inl ⟨_, _, rfl, run_takeDeferred hK3, ?_⟩⟩
    exact ⟨_, results_tmp rfl _ _ _, v, ss, rfl, hS, hrow3.kept (grownBy_putObj_a _ _ _) (ownsRow_ne_a hrow3 hK3 (fun cur e => by first | cases e | exact hne (Obj.cells.inj e).2.1)), hnil, hb3.grown (grownBy_putObj_a _ _ _) hb3.size (fun k e => by cases e; omega)⟩


set_option maxHeartbeats 1000000 in
theorem values_in (F : Fence) (n : Nat) (hf : F.fn 21) (hro : F.round = none) (mb : Option Nat) (w : World) :
    CallsIn F n Yba.prog 21 #[.map mb] w fun e w' => e = .returned (.func (.func 32) #[] #[.pointer (some ⟨w.heap.size, 0, none⟩)]) ∧ w' = w.alloc (.cells #[.map mb] 71) := by
  refine callsIn_of_wp Yba.func21 rfl hf ?_ hro
  simp only [Yba.ntmps21, List.size_toArray, List.length_cons, List.length_nil, Nat.reduceAdd, Nat.reduceSub, Array.replicate_succ, Array.replicate_zero, List.push_toArray, List.append_toArray, List.nil_append, List.cons_append]
  gi_wp2
  go_ret
  exact ⟨rfl, rfl⟩

set_option maxHeartbeats 1000000 in
theorem collect_in (F : Fence) (n : Nat) (h8 : F.fn 30) (h11 : F.fn 47) (hro : F.round = none) (hn : 3 ≤ n) (g : Nat) (lb : Array Value) (hFg : F.fn g) (eg : ∀ args w, (callFunc g args).run Yba.prog w = .ok (.enter g args) w)
    (S : List Nat → Prop) (N : Nat) (hN : N ≤ maxLen) (hNb : N * 8 ≤ 140737488355328) (w : World) (hseq : SeqGives F (n - 1 - 1) Yba.prog g lb encP S N w) :
    CallsIn F n Yba.prog 30 #[.func (.func g) #[] lb] w fun e w' => ∃ (v : Value) (ss : List Nat), e = .returned v ∧ S ss ∧ w'.ownsRow w.heap.size 78 1 v ss.length (ss.map encP) ∧ (v = .slice none 0 0 ↔ ss = []) ∧ Below w.heap.size w w' := by
  have h1 : 1 ≤ n := by omega
  have e11 : ∀ args w, (callFunc 47 args).run Yba.prog w = .ok (.enter 47 args) w := enters_of Yba.func47 (by kernel_rfl) rfl
  refine callsIn_of_wp Yba.func30 rfl h8 ?_ hro
  simp only [Yba.ntmps30, List.size_toArray, List.length_cons, List.length_nil, Nat.reduceAdd, Nat.reduceSub, Array.replicate_succ, Array.replicate_zero, List.push_toArray, List.append_toArray, List.nil_append, List.cons_append]
  gi_wp2_with (gi_at_fn 47; refine (It.appendSeq_in F (n - 1) h11 hro (by omega) g lb hFg eg S N hN hNb _ hseq).mono ?_; rintro e w' ⟨v, ss, rfl, hS, hrow, hnil, hb⟩)
  go_ret
  exact ⟨v, ss, rfl, hS, hrow, hnil, hb⟩
end Go.Proofs.Ybulkbewa
