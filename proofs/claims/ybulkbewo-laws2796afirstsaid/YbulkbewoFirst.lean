/- Ledger.of and the law over it: the walks. -/
import Derived.Test.YbulkbewoProg
import Derived.WalkKit
import Derived.WalkSpells
import Derived.WalkLawsBesides
import Derived.LaidEqlPtr
namespace Go.Proofs.Ybulkbewo
open Go.RowKit

theorem cellB {w : World} {b o : Nat} {G : Array Value} {t : TypeId} {v : Value} (h : w.heap[b]? = some (.cells G t (0, 0))) (hv : G[o]? = some v) : w.cell? ⟨b, o, none⟩ = some v := by
  rw [cell_of_row w b o G t (0, 0) h]; exact hv
theorem freeB {w : World} {b o : Nat} {G : Array Value} {t : TypeId} (h : w.heap[b]? = some (.cells G t (0, 0))) : w.frozen? ⟨b, o, none⟩ = false := frozen_of_row w b o G t h
theorem heap_setCell_at {w : World} {b o : Nat} {G : Array Value} {t : TypeId} (v : Value) (h : w.heap[b]? = some (.cells G t (0, 0))) :
    (w.setCell ⟨b, o, none⟩ v).heap[b]? = some (.cells (G.setIfInBounds o v) t (0, 0)) := by
  rw [setCell_eq_setRow w b o G t (0, 0) v h]
  exact setRow_heap w b G _ t (0, 0) h

def isCells (w : World) (b : Nat) : Prop := ∃ c t, w.heap[b]? = some (.cells c t (0, 0))

/-- '==' on pointers to things that have cells -/
theorem eql_ptr {P : Program} (w : World) {tp te : TypeId} {j : TypeInfo} (hp : P.underlying tp = some (.pointer te)) (hte : P.info? te = some j) (hsz : j.size ≠ 0) (p q : Option Addr)
    (ha : ∀ a, p = some a → isCells w a.block) (hb : ∀ a, q = some a → isCells w a.block) :
    (binOp .eql tp (.pointer p) (.pointer q)).run P w = .ok (.bool (decide (p = q))) w := by
  have hpt : P.pointee tp = te := by simp [Program.pointee, hp]
  cases q with
  | none =>
    rw [run_eql_pointer_nil w tp p (by rw [hpt]; exact hp)]
    cases p <;> simp
  | some b =>
    cases p with
    | none =>
      have h : ∀ d : Nat, (Op.equalIn (d + 1) tp (.pointer none) (.pointer (some b))).run P w = .ok false w := fun d => by
        simp [Op.equalIn, run_underlying hp]
      simp only [binOp]
      simp [Op.equal, Op.maxDepth, h 9999]
    | some a =>
      by_cases e : a = b
      · subst e
        rw [run_eql_ptr_same w a hp hte]; simp
      · obtain ⟨ca, ta, h1⟩ := ha a rfl
        obtain ⟨cb, tb, h2⟩ := hb b rfl
        rw [run_eql_ptr_other w hp hte hsz e h1 h2]; simp [e]

theorem info37 : (Yba.prog.info? 37).map (fun i => i.size) = some 17 := by kernel_rfl
theorem info49 : (Yba.prog.info? 49).map (fun i => i.size) = some 9 := by kernel_rfl

/-- the first of the places 0 .. k-1 that 'p' holds of -/
def firstP (p : Nat → Bool) : Nat → Option Nat
  | 0 => none
  | k + 1 => match firstP p k with
    | some i => some i
    | none => if p k then some k else none

theorem firstP_hit {p : Nat → Bool} {k n : Nat} (h0 : firstP p k = none) (hk : p k = true) (hn : k < n) : firstP p n = some k := by
  induction n with
  | zero => omega
  | succ n ih =>
    by_cases e : k = n
    · subst e; simp [firstP, h0, hk]
    · simp [firstP, ih (by omega)]

set_option maxHeartbeats 400000 in
theorem of_any (w : World) (bl be n : Nat) (Lc E : Array Value) (eb : Nat → Nat) (I : Nat → Option Addr) (x : Option Addr)
    (hl : w.heap[bl]? = some (.cells Lc 58 (0, 0))) (hl1 : Lc[1]? = some (.slice (some ⟨be, 0, none⟩) n n))
    (hE : w.heap[be]? = some (.cells E 41 (0, 0))) (hn : n ≤ 1024) (hEc : ∀ i, i < n → E[i]? = some (.pointer (some ⟨eb i, 0, none⟩)))
    (hI : ∀ i, i < n → w.cell? ⟨eb i, 0, none⟩ = some (.pointer (I i))) (hIc : ∀ i, i < n → ∀ a, I i = some a → isCells w a.block) (hx : ∀ a, x = some a → isCells w a.block) :
    Calls Yba.prog 4 #[.pointer (some ⟨bl, 0, none⟩), .pointer x] w fun e w' => e = .returned (.pointer ((firstP (fun i => decide (I i = x)) n).map fun i => ⟨eb i, 0, none⟩)) ∧ w' = w := by
  have f1 : w.cell? ⟨bl, 1, none⟩ = some (.slice (some ⟨be, 0, none⟩) n n) := cellB hl hl1
  obtain ⟨j, hj, hjs⟩ := Option.map_eq_some_iff.1 info37
  have he := fun i (hi : i < n) => eql_ptr w Yba.underlying42 hj (by omega) (I i) x (hIc i hi) hx
  clear hl hl1
  go_enter Yba.func4, Yba.ntmps4
  go_wp2
  go_loop [12] (fun i => ∃ k : Nat, k ≤ n ∧ i = .int .i64 k ∧ firstP (fun i => decide (I i = x)) k = none) (fun i => n - (intOf i).toNat)
  case atStart => exact ⟨0, Nat.zero_le _, rfl, rfl⟩
  case round =>
    obtain ⟨k, hk, rfl, hf⟩ := hrel
    by_cases hlt : k < n
    · have d0 := cellB hE (hEc k hlt)
      have d1 := hI k hlt
      have d2 := he k hlt
      have HF : Hid _ := hf
      clear he hE hEc hI hIc hf
      by_cases hc : I k = x
      · simp only [hc, decide_true] at d2
        go_wp2
        go_ret
        refine ⟨?_, rfl⟩
        rw [firstP_hit HF.out (by simp [hc]) hlt]
        rfl
      · simp only [hc, decide_false] at d2
        go_wp2
        go_round
        case rel => exact ⟨k + 1, by omega, by go_num, by simp only [firstP]; rw [HF.out]; simp [hc]⟩
        case measure => simp [intOf]; omega
    · obtain rfl : n = k := by omega
      have HF : Hid _ := hf
      clear hf
      go_wp2
      go_ret
      refine ⟨?_, rfl⟩
      rw [HF.out]
      rfl

/-- the pointer to the k-th of the pool (nil for the ninth) -/
def ptrOf (bp m : Nat) : Option Addr := if m % 9 < 8 then some ⟨bp, m % 9 * 17, none⟩ else none

theorem ptrOf_inj (bp m q : Nat) : ptrOf bp m = ptrOf bp q ↔ m % 9 = q % 9 := by
  unfold ptrOf
  constructor
  · intro h
    split at h <;> split at h <;> simp_all <;> omega
  · intro h
    rw [h]

theorem info3 : (Yba.prog.info? 3).map (fun i => (i.zero, i.size, i.bytes)) = some (some (.int .i64 0), 1, 8) := by kernel_rfl
theorem info41 : (Yba.prog.info? 41).map (fun i => (i.zero, i.size, i.bytes)) = some (some (.pointer none), 1, 8) := by kernel_rfl

def aggSize : Option Value → Nat
  | some (.agg cs) => cs.size
  | _ => 0
theorem info38 : (Yba.prog.info? 38).map (fun i => aggSize i.zero) = some 136 := by kernel_rfl

theorem zero38 : ∃ cs : Array Value, cs.size = 136 ∧ ∀ w, (zeroValue 38).run Yba.prog w = .ok (.agg cs) w := by
  obtain ⟨i, hi, hs⟩ := Option.map_eq_some_iff.1 info38
  obtain ⟨cs, hz⟩ : ∃ cs, i.zero = some (.agg cs) := by
    unfold aggSize at hs
    split at hs
    · exact ⟨_, by assumption⟩
    · cases hs
  rw [hz] at hs
  exact ⟨cs, hs, fun w => by simp [zeroValue, typeInfo, hi, hz]⟩

/-- the index row and the entries' row, the first k places filled -/
def Filled (w : World) (n : Nat) (Z : Nat → Nat) (bi be : Nat) (wr : World) (k : Nat) : Prop :=
  ∃ (I E : Array Value) (eb : Nat → Nat), wr.heap[bi]? = some (.cells I 3 (0, 0)) ∧ I.size = n ∧ (∀ j, j < k → I[j]? = some (.int .i64 ((Z j : Int) % 9))) ∧
    wr.heap[be]? = some (.cells E 41 (0, 0)) ∧ E.size = n ∧
    (∀ j, j < k → E[j]? = some (.pointer (some ⟨eb j, 0, none⟩)) ∧ be < eb j ∧ ∃ D, wr.heap[eb j]? = some (.cells D 49 (0, 0)) ∧ D[0]? = some (.pointer (ptrOf w.heap.size (Z j)))) ∧
    isCells wr w.heap.size ∧ Below w.heap.size w wr

theorem filled_step {w : World} {n : Nat} {Z : Nat → Nat} {bi be : Nat} {wr : World} {k : Nat} (h : Filled w n Z bi be wr k) (hk : k < n) (hbi : w.heap.size < bi) (hbe : bi < be) (D : Array Value) (hD : D[0]? = some (.pointer (ptrOf w.heap.size (Z k))))
    (w' : World) (hw : w' = ((wr.setCell ⟨bi, k, none⟩ (.int .i64 ((Z k : Int) % 9))).setCell ⟨be, k, none⟩ (.pointer (some ⟨wr.heap.size, 0, none⟩))).alloc (.cells D 49)) : Filled w n Z bi be w' (k + 1) := by
  obtain ⟨I, E, eb, hI, hIs, hIc, hE, hEs, hEc, ⟨pc, pt, hp⟩, hB⟩ := h
  have lI := lt_of_block hI
  have lE := lt_of_block hE
  have lP := lt_of_block hp
  have key : ∀ b, b < wr.heap.size → b ≠ bi → b ≠ be → w'.heap[b]? = wr.heap[b]? := fun b h1 h2 h3 => by
    rw [hw, Below.heap_alloc _ _ _ (by simpa [World.setCell] using h1), Below.heap_setCell _ _ _ _ (by simpa using h3), Below.heap_setCell _ _ _ _ (by simpa using h2)]
  have hI' : w'.heap[bi]? = some (.cells (I.setIfInBounds k (.int .i64 ((Z k : Int) % 9))) 3 (0, 0)) := by
    rw [hw, Below.heap_alloc _ _ _ (by simpa [World.setCell] using lI), Below.heap_setCell _ _ _ _ (by simp; omega)]
    exact heap_setCell_at _ hI
  have hE' : w'.heap[be]? = some (.cells (E.setIfInBounds k (.pointer (some ⟨wr.heap.size, 0, none⟩))) 41 (0, 0)) := by
    rw [hw, Below.heap_alloc _ _ _ (by simpa [World.setCell] using lE)]
    exact heap_setCell_at _ (by rw [Below.heap_setCell _ _ _ _ (by simp; omega)]; exact hE)
  have hN : w'.heap[wr.heap.size]? = some (.cells D 49 (0, 0)) := by
    have := heap_alloc_new ((wr.setCell ⟨bi, k, none⟩ (.int .i64 ((Z k : Int) % 9))).setCell ⟨be, k, none⟩ (.pointer (some ⟨wr.heap.size, 0, none⟩))) (.cells D 49)
    rw [← hw] at this
    simpa [World.setCell] using this
  refine ⟨_, _, fun j => if j = k then wr.heap.size else eb j, hI', by simpa using hIs, fun j hj => ?_, hE', by simpa using hEs, fun j hj => ?_, ⟨pc, pt, ?_⟩, ?_⟩
  · by_cases hjk : j = k
    · subst hjk; rw [Array.getElem?_setIfInBounds, if_pos rfl, if_pos (by omega)]
    · rw [Array.getElem?_setIfInBounds, if_neg (by omega)]; exact hIc j (by omega)
  · by_cases hjk : j = k
    · subst hjk
      simp only [if_true]
      exact ⟨by rw [Array.getElem?_setIfInBounds, if_pos rfl, if_pos (by omega)], by omega, D, hN, hD⟩
    · simp only [if_neg hjk]
      obtain ⟨e1, e2, D', e3, e4⟩ := hEc j (by omega)
      exact ⟨by rw [Array.getElem?_setIfInBounds, if_neg (by omega)]; exact e1, e2, D', (key _ (lt_of_block e3) (by omega) (by omega)).trans e3, e4⟩
  · exact (key _ lP (by omega) (by omega)).trans hp
  · rw [hw]
    exact ((hB.setCell (p := ⟨bi, k, none⟩) (by simp; omega) _).setCell (p := ⟨be, k, none⟩) (by simp; omega) _).alloc (by simpa [World.setCell] using hB.size) _

set_option maxRecDepth 100000 in
set_option maxHeartbeats 800000 in
theorem law (w : World) (a0 : Option Addr) (n cp b off q : Nat) (Z : Nat → Nat) (hn63 : n ≤ maxLen)
    (hA : 0 < n → a0 = some ⟨b, off, none⟩) (hlb : 0 < n → b < w.heap.size) (hZ : ∀ i, i < n → w.cell? ⟨b, off + i, none⟩ = some (.int .u8 (Z i))) (hZb : ∀ i, i < n → Z i ≤ 255) (hq : q ≤ 255) :
    Calls Yba.prog 3 #[.slice a0 n cp, .int .u8 q] w fun e w' => e = .returned (.bool true) ∧ Below w.heap.size w w' := by
  unfold maxLen at hn63
  by_cases hn : n ≤ 1024
  case neg =>
    go_enter Yba.func3, Yba.ntmps3
    go_wp2
    go_ret
    exact ⟨rfl, Below.refl _ _⟩
  clear hn63
  obtain ⟨i0, hi, hz0, hz1, hz2⟩ := info_parts info3
  obtain ⟨j0, hj, hjz, hj1, hj2⟩ := info_parts info41
  obtain ⟨pool, hpool, hz38⟩ := zero38
  go_enter Yba.func3, Yba.ntmps3
  go_wp2_with (at_make; refine wpList_make_full _ rfl _ _ 39 rfl (w.heap.size + 1) 3 i0 _ 1 Yba.underlying39 hi hz0 hz1 _ _ _ _ n rfl rfl rfl rfl ?b1 ?b2 ?b3 ?_)
  case b1 => first | omega | (rw [hz2]; omega)
  case b2 => unfold maxLen; omega
  case b3 => simp
  intro w1 hown hgrow
  obtain ⟨I0, hI0, hI0s⟩ : ∃ G, w1.heap[w.heap.size + 1]? = some (.cells G 3 (0, 0)) ∧ G.size = n := by
    rcases hown.2 with ⟨hv, _⟩ | ⟨g, cap, cur, hv, _, hh, _, _, hs, _⟩
    · cases hv
    · cases hv
      exact ⟨cur, hh, by omega⟩
  have hp1 : w1.heap[w.heap.size]? = some (.cells pool 38 (0, 0)) := (hgrow.block _ (by simp) (by simp)).trans (heap_alloc_new w _)
  have hb1 : Below w.heap.size w w1 := ((Below.refl _ _).alloc (Nat.le_refl _) _).grown hgrow (by simp) (by intro k hk; cases hk)
  have hs1 := lt_of_block hI0
  have HH := And.intro hI0 hp1
  replace HH : Hid _ := HH
  clear hown hgrow hI0 hp1
  go_wp2_with (at_make; refine wpList_make_full _ rfl _ _ 40 rfl w1.heap.size 41 j0 _ 1 Yba.underlying40 hj hjz hj1 _ _ _ _ n rfl rfl rfl rfl ?b4 ?b5 (Nat.le_refl _) ?_)
  case b4 => first | omega | (rw [hj2]; omega)
  case b5 => unfold maxLen; omega
  intro w2 hown hgrow
  obtain ⟨E0, hE0, hE0s⟩ : ∃ G, w2.heap[w1.heap.size]? = some (.cells G 41 (0, 0)) ∧ G.size = n := by
    rcases hown.2 with ⟨hv, _⟩ | ⟨g, cap, cur, hv, _, hh, _, _, hs, _⟩
    · cases hv
    · cases hv
      exact ⟨cur, hh, by omega⟩
  have R0 : Filled w n Z (w.heap.size + 1) w1.heap.size w2 0 :=
    ⟨I0, E0, fun _ => 0, (hgrow.block _ hs1 (by simp)).trans HH.out.1, hI0s, fun j hj => absurd hj (Nat.not_lt_zero _), hE0, hE0s, fun j hj => absurd hj (Nat.not_lt_zero _),
      ⟨pool, 38, (hgrow.block _ (by omega) (by simp)).trans HH.out.2⟩, hb1.grown hgrow hb1.size (by intro k hk; cases hk)⟩
  obtain ⟨be, hbe⟩ : ∃ be, be = w1.heap.size := ⟨_, rfl⟩
  rw [← hbe] at R0 hs1 ⊢
  clear hown hgrow hE0 hE0s HH hb1 hbe
  go_wp2
  go_loopw [28] (fun i wx => ∃ k : Nat, k ≤ n ∧ i = .int .i64 k ∧ Filled w n Z (w.heap.size + 1) be wx k) (fun i _ => n - (intOf i).toNat)
  case atStart => exact ⟨0, Nat.zero_le _, rfl, R0⟩
  case round =>
    clear R0
    obtain ⟨k, hk, rfl, R⟩ := hrel
    by_cases hlt : k < n
    · have HR : Hid _ := R
      obtain ⟨I, E, eb, hI, hIs, hIc, hE, hEs, hEc, hpc, hB⟩ := R
      have lI := lt_of_block hI
      have lE := lt_of_block hE
      have d0 : wr.cell? ⟨b, off + k, none⟩ = _ := (hB.cell (hlb (by omega))).trans (hZ k hlt)
      have hZk := hZb k hlt
      have e1 := cellB (o := k) hI (Array.getElem?_eq_getElem (by omega))
      have e2 : wr.frozen? ⟨w.heap.size + 1, k, none⟩ = false := freeB hI
      have e3 := cellB (o := k) hE (Array.getElem?_eq_getElem (by omega))
      have e4 : wr.frozen? ⟨be, k, none⟩ = false := freeB hE
      obtain rfl := hA (by omega)
      clear hI hE hB hIc hEc hpc
      by_cases h8 : Z k % 9 < 8
      · have h8' : (Z k : Int) % 9 < 8 := by omega
        go_wp2
        go_roundw
        case rel => exact ⟨k + 1, by omega, by go_num, filled_step HR.out hlt (by omega) hs1 _ (by simp [ptrOf, h8]) _ rfl⟩
        case measure => simp [intOf]; omega
      · have h8' : ¬ (Z k : Int) % 9 < 8 := by omega
        go_wp2
        go_roundw
        case rel => exact ⟨k + 1, by omega, by go_num, filled_step HR.out hlt (by omega) hs1 _ (by simp [ptrOf, h8]) _ rfl⟩
        case measure => simp [intOf]; omega
    · obtain rfl : n = k := by omega
      obtain ⟨I, E, eb, hI, hIs, hIc, hE, hEs, hEc, ⟨pc, pt, hpc⟩, hB⟩ := R
      have lI := lt_of_block hI
      have lE := lt_of_block hE
      have lP := lt_of_block hpc
      obtain ⟨x, hx⟩ : ∃ x, x = ptrOf w.heap.size q := ⟨_, rfl⟩
      have HH := And.intro hI (And.intro hE (And.intro hpc (And.intro hB hx)))
      replace HH : Hid _ := HH
      clear hI hE hpc hB hx
      have fin : ∀ (Lc : Array Value), Lc[1]? = some (.slice (some ⟨be, 0, none⟩) n n) →
          Calls Yba.prog 4 #[.pointer (some ⟨wr.heap.size, 0, none⟩), .pointer x] (wr.alloc (.cells Lc 58)) fun e w' =>
            ∃ g : Option Addr, e = .returned (.pointer g) ∧ Hid (g = (firstP (fun i => decide (Z i % 9 = q % 9)) n).map fun i => ⟨eb i, 0, none⟩) ∧ w' = wr.alloc (.cells Lc 58) := by
        intro Lc hLc
        obtain ⟨hI, hE, hpc, hB, hx⟩ := HH.out
        have old : ∀ b, b < wr.heap.size → (wr.alloc (.cells Lc 58)).heap[b]? = wr.heap[b]? := fun b hb => Below.heap_alloc _ _ _ hb
        have hptr : ∀ m a, ptrOf w.heap.size m = some a → isCells (wr.alloc (.cells Lc 58)) a.block := by
          intro m a ha
          unfold ptrOf at ha
          split at ha
          · cases ha; exact ⟨pc, pt, (old _ lP).trans hpc⟩
          · cases ha
        refine (of_any (wr.alloc (.cells Lc 58)) wr.heap.size be n Lc E eb (fun i => ptrOf w.heap.size (Z i)) x (heap_alloc_new _ _) hLc ((old _ lE).trans hE) hn (fun i hi => (hEc i hi).1) ?_ (fun i hi a ha => hptr _ a ha) (fun a ha => hptr q a (by rw [← hx]; exact ha))).mono ?_
        · intro i hi
          obtain ⟨_, _, D, h3, h4⟩ := hEc i hi
          exact cellB ((old _ (lt_of_block h3)).trans h3) h4
        · rintro e w' ⟨rfl, rfl⟩
          refine ⟨_, rfl, ?_, rfl⟩
          show _ = _
          have : (fun i => decide (ptrOf w.heap.size (Z i) = x)) = fun i => decide (Z i % 9 = q % 9) := by
            funext i
            rw [hx, Bool.eq_iff_iff]
            simp [ptrOf_inj]
          rw [this]
      have hxq : (q % 9 < 8 → x = some ⟨w.heap.size, q % 9 * 17, none⟩) ∧ (¬ q % 9 < 8 → x = none) := by
        rw [HH.out.2.2.2.2]; unfold ptrOf
        exact ⟨fun h => by rw [if_pos h], fun h => by rw [if_neg h]⟩
      have ceq : ∀ Lc k, k < n → ∀ g : Option Addr, Hid (g = (firstP (fun i => decide (Z i % 9 = q % 9)) n).map fun i => ⟨eb i, 0, none⟩) → firstP (fun i => decide (Z i % 9 = q % 9)) k = none → Z k % 9 = q % 9 →
          (binOp .eql 41 (.pointer g) (.pointer (some ⟨eb k, 0, none⟩))).run Yba.prog (wr.alloc (.cells Lc 58)) = .ok (.bool true) (wr.alloc (.cells Lc 58)) := by
        intro Lc k hk g hg h0 hkq
        obtain ⟨j, hj, _⟩ := Option.map_eq_some_iff.1 info49
        rw [firstP_hit h0 (by simp [hkq]) hk] at hg
        rw [hg.out]
        exact run_eql_ptr_same _ _ Yba.underlying41 hj
      obtain ⟨hI, hE, hpc, hB, hx⟩ := HH.out
      have cI := fun j (hj : j < n) => cellB hI (hIc j hj)
      have cE := fun j (hj : j < n) => cellB hE (hEc j hj).1
      have HB : Hid _ := hB
      clear hI hE hpc hB hx HH hIc hEc
      have hx2 : (q % 9 < 8 ∧ x = some ⟨w.heap.size, q % 9 * 17, none⟩) ∨ (¬ q % 9 < 8 ∧ x = none) := by
        by_cases h8 : q % 9 < 8
        · exact .inl ⟨h8, hxq.1 h8⟩
        · exact .inr ⟨h8, hxq.2 h8⟩
      clear hxq
      rcases hx2 with ⟨h8, rfl⟩ | ⟨h8, rfl⟩
      all_goals
        go_wp2_with (go_at_call 4; refine (fin _ rfl).mono ?_; rintro e w' ⟨g, rfl, hg, rfl⟩)
        clear fin
        go_loop [77] (fun i => ∃ k : Nat, k ≤ n ∧ i = .int .i64 k ∧ firstP (fun i => decide (Z i % 9 = q % 9)) k = none) (fun i => n - (intOf i).toNat)
        case atStart => exact ⟨0, Nat.zero_le _, rfl, rfl⟩
        case round =>
          obtain ⟨k, hk, rfl, h0⟩ := hrel
          have HF : Hid _ := h0
          clear h0
          by_cases hlt : k < n
          · have d1 := cI k hlt
            have d2 := cE k hlt
            by_cases hc : Z k % 9 = q % 9
            · have hbb : ((Z k : Int) % 9 == (q : Int) % 9) = true := by rw [beq_iff_eq]; omega
              have hq := fun Lc => ceq Lc k hlt g hg HF.out hc
              clear hc ceq cI cE
              go_wp2
              go_ret
              exact ⟨rfl, HB.out.alloc (by have := HB.out.size; omega) _⟩
            · have hbb : ((Z k : Int) % 9 == (q : Int) % 9) = false := by rw [beq_eq_false_iff_ne]; omega
              have HC : Hid _ := hc
              clear hc ceq cI cE
              go_wp2
              go_round
              case rel => exact ⟨k + 1, by omega, by go_num, by simp only [firstP]; rw [HF.out]; simp; exact HC.out⟩
              case measure => simp [intOf]; omega
          · obtain rfl : n = k := by omega
            obtain rfl : g = none := by rw [hg.out, HF.out]; rfl
            clear ceq cI cE
            go_wp2
            go_ret
            exact ⟨rfl, HB.out.alloc (by have := HB.out.size; omega) _⟩
end Go.Proofs.Ybulkbewo
