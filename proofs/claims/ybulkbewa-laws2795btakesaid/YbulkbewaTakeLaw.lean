/- The law on take: the walk of the law itself, out of take's contract. -/
import Derived.Test.YbulkbewaTake
import Derived.Deep.QuietTactic
import Derived.BigQuiet
namespace Go.Proofs.Ybulkbewa
open Go.RowKit

/-- the cells of the barriers that the first k bytes of Z make -/
def bar (Z : Nat → Int) : Nat → List Value
  | 0 => []
  | k + 1 => bar Z k ++ ent (Z k) k

theorem bar_len (Z : Nat → Int) : ∀ k, (bar Z k).length = k * 4
  | 0 => rfl
  | k + 1 => by rw [bar, List.length_append, bar_len Z k]; simp [ent]; omega

theorem bar_one (Z : Nat → Int) : ∀ k, ∀ u ∈ bar Z k, u.oneCell' = true
  | 0 => by simp [bar]
  | k + 1 => by
    intro u hu
    rw [bar, List.mem_append] at hu
    rcases hu with hu | hu
    · exact bar_one Z k u hu
    · exact ent_one _ _ u hu

/-- what the law is told of its first argument: n groups at ⟨b, off⟩ -/
structure GsIn (w : World) (a0 : Option Addr) (n b off : Nat) (GA : Nat → Option Addr) (GL GC : Nat → Nat) (GM : Nat → Int) (gb go : Nat → Nat) (GZ : Nat → Nat → Int) : Prop where
  addr : 0 < n → a0 = some ⟨b, off, none⟩
  c0 : ∀ i, i < n → w.cell? ⟨b, off + i * 2, none⟩ = some (.slice (GA i) (GL i) (GC i))
  c1 : ∀ i, i < n → w.cell? ⟨b, off + i * 2 + 1, none⟩ = some (.int .u8 (GM i))
  baddr : ∀ i, i < n → 0 < GL i → GA i = some ⟨gb i, go i, none⟩
  cz : ∀ i, i < n → ∀ k, k < GL i → w.cell? ⟨gb i, go i + k, none⟩ = some (.int .u8 (GZ i k))
  bM : ∀ i, i < n → 0 ≤ GM i ∧ GM i ≤ 255
  bZ : ∀ i, i < n → ∀ k, k < GL i → 0 ≤ GZ i k ∧ GZ i k ≤ 255
  lt : 0 < n → b < w.heap.size
  lts : ∀ i, i < n → 0 < GL i → gb i < w.heap.size

/-- what it is told of the second -/
structure AtIn (w : World) (a1 : Option Addr) (m b off : Nat) (Z : Nat → Int) : Prop where
  addr : 0 < m → a1 = some ⟨b, off, none⟩
  c : ∀ i, i < m → w.cell? ⟨b, off + i, none⟩ = some (.int .i8 (Z i))
  bZ : ∀ i, i < m → -128 ≤ Z i ∧ Z i ≤ 127
  lt : 0 < m → b < w.heap.size

/-- the groups that the law lays, the first k of them filled -/
def Grps (w : World) (n : Nat) (GL : Nat → Nat) (GM : Nat → Int) (GZ : Nat → Nat → Int) (wr : World) (k : Nat) : Prop :=
  ∃ (Ad : Nat → Option Addr) (Cp : Nat → Nat) (G : Array Value), wr.heap[w.heap.size]? = some (.cells G 38 (0, 0)) ∧ G.size = 5 * n ∧
    (∀ j, j < k → G[j*5]? = some (.slice (Ad j) (GL j) (Cp j)) ∧ G[j*5+1]? = some (.int .i64 (GM j)) ∧ G[j*5+2]? = some (.int .u64 (1000 + j)) ∧ G[j*5+3]? = some (.int .u8 0) ∧ G[j*5+4]? = some (.slice none 0 0)) ∧
    (∀ j, j < k → wr.ownsRow (w.heap.size + 1) 36 4 (.slice (Ad j) (GL j) (Cp j)) (GL j) (bar (GZ j) (GL j))) ∧ Below w.heap.size w wr

theorem Grps.below {w : World} {n : Nat} {GL : Nat → Nat} {GM : Nat → Int} {GZ : Nat → Nat → Int} {wr : World} {k : Nat} (h : Grps w n GL GM GZ wr k) : Below w.heap.size w wr := by
  obtain ⟨_, _, _, _, _, _, _, h⟩ := h; exact h

/-- what is owned below a mark stays owned while nothing below it turns -/
theorem ownsRow_below {w w' : World} {B base : Nat} {e : TypeId} {size : Nat} {v : Value} {n : Nat} {xs : List Value} (h : w.ownsRow base e size v n xs) (hb : Below B w w') (hv : ∀ g, v.ownBlock = some g → g < B) : w'.ownsRow base e size v n xs := by
  obtain ⟨h1, h2⟩ := h
  refine ⟨h1, ?_⟩
  rcases h2 with h2 | ⟨g, cap, cur, hv', hg, hh, r⟩
  · exact Or.inl h2
  · exact Or.inr ⟨g, cap, cur, hv', hg, (hb.block g (hv g (by rw [hv']; rfl))).trans hh, r⟩

theorem ownsRow_kept {w w' : World} {bs : Nat → Prop} {base : Nat} {e : TypeId} {size : Nat} {v : Value} {n : Nat} {xs : List Value} (h : w.ownsRow base e size v n xs) (hb : Kept bs w w') (hv : ∀ g, v.ownBlock = some g → ¬ bs g) : w'.ownsRow base e size v n xs := by
  obtain ⟨h1, h2⟩ := h
  refine ⟨h1, ?_⟩
  rcases h2 with h2 | ⟨g, cap, cur, hv', hg, hh, r⟩
  · exact Or.inl h2
  · exact Or.inr ⟨g, cap, cur, hv', hg, (hb.block g (lt_of_block hh) (hv g (by rw [hv']; rfl))).trans hh, r⟩

theorem ownsRow_base {w : World} {base base' : Nat} {e : TypeId} {size : Nat} {v : Value} {n : Nat} {xs : List Value} (h : w.ownsRow base e size v n xs) (hb : base' ≤ base) : w.ownsRow base' e size v n xs := by
  obtain ⟨h1, h2⟩ := h
  refine ⟨h1, ?_⟩
  rcases h2 with h2 | ⟨g, cap, cur, hv', hg, r⟩
  · exact Or.inl h2
  · exact Or.inr ⟨g, cap, cur, hv', by omega, r⟩

theorem info3 : (Yba.prog.info? 3).map (fun i => (i.zero, i.size, i.bytes)) = some (some (.int .i64 0), 1, 8) := by kernel_rfl

theorem lt_of_block_cell {w : World} {b o : Nat} {v : Value} (h : w.cell? ⟨b, o, none⟩ = some v) : b < w.heap.size := World.block_lt_of_cell? w _ h

theorem bar_at (Z : Nat → Int) (r : Nat) (hr : r < 4) {k : Nat} : ∀ {m : Nat}, k < m → (bar Z m)[k * 4 + r]? = (ent (Z k) k)[r]?
  | m + 1, h => by
    rw [bar]
    by_cases hk : k = m
    · subst hk
      rw [List.getElem?_append_right (by rw [bar_len]; omega), bar_len]
      congr 1
      omega
    · rw [List.getElem?_append_left (by rw [bar_len]; omega)]
      exact bar_at Z r hr (by omega)

theorem ents_len' (S Q : Nat → Int) (GZ : Nat → Nat → Int) (L : Nat → Nat) (k : Nat) : (ents S Q (fun j => bar (GZ j) (L j)) k).length = tot L k * 4 :=
  ents_len S Q _ L k (fun _ _ => bar_len _ _) k (Nat.le_refl _)

theorem ents_bar (S Q : Nat → Int) (GZ : Nat → Nat → Int) (L : Nat → Nat) {i k : Nat} {n : Nat} (hi : i < n) (hk : k < L i) (r : Nat) (hr : r < 4) :
    (ents S Q (fun j => bar (GZ j) (L j)) n)[(tot L i + k) * 4 + r]? = (ent (GZ i k) k)[r]? := by
  induction n with
  | zero => omega
  | succ n ih =>
    rw [ents]
    by_cases h : i = n
    · subst h
      rw [List.append_assoc, List.getElem?_append_right (by rw [ents_len']; omega), ents_len', List.getElem?_append_left (by rw [bar_len]; omega)]
      rw [show (tot L i + k) * 4 + r - tot L i * 4 = k * 4 + r by omega]
      exact bar_at _ r hr hk
    · have hm := tot_mono L (show i + 1 ≤ n by omega)
      simp only [tot] at hm
      rw [List.append_assoc, List.getElem?_append_left (by rw [ents_len']; omega)]
      exact ih (by omega)

theorem ents_msg (S Q : Nat → Int) (GZ : Nat → Nat → Int) (L : Nat → Nat) {i : Nat} {n : Nat} (hi : i < n) (r : Nat) (hr : r < 4) :
    (ents S Q (fun j => bar (GZ j) (L j)) n)[(tot L i + L i) * 4 + r]? = (ent (S i) (Q i))[r]? := by
  induction n with
  | zero => omega
  | succ n ih =>
    rw [ents]
    by_cases h : i = n
    · subst h
      rw [List.getElem?_append_right (by rw [List.length_append, ents_len', bar_len]; omega), List.length_append, ents_len', bar_len]
      congr 1
      omega
    · have hm := tot_mono L (show i + 1 ≤ n by omega)
      simp only [tot] at hm
      rw [List.append_assoc, List.getElem?_append_left (by rw [ents_len']; omega)]
      exact ih (by omega)

theorem grps_step {w : World} {n : Nat} {GL : Nat → Nat} {GM : Nat → Int} {GZ : Nat → Nat → Int} {wo wr : World} {k : Nat} (hk : k < n) (R : Grps w n GL GM GZ wo k) {A : Option Addr} {c : Nat}
    (hown : wr.ownsRow wo.heap.size 36 4 (.slice A (GL k) c) (GL k) (bar (GZ k) (GL k))) (hb : Below wo.heap.size wo wr) (w' : World)
    (hw : w' = ((((wr.setCell ⟨w.heap.size, k * 5, none⟩ (.slice A (GL k) c)).setCell ⟨w.heap.size, k * 5 + 1, none⟩ (.int .i64 (GM k))).setCell ⟨w.heap.size, k * 5 + 2, none⟩ (.int .u64 (1000 + k))).setCell ⟨w.heap.size, k * 5 + 3, none⟩ (.int .u8 0)).setCell ⟨w.heap.size, k * 5 + 4, none⟩ (.slice none 0 0)) :
    Grps w n GL GM GZ w' (k + 1) := by
  obtain ⟨Ad, Cp, G, hG, hGs, hGc, hGo, hBw⟩ := R
  have hlt := lt_of_block hG
  have hG' : wr.heap[w.heap.size]? = some (.cells G 38 (0, 0)) := (hb.block _ hlt).trans hG
  have h5 := heap_setCell_at (o := k * 5 + 4) (.slice none 0 0) (heap_setCell_at (o := k * 5 + 3) (.int .u8 0) (heap_setCell_at (o := k * 5 + 2) (.int .u64 (1000 + k)) (heap_setCell_at (o := k * 5 + 1) (.int .i64 (GM k)) (heap_setCell_at (o := k * 5) (.slice A (GL k) c) hG'))))
  rw [← hw] at h5
  have hkw : Kept (fun b => b = w.heap.size) wr w' := by
    rw [hw]
    exact (((((Kept.refl (fun b => b = w.heap.size) wr).setCell (p := ⟨w.heap.size, k * 5, none⟩) (Or.inl rfl) _).setCell (p := ⟨w.heap.size, k * 5 + 1, none⟩) (Or.inl rfl) _).setCell (p := ⟨w.heap.size, k * 5 + 2, none⟩) (Or.inl rfl) _).setCell (p := ⟨w.heap.size, k * 5 + 3, none⟩) (Or.inl rfl) _).setCell (p := ⟨w.heap.size, k * 5 + 4, none⟩) (Or.inl rfl) _
  refine ⟨fun j => if j = k then A else Ad j, fun j => if j = k then c else Cp j, _, h5, by simpa using hGs, fun j hj => ?_, fun j hj => ?_, ?_⟩
  · by_cases hjk : j = k
    · subst hjk
      simp only [if_true]
      refine ⟨?_, ?_, ?_, ?_, ?_⟩ <;> simp only [Array.getElem?_setIfInBounds, Array.size_setIfInBounds] <;> repeat (first | rfl | rw [if_pos trivial] | rw [if_pos rfl] | rw [if_neg (by omega)] | rw [if_pos (by omega)])
    · obtain ⟨q0, q1, q2, q3, q4⟩ := hGc j (by omega)
      simp only [if_neg hjk]
      refine ⟨?_, ?_, ?_, ?_, ?_⟩ <;> simp only [Array.getElem?_setIfInBounds] <;> rw [if_neg (by omega), if_neg (by omega), if_neg (by omega), if_neg (by omega), if_neg (by omega)] <;> assumption
  · by_cases hjk : j = k
    · subst hjk
      simp only [if_true]
      have h := ownsRow_base hown (show w.heap.size + 1 ≤ wo.heap.size by omega)
      exact ownsRow_kept h hkw (fun g hg => by have := hown.lt g hg; omega)
    · simp only [if_neg hjk]
      have h := hGo j (by omega)
      have h' := ownsRow_below h hb (fun g hg => (h.lt g hg).2)
      exact ownsRow_kept h' hkw (fun g hg => by have := h.lt g hg; omega)
  · exact (hBw.trans (hb.mono (by omega))).trans (hkw.below (by have := hb.size; omega) (fun k hk => by omega))

set_option maxRecDepth 100000 in
set_option maxHeartbeats 800000 in
theorem btake (w : World) (a0 a1 : Option Addr) (n cp0 m cp1 b off b1 off1 : Nat) (GA : Nat → Option Addr) (GL GC : Nat → Nat) (GM : Nat → Int) (gb go : Nat → Nat) (GZ : Nat → Nat → Int) (Zt : Nat → Int)
    (hgs : GsIn w a0 n b off GA GL GC GM gb go GZ) (hat : AtIn w a1 m b1 off1 Zt) (hn63 : n ≤ maxLen) (hm63 : m ≤ maxLen) (hl63 : ∀ i, i < n → GL i ≤ maxLen) :
    Calls Yba.prog 5 #[.slice a0 n cp0, .slice a1 m cp1] w fun e w' => e = .returned (.bool true) ∧ Below w.heap.size w w' := by
  unfold maxLen at hn63 hm63 hl63
  by_cases hn : n ≤ 256
  case neg =>
    go_enter Yba.func5, Yba.ntmps5
    go_wp2
    go_ret
    exact ⟨rfl, Below.refl _ _⟩
  by_cases hm : m ≤ 256
  case neg =>
    go_enter Yba.func5, Yba.ntmps5
    go_wp2
    go_ret
    exact ⟨rfl, Below.refl _ _⟩
  clear hn63 hm63
  obtain ⟨i0, hi, hz0, hz1, hz2⟩ := info_parts info36
  obtain ⟨j0, hj, hjz, hj1, hj2⟩ := info_parts info38
  obtain ⟨q0, hq, hqz, hq1, hq2⟩ := info_parts info3
  go_enter Yba.func5, Yba.ntmps5
  go_wp2
  go_loop [33] (fun i => ∃ k : Nat, k ≤ n ∧ i = .int .i64 k ∧ ∀ j, j < k → GL j ≤ 256) (fun i => n - (intOf i).toNat)
  case atStart => exact ⟨0, Nat.zero_le _, rfl, fun j hj => absurd hj (Nat.not_lt_zero _)⟩
  case round =>
    obtain ⟨k, hk, rfl, hGL⟩ := hrel
    by_cases hlt : k < n
    · have d0 := hgs.c0 k hlt
      obtain rfl := hgs.addr (by omega)
      have hl := hl63 k hlt
      by_cases h256 : GL k ≤ 256
      · go_wp2
        go_round
        case rel =>
          refine ⟨k + 1, by omega, by go_num, fun j hj => ?_⟩
          by_cases hjk : j = k
          · subst hjk; exact h256
          · exact hGL j (by omega)
        case measure => simp [intOf]; omega
      · go_wp2
        go_ret
        exact ⟨rfl, Below.refl _ _⟩
    · obtain rfl : n = k := by omega
      clear hl63
      go_wp2_with (at_make; refine wpList_make_full _ rfl _ _ 31 rfl w.heap.size 38 j0 _ 5 Yba.underlying31 hj hjz hj1 _ _ _ _ n rfl rfl rfl rfl ?b1 ?b2 (Nat.le_refl _) ?_)
      case b1 => first | omega | (rw [hj2]; omega)
      case b2 => unfold maxLen; omega
      intro w1 hown hgrow
      obtain ⟨G0, hG0, hG0s⟩ : ∃ G, w1.heap[w.heap.size]? = some (.cells G 38 (0, 0)) ∧ G.size = 5 * n := by
        rcases hown.2 with ⟨hv, _⟩ | ⟨g, cap, cur, hv, _, hh, _, _, hs, _⟩
        · cases hv
        · cases hv
          exact ⟨cur, hh, by omega⟩
      have hb1 : Below w.heap.size w w1 := (Below.refl _ _).grown hgrow (Nat.le_refl _) (by intro k hk; cases hk)
      have hs1 : w.heap.size < w1.heap.size := lt_of_block hG0
      have R0 : Grps w n GL GM GZ w1 0 := ⟨fun _ => none, fun _ => 0, G0, hG0, hG0s, fun j hj => absurd hj (Nat.not_lt_zero _), fun j hj => absurd hj (Nat.not_lt_zero _), hb1⟩
      clear hown hgrow hG0 hG0s hb1 hs1
      go_wp2
      go_loopw [49] (fun i wx => ∃ k : Nat, k ≤ n ∧ i = .int .i64 k ∧ Grps w n GL GM GZ wx k) (fun i _ => n - (intOf i).toNat)
      case atStart => exact ⟨0, Nat.zero_le _, rfl, R0⟩
      case round =>
        obtain ⟨wo, rfl⟩ : ∃ wo : World, wo = wr := ⟨_, rfl⟩
        clear R0
        obtain ⟨k, hk, rfl, R⟩ := hrel
        by_cases hlt : k < n
        · have hGk := hGL k hlt
          obtain ⟨bs1, bs2⟩ := hgs.bM k hlt
          have hbw := R.below
          have d1 : wo.cell? ⟨b, off + k * 2 + 1, none⟩ = _ := (hbw.cell (hgs.lt (by omega))).trans (hgs.c1 k hlt)
          obtain ⟨x, d0, hx⟩ : ∃ x, wo.cell? ⟨b, off + k * 2, none⟩ = some (.slice x (GL k) (GC k)) ∧ (0 < GL k → x = some ⟨gb k, go k, none⟩) :=
            ⟨GA k, (hbw.cell (hgs.lt (by omega))).trans (hgs.c0 k hlt), hgs.baddr k hlt⟩
          obtain rfl := hgs.addr (by omega)
          go_wp2
          go_loopw [8, 58] (fun v i wx => ∃ k2 : Nat, k2 ≤ GL k ∧ i = .int .i64 k2 ∧ wx.ownsRow wo.heap.size 36 4 v k2 (bar (GZ k) k2) ∧ Below wo.heap.size wo wx) (fun _ i _ => GL k - (intOf i).toNat)
          case atStart => exact ⟨0, Nat.zero_le _, rfl, World.ownsRow_nil _ _ _ _, Below.refl _ _⟩
          case round =>
            obtain ⟨k2, hk2, rfl, hown, hb2⟩ := hrel
            have hs2 := hb2.size
            by_cases hlt2 : k2 < GL k
            · have d2 : wr.cell? ⟨gb k, go k + k2, none⟩ = _ := ((hbw.trans (hb2.mono hbw.size)).cell (hgs.lts k hlt (by omega))).trans (hgs.cz k hlt k2 hlt2)
              obtain ⟨bz1, bz2⟩ := hgs.bZ k hlt k2 hlt2
              obtain rfl := hx (by omega)
              go_wp2_with (at_builtin; refine wpList_append_own _ rfl (.tmp 63) (.tmp 69) 32 rfl wo.heap.size 36 i0 _ 4 48 Yba.underlying32 hi hz0 hz1 hz2 rfl (by decide) _ _ _ rfl (hown.alloc _) ⟨wr.heap.size, 0, none⟩ 1 1 (ent (GZ k k2) k2) rfl rfl ?c1 (ent_one _ _) ?c3 ?c4 ?c5 ?_)
              case c1 => first | exact (fun _ _ h => h) | exact cells_four _ _ _ _ _ _
              case c3 => unfold maxLen; omega
              case c4 => omega
              case c5 => first | omega | (simp; omega)
              intro v' w2 hown' hgrow' _
              have hb3 : Below wo.heap.size wo w2 := (hb2.alloc (by omega) _).grown hgrow' (by simp; omega) (fun q hq => (hown.lt q hq).1)
              clear hgrow' hown d2 hb2
              go_wp2
              go_roundw
              case rel => exact ⟨k2 + 1, by omega, by go_num, hown', hb3⟩
              case measure => simp [intOf]; omega
            · obtain rfl : k2 = GL k := by omega
              obtain ⟨A, c, hv⟩ : ∃ A c, u8 = .slice A (GL k) c := by
                rcases hown.2 with ⟨hv, h0⟩ | ⟨g, cap, cur, hv, _⟩
                · exact ⟨none, 0, by rw [hv, h0]⟩
                · exact ⟨_, _, hv⟩
              rw [hv] at hown ⊢
              have St := fun w' h => grps_step hlt R hown hb2 w' h
              obtain ⟨G, hG, hGs⟩ : ∃ G, wr.heap[w.heap.size]? = some (.cells G 38 (0, 0)) ∧ G.size = 5 * n := by
                obtain ⟨_, _, G, hG, hGs, _⟩ := R
                exact ⟨G, (hb2.block _ (lt_of_block hG)).trans hG, hGs⟩
              have s0 := cellB (o := k * 5) hG (Array.getElem?_eq_getElem (by omega))
              have s1 := cellB (o := k * 5 + 1) hG (Array.getElem?_eq_getElem (by omega))
              have s2 := cellB (o := k * 5 + 2) hG (Array.getElem?_eq_getElem (by omega))
              have s3 := cellB (o := k * 5 + 3) hG (Array.getElem?_eq_getElem (by omega))
              have s4 := cellB (o := k * 5 + 4) hG (Array.getElem?_eq_getElem (by omega))
              have z0 : wr.frozen? ⟨w.heap.size, k * 5, none⟩ = false := freeB hG
              have z1 : wr.frozen? ⟨w.heap.size, k * 5 + 1, none⟩ = false := freeB hG
              have z2 : wr.frozen? ⟨w.heap.size, k * 5 + 2, none⟩ = false := freeB hG
              have z3 : wr.frozen? ⟨w.heap.size, k * 5 + 3, none⟩ = false := freeB hG
              have z4 : wr.frozen? ⟨w.heap.size, k * 5 + 4, none⟩ = false := freeB hG
              have d3 : wr.cell? ⟨b, off + k * 2 + 1, none⟩ = _ := ((hbw.trans (hb2.mono hbw.size)).cell (hgs.lt (by omega))).trans (hgs.c1 k hlt)
              have H2 : Hid _ := hG
              clear hown hG hb2 d0 d1 R hv hx
              go_wp2
              go_roundw
              case rel => exact ⟨k + 1, by omega, by go_num, St _ rfl⟩
              case measure => simp [intOf]; omega
        · obtain rfl : n = k := by omega
          obtain ⟨Ad, Cp, G, hG, hGs, hGc, hGo, hBw⟩ := R
          have hlo := lt_of_block hG
          go_wp2_with (at_make; refine wpList_make_full _ rfl _ _ 39 rfl wo.heap.size 3 q0 _ 1 Yba.underlying39 hq hqz hq1 _ _ _ _ m rfl rfl rfl rfl ?b4 ?b5 (Nat.le_refl _) ?_)
          case b4 => first | omega | (rw [hq2]; omega)
          case b5 => unfold maxLen; omega
          intro w2 hown hgrow
          obtain ⟨A0, hA0, hA0s⟩ : ∃ G, w2.heap[wo.heap.size]? = some (.cells G 3 (0, 0)) ∧ G.size = m := by
            rcases hown.2 with ⟨hv, _⟩ | ⟨g, cap, cur, hv, _, hh, _, _, hs, _⟩
            · cases hv
            · cases hv
              exact ⟨cur, hh, by omega⟩
          have hb1 : Below wo.heap.size wo w2 := (Below.refl _ _).grown hgrow (Nat.le_refl _) (by intro k hk; cases hk)
          have hs1 : wo.heap.size < w2.heap.size := lt_of_block hA0
          clear hown hgrow
          go_wp2
          go_loopw [93] (fun i wx => ∃ (k : Nat) (A : Array Value), k ≤ m ∧ i = .int .i64 k ∧ wx.heap[wo.heap.size]? = some (.cells A 3 (0, 0)) ∧ A.size = m ∧ Below wo.heap.size wo wx) (fun i _ => m - (intOf i).toNat)
          case atStart => exact ⟨0, A0, Nat.zero_le _, rfl, hA0, hA0s, hb1⟩
          case round =>
            clear hA0 hA0s hb1 hs1
            obtain ⟨k, A, hk, rfl, hA, hAs, hb2⟩ := hrel
            by_cases hlt : k < m
            · obtain ⟨bz1, bz2⟩ := hat.bZ k hlt
              have d0 : wr.cell? ⟨b1, off1 + k, none⟩ = _ := ((hBw.trans (hb2.mono hBw.size)).cell (hat.lt (by omega))).trans (hat.c k hlt)
              have e2 := cellB (o := k) hA (Array.getElem?_eq_getElem (by omega))
              have e3 : wr.frozen? ⟨wo.heap.size, k, none⟩ = false := freeB hA
              have hA2 := heap_setCell_at (o := k) (.int .i64 (Zt k)) hA
              have hb3 := hb2.setCell (p := ⟨wo.heap.size, k, none⟩) (Nat.le_refl _) (.int .i64 (Zt k))
              have HH := And.intro hA2 hb3
              replace HH : Hid _ := HH
              have H1 : Hid _ := hG
              obtain rfl := hat.addr (by omega)
              clear hA2 hb3 hA hb2 hG hGc
              go_wp2
              go_roundw
              case rel => exact ⟨k + 1, _, by omega, by go_num, HH.out.1, by simpa using hAs, HH.out.2⟩
              case measure => simp [intOf]; omega
            · obtain rfl : m = k := by omega
              have hlr := lt_of_block hA
              have hG2 : wr.heap[w.heap.size]? = _ := (hb2.block _ hlo).trans hG
              have hBr : Below w.heap.size w wr := hBw.trans (hb2.mono hBw.size)
              have hOr : ∀ j, j < n → wr.ownsRow (w.heap.size + 1) 36 4 (.slice (Ad j) (GL j) (Cp j)) (GL j) (bar (GZ j) (GL j)) :=
                fun j hj => ownsRow_below (hGo j hj) hb2 (fun g hg => ((hGo j hj).lt g hg).2)
              clear hG hGo hb2 hBw
              have HA : Hid _ := hA
              have HG : Hid _ := hG2
              clear hA hG2
              go_wp2_with fail
              refine (take_any _ wr.heap.size w.heap.size wo.heap.size n m G A Ad GL Cp GM (fun j => 1000 + (j : Int)) (fun j => bar (GZ j) (GL j)) (heap_alloc_new _ _) ((Below.heap_alloc _ _ _ (by omega)).trans HG.out) hGs
                (fun i hi => (hGc i hi).1) (fun i hi => (hGc i hi).2.1) (fun i hi => (hGc i hi).2.2.1) (fun i hi => (hGc i hi).2.2.2.1) (fun i hi => (hGc i hi).2.2.2.2)
                (fun i _ => bar_len _ _) (fun i _ => bar_one _ _) ?xn ?xc ((Below.heap_alloc _ _ _ (by omega)).trans HA.out) hAs hn hm hGL).mono ?_
              case xn =>
                intro i hi h0
                rcases (hOr i hi).2 with ⟨hv, _⟩ | ⟨g, cap, cur, hv, _⟩
                · simp at hv; exact hv.2
                · rw [h0] at hv; cases hv
              case xc =>
                intro i hi ad had
                have ho := hOr i hi
                rcases ho.2 with ⟨hv, _⟩ | ⟨g, cap, cur, hv, _, hh, _⟩
                · rw [had] at hv; cases hv
                · have hag : ad = ⟨g, 0, none⟩ := by rw [had] at hv; cases hv; rfl
                  subst hag
                  have hg := lt_of_block hh
                  refine ⟨by simp; omega, fun j u hu => ?_⟩
                  have hb := Below.alloc (Below.refl wr.heap.size wr) (Nat.le_refl _) (.cells #[.slice (some ⟨w.heap.size, 0, none⟩) n n, .slice (some ⟨wo.heap.size, 0, none⟩) m m] 42)
                  have hc := ho.cells (g := g) (by rw [had]; rfl) j u hu
                  exact (hb.cell (by rw [Addr.add_lit]; exact hg)).trans hc
              rintro e wt ⟨ge, cur, A', rfl, hge, hEc, hcur, hFf, hZg, hAa, hA's, hA1, hkt⟩
              have hBt : Below w.heap.size w wt := (hBr.alloc (by omega) _).trans (hkt.below (by simp; omega) (fun k hk => by omega))
              have lE := lt_of_block hEc
              have lF := lt_of_block hFf
              have lZ := lt_of_block hZg
              have lA := lt_of_block hAa
              clear hkt HA HG hOr hBr hGc
              have HH := And.intro hEc (And.intro hFf (And.intro hZg hAa))
              replace HH : Hid _ := HH
              clear hEc hFf hZg hAa
              go_wp2
              have hcu : ∀ p, p < tot GL n * 4 → wt.cell? ⟨ge, p, none⟩ = (ents GM (fun j => 1000 + (j : Int)) (fun j => bar (GZ j) (GL j)) n)[p]? := by
                intro p hp
                rw [cell_of_row wt ge p cur 36 (0, 0) HH.out.1, ← hcur, List.getElem?_take, if_pos hp, Array.getElem?_toList]
              have hTn := tot_le GL n hGL n (Nat.le_refl _)
              have hnn : ∀ w, (binOp .neq 28 (.slice none 0 0) (.slice none 0 0)).run Yba.prog w = .ok (.bool false) w := fun w => run_neq_slice_nil_any w 28 5 none 0 0 0 0 Yba.underlying28
              clear hcur
              have HC : Hid _ := hcu
              clear hcu
              go_loopw [15, 111] (fun p i wx => ∃ k : Nat, k ≤ n ∧ i = .int .i64 k ∧ p = .int .i64 (tot GL k) ∧ Below wt.heap.size wt wx) (fun _ i _ => n - (intOf i).toNat)
              case atStart => exact ⟨0, Nat.zero_le _, rfl, rfl, Below.refl _ _⟩
              case round =>
                obtain ⟨wp, rfl⟩ : ∃ wp : World, wp = wr := ⟨_, rfl⟩
                obtain ⟨k, hk, rfl, rfl, hbp⟩ := hrel
                by_cases hlt : k < n
                · have hGk := hGL k hlt
                  have hTk := tot_mono GL (show k + 1 ≤ n from hlt)
                  simp only [tot] at hTk
                  obtain ⟨bs1, bs2⟩ := hgs.bM k hlt
                  have hbw : Below w.heap.size w wp := hBt.trans (hbp.mono hBt.size)
                  obtain ⟨x, d0, hx⟩ : ∃ x, wp.cell? ⟨b, off + k * 2, none⟩ = some (.slice x (GL k) (GC k)) ∧ (0 < GL k → x = some ⟨gb k, go k, none⟩) :=
                    ⟨GA k, (hbw.cell (hgs.lt (by omega))).trans (hgs.c0 k hlt), hgs.baddr k hlt⟩
                  obtain rfl := hgs.addr (by omega)
                  go_wp2
                  go_loopw [15, 120] (fun p i wx => ∃ k2 : Nat, k2 ≤ GL k ∧ i = .int .i64 k2 ∧ p = .int .i64 (tot GL k + k2) ∧ Below wt.heap.size wt wx) (fun _ i _ => GL k - (intOf i).toNat)
                  case atStart => exact ⟨0, Nat.zero_le _, rfl, by simp, hbp⟩
                  case round =>
                    obtain ⟨k2, hk2, rfl, rfl, hb2⟩ := hrel
                    have hs2 := hb2.size
                    by_cases hlt2 : k2 < GL k
                    · have hbv : Below w.heap.size w wr := hBt.trans (hb2.mono hBt.size)
                      have d2 : wr.cell? ⟨gb k, go k + k2, none⟩ = _ := (hbv.cell (hgs.lts k hlt (by omega))).trans (hgs.cz k hlt k2 hlt2)
                      obtain ⟨bz1, bz2⟩ := hgs.bZ k hlt k2 hlt2
                      obtain rfl := hx (by omega)
                      have e0 : wr.cell? ⟨ge, (tot GL k + k2) * 4, none⟩ = some (.int .i64 (GZ k k2)) := (hb2.cell (by exact lE)).trans ((HC.out _ (by omega)).trans (ents_bar GM _ GZ GL hlt hlt2 0 (by omega)))
                      have e1 : wr.cell? ⟨ge, (tot GL k + k2) * 4 + 1, none⟩ = some (.int .u64 k2) := (hb2.cell (by exact lE)).trans ((HC.out _ (by omega)).trans (ents_bar GM _ GZ GL hlt hlt2 1 (by omega)))
                      have e2 : wr.cell? ⟨ge, (tot GL k + k2) * 4 + 2, none⟩ = some (.int .u8 0) := (hb2.cell (by exact lE)).trans ((HC.out _ (by omega)).trans (ents_bar GM _ GZ GL hlt hlt2 2 (by omega)))
                      have e3 : wr.cell? ⟨ge, (tot GL k + k2) * 4 + 3, none⟩ = some (.slice none 0 0) := (hb2.cell (by exact lE)).trans ((HC.out _ (by omega)).trans (ents_bar GM _ GZ GL hlt hlt2 3 (by omega)))
                      have H4 : Hid _ := hb2
                      clear hb2 hbv hbw hbp d0
                      go_wp2
                      go_roundw
                      case rel => exact ⟨k2 + 1, by omega, by go_num, by go_num, H4.out.alloc (by omega) _⟩
                      case measure => simp [intOf]; omega
                    · obtain rfl : k2 = GL k := by omega
                      have hbv : Below w.heap.size w wr := hBt.trans (hb2.mono hBt.size)
                      have d1 : wr.cell? ⟨b, off + k * 2 + 1, none⟩ = _ := (hbv.cell (hgs.lt (by omega))).trans (hgs.c1 k hlt)
                      have e0 : wr.cell? ⟨ge, (tot GL k + GL k) * 4, none⟩ = some (.int .i64 (GM k)) := (hb2.cell (by exact lE)).trans ((HC.out _ (by omega)).trans (ents_msg GM _ GZ GL hlt 0 (by omega)))
                      have e1 : wr.cell? ⟨ge, (tot GL k + GL k) * 4 + 1, none⟩ = some (.int .u64 (1000 + (k : Int))) := (hb2.cell (by exact lE)).trans ((HC.out _ (by omega)).trans (ents_msg GM _ GZ GL hlt 1 (by omega)))
                      have e2 : wr.cell? ⟨ge, (tot GL k + GL k) * 4 + 2, none⟩ = some (.int .u8 0) := (hb2.cell (by exact lE)).trans ((HC.out _ (by omega)).trans (ents_msg GM _ GZ GL hlt 2 (by omega)))
                      have e3 : wr.cell? ⟨ge, (tot GL k + GL k) * 4 + 3, none⟩ = some (.slice none 0 0) := (hb2.cell (by exact lE)).trans ((HC.out _ (by omega)).trans (ents_msg GM _ GZ GL hlt 3 (by omega)))
                      have hlw := lt_of_block_cell d1
                      have H4 : Hid _ := hb2
                      clear hb2 hbv hbw hbp d0 hx
                      go_wp2
                      go_quiet (fail)
                      go_wp2
                      go_roundw
                      case rel => exact ⟨k + 1, by omega, by go_num, by simp only [tot]; go_num, below_drewN (H4.out.alloc (by omega) _) _⟩
                      case measure => simp [intOf]; omega
                · obtain rfl : n = k := by omega
                  obtain ⟨_, hFf, hZg, hAa⟩ := HH.out
                  have hs2 := hbp.size
                  have hFp : wp.heap[_]? = _ := (hbp.block _ lF).trans hFf
                  have f0 := cellB (o := 0) hFp rfl
                  have f1 := cellB (o := 1) hFp rfl
                  have hZp : wp.heap[w.heap.size]? = _ := (hbp.block _ lZ).trans hZg
                  have hAp : wp.heap[wo.heap.size]? = _ := (hbp.block _ lA).trans hAa
                  have hBp : Below w.heap.size w wp := hBt.trans (hbp.mono hBt.size)
                  have H4 := And.intro hZp (And.intro hAp hBp)
                  replace H4 : Hid _ := H4
                  have hnn2 : ∀ w, (binOp .neq 32 (.slice none 0 0) (.slice none 0 0)).run Yba.prog w = .ok (.bool false) w := fun w => run_neq_slice_nil_any w 32 36 none 0 0 0 0 Yba.underlying32
                  clear HH HC hFf hZg hAa hFp hZp hAp hbp hBp hBt
                  go_wp2
                  go_loop [202] (fun i => ∃ k : Nat, k ≤ n ∧ i = .int .i64 k) (fun i => n - (intOf i).toNat)
                  case atStart => exact ⟨0, Nat.zero_le _, rfl⟩
                  case round =>
                    obtain ⟨k, hk, rfl⟩ := hrel
                    by_cases hlt : k < n
                    · have z0 : wp.cell? ⟨w.heap.size, k * 5, none⟩ = some (.slice none 0 0) := cellB H4.out.1 (zeroCells_at zgroup n k 0 (by decide) hlt)
                      have z1 : wp.cell? ⟨w.heap.size, k * 5 + 1, none⟩ = some (.int .i64 0) := cellB H4.out.1 (zeroCells_at zgroup n k 1 (by decide) hlt)
                      have z2 : wp.cell? ⟨w.heap.size, k * 5 + 1 + 1, none⟩ = some (.int .u64 0) := cellB H4.out.1 (zeroCells_at zgroup n k 2 (by decide) hlt)
                      go_wp2
                      go_round
                      case rel => exact ⟨k + 1, by omega, by go_num⟩
                      case measure => simp [intOf]; omega
                    · obtain rfl : n = k := by omega
                      go_wp2
                      go_loop [239] (fun i => ∃ k : Nat, k ≤ m ∧ i = .int .i64 k) (fun i => m - (intOf i).toNat)
                      case atStart => exact ⟨0, Nat.zero_le _, rfl⟩
                      case round =>
                        obtain ⟨k, hk, rfl⟩ := hrel
                        by_cases hlt : k < m
                        · have z0 : wp.cell? ⟨wo.heap.size, k, none⟩ = some (.int .i64 (-1)) := cellB H4.out.2.1 (hA1 k hlt)
                          go_wp2
                          go_round
                          case rel => exact ⟨k + 1, by omega, by go_num⟩
                          case measure => simp [intOf]; omega
                        · go_wp2
                          go_ret
                          exact ⟨rfl, H4.out.2.2⟩
end Go.Proofs.Ybulkbewa
