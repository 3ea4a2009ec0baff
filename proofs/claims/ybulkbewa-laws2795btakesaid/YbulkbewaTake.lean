/- The method take of forwardList: its contract, for every list of groups. -/
import Derived.Test.YbulkbewaBase
namespace Go.Proofs.Ybulkbewa
open Go.RowKit

/-- how many entries the first k groups make -/
def tot (L : Nat → Nat) : Nat → Nat
  | 0 => 0
  | k + 1 => tot L k + (L k + 1)

theorem tot_le (L : Nat → Nat) (n : Nat) (hL : ∀ i, i < n → L i ≤ 256) : ∀ k, k ≤ n → tot L k ≤ 257 * k
  | 0, _ => by simp [tot]
  | k + 1, h => by
    have := tot_le L n hL k (by omega)
    have := hL k (by omega)
    simp only [tot]; omega

theorem tot_mono (L : Nat → Nat) {j k : Nat} (h : j ≤ k) : tot L j ≤ tot L k := by
  induction h with
  | refl => exact Nat.le_refl _
  | step _ ih => simp only [tot]; omega

/-- the cells of one entry whose kind is 0 and whose payload is nil -/
def ent (s q : Int) : List Value := [.int .i64 s, .int .u64 q, .int .u8 0, .slice none 0 0]

/-- the cells of the entries that the first k groups make -/
def ents (S Q : Nat → Int) (X : Nat → List Value) : Nat → List Value
  | 0 => []
  | k + 1 => ents S Q X k ++ X k ++ ent (S k) (Q k)

theorem ents_len (S Q : Nat → Int) (X : Nat → List Value) (L : Nat → Nat) (n : Nat) (hX : ∀ i, i < n → (X i).length = L i * 4) : ∀ k, k ≤ n → (ents S Q X k).length = tot L k * 4
  | 0, _ => by simp [ents, tot]
  | k + 1, h => by
    have := ents_len S Q X L n hX k (by omega)
    have := hX k (by omega)
    simp only [ents, tot, ent, List.length_append, List.length_cons, List.length_nil, *]; omega

theorem ent_one (s q : Int) : ∀ u ∈ ent s q, u.oneCell' = true := by
  intro u hu
  simp only [ent, List.mem_cons, List.not_mem_nil, or_false] at hu
  rcases hu with rfl | rfl | rfl | rfl <;> rfl

theorem info36 : (Yba.prog.info? 36).map (fun i => (i.zero, i.size, i.bytes)) = some (some (.agg #[.int .i64 0, .int .u64 0, .int .u8 0, .slice none 0 0]), 4, 48) := by kernel_rfl
theorem info38 : (Yba.prog.info? 38).map (fun i => (i.zero, i.size, i.bytes)) = some (some (.agg #[.slice none 0 0, .int .i64 0, .int .u64 0, .int .u8 0, .slice none 0 0]), 5, 72) := by kernel_rfl

theorem cells_four (w : World) (a b c d : Value) (t : TypeId) : ∀ j u, [a, b, c, d][j]? = some u → (w.alloc (.cells #[a, b, c, d] t)).cell? ((⟨w.heap.size, 0, none⟩ : Addr).add j) = some u := by
  intro j u hj
  match j, hj with
  | 0, hj => simp at hj; subst hj; simp [Addr.add]
  | 1, hj => simp at hj; subst hj; simp [Addr.add]
  | 2, hj => simp at hj; subst hj; simp [Addr.add]
  | 3, hj => simp at hj; subst hj; simp [Addr.add]
  | j + 4, hj => simp at hj

/-- the five cells of the zero group -/
def zgroup : Array Value := #[.slice none 0 0, .int .i64 0, .int .u64 0, .int .u8 0, .slice none 0 0]

set_option maxHeartbeats 800000 in
theorem take_any (w : World) (bf bg ba n m : Nat) (G A : Array Value) (Ad : Nat → Option Addr) (L C : Nat → Nat) (S Q : Nat → Int) (X : Nat → List Value)
    (hf : w.heap[bf]? = some (.cells #[.slice (some ⟨bg,0,none⟩) n n, .slice (some ⟨ba,0,none⟩) m m] 42 (0,0)))
    (hg : w.heap[bg]? = some (.cells G 38 (0,0))) (hGs : G.size = 5 * n)
    (hG0 : ∀ i, i < n → G[i*5]? = some (.slice (Ad i) (L i) (C i)))
    (hG1 : ∀ i, i < n → G[i*5+1]? = some (.int .i64 (S i)))
    (hG2 : ∀ i, i < n → G[i*5+2]? = some (.int .u64 (Q i)))
    (hG3 : ∀ i, i < n → G[i*5+3]? = some (.int .u8 0))
    (hG4 : ∀ i, i < n → G[i*5+4]? = some (.slice none 0 0))
    (hXl : ∀ i, i < n → (X i).length = L i * 4) (hX1 : ∀ i, i < n → ∀ u ∈ X i, u.oneCell' = true)
    (hXn : ∀ i, i < n → Ad i = none → L i = 0 ∧ C i = 0)
    (hXc : ∀ i, i < n → ∀ ad, Ad i = some ad → ad.block < w.heap.size ∧ ∀ j u, (X i)[j]? = some u → w.cell? (ad.add j) = some u)
    (ha : w.heap[ba]? = some (.cells A 3 (0,0))) (hAs : A.size = m)
    (hn : n ≤ 256) (hm : m ≤ 256) (hL : ∀ i, i < n → L i ≤ 256) :
    Calls Yba.prog 9 #[.pointer (some ⟨bf, 0, none⟩)] w fun e w' => ∃ ge cur A', e = .returned (.slice (some ⟨ge, 0, none⟩) (tot L n) (1 + tot L n)) ∧ w.heap.size ≤ ge ∧
      w'.heap[ge]? = some (.cells cur 36 (0, 0)) ∧ cur.toList.take (tot L n * 4) = ents S Q X n ∧
      w'.heap[bf]? = some (.cells #[.slice (some ⟨bg,0,none⟩) 0 n, .slice (some ⟨ba,0,none⟩) m m] 42 (0,0)) ∧
      w'.heap[bg]? = some (.cells (Builtin.zeroCells zgroup n) 38 (0, 0)) ∧
      w'.heap[ba]? = some (.cells A' 3 (0, 0)) ∧ A'.size = m ∧ (∀ j, j < m → A'[j]? = some (.int .i64 (-1))) ∧
      Kept (fun b => b = bf ∨ b = bg ∨ b = ba) w w' := by
  have f0 : w.cell? ⟨bf, 0, none⟩ = some (.slice (some ⟨bg,0,none⟩) n n) := by simp [World.cell?, hf]
  have f1 : w.cell? ⟨bf, 1, none⟩ = some (.slice (some ⟨ba,0,none⟩) m m) := by simp [World.cell?, hf]
  have lf := lt_of_block hf
  have lg := lt_of_block hg
  have la := lt_of_block ha
  have c0 := fun i hi => cellB hg (hG0 i hi)
  have c1 := fun i hi => cellB hg (hG1 i hi)
  have c2 := fun i hi => cellB hg (hG2 i hi)
  have c3 := fun i hi => cellB hg (hG3 i hi)
  have c4 := fun i hi => cellB hg (hG4 i hi)
  have hN := tot_le L n hL n (Nat.le_refl _)
  have Hh := And.intro hf (And.intro hg ha)
  replace Hh : Hid _ := Hh
  clear hf hg ha hG0 hG1 hG2 hG3 hG4
  obtain ⟨i0, hi, hz0, hz1, hz2⟩ := info_parts info36
  go_enter Yba.func9, Yba.ntmps9
  go_wp2
  go_loopw [3, 15] (fun s i wr => ∃ k : Nat, k ≤ n ∧ i = .int .i64 k ∧ s = .int .i64 (1 + tot L k) ∧ Below w.heap.size w wr) (fun _ i _ => n - (intOf i).toNat)
  case atStart => exact ⟨0, Nat.zero_le _, rfl, rfl, Below.refl _ _⟩
  case round =>
    obtain ⟨k, hk, rfl, rfl, hb⟩ := hrel
    have ht := tot_le L n hL k hk
    have hs := hb.size
    by_cases hlt : k < n
    · have d0 : wr.cell? ⟨bg, k * 5, none⟩ = _ := (hb.cell lg).trans (c0 k hlt)
      have d1 : wr.cell? ⟨bg, k * 5 + 1, none⟩ = _ := (hb.cell lg).trans (c1 k hlt)
      have d2 : wr.cell? ⟨bg, k * 5 + 2, none⟩ = _ := (hb.cell lg).trans (c2 k hlt)
      have d3 : wr.cell? ⟨bg, k * 5 + 3, none⟩ = _ := (hb.cell lg).trans (c3 k hlt)
      have d4 : wr.cell? ⟨bg, k * 5 + 4, none⟩ = _ := (hb.cell lg).trans (c4 k hlt)
      have hLk := hL k hlt
      have hb2 : Below w.heap.size w wr := hb
      clear c0 c1 c2 c3 c4
      go_wp2
      go_roundw
      case rel => exact ⟨k + 1, by omega, by go_num, by simp only [tot]; go_num, hb2.alloc (by omega) _⟩
      case measure => simp [intOf]; omega
    · obtain rfl : n = k := by omega
      have e0 : wr.cell? ⟨bf, 0, none⟩ = some (.slice (some ⟨bg,0,none⟩) n n) := (hb.cell (by exact lf)).trans f0
      go_wp2_with (at_make; refine wpList_make_own _ rfl _ _ 32 rfl wr.heap.size 36 i0 _ 4 Yba.underlying32 hi hz0 hz1 _ _ _ (1 + tot L n) rfl rfl (by omega) ?b1 ?b2 ?b3 ?_)
      case b1 => rw [hz2]; omega
      case b2 => unfold maxLen; omega
      case b3 => exact Nat.le_refl _
      intro w1 hown hgrow
      have hb1 : Below w.heap.size w w1 := hb.grown hgrow hs (by intro k hk; cases hk)
      obtain ⟨ge, hge⟩ : ∃ ge, ge = wr.heap.size := ⟨_, rfl⟩
      rw [← hge] at hown hs ⊢
      have hs1 : ge ≤ w1.heap.size := by rw [hge]; exact hgrow.size
      clear hgrow hb e0 hge
      have e0 : w1.cell? ⟨bf, 0, none⟩ = some (.slice (some ⟨bg,0,none⟩) n n) := (hb1.cell (by exact lf)).trans f0
      go_wp2
      go_loopw [6, 33] (fun v i wx => ∃ k : Nat, k ≤ n ∧ i = .int .i64 k ∧ v = .slice (some ⟨ge, 0, none⟩) (tot L k) (1 + tot L n) ∧ wx.ownsRow ge 36 4 (.slice (some ⟨ge, 0, none⟩) (tot L k) (1 + tot L n)) (tot L k) (ents S Q X k) ∧ Below ge w1 wx) (fun _ i _ => n - (intOf i).toNat)
      case atStart => exact ⟨0, Nat.zero_le _, rfl, rfl, hown, Below.refl _ _⟩
      case round =>
        obtain ⟨k, hk2, rfl, rfl, hown2, hb2⟩ := hrel
        have hbw : Below w.heap.size w wr := hb1.trans (hb2.mono hs)
        have hsr := hb2.size
        clear e0 hown
        by_cases hlt2 : k < n
        · have d0 : wr.cell? ⟨bg, k * 5, none⟩ = _ := (hbw.cell lg).trans (c0 k hlt2)
          have d1 : wr.cell? ⟨bg, k * 5 + 1, none⟩ = _ := (hbw.cell lg).trans (c1 k hlt2)
          have d2 : wr.cell? ⟨bg, k * 5 + 2, none⟩ = _ := (hbw.cell lg).trans (c2 k hlt2)
          have d3 : wr.cell? ⟨bg, k * 5 + 3, none⟩ = _ := (hbw.cell lg).trans (c3 k hlt2)
          have d4 : wr.cell? ⟨bg, k * 5 + 4, none⟩ = _ := (hbw.cell lg).trans (c4 k hlt2)
          have hLk := hL k hlt2
          have hmn : tot L (k + 1) ≤ tot L n := tot_mono L (by omega)
          have htk := tot_le L n hL k hk2
          have hgr : ge < wr.heap.size := (hown2.lt ge rfl).2
          simp only [tot] at hmn
          clear c0 c1 c2 c3 c4
          go_wp2_with (at_builtin; refine wpList_append_fits_any _ rfl (.tmp 37) (.tmp 39) 32 rfl ge 36 i0 4 Yba.underlying32 hi hz1 ge (tot L k) (1 + tot L n) (ents S Q X k) rfl (hown2.alloc _) (Ad k) (L k) (C k) (X k) rfl (hXl k hlt2) (hXn k hlt2) ?cc (hX1 k hlt2) ?fit ?_)
          case cc =>
            intro ad had j u hu
            have hx := hXc k hlt2 ad had
            have hlt3 : (ad.add j).block < w.heap.size := by
              have := hx.1
              unfold Addr.add; split <;> simpa using this
            have := (hbw.alloc (o := .cells #[.slice (Ad k) (L k) (C k), .int .i64 (S k), .int .u64 (Q k), .int .u8 0, .slice none 0 0] 38) (by omega)).cell hlt3
            exact this.trans (hx.2 j u hu)
          case fit => omega
          intro w2 hown3 hgrow3
          have hz3 : wr.heap.size < w2.heap.size := by have := hgrow3.size; simp at this; omega
          have g1 : w2.cell? ⟨wr.heap.size, 1, none⟩ = some (.int .i64 (S k)) := hgrow3.cell (by simp [World.cell?_alloc_at]) (by simp; omega)
          have g2 : w2.cell? ⟨wr.heap.size, 2, none⟩ = some (.int .u64 (Q k)) := hgrow3.cell (by simp [World.cell?_alloc_at]) (by simp; omega)
          have g3 : w2.cell? ⟨wr.heap.size, 3, none⟩ = some (.int .u8 0) := hgrow3.cell (by simp [World.cell?_alloc_at]) (by simp; omega)
          have g4 : w2.cell? ⟨wr.heap.size, 4, none⟩ = some (.slice none 0 0) := hgrow3.cell (by simp [World.cell?_alloc_at]) (by simp; omega)
          have hb4 : Below ge w1 w2 := (hb2.alloc (by omega) _).grown hgrow3 (by simp; omega) (by intro q hq; simp at hq; omega)
          clear hown2 hgrow3 d0 d1 d2 d3 d4 hb2 hbw
          go_wp2_with (at_builtin; refine wpList_append_fits _ rfl (.tmp 41) (.tmp 44) 32 rfl ge 36 i0 4 Yba.underlying32 hi hz1 ge (tot L k + L k) (1 + tot L n) (ents S Q X k ++ X k) rfl (hown3.alloc _) ⟨w2.heap.size, 0, none⟩ 1 1 (ent (S k) (Q k)) rfl rfl ?cc2 (ent_one _ _) ?fit2 ?_)
          case cc2 => exact cells_four _ _ _ _ _ _
          case fit2 => omega
          intro w3 hown5 hgrow5
          have hb5 : Below ge w1 w3 := (hb4.alloc (by omega) _).grown hgrow5 (by simp; omega) (by intro q hq; simp at hq; omega)
          clear hgrow5 hown3 g1 g2 g3 g4
          go_wp2
          go_roundw
          case rel =>
            exact ⟨k + 1, by omega, by go_num, rfl, by rw [ents, List.append_assoc]; exact hown5, hb5⟩
          case measure => simp [intOf]; omega
        · obtain rfl : n = k := by omega
          obtain ⟨hf, hg, ha⟩ := Hh.out
          obtain ⟨j0, hj, hjz, hj1, hj2⟩ := info_parts info38
          have hgr : ge < wr.heap.size := (hown2.lt ge rfl).2
          have hf' : wr.heap[bf]? = _ := (hbw.block bf lf).trans hf
          have hg' : wr.heap[bg]? = _ := (hbw.block bg lg).trans hg
          have ha' : wr.heap[ba]? = _ := (hbw.block ba la).trans ha
          have nfg : bf ≠ bg := by intro h; subst h; rw [hf] at hg; simp at hg
          have nfa : bf ≠ ba := by intro h; subst h; rw [hf] at ha; simp at ha
          have nga : bg ≠ ba := by intro h; subst h; rw [hg] at ha; simp at ha
          have hclr := fun ty => run_clear_row (P := Yba.prog) wr 31 ty 38 38 j0 _ Yba.underlying31 hj hjz (by intro v hv; simp [Value.cells] at hv; rcases hv with rfl | rfl | rfl | rfl | rfl <;> rfl) bg n n G hg' (by rw [hGs]; simp [Value.cells]; omega)
          obtain ⟨wc, hwc⟩ : ∃ wc, wc = wr.setRow bg (Builtin.zeroCells zgroup n) := ⟨_, rfl⟩
          have hclr2 : ∀ ty, Sem.run Yba.prog (Builtin.clear_ #[31] ty #[.slice (some ⟨bg, 0, none⟩) n n]) wr = .ok (.tuple #[]) wc := by
            intro ty; rw [hwc]; exact hclr ty
          have e0 : wr.cell? ⟨bf, 0, none⟩ = some (.slice (some ⟨bg,0,none⟩) n n) := (hbw.cell (by exact lf)).trans f0
          have hfc : wc.heap[bf]? = some (.cells #[.slice (some ⟨bg,0,none⟩) n n, .slice (some ⟨ba,0,none⟩) m m] 42 (0,0)) := by rw [hwc, setRow_other _ _ _ _ nfg]; exact hf'
          have e1 : wc.cell? ⟨bf, 0, none⟩ = some (.slice (some ⟨bg,0,none⟩) n n) := cellB hfc rfl
          have e2 : wc.cell? ⟨bf, 1, none⟩ = some (.slice (some ⟨ba,0,none⟩) m m) := cellB hfc rfl
          have e3 : wc.frozen? ⟨bf, 0, none⟩ = false := freeB hfc
          have hkw : Kept (fun b => b = bf ∨ b = bg ∨ b = ba) w wc := by rw [hwc]; exact (Kept.of_below hbw _).setRow (Or.inl (Or.inr (Or.inl rfl))) _
          have hgc : wc.heap[bg]? = some (.cells (Builtin.zeroCells zgroup n) 38 (0, 0)) := by rw [hwc]; exact setRow_heap _ _ _ _ _ _ hg'
          have hac : wc.heap[ba]? = some (.cells A 3 (0, 0)) := by rw [hwc, setRow_other _ _ _ _ (Ne.symm nga)]; exact ha'
          have hec : ∃ cur, wc.heap[ge]? = some (.cells cur 36 (0, 0)) ∧ cur.toList.take (tot L n * 4) = ents S Q X n := by
            rcases hown2.2 with ⟨hv, _⟩ | ⟨g, cap, cur, hv, _, hh, _, _, _, htk⟩
            · cases hv
            · cases hv
              exact ⟨cur, by rw [hwc, setRow_other _ _ _ _ (by omega)]; exact hh, htk⟩
          obtain ⟨cur, hec, hcur⟩ := hec
          clear hclr hwc hf hg ha hf' hg' ha' hgr hown2 hb2 hbw hb1 c0 c1 c2 c3 c4 f0 f1
          have hfd := heap_setCell_at (o := 0) (.slice (some ⟨bg,0,none⟩) 0 n) hfc
          have hgd := (heap_setCell_other wc ⟨bf, 0, none⟩ bg (.slice (some ⟨bg,0,none⟩) 0 n) (Ne.symm nfg)).trans hgc
          have had := (heap_setCell_other wc ⟨bf, 0, none⟩ ba (.slice (some ⟨bg,0,none⟩) 0 n) (Ne.symm nfa)).trans hac
          have hed := (heap_setCell_other wc ⟨bf, 0, none⟩ ge (.slice (some ⟨bg,0,none⟩) 0 n) (by simp; omega)).trans hec
          have hkd := hkw.setCell (p := ⟨bf, 0, none⟩) (Or.inl (Or.inl rfl)) (.slice (some ⟨bg,0,none⟩) 0 n)
          have HH := And.intro hfd (And.intro hgd (And.intro had (And.intro hed hkd)))
          replace HH : Hid _ := HH
          clear hfd hgd had hed hkd hkw hgc hac hec hfc
          go_wp2
          obtain ⟨wd, hwd⟩ : ∃ wd, wd = wc.setCell ⟨bf, 0, none⟩ (.slice (some ⟨bg,0,none⟩) 0 n) := ⟨_, rfl⟩
          rw [← hwd] at HH ⊢
          clear hclr2 e0 e1 e2 e3 hwd
          obtain ⟨hfd, hgd, had, hed, hkd⟩ := HH.out
          clear HH
          simp at hfd
          have lfd := lt_of_block hfd
          have lgd := lt_of_block hgd
          have lad := lt_of_block had
          have led := lt_of_block hed
          have hmA := hAs
          go_loopw [64] (fun i wx => ∃ (k : Nat) (A' : Array Value), k ≤ m ∧ i = .int .i64 k ∧ wx.heap[ba]? = some (.cells A' 3 (0, 0)) ∧ A'.size = m ∧ (∀ j, j < k → A'[j]? = some (.int .i64 (-1))) ∧ Kept (fun b => b = ba) wd wx) (fun i _ => m - (intOf i).toNat)
          case atStart => exact ⟨0, A, Nat.zero_le _, rfl, had, hAs, fun j hj => absurd hj (Nat.not_lt_zero _), Kept.refl _ _⟩
          case round =>
            obtain ⟨k, A', hk3, rfl, hA', hA's, hA1, hkx⟩ := hrel
            have hfx : wr.heap[bf]? = _ := (hkx.block bf lfd nfa).trans hfd
            by_cases hlt3 : k < m
            · have e1 : wr.cell? ⟨bf, 1, none⟩ = some (.slice (some ⟨ba,0,none⟩) m m) := cellB hfx rfl
              have e2 : wr.cell? ⟨ba, k, none⟩ = some (A'[k]'(by omega)) := cellB hA' (by rw [Array.getElem?_eq_getElem])
              have e3 : wr.frozen? ⟨ba, k, none⟩ = false := freeB hA'
              have hA'' := heap_setCell_at (o := k) (.int .i64 (-1)) hA'
              have hkx2 := hkx.setCell (p := ⟨ba, k, none⟩) (Or.inl rfl) (.int .i64 (-1))
              have HH := And.intro hA'' hkx2
              replace HH : Hid _ := HH
              clear hA'' hkx2 hfx hA' hfd hgd had hed hkd hcur hkx
              go_wp2
              go_roundw
              case rel =>
                refine ⟨k + 1, _, by omega, by go_num, HH.out.1, by simpa using hA's, fun j hj => ?_, HH.out.2⟩
                rw [Array.getElem?_setIfInBounds]
                by_cases hjk : k = j
                · subst hjk; rw [if_pos rfl, if_pos (by omega)]
                · rw [if_neg hjk]; exact hA1 j (by omega)
              case measure => simp [intOf]; omega
            · obtain rfl : m = k := by omega
              have hgx := (hkx.block bg lgd nga).trans hgd
              have hex := (hkx.block ge led (by omega)).trans hed
              have hkf : Kept (fun b => b = bf ∨ b = bg ∨ b = ba) w wr := hkd.trans (hkx.mono (fun k _ h => Or.inr (Or.inr h)))
              have HH := And.intro hfx (And.intro hgx (And.intro hA' (And.intro hex hkf)))
              replace HH : Hid _ := HH
              clear hfx hgx hA' hex hkf hkd hfd hgd had hed
              go_wp2
              go_ret
              obtain ⟨hfx, hgx, hA', hex, hkf⟩ := HH.out
              exact ⟨ge, cur, A', rfl, hs, hex, hcur, hfx, hgx, hA', hA's, hA1, hkf⟩
end Go.Proofs.Ybulkbewa
