/- the walk of LawS2795CCounts (function 6): up to 1024 lines and survivors. -/
import Derived.Test.YbulkbewaJLaw
import Derived.Test.YbulkbewaNew
import Derived.Test.YbulkbewaRows
namespace Go.Proofs.Ybulkbewa
open Go.RowKit Go.Maps

/-- the lines as they are given -/
def RO (w : World) (v : Value) (rl : List (Int × Int × Bool)) : Prop :=
  ∃ a b o cap, v = .slice a rl.length cap ∧ rl.length ≤ cap ∧ cap ≤ 9223372036854775807 ∧ (0 < rl.length → a = some ⟨b, o, none⟩ ∧ b < w.heap.size) ∧
    ∀ (i : Nat) (x : Int × Int × Bool), rl[i]? = some x → w.cell? ⟨b, o + i * 3, none⟩ = some (.int .u8 x.1) ∧ w.cell? ⟨b, o + i * 3 + 1, none⟩ = some (.int .u8 x.2.1) ∧ w.cell? ⟨b, o + i * 3 + 2, none⟩ = some (.bool x.2.2) ∧ (0 ≤ x.1 ∧ x.1 ≤ 255) ∧ 0 ≤ x.2.1 ∧ x.2.1 ≤ 255

theorem KRep.grow {B : Nat} {w0 w w' : World} {bc bi bm : Nat} {K : KS} {il ms : List (Int × Nat)} {V : Nat → Value} {X : Nat → List Nat} {vE vP : Value} {Di Dm : DataW Unit} (h : KRep B w0 w bc bi bm K il ms V X vE vP Di Dm) (hg : w.grownBy w' none) : KRep B w0 w' bc bi bm K il ms V X vE vP Di Dm := by
  have t := h.touch (w' := w') (row := none) (t := 0) hg (fun b e => by cases e)
  exact ⟨(t.c7 (by decide)).trans h.c, t.oi, t.om, h.di, h.dm, t.oE (by decide), t.oP (by decide), t.r (by decide), fun k p mb h1 h2 => (t.m8 (by decide) p (List.mem_of_getElem? h1)).trans (h.m k p mb h1 h2), h.mi, h.nd, h.mB, h.x0, h.x1, h.x2, h.n1, h.n2, t.below, h.ge⟩

theorem AR.start (W9 : World) : AR W9 ((((W9.alloc (.cells #[.bool false, .bool false, .bool false, .bool false] 58)).alloc (.cells #[.bool false, .bool false, .bool false, .bool false, .bool false, .bool false, .bool false, .bool false, .bool false, .bool false, .bool false, .bool false, .bool false, .bool false, .bool false, .bool false, .bool false, .bool false, .bool false, .bool false] 60)).alloc (.cells #[.int .i64 0, .int .i64 0, .int .i64 0, .int .i64 0, .int .i64 0] 61)).alloc (.cells #[.bool false, .bool false, .bool false, .bool false, .bool false] 59)) W9.heap.size (opsOf []) := by
  have al : ∀ (W : World) (o : Obj) (b : Nat) (x : Obj), W.heap[b]? = some x → (W.alloc o).heap[b]? = some x := fun W o b x h => (Below.heap_alloc _ _ _ (Array.getElem?_eq_some_iff.1 h).1).trans h
  have nw : ∀ (W : World) (o : Obj) (b : Nat), W.heap.size = b → (W.alloc o).heap[b]? = some o := fun W o b h => by subst h; exact heap_alloc_new _ _
  refine ⟨((((Below.refl _ W9).alloc (Nat.le_refl _) _).alloc (by simp) _).alloc (by simp; omega) _).alloc (by simp; omega) _, by simp, ?_, ?_, ?_, ?_⟩
  · exact al _ _ _ _ (al _ _ _ _ (al _ _ _ _ (nw _ _ _ rfl)))
  · exact al _ _ _ _ (al _ _ _ _ (nw _ _ _ (by simp)))
  · exact al _ _ _ _ (nw _ _ _ (by simp))
  · exact nw _ _ _ (by simp)

set_option maxHeartbeats 3200000 in
set_option maxRecDepth 100000 in
theorem walk6 (w : World) (v0 v1 : Value) (rl : List (Int × Int × Bool)) (svl : List Int) (h0 : RO w v0 rl) (hn : rl.length ≤ 1024) (hs : svl.length ≤ 1024)
    (hsv : ∃ a b o cap, v1 = .slice a svl.length cap ∧ svl.length ≤ cap ∧ cap ≤ 9223372036854775807 ∧ (0 < svl.length → a = some ⟨b, o, none⟩ ∧ b < w.heap.size) ∧ ∀ (i : Nat) (x : Int), svl[i]? = some x → w.cell? ⟨b, o + i, none⟩ = some (.int .i64 x) ∧ (Lit.int .i64 x).wf = true) :
    Calls Yba.prog 6 #[v0, v1] w fun e w' => e = .returned (.bool true) ∧ Below w.heap.size w w' := by
  obtain ⟨a, b, o, cap, rfl, hc1, hc2, hc3, hc4⟩ := h0
  obtain ⟨sa, sb, so, sc, rfl, hs1, hs2, hs3, hs4⟩ := hsv
  have HC3 : Hid _ := And.intro hc3 trivial
  have HS : Hid _ := And.intro hs3 hs4
  have HO : Hid _ := hc4
  have hby : Bytes rl := fun x hx => by
    obtain ⟨i, hi⟩ := List.mem_iff_getElem?.1 hx
    exact (hc4 i x hi).2.2.2
  have HOr : Hid _ := hby
  clear hby
  clear hs3 hs4 hc4 hc3
  go_enter Yba.func6, Yba.ntmps6
  go_wp2_with fail
  refine (new_any _).mono ?_
  rintro _ wN ⟨bc, bi, bm, rfl, K0⟩
  have HK0 : Hid _ := K0
  clear K0
  go_upto_block 0 with fail
  go_cut [] (fun wx => ∃ (K : KS) (ms : List (Int × Nat)) (V : Nat → Value) (X : Nat → List Nat) (vE vP : Value) (Di Dm : DataW Unit), KRep w.heap.size w wx bc bi bm K (K.evs.map (·.id)).zipIdx ms V X vE vP Di Dm ∧ KO K (opsOf rl))
  case first =>
    go_wp2_with fail
    go_loopg [42] rl.length (fun j i wx => ∃ (k : Nat) (K : KS) (ms : List (Int × Nat)) (V : Nat → Value) (X : Nat → List Nat) (vE vP : Value) (Di Dm : DataW Unit), k ≤ rl.length ∧ j = rl.length - k ∧ i = .int .i64 k ∧ KRep w.heap.size w wx bc bi bm K (K.evs.map (·.id)).zipIdx ms V X vE vP Di Dm ∧ KO K (opsOf (rl.take k)))
    case atStart =>
      exact ⟨0, _, _, _, _, _, _, _, _, Nat.zero_le _, rfl, rfl, HK0.out, KO.nil⟩
    case round =>
      obtain ⟨k, K, ms, V, X, vE, vP, Di, Dm, hk, rfl, rfl, hK, hO⟩ := hrel
      by_cases hlt : k < rl.length
      · obtain ⟨x, hx⟩ : ∃ x, rl[k]? = some x := ⟨_, List.getElem?_eq_getElem hlt⟩
        obtain ⟨q0, q1, q2, ⟨q3, q4⟩, q5, q6⟩ := HO.out k x hx
        obtain ⟨rfl, hb⟩ := HC3.out.1 (by omega)
        have f0 := (hK.below.cell (p := ⟨b, o + k * 3, none⟩) hb).trans q0
        have f1 := (hK.below.cell (p := ⟨b, o + k * 3 + 1, none⟩) hb).trans q1
        have f2 := (hK.below.cell (p := ⟨b, o + k * 3 + 2, none⟩) hb).trans q2
        have HZ : Hid _ := And.intro hK (And.intro hO hx)
        clear q0 q1 q2 hK hO hx
        obtain ⟨x0, x1, x2⟩ := x
        dsimp only at f0 f1 f2 q3 q4 q5 q6
        go_wp2_with fail
        obtain ⟨hK, hO, hx⟩ := HZ.out
        have hlt' : (rl.take k).length = k := by simp; omega
        obtain ⟨km, ke, K', hadd, hO'⟩ := hO.add (by simp [opsOf]; omega) (ops_range (Bytes.take HOr.out k)) (x0 % 4) (x1 % 5) x2
        have htk : opsOf (rl.take (k + 1)) = opsOf (rl.take k) ++ [(x0 % 4, x1 % 5, x2)] := by rw [List.take_add_one, hx]; simp [opsOf]
        rw [← htk] at hO'
        refine (add_any _ _ _ bc bi bm _ _ _ _ _ _ _ _ _ _ _ x2 km ke (hK.alloc _) (Go.WalkArith.wf_i64 (by omega)) (Go.WalkArith.wf_i64 (by omega)) hadd).mono ?_
        rintro _ W1 ⟨rfl, ms1, V1, X1, vE1, vP1, Di1, Dm1, K1⟩
        have H1 : Hid _ := And.intro K1 hO'
        clear K1 hO' hadd hK hO hx htk hlt' f0 f1 f2
        go_wp2_with fail
        go_roundg (rl.length - (k + 1))
        case rel =>
          exact ⟨k + 1, _, _, _, _, _, _, _, _, by omega, rfl, by go_num, H1.out.1, H1.out.2⟩
        case measure => omega
      · obtain rfl : k = rl.length := by omega
        rw [List.take_length] at hO
        have HZ : Hid _ := And.intro hK hO
        clear hK hO
        go_wp2_with fail
        go_meet
        exact ⟨K, ms, V, X, vE, vP, Di, Dm, HZ.out.1, HZ.out.2⟩
  case rest =>
    obtain ⟨K, ms, V, X, vE, vP, Di, Dm, hK, hO⟩ := hcut
    have hjudge := judge_law _ _ _ bc bi bm _ _ _ _ _ _ _ _ _ rl svl sa sb so sc hK hO hn HOr.out hs hs1 hs2 (fun h0 => ⟨(HS.out.1 h0).1, Nat.lt_of_lt_of_le (HS.out.1 h0).2 hK.below.size⟩) (fun i x hx => by
        have hi := (List.getElem?_eq_some_iff.1 hx).1
        exact ⟨(hK.below.cell (p := ⟨sb, so + i, none⟩) (HS.out.1 (by omega)).2).trans (HS.out.2 i x hx).1, (HS.out.2 i x hx).2⟩)
    have H2 : Hid _ := And.intro hjudge hK.below
    clear hjudge hK hO HK0
    go_wp2_with fail
    refine H2.out.1.mono ?_
    rintro _ W5 ⟨br, aD, kD, dup, run, rfl, hr, hj3, hDV, hB5⟩
    have hKb := H2.out.2
    have hb5 : Below w.heap.size w W5 := hKb.trans (hB5.mono hKb.size)
    have r1 : W5.cell? ⟨br, 1, none⟩ = some (.int .i64 (rl.length : Int)) := cellB hr rfl
    have r3 : W5.cell? ⟨br, 3, none⟩ = some (.bool false) := cellB hr rfl
    have r4 : W5.cell? ⟨br, 4, none⟩ = some (.int .i64 0) := cellB hr rfl
    have H5 : Hid _ := And.intro hr (And.intro hDV (And.intro hb5 hj3))
    clear hr hDV hb5 hj3 hKb H2 hB5
    go_wp2_with fail
    refine (clone_sv W5 svl sa sb so sc hs (fun h0 => (HS.out.1 h0).1) (fun i x hx => by
      have hi := (List.getElem?_eq_some_iff.1 hx).1
      exact (H5.out.2.2.1.cell (p := ⟨sb, so + i, none⟩) (HS.out.1 (by omega)).2).trans (HS.out.2 i x hx).1)).mono ?_
    rintro _ W6 ⟨a9, c9, rfl, hv6, hb6⟩
    have H6 : Hid _ := And.intro hv6 hb6
    clear hv6 hb6 r1 r3 r4
    go_wp2_with fail
    refine (sort_sv W5.heap.size W6 svl a9 c9 hs H6.out.1 H6.out.2.size).mono ?_
    rintro _ W7 ⟨rfl, hv7, hb7⟩
    have H7 : Hid _ := And.intro hv7 (H6.out.2.trans hb7)
    clear hv7 hb7 H6
    go_wp2_with fail
    refine (compact_sv W5.heap.size W7 (sorted svl) a9 svl.length c9 (by simp [sorted]) (by simpa [sorted] using hs) H7.out.1 H7.out.2.size).mono ?_
    rintro _ W9 ⟨rfl, hv9, hb9⟩
    rw [show Lib.compact (sorted svl) = ssOf svl from rfl] at hv9 ⊢
    have H9 : Hid _ := And.intro hv9 (H7.out.2.trans hb9)
    clear hv9 hb9 H7
    have hssl := ssOf_length_le svl
    generalize ssOf svl = ss at *
    go_upto_block 2 with fail
    obtain ⟨N, hN⟩ : ∃ N, N = W9.heap.size := ⟨_, rfl⟩
    obtain ⟨ops, hops⟩ : ∃ ops, ops = opsOf rl := ⟨_, rfl⟩
    rw [← hN]
    have HN : Hid _ := hN
    have HP : Hid _ := hops
    clear hN hops
    go_cut [15] (fun tt wx => tt = .int .i64 (tC ops : Int) ∧ AR W9 wx N ops)
    case first =>
      go_wp2_with fail
      go_loopg [15, 94] rl.length (fun j tt i wx => ∃ (k : Nat), k ≤ rl.length ∧ j = rl.length - k ∧ i = .int .i64 k ∧ tt = .int .i64 (tC (opsOf (rl.take k)) : Int) ∧ AR W9 wx N (opsOf (rl.take k)))
      case atStart =>
        refine ⟨0, Nat.zero_le _, rfl, rfl, rfl, ?_⟩
        rw [HN.out]
        exact AR.start W9
      case round =>
        obtain ⟨k, hk, rfl, rfl, rfl, hA⟩ := hrel
        by_cases hlt : k < rl.length
        · obtain ⟨x, hx⟩ : ∃ x, rl[k]? = some x := ⟨_, List.getElem?_eq_getElem hlt⟩
          obtain ⟨q0, q1, q2, ⟨q3, q4⟩, q5, q6⟩ := HO.out k x hx
          obtain ⟨rfl, hb⟩ := HC3.out.1 (by omega)
          have hbA : Below w.heap.size w wr := H5.out.2.2.1.trans ((H9.out.2.trans (hA.below.mono (by rw [HN.out]; exact H9.out.2.size))).mono H5.out.2.2.1.size)
          have f0 := (hbA.cell (p := ⟨b, o + k * 3, none⟩) hb).trans q0
          have f1 := (hbA.cell (p := ⟨b, o + k * 3 + 1, none⟩) hb).trans q1
          have f2 := (hbA.cell (p := ⟨b, o + k * 3 + 2, none⟩) hb).trans q2
          clear q0 q1 q2 hbA
          obtain ⟨x0, x1, x2⟩ := x
          dsimp only at f0 f1 f2 q3 q4 q5 q6
          have htk : opsOf (rl.take (k + 1)) = opsOf (rl.take k) ++ [(x0 % 4, x1 % 5, x2)] := by rw [List.take_add_one, hx]; simp [opsOf]
          have hol : (opsOf (rl.take k)).length ≤ 1024 := by simp [opsOf]; omega
          generalize hok : opsOf (rl.take k) = ok at *
          have htl : tC ok ≤ ok.length := List.countP_le_length
          obtain ⟨m, hm⟩ : ∃ m : Nat, x0 % 4 = (m : Int) := ⟨(x0 % 4).toNat, by omega⟩
          obtain ⟨e, he⟩ : ∃ e : Nat, x1 % 5 = (e : Int) := ⟨(x1 % 5).toNat, by omega⟩
          have hm4 : m < 4 := by omega
          have he5 : e < 5 := by omega
          have hon : ON ok (e : Int) ≤ ok.length := List.countP_le_length
          rw [hm, he] at htk
          have hA1 := hA.alloc (.cells #[.int .u8 x0, .int .u8 x1, .bool x2] 49)
          obtain ⟨W1, hW1⟩ : ∃ W, W = wr.alloc (.cells #[.int .u8 x0, .int .u8 x1, .bool x2] 49) := ⟨_, rfl⟩
          have HZ : Hid _ := And.intro hA htk
          have z0 := freeB (o := m) hA1.p
          have z1 := freeB (o := m * 5 + e) hA1.d
          have z2 := freeB (o := e) hA1.n
          have z3 := freeB (o := e) hA1.b
          have z4 := cellB hA1.n (natCells_get (nL_get ok e he5))
          have z5 := cellB hA1.p (boolCells_get (pL_get ok m hm4))
          have z6 := cellB hA1.d (boolCells_get (dL_get ok m e hm4 he5))
          have z7 := cellB hA1.b (boolCells_get (cL_get ok e he5))
          have HA1 : Hid _ := hA1
          have hwN := hA.sz
          have g1 : wr.heap.size ≠ N := by omega
          have g2 : N ≠ wr.heap.size := by omega
          clear hwN
          have HK : Hid _ := hok
          clear hA htk hx hA1 hok
          cases x2
          · go_wp2_with fail
            go_roundg (rl.length - (k + 1))
            case rel =>
              refine ⟨k + 1, by omega, rfl, by go_num, ?_, ?_⟩
              · rw [HZ.out.2, tC_snoc]; simp
              · rw [HZ.out.2]
                have hd := HA1.out.deliver m e hm4 he5
                rw [Int.natCast_add] at hd
                exact hd
            case measure => omega
          · go_wp2_with fail
            go_roundg (rl.length - (k + 1))
            case rel =>
              refine ⟨k + 1, by omega, rfl, by go_num, ?_, ?_⟩
              · rw [HZ.out.2, tC_snoc]; simp
              · rw [HZ.out.2]
                exact HA1.out.bcast m e hm4 he5
            case measure => omega
        · obtain rfl : k = rl.length := by omega
          rw [List.take_length] at hA
          have HZ : Hid _ := hA
          clear hA
          go_wp2_with fail
          go_meet
          rw [HP.out]
          exact ⟨by rw [List.take_length], HZ.out⟩
    case rest =>
      obtain ⟨rfl, hA⟩ := hcut
      obtain ⟨hr, hDV, hb5, hj3⟩ := H5.out
      rw [← HP.out] at hr hj3 hDV
      have hbO : Below W5.heap.size W5 W9 := H9.out.2
      have hszN : W5.heap.size ≤ N := by rw [HN.out]; exact hbO.size
      have hbrl := lt_of_block hr
      have HR : Hid _ := And.intro hA (And.intro hr (And.intro hDV (And.intro hbO hj3)))
      have hdup : dup ≤ tC ops := by omega
      have htc : tC ops ≤ 1024 := by
        rw [HP.out]
        have h1 : tC (opsOf rl) ≤ (opsOf rl).length := List.countP_le_length
        have h2 : (opsOf rl).length = rl.length := by simp [opsOf]
        omega
      clear hA hr hDV hb5 hj3 hbO
      go_upto_block 4 with fail
      go_cut [20, 21, 22] (fun s1 s2 s3 wx => s1 = .int .i64 (nP ops 4 : Int) ∧ s2 = .int .i64 (sP ops 4 : Int) ∧ s3 = .int .i64 (nP ops 4 : Int) ∧ AR W9 wx N ops)
      case first =>
        go_wp2_with fail
        go_loopg [20, 21, 22, 23] 4 (fun j s1 s2 s3 i wx => ∃ (k : Nat), k ≤ 4 ∧ j = 4 - k ∧ s1 = .int .i64 (nP ops k : Int) ∧ s2 = .int .i64 (sP ops k : Int) ∧ s3 = .int .i64 (nP ops k : Int) ∧ i = .int .i64 k ∧ AR W9 wx N ops)
        case atStart =>
          exact ⟨0, Nat.zero_le _, rfl, rfl, rfl, rfl, rfl, HR.out.1⟩
        case round =>
          obtain ⟨k, hk, rfl, rfl, rfl, rfl, rfl, hA⟩ := hrel
          by_cases hlt : k < 4
          · have y0 := cellB hA.p (boolCells_get (pL_get ops k hlt))
            have hA0 : Hid _ := hA
            have hn4 := nP_le ops k
            have hs4 := sP_le ops k (by omega)
            cases hbk : bM ops (k : Int)
            · rw [hbk] at y0
              have e1 := nP_false hlt hbk
              have e2 := sP_false hlt hbk
              have HE : Hid _ := And.intro e1 e2
              clear e1 e2 hA
              go_wp2_with fail
              go_roundg (4 - (k + 1))
              case rel => exact ⟨k + 1, by omega, rfl, by rw [HE.out.1], by rw [HE.out.2], by rw [HE.out.1], by go_num, hA0.out⟩
              case measure => omega
            · rw [hbk] at y0
              have e1 := nP_true hlt hbk
              have e2 := sP_true hlt hbk
              have e3 := dlv_at hlt hbk
              have e4 := nP_lt hlt hbk
              have HE : Hid _ := And.intro e1 (And.intro e2 e3)
              clear e1 e2 e3 hA
              go_upto_block 6 with fail
              go_cut [24] (fun s wx => s = .int .i64 (dC ops (k : Int) : Int) ∧ AR W9 wx N ops)
              case first =>
                go_wp2_with fail
                go_loopg [24, 25] 5 (fun j s i wx => ∃ (e : Nat), e ≤ 5 ∧ j = 5 - e ∧ s = .int .i64 (cD ops (k : Int) e : Int) ∧ i = .int .i64 e ∧ AR W9 wx N ops)
                case atStart => exact ⟨0, Nat.zero_le _, rfl, rfl, rfl, hA0.out⟩
                case round =>
                  obtain ⟨e, he, rfl, rfl, rfl, hA⟩ := hrel
                  by_cases hle : e < 5
                  · have y1 := cellB hA.d (boolCells_get (dL_get ops k e hlt hle))
                    have hA1 : Hid _ := hA
                    have hc5 := cD_le ops (k : Int) e
                    have ec := cD_succ ops (k : Int) hle
                    have HEC : Hid _ := ec
                    clear hA ec
                    cases hbd : bD ops (k : Int) (e : Int)
                    · rw [hbd] at y1
                      have HBD : Hid _ := hbd
                      clear hbd
                      go_wp2_with fail
                      go_roundg (5 - (e + 1))
                      case rel => exact ⟨e + 1, by omega, rfl, by rw [HEC.out, HBD.out]; simp, by go_num, hA1.out⟩
                      case measure => omega
                    · rw [hbd] at y1
                      have HBD : Hid _ := hbd
                      clear hbd
                      go_wp2_with fail
                      go_roundg (5 - (e + 1))
                      case rel => exact ⟨e + 1, by omega, rfl, by rw [HEC.out, HBD.out]; simp, by go_num, hA1.out⟩
                      case measure => omega
                  · obtain rfl : e = 5 := by omega
                    have HZ : Hid _ := hA
                    clear hA
                    go_wp2_with fail
                    go_meet
                    exact ⟨rfl, HZ.out⟩
              case rest =>
                obtain ⟨rfl, hA⟩ := hcut
                obtain ⟨_, hr, hDV, hbO, _⟩ := HR.out
                obtain ⟨gD, rfl, hgDl, hc1', hc2'⟩ := hDV _ _ HE.out.2.2
                have hb2 : Below W5.heap.size W5 wc := hbO.trans (hA.below.mono hszN)
                have v8 : wc.cell? ⟨br, 8, none⟩ = some (.slice (some ⟨gD, 0, none⟩) (iM.filter (bM ops)).length kD) := (hb2.cell (p := ⟨br, 8, none⟩) hbrl).trans (cellB hr rfl)
                have v9 := (hb2.cell (p := ⟨gD, nP ops k * 2, none⟩) hgDl).trans hc1'
                have v10 := (hb2.cell (p := ⟨gD, nP ops k * 2 + 1, none⟩) hgDl).trans hc2'
                have hA2 : Hid _ := hA
                have hdc : dC ops (k : Int) ≤ 5 := cD_le ops (k : Int) 5
                clear hr hDV hbO hb2 hA hc1' hc2'
                dsimp only at v9 v10
                go_wp2_with fail
                go_roundg (4 - (k + 1))
                case rel => exact ⟨k + 1, by omega, rfl, by rw [HE.out.1]; rfl, by rw [HE.out.2.1]; simp, by rw [HE.out.1]; rfl, by go_num, hA2.out⟩
                case measure => omega
          · obtain rfl : k = 4 := by omega
            have HZ : Hid _ := hA
            clear hA
            go_wp2_with fail
            go_meet
            exact ⟨rfl, rfl, rfl, HZ.out⟩
      case rest =>
        obtain ⟨rfl, rfl, rfl, hA⟩ := hcut
        obtain ⟨_, hr, _, hbO, hj3⟩ := HR.out
        rw [nP_four]
        have hb2 : Below W5.heap.size W5 wc := hbO.trans (hA.below.mono hszN)
        have v8 : wc.cell? ⟨br, 8, none⟩ = some (.slice aD (iM.filter (bM ops)).length kD) := (hb2.cell (p := ⟨br, 8, none⟩) hbrl).trans (cellB hr rfl)
        have v0 : wc.cell? ⟨br, 0, none⟩ = some (.int .i64 ((iM.filter (bM ops)).length : Int)) := (hb2.cell (p := ⟨br, 0, none⟩) hbrl).trans (cellB hr rfl)
        have v2 : wc.cell? ⟨br, 2, none⟩ = some (.int .i64 (dup : Int)) := (hb2.cell (p := ⟨br, 2, none⟩) hbrl).trans (cellB hr rfl)
        have hs4 := sP_le ops 4 (by omega)
        have hsub : (tC ops : Int) - (sP ops 4 : Int) = (dup : Int) := by omega
        have hA3 : Hid _ := And.intro hA hj3
        clear hr hbO hj3 hb2 hA
        go_upto_block 8 with fail
        go_cut [26, 27] (fun s1 s2 wx => s1 = .int .i64 (uC ops : Int) ∧ s2 = .int .i64 (aC ops ss : Int) ∧ AR W9 wx N ops)
        case first =>
          go_wp2_with fail
          go_loopg [26, 27, 28] 5 (fun j s1 s2 i wx => ∃ (e : Nat), e ≤ 5 ∧ j = 5 - e ∧ s1 = .int .i64 (cU ops e : Int) ∧ s2 = .int .i64 (cA ops ss e : Int) ∧ i = .int .i64 e ∧ AR W9 wx N ops)
          case atStart => exact ⟨0, Nat.zero_le _, rfl, rfl, rfl, rfl, hA3.out.1⟩
          case round =>
            clear v0 v2 v8
            obtain ⟨e, he, rfl, rfl, rfl, rfl, hA⟩ := hrel
            by_cases hle : e < 5
            · have y0 := cellB hA.b (boolCells_get (cL_get ops e hle))
              have y1 := cellB hA.n (natCells_get (nL_get ops e hle))
              have hA4 : Hid _ := hA
              have hu := cU_le ops e (by omega)
              have hon := ON_le ops (e : Int)
              have hol : ops.length ≤ 1024 := by rw [HP.out]; simp [opsOf]; omega
              have hu2 : cU ops e ≤ 5120 := Nat.le_trans hu (Nat.le_trans (Nat.mul_le_mul he hol) (by omega))
              have hca := cA_le ops ss e
              have HU : Hid _ := cU_succ ops hle
              have HAS : Hid _ := cA_succ ops ss hle
              clear hA hu
              go_upto_if 200 with fail
              go_cut [26] (fun s wx => s = .int .i64 (cU ops (e + 1) : Int) ∧ AR W9 wx N ops)
              case first =>
                cases hbb : bB ops (e : Int)
                · rw [hbb] at y0
                  have HB : Hid _ := hbb
                  clear hbb
                  go_wp2_with fail
                  go_meet
                  exact ⟨by rw [HU.out, HB.out]; simp, hA4.out⟩
                · rw [hbb] at y0
                  have HB : Hid _ := hbb
                  clear hbb
                  go_wp2_with fail
                  go_meet
                  exact ⟨by rw [HU.out, HB.out]; simp, hA4.out⟩
              case rest =>
                obtain ⟨rfl, hA⟩ := hcut
                have hA5 : Hid _ := hA
                clear hA y0 y1
                go_upto_block 10 with fail
                go_cut [29] (fun s wx => s = .int .i64 (hC ops ss (e : Int) : Int) ∧ AR W9 wx N ops)
                case first =>
                  go_wp2_with fail
                  go_loopg [29, 30] 4 (fun j s i wx => ∃ (m : Nat), m ≤ 4 ∧ j = 4 - m ∧ s = .int .i64 (cH ops ss (e : Int) m : Int) ∧ i = .int .i64 m ∧ AR W9 wx N ops)
                  case atStart => exact ⟨0, Nat.zero_le _, rfl, rfl, rfl, hA5.out⟩
                  case round =>
                    obtain ⟨m, hm, rfl, rfl, rfl, hA⟩ := hrel
                    by_cases hlm : m < 4
                    · have y2 := cellB hA.d (boolCells_get (dL_get ops m e hlm hle))
                      have hsc : SC W5.heap.size wr a9 ss := H9.out.1.up hA.below (by rw [HN.out]; exact Nat.le_refl _)
                      have hch := cH_le ops ss (e : Int) m
                      have HC : Hid _ := And.intro hA (And.intro hsc (cH_succ ops ss (e : Int) hlm))
                      clear hA hsc
                      cases hbd : bD ops (m : Int) (e : Int)
                      · rw [hbd] at y2
                        have HB : Hid _ := hbd
                        clear hbd
                        go_wp2_with fail
                        go_roundg (4 - (m + 1))
                        case rel => exact ⟨m + 1, by omega, rfl, by rw [HC.out.2.2, HB.out]; simp, by go_num, HC.out.1⟩
                        case measure => omega
                      · rw [hbd] at y2
                        have HB : Hid _ := hbd
                        clear hbd
                        go_wp2_with fail
                        refine (contains_sv W5.heap.size wr ss a9 c9 (m : Int) (by omega) HC.out.2.1).mono ?_
                        rintro _ wr' ⟨rfl, rfl⟩
                        cases hms : decide ((m : Int) ∈ ss)
                        · have HMS : Hid _ := hms
                          clear hms
                          go_wp2_with fail
                          go_roundg (4 - (m + 1))
                          case rel => exact ⟨m + 1, by omega, rfl, by rw [HC.out.2.2, HB.out, HMS.out]; simp, by go_num, HC.out.1⟩
                          case measure => omega
                        · have HMS : Hid _ := hms
                          clear hms
                          go_wp2_with fail
                          go_roundg (4 - (m + 1))
                          case rel => exact ⟨m + 1, by omega, rfl, by rw [HC.out.2.2, HB.out, HMS.out]; simp, by go_num, HC.out.1⟩
                          case measure => omega
                    · obtain rfl : m = 4 := by omega
                      have HZ : Hid _ := hA
                      clear hA
                      go_wp2_with fail
                      go_meet
                      exact ⟨rfl, HZ.out⟩
                case rest =>
                  obtain ⟨rfl, hA⟩ := hcut
                  have hA6 : Hid _ := hA
                  have hh4 : hC ops ss (e : Int) ≤ 4 := cH_le ops ss (e : Int) 4
                  clear hA
                  by_cases h1 : 0 < hC ops ss (e : Int)
                  · by_cases h2 : hC ops ss (e : Int) < ss.length
                    · go_wp2_with fail
                      go_roundg (5 - (e + 1))
                      case rel => exact ⟨e + 1, by omega, rfl, rfl, by rw [HAS.out, if_pos ⟨h1, h2⟩]; rfl, by go_num, hA6.out⟩
                      case measure => omega
                    · go_wp2_with fail
                      go_roundg (5 - (e + 1))
                      case rel => exact ⟨e + 1, by omega, rfl, rfl, by rw [HAS.out, if_neg (fun h => h2 h.2)]; rfl, by go_num, hA6.out⟩
                      case measure => omega
                  · go_wp2_with fail
                    go_roundg (5 - (e + 1))
                    case rel => exact ⟨e + 1, by omega, rfl, rfl, by rw [HAS.out, if_neg (fun h => h1 h.1)]; rfl, by go_num, hA6.out⟩
                    case measure => omega
            · obtain rfl : e = 5 := by omega
              have HZ : Hid _ := hA
              clear hA
              go_wp2_with fail
              go_meet
              exact ⟨rfl, rfl, HZ.out⟩
        case rest =>
          obtain ⟨rfl, rfl, hA⟩ := hcut
          obtain ⟨_, hr, _, hbO, _⟩ := HR.out
          have hb2 : Below W5.heap.size W5 wc := hbO.trans (hA.below.mono hszN)
          have v6 : wc.cell? ⟨br, 6, none⟩ = some (.int .i64 (uC ops : Int)) := (hb2.cell (p := ⟨br, 6, none⟩) hbrl).trans (cellB hr rfl)
          have v7 : wc.cell? ⟨br, 7, none⟩ = some (.int .i64 (aC ops ss : Int)) := (hb2.cell (p := ⟨br, 7, none⟩) hbrl).trans (cellB hr rfl)
          have hfin : Below w.heap.size w wc := H5.out.2.2.1.trans (hb2.mono H5.out.2.2.1.size)
          have HF : Hid _ := hfin
          clear hr hbO hb2 hA hfin v0 v2 v8
          go_wp2_with fail
          go_ret
          exact ⟨rfl, HF.out⟩
end Go.Proofs.Ybulkbewa
