/- the walk of LawS2795CRunOrder (function 7). -/
import Derived.Test.YbulkbewaRunPlain
import Derived.Test.YbulkbewaNew
import Derived.Test.YbulkbewaJudge
import Derived.Test.YbulkbewaRows
import Derived.Laws.BitsAllLaws
namespace Go.Proofs.Ybulkbewa
open Go.RowKit Go.Maps
theorem xor1_ne (a : Int) : bits .xor .i64 a 1 ≠ a := by
  intro h
  have h1 : IntKind.i64.wrap (((BitVec.ofInt 64 a ^^^ BitVec.ofInt 64 1).toNat : Nat) : Int) = a := h
  have h2 : BitVec.ofInt 64 (IntKind.i64.wrap (((BitVec.ofInt 64 a ^^^ BitVec.ofInt 64 1).toNat : Nat) : Int)) = BitVec.ofInt 64 a ^^^ BitVec.ofInt 64 1 := by
    generalize (BitVec.ofInt 64 a ^^^ BitVec.ofInt 64 1) = v
    apply BitVec.eq_of_toNat_eq
    rw [IntKind.wrap_i64, BitVec.toNat_ofInt]
    have := v.isLt
    omega
  rw [h1] at h2
  have h3 : BitVec.ofInt 64 1 = 0#64 := by
    have h4 : BitVec.ofInt 64 a ^^^ BitVec.ofInt 64 a = BitVec.ofInt 64 a ^^^ (BitVec.ofInt 64 a ^^^ BitVec.ofInt 64 1) := congrArg (BitVec.ofInt 64 a ^^^ ·) h2
    rw [BitVec.xor_self, ← BitVec.xor_assoc, BitVec.xor_self, BitVec.zero_xor] at h4
    exact h4.symm
  exact absurd h3 (by decide)
theorem xor1_wf (a : Int) : (Lit.int .i64 (bits .xor .i64 a 1)).wf = true := by
  have : bits .xor .i64 a 1 = IntKind.i64.wrap (((BitVec.ofInt 64 a ^^^ BitVec.ofInt 64 1).toNat : Nat) : Int) := rfl
  rw [this, IntKind.wrap_i64]
  apply Go.WalkArith.wf_i64 <;> omega
theorem small (a1 a2 : Int) (w1 : (Lit.int .u8 a1).wf = true) (w2 : (Lit.int .u8 a2).wf = true) : 0 ≤ a1 ∧ a1 ≤ 255 ∧ 0 ≤ a2 ∧ a2 ≤ 255 := by
  simp [Lit.wf, IntKind.min, IntKind.max, IntKind.signed, IntKind.bits] at w1 w2
  omega
theorem permTwo {x y ea eb : Int} {b : Bool} {L : List MB} (h : L.Perm (KD x y ea eb b).mem) : L = (KD x y ea eb b).mem ∨ L = (KD x y ea eb b).mem.reverse := by
  have hl := h.length_eq
  obtain ⟨p, q, hm⟩ : ∃ p q, (KD x y ea eb b).mem = [p, q] := ⟨_, _, rfl⟩
  rw [hm] at h hl ⊢
  match L, hl with
  | [a, c], _ =>
    have ha : a ∈ [p, q] := h.subset (by simp)
    rcases List.mem_cons.1 ha with rfl | ha
    · have := (List.perm_cons a).1 h
      left
      rw [List.perm_singleton.1 this]
    · obtain rfl : a = q := by simpa using ha
      have h2 : [a, c].Perm [a, p] := h.trans (List.Perm.swap a p [])
      have := (List.perm_cons a).1 h2
      right
      rw [List.perm_singleton.1 this]
      rfl
theorem judgeAll (x y ea eb : Int) (b : Bool) : ∀ L : List MB, L.Perm (KD x y ea eb b).mem → L.Pairwise (fun a b => a.id < b.id) → ∃ R, judgeP (KD x y ea eb b) dagD 20 (fun z => decide (z ∈ ([] : List Int))) 0 L = some R := by
  intro L h _
  have e : (fun z : Int => decide (z ∈ ([] : List Int))) = fun _ => false := by funext z; simp
  rw [e]
  rcases permTwo h with rfl | rfl
  · obtain ⟨a, h, _⟩ := judgeD1 x y ea eb b
    exact ⟨_, h⟩
  · obtain ⟨a, h, _⟩ := judgeD2 x y ea eb b
    exact ⟨_, h⟩
theorem judgeOne {x y ea eb : Int} {b : Bool} {L : List MB} {a : JA} {u g : Nat} (h : L.Perm (KD x y ea eb b).mem) (hJ : judgeP (KD x y ea eb b) dagD 20 (fun z => decide (z ∈ ([] : List Int))) 0 L = some (a, u, g)) : a.dup = 0 ∧ a.run = (if b then 1 else 0) ∧ u = 2 ∧ g = 0 := by
  have e : (fun z : Int => decide (z ∈ ([] : List Int))) = fun _ => false := by funext z; simp
  rw [e] at hJ
  rcases permTwo h with rfl | rfl
  · obtain ⟨a', h, h1, h2⟩ := judgeD1 x y ea eb b
    rw [h] at hJ
    cases hJ
    exact ⟨h1, h2, rfl, rfl⟩
  · obtain ⟨a', h, h1, h2⟩ := judgeD2 x y ea eb b
    rw [h] at hJ
    cases hJ
    exact ⟨h1, h2, rfl, rfl⟩
set_option maxHeartbeats 1600000 in
set_option maxRecDepth 100000 in
theorem walk7 (a0 : Int) (a1 : Int) (a2 : Int) (a3 : Bool) (w0 : (Lit.int .i64 a0).wf = true) (w1 : (Lit.int .u8 a1).wf = true) (w2 : (Lit.int .u8 a2).wf = true) (w : World) :
    Calls Yba.prog 7 #[.int .i64 a0, .int .u8 a1, .int .u8 a2, .bool a3] w fun e w' => e = .returned (.bool true) ∧ Below w.heap.size w w' := by
  obtain ⟨s1, s2, s3, s4⟩ := small a1 a2 w1 w2
  have e1 : a1.tmod 8 = a1 % 8 := Int.tmod_eq_emod_of_nonneg s1
  have e2 : a2.tmod 7 = a2 % 7 := Int.tmod_eq_emod_of_nonneg s3
  have e3 : (a1.tmod 8 + 1 + a2.tmod 7).tmod 8 = (a1.tmod 8 + 1 + a2.tmod 7) % 8 := Int.tmod_eq_emod_of_nonneg (by rw [e1, e2]; omega)
  have hne : a1 % 8 ≠ (a1 % 8 + 1 + a2 % 7) % 8 := by omega
  have hxy : a0 ≠ bits .xor .i64 a0 1 := (xor1_ne a0).symm
  have wy : (Lit.int .i64 (bits .xor .i64 a0 1)).wf = true := xor1_wf a0
  have wea : (Lit.int .i64 (a1 % 8)).wf = true := Go.WalkArith.wf_i64 (by omega)
  have web : (Lit.int .i64 ((a1 % 8 + 1 + a2 % 7) % 8)).wf = true := Go.WalkArith.wf_i64 (by omega)
  go_enter Yba.func7, Yba.ntmps7
  go_wp2_with fail
  generalize hea : a1 % 8 = ea at *
  generalize heb : (ea + 1 + a2 % 7) % 8 = eb at *
  refine (new_any _).mono ?_
  rintro _ wN ⟨bc, bi, bm, rfl, K0⟩
  go_wp2_with fail
  refine (add_any _ _ _ bc bi bm _ _ _ _ _ _ _ _ _ _ _ false 0 0 K0 w0 wea (addA _ _)).mono ?_
  rintro _ W1 ⟨rfl, ms1, V1, X1, vE1, vP1, Di1, Dm1, K1⟩
  go_wp2_with fail
  refine (add_any _ _ _ bc bi bm _ _ _ _ _ _ _ _ _ _ _ true 0 1 K1 w0 web (addB _ _ _ hne)).mono ?_
  rintro _ W2 ⟨rfl, ms2, V2, X2, vE2, vP2, Di2, Dm2, K2⟩
  cases a3
  case false =>
    go_wp2_with fail
    refine (add_any _ _ _ bc bi bm _ _ _ _ _ _ _ _ _ _ _ false 1 0 K2 wy wea (addC _ _ _ _ hne hxy false)).mono ?_
    rintro _ W3 ⟨rfl, ms3, V3, X3, vE3, vP3, Di3, Dm3, K3⟩
    go_wp2_with fail
    refine (add_any _ _ _ bc bi bm _ _ _ _ _ _ _ _ _ _ _ false 1 1 K3 wy web (addD _ _ _ _ hne hxy false)).mono ?_
    rintro _ W4 ⟨rfl, ms4, V4, X4, vE4, vP4, Di4, Dm4, K4⟩
    go_wp2_with fail
    refine (judge_any _ _ _ bc bi bm _ _ _ _ _ _ _ _ _ [] (.slice none 0 0) 0 20 dagD K4 (show 0 < 2 by decide) (show 2 ≤ 12 by decide) (show 4 < 1000000000 by decide) (show 2 < 1000000000 by decide) (show 0 < 2 by decide) ⟨none, 0, 0, 0, rfl, by simp, by simp, by simp, by simp⟩ (by simp) ?_ ?_ (condD _ _ _ _ false) (by decide) ?_).mono ?_
    · intro u _ h
      cases u with
      | nil => rfl
      | cons z u => exact absurd ((h z).1 (by simp)) (by simp)
    · intro mb h
      simp [KD] at h
      rcases h with rfl | rfl
      · exact w0
      · exact wy
    · exact judgeAll _ _ _ _ false
    rintro _ W5 ⟨br, vD, L, a, u, g, rfl, hL1, hL2, hJ, hr, _, _, hB⟩
    obtain ⟨j1, j2, rfl, rfl⟩ := judgeOne hL1 hJ
    have hr' : W5.heap[br]? = some (.cells #[.int .i64 2, .int .i64 4, .int .i64 0, .bool false, .int .i64 0, .int .i64 0, .int .i64 2, .int .i64 0, vD] 55 (0, 0)) := by
      rw [j1, j2] at hr
      exact hr
    have d0 : W5.cell? ⟨br, 0, none⟩ = some (.int .i64 2) := cellB hr' rfl
    have d1 : W5.cell? ⟨br, 1, none⟩ = some (.int .i64 4) := cellB hr' rfl
    have d2 : W5.cell? ⟨br, 2, none⟩ = some (.int .i64 0) := cellB hr' rfl
    have d5 : W5.cell? ⟨br, 5, none⟩ = some (.int .i64 0) := cellB hr' rfl
    have d6 : W5.cell? ⟨br, 6, none⟩ = some (.int .i64 2) := cellB hr' rfl
    have d7 : W5.cell? ⟨br, 7, none⟩ = some (.int .i64 0) := cellB hr' rfl
    have hG : Below w.heap.size w W5 := K4.below.trans (hB.mono K4.below.size)
    clear hL1 hL2 hJ hr hr' j1 j2 K0 K1 K2 K3 K4
    go_wp2_with fail
    go_ret
    exact ⟨rfl, hG⟩
  case true =>
    go_wp2_with fail
    refine (add_any _ _ _ bc bi bm _ _ _ _ _ _ _ _ _ _ _ false 1 1 K2 wy web (addC _ _ _ _ hne hxy true)).mono ?_
    rintro _ W3 ⟨rfl, ms3, V3, X3, vE3, vP3, Di3, Dm3, K3⟩
    go_wp2_with fail
    refine (add_any _ _ _ bc bi bm _ _ _ _ _ _ _ _ _ _ _ false 1 0 K3 wy wea (addD _ _ _ _ hne hxy true)).mono ?_
    rintro _ W4 ⟨rfl, ms4, V4, X4, vE4, vP4, Di4, Dm4, K4⟩
    go_wp2_with fail
    refine (judge_any _ _ _ bc bi bm _ _ _ _ _ _ _ _ _ [] (.slice none 0 0) 0 20 dagD K4 (show 0 < 2 by decide) (show 2 ≤ 12 by decide) (show 4 < 1000000000 by decide) (show 2 < 1000000000 by decide) (show 0 < 2 by decide) ⟨none, 0, 0, 0, rfl, by simp, by simp, by simp, by simp⟩ (by simp) ?_ ?_ (condD _ _ _ _ true) (by decide) ?_).mono ?_
    · intro u _ h
      cases u with
      | nil => rfl
      | cons z u => exact absurd ((h z).1 (by simp)) (by simp)
    · intro mb h
      simp [KD] at h
      rcases h with rfl | rfl
      · exact w0
      · exact wy
    · exact judgeAll _ _ _ _ true
    rintro _ W5 ⟨br, vD, L, a, u, g, rfl, hL1, hL2, hJ, hr, _, _, hB⟩
    obtain ⟨j1, j2, rfl, rfl⟩ := judgeOne hL1 hJ
    have hr' : W5.heap[br]? = some (.cells #[.int .i64 2, .int .i64 4, .int .i64 0, .bool false, .int .i64 0, .int .i64 1, .int .i64 2, .int .i64 0, vD] 55 (0, 0)) := by
      rw [j1, j2] at hr
      exact hr
    have d0 : W5.cell? ⟨br, 0, none⟩ = some (.int .i64 2) := cellB hr' rfl
    have d1 : W5.cell? ⟨br, 1, none⟩ = some (.int .i64 4) := cellB hr' rfl
    have d2 : W5.cell? ⟨br, 2, none⟩ = some (.int .i64 0) := cellB hr' rfl
    have d5 : W5.cell? ⟨br, 5, none⟩ = some (.int .i64 1) := cellB hr' rfl
    have d6 : W5.cell? ⟨br, 6, none⟩ = some (.int .i64 2) := cellB hr' rfl
    have d7 : W5.cell? ⟨br, 7, none⟩ = some (.int .i64 0) := cellB hr' rfl
    have hG : Below w.heap.size w W5 := K4.below.trans (hB.mono K4.below.size)
    clear hL1 hL2 hJ hr hr' j1 j2 K0 K1 K2 K3 K4
    go_wp2_with fail
    go_ret
    exact ⟨rfl, hG⟩
end Go.Proofs.Ybulkbewa
