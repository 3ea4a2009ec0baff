/- The proof of Rows.LawS2800CRecordCardSaid: the row by the walk (YbulkbeysDoorRec); the card by the builder's call, over the given tie. -/
import Derived.Test.YbulkbeysDoorLaid
import Derived.Test.YbulkbeysDoorRec
import Derived.Test.YbulkbeysDoorTie
import Derived.Test.YbulkbeysDoorCards
import Derived.SevenTiedAt
import Derived.ProofKit
import Derived.OpenShut
import Derived.ShutString
import Derived.ChangeOld
import Derived.ChangeSame
import Derived.Below
namespace Go.Proofs.YbulkbeysDoor.lawS2800CRecordCard
open Go.ChangeShapes Go.WideShapes Go.ChangeAt Go.RowKit
open Go.ChangeMaps (open_string shut_string)
set_option linter.unusedVariables false

theorem i64_of {n : Int} (h : (Lit.int .i64 n).wf = true) : I64 n := by
  have := bounds_i64 h
  exact ⟨by omega, by omega⟩

set_option maxRecDepth 100000 in
theorem lifted (os : Os) (started : os.Started) (H : Type) (enc : TypeId × Value → H) :
    ReturnsInHanded {} Ybad.checked os 3 .any (fun w args => (Rows.lawS2800CRecordSpec.pre enc Ybad.prog Ybad.f3 [] false w args ∧ laidMet Ybad.prog Rows.lawS2800CRecordRow.laid w) ∧ sizedMet enc Ybad.prog Ybad.f3 (OpenSpec.ofChange Rows.lawS2800CRecordSpec) false w args)
      (Rows.lawS2800CRecordSpec.post enc Ybad.prog Ybad.f3 false true false false) := by
  refine returnsInHanded_of_change_and (C := Ybad.checked) (X := fun w _ => laidMet Ybad.prog Rows.lawS2800CRecordRow.laid w) (fun _ _ _ hh h => h.of_heap hh) own started (by kernel_rfl) Ybad.func3
    (ChangeSpec.witness_at (enc := enc) (C := Ybad.checked) (os := os) (X := fun w _ => laidMet Ybad.prog Rows.lawS2800CRecordRow.laid w) false ({ World.holding Ybad.prog os ⟨#[], #[], []⟩ with heap := (((World.holding Ybad.prog os ⟨#[], #[], []⟩).heap.modify 0 (putIn cellsP)).modify 1 (putIn cellsA)).modify 2 (putIn cellsC) }) #[.slice none 0 0, .int .i64 0, .int .i64 0, .int .i64 0, .int .i64 0, .string ⟨#[]⟩] 8 rfl (by kernel_rfl) (by kernel_rfl) (by kernel_rfl) (by kernel_rfl) (by kernel_rfl)
      (laid_met os _)) ?_
  intro W base args ds gs before hval0 hW hcnd _ hL _
  have htab : Tab W := tab_of_laid hL
  have hval : ∀ (j : Nat) t v, Ybad.f3.params[j]? = some t → args[j]? = some v → Value.okWide Ybad.prog W .any base t v := hval0
  have hW' := hW
  obtain ⟨p, q, hA0, hV, rfl, hfz, hnd⟩ := hW
  have hA : DataW.TrodAll enc Ybad.prog W 0 (fun _ => true) true Ybad.f3.params.toList args.toList ds p := hA0
  rw [Ybad.params3] at hA hval
  obtain ⟨v0, vs0, d0, ds0, p0, q0, hargs, rfl, rfl, h0, r0⟩ := trodAll_cons hA
  obtain ⟨v1, vs1, d1, ds1, p1, q1, rfl, rfl, rfl, h1, r1⟩ := trodAll_cons r0
  obtain ⟨v2, vs2, d2, ds2, p2, q2, rfl, rfl, rfl, h2, r2⟩ := trodAll_cons r1
  obtain ⟨v3, vs3, d3, ds3, p3, q3, rfl, rfl, rfl, h3, r3⟩ := trodAll_cons r2
  obtain ⟨v4, vs4, d4, ds4, p4, q4, rfl, rfl, rfl, h4, r4⟩ := trodAll_cons r3
  obtain ⟨v5, vs5, d5, ds5, p5, q5, rfl, rfl, rfl, h5, r5⟩ := trodAll_cons r4
  obtain ⟨rfl, rfl, rfl⟩ := trodAll_nil r5
  obtain rfl : args = #[v0, v1, v2, v3, v4, v5] := by cases args; simp_all
  obtain ⟨rfl, rfl⟩ := trodVars_none hV
  obtain ⟨a0, len0, cap0, rfl⟩ := okWide_slice Ybad.underlying22 (hval 0 22 v0 rfl rfl)
  have k0 := h0
  have lt0 : ∀ x ∈ p0, x.block < W.heap.size := by obtain ⟨m, hm⟩ := k0; exact DataW.trod_lt m _ _ _ hm
  obtain ⟨pl, hpl, hnone, h63, hcell⟩ : ∃ pl : List UInt8, pl.length = len0 ∧ (a0 = none → len0 = 0 ∧ cap0 = 0) ∧ len0 ≤ maxLen ∧ ∀ ad, a0 = some ad → ∀ j u, (Lib.byteCells pl)[j]? = some u → W.cell? (ad.add j) = some u := by
    obtain ⟨fuel, hf⟩ := h0
    rcases open_ints Ybad.underlying22 Ybad.underlying5 (by kernel_rfl) hf with ⟨hcs, _⟩ | ⟨x, l, c, zs, hcs, _, hl, hm, hz, _, hcell, hwz⟩
    · simp [Value.cells] at hcs
      obtain ⟨rfl, rfl, rfl⟩ := hcs
      exact ⟨[], rfl, fun _ => ⟨rfl, rfl⟩, Nat.zero_le _, fun ad h => by cases h⟩
    · simp [Value.cells] at hcs
      obtain ⟨rfl, rfl, rfl⟩ := hcs
      have hz' : zs.length = cap0 := by simpa using hz
      refine ⟨(zs.take len0).map fun z => UInt8.ofNat z.toNat, by simp; omega, fun h => (by cases h), Nat.le_trans hl hm, fun ad h => ?_⟩
      cases h
      intro j u hj
      have hjl : j < len0 := by
        have := (List.getElem?_eq_some_iff.1 hj).1
        simp [Lib.byteCells] at this
        omega
      have hjz : j < zs.length := by omega
      rw [hcell j hjz, ← hj]
      have hw := bounds_u8 (hwz (zs.getD j 0) (by simp only [List.getD_eq_getElem?_getD]; rw [List.getElem?_eq_getElem hjz]; exact List.getElem_mem _))
      have hg : zs.getD j 0 = zs[j] := by simp [List.getD, hjz]
      rw [hg] at hw ⊢
      have ht : (UInt8.ofNat zs[j].toNat).toNat = zs[j].toNat := by rw [UInt8.toNat_ofNat']; omega
      simp only [Lib.byteCells, List.getElem?_map, List.getElem?_take, if_pos hjl, List.getElem?_eq_getElem hjz, Option.map_some, ht]
      rw [Int.toNat_of_nonneg hw.1]
  have hblk : ∀ ad, a0 = some ad → 0 < len0 → ad.block < W.heap.size := fun ad h hp => by
    have := hcell ad h 0 _ (List.getElem?_eq_getElem (by rw [Lib.byteCells_length]; omega))
    rw [show ad.add 0 = ad by cases ad; simp [Addr.add]] at this
    exact World.block_lt_of_cell? W _ this
  obtain ⟨a1, rfl, rfl, rfl, w1⟩ := open_int Ybad.underlying3 (hval 1 3 v1 rfl rfl) h1
  obtain ⟨a2, rfl, rfl, rfl, w2⟩ := open_int Ybad.underlying3 (hval 2 3 v2 rfl rfl) h2
  obtain ⟨a3, rfl, rfl, rfl, w3⟩ := open_int Ybad.underlying3 (hval 3 3 v3 rfl rfl) h3
  obtain ⟨a4, rfl, rfl, rfl, w4⟩ := open_int Ybad.underlying3 (hval 4 3 v4 rfl rfl) h4
  obtain ⟨file, rfl, rfl, rfl, hs⟩ := open_string Ybad.underlying9 (hval 5 9 v5 rfl rfl) h5
  clear hA0 hval0
  refine (record W a0 len0 cap0 pl hpl hnone h63 (fun ad h => ⟨hblk ad h, hcell ad h⟩) file a1 a2 a3 a4 (i64_of w1) (i64_of w2) (i64_of w3) (i64_of w4) hs htab).mono fun e W' ⟨he, bel⟩ => ?_
  subst he
  exact ⟨_, rfl, _, _, _, [], _, [], hW', trodAll_mk1 (shut_bool Ybad.underlying4 _), (trodAll_cons_mk (Below.trod laidOut (by kernel_rfl) (of_decide_eq_true (by kernel_rfl)) k0 bel lt0) (trodAll_cons_mk (shut_int Ybad.underlying3 w1) (trodAll_cons_mk (shut_int Ybad.underlying3 w2) (trodAll_cons_mk (shut_int Ybad.underlying3 w3) (trodAll_cons_mk (shut_int Ybad.underlying3 w4) (trodAll_cons_mk (shut_string Ybad.underlying9 hs) trodAll_mk0)))))), rfl, bel.frame _, fun h => by cases h⟩

theorem over : Rows.lawS2800CRecordRow.holds Ybad.pinned (OpenSpec.ofChange Rows.lawS2800CRecordSpec) :=
  OpenClaim.holds_of_wide 3 Ybad.f3 rfl rfl rfl rfl rfl rfl rfl ⟨rfl, rfl, rfl, rfl, rfl⟩ rfl rfl rfl rfl rfl (by kernel_rfl) Ybad.func3 (by kernel_rfl)
    (of_decide_eq_true (by kernel_rfl)) (by unfold Func.isWrapper; first | (rw [if_pos (by decide +kernel)]; kernel_rfl) | (rw [if_neg (by decide +kernel)]; exact ⟨rfl, rfl⟩))
    (fun os started H enc _ => lifted os started H enc)

theorem noStandIn : ∀ (j : Nat) (t : TypeId), Ybad.f3.params[j]? = some t → Ybad.prog.wantsStandIn t = false := fun j t ht => by
  rw [Ybad.params3] at ht
  have h : t = 22 ∨ t = 3 ∨ t = 9 := by
    match j, ht with
    | 0, ht => exact .inl (by simpa using ht.symm)
    | 1, ht => exact .inr (.inl (by simpa using ht.symm))
    | 2, ht => exact .inr (.inl (by simpa using ht.symm))
    | 3, ht => exact .inr (.inl (by simpa using ht.symm))
    | 4, ht => exact .inr (.inl (by simpa using ht.symm))
    | 5, ht => exact .inr (.inr (by simpa using ht.symm))
    | j + 6, ht => simp at ht
  rcases h with rfl | rfl | rfl
  · exact (show Ybad.prog.wantsStandIn 22 = false by kernel_rfl)
  · exact (show Ybad.prog.wantsStandIn 3 = false by kernel_rfl)
  · exact (show Ybad.prog.wantsStandIn 9 = false by kernel_rfl)

/-- ████ THE STATEMENT ████ -/
theorem proved : Rows.LawS2800CRecordCardSaid :=
  Claim7.holds_tied_plain_at .later [] [.data, .data, .data] true (true, "41d5af3eff387b361400c1786695306e4ef807b9a2df64851915f16b2e19b4e3") false
    over (fun _ h => by cases h) (by kernel_rfl) (fun _ h => by cases h) lawS2800CRecord_row_tie rfl ⟨rfl, rfl⟩ (by kernel_rfl) rfl
    (fun f fn hf hfn => by
      obtain rfl : f = 3 := Option.some.inj ((show Ybad.prog.funcNamed Rows.lawS2800CRecordRow.func = some 3 by kernel_rfl).symm.trans hf) |>.symm
      obtain rfl : fn = Ybad.f3 := (Option.some.inj (Ybad.func3.symm.trans hfn)).symm
      exact ⟨by kernel_rfl, noStandIn⟩)
    (by kernel_rfl)
end Go.Proofs.YbulkbeysDoor.lawS2800CRecordCard
