/- The proof of Rows.LawS2800CLikeSentCardSaid: the row by the walk (YbulkbeysDoorLike); the card by the builder's call, over the given tie. -/
import Derived.Test.YbulkbeysDoorLaid
import Derived.Test.YbulkbeysDoorTie
import Derived.Test.YbulkbeysDoorCards
import Derived.SevenTiedAt
import Derived.ProofKit
import Derived.OpenShut
import Derived.ShutString
import Derived.ChangeOld
import Derived.ChangeSame
import Derived.Below
namespace Go.Proofs.YbulkbeysDoor.lawS2800CLikeSentCard
open Go.ChangeShapes Go.WideShapes Go.ChangeAt Go.RowKit
open Go.ChangeMaps (open_string shut_string)
set_option linter.unusedVariables false

theorem i64_of {n : Int} (h : (Lit.int .i64 n).wf = true) : I64 n := by
  have := bounds_i64 h
  exact ⟨by omega, by omega⟩

set_option maxRecDepth 100000 in
theorem lifted (os : Os) (started : os.Started) (H : Type) (enc : TypeId × Value → H) :
    ReturnsInHanded {} Ybad.checked os 4 .any (fun w args => (Rows.lawS2800CLikeSentSpec.pre enc Ybad.prog Ybad.f4 [] false w args ∧ laidMet Ybad.prog Rows.lawS2800CLikeSentRow.laid w) ∧ sizedMet enc Ybad.prog Ybad.f4 (OpenSpec.ofChange Rows.lawS2800CLikeSentSpec) false w args)
      (Rows.lawS2800CLikeSentSpec.post enc Ybad.prog Ybad.f4 false true false false) := by
  refine returnsInHanded_of_change_and (C := Ybad.checked) (X := fun w _ => laidMet Ybad.prog Rows.lawS2800CLikeSentRow.laid w) (fun _ _ _ hh h => h.of_heap hh) own started (by kernel_rfl) Ybad.func4
    (ChangeSpec.witness_at (enc := enc) (C := Ybad.checked) (os := os) (X := fun w _ => laidMet Ybad.prog Rows.lawS2800CLikeSentRow.laid w) false ({ World.holding Ybad.prog os ⟨#[], #[], []⟩ with heap := (((World.holding Ybad.prog os ⟨#[], #[], []⟩).heap.modify 0 (putIn cellsP)).modify 1 (putIn cellsA)).modify 2 (putIn cellsC) }) #[.int .i64 0, .int .i64 0, .int .i64 0, .int .i64 0, .string ⟨#[]⟩] 8 rfl (by kernel_rfl) (by kernel_rfl) (by kernel_rfl) (by kernel_rfl) (by kernel_rfl)
      (laid_met os _)) ?_
  intro W base args ds gs before hval0 hW hcnd _ hL _
  have htab : Tab W := tab_of_laid hL
  have hval : ∀ (j : Nat) t v, Ybad.f4.params[j]? = some t → args[j]? = some v → Value.okWide Ybad.prog W .any base t v := hval0
  have hW' := hW
  obtain ⟨p, q, hA0, hV, rfl, hfz, hnd⟩ := hW
  have hA : DataW.TrodAll enc Ybad.prog W 0 (fun _ => true) true Ybad.f4.params.toList args.toList ds p := hA0
  rw [Ybad.params4] at hA hval
  obtain ⟨v0, vs0, d0, ds0, p0, q0, hargs, rfl, rfl, h0, r0⟩ := trodAll_cons hA
  obtain ⟨v1, vs1, d1, ds1, p1, q1, rfl, rfl, rfl, h1, r1⟩ := trodAll_cons r0
  obtain ⟨v2, vs2, d2, ds2, p2, q2, rfl, rfl, rfl, h2, r2⟩ := trodAll_cons r1
  obtain ⟨v3, vs3, d3, ds3, p3, q3, rfl, rfl, rfl, h3, r3⟩ := trodAll_cons r2
  obtain ⟨v4, vs4, d4, ds4, p4, q4, rfl, rfl, rfl, h4, r4⟩ := trodAll_cons r3
  obtain ⟨rfl, rfl, rfl⟩ := trodAll_nil r4
  obtain rfl : args = #[v0, v1, v2, v3, v4] := by cases args; simp_all
  obtain ⟨rfl, rfl⟩ := trodVars_none hV
  obtain ⟨a0, rfl, rfl, rfl, w0⟩ := open_int Ybad.underlying3 (hval 0 3 v0 rfl rfl) h0
  obtain ⟨a1, rfl, rfl, rfl, w1⟩ := open_int Ybad.underlying3 (hval 1 3 v1 rfl rfl) h1
  obtain ⟨a2, rfl, rfl, rfl, w2⟩ := open_int Ybad.underlying3 (hval 2 3 v2 rfl rfl) h2
  obtain ⟨a3, rfl, rfl, rfl, w3⟩ := open_int Ybad.underlying3 (hval 3 3 v3 rfl rfl) h3
  obtain ⟨file, rfl, rfl, rfl, hs⟩ := open_string Ybad.underlying9 (hval 4 9 v4 rfl rfl) h4
  clear hA0 hval0
  refine (likeSent W file a0 a1 a2 a3 (i64_of w0) (i64_of w1) (i64_of w2) (i64_of w3) hs htab).mono fun e W' ⟨he, bel⟩ => ?_
  subst he
  exact ⟨_, rfl, _, _, _, [], _, [], hW', trodAll_mk1 (shut_bool Ybad.underlying4 _), (trodAll_cons_mk (shut_int Ybad.underlying3 w0) (trodAll_cons_mk (shut_int Ybad.underlying3 w1) (trodAll_cons_mk (shut_int Ybad.underlying3 w2) (trodAll_cons_mk (shut_int Ybad.underlying3 w3) (trodAll_cons_mk (shut_string Ybad.underlying9 hs) trodAll_mk0))))), rfl, bel.frame _, fun h => by cases h⟩

theorem over : Rows.lawS2800CLikeSentRow.holds Ybad.pinned (OpenSpec.ofChange Rows.lawS2800CLikeSentSpec) :=
  OpenClaim.holds_of_wide 4 Ybad.f4 rfl rfl rfl rfl rfl rfl rfl ⟨rfl, rfl, rfl, rfl, rfl⟩ rfl rfl rfl rfl rfl (by kernel_rfl) Ybad.func4 (by kernel_rfl)
    (of_decide_eq_true (by kernel_rfl)) (by unfold Func.isWrapper; first | (rw [if_pos (by decide +kernel)]; kernel_rfl) | (rw [if_neg (by decide +kernel)]; exact ⟨rfl, rfl⟩))
    (fun os started H enc _ => lifted os started H enc)

theorem noStandIn : ∀ (j : Nat) (t : TypeId), Ybad.f4.params[j]? = some t → Ybad.prog.wantsStandIn t = false := fun j t ht => by
  rw [Ybad.params4] at ht
  have h : t = 3 ∨ t = 9 := by
    match j, ht with
    | 0, ht => exact .inl (by simpa using ht.symm)
    | 1, ht => exact .inl (by simpa using ht.symm)
    | 2, ht => exact .inl (by simpa using ht.symm)
    | 3, ht => exact .inl (by simpa using ht.symm)
    | 4, ht => exact .inr (by simpa using ht.symm)
    | j + 5, ht => simp at ht
  rcases h with rfl | rfl
  · exact (show Ybad.prog.wantsStandIn 3 = false by kernel_rfl)
  · exact (show Ybad.prog.wantsStandIn 9 = false by kernel_rfl)

/-- ████ THE STATEMENT ████ -/
theorem proved : Rows.LawS2800CLikeSentCardSaid :=
  Claim7.holds_tied_plain_at .later [] [.data, .data, .data] true (true, "41d5af3eff387b361400c1786695306e4ef807b9a2df64851915f16b2e19b4e3") false
    over (fun _ h => by cases h) (by kernel_rfl) (fun _ h => by cases h) lawS2800CLikeSent_row_tie rfl ⟨rfl, rfl⟩ (by kernel_rfl) rfl
    (fun f fn hf hfn => by
      obtain rfl : f = 4 := Option.some.inj ((show Ybad.prog.funcNamed Rows.lawS2800CLikeSentRow.func = some 4 by kernel_rfl).symm.trans hf) |>.symm
      obtain rfl : fn = Ybad.f4 := (Option.some.inj (Ybad.func4.symm.trans hfn)).symm
      exact ⟨by kernel_rfl, noStandIn⟩)
    (by kernel_rfl)
end Go.Proofs.YbulkbeysDoor.lawS2800CLikeSentCard
