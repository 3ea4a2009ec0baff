/- Judge, as the law needs it: whatever lines it has seen. -/
import Derived.Test.YbulkbewaCNT
import Derived.Test.YbulkbewaJudge
import Derived.Test.YbulkbewaJudgeN
namespace Go.Proofs.Ybulkbewa
open Go.RowKit Go.Maps

def opsOf (rl : List (Int × Int × Bool)) : List (Int × Int × Bool) := rl.map fun o => (o.1 % 4, o.2.1 % 5, o.2.2)
def Bytes (rl : List (Int × Int × Bool)) : Prop := ∀ x ∈ rl, (0 ≤ x.1 ∧ x.1 ≤ 255) ∧ 0 ≤ x.2.1 ∧ x.2.1 ≤ 255
theorem Bytes.take {rl : List (Int × Int × Bool)} (h : Bytes rl) (k : Nat) : Bytes (rl.take k) := fun x hx => h x (List.mem_of_mem_take hx)
theorem ops_range {rl : List (Int × Int × Bool)} (h : Bytes rl) : ∀ o ∈ opsOf rl, (0 ≤ o.1 ∧ o.1 < 4) ∧ 0 ≤ o.2.1 ∧ o.2.1 < 5 := fun o ho => by
  obtain ⟨x, hx, rfl⟩ := List.mem_map.1 ho
  have := h x hx
  simp only
  omega
theorem row_cell {w : World} {B e sz g n cap : Nat} {xs : List Value} (h : w.ownsRow B e sz (.slice (some ⟨g, 0, none⟩) n cap) n xs) : ∀ (j : Nat) (v : Value), xs[j]? = some v → w.cell? ⟨g, j, none⟩ = some v ∧ g < w.heap.size := fun j v hj => by
  rcases h.2 with ⟨h1, _⟩ | ⟨g', cap', cur, h1, h2, h3, h4, h5, h6, h7⟩
  · cases h1
  · cases h1
    refine ⟨cellB h3 ?_, (Array.getElem?_eq_some_iff.1 h3).1⟩
    rw [← h7] at hj
    rw [List.getElem?_take] at hj
    split at hj
    · rw [← Array.getElem?_toList]; exact hj
    · cases hj
theorem KO.pos {K : KS} {ops : List (Int × Int × Bool)} (h : KO K ops) (hl : 0 < ops.length) : 0 < K.mem.length ∧ 0 < K.evs.length := by
  obtain ⟨o, ho⟩ := List.exists_mem_of_length_pos hl
  constructor
  · have := (h.1.mi o.1).2 ⟨o, ho, rfl⟩
    have := List.length_pos_of_mem this
    simpa using this
  · have := (h.1.ei o.2.1).2 ⟨o, ho, rfl⟩
    have := List.length_pos_of_mem this
    simpa using this
theorem KO.none {K : KS} (h : KO K []) : K.mem = [] ∧ K.evs = [] ∧ K.lines = 0 := by
  refine ⟨?_, ?_, h.2⟩
  · cases hm : K.mem with
    | nil => rfl
    | cons a l =>
      obtain ⟨o, ho, _⟩ := (h.1.mi a.id).1 (by rw [hm]; simp)
      cases ho
  · cases hm : K.evs with
    | nil => rfl
    | cons a l =>
      obtain ⟨o, ho, _⟩ := (h.1.ei a.id).1 (by rw [hm]; simp)
      cases ho
theorem KO.wf {K : KS} {ops : List (Int × Int × Bool)} (h : KO K ops) (hr : ∀ o ∈ ops, (0 ≤ o.1 ∧ o.1 < 4) ∧ 0 ≤ o.2.1 ∧ o.2.1 < 5) : ∀ mb ∈ K.mem, (Lit.int .i64 mb.id).wf = true := fun mb hm => by
  obtain ⟨o, ho, he⟩ := (h.1.mi mb.id).1 (List.mem_map.2 ⟨mb, hm, rfl⟩)
  have := (hr o ho).1
  exact Go.WalkArith.wf_i64 (by omega)
theorem aC_nil (ss : List Int) : aC [] ss = 0 := by
  have h : ∀ y, hC [] ss y = 0 := fun y => by simp [hC, bD]
  unfold aC
  rw [List.countP_eq_zero]
  intro y _
  simp [h]

theorem judge_law (B0 : Nat) (w0 w : World) (bc bi bm : Nat) (K : KS) (il ms : List (Int × Nat)) (V : Nat → Value) (X : Nat → List Nat) (vE vP : Value) (Di Dm : DataW Unit) (rl : List (Int × Int × Bool)) (svl : List Int) (sa : Option Addr) (sb so sc : Nat)
    (hK : KRep B0 w0 w bc bi bm K il ms V X vE vP Di Dm) (hO : KO K (opsOf rl)) (hn : rl.length ≤ 1024) (hby : Bytes rl) (hs : svl.length ≤ 1024) (hs1 : svl.length ≤ sc) (hs2 : sc ≤ 9223372036854775807)
    (hs3 : 0 < svl.length → sa = some ⟨sb, so, none⟩ ∧ sb < w.heap.size) (hs4 : ∀ (i : Nat) (x : Int), svl[i]? = some x → w.cell? ⟨sb, so + i, none⟩ = some (.int .i64 x) ∧ (Lit.int .i64 x).wf = true) :
    Calls Yba.prog 12 #[.pointer (some ⟨bc, 0, none⟩), .slice sa svl.length sc] w fun e w' => ∃ (br : Nat) (aD : Option Addr) (kD dup run : Nat), e = .returned (.pointer (some ⟨br, 0, none⟩)) ∧
      w'.heap[br]? = some (.cells #[.int .i64 ((iM.filter (bM (opsOf rl))).length : Int), .int .i64 (rl.length : Int), .int .i64 (dup : Int), .bool false, .int .i64 0, .int .i64 (run : Int), .int .i64 (uC (opsOf rl) : Int), .int .i64 (aC (opsOf rl) (ssOf svl) : Int), .slice aD (iM.filter (bM (opsOf rl))).length kD] 55 (0, 0)) ∧
      dup + sP (opsOf rl) 4 = tC (opsOf rl) ∧
      (∀ (j : Nat) (p : Int × Nat), ((iM.filter (bM (opsOf rl))).map fun z => (z, dC (opsOf rl) z))[j]? = some p → ∃ gD, aD = some ⟨gD, 0, none⟩ ∧ gD < w'.heap.size ∧ w'.cell? ⟨gD, j * 2, none⟩ = some (.int .i64 p.1) ∧ w'.cell? ⟨gD, j * 2 + 1, none⟩ = some (.int .i64 (p.2 : Int))) ∧
      Below w.heap.size w w' := by
  have hol : (opsOf rl).length = rl.length := by simp [opsOf]
  obtain ⟨d, hd, hdn, hml, hJ⟩ := hO.judged (by omega) (ops_range hby) svl (ssOf svl) (ssOf_facts svl).2
  by_cases hpos : 0 < rl.length
  · refine (judge_any _ _ _ bc bi bm _ _ _ _ _ _ _ _ _ svl (.slice sa svl.length sc) (ssOf svl).length 10000000000000 d hK (KO.pos hO (by omega)).1 (by have := (hO.cw (by omega) (ops_range hby)).2; omega) (by have := hO.2; omega) (by have := (hO.cw (by omega) (ops_range hby)).1.ne; omega) (KO.pos hO (by omega)).2
      ⟨sa, sb, so, sc, rfl, hs1, hs2, hs3, hs4⟩ (by omega) (fun u hu hm => ssOf_len svl u hu hm) (KO.wf hO (ops_range hby)) hd hdn (fun L h1 h2 => by
        obtain ⟨a, ha, _⟩ := hJ L h1 h2
        exact ⟨_, ha⟩)).mono ?_
    rintro _ W5 ⟨br, vD, L, ja, ju, jg, rfl, hL1, hL2, hj, hr, hD, hbr, hB5⟩
    obtain ⟨ja', hj2, hj3, hj4⟩ := hJ L hL1 hL2
    rw [hj2] at hj
    cases hj
    have hln : K.lines = rl.length := by have := hO.2; omega
    have hdl : ja.dlv.length = (iM.filter (bM (opsOf rl))).length := by rw [hj4]; simp
    have hmp : 0 < (iM.filter (bM (opsOf rl))).length := by rw [← hml]; exact (KO.pos hO (by omega)).1
    obtain ⟨gD, kD, rfl⟩ := Joins.ownsRow_form hD (by omega)
    have hrow := row_cell hD
    rw [hml, hln, hdl] at hr
    refine ⟨br, some ⟨gD, 0, none⟩, kD, ja.dup, ja.run, rfl, hr, hj3, fun j p hp => ?_, hB5⟩
    rw [← hj4] at hp
    have hcc := cntCells_get hp
    exact ⟨gD, rfl, (hrow _ _ hcc.1).2, (hrow _ _ hcc.1).1, (hrow _ _ hcc.2).1⟩
  · obtain rfl : rl = [] := by cases rl with | nil => rfl | cons a l => simp at hpos
    obtain ⟨e1, e2, e3⟩ := KO.none hO
    obtain ⟨ln, evs, mem, ps, inp⟩ := K
    simp only at e1 e2 e3
    subst e1 e2 e3
    refine (judge_none _ _ _ bc bi bm 0 ps inp _ _ _ _ _ _ _ _ svl (.slice sa svl.length sc) 10000000000000 d hK ⟨sa, sb, so, sc, rfl, hs1, hs2, hs3, hs4⟩ (by omega) hd hdn).mono ?_
    rintro _ W5 ⟨br, rfl, hr, hbr, hB5⟩
    refine ⟨br, none, 0, 0, 0, rfl, ?_, rfl, fun j p hp => by
      have hp' : ([] : List (Int × Nat))[j]? = some p := hp
      simp at hp', hB5⟩
    rw [show opsOf [] = [] from rfl, aC_nil]
    exact hr
end Go.Proofs.Ybulkbewa
