import Derived.Test.YbulkbewaReach
namespace Go.Proofs.Ybulkbewa
open Go.RowKit

def beforeP (d : DG) (fuel : Nat) : List Nat → WS → Int → Option (WS × Int)
  | [], s, z => some (s, z)
  | p :: ps, s, z =>
    match d.pastNode[p]? with
    | none => none
    | some nd => (reachP d fuel s nd).bind fun r => beforeP d fuel ps r.1 (max z r.2)

set_option maxHeartbeats 3200000 in
set_option maxRecDepth 100000 in
theorem before_any (B : Nat) (w0 w : World) (bc bE oE nE cE ev : Nat) (bw bd b2 b3 b4 b5 E n : Nat) (d : DG) (v0 v1 v2 v3 v4 vP : Value) (ps : List Nat) (s s' : WS) (vS : Value) (fuel : Nat) (l : Int)
    (hc : w0.cell? ⟨bc, 3, none⟩ = some (.slice (some ⟨bE, oE, none⟩) nE cE)) (hbc : bc < B) (hbE : bE < B) (hev : ev < nE)
    (hp : w0.cell? ⟨bE, oE + ev * 4 + 3, none⟩ = some vP) (hP : SlN B w0 vP ps)
    (hD : DRep B w0 bd d v0 v1 v2 v3 v4) (hR : WRep B w0 w bw bd b2 b3 b4 b5 E n s vS) (hB : WB B bw b2 b3 b4 b5) (hs : beforeP d fuel ps s (-1) = some (s', l)) :
    Calls Yba.prog 25 #[.pointer (some ⟨bc, 0, none⟩), .pointer (some ⟨bw, 0, none⟩), .int .i64 (ev : Int)] w fun e w' => e = .returned (.int .i64 l) ∧ ∃ vS', WRep B w0 w' bw bd b2 b3 b4 b5 E n s' vS' := by
  obtain ⟨aP, gP, oP, kP, rfl, hkP, hmP, haP, hcP⟩ := hP
  have c3 := (hR.below.cell (p := ⟨bc, 3, none⟩) hbc).trans hc
  have cP := (hR.below.cell (p := ⟨bE, oE + ev * 4 + 3, none⟩) hbE).trans hp
  have HR : Hid _ := And.intro hR (And.intro hD hs)
  have hbd := hD.lt
  replace hcP : Hid _ := hcP
  clear hR hD hs hc hp
  go_enter Yba.func25, Yba.ntmps25
  go_wp2
  go_loopw [7, 19] (fun z i wx => ∃ (k : Nat) (zz : Int) (s3 : WS) (vS3 : Value), k ≤ ps.length ∧ i = .int .i64 k ∧ z = .int .i64 zz ∧ WRep B w0 wx bw bd b2 b3 b4 b5 E n s3 vS3 ∧ beforeP d fuel (ps.drop k) s3 zz = some (s', l)) (fun _ i _ => ps.length - (intOf i).toNat)
  case atStart => exact ⟨0, -1, s, vS, Nat.zero_le _, rfl, rfl, HR.out.1, by simpa using HR.out.2.2⟩
  case round =>
    obtain ⟨k, zz, s3, vS3, hk, rfl, rfl, R, hrun⟩ := hrel
    by_cases hlt : k < ps.length
    · obtain ⟨rfl, hgP⟩ := haP (by omega)
      obtain ⟨x, hx⟩ : ∃ x, ps[k]? = some x := ⟨_, List.getElem?_eq_getElem hlt⟩
      have hdr : ps.drop k = x :: ps.drop (k + 1) := by
        obtain ⟨h1, h2⟩ := List.getElem?_eq_some_iff.1 hx
        rw [List.drop_eq_getElem_cons h1, h2]
      rw [hdr, beforeP] at hrun
      split at hrun
      · cases hrun
      · rename_i nd hnd
        simp only [Option.bind_eq_some_iff] at hrun
        obtain ⟨⟨s4, l4⟩, hreach, hrun⟩ := hrun
        obtain ⟨a0, g0, o0, k0, rfl, hk0, hm0, ha0, hc0⟩ := HR.out.2.1.s0
        have hxl : x < d.pastNode.length := (List.getElem?_eq_some_iff.1 hnd).1
        obtain ⟨rfl, hg0⟩ := ha0 (by omega)
        have xc : wr.cell? ⟨gP, oP + k, none⟩ = some (.int .i64 (x : Int)) := (R.below.cell (p := ⟨gP, oP + k, none⟩) hgP).trans (hcP.out k x hx)
        have p0 : wr.cell? ⟨bw, 0, none⟩ = some (.pointer (some ⟨bd, 0, none⟩)) := cellB R.c rfl
        have e0 := (R.below.cell (p := ⟨bd, 0, none⟩) hbd).trans HR.out.2.1.c0
        have e0a := (R.below.cell (p := ⟨g0, o0 + x, none⟩) hg0).trans (hc0 x nd hnd)
        have HK : Hid _ := And.intro R (And.intro hreach hrun)
        clear R hreach hrun hc0 hx hdr hnd c3 cP
        go_wp2_with fail
        refine (reach_any B w0 _ bw bd b2 b3 b4 b5 E n d _ v1 v2 v3 v4 s3 s4 vS3 nd fuel l4 HR.out.2.1 HK.out.1 hB HK.out.2.1).mono ?_
        rintro ez wv ⟨rfl, vS1, R1⟩
        replace R1 : Hid _ := R1
        clear xc p0 e0 e0a
        go_wp2
        go_roundw
        case rel => exact ⟨k + 1, max zz l4, s4, vS1, by omega, by go_num, rfl, R1.out, HK.out.2.2⟩
        case measure => simp [intOf]; omega
    · obtain rfl : k = ps.length := by omega
      rw [List.drop_length] at hrun
      simp only [beforeP, Option.some.injEq, Prod.mk.injEq] at hrun
      obtain ⟨rfl, rfl⟩ := hrun
      replace R : Hid _ := R
      go_wp2
      go_ret
      exact ⟨rfl, _, R.out⟩
end Go.Proofs.Ybulkbewa
