/- the arguments of LawS2795CCounts, opened; the walk beyond 1024. -/
import Derived.Test.YbulkbewaCWalk
import Derived.ProofKit
import Derived.OpenShut
import Derived.ChangeOld
import Derived.Below
import Derived.Deep.SlicePairs
namespace Go.Proofs.Ybulkbewa
open Go.ChangeShapes Go.WideShapes Go.ChangeAt Go.RowKit Go.Deep

theorem cells49 : Yba.prog.cellsOf 49 = 3 := by kernel_rfl
theorem cells3 : Yba.prog.cellsOf 3 = 1 := by kernel_rfl
theorem cells4 : Yba.prog.cellsOf 4 = 1 := by kernel_rfl
theorem cells5' : Yba.prog.cellsOf 5 = 1 := by kernel_rfl

theorem addr_lit {w : World} {a : Addr} {v : Value} (h : w.cell? (a.add 0) = some v) : ∃ b off, a = ⟨b, off, none⟩ := by
  obtain ⟨b, off, spot⟩ := a
  have hspot : spot = none := by simpa [Addr.add] using World.cell?_spot h
  subst hspot
  exact ⟨b, off, rfl⟩
theorem cell_lt {w : World} {b o : Nat} {v : Value} (h : w.cell? ⟨b, o, none⟩ = some v) : b < w.heap.size := World.block_lt_of_cell? w _ h
theorem byte_range {z : Int} (h : (Lit.int .u8 z).wf = true) : 0 ≤ z ∧ z ≤ 255 := by
  simp [Lit.wf, IntKind.min, IntKind.max, IntKind.signed, IntKind.bits] at h
  omega

set_option maxRecDepth 100000 in
/-- the lines -/
theorem ops_open {H : Type} {enc : TypeId × Value → H} {W : World} {fuel : Nat} {a0 : Option Addr} {n c0 : Nat} {x : DataW H × List MemPlace}
    (h : DataW.trod enc Yba.prog W 0 (fun _ => true) true fuel 45 [.slice a0 n c0] = some x) : ∃ rl : List (Int × Int × Bool), rl.length = n ∧ RO W (.slice a0 n c0) rl := by
  rcases open_slice Yba.underlying45 h with ⟨hcs, _⟩ | ⟨a, len, cap, m, k, D, Pl, hcs, _, hl, hm, hmm, _, hx⟩
  · simp at hcs
    obtain ⟨rfl, rfl, rfl⟩ := hcs
    exact ⟨[], rfl, none, 0, 0, 0, rfl, Nat.le_refl _, by omega, fun h => absurd h (Nat.lt_irrefl _), fun i x h => by simp at h⟩
  · simp at hcs
    obtain ⟨rfl, rfl, rfl⟩ := hcs
    have hmc : m = c0 := by simpa using hmm
    have each : ∀ i, i < n → ∃ q : Int × Int × Bool, W.cell? (a.add (i * 3)) = some (.int .u8 q.1) ∧ W.cell? (a.add (i * 3 + 1)) = some (.int .u8 q.2.1) ∧ W.cell? (a.add (i * 3 + 2)) = some (.bool q.2.2) ∧ (0 ≤ q.1 ∧ q.1 ≤ 255) ∧ 0 ≤ q.2.1 ∧ q.2.1 ≤ 255 := by
      intro i hi
      obtain ⟨cs', h1, h2⟩ := hx i (by omega)
      rw [cells49] at h1
      obtain ⟨_, hlen, hcell⟩ := World.cells?_some h1
      obtain ⟨xs, k', hk, hxy, _, hxl, hf⟩ := DataW.trod_struct Yba.underlying49 h2
      match xs, hxl, cs', hlen with
      | [y0, y1, y2], _, [v0, v1, v2], _ =>
        have g0 := hf 0 _ rfl
        have g1 := hf 1 _ rfl
        have g2 := hf 2 _ rfl
        simp [cells5', cells4] at g0 g1 g2
        have e0 := hcell 0 (by omega)
        have e1 := hcell 1 (by omega)
        have e2 := hcell 2 (by omega)
        rw [add_add] at e0 e1 e2
        obtain ⟨z0, hz0, _, hw0⟩ := DataW.trod_int Yba.underlying5 g0
        obtain ⟨z1, hz1, _, hw1⟩ := DataW.trod_int Yba.underlying5 g1
        obtain ⟨z2, hz2, _⟩ := DataW.trod_bool Yba.underlying4 g2
        simp at hz0 hz1 hz2
        subst hz0 hz1 hz2
        exact ⟨(z0, z1, z2), by simpa using e0, by simpa using e1, by simpa using e2, byte_range hw0, byte_range hw1⟩
    obtain ⟨q, hq⟩ := choose_lt each
    refine ⟨(List.range n).map q, by simp, ?_⟩
    by_cases hp : 0 < n
    · obtain ⟨b, off, rfl⟩ := addr_lit (by have := (hq 0 hp).1; simpa using this)
      refine ⟨_, b, off, c0, by simp, by simpa using hl, hm, fun _ => ⟨rfl, ?_⟩, fun i x hi => ?_⟩
      · have := (hq 0 hp).1
        rw [Addr.add_lit] at this
        exact cell_lt this
      · have hin : i < n := by
          have := (List.getElem?_eq_some_iff.1 hi).1
          simpa using this
        have hxq : x = q i := by simpa [hin] using hi.symm
        obtain ⟨h1, h2, h3, h4, h5⟩ := hq i hin
        rw [Addr.add_lit] at h1 h2 h3
        rw [hxq]
        exact ⟨h1, h2, h3, h4, h5⟩
    · obtain rfl : n = 0 := by omega
      exact ⟨some a, 0, 0, c0, by simp, by simp, hm, fun h => by simp at h, fun i x hi => by simp at hi⟩

/-- the survivors -/
theorem surv_open {H : Type} {enc : TypeId × Value → H} {W : World} {fuel : Nat} {a1 : Option Addr} {m c1 : Nat} {x : DataW H × List MemPlace}
    (h : DataW.trod enc Yba.prog W 0 (fun _ => true) true fuel 39 [.slice a1 m c1] = some x) : ∃ svl : List Int, svl.length = m ∧ ∃ a b o cap, Value.slice a1 m c1 = .slice a svl.length cap ∧ svl.length ≤ cap ∧ cap ≤ 9223372036854775807 ∧ (0 < svl.length → a = some ⟨b, o, none⟩ ∧ b < W.heap.size) ∧ ∀ (i : Nat) (x : Int), svl[i]? = some x → W.cell? ⟨b, o + i, none⟩ = some (.int .i64 x) ∧ (Lit.int .i64 x).wf = true := by
  rcases open_ints Yba.underlying39 Yba.underlying3 cells3 h with ⟨hcs, _⟩ | ⟨a, len, cap, zs, hcs, _, hl, hm, hz, _, hcell, hwz⟩
  · simp at hcs
    obtain ⟨rfl, rfl, rfl⟩ := hcs
    exact ⟨[], rfl, none, 0, 0, 0, rfl, Nat.le_refl _, by omega, fun h => absurd h (Nat.lt_irrefl _), fun i x h => by simp at h⟩
  · simp at hcs
    obtain ⟨rfl, rfl, rfl⟩ := hcs
    have hzl : zs.length = c1 := by simpa using hz
    have hlt : (zs.take m).length = m := by simp; omega
    refine ⟨zs.take m, hlt, ?_⟩
    rw [hlt]
    by_cases hp : 0 < m
    · obtain ⟨b, off, rfl, hc⟩ := ints_at hcell (by omega)
      refine ⟨_, b, off, c1, rfl, hl, hm, fun _ => ⟨rfl, cell_lt (hc 0 (by omega))⟩, fun i x hi => ?_⟩
      rw [List.getElem?_take] at hi
      split at hi
      · next him =>
        have h1 := hc i (by omega)
        have h2 : zs.getD i 0 = x := by rw [List.getD_eq_getElem?_getD, hi]; rfl
        rw [h2] at h1
        exact ⟨h1, hwz x (List.mem_of_getElem? hi)⟩
      · cases hi
    · obtain rfl : m = 0 := by omega
      exact ⟨_, 0, 0, c1, rfl, hl, hm, fun h => absurd h (Nat.lt_irrefl _), fun i x hi => by simp at hi⟩

set_option maxHeartbeats 1600000 in
set_option maxRecDepth 100000 in
theorem walk6_long (w : World) (a0 a1 : Option Addr) (n c0 m c1 : Nat) (hn : n ≤ 9223372036854775807) (hm : m ≤ 9223372036854775807) (h : 1024 < n ∨ 1024 < m) :
    Calls Yba.prog 6 #[.slice a0 n c0, .slice a1 m c1] w fun e w' => e = .returned (.bool true) ∧ Below w.heap.size w w' := by
  by_cases h1 : 1024 < n
  · go_enter Yba.func6, Yba.ntmps6
    go_wp2
    go_ret
    exact ⟨rfl, Below.refl _ _⟩
  · have h2 : 1024 < m := by omega
    go_enter Yba.func6, Yba.ntmps6
    go_wp2
    go_ret
    exact ⟨rfl, Below.refl _ _⟩

theorem law6 (w : World) (a0 a1 : Option Addr) (n c0 m c1 : Nat) (rl : List (Int × Int × Bool)) (hrl : rl.length = n) (hro : RO w (.slice a0 n c0) rl) (svl : List Int) (hsl : svl.length = m)
    (hsv : ∃ a b o cap, Value.slice a1 m c1 = .slice a svl.length cap ∧ svl.length ≤ cap ∧ cap ≤ 9223372036854775807 ∧ (0 < svl.length → a = some ⟨b, o, none⟩ ∧ b < w.heap.size) ∧ ∀ (i : Nat) (x : Int), svl[i]? = some x → w.cell? ⟨b, o + i, none⟩ = some (.int .i64 x) ∧ (Lit.int .i64 x).wf = true) :
    Calls Yba.prog 6 #[.slice a0 n c0, .slice a1 m c1] w fun e w' => e = .returned (.bool true) ∧ Below w.heap.size w w' := by
  by_cases h : 1024 < n ∨ 1024 < m
  · refine walk6_long w a0 a1 n c0 m c1 ?_ ?_ h
    · obtain ⟨_, _, _, _, h1, h2, h3, _⟩ := hro
      omega
    · obtain ⟨_, _, _, _, h1, h2, h3, _⟩ := hsv
      omega
  · exact walk6 w _ _ rl svl hro (by omega) (by omega) hsv
end Go.Proofs.Ybulkbewa
