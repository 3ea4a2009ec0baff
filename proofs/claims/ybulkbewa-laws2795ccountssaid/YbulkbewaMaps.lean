/- maps with int keys, known by a list of pairs. -/
import Derived.Test.YbulkbewaVisit
import Derived.Maps.OwnSet
import Derived.Lib.SlKeysI
namespace Go.Proofs.Ybulkbewa
open Go.RowKit Go.Maps

def ptrElem : Value → Option (DataW Unit × List MemPlace)
  | .pointer (some ⟨b, 0, none⟩) => some (.lit (.int .i64 ((b : Nat) : Int)), [])
  | .pointer none => some (.lit (.int .i64 (-1)), [])
  | _ => none

theorem ptrElem_inv {v : Value} {b : Nat} {ps : List MemPlace} (h : ptrElem v = some (.lit (.int .i64 (b : Int)), ps)) : v = .pointer (some ⟨b, 0, none⟩) := by
  unfold ptrElem at h
  split at h
  · rename_i _ b'
    simp at h
    obtain rfl : b' = b := by omega
    rfl
  · simp at h
  · cases h

structure MapOf (D : DataW Unit) (ms : List (Int × Nat)) : Prop where
  nd : (ms.map (·.1)).Nodup
  has : ∀ z, Maps.has D (.int .i64 z) = true ↔ z ∈ ms.map (·.1)
  val : ∀ p ∈ ms, ∀ zd, D.atKey (.int .i64 p.1) zd = .lit (.int .i64 (p.2 : Int))
  sz : Maps.size D = ms.length

theorem MapOf.nil : MapOf (.map []) [] := ⟨by simp, fun z => by simp [Maps.has], by simp, rfl⟩

theorem MapOf.put {D : DataW Unit} {ms : List (Int × Nat)} (h : MapOf D ms) (hD : IsMap D) (ht : Tidy D) {z : Int} {b : Nat} (hz : z ∉ ms.map (·.1)) : MapOf (D.put (.int .i64 z) (.lit (.int .i64 (b : Int)))) (ms ++ [(z, b)]) := by
  have hk : WideAt.IsKeyLit (.int .i64 z) := by simp [WideAt.IsKeyLit]
  have hh : Maps.has D (.int .i64 z) = false := by
    cases hx : Maps.has D (.int .i64 z) with
    | false => rfl
    | true => exact absurd ((h.has z).1 hx) hz
  refine ⟨?_, fun y => ?_, fun p hp zd => ?_, ?_⟩
  · rw [List.map_append, List.nodup_append]
    exact ⟨h.nd, by simp, fun a ha b' hb => by simp at hb; subst hb; exact fun e => hz (e ▸ ha)⟩
  · by_cases hy : y = z
    · subst hy; simp [has_put_same hD hk]
    · rw [has_put_other (by simpa using hy), h.has y]; simp [hy]
  · rcases List.mem_append.1 hp with hp | hp
    · rw [atKey_put_other (by
        have : p.1 ≠ z := fun e => hz (e ▸ List.mem_map_of_mem hp)
        simpa using this)]
      exact h.val p hp zd
    · simp at hp
      subst hp
      exact atKey_put_same hD hk _ _
  · rw [size_put ht, hh, h.sz]; simp

/-- the pairs, in whatever order they came -/
theorem MapOf.perm {D : DataW Unit} {ms ps : List (Int × Nat)} (h : MapOf D ms) (hn : (ps.map (·.1)).Nodup) (hm : ∀ z, z ∈ ps.map (·.1) ↔ Maps.has D (.int .i64 z) = true) (hv : ∀ p ∈ ps, ∀ zd, D.atKey (.int .i64 p.1) zd = .lit (.int .i64 (p.2 : Int))) : ps.Perm ms := by
  have nd : ∀ l : List (Int × Nat), (l.map (·.1)).Nodup → l.Nodup := fun l hl => List.Pairwise.of_map (·.1) (fun a b hab e => hab (by rw [e])) hl
  refine (List.perm_ext_iff_of_nodup (nd _ hn) (nd _ h.nd)).2 fun p => ?_
  have same : ∀ q ∈ ps, ∀ r ∈ ms, q.1 = r.1 → q = r := fun q hq r hr e => by
    have h1 := hv q hq (.lit (.int .i64 0))
    have h2 := h.val r hr (.lit (.int .i64 0))
    rw [e, h2] at h1
    have h3 : (r.2 : Int) = (q.2 : Int) := by injection h1 with h1; injection h1
    exact Prod.ext e (by omega)
  constructor
  · intro hp
    have : p.1 ∈ ms.map (·.1) := (h.has p.1).1 ((hm p.1).1 (List.mem_map_of_mem hp))
    obtain ⟨r, hr, e⟩ := List.mem_map.1 this
    rw [same p hp r hr e.symm]; exact hr
  · intro hp
    have : p.1 ∈ ps.map (·.1) := (hm p.1).2 ((h.has p.1).2 (List.mem_map_of_mem hp))
    obtain ⟨r, hr, e⟩ := List.mem_map.1 this
    rw [← same r hr p hp e]; exact hr
end Go.Proofs.Ybulkbewa
