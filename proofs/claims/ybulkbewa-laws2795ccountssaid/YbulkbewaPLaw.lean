/- the law's own counts are Judge's (plain). -/
import Derived.Test.YbulkbewaPAdd
import Derived.Lib.SlicesCompact
namespace Go.Proofs.Ybulkbewa

theorem compactUpTo_sorted (d : Array Int) (hs : ∀ i j, i ≤ j → j < d.size → d[i]! ≤ d[j]!) : ∀ m, m ≤ d.size → (Lib.compactUpTo d m).Pairwise (· < ·) ∧ (∀ j, j < m → d[j]! ∈ Lib.compactUpTo d m) ∧ ∀ x ∈ Lib.compactUpTo d m, ∃ j, j < m ∧ x = d[j]!
  | 0, _ => by simp [Lib.compactUpTo]
  | m + 1, hm => by
    obtain ⟨h1, h2, h3⟩ := compactUpTo_sorted d hs m (by omega)
    rw [Lib.compactUpTo_succ]
    by_cases hk : Lib.keeps d m = true
    · rw [if_pos hk]
      refine ⟨?_, fun j hj => ?_, fun x hx => ?_⟩
      · rw [List.pairwise_append]
        refine ⟨h1, by simp, fun x hx y hy => ?_⟩
        simp at hy
        subst hy
        obtain ⟨j, hj, rfl⟩ := h3 x hx
        have e1 := hs j (m - 1) (by omega) (by omega)
        have e2 := hs (m - 1) m (by omega) (by omega)
        have e3 : d[m]! ≠ d[m - 1]! := by
          unfold Lib.keeps at hk
          simp only [decide_eq_true_eq] at hk
          rcases hk with hk | hk
          · omega
          · exact hk
        omega
      · by_cases hjm : j = m
        · subst hjm; simp
        · exact List.mem_append_left _ (h2 j (by omega))
      · rcases List.mem_append.1 hx with hx | hx
        · obtain ⟨j, hj, rfl⟩ := h3 x hx
          exact ⟨j, by omega, rfl⟩
        · simp at hx
          exact ⟨m, by omega, hx⟩
    · rw [if_neg hk, List.append_nil]
      refine ⟨h1, fun j hj => ?_, fun x hx => ?_⟩
      · by_cases hjm : j = m
        · subst hjm
          unfold Lib.keeps at hk
          simp only [decide_eq_true_eq, not_or, Decidable.not_not] at hk
          rw [hk.2]
          exact h2 (j - 1) (by omega)
        · exact h2 j (by omega)
      · obtain ⟨j, hj, rfl⟩ := h3 x hx
        exact ⟨j, by omega, rfl⟩

theorem compact_sorted (zs : List Int) (hs : zs.Pairwise (· ≤ ·)) : (Lib.compact zs).Pairwise (· < ·) ∧ ∀ z, z ∈ Lib.compact zs ↔ z ∈ zs := by
  have hg : ∀ i, i < zs.length → ∀ (h : i < zs.length), zs.toArray[i]! = zs[i] := fun i _ h => by
    rw [getElem!_pos _ i (by simpa using h)]
    simp
  obtain ⟨h1, h2, h3⟩ := compactUpTo_sorted zs.toArray (fun i j hij hj => by
    have hj' : j < zs.length := by simpa using hj
    rw [hg i (by omega) (by omega), hg j hj' hj']
    by_cases e : i = j
    · subst e; exact Int.le_refl _
    · exact List.pairwise_iff_getElem.1 hs i j (by omega) hj' (by omega)) zs.length (by simp)
  refine ⟨h1, fun z => ⟨fun hz => ?_, fun hz => ?_⟩⟩
  · obtain ⟨j, hj, rfl⟩ := h3 z hz
    rw [hg j hj hj]
    exact List.getElem_mem hj
  · obtain ⟨j, hj, rfl⟩ := List.getElem_of_mem hz
    rw [← hg j hj hj]
    exact h2 j hj

def ssOf (svl : List Int) : List Int := Lib.compact (svl.mergeSort fun x y => decide (x ≤ y))

theorem ssOf_facts (svl : List Int) : (ssOf svl).Nodup ∧ ∀ z, z ∈ ssOf svl ↔ z ∈ svl := by
  have hp : (svl.mergeSort fun x y => decide (x ≤ y)).Pairwise (· ≤ ·) := by
    have := List.pairwise_mergeSort (le := fun x y : Int => decide (x ≤ y)) (by simp; omega) (by simp; omega) svl
    simpa using this
  obtain ⟨h1, h2⟩ := compact_sorted _ hp
  refine ⟨h1.imp (fun h => by omega), fun z => ?_⟩
  unfold ssOf
  rw [h2 z, (List.mergeSort_perm svl _).mem_iff]

theorem ssOf_len (svl u : List Int) (hu : u.Nodup) (hm : ∀ z, z ∈ u ↔ z ∈ svl) : u.length = (ssOf svl).length := by
  obtain ⟨h1, h2⟩ := ssOf_facts svl
  exact ((List.perm_ext_iff_of_nodup hu h1).2 (fun z => (hm z).trans (h2 z).symm)).length_eq

/-- a sum over a list without repetition hangs on its members alone -/
theorem sum_nodup {f : Int → Nat} {A B : List Int} (hA : A.Nodup) (hB : B.Nodup) (h : ∀ y, f y ≠ 0 → (y ∈ A ↔ y ∈ B)) : (A.map f).sum = (B.map f).sum := by
  have key : ∀ l : List Int, (l.map f).sum = ((l.filter fun y => decide (f y ≠ 0)).map f).sum := fun l => by
    induction l with
    | nil => rfl
    | cons a l ih =>
      rw [List.map_cons, List.sum_cons, List.filter_cons, ih]
      by_cases ha : f a ≠ 0
      · rw [if_pos (by simpa using ha), List.map_cons, List.sum_cons]
      · rw [if_neg (by simpa using ha)]
        omega
  rw [key A, key B]
  apply List.Perm.sum_nat
  apply List.Perm.map
  rw [List.perm_ext_iff_of_nodup (hA.filter _) (hB.filter _)]
  intro y
  simp only [List.mem_filter, decide_eq_true_eq]
  exact ⟨fun ⟨h1, h2⟩ => ⟨(h y h2).1 h1, h2⟩, fun ⟨h1, h2⟩ => ⟨(h y h2).2 h1, h2⟩⟩
theorem countP_sum {α : Type} (p : α → Bool) (l : List α) : l.countP p = (l.map fun x => if p x then 1 else 0).sum := by
  induction l with
  | nil => rfl
  | cons a l ih => rw [List.countP_cons, List.map_cons, List.sum_cons, ih]; omega
theorem count_nodup {p : Int → Bool} {A B : List Int} (hA : A.Nodup) (hB : B.Nodup) (h : ∀ y, p y = true → (y ∈ A ↔ y ∈ B)) : A.countP p = B.countP p := by
  rw [countP_sum, countP_sum]
  exact sum_nodup hA hB (fun y hy => h y (by
    by_cases hp : p y = true
    · exact hp
    · simp [hp] at hy))

def iM : List Int := [0, 1, 2, 3]
def iE : List Int := [0, 1, 2, 3, 4]
theorem iM_mem (z : Int) : z ∈ iM ↔ 0 ≤ z ∧ z < 4 := by simp [iM]; omega
theorem iE_mem (z : Int) : z ∈ iE ↔ 0 ≤ z ∧ z < 5 := by simp [iE]; omega
theorem iM_nodup : iM.Nodup := by decide
theorem iE_nodup : iE.Nodup := by decide

def bM (ops : List (Int × Int × Bool)) (z : Int) : Bool := ops.any fun o => decide (o.1 = z)
def bD (ops : List (Int × Int × Bool)) (z y : Int) : Bool := decide ((z, y, false) ∈ ops)
def bB (ops : List (Int × Int × Bool)) (y : Int) : Bool := ops.any fun o => decide (o.2.1 = y ∧ o.2.2 = true)
theorem bM_iff (ops : List (Int × Int × Bool)) (z : Int) : bM ops z = true ↔ OM ops z := by simp [bM, OM]
theorem bD_iff (ops : List (Int × Int × Bool)) (z y : Int) : bD ops z y = true ↔ OD ops z y := by simp [bD, OD]
theorem bB_iff (ops : List (Int × Int × Bool)) (y : Int) : bB ops y = true ↔ OB ops y := by
  simp only [bB, OB, List.any_eq_true, decide_eq_true_eq]
  constructor
  · rintro ⟨⟨a, b, c⟩, h1, h2, h3⟩
    simp only at h2 h3
    subst h2 h3
    exact ⟨a, h1⟩
  · rintro ⟨z, hz⟩
    exact ⟨_, hz, rfl, rfl⟩

def dC (ops : List (Int × Int × Bool)) (z : Int) : Nat := iE.countP (bD ops z)
def hC (ops : List (Int × Int × Bool)) (ss : List Int) (y : Int) : Nat := iM.countP fun z => bD ops z y && decide (z ∈ ss)
def tC (ops : List (Int × Int × Bool)) : Nat := ops.countP fun o => !o.2.2
def uC (ops : List (Int × Int × Bool)) : Nat := (iE.map fun y => if bB ops y then 0 else ON ops y).sum
def aC (ops : List (Int × Int × Bool)) (ss : List Int) : Nat := iE.countP fun y => decide (0 < hC ops ss y ∧ hC ops ss y < ss.length)

theorem sum_OL (A : List Int) (hA : A.Nodup) : ∀ ops : List (Int × Int × Bool), (∀ o ∈ ops, o.1 ∈ A) → (A.map (OL ops)).sum = tC ops
  | [], _ => by
    have : A.map (OL []) = A.map fun _ => 0 := rfl
    rw [this]
    clear this hA
    show (A.map fun _ => 0).sum = 0
    induction A with
    | nil => rfl
    | cons a A ih => rw [List.map_cons, List.sum_cons, ih (by simp)]
  | o :: ops, h => by
    have ih := sum_OL A hA ops (fun x hx => h x (by simp [hx]))
    have ho := h o (by simp)
    have key : ∀ l : List Int, (l.map (OL (o :: ops))).sum = (l.map (OL ops)).sum + (if o.2.2 = false then l.count o.1 else 0) := fun l => by
      induction l with
      | nil => simp
      | cons a l ih2 =>
        rw [List.map_cons, List.sum_cons, List.map_cons, List.sum_cons, ih2, List.count_cons]
        have : OL (o :: ops) a = OL ops a + if o.1 = a ∧ o.2.2 = false then 1 else 0 := by
          unfold OL
          rw [List.countP_cons]
          simp
        rw [this]
        by_cases hb : o.2.2 = false
        · by_cases he : o.1 = a
          · subst he; simp [hb]; omega
          · have he' : ¬ a = o.1 := fun e => he e.symm
            simp [hb, he, he']; omega
        · simp [hb]
    rw [key, ih, hA.count, if_pos ho]
    unfold tC
    rw [List.countP_cons]
    by_cases hb : o.2.2 = false <;> simp [hb]

theorem range_countP {α : Type} (p : α → Bool) : ∀ (l : List α) (q : Nat → Bool), (∀ (i : Nat) (a : α), l[i]? = some a → q i = p a) → (List.range l.length).countP q = l.countP p
  | [], _, _ => rfl
  | a :: l, q, h => by
    rw [List.length_cons, List.range_succ_eq_map, List.countP_cons, List.countP_cons, List.countP_map, range_countP p l (q ∘ Nat.succ) (fun i b hb => h (i + 1) b (by simpa using hb)), h 0 a (by simp)]

theorem KO.newcount {K : KS} {ops : List (Int × Int × Bool)} (h : KO K ops) (hr : ∀ o ∈ ops, (0 ≤ o.1 ∧ o.1 < 4) ∧ 0 ≤ o.2.1 ∧ o.2.1 < 5) {mb : MB} (hm : mb ∈ K.mem) : newc [] mb.dv = dC ops mb.id := by
  obtain ⟨h, _⟩ := h
  obtain ⟨i, hi⟩ := List.mem_iff_getElem?.1 hm
  rw [newc_range K.evs.length mb.dv [] (h.mx i mb hi).1]
  have e1 : (List.range K.evs.length).countP (fun x => decide (x ∈ mb.dv ∧ x ∉ ([] : List Nat))) = K.evs.countP (fun ev => bD ops mb.id ev.id) := by
    apply range_countP
    intro x ev hx
    have := h.md i mb hi x ev hx
    rw [Bool.eq_iff_iff, bD_iff, ← this]
    simp
  rw [e1, show K.evs.countP (fun ev => bD ops mb.id ev.id) = (K.evs.map (·.id)).countP (bD ops mb.id) by rw [List.countP_map]; rfl]
  refine count_nodup h.en iE_nodup (fun y hy => ?_)
  rw [bD_iff] at hy
  have h1 : OE ops y := ⟨_, hy, rfl⟩
  have h2 := (hr _ hy).2
  rw [h.ei y, iE_mem]
  exact ⟨fun _ => h2, fun _ => h1⟩

theorem KO.judged {K : KS} {ops : List (Int × Int × Bool)} (h : KO K ops) (hn : ops.length ≤ 1024) (hr : ∀ o ∈ ops, (0 ≤ o.1 ∧ o.1 < 4) ∧ 0 ≤ o.2.1 ∧ o.2.1 < 5) (svl ss : List Int) (hss : ∀ z, z ∈ ss ↔ z ∈ svl) :
    ∃ d, condP K.evs K.pasts K.inp 10000000000000 = some d ∧ (0 < d.nextFrom.length ∧ d.nextFrom.length ≤ 1000000000) ∧ K.mem.length = (iM.filter (bM ops)).length ∧
      ∀ L : List MB, L.Perm K.mem → L.Pairwise (fun a b => a.id < b.id) → ∃ a, judgeP K d 10000000000000 (fun z => decide (z ∈ svl)) ss.length L = some (a, uC ops, aC ops ss) ∧
        a.dup + ((iM.filter (bM ops)).map (dC ops)).sum = tC ops ∧ a.dlv = (iM.filter (bM ops)).map fun z => (z, dC ops z) := by
  obtain ⟨hcw, hm4⟩ := h.cw hn hr
  obtain ⟨d, hd, D⟩ := condP_some hcw 10000000000000 (by omega)
  obtain ⟨hI, hl⟩ := h
  have hids : ∀ L : List MB, L.Perm K.mem → L.Pairwise (fun a b => a.id < b.id) → L.map (·.id) = iM.filter (bM ops) := fun L hL hP => by
    refine List.Perm.eq_of_pairwise (le := fun a b => a < b) (fun a b _ _ h1 h2 => by omega) (List.pairwise_map.2 hP) ((show iM.Pairwise (· < ·) by decide).filter _) ?_
    rw [List.perm_ext_iff_of_nodup ((hL.map _).nodup_iff.2 hI.mn) (iM_nodup.filter _)]
    intro z
    rw [(hL.map (·.id)).mem_iff, hI.mi z, List.mem_filter, bM_iff, iM_mem]
    constructor
    · intro hz
      obtain ⟨o, ho, rfl⟩ := hz
      exact ⟨(hr o ho).1, ⟨o, ho, rfl⟩⟩
    · exact fun hz => hz.2
  refine ⟨d, hd, ⟨D.pos, by have := D.nb; omega⟩, ?_, fun L hL hP => ?_⟩
  · have hs : (K.mem.map (·.id)).Perm (iM.filter (bM ops)) := by
      rw [List.perm_ext_iff_of_nodup hI.mn (iM_nodup.filter _)]
      intro z
      rw [hI.mi z, List.mem_filter, bM_iff, iM_mem]
      constructor
      · intro hz
        obtain ⟨o, ho, rfl⟩ := hz
        exact ⟨(hr o ho).1, ⟨o, ho, rfl⟩⟩
      · exact fun hz => hz.2
    rw [← hs.length_eq, List.length_map]
  · have hid := hids L hL hP
    have hLm : ∀ m ∈ L, m ∈ K.mem := fun m hm => hL.mem_iff.1 hm
    obtain ⟨a, h1, h2, h3⟩ := judgeP_some (K := K) (d := d) D (fun ev hev q hq => by
      obtain ⟨i, hi⟩ := List.mem_iff_getElem?.1 hev
      exact hI.ep i ev hi q hq) 10000000000000 (by omega) (fun z => decide (z ∈ svl)) ss.length L (fun m hm => by
      obtain ⟨i, hi⟩ := List.mem_iff_getElem?.1 (hLm m hm)
      exact ⟨Nat.le_trans (hI.ml i m hi).2 hn, (hI.mx i m hi).1⟩) (by rw [hL.length_eq]; omega) (by have := hI.es; unfold big; omega) (by have := hcw.ne; unfold big; omega)
    have hmapn : L.map (fun m => newc [] m.dv) = (iM.filter (bM ops)).map (dC ops) := by
      rw [← hid, List.map_map]
      apply List.map_congr_left
      intro m hm
      exact KO.newcount ⟨hI, hl⟩ hr (hLm m hm)
    have hlen : (L.map fun m => m.dv.length).sum = tC ops := by
      rw [← sum_OL (L.map (·.id)) ((hL.map _).nodup_iff.2 hI.mn) ops (fun o ho => by
        rw [(hL.map (·.id)).mem_iff, hI.mi]
        exact ⟨o, ho, rfl⟩), List.map_map]
      congr 1
      apply List.map_congr_left
      intro m hm
      obtain ⟨i, hi⟩ := List.mem_iff_getElem?.1 (hLm m hm)
      exact (hI.ml i m hi).1
    refine ⟨a, ?_, ?_, ?_⟩
    · rw [h1]
      congr 3
      · unfold uC
        have e1 : (K.evs.map fun ev => if ev.bc = true then 0 else ev.dl) = (K.evs.map (·.id)).map fun y => if bB ops y = true then 0 else ON ops y := by
          rw [List.map_map]
          apply List.map_congr_left
          intro ev hev
          obtain ⟨i, hi⟩ := List.mem_iff_getElem?.1 hev
          obtain ⟨g1, g2⟩ := hI.ed i ev hi
          simp only [Function.comp]
          rw [g1]
          by_cases hb : ev.bc = true
          · rw [if_pos hb, if_pos ((bB_iff _ _).2 (g2.1 hb))]
          · rw [if_neg hb, if_neg (fun h' => hb (g2.2 ((bB_iff _ _).1 h')))]
        rw [e1]
        refine sum_nodup hI.en iE_nodup (fun y hy => ?_)
        have hON : ON ops y ≠ 0 := by
          intro h0
          rw [h0] at hy
          split at hy <;> exact hy rfl
        obtain ⟨o, ho, hoo⟩ := List.countP_pos_iff.1 (Nat.pos_of_ne_zero hON)
        simp only [decide_eq_true_eq] at hoo
        have h4 : OE ops y := ⟨o, ho, hoo.1⟩
        have h5 := (hr o ho).2
        rw [hoo.1] at h5
        rw [hI.ei y, iE_mem]
        exact ⟨fun _ => h5, fun _ => h4⟩
      · unfold aC
        have hH : ∀ (x : Nat) (ev : EV), K.evs[x]? = some ev → (L.countP fun m => decide (m.id ∈ svl) && decide (x ∈ m.dv)) = hC ops ss ev.id := fun x ev hx => by
          have e2 : (L.countP fun m => decide (m.id ∈ svl) && decide (x ∈ m.dv)) = (L.map (·.id)).countP fun z => bD ops z ev.id && decide (z ∈ ss) := by
            rw [List.countP_map]
            apply List.countP_congr
            intro m hm
            obtain ⟨i, hi⟩ := List.mem_iff_getElem?.1 (hLm m hm)
            have := hI.md i m hi x ev hx
            simp only [Function.comp, Bool.and_eq_true, decide_eq_true_eq]
            rw [this, bD_iff, hss]
            exact And.comm
          rw [e2]
          unfold hC
          refine count_nodup ((hL.map _).nodup_iff.2 hI.mn) iM_nodup (fun z hz => ?_)
          simp only [Bool.and_eq_true, decide_eq_true_eq] at hz
          have hz1 := (bD_iff _ _ _).1 hz.1
          rw [(hL.map (·.id)).mem_iff, hI.mi z, iM_mem]
          exact ⟨fun _ => (hr _ hz1).1, fun _ => ⟨_, hz1, rfl⟩⟩
        have e3 : (List.range K.evs.length).countP (fun x => decide (0 < (L.countP fun m => decide (m.id ∈ svl) && decide (x ∈ m.dv)) ∧ (L.countP fun m => decide (m.id ∈ svl) && decide (x ∈ m.dv)) < ss.length)) = K.evs.countP fun ev => decide (0 < hC ops ss ev.id ∧ hC ops ss ev.id < ss.length) := by
          apply range_countP
          intro x ev hx
          rw [hH x ev hx]
        rw [e3, show K.evs.countP (fun ev => decide (0 < hC ops ss ev.id ∧ hC ops ss ev.id < ss.length)) = (K.evs.map (·.id)).countP fun y => decide (0 < hC ops ss y ∧ hC ops ss y < ss.length) by rw [List.countP_map]; rfl]
        refine count_nodup hI.en iE_nodup (fun y hy => ?_)
        simp only [decide_eq_true_eq] at hy
        obtain ⟨z, _, hz⟩ := List.countP_pos_iff.1 hy.1
        simp only [Bool.and_eq_true] at hz
        have hz1 := (bD_iff _ _ _).1 hz.1
        rw [hI.ei y, iE_mem]
        exact ⟨fun _ => (hr _ hz1).2, fun _ => ⟨_, hz1, rfl⟩⟩
    · rw [h2, ← hmapn, ← hlen]
      clear h1 h2 h3 hmapn hlen hid hLm hP hL
      induction L with
      | nil => rfl
      | cons m L ih =>
        have := new_dup m.dv []
        simp only [List.map_cons, List.sum_cons]
        omega
    · rw [h3, ← hid, List.map_map]
      apply List.map_congr_left
      intro m hm
      simp only [Function.comp]
      rw [KO.newcount ⟨hI, hl⟩ hr (hLm m hm)]
end Go.Proofs.Ybulkbewa
