/- condense: its last loop, over the nodes. -/
import Derived.Test.YbulkbewaCondMem
import Derived.Deep.CutBlock
import Derived.Deep.DeepCutAuto
namespace Go.Proofs.Ybulkbewa
open Go.RowKit

/-- the dag under way: block bd; rooms 6 .. 9 are its rows, room 10 is 'linked' -/
structure DM (N : Nat) (w wx : World) (bd : Nat) (vA : Value) (V0 : Nat → Value) (X0 : Nat → List Nat) (V : Nat → Value) (X : Nat → List Nat) : Prop where
  m : CM N w wx V X
  d : wx.heap[bd]? = some (.cells #[vA, V 6, V 7, V 8, V 9] 112 (0, 0))
  hv : ∀ c, c ≤ 5 ∨ c = 10 → V c = V0 c
  hx : ∀ c, c ≤ 5 → X c = X0 c
  lb : N ≤ bd

def lk (X : Nat → List Nat) : LK := ⟨X 10, X 6, X 7, X 8, X 9⟩

section
variable {N : Nat} {w wx w' : World} {bd : Nat} {vA : Value} {V0 V : Nat → Value} {X0 X : Nat → List Nat}
theorem DM.alloc (h : DM N w wx bd vA V0 X0 V X) (o : Obj) : DM N w (wx.alloc o) bd vA V0 X0 V X :=
  ⟨h.m.alloc o, (Below.heap_alloc _ _ _ (lt_of_block h.d)).trans h.d, h.hv, h.hx, h.lb⟩
theorem DM.drew (h : DM N w wx bd vA V0 X0 V X) : DM N w wx.drew bd vA V0 X0 V X := ⟨h.m.drew, h.d, h.hv, h.hx, h.lb⟩
theorem DM.drewN (h : DM N w wx bd vA V0 X0 V X) (q : Nat) : DM N w (wx.drewN q) bd vA V0 X0 V X := by
  induction q generalizing wx with
  | zero => exact h
  | succ q ih => exact (ih h).drew
theorem DM.keep (h : DM N w wx bd vA V0 X0 V X) {c : Nat} {v : Value} (hv : V c = v) (G : wx.grownBy w' v.ownBlock) : w'.heap[bd]? = some (.cells #[vA, V 6, V 7, V 8, V 9] 112 (0, 0)) :=
  h.m.r.keep (c := c) (by rw [hv]; exact G) h.d (by decide)
/-- a number appended onto one of the dag's rows -/
theorem DM.push (h : DM N w wx bd vA V0 X0 V X) {c : Nat} (hc : 6 ≤ c ∧ c ≤ 9) {v v' : Value} {x : Nat} (hv : V c = v)
    (O : w'.ownsRow N 3 1 v' ((X c).length + 1) (natCells (X c) ++ [.int .i64 (x : Int)])) (G : wx.grownBy w' v.ownBlock) (A : v'.ownBlock = v.ownBlock ∨ v'.ownBlock = some wx.heap.size) :
    DM N w (w'.setCell ⟨bd, c - 5, none⟩ v') bd vA V0 X0 (upd V c v') (upd X c (X c ++ [x])) := by
  have hk := h.keep hv G
  have hm := h.m.appended hv (news := [x]) rfl O G A
  refine ⟨⟨hm.r.setOther (hm.r.notR hk (by decide)) _, hm.b.setCell h.lb _, by have := hm.s; simpa [World.setCell] using this⟩, ?_, fun z hz => ?_, fun z hz => ?_, h.lb⟩
  · rw [heap_setCell_at _ hk]
    have : c = 6 ∨ c = 7 ∨ c = 8 ∨ c = 9 := by omega
    rcases this with rfl | rfl | rfl | rfl <;> rfl
  · rw [upd_other _ _ (by omega)]; exact h.hv z hz
  · rw [upd_other _ _ (by omega)]; exact h.hx z hz
theorem DM.link (h : DM N w wx bd vA V0 X0 V X) {g n cap : Nat} (hv : V 10 = .slice (some ⟨g, 0, none⟩) n cap) (i x : Nat) : DM N w (wx.setCell ⟨g, i, none⟩ (.int .i64 (x : Int))) bd vA V0 X0 V (upd X 10 ((X 10).set i x)) := by
  refine ⟨h.m.set hv i x, (Below.heap_setCell _ _ _ _ (fun e => ?_)).trans h.d, h.hv, fun z hz => by rw [upd_other _ _ (by omega)]; exact h.hx z hz, h.lb⟩
  exact h.m.r.notR h.d (by decide) 10 (by rw [hv]; have : bd = g := e; rw [this]; rfl)
theorem DM.ne (h : DM N w wx bd vA V0 X0 V X) {c g n cap : Nat} (hv : V c = .slice (some ⟨g, 0, none⟩) n cap) : ¬ g = bd := fun e =>
  h.m.r.notR h.d (by decide) c (by rw [hv, e]; rfl)
theorem CM.made1 {N : Nat} {w wx : World} {V : Nat → Value} {X : Nat → List Nat} (h : CM N w wx V X) {c : Nat} (hc : V c = .slice none 0 0) :
    CM N w (wx.alloc (.cells #[.int .i64 0] 3)) (upd V c (.slice (some ⟨wx.heap.size, 0, none⟩) 1 1)) (upd X c [0]) :=
  ⟨h.r.made h.s (c := c) (by rw [hc]; rfl) [0] (cur := #[.int .i64 0]) (cap := 1) (by simp) (by unfold maxLen; omega) rfl rfl, h.b.alloc h.s _, by have := h.s; simp; omega⟩
end

theorem Rooms.sln {B : Nat} {w : World} {V : Nat → Value} {X : Nat → List Nat} (h : Rooms B w V X) (c : Nat) : SlN w.heap.size w (V c) (X c) := by
  obtain ⟨a, cap, hv, h1, h2⟩ := h.any c
  obtain ⟨b, h3, h4⟩ := h.read hv
  exact ⟨a, b, 0, cap, hv, h1, h2, h3, fun i x hx => by rw [Nat.zero_add]; exact h4 i x hx⟩

def nthLoop : Nat → Code → Nat × Option Code
  | k, .loop c => if k = 0 then (0, some c) else
    match nthLoop (k - 1) c with
    | r => r
  | k, .seq a b => match nthLoop k a with
    | (_, some c) => (0, some c)
    | (j, none) => nthLoop j b
  | k, .block _ c => nthLoop k c
  | k, .scope c => nthLoop k c
  | k, .cond _ a b => match nthLoop k a with
    | (_, some c) => (0, some c)
    | (j, none) => nthLoop j b
  | k, _ => (k, none)

set_option maxHeartbeats 12800000 in
set_option maxRecDepth 1000000 in
theorem cond_loop7 (N n cnt : Nat) (w W9 : World) (bd : Nat) (vA : Value) (V9 : Nat → Value) (X9 : Nat → List Nat) (fr tol comp start byN : List Nat) (kf : LK) (gF capF : Nat) (aT : Option Addr) (cT gc gs gb gl : Nat)
    (hcn : cnt < 1000000000) (hcl : comp.length < 999999999) (hT1 : tol.length ≤ cT) (hT2 : cT ≤ 9223372036854775807) (hfl : fr.length ≤ 1000000000) (hbl1 : byN.length ≤ comp.length)
    (hv : V9 0 = .slice (some ⟨gF, 0, none⟩) fr.length capF ∧ V9 1 = .slice aT tol.length cT ∧ V9 2 = .slice (some ⟨gc, 0, none⟩) comp.length comp.length ∧ V9 3 = .slice (some ⟨gs, 0, none⟩) (cnt + 1) (cnt + 1) ∧ V9 4 = .slice (some ⟨gb, 0, none⟩) comp.length comp.length ∧ V9 10 = .slice (some ⟨gl, 0, none⟩) cnt cnt ∧ X9 0 = fr ∧ X9 1 = tol ∧ X9 2 = comp ∧ X9 3 = start ∧ X9 4 = byN)
    (hD9 : DM N w W9 bd vA V9 X9 V9 X9) (hrun9 : nodesP fr tol comp byN start n cnt 0 (lk X9) = some kf)
    (K0 : Act → World → Prop) (R0 : Ending → World → Prop) (hexit0 : ∀ (V : Nat → Value) (X : Nat → List Nat) (wr : World), DM N w wr bd vA V9 X9 V X → lk X = kf → ∀ (d0 d1 d2 d3 d4 d5 d6 d7 d8 d9 d10 d11 d12 d13 d14 d15 d16 d17 d18 d19 d20 d21 d22 d23 d25 d26 d27 d28 d29 d30 d31 d32 d33 d34 d35 d36 d37 d38 d39 d40 d41 d42 d43 d44 d45 d46 d47 d48 d49 d50 d51 d52 d53 d54 d55 d56 d57 d58 d59 d60 d61 d62 d63 d64 d65 d66 d67 d68 d69 d70 d71 d72 d73 d74 d75 d76 d77 d78 d79 d80 d81 d82 d83 d84 d85 d86 d87 d88 d89 d90 d91 d92 d93 d94 d95 d96 d97 d98 d99 d100 d101 d102 d103 d104 d105 d106 d107 d108 d109 d110 d111 d112 d113 d114 d115 d116 d117 d118 d119 d120 d121 d122 d123 d124 d125 d126 d127 d128 d129 d130 d131 d132 d133 d134 d135 d136 d137 d138 d139 d140 d141 d142 d143 d144 d145 d146 d147 d148 d149 d150 d151 d152 d153 d154 d155 d156 d157 d158 d159 d160 d161 d162 d163 d164 d165 d166 d167 d168 d169 d170 d171 d172 d173 d174 d175 d176 d177 d178 d179 d180 d181 d182 d183 d184 d185 d186 d187 d188 d189 d190 d191 d192 d193 d194 d195 d196 d197 d198 d199 d200 d201 d202 d203 d204 d205 d206 d207 d208 d209 d210 d211 d212 d213 d214 d215 d216 d217 d218 d219 d220 d221 d222 d223 d224 d225 d226 d227 d228 d229 d230 d231 d232 d233 d234 d235 d236 d237 d238 d239 d240 d241 d242 d243 d244 d245 d246 d247 d248 d249 d250 d251 d252 d253 d254 d255 d256 d257 d258 d259 d260 d261 d262 d263 d264 d265 d266 d267 d268 d269 d270 d271 d272 d273 d274 d275 d276 d277 d278 d279 d280 d281 d282 d283 d284 d285 d286 d287 d288 d289 d290 d291 d292 d293 d294 d295 d296 d297 : Value), K0 ⟨#[d0, d1, d2, d3, d4, d5, d6, d7, d8, d9, d10, d11, d12, d13, d14, d15, d16, d17, d18, d19, d20, d21, d22, d23, .pointer (some ⟨bd, 0, none⟩), d25, d26, d27, d28, d29, d30, d31, d32, d33, d34, d35, d36, d37, d38, d39, d40, d41, d42, d43, d44, d45, d46, d47, d48, d49, d50, d51, d52, d53, d54, d55, d56, d57, d58, d59, d60, d61, d62, d63, d64, d65, d66, d67, d68, d69, d70, d71, d72, d73, d74, d75, d76, d77, d78, d79, d80, d81, d82, d83, d84, d85, d86, d87, d88, d89, d90, d91, d92, d93, d94, d95, d96, d97, d98, d99, d100, d101, d102, d103, d104, d105, d106, d107, d108, d109, d110, d111, d112, d113, d114, d115, d116, d117, d118, d119, d120, d121, d122, d123, d124, d125, d126, d127, d128, d129, d130, d131, d132, d133, d134, d135, d136, d137, d138, d139, d140, d141, d142, d143, d144, d145, d146, d147, d148, d149, d150, d151, d152, d153, d154, d155, d156, d157, d158, d159, d160, d161, d162, d163, d164, d165, d166, d167, d168, d169, d170, d171, d172, d173, d174, d175, d176, d177, d178, d179, d180, d181, d182, d183, d184, d185, d186, d187, d188, d189, d190, d191, d192, d193, d194, d195, d196, d197, d198, d199, d200, d201, d202, d203, d204, d205, d206, d207, d208, d209, d210, d211, d212, d213, d214, d215, d216, d217, d218, d219, d220, d221, d222, d223, d224, d225, d226, d227, d228, d229, d230, d231, d232, d233, d234, d235, d236, d237, d238, d239, d240, d241, d242, d243, d244, d245, d246, d247, d248, d249, d250, d251, d252, d253, d254, d255, d256, d257, d258, d259, d260, d261, d262, d263, d264, d265, d266, d267, d268, d269, d270, d271, d272, d273, d274, d275, d276, d277, d278, d279, d280, d281, d282, d283, d284, d285, d286, d287, d288, d289, d290, d291, d292, d293, d294, d295, d296, d297], []⟩ wr)
    (c0 c1 c2 c3 c4 c8 c9 c10 c11 c12 c13 c17 c18 c19 c21 c22 c23 c26 c27 c28 c29 c30 c31 c32 c33 c34 c35 c36 c37 c38 c39 c40 c41 c42 c43 c44 c45 c46 c47 c48 c49 c50 c51 c52 c53 c54 c55 c56 c57 c58 c59 c60 c61 c62 c63 c64 c65 c66 c67 c68 c69 c70 c71 c72 c73 c74 c75 c76 c77 c78 c79 c80 c81 c82 c83 c84 c85 c86 c87 c88 c89 c90 c91 c92 c93 c94 c95 c96 c97 c98 c99 c100 c101 c102 c103 c104 c105 c106 c107 c108 c109 c110 c111 c112 c113 c114 c115 c116 c117 c118 c119 c120 c121 c122 c123 c124 c125 c126 c127 c128 c129 c130 c131 c132 c133 c134 c135 c136 c137 c138 c139 c140 c141 c142 c143 c144 c145 c146 c147 c148 c149 c150 c151 c152 c153 c154 c155 c156 c157 c158 c159 c160 c161 c162 c163 c164 c165 c166 c167 c168 c169 c170 c171 c172 c173 c174 c175 c176 c177 c178 c179 c180 c181 c182 c183 c184 c185 c188 c189 c190 c191 c192 c193 c194 c195 c196 c197 c198 c199 c200 c201 c202 c203 c204 c205 c206 c207 c208 c209 c210 c211 c212 c213 c214 c215 c216 c217 c218 c219 c220 c221 c222 c223 c224 c225 c226 c227 c228 c229 c230 c231 c232 c233 c234 c235 c236 c237 c238 c239 c240 c241 c242 c243 c244 c245 c246 c247 c248 c249 c250 c251 c252 c253 c254 c255 c256 c257 c258 c259 c260 c261 c262 c263 c264 c265 c266 c267 c268 c269 c270 c271 c272 c273 c274 c275 c276 c277 c278 c279 c280 c281 c282 c283 c284 c285 c286 c287 c288 c289 c290 c291 c292 c293 c294 c295 c296 c297 : Value) :
    Code.wp Yba.prog (Code.loop (((Yba.f19.body.map (fun b => (nthLoop 6 b).2)).getD none).getD .skip)) (Exit.inBlock 12 (Exit.then K0 (bodyPost Yba.prog Yba.f19 R0))) ⟨#[c0, c1, c2, c3, c4, .int .i64 (n : Int), .slice (some ⟨gF, 0, none⟩) fr.length capF, .slice aT tol.length cT, c8, c9, c10, c11, c12, c13, .slice (some ⟨gc, 0, none⟩) comp.length comp.length, .int .i64 (cnt : Int), .slice (some ⟨gs, 0, none⟩) (cnt + 1) (cnt + 1), c17, c18, c19, .slice (some ⟨gb, 0, none⟩) comp.length comp.length, c21, c22, c23, .pointer (some ⟨bd, 0, none⟩), .slice (some ⟨gl, 0, none⟩) cnt cnt, c26, c27, c28, c29, c30, c31, c32, c33, c34, c35, c36, c37, c38, c39, c40, c41, c42, c43, c44, c45, c46, c47, c48, c49, c50, c51, c52, c53, c54, c55, c56, c57, c58, c59, c60, c61, c62, c63, c64, c65, c66, c67, c68, c69, c70, c71, c72, c73, c74, c75, c76, c77, c78, c79, c80, c81, c82, c83, c84, c85, c86, c87, c88, c89, c90, c91, c92, c93, c94, c95, c96, c97, c98, c99, c100, c101, c102, c103, c104, c105, c106, c107, c108, c109, c110, c111, c112, c113, c114, c115, c116, c117, c118, c119, c120, c121, c122, c123, c124, c125, c126, c127, c128, c129, c130, c131, c132, c133, c134, c135, c136, c137, c138, c139, c140, c141, c142, c143, c144, c145, c146, c147, c148, c149, c150, c151, c152, c153, c154, c155, c156, c157, c158, c159, c160, c161, c162, c163, c164, c165, c166, c167, c168, c169, c170, c171, c172, c173, c174, c175, c176, c177, c178, c179, c180, c181, c182, c183, c184, c185, .int .i64 (cnt : Int), .int .i64 0, c188, c189, c190, c191, c192, c193, c194, c195, c196, c197, c198, c199, c200, c201, c202, c203, c204, c205, c206, c207, c208, c209, c210, c211, c212, c213, c214, c215, c216, c217, c218, c219, c220, c221, c222, c223, c224, c225, c226, c227, c228, c229, c230, c231, c232, c233, c234, c235, c236, c237, c238, c239, c240, c241, c242, c243, c244, c245, c246, c247, c248, c249, c250, c251, c252, c253, c254, c255, c256, c257, c258, c259, c260, c261, c262, c263, c264, c265, c266, c267, c268, c269, c270, c271, c272, c273, c274, c275, c276, c277, c278, c279, c280, c281, c282, c283, c284, c285, c286, c287, c288, c289, c290, c291, c292, c293, c294, c295, c296, c297], []⟩ W9 := by
  obtain ⟨i3, h3i, h3z, h3s, h3b⟩ := info_parts info3
  have HV9 : Hid _ := hv
  have H9 : Hid _ := And.intro hD9 hrun9
  have hexit : Hid _ := hexit0
  clear hv hD9 hrun9 hexit0
  let Q' : Exit → Act → World → Prop := bodyPost Yba.prog Yba.f19 R0
  change Code.wp _ _ (Exit.inBlock 12 (Exit.then K0 Q')) _ _
  conv => arg 2; whnf; arg 1; whnf
  dsimp only
  go_loopg [187] cnt (fun j i wx => ∃ (node : Nat) (V : Nat → Value) (X : Nat → List Nat), node ≤ cnt ∧ j = cnt - node ∧ i = .int .i64 node ∧ DM N w wx bd vA V9 X9 V X ∧ nodesP fr tol comp byN start n (cnt - node) node (lk X) = some kf)
  case atStart => exact ⟨0, V9, X9, Nat.zero_le _, rfl, rfl, H9.out.1, H9.out.2⟩
  case round =>
    clear H9
    obtain ⟨node, V, X, hnd, rfl, rfl, hD, hrun⟩ := hrel
    by_cases hlt : node < cnt
    · obtain ⟨m, hm⟩ : ∃ m, cnt - node = m + 1 := ⟨cnt - node - 1, by omega⟩
      rw [hm, nodesP] at hrun
      split at hrun
      · rename_i a b ha hb
        split at hrun
        · rename_i hg
          obtain ⟨hg1, hg2, hg3, hg4⟩ := hg
          unfold big at hg3 hg4
          split at hrun
          · rename_i k' hverts
            have d1 := hD.m.cell (c := 3) ((hD.hv 3 (.inl (by decide))).trans HV9.out.2.2.2.1) (i := node) (x := a) (by rw [hD.hx 3 (by decide), HV9.out.2.2.2.2.2.2.2.2.2.1]; exact ha)
            have d2 := hD.m.cell (c := 3) ((hD.hv 3 (.inl (by decide))).trans HV9.out.2.2.2.1) (i := node + 1) (x := b) (by rw [hD.hx 3 (by decide), HV9.out.2.2.2.2.2.2.2.2.2.1]; exact hb)
            have hbc1 : b ≤ comp.length := by omega
            have HK : Hid _ := And.intro hD (And.intro hverts hrun)
            have HM' : Hid _ := hm
            replace hg3 : (X 7).length < 1000000000 := hg3
            replace hg4 : (X 9).length < 1000000000 := hg4
            clear hD hverts hrun ha hb hm
            go_wp2
            go_quiet (fail)
            obtain ⟨q1, hq1⟩ : ∃ q, q = nq := ⟨_, rfl⟩
            rw [← hq1]
            clear hq1 d1 d2
            obtain ⟨A, hA⟩ : ∃ A, A = (if comp.length = a then some (⟨gb, 0, none⟩ : Addr) else some ⟨gb, a, none⟩) := ⟨_, rfl⟩
            rw [← hA]
            have HA : a < b → A = some ⟨gb, a, none⟩ := fun h => by rw [hA, if_neg (by omega)]
            clear hA
            obtain ⟨L, hL⟩ : ∃ L, L = (byN.drop a).take (b - a) := ⟨_, rfl⟩
            have hLl : L.length = b - a := by rw [hL]; simp; omega
            have hLc : ∀ i x, L[i]? = some x → byN[a + i]? = some x := fun i x h => by
              rw [hL, List.getElem?_take] at h
              split at h
              · rwa [List.getElem?_drop] at h
              · cases h
            have HL : Hid _ := And.intro hLl (And.intro hLc hL)
            clear hL hLl hLc
            go_wp2
            go_loopg [202] (b - a) (fun j i wx => ∃ (k : Nat) (V' : Nat → Value) (X' : Nat → List Nat), k ≤ b - a ∧ j = b - a - k ∧ i = .int .i64 k ∧ DM N w wx bd vA V9 X9 V' X' ∧ X' 7 = X 7 ∧ X' 9 = X 9 ∧ vertsP fr tol comp n node (L.drop k) (lk X') = some k')
            case atStart => exact ⟨0, V, X, Nat.zero_le _, rfl, rfl, HK.out.1.drewN _, rfl, rfl, by rw [List.drop_zero, HL.out.2.2]; exact HK.out.2.1⟩
            case round =>
              obtain ⟨k, V', X', hk, rfl, rfl, hD, hX7, hX9, hrun⟩ := hrel
              by_cases hlt2 : k < b - a
              · obtain rfl := HA (by omega)
                obtain ⟨v, hx⟩ : ∃ x, L[k]? = some x := ⟨_, List.getElem?_eq_getElem (by rw [HL.out.1]; exact hlt2)⟩
                have hdr : L.drop k = v :: L.drop (k + 1) := by
                  obtain ⟨h1, h2⟩ := List.getElem?_eq_some_iff.1 hx
                  rw [List.drop_eq_getElem_cons h1, h2]
                rw [hdr, vertsP] at hrun
                split at hrun
                · rename_i a2 b2 ha2 hb2
                  split at hrun
                  · rename_i hg
                    obtain ⟨hh1, hh2, hh3⟩ := hg
                    unfold big at hh3
                    replace hh3 : (X' 6).length < 1000000000 := hh3
                    split at hrun
                    · rename_i k2' hedges
                      have hv1l : v + 1 < fr.length := (List.getElem?_eq_some_iff.1 hb2).1
                      have d1 := hD.m.cell (c := 4) ((hD.hv 4 (.inl (by decide))).trans HV9.out.2.2.2.2.1) (i := a + k) (x := v) (by rw [hD.hx 4 (by decide), HV9.out.2.2.2.2.2.2.2.2.2.2]; exact HL.out.2.1 k v hx)
                      have HJ : Hid _ := And.intro hD (And.intro hX7 (And.intro hX9 (And.intro hedges (And.intro hrun (And.intro ha2 hb2)))))
                      clear hD hX7 hX9 hedges hrun ha2 hb2 hx hdr
                      go_upto_if 208 with fail
                      go_cut [] (fun wx => ∃ (V2 : Nat → Value) (X2 : Nat → List Nat), DM N w wx bd vA V9 X9 V2 X2 ∧ lk X2 = vertP n v (lk X'))
                      case first =>
                        by_cases hvn : v < n
                        · have hvn' : (v : Int) < (n : Int) := by omega
                          obtain ⟨a6, c6, hV6', _, _⟩ := HJ.out.1.m.r.any 6
                          have y1 : wr.cell? ⟨bd, 1, none⟩ = some (.slice a6 (X' 6).length c6) := by rw [← hV6']; exact cellB HJ.out.1.d rfl
                          have hzz := HJ.out.1.m.s
                          go_wp2_with (at_builtin; refine wpList_append_own_at _ rfl (.tmp 213) (.tmp 215) 39 rfl N 3 i3 (.int .i64 0) 1 8 Yba.underlying39 h3i h3z h3s h3b rfl (by decide) (.slice a6 (X' 6).length c6) (X' 6).length (natCells (X' 6)) rfl ?s0 ⟨wr.heap.size, 0, none⟩ 1 1 [.int .i64 (v : Int)] rfl rfl ?s1 (by simp [Value.oneCell']) ?s2 ?s3 ?s4 ?_)
                          case s0 => rw [← hV6']; exact (HJ.out.1.alloc _).m.r.own 6
                          try case s1 => exact cells_one _ _ _
                          case s2 => unfold maxLen; omega
                          case s3 => omega
                          case s4 => first | omega | (simp only [World.size_alloc]; omega)
                          intro v6 W6 O6 G6 hne A6
                          obtain ⟨g6, cap6, rfl⟩ := Joins.ownsRow_form O6 (by omega)
                          have P6 := (HJ.out.1.alloc _).push (c := 6) (by decide) hV6' O6 G6 (by simpa using A6)
                          have z1 : W6.cell? ⟨bd, 1, none⟩ = some (V' 6) := cellB ((HJ.out.1.alloc _).keep hV6' G6) rfl
                          have z2 : W6.frozen? ⟨bd, 1, none⟩ = false := freeB ((HJ.out.1.alloc _).keep hV6' G6)
                          replace P6 : Hid _ := P6
                          clear hne A6 O6 G6 y1
                          go_wp2
                          go_meet
                          refine ⟨_, _, P6.out, ?_⟩
                          simp [lk, vertP, hvn, upd]
                        · have hvn' : ¬ (v : Int) < (n : Int) := by omega
                          go_wp2
                          go_meet
                          exact ⟨V', X', HJ.out.1, by rw [vertP, if_neg hvn]⟩
                      case rest =>
                        clear d1
                        obtain ⟨V2, X2, hD2, hlk2⟩ := hcut
                        have d1 := hD2.m.cell (c := 0) ((hD2.hv 0 (.inl (by decide))).trans HV9.out.1) (i := v) (x := a2) (by rw [hD2.hx 0 (by decide), HV9.out.2.2.2.2.2.2.1]; exact HJ.out.2.2.2.2.2.1)
                        have d2 := hD2.m.cell (c := 0) ((hD2.hv 0 (.inl (by decide))).trans HV9.out.1) (i := v + 1) (x := b2) (by rw [hD2.hx 0 (by decide), HV9.out.2.2.2.2.2.2.1]; exact HJ.out.2.2.2.2.2.2)
                        have e7 : X2 7 = X 7 := by have := congrArg LK.eventsFrom hlk2; rw [vertP] at this; split at this <;> exact this.trans HJ.out.2.1
                        have e9 : X2 9 = X 9 := by have := congrArg LK.nextFrom hlk2; rw [vertP] at this; split at this <;> exact this.trans HJ.out.2.2.1
                        have hb2T : b2 ≤ cT := by omega
                        have H2 : Hid _ := And.intro hD2 (And.intro e7 (And.intro e9 hlk2))
                        clear hD2 hlk2 e7 e9
                        go_wp2
                        go_quiet (fail)
                        obtain ⟨q2, hq2⟩ : ∃ q, q = nq := ⟨_, rfl⟩
                        rw [← hq2]
                        clear hq2 d1 d2
                        obtain ⟨A2, hA2⟩ : ∃ A, A = (if cT = a2 then aT else Option.map (fun x => x.add a2) aT) := ⟨_, rfl⟩
                        rw [← hA2]
                        obtain ⟨bT, hbT, _⟩ := H2.out.1.m.r.read (c := 1) ((H2.out.1.hv 1 (.inl (by decide))).trans HV9.out.2.1)
                        rw [H2.out.1.hx 1 (by decide), HV9.out.2.2.2.2.2.2.2.1] at hbT
                        have HA2 : a2 < b2 → A2 = some ⟨bT, a2, none⟩ ∧ aT = some ⟨bT, 0, none⟩ := fun h => by
                          obtain ⟨h1, h2⟩ := hbT (by omega)
                          rw [hA2, if_neg (by omega), h1]
                          exact ⟨by simp [Addr.add_lit], rfl⟩
                        clear hA2 hbT
                        obtain ⟨L2, hL2⟩ : ∃ L, L = (tol.drop a2).take (b2 - a2) := ⟨_, rfl⟩
                        have hL2l : L2.length = b2 - a2 := by rw [hL2]; simp; omega
                        have hL2c : ∀ i x, L2[i]? = some x → tol[a2 + i]? = some x := fun i x h => by
                          rw [hL2, List.getElem?_take] at h
                          split at h
                          · rwa [List.getElem?_drop] at h
                          · cases h
                        have HL2 : Hid _ := And.intro hL2l (And.intro hL2c hL2)
                        clear hL2 hL2l hL2c
                        go_wp2
                        go_loopg [231] (b2 - a2) (fun j i wx => ∃ (k2 : Nat) (V3 : Nat → Value) (X3 : Nat → List Nat), k2 ≤ b2 - a2 ∧ j = b2 - a2 - k2 ∧ i = .int .i64 k2 ∧ DM N w wx bd vA V9 X9 V3 X3 ∧ X3 7 = X 7 ∧ X3 9 = X 9 ∧ edgesP comp node (L2.drop k2) (lk X3) = some k2')
                        case atStart => exact ⟨0, V2, X2, Nat.zero_le _, rfl, rfl, H2.out.1.drewN _, H2.out.2.1, H2.out.2.2.1, by rw [List.drop_zero, HL2.out.2.2, H2.out.2.2.2]; exact HJ.out.2.2.2.1⟩
                        case round =>
                          clear H2
                          obtain ⟨k2, V3, X3, hk2, rfl, rfl, hD3, hX37, hX39, hrun3⟩ := hrel
                          by_cases hlt3 : k2 < b2 - a2
                          · obtain ⟨rfl, rfl⟩ := HA2 (by omega)
                            obtain ⟨x, hx⟩ : ∃ x, L2[k2]? = some x := ⟨_, List.getElem?_eq_getElem (by rw [HL2.out.1]; exact hlt3)⟩
                            have hdr : L2.drop k2 = x :: L2.drop (k2 + 1) := by
                              obtain ⟨h1, h2⟩ := List.getElem?_eq_some_iff.1 hx
                              rw [List.drop_eq_getElem_cons h1, h2]
                            rw [hdr, edgesP] at hrun3
                            split at hrun3
                            · rename_i c hc
                              split at hrun3
                              · rename_i ll hll
                                split at hrun3
                                · rename_i hnb
                                  unfold big at hnb
                                  replace hnb : (X3 8).length < 1000000000 := hnb
                                  replace hll : (X3 10)[c]? = some ll := hll
                                  have hxl : x < comp.length := (List.getElem?_eq_some_iff.1 hc).1
                                  have w10 := (hD3.hv 10 (.inr rfl)).trans HV9.out.2.2.2.2.2.1
                                  have hcl : c < cnt := by
                                    have h1 := (List.getElem?_eq_some_iff.1 hll).1
                                    obtain ⟨_, _, hq, _, _⟩ := hD3.m.r.any 10
                                    obtain ⟨_, h2, _⟩ := Value.slice.inj (w10.symm.trans hq)
                                    omega
                                  have d1 := hD3.m.cell (c := 1) ((hD3.hv 1 (.inl (by decide))).trans HV9.out.2.1) (i := a2 + k2) (x := x) (by rw [hD3.hx 1 (by decide), HV9.out.2.2.2.2.2.2.2.1]; exact HL2.out.2.1 k2 x hx)
                                  have d2 := hD3.m.cell (c := 2) ((hD3.hv 2 (.inl (by decide))).trans HV9.out.2.2.1) (i := x) (x := c) (by rw [hD3.hx 2 (by decide), HV9.out.2.2.2.2.2.2.2.2.1]; exact hc)
                                  have d3 := hD3.m.cell w10 (i := c) (x := ll) hll
                                  have d4 := hD3.m.r.free w10 (i := c)
                                  clear hx hdr hc hll
                                  by_cases hcn : c = node
                                  · rw [if_neg (fun h => h.1 hcn)] at hrun3
                                    subst hcn
                                    have HZ : Hid _ := And.intro hD3 (And.intro hX37 (And.intro hX39 hrun3))
                                    clear hD3 hX37 hX39 hrun3 w10
                                    go_wp2
                                    go_roundg (b2 - a2 - (k2 + 1))
                                    case measure => omega
                                    case rel => exact ⟨k2 + 1, V3, X3, by omega, rfl, by go_num, HZ.out.1, HZ.out.2.1, HZ.out.2.2.1, HZ.out.2.2.2⟩
                                  · by_cases hln : ll = node + 1
                                    · rw [if_neg (fun h => h.2 hln)] at hrun3
                                      have hcn' : ¬ (c : Int) = (node : Int) := by omega
                                      subst hln
                                      have HZ : Hid _ := And.intro hD3 (And.intro hX37 (And.intro hX39 hrun3))
                                      clear hD3 hX37 hX39 hrun3 w10
                                      go_wp2
                                      go_roundg (b2 - a2 - (k2 + 1))
                                      case measure => omega
                                      case rel => exact ⟨k2 + 1, V3, X3, by omega, rfl, by go_num, HZ.out.1, HZ.out.2.1, HZ.out.2.2.1, HZ.out.2.2.2⟩
                                    · rw [if_pos ⟨hcn, hln⟩] at hrun3
                                      have hcn' : ¬ (c : Int) = (node : Int) := by omega
                                      have hln' : ¬ (ll : Int) = (node : Int) + 1 := by omega
                                      have hcnb : ((c : Int) != (node : Int)) = true := by simp [hcn']
                                      have hlnb : ((ll : Int) != (node : Int) + 1) = true := by simp [hln']
                                      have D4 := hD3.link w10 c (node + 1)
                                      obtain ⟨W7, hW7⟩ : ∃ W, W = wr.setCell ⟨gl, c, none⟩ (.int .i64 ((node : Int) + 1)) := ⟨_, rfl⟩
                                      have D5 : DM N w W7 bd vA V9 X9 V3 (upd X3 10 ((X3 10).set c (node + 1))) := by rw [hW7]; exact D4
                                      obtain ⟨a8, c8, hV8, _, _⟩ := hD3.m.r.any 8
                                      have y3 : wr.cell? ⟨bd, 3, none⟩ = some (.slice a8 (X3 8).length c8) := by rw [← hV8]; exact cellB hD3.d rfl
                                      have y4 : W7.cell? ⟨bd, 3, none⟩ = some (.slice a8 (X3 8).length c8) := by rw [← hV8]; exact cellB D5.d rfl
                                      have ng := hD3.ne w10
                                      have ng' : ¬ bd = gl := fun e => ng e.symm
                                      have hzz := D5.m.s
                                      have HZ : Hid _ := And.intro D5 (And.intro hX37 (And.intro hX39 (And.intro hrun3 hW7)))
                                      clear hD3 hX37 hX39 hrun3 w10 D4 D5 hW7
                                      go_wp2_with (at_builtin; refine wpList_append_own_at _ rfl (.tmp 260) (.tmp 262) 39 rfl N 3 i3 (.int .i64 0) 1 8 Yba.underlying39 h3i h3z h3s h3b rfl (by decide) (.slice a8 (X3 8).length c8) (X3 8).length (natCells (X3 8)) rfl ?t0 ⟨wr.heap.size, 0, none⟩ 1 1 [.int .i64 (c : Int)] rfl rfl ?t1 (by simp [Value.oneCell']) ?t2 ?t3 ?t4 ?_)
                                      case t0 =>
                                        obtain ⟨D5, _, _, _, hW7⟩ := HZ.out
                                        rw [hW7] at D5
                                        rw [← hV8]
                                        exact (D5.alloc _).m.r.own 8
                                      try case t1 =>
                                        intro j u hj
                                        have h1 := cells_one (wr.setCell ⟨gl, c, none⟩ (.int .i64 ((node : Int) + 1))) (.int .i64 (c : Int)) 3 j u hj
                                        rwa [show (wr.setCell ⟨gl, c, none⟩ (.int .i64 ((node : Int) + 1))).heap.size = wr.heap.size by simp [World.setCell]] at h1
                                      case t2 => unfold maxLen; omega
                                      case t3 => omega
                                      case t4 =>
                                        obtain ⟨D5, _, _, _, hW7⟩ := HZ.out
                                        rw [hW7] at D5
                                        have := (D5.alloc (.cells #[.int .i64 (c : Int)] 3)).m.s
                                        simpa using this
                                      intro v8 W8 O8 G8 hne A8
                                      obtain ⟨g8, cap8, rfl⟩ := Joins.ownsRow_form O8 (by omega)
                                      obtain ⟨D5, hX37, hX39, hrun3, hW7⟩ := HZ.out
                                      rw [hW7] at D5
                                      have P8 := (D5.alloc _).push (c := 8) (by decide) hV8 O8 G8 (by simpa using A8)
                                      have z1 : W8.cell? ⟨bd, 3, none⟩ = some (V3 8) := cellB ((D5.alloc _).keep hV8 G8) rfl
                                      have z2 : W8.frozen? ⟨bd, 3, none⟩ = false := freeB ((D5.alloc _).keep hV8 G8)
                                      have HP : Hid _ := And.intro P8 (And.intro hX37 (And.intro hX39 hrun3))
                                      clear hne A8 O8 G8 y3 y4 P8 D5 hX37 hX39 hrun3 HZ d1 d2 d3 d4 hW7
                                      go_wp2
                                      go_roundg (b2 - a2 - (k2 + 1))
                                      case measure => omega
                                      case rel => exact ⟨k2 + 1, _, _, by omega, rfl, by go_num, HP.out.1, HP.out.2.1, HP.out.2.2.1, HP.out.2.2.2⟩
                                · cases hrun3
                              · cases hrun3
                            · cases hrun3
                          · obtain rfl : k2 = b2 - a2 := by omega
                            have hnil : L2.drop (b2 - a2) = [] := by rw [List.drop_eq_nil_iff, HL2.out.1]; exact Nat.le_refl _
                            rw [hnil, edgesP] at hrun3
                            have hk3 : lk X3 = k2' := Option.some.inj hrun3
                            have HZ : Hid _ := And.intro hD3 (And.intro hX37 (And.intro hX39 hk3))
                            clear hD3 hX37 hX39 hrun3 hk3 hnil
                            go_wp2
                            go_roundg (b - a - (k + 1))
                            case measure => omega
                            case rel => exact ⟨k + 1, V3, X3, by omega, rfl, by go_num, HZ.out.1, HZ.out.2.1, HZ.out.2.2.1, by rw [HZ.out.2.2.2]; exact HJ.out.2.2.2.2.1⟩
                    · cases hrun
                  · cases hrun
                · cases hrun
              · obtain rfl : k = b - a := by omega
                have hnil : L.drop (b - a) = [] := by rw [List.drop_eq_nil_iff, HL.out.1]; exact Nat.le_refl _
                rw [hnil, vertsP] at hrun
                obtain rfl : lk X' = k' := Option.some.inj hrun
                have hrest := HK.out.2.2
                obtain ⟨a6, c6, hV6', _, _⟩ := hD.m.r.any 6
                obtain ⟨a7, c7, hV7', _, _⟩ := hD.m.r.any 7
                rw [hX7] at hV7'
                have y1 : wr.cell? ⟨bd, 1, none⟩ = some (.slice a6 (X' 6).length c6) := by rw [← hV6']; exact cellB hD.d rfl
                have y2 : wr.cell? ⟨bd, 2, none⟩ = some (.slice a7 (X 7).length c7) := by rw [← hV7']; exact cellB hD.d rfl
                have y1a : ∀ o, (wr.alloc o).cell? ⟨bd, 1, none⟩ = some (.slice a6 (X' 6).length c6) := fun o => by rw [← hV6']; exact cellB (hD.alloc o).d rfl
                have y2a : ∀ o, (wr.alloc o).cell? ⟨bd, 2, none⟩ = some (.slice a7 (X 7).length c7) := fun o => by rw [← hV7']; exact cellB (hD.alloc o).d rfl
                have hzz := hD.m.s
                have HZ : Hid _ := And.intro hD (And.intro hX7 (And.intro hX9 hrest))
                clear hD hX7 hX9 hrun hnil hrest
                go_upto_region 62 with fail
                go_cut [] (fun wx => ∃ (V2 : Nat → Value) (X2 : Nat → List Nat), DM N w wx bd vA V9 X9 V2 X2 ∧ lk X2 = { lk X' with eventsFrom := X' 7 ++ [(X' 6).length] })
                case first =>
                  go_region_law
                    (refine step_append_lies _ (by rfl) _ _ _ (by rfl) N 3 i3 _ 1 8 Yba.underlying39 h3i h3z h3s h3b rfl (by omega) (.slice a7 (X 7).length c7) (X 7).length (natCells (X' 7)) (by rfl) (by have h := (HZ.out.1.alloc (.cells #[.int .i64 ((X' 6).length : Int)] 3)).drew.m.r.own 7; rw [HZ.out.2.1, hV7'] at h; rw [HZ.out.2.1]; exact h) ⟨wr.heap.size, 0, none⟩ 1 1 [.int .i64 ((X' 6).length : Int)] (by rfl) (by rfl) (by exact cells_one _ _ _) (by intro u hu; simp at hu; subst hu; rfl) (by omega) (by unfold maxLen; omega) (by omega) (by simp; omega) (wr.heap.size + 1) (by simp) ?_; intro gz cz wz hownz hgrowz hatz hltz; have x7 : wz.cell? ⟨bd, 2, none⟩ = some (V' 7) := cellB ((HZ.out.1.alloc _).drew.keep hV7' hgrowz) rfl; have n7 : wz.frozen? ⟨bd, 2, none⟩ = false := freeB ((HZ.out.1.alloc _).drew.keep hV7' hgrowz))
                  all_goals
                    have P7 := (HZ.out.1.alloc _).drew.push (c := 7) (by decide) hV7' (by rw [HZ.out.2.1]; rw [HZ.out.2.1] at hownz; exact hownz) hgrowz (by rcases hatz with h | h; exact .inl h.symm; exact .inr (by rw [h]; simp [Value.ownBlock]))
                    replace P7 : Hid _ := P7
                    clear hownz hgrowz hatz y1 y2 y1a y2a
                    go_wp2
                    go_meet
                    refine ⟨_, _, P7.out, ?_⟩
                    simp [lk, upd]
                case rest =>
                  clear y1 y2 y1a y2a hV6' hV7'
                  obtain ⟨V2, X2, hD2, hlk2⟩ := hcut
                  have e6 : X2 6 = X' 6 := congrArg LK.events hlk2
                  have e7 : X2 7 = X' 7 ++ [(X' 6).length] := congrArg LK.eventsFrom hlk2
                  have e8 : X2 8 = X' 8 := congrArg LK.next hlk2
                  have e9 : X2 9 = X 9 := (congrArg LK.nextFrom hlk2).trans HZ.out.2.2.1
                  have e10 : X2 10 = X' 10 := congrArg LK.linked hlk2
                  obtain ⟨a8, c8, hV8', _, _⟩ := hD2.m.r.any 8
                  obtain ⟨a9, c9, hV9', _, _⟩ := hD2.m.r.any 9
                  rw [e8] at hV8'
                  rw [e9] at hV9'
                  have y3 : wc.cell? ⟨bd, 3, none⟩ = some (.slice a8 (X' 8).length c8) := by rw [← hV8']; exact cellB hD2.d rfl
                  have y4 : wc.cell? ⟨bd, 4, none⟩ = some (.slice a9 (X 9).length c9) := by rw [← hV9']; exact cellB hD2.d rfl
                  have y3a : ∀ o, (wc.alloc o).cell? ⟨bd, 3, none⟩ = some (.slice a8 (X' 8).length c8) := fun o => by rw [← hV8']; exact cellB (hD2.alloc o).d rfl
                  have y4a : ∀ o, (wc.alloc o).cell? ⟨bd, 4, none⟩ = some (.slice a9 (X 9).length c9) := fun o => by rw [← hV9']; exact cellB (hD2.alloc o).d rfl
                  have hz2 := hD2.m.s
                  have HY : Hid _ := And.intro hD2 (And.intro e6 (And.intro e7 (And.intro e8 (And.intro e9 e10))))
                  clear hD2 hlk2 e6 e7 e8 e9 e10
                  go_wp2
                  go_region_law
                    (refine step_append_lies _ (by rfl) _ _ _ (by rfl) N 3 i3 _ 1 8 Yba.underlying39 h3i h3z h3s h3b rfl (by omega) (.slice a9 (X 9).length c9) (X 9).length (natCells (X2 9)) (by rfl) (by have h := (HY.out.1.alloc (.cells #[.int .i64 ((X' 8).length : Int)] 3)).drew.m.r.own 9; rw [HY.out.2.2.2.2.1, hV9'] at h; rw [HY.out.2.2.2.2.1]; exact h) ⟨wc.heap.size, 0, none⟩ 1 1 [.int .i64 ((X' 8).length : Int)] (by rfl) (by rfl) (by exact cells_one _ _ _) (by intro u hu; simp at hu; subst hu; rfl) (by omega) (by unfold maxLen; omega) (by omega) (by simp; omega) (wc.heap.size + 1) (by simp) ?_; intro gz cz wz hownz hgrowz hatz hltz; have x9 : wz.cell? ⟨bd, 4, none⟩ = some (V2 9) := cellB ((HY.out.1.alloc _).drew.keep hV9' hgrowz) rfl; have n9 : wz.frozen? ⟨bd, 4, none⟩ = false := freeB ((HY.out.1.alloc _).drew.keep hV9' hgrowz))
                  all_goals
                    have P9 := (HY.out.1.alloc _).drew.push (c := 9) (by decide) hV9' (by rw [HY.out.2.2.2.2.1]; rw [HY.out.2.2.2.2.1] at hownz; exact hownz) hgrowz (by rcases hatz with h | h; exact .inl h.symm; exact .inr (by rw [h]; simp [Value.ownBlock]))
                    replace P9 : Hid _ := P9
                    clear hownz hgrowz hatz y3 y4 y3a y4a
                    go_wp2
                    go_roundg (cnt - (node + 1))
                    case measure => omega
                    case rel =>
                      refine ⟨node + 1, _, _, by omega, rfl, by go_num, P9.out, ?_⟩
                      have hm := HM'.out
                      rw [show cnt - (node + 1) = m by omega]
                      have : lk (upd X2 9 (X2 9 ++ [(X' 8).length])) = closeP (lk X') := by
                        simp only [lk, closeP, upd_same, upd_other _ _ (show (10 : Nat) ≠ 9 by decide), upd_other _ _ (show (6 : Nat) ≠ 9 by decide), upd_other _ _ (show (7 : Nat) ≠ 9 by decide), upd_other _ _ (show (8 : Nat) ≠ 9 by decide), HY.out.2.1, HY.out.2.2.1, HY.out.2.2.2.1, HY.out.2.2.2.2.1, HY.out.2.2.2.2.2, HZ.out.2.2.1]
                      rw [this]
                      exact HZ.out.2.2.2
          · cases hrun
        · cases hrun
      · cases hrun
    · obtain rfl : node = cnt := by omega
      rw [Nat.sub_self, nodesP] at hrun
      have hk := Option.some.inj hrun
      have HK : Hid _ := And.intro hD hk
      clear hD hrun hk
      go_wp2
      exact hexit.out _ _ _ HK.out.1 HK.out.2 _ _ _ _ _ _ _ _ _ _ _ _ _ _ _ _ _ _ _ _ _ _ _ _ _ _ _ _ _ _ _ _ _ _ _ _ _ _ _ _ _ _ _ _ _ _ _ _ _ _ _ _ _ _ _ _ _ _ _ _ _ _ _ _ _ _ _ _ _ _ _ _ _ _ _ _ _ _ _ _ _ _ _ _ _ _ _ _ _ _ _ _ _ _ _ _ _ _ _ _ _ _ _ _ _ _ _ _ _ _ _ _ _ _ _ _ _ _ _ _ _ _ _ _ _ _ _ _ _ _ _ _ _ _ _ _ _ _ _ _ _ _ _ _ _ _ _ _ _ _ _ _ _ _ _ _ _ _ _ _ _ _ _ _ _ _ _ _ _ _ _ _ _ _ _ _ _ _ _ _ _ _ _ _ _ _ _ _ _ _ _ _ _ _ _ _ _ _ _ _ _ _ _ _ _ _ _ _ _ _ _ _ _ _ _ _ _ _ _ _ _ _ _ _ _ _ _ _ _ _ _ _ _ _ _ _ _ _ _ _ _ _ _ _ _ _ _ _ _ _ _ _ _ _ _ _ _ _ _ _ _ _ _ _ _ _ _ _ _ _ _ _ _ _ _ _ _ _ _ _ _ _ _ _ _ _ _ _ _ _ _ _ _ _ _ _ _
end Go.Proofs.Ybulkbewa
