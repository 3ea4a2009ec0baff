/- Judge: its loop over the members. -/
import Derived.Test.YbulkbewaJMem
import Derived.Test.YbulkbewaCondLoop
import Derived.Deep.CutBlock
import Derived.Deep.DeepCutAuto
namespace Go.Proofs.Ybulkbewa
open Go.RowKit Go.Maps
theorem info63 : (Yba.prog.info? 63).map (fun i => (i.zero, i.size, i.bytes)) = some (some (.agg #[.int .i64 0, .int .i64 0]), 2, 16) := by kernel_rfl
theorem keyOf_int3 (z : Int) (hz : (Lit.int .i64 z).wf = true) : keyOf Yba.prog 3 (.int .i64 z) = some (.int .i64 z) := keyOf_int_mk Yba.underlying3 hz
theorem plainElem_bool_inv {e : TypeId} (he : Yba.prog.underlying e = some .bool) {v : Value} {x : Bool} {ps : List MemPlace} (h : plainElem (H := Unit) Yba.prog e v = some (.lit (.bool x), ps)) : v = .bool x := by
  unfold plainElem at h
  rw [he] at h
  cases v <;> simp_all
theorem SlN.up {N B : Nat} {w w' : World} {v : Value} {l : List Nat} (h : SlN N w v l) (hN : N ≤ B) (hb : Below N w w') : SlN B w' v l := by
  obtain ⟨a, b, o, cap, hv, h1, h2, h3, h4⟩ := h
  refine ⟨a, b, o, cap, hv, h1, h2, fun h => ⟨(h3 h).1, by have := (h3 h).2; omega⟩, fun i x hx => ?_⟩
  have hl := (List.getElem?_eq_some_iff.1 hx).1
  exact (hb.cell (p := ⟨b, o + i, none⟩) (h3 (by omega)).2).trans (h4 i x hx)
theorem zero4 (w : World) : (zeroValue 4).run Yba.prog w = .ok (.bool false) w := Yba.zeroValue4 w
set_option maxHeartbeats 12800000 in
set_option maxRecDepth 1000000 in
theorem judge_loop2 (c : JC) (hG : JG c) (K : KS) (L : List MB) (d : DG) (fuel : Nat) (sv : Int → Bool) (svl : List Int) (a0 af : JA) (bc bE cE gM cM : Nat) (vS0 vD0 v0 v1 v2 v3 v4 : Value) (vp : Nat → Value) (w1 : World)
    (hE : c.E = K.evs.length) (hLl : L.length = c.ms.length) (hvM : c.vM = .slice (some ⟨gM, 0, none⟩) c.ms.length cM)
    (hbc : bc < c.w.heap.size) (hc0 : c.w.cell? ⟨bc, 0, none⟩ = some (.slice none 0 0)) (hc3 : c.w.cell? ⟨bc, 3, none⟩ = some (.slice (some ⟨bE, 0, none⟩) K.evs.length cE)) (hbE : bE < c.w.heap.size)
    (hev : ∀ (i : Nat) (ev : EV), K.evs[i]? = some ev → c.w.cell? ⟨bE, i * 4 + 3, none⟩ = some (vp i) ∧ SlN c.w.heap.size c.w (vp i) ev.pasts)
    (hmb : ∀ (i : Nat) (mb : MB), L[i]? = some mb → ∃ (p : Int × Nat) (vdv vsi : Value) (past : Int), c.ms[i]? = some p ∧ p.2 < c.w.heap.size ∧ c.w.heap[p.2]? = some (.cells #[.int .i64 mb.id, vdv, .int .i64 past, vsi] 81 (0, 0)) ∧ SlN c.w.heap.size c.w vdv mb.dv ∧ (Lit.int .i64 mb.id).wf = true)
    (hDR : ∀ w2 : World, (∀ b, c.Nc ≤ b → b < c.B → w2.heap[b]? = c.wA.heap[b]?) → DRep c.B w2 c.bd d v0 v1 v2 v3 v4)
    (hsv : SurvOf c.Ds svl) (hsvd : ∀ z, sv z = decide (z ∈ svl))
    (hM : JM c w1 a0.s a0.held a0.dup a0.run 0 0 a0.dlv vS0 vD0) (hrun0 : membersP d K.evs fuel sv L 0 a0 = some af)
    (K0 : Act → World → Prop) (R0 : Ending → World → Prop) (hexit0 : ∀ (vS vD : Value) (wr : World), JM c wr af.s af.held af.dup af.run 0 0 af.dlv vS vD → ∀ (d1 d2 d3 d4 d7 d8 d11 d12 d13 d14 d15 d16 d17 d18 d19 d20 d21 d22 d23 d24 d25 d26 d27 d28 d29 d30 d31 d32 d33 d34 d35 d36 d37 d38 d39 d40 d41 d42 d43 d44 d45 d46 d47 d48 d49 d50 d51 d52 d53 d54 d55 d56 d57 d58 d59 d60 d61 d62 d63 d64 d65 d66 d67 d68 d69 d70 d71 d72 d73 d74 d75 d76 d77 d78 d79 d80 d81 d82 d83 d84 d85 d86 d87 d88 d89 d90 d91 d92 d93 d94 d95 d96 d97 d98 d99 d100 d101 d102 d103 d104 d105 d106 d107 d108 d109 d110 d111 d112 d113 d114 d115 d116 d117 d118 d119 d120 d121 d122 d123 d124 d125 d126 d127 d128 d129 d130 d131 d132 d133 d134 d135 d136 d137 d138 d139 d140 d141 d142 d143 d144 d145 d146 d147 d148 d149 d150 d151 d152 d153 d154 d155 d156 d157 d158 d159 d160 d161 d162 d163 d164 d165 d166 d167 d168 d169 d170 d171 d172 d173 d174 d175 d176 d177 d178 d179 d180 d181 d182 d183 d184 d185 d186 d187 d188 d189 d190 d191 d192 d193 d194 d195 d196 d197 d198 d199 d200 d201 d202 d203 d204 d205 d206 d207 d208 d209 d210 d211 d212 d213 d214 d215 d216 d217 d218 d219 d220 d221 d222 d223 d224 d225 d226 d227 d228 d229 d230 d231 d232 d233 d234 d235 d236 d237 d238 d239 d240 d241 d242 d243 d244 d245 d246 d247 d248 d249 d250 d251 d252 d253 d254 d255 d256 d257 d258 d259 : Value), K0 ⟨#[.pointer (some ⟨bc, 0, none⟩), d1, d2, d3, d4, .pointer (some ⟨c.br, 0, none⟩), .map (some c.bs), d7, d8, .pointer (some ⟨c.bw, 0, none⟩), .slice (some ⟨c.bh, 0, none⟩) c.E c.E, d11, d12, d13, d14, d15, d16, d17, d18, d19, d20, d21, d22, d23, d24, d25, d26, d27, d28, d29, d30, d31, d32, d33, d34, d35, d36, d37, d38, d39, d40, d41, d42, d43, d44, d45, d46, d47, d48, d49, d50, d51, d52, d53, d54, d55, d56, d57, d58, d59, d60, d61, d62, d63, d64, d65, d66, d67, d68, d69, d70, d71, d72, d73, d74, d75, d76, d77, d78, d79, d80, d81, d82, d83, d84, d85, d86, d87, d88, d89, d90, d91, d92, d93, d94, d95, d96, d97, d98, d99, d100, d101, d102, d103, d104, d105, d106, d107, d108, d109, d110, d111, d112, d113, d114, d115, d116, d117, d118, d119, d120, d121, d122, d123, d124, d125, d126, d127, d128, d129, d130, d131, d132, d133, d134, d135, d136, d137, d138, d139, d140, d141, d142, d143, d144, d145, d146, d147, d148, d149, d150, d151, d152, d153, d154, d155, d156, d157, d158, d159, d160, d161, d162, d163, d164, d165, d166, d167, d168, d169, d170, d171, d172, d173, d174, d175, d176, d177, d178, d179, d180, d181, d182, d183, d184, d185, d186, d187, d188, d189, d190, d191, d192, d193, d194, d195, d196, d197, d198, d199, d200, d201, d202, d203, d204, d205, d206, d207, d208, d209, d210, d211, d212, d213, d214, d215, d216, d217, d218, d219, d220, d221, d222, d223, d224, d225, d226, d227, d228, d229, d230, d231, d232, d233, d234, d235, d236, d237, d238, d239, d240, d241, d242, d243, d244, d245, d246, d247, d248, d249, d250, d251, d252, d253, d254, d255, d256, d257, d258, d259], []⟩ wr)
    (c1 c2 c3 c4 c7 c8 c11 c12 c13 c14 c15 c16 c17 c18 c19 c20 c21 c22 c23 c24 c25 c26 c27 c28 c29 c30 c31 c32 c33 c34 c35 c36 c37 c38 c39 c40 c41 c42 c43 c44 c45 c46 c47 c48 c49 c50 c51 c52 c53 c54 c55 c56 c57 c58 c59 c60 c61 c62 c63 c64 c65 c66 c67 c68 c69 c70 c71 c72 c76 c77 c78 c79 c80 c81 c82 c83 c84 c85 c86 c87 c88 c89 c90 c91 c92 c93 c94 c95 c96 c97 c98 c99 c100 c101 c102 c103 c104 c105 c106 c107 c108 c109 c110 c111 c112 c113 c114 c115 c116 c117 c118 c119 c120 c121 c122 c123 c124 c125 c126 c127 c128 c129 c130 c131 c132 c133 c134 c135 c136 c137 c138 c139 c140 c141 c142 c143 c144 c145 c146 c147 c148 c149 c150 c151 c152 c153 c154 c155 c156 c157 c158 c159 c160 c161 c162 c163 c164 c165 c166 c167 c168 c169 c170 c171 c172 c173 c174 c175 c176 c177 c178 c179 c180 c181 c182 c183 c184 c185 c186 c187 c188 c189 c190 c191 c192 c193 c194 c195 c196 c197 c198 c199 c200 c201 c202 c203 c204 c205 c206 c207 c208 c209 c210 c211 c212 c213 c214 c215 c216 c217 c218 c219 c220 c221 c222 c223 c224 c225 c226 c227 c228 c229 c230 c231 c232 c233 c234 c235 c236 c237 c238 c239 c240 c241 c242 c243 c244 c245 c246 c247 c248 c249 c250 c251 c252 c253 c254 c255 c256 c257 c258 c259 : Value) :
    Code.wp Yba.prog (Code.loop (((Yba.f12.body.map (fun b => (nthLoop 1 b).2)).getD none).getD .skip)) (Exit.inBlock 2 (Exit.then K0 (bodyPost Yba.prog Yba.f12 R0))) ⟨#[.pointer (some ⟨bc, 0, none⟩), c1, c2, c3, c4, .pointer (some ⟨c.br, 0, none⟩), .map (some c.bs), c7, c8, .pointer (some ⟨c.bw, 0, none⟩), .slice (some ⟨c.bh, 0, none⟩) c.E c.E, c11, c12, c13, c14, c15, c16, c17, c18, c19, c20, c21, c22, c23, c24, c25, c26, c27, c28, c29, c30, c31, c32, c33, c34, c35, c36, c37, c38, c39, c40, c41, c42, c43, c44, c45, c46, c47, c48, c49, c50, c51, c52, c53, c54, c55, c56, c57, c58, c59, c60, c61, c62, c63, c64, c65, c66, c67, c68, c69, c70, c71, c72, .slice (some ⟨gM, 0, none⟩) L.length cM, .int .i64 (L.length : Int), .int .i64 0, c76, c77, c78, c79, c80, c81, c82, c83, c84, c85, c86, c87, c88, c89, c90, c91, c92, c93, c94, c95, c96, c97, c98, c99, c100, c101, c102, c103, c104, c105, c106, c107, c108, c109, c110, c111, c112, c113, c114, c115, c116, c117, c118, c119, c120, c121, c122, c123, c124, c125, c126, c127, c128, c129, c130, c131, c132, c133, c134, c135, c136, c137, c138, c139, c140, c141, c142, c143, c144, c145, c146, c147, c148, c149, c150, c151, c152, c153, c154, c155, c156, c157, c158, c159, c160, c161, c162, c163, c164, c165, c166, c167, c168, c169, c170, c171, c172, c173, c174, c175, c176, c177, c178, c179, c180, c181, c182, c183, c184, c185, c186, c187, c188, c189, c190, c191, c192, c193, c194, c195, c196, c197, c198, c199, c200, c201, c202, c203, c204, c205, c206, c207, c208, c209, c210, c211, c212, c213, c214, c215, c216, c217, c218, c219, c220, c221, c222, c223, c224, c225, c226, c227, c228, c229, c230, c231, c232, c233, c234, c235, c236, c237, c238, c239, c240, c241, c242, c243, c244, c245, c246, c247, c248, c249, c250, c251, c252, c253, c254, c255, c256, c257, c258, c259], []⟩ w1 := by
  obtain ⟨i6, h6i, h6z, h6s, h6b⟩ := info_parts info63
  have HC : Hid _ := And.intro hev (And.intro hmb (And.intro hDR (And.intro hsv hsvd)))
  have H9 : Hid _ := And.intro hM hrun0
  have hexit : Hid _ := hexit0
  have hE1 : c.E ≤ K.evs.length := by omega
  have hE2 : K.evs.length ≤ c.E := by omega
  have hL1 : L.length ≤ c.ms.length := by omega
  have hL2 : c.ms.length ≤ L.length := by omega
  have HVM : Hid _ := And.intro hvM hLl
  clear hE hLl hvM
  have hBw := hG.wb.g.1
  have hrr := hG.rr
  clear hev hmb hDR hsv hsvd hM hrun0 hexit0
  let Q' : Exit → Act → World → Prop := bodyPost Yba.prog Yba.f12 R0
  change Code.wp _ _ (Exit.inBlock 2 (Exit.then K0 Q')) _ _
  conv => arg 2; whnf; arg 1; whnf
  dsimp only
  go_loopg [75] L.length (fun j i wx => ∃ (k : Nat) (a : JA) (vS vD : Value), k ≤ L.length ∧ j = L.length - k ∧ i = .int .i64 k ∧ JM c wx a.s a.held a.dup a.run 0 0 a.dlv vS vD ∧ membersP d K.evs fuel sv (L.drop k) k a = some af)
  case atStart => exact ⟨0, a0, vS0, vD0, Nat.zero_le _, rfl, rfl, H9.out.1, H9.out.2⟩
  case round =>
    clear H9
    obtain ⟨k, a, vS, vD, hk, rfl, rfl, hM, hrun⟩ := hrel
    by_cases hlt : k < L.length
    · obtain ⟨mb, hx⟩ : ∃ x, L[k]? = some x := ⟨_, List.getElem?_eq_getElem hlt⟩
      have hdr : L.drop k = mb :: L.drop (k + 1) := by
        obtain ⟨h1, h2⟩ := List.getElem?_eq_some_iff.1 hx
        rw [List.drop_eq_getElem_cons h1, h2]
      rw [hdr, membersP] at hrun
      split at hrun
      · rename_i hg
        obtain ⟨hg1, hg2, hg3⟩ := hg
        unfold big at hg1 hg2 hg3
        split at hrun
        · rename_i q hq
          split at hrun
          · rename_i r hr
            obtain ⟨p, vdv, vsi, past, hp1, hp2, hp3, hp4, hp5⟩ := HC.out.2.1 k mb hx
            obtain ⟨aV, bV, oV, cV, rfl, hV1, hV2, hV3, hV4⟩ := hp4
            have hmO := hM.mm
            rw [HVM.out.1] at hmO
            have m1 : wr.cell? ⟨gM, k, none⟩ = some (.pointer (some ⟨p.2, 0, none⟩)) := by
              rw [hmO.cellAt k (by omega)]; simp [hp1]
            have mcl : k < c.ms.length := by omega
            obtain ⟨hcM1, hcM2⟩ : c.ms.length ≤ cM ∧ cM ≤ 9223372036854775807 := by
              rcases hmO.2 with ⟨h0, _⟩ | ⟨g', cap', cur, h0, _, _, h1, h2, _⟩
              · cases h0
              · cases h0; unfold maxLen at h2; exact ⟨h1, h2⟩
            have w1c : wr.cell? ⟨c.bw, 1, none⟩ = some (.int .i64 (a.s.member : Int)) := cellB hM.wr.c rfl
            have w1f : wr.frozen? ⟨c.bw, 1, none⟩ = false := freeB hM.wr.c
            have hM1 := hM.setM hG (k + 1)
            obtain ⟨W1, hW1⟩ : ∃ W, W = wr.setCell ⟨c.bw, 1, none⟩ (.int .i64 ((k : Int) + 1)) := ⟨_, rfl⟩
            have hM1' : JM c W1 { a.s with member := k + 1 } a.held a.dup a.run 0 0 a.dlv vS vD := by rw [hW1]; exact hM1
            have mb1 : W1.cell? ⟨p.2, 1, none⟩ = some (.slice aV mb.dv.length cV) := (hM1'.s1.cell (p := ⟨p.2, 1, none⟩) hp2).trans (cellB hp3 rfl)
            have mb0 : wr.cell? ⟨p.2, 1, none⟩ = some (.slice aV mb.dv.length cV) := (hM.s1.cell (p := ⟨p.2, 1, none⟩) hp2).trans (cellB hp3 rfl)
            have neb : ¬ c.bw = p.2 := by omega
            have neb' : ¬ p.2 = c.bw := by omega
            have HJ : Hid _ := And.intro hM1' (And.intro hq (And.intro hr (And.intro hrun (And.intro hV4 hp3))))
            have HW : Hid _ := hW1
            clear hM hM1 hM1' hq hr hrun hx hdr hp3 hV4 hmO hW1 hp1
            go_upto_block 4 with fail
            rw [← HW.out]
            clear HW m1 w1c w1f mb0 mb1
            go_cut [14] (fun nv wx => nv = .int .i64 (q.2.2 : Int) ∧ JM c wx q.1 q.2.1 a.dup a.run 0 0 a.dlv vS vD)
            case first =>
              go_wp2_with fail
              go_loopg [90, 14] mb.dv.length (fun j i nv wx => ∃ (t : Nat) (s : WS) (held : List Nat) (nn : Nat), t ≤ mb.dv.length ∧ j = mb.dv.length - t ∧ i = .int .i64 t ∧ nv = .int .i64 nn ∧ JM c wx s held a.dup a.run 0 0 a.dlv vS vD ∧ firstP (sv mb.id) (mb.dv.drop t) t s held nn = some q)
              case atStart => exact ⟨0, _, _, 0, Nat.zero_le _, rfl, rfl, rfl, HJ.out.1, HJ.out.2.1⟩
              case round =>
                obtain ⟨t, s, held, nn, ht, rfl, rfl, rfl, hM, hrun⟩ := hrel
                by_cases htl : t < mb.dv.length
                · obtain ⟨rfl, hbV⟩ := hV3 (by omega)
                  obtain ⟨e, hx⟩ : ∃ x, mb.dv[t]? = some x := ⟨_, List.getElem?_eq_getElem htl⟩
                  have hdr : mb.dv.drop t = e :: mb.dv.drop (t + 1) := by
                    obtain ⟨h1, h2⟩ := List.getElem?_eq_some_iff.1 hx
                    rw [List.drop_eq_getElem_cons h1, h2]
                  rw [hdr, firstP] at hrun
                  split at hrun
                  · rename_i m f0 h0 hm hf hh
                    split at hrun
                    · rename_i hgg
                      obtain ⟨hgg1, hgg2⟩ := hgg
                      unfold big at hgg1 hgg2
                      have xc : wr.cell? ⟨bV, oV + t, none⟩ = some (.int .i64 (e : Int)) := (hM.s1.cell (p := ⟨bV, oV + t, none⟩) hbV).trans (HJ.out.2.2.2.2.1 t e hx)
                      have hel : e < c.E := by have := (List.getElem?_eq_some_iff.1 hm).1; have := hM.wr.l2; omega
                      have y1 : wr.cell? ⟨c.bw, 1, none⟩ = some (.int .i64 (s.member : Int)) := cellB hM.wr.c rfl
                      have y2 : wr.cell? ⟨c.bw, 2, none⟩ = some (.slice (some ⟨c.b2, 0, none⟩) c.E c.E) := cellB hM.wr.c rfl
                      have y3 : wr.cell? ⟨c.bw, 3, none⟩ = some (.slice (some ⟨c.b3, 0, none⟩) c.E c.E) := cellB hM.wr.c rfl
                      have z2 : wr.cell? ⟨c.b2, e, none⟩ = some (.int .i64 (m : Int)) := cellB hM.wr.h2 (natCells_get hm)
                      have z3 : wr.cell? ⟨c.b3, e, none⟩ = some (.int .i64 (f0 : Int)) := cellB hM.wr.h3 (natCells_get hf)
                      have g2 : wr.frozen? ⟨c.b2, e, none⟩ = false := freeB hM.wr.h2
                      have g3 : wr.frozen? ⟨c.b3, e, none⟩ = false := freeB hM.wr.h3
                      have n23 : ¬ c.b2 = c.b3 := hG.wb.d.2.2.2.2.1
                      have n32 : ¬ c.b3 = c.b2 := fun e' => n23 e'.symm
                      have nw2 : ¬ c.b2 = c.bw := fun e' => hG.wb.d.1 e'.symm
                      have nw2' : ¬ c.bw = c.b2 := hG.wb.d.1
                      have nw3 : ¬ c.b3 = c.bw := fun e' => hG.wb.d.2.1 e'.symm
                      have nw3' : ¬ c.bw = c.b3 := hG.wb.d.2.1
                      have HZ : Hid _ := And.intro hM (And.intro hrun hh)
                      clear hM hrun hx hdr hm hf hh
                      go_wp2
                      go_quiet (fail)
                      obtain ⟨q1, hq1⟩ : ∃ q, q = nq := ⟨_, rfl⟩
                      rw [← hq1]
                      clear hq1
                      by_cases hmm : m = s.member
                      · subst hmm
                        have hr' := HZ.out.2.1
                        rw [if_pos rfl] at hr'
                        replace hr' : Hid _ := hr'
                        go_wp2
                        go_roundg (mb.dv.length - (t + 1))
                        case measure => omega
                        case rel => exact ⟨t + 1, s, held, nn, by omega, rfl, by go_num, rfl, HZ.out.1.drewN _, hr'.out⟩
                      · have hmm' : ¬ (m : Int) = (s.member : Int) := by omega
                        have hr' := HZ.out.2.1
                        rw [if_neg hmm] at hr'
                        replace hr' : Hid _ := hr'
                        go_wp2
                        go_region
                        obtain ⟨W5, hW5⟩ : ∃ W, W = ((wr.drewN (q1 + 1)).setCell ⟨c.b2, e, none⟩ (.int .i64 (s.member : Int))).setCell ⟨c.b3, e, none⟩ (.int .i64 (t : Int)) := ⟨_, rfl⟩
                        rw [← hW5]
                        have hM5 : JM c W5 { s with seen := s.seen.set e s.member, first := s.first.set e t } held a.dup a.run 0 0 a.dlv vS vD := by rw [hW5]; exact (HZ.out.1.drewN _).seen hG e s.member t
                        have u0 : W5.cell? ⟨p.2, 0, none⟩ = some (.int .i64 mb.id) := (hM5.s1.cell (p := ⟨p.2, 0, none⟩) hp2).trans (cellB HJ.out.2.2.2.2.2 rfl)
                        have hlk : (Instr.lookup 87 (.map (some c.bs)) (.int .i64 mb.id) false).run Yba.prog W5 = .ok (.bool (sv mb.id)) W5 := by
                          obtain ⟨v, ps, h1, h2⟩ := hM5.sm.lookup (int_keyed Yba.underlying3) Yba.underlying87 (zero4 W5) (plainElem_bool Yba.underlying4 false) (keyOf_int3 mb.id hp5)
                          rw [h1]
                          have h3 : v = .bool (sv mb.id) := by
                            rw [HC.out.2.2.2.2 mb.id]
                            by_cases hin : mb.id ∈ svl
                            · rw [HC.out.2.2.2.1.val _ hin] at h2
                              rw [decide_eq_true hin]
                              exact plainElem_bool_inv Yba.underlying4 h2
                            · have hf : Maps.has c.Ds (.int .i64 mb.id) = false := by
                                cases hx2 : Maps.has c.Ds (.int .i64 mb.id) with
                                | false => rfl
                                | true => exact absurd ((HC.out.2.2.2.1.has _).1 hx2) hin
                              rw [atKey_of_not_has hf] at h2
                              rw [decide_eq_false hin]
                              exact plainElem_bool_inv Yba.underlying4 h2
                          rw [h3]
                        have u1 : W5.cell? ⟨c.bh, e, none⟩ = some (.int .i64 (h0 : Int)) := cellB hM5.hd (natCells_get HZ.out.2.2)
                        have u2 : W5.frozen? ⟨c.bh, e, none⟩ = false := freeB hM5.hd
                        have H5 : Hid _ := hM5
                        clear hM5 hW5 xc y1 y2 y3 z2 z3 g2 g3
                        cases hsvb : sv mb.id with
                        | true =>
                          rw [hsvb] at hlk
                          have hr2 := hr'.out
                          rw [hsvb] at hr2
                          simp only [if_true] at hr2
                          replace hr2 : Hid _ := hr2
                          have HSB : Hid _ := hsvb
                          clear hsvb hr'
                          go_wp2
                          go_roundg (mb.dv.length - (t + 1))
                          case measure => omega
                          case rel => exact ⟨t + 1, _, _, nn + 1, by omega, rfl, by go_num, by go_num, H5.out.setH hG e (h0 + 1), by rw [HSB.out]; exact hr2.out⟩
                        | false =>
                          rw [hsvb] at hlk
                          have hr2 := hr'.out
                          rw [hsvb] at hr2
                          simp only [Bool.false_eq_true, if_false] at hr2
                          replace hr2 : Hid _ := hr2
                          have HSB : Hid _ := hsvb
                          clear hsvb hr'
                          go_wp2
                          go_roundg (mb.dv.length - (t + 1))
                          case measure => omega
                          case rel => exact ⟨t + 1, _, _, nn + 1, by omega, rfl, by go_num, by go_num, H5.out, by rw [HSB.out]; exact hr2.out⟩
                    · cases hrun
                  · cases hrun
                · obtain rfl : t = mb.dv.length := by omega
                  rw [List.drop_length, firstP] at hrun
                  cases hrun
                  have HZ : Hid _ := hM
                  clear hM
                  go_wp2
                  go_meet
                  exact ⟨rfl, HZ.out⟩
            case rest =>
              obtain ⟨rfl, hM2⟩ := hcut
              have mb1 : wc.cell? ⟨p.2, 0, none⟩ = some (.int .i64 mb.id) := (hM2.s1.cell (p := ⟨p.2, 0, none⟩) hp2).trans (cellB HJ.out.2.2.2.2.2 rfl)
              have mb1a : ∀ o, (wc.alloc o).cell? ⟨p.2, 0, none⟩ = some (.int .i64 mb.id) := fun o => ((hM2.alloc hG o).s1.cell (p := ⟨p.2, 0, none⟩) hp2).trans (cellB HJ.out.2.2.2.2.2 rfl)
              obtain ⟨aD, cD, hvD⟩ : ∃ a' c', vD = .slice a' a.dlv.length c' := by
                rcases hM2.dl.2 with ⟨hv, h0⟩ | ⟨g, c', cur, hv, _⟩
                · exact ⟨none, 0, by rw [hv, h0]⟩
                · exact ⟨some ⟨g, 0, none⟩, c', hv⟩
              have r8 : wc.cell? ⟨c.br, 8, none⟩ = some (.slice aD a.dlv.length cD) := by rw [← hvD]; exact cellB hM2.rep rfl
              have r8a : ∀ o, (wc.alloc o).cell? ⟨c.br, 8, none⟩ = some (.slice aD a.dlv.length cD) := fun o => by rw [← hvD]; exact cellB (hM2.alloc hG o).rep rfl
              have hz2 := lt_of_block hM2.wr.c
              have H2 : Hid _ := hM2
              clear hM2
              go_upto_region 25 with fail
              go_cut [] (fun wx => ∃ vD', JM c wx q.1 q.2.1 a.dup a.run 0 0 (a.dlv ++ [(mb.id, q.2.2)]) vS vD')
              case first =>
                go_region_law
                  (refine step_append_lies _ (by rfl) _ _ _ (by rfl) c.B 63 i6 _ 2 16 Yba.underlying53 h6i h6z h6s h6b rfl (by omega) (.slice aD a.dlv.length cD) a.dlv.length (cntCells a.dlv) (by rfl) (by have hh := (H2.out.alloc hG (.cells #[.int .i64 mb.id, .int .i64 (q.2.2 : Int)] 63)).drew.dl; rw [hvD] at hh; exact hh) ⟨wc.heap.size, 0, none⟩ 1 1 [.int .i64 mb.id, .int .i64 (q.2.2 : Int)] (by rfl) (by rfl) (by exact cells_two _ _ _ _) (by intro u hu; simp at hu; rcases hu with rfl | rfl <;> rfl) (by omega) (by unfold maxLen; omega) (by omega) (by simp; omega) (wc.heap.size + 1) (by simp) ?_; intro gz cz wz hownz hgrowz hatz hltz; have tz := (H2.out.alloc hG (.cells #[.int .i64 mb.id, .int .i64 (q.2.2 : Int)] 63)).drew.touch hG (row := vD.ownBlock) (t := 63) (by rw [hvD]; exact hgrowz) (by intro b hb; obtain ⟨h1, h2⟩ := row_block (H2.out.alloc hG (.cells #[.int .i64 mb.id, .int .i64 (q.2.2 : Int)] 63)).drew.dl b hb; exact ⟨by omega, .inr h1, h2⟩); have tr := (tz.rep (fun e' => row_far (H2.out.alloc hG (.cells #[.int .i64 mb.id, .int .i64 (q.2.2 : Int)] 63)).drew.dl (H2.out.alloc hG _).drew.rep (by decide) e'.symm)).trans (H2.out.alloc hG _).drew.rep; have x7 : wz.cell? ⟨c.br, 8, none⟩ = some vD := cellB tr rfl; have n7 : wz.frozen? ⟨c.br, 8, none⟩ = false := freeB tr; clear tz tr)
                all_goals
                  have hF := (H2.out.alloc hG _).drew.push hG (p := (mb.id, q.2.2)) hownz (by rw [hvD]; exact hgrowz)
                  have HF : Hid _ := hF
                  clear hownz hgrowz hatz hF mb1 mb1a r8 r8a
                  go_wp2
                  go_meet
                  exact ⟨_, HF.out⟩
              case rest =>
                clear mb1 mb1a r8 r8a hvD H2
                obtain ⟨vD2, hM3⟩ := hcut
                have mb1 : wc.cell? ⟨p.2, 1, none⟩ = some (.slice aV mb.dv.length cV) := (hM3.s1.cell (p := ⟨p.2, 1, none⟩) hp2).trans (cellB HJ.out.2.2.2.2.2 rfl)
                have H3 : Hid _ := hM3
                clear hM3
                go_wp2
                clear mb1
                go_loopg [159] mb.dv.length (fun j i wx => ∃ (t : Nat) (s : WS) (u r' : Nat) (vS' : Value), t ≤ mb.dv.length ∧ j = mb.dv.length - t ∧ i = .int .i64 t ∧ JM c wx s q.2.1 u r' 0 0 (a.dlv ++ [(mb.id, q.2.2)]) vS' vD2 ∧ passP d K.evs fuel (mb.dv.drop t) t s u r' = some r)
                case atStart => exact ⟨0, _, _, _, vS, Nat.zero_le _, rfl, rfl, H3.out, HJ.out.2.2.1⟩
                case round =>
                  clear H3
                  obtain ⟨t, s, u, r', vS', ht, rfl, rfl, hM, hrun⟩ := hrel
                  by_cases htl : t < mb.dv.length
                  · obtain ⟨rfl, hbV⟩ := hV3 (by omega)
                    obtain ⟨e, hx⟩ : ∃ x, mb.dv[t]? = some x := ⟨_, List.getElem?_eq_getElem htl⟩
                    have hdr : mb.dv.drop t = e :: mb.dv.drop (t + 1) := by
                      obtain ⟨h1, h2⟩ := List.getElem?_eq_some_iff.1 hx
                      rw [List.drop_eq_getElem_cons h1, h2]
                    rw [hdr, passP] at hrun
                    split at hrun
                    · rename_i f ev hf hev
                      split at hrun
                      · rename_i hgg
                        obtain ⟨hgg1, hgg2⟩ := hgg
                        unfold big at hgg1 hgg2
                        split at hrun
                        · rename_i qq hqq
                          obtain ⟨s9, l9⟩ := qq
                          simp only at hrun
                          have xc : wr.cell? ⟨bV, oV + t, none⟩ = some (.int .i64 (e : Int)) := (hM.s1.cell (p := ⟨bV, oV + t, none⟩) hbV).trans (HJ.out.2.2.2.2.1 t e hx)
                          have hel : e < K.evs.length := (List.getElem?_eq_some_iff.1 hev).1
                          have helE : e < c.E := by omega
                          have y3 : wr.cell? ⟨c.bw, 3, none⟩ = some (.slice (some ⟨c.b3, 0, none⟩) c.E c.E) := cellB hM.wr.c rfl
                          have z3 : wr.cell? ⟨c.b3, e, none⟩ = some (.int .i64 (f : Int)) := cellB hM.wr.h3 (natCells_get hf)
                          have r2 : wr.cell? ⟨c.br, 2, none⟩ = some (.int .i64 (u : Int)) := cellB hM.rep rfl
                          have r2f : wr.frozen? ⟨c.br, 2, none⟩ = false := freeB hM.rep
                          have HZ : Hid _ := And.intro hM (And.intro hrun (And.intro hqq hev))
                          clear hM hrun hx hdr hf hev hqq
                          go_upto_if 172 with fail
                          go_cut [] (fun wx => JM c wx s q.2.1 (if f < t then u + 1 else u) r' 0 0 (a.dlv ++ [(mb.id, q.2.2)]) vS' vD2)
                          case first =>
                            by_cases hft : f < t
                            · have hft' : (f : Int) < (t : Int) := by omega
                              have hF := HZ.out.1.repS hG (i := 2) (u := .int .i64 ((u : Int) + 1)) (dup' := u + 1) (run' := r') (unb' := 0) (agr' := 0) rfl
                              have HF : Hid _ := hF
                              clear hF
                              go_wp2
                              go_meet
                              rw [if_pos hft]
                              exact HF.out
                            · have hft' : ¬ (f : Int) < (t : Int) := by omega
                              go_wp2
                              go_meet
                              rw [if_neg hft]
                              exact HZ.out.1
                          case rest =>
                            clear xc y3 z3 r2 r2f
                            obtain ⟨u2, hu2⟩ : ∃ u2, u2 = (if f < t then u + 1 else u) := ⟨_, rfl⟩
                            have hr2 := HZ.out.2.1
                            rw [← hu2] at hcut hr2
                            have k0 : wc.cell? ⟨bc, 0, none⟩ = some (.slice none 0 0) := (hcut.s1.cell (p := ⟨bc, 0, none⟩) hbc).trans hc0
                            have hne : ∀ W : World, (binOp .neq 69 (.slice none 0 0) (.slice none 0 0)).run Yba.prog W = .ok (.bool false) W := fun _ => rfl
                            obtain ⟨hp8, hp9⟩ := HC.out.1 e ev HZ.out.2.2.2
                            have hbf := before_any c.B wc wc bc bE 0 K.evs.length cE e c.bw c.bd c.b2 c.b3 c.b4 c.b5 c.E c.n d v0 v1 v2 v3 v4 (vp e) ev.pasts s s9 vS' fuel l9 ((hcut.s1.cell (p := ⟨bc, 3, none⟩) hbc).trans hc3) (by omega) (by omega) hel (by rw [Nat.zero_add]; exact (hcut.s1.cell (p := ⟨bE, e * 4 + 3, none⟩) hbE).trans hp8) (hp9.up (by omega) hcut.s1) (HC.out.2.2.1 wc hcut.s2) hcut.wr hG.wb HZ.out.2.2.1
                            have HB : Hid _ := And.intro hcut (And.intro hr2 hbf)
                            clear hcut hr2 hbf hu2
                            go_wp2_with fail
                            refine HB.out.2.2.mono ?_
                            rintro ez wv ⟨rfl, vS2, hR⟩
                            dsimp only
                            have hM4 := HB.out.1.walked hG hR
                            have r5 : wv.cell? ⟨c.br, 5, none⟩ = some (.int .i64 (r' : Int)) := cellB hM4.rep rfl
                            have r5f : wv.frozen? ⟨c.br, 5, none⟩ = false := freeB hM4.rep
                            have H4 : Hid _ := hM4
                            clear hR hM4 k0
                            by_cases hge : (t : Int) ≤ l9
                            · have hr3 := HB.out.2.1
                              rw [if_pos hge] at hr3
                              have hF := H4.out.repS hG (i := 5) (u := .int .i64 ((r' : Int) + 1)) (dup' := u2) (run' := r' + 1) (unb' := 0) (agr' := 0) rfl
                              have HF : Hid _ := And.intro hF hr3
                              clear hF hr3
                              go_wp2
                              go_roundg (mb.dv.length - (t + 1))
                              case measure => omega
                              case rel => exact ⟨t + 1, s9, u2, r' + 1, vS2, by omega, rfl, by go_num, HF.out.1, HF.out.2⟩
                            · have hr3 := HB.out.2.1
                              rw [if_neg hge] at hr3
                              have HF : Hid _ := And.intro H4.out hr3
                              have hge' : ¬ l9 ≥ (t : Int) := hge
                              clear hr3
                              go_wp2
                              go_roundg (mb.dv.length - (t + 1))
                              case measure => omega
                              case rel => exact ⟨t + 1, s9, u2, r', vS2, by omega, rfl, by go_num, HF.out.1, HF.out.2⟩
                        · cases hrun
                      · cases hrun
                    · cases hrun
                  · obtain rfl : t = mb.dv.length := by omega
                    rw [List.drop_length, passP] at hrun
                    have hreq := Option.some.inj hrun
                    have HZ : Hid _ := And.intro hM hreq
                    clear hM hreq hrun
                    go_wp2
                    go_roundg (L.length - (k + 1))
                    case measure => omega
                    case rel =>
                      obtain ⟨hM, hreq⟩ := HZ.out
                      subst hreq
                      exact ⟨k + 1, _, vS', vD2, by omega, rfl, by go_num, hM, HJ.out.2.2.2.1⟩
          · cases hrun
        · cases hrun
      · cases hrun
    · obtain rfl : k = L.length := by omega
      rw [List.drop_length, membersP] at hrun
      have haf := Option.some.inj hrun
      have HZ : Hid _ := And.intro hM haf
      clear hM haf hrun
      go_wp2
      obtain ⟨hM, haf⟩ := HZ.out
      subst haf
      exact hexit.out _ _ _ hM _ _ _ _ _ _ _ _ _ _ _ _ _ _ _ _ _ _ _ _ _ _ _ _ _ _ _ _ _ _ _ _ _ _ _ _ _ _ _ _ _ _ _ _ _ _ _ _ _ _ _ _ _ _ _ _ _ _ _ _ _ _ _ _ _ _ _ _ _ _ _ _ _ _ _ _ _ _ _ _ _ _ _ _ _ _ _ _ _ _ _ _ _ _ _ _ _ _ _ _ _ _ _ _ _ _ _ _ _ _ _ _ _ _ _ _ _ _ _ _ _ _ _ _ _ _ _ _ _ _ _ _ _ _ _ _ _ _ _ _ _ _ _ _ _ _ _ _ _ _ _ _ _ _ _ _ _ _ _ _ _ _ _ _ _ _ _ _ _ _ _ _ _ _ _ _ _ _ _ _ _ _ _ _ _ _ _ _ _ _ _ _ _ _ _ _ _ _ _ _ _ _ _ _ _ _ _ _ _ _ _ _ _ _ _ _ _ _ _ _ _ _ _ _ _ _ _ _ _ _ _ _ _ _ _ _ _ _ _ _ _ _ _ _ _ _ _ _ _ _ _ _ _ _ _
end Go.Proofs.Ybulkbewa
