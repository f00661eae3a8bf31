import Derived.Test.YbulkbgasDoorGk0
namespace Go.Proofs.YbulkbgasDoor
open Go.RowKit Go.Maps
set_option linter.unusedVariables false
set_option linter.unusedSimpArgs false
attribute [local go_sem ↓] Go.wp_at_zero Go.wp_at_succ

set_option maxRecDepth 1000000 in
set_option maxHeartbeats 4000000 in
theorem gk_round2 (w6 wr : World) (nT n i Bu Bl B2 capl : Nat) (as_ : Option Addr) (l : List Ac) (S : List Sp) (A : List Acc) (tx : List Int) (FU FL : Nat → Int) (X : Nat → List Nat) (G : Hid (GenP l A tx nT FU FL X)) (hln : l.length = n) (hn : n ≤ 300) (HVS : Hid (SlA w6 (.slice as_ n capl) l)) (HB2 : Hid (w6.heap[B2]? = some (.cells #[.slice none 0 0, .slice none 0 0, .bool false] 28 (0, 0)))) (hnT : nT ≤ 1000) (hi : i < nT) (hBu : Bu < w6.heap.size) (hBl : Bl < w6.heap.size) (hu0 : w6.cell? ⟨Bu, i * 2, none⟩ = some (.int .i64 (FU (i * 2)))) (hu1 : w6.cell? ⟨Bu, i * 2 + 1, none⟩ = some (.int .i64 (FU (i * 2 + 1)))) (hl0 : w6.cell? ⟨Bl, i * 2, none⟩ = some (.int .i64 (FL (i * 2)))) (hl1 : w6.cell? ⟨Bl, i * 2 + 1, none⟩ = some (.int .i64 (FL (i * 2 + 1)))) (N1 : Hid (Below w6.heap.size w6 wr))
    (Q : Exit → Act → World → Prop) (c1 c3 c4 c5 c6 c9 c10 c11 c12 c13 c14 c15 c16 c17 c18 c19 c20 c21 c22 c23 c24 c25 c26 c27 c28 c29 c30 c31 c32 c33 c34 c35 c36 c37 c38 c39 c40 c41 c42 c43 c44 c45 c46 c47 c48 c49 c50 c51 c52 c53 c54 c55 c56 c57 c58 c59 c60 c61 c62 c63 c64 c65 c68 c69 c70 c71 c72 c73 c74 c75 c76 c77 c78 c79 c80 c81 c82 c83 c84 c85 c86 c87 c88 c89 c90 c91 c92 c93 c94 c95 c96 c97 c98 c99 c100 c101 c102 c103 c104 c105 c106 c107 c108 c109 c110 c111 c112 c113 c114 c115 c116 c117 c118 c119 c120 c121 c122 c123 c124 c125 c126 c127 c128 c129 c130 c131 c132 c133 c134 c135 c136 c137 c138 c139 c140 c141 c142 c143 c144 c145 c146 c147 c148 c149 c150 c151 c152 c153 c154 c155 c156 c157 c158 c159 c160 c161 c162 c163 c164 c165 c166 c167 c168 c169 c170 c171 c172 c173 c174 c175 c176 c177 c178 c179 c180 c181 c182 c183 c184 c185 c186 c187 c188 c189 c190 c191 c192 c193 c194 c195 c196 c197 c198 c199 c200 c201 c202 c203 c204 c205 c206 c207 c208 c209 c210 c211 c212 c213 c214 c215 c216 c217 c218 c219 c220 c221 c222 c223 c224 c225 c226 c227 c228 c229 c230 c231 c232 c233 c234 c235 c236 c237 c238 c239 c240 c241 c242 c243 c244 c245 c246 c247 c248 c249 c250 c251 c252 c253 c254 c255 c256 c257 c258 c259 c260 c261 c262 c263 c264 c265 c266 c267 c268 c269 c270 c271 c272 c273 c274 c275 c276 c277 c278 c279 c280 c281 c282 c283 c284 c285 c286 c287 c288 c289 c290 c291 c292 c293 c294 c295 c296 c297 c298 c299 c300 c301 c302 c303 : Value)
    (hret : ∀ (tm : Array Value) (wi : World), tm.getD 2 undef = .pointer (some ⟨B2, 0, none⟩) → GRes l S tx nT FU FL X w6 wi B2 → Q .ret ⟨tm, []⟩ wi)
    (hq : ∀ (u9 u10 u11 u68 u69 u70 u71 u72 u73 u74 u75 u76 u77 u78 u79 u80 u81 u82 u83 u84 u85 u86 u87 u88 u89 u90 u91 u92 u93 u94 u95 u96 : Value) (wi : World), Below w6.heap.size w6 wi ∧ ¬ (0 ≤ FU (i * 2 + 1) ∧ FU (i * 2 + 1) ≤ FL (i * 2)) → Q .normal ⟨#[.slice as_ n capl, c1, .pointer (some ⟨B2, 0, none⟩), c3, c4, c5, c6, .slice (some ⟨Bu, 0, none⟩) nT nT, .slice (some ⟨Bl, 0, none⟩) nT nT, u9, u10, u11, c12, c13, c14, c15, c16, c17, c18, c19, c20, c21, c22, c23, c24, c25, c26, c27, c28, c29, c30, c31, c32, c33, c34, c35, c36, c37, c38, c39, c40, c41, c42, c43, c44, c45, c46, c47, c48, c49, c50, c51, c52, c53, c54, c55, c56, c57, c58, c59, c60, c61, c62, c63, c64, c65, .int .i64 (nT : Int), .int .i64 ((i + 1 : Nat) : Int), u68, u69, u70, u71, u72, u73, u74, u75, u76, u77, u78, u79, u80, u81, u82, u83, u84, u85, u86, u87, u88, u89, u90, u91, u92, u93, u94, u95, u96, c97, c98, c99, c100, c101, c102, c103, c104, c105, c106, c107, c108, c109, c110, c111, c112, c113, c114, c115, c116, c117, c118, c119, c120, c121, c122, c123, c124, c125, c126, c127, c128, c129, c130, c131, c132, c133, c134, c135, c136, c137, c138, c139, c140, c141, c142, c143, c144, c145, c146, c147, c148, c149, c150, c151, c152, c153, c154, c155, c156, c157, c158, c159, c160, c161, c162, c163, c164, c165, c166, c167, c168, c169, c170, c171, c172, c173, c174, c175, c176, c177, c178, c179, c180, c181, c182, c183, c184, c185, c186, c187, c188, c189, c190, c191, c192, c193, c194, c195, c196, c197, c198, c199, c200, c201, c202, c203, c204, c205, c206, c207, c208, c209, c210, c211, c212, c213, c214, c215, c216, c217, c218, c219, c220, c221, c222, c223, c224, c225, c226, c227, c228, c229, c230, c231, c232, c233, c234, c235, c236, c237, c238, c239, c240, c241, c242, c243, c244, c245, c246, c247, c248, c249, c250, c251, c252, c253, c254, c255, c256, c257, c258, c259, c260, c261, c262, c263, c264, c265, c266, c267, c268, c269, c270, c271, c272, c273, c274, c275, c276, c277, c278, c279, c280, c281, c282, c283, c284, c285, c286, c287, c288, c289, c290, c291, c292, c293, c294, c295, c296, c297, c298, c299, c300, c301, c302, c303], []⟩ wi) :
    Code.wp Ybad.prog (lp7 1) Q ⟨#[.slice as_ n capl, c1, .pointer (some ⟨B2, 0, none⟩), c3, c4, c5, c6, .slice (some ⟨Bu, 0, none⟩) nT nT, .slice (some ⟨Bl, 0, none⟩) nT nT, c9, c10, c11, c12, c13, c14, c15, c16, c17, c18, c19, c20, c21, c22, c23, c24, c25, c26, c27, c28, c29, c30, c31, c32, c33, c34, c35, c36, c37, c38, c39, c40, c41, c42, c43, c44, c45, c46, c47, c48, c49, c50, c51, c52, c53, c54, c55, c56, c57, c58, c59, c60, c61, c62, c63, c64, c65, .int .i64 (nT : Int), .int .i64 (i : Int), c68, c69, c70, c71, c72, c73, c74, c75, c76, c77, c78, c79, c80, c81, c82, c83, c84, c85, c86, c87, c88, c89, c90, c91, c92, c93, c94, c95, c96, c97, c98, c99, c100, c101, c102, c103, c104, c105, c106, c107, c108, c109, c110, c111, c112, c113, c114, c115, c116, c117, c118, c119, c120, c121, c122, c123, c124, c125, c126, c127, c128, c129, c130, c131, c132, c133, c134, c135, c136, c137, c138, c139, c140, c141, c142, c143, c144, c145, c146, c147, c148, c149, c150, c151, c152, c153, c154, c155, c156, c157, c158, c159, c160, c161, c162, c163, c164, c165, c166, c167, c168, c169, c170, c171, c172, c173, c174, c175, c176, c177, c178, c179, c180, c181, c182, c183, c184, c185, c186, c187, c188, c189, c190, c191, c192, c193, c194, c195, c196, c197, c198, c199, c200, c201, c202, c203, c204, c205, c206, c207, c208, c209, c210, c211, c212, c213, c214, c215, c216, c217, c218, c219, c220, c221, c222, c223, c224, c225, c226, c227, c228, c229, c230, c231, c232, c233, c234, c235, c236, c237, c238, c239, c240, c241, c242, c243, c244, c245, c246, c247, c248, c249, c250, c251, c252, c253, c254, c255, c256, c257, c258, c259, c260, c261, c262, c263, c264, c265, c266, c267, c268, c269, c270, c271, c272, c273, c274, c275, c276, c277, c278, c279, c280, c281, c282, c283, c284, c285, c286, c287, c288, c289, c290, c291, c292, c293, c294, c295, c296, c297, c298, c299, c300, c301, c302, c303], []⟩ wr := by
  refine Code.wp_mono NoPanic.imp ?_
  have HQ := hid hq
  clear hq
  have HR := hid hret
  clear hret
  conv => arg 2; whnf
  have hii : (i : Int) < (nT : Int) := by omega
  have hi0 : (0 : Int) ≤ (i : Int) := by omega
  obtain ⟨a0, ha0⟩ : ∃ a0, FU (i * 2) = a0 := ⟨_, rfl⟩
  obtain ⟨a1, ha1⟩ : ∃ a1, FU (i * 2 + 1) = a1 := ⟨_, rfl⟩
  obtain ⟨b0, hb0⟩ : ∃ b0, FL (i * 2) = b0 := ⟨_, rfl⟩
  obtain ⟨b1, hb1⟩ : ∃ b1, FL (i * 2 + 1) = b1 := ⟨_, rfl⟩
  rw [ha0] at hu0
  rw [ha1] at hu1
  rw [hb0] at hl0
  rw [hb1] at hl1
  have HA0 := hid ha0
  have HA1 := hid ha1
  have HB0 := hid hb0
  have HB1 := hid hb1
  clear ha0 ha1 hb0 hb1
  have hz := N1.out.size
  have c0 := (N1.out.cell (p := ⟨Bu, i * 2, none⟩) hBu).trans hu0
  have c1 := (N1.out.cell (p := ⟨Bu, i * 2 + 1, none⟩) hBu).trans hu1
  have c2 := (N1.out.cell (p := ⟨Bl, i * 2, none⟩) hBl).trans hl0
  have c3 := (N1.out.cell (p := ⟨Bl, i * 2 + 1, none⟩) hBl).trans hl1
  have n1 : Bu ≠ wr.heap.size := by omega
  have n2 : Bl ≠ wr.heap.size := by omega
  have n3 : wr.heap.size ≠ Bu := by omega
  have n4 : wr.heap.size ≠ Bl := by omega
  have n5 : wr.heap.size + 1 ≠ Bu := by omega
  have n6 : wr.heap.size + 1 ≠ Bl := by omega
  clear hu0 hu1 hl0 hl1
  go_upto_region 15 with fail
  go_cut [10, 11] from 68 to 96 (fun p1 p2 wd => ∃ B1 B2, p1 = .pointer (some ⟨B1, 0, none⟩) ∧ p2 = .pointer (some ⟨B2, 0, none⟩) ∧ (wd.cell? ⟨B1, 0, none⟩ = some (.int .i64 a0) ∧ wd.cell? ⟨B1, 1, none⟩ = some (.int .i64 a1)) ∧ (wd.cell? ⟨B2, 0, none⟩ = some (.int .i64 b0) ∧ wd.cell? ⟨B2, 1, none⟩ = some (.int .i64 b1)) ∧ (B1 < wd.heap.size ∧ B2 < wd.heap.size) ∧ Below w6.heap.size w6 wd)
  case first =>
    -- HB r15
    go_region_held3 (fun W => W.cell? ⟨Bu, i * 2, none⟩ = some (.int .i64 a0) ∧ W.cell? ⟨Bu, i * 2 + 1, none⟩ = some (.int .i64 a1) ∧ W.cell? ⟨Bl, i * 2, none⟩ = some (.int .i64 b0) ∧ W.cell? ⟨Bl, i * 2 + 1, none⟩ = some (.int .i64 b1)) (go_keep) (fail)
    all_goals go_wp2
    all_goals go_meet
    · exact ⟨wr.heap.size, wr.heap.size + 1, rfl, rfl, (two_boxes wr _ _ _ _).1, (two_boxes wr _ _ _ _).2, ⟨by show _ < ((wr.alloc _).alloc _).heap.size; simp only [World.size_alloc]; omega, by show _ < ((wr.alloc _).alloc _).heap.size; simp only [World.size_alloc]; omega⟩, ((N1.out.alloc hz _).alloc (by simp; omega) _).drew⟩
    · exact ⟨wr.heap.size + 1, wr.heap.size, rfl, rfl, (two_boxes wr _ _ _ _).2, (two_boxes wr _ _ _ _).1, ⟨by show _ < ((wr.alloc _).alloc _).heap.size; simp only [World.size_alloc]; omega, by show _ < ((wr.alloc _).alloc _).heap.size; simp only [World.size_alloc]; omega⟩, ((N1.out.alloc hz _).alloc (by simp; omega) _).drew⟩
    -- HE r15
  case rest =>
    obtain ⟨Bx1, Bx2, rfl, rfl, ⟨d1, d2⟩, ⟨d3, d4⟩, ⟨hBx1, hBx2⟩, hb⟩ := hcut
    have N2 := hid hb
    clear hb N1 c0 c1 c2 c3
    by_cases hp : 0 ≤ a1
    · by_cases hq : a1 ≤ b0
      · obtain ⟨xa, hxaA, xc, hxcA, f1, f2, f3, f4, f5⟩ := G.out.fu i hi (by rw [HA1.out]; exact hp)
        obtain ⟨yc, hycA, ya, hyaA, g1, g2, g3, g4, g5⟩ := G.out.fl i hi (by rw [HB0.out]; omega)
        rw [HA0.out] at f1
        rw [HA1.out] at f2
        rw [HB0.out] at g1
        rw [HB1.out] at g2
        have hxa := (G.out.pt xa hxaA).1
        have hxc := (G.out.pt xc hxcA).1
        have hyc := (G.out.pt yc hycA).1
        have hya := (G.out.pt ya hyaA).1
        have gd : ∀ c (hc : c < l.length), l.getD c ac0 = l[c] := fun c hc => by rw [List.getD_eq_getElem?_getD, List.getElem?_eq_getElem hc, Option.getD_some]
        have HLK := hid (show Linked 2 (fun j => if j = 0 then l[yc.p] else l[xa.p]) (fun j => if j = 0 then l[ya.p] else l[xc.p]) false from by
          have t1 := (G.out.pt xa hxaA).2
          have t2 := (G.out.pt xc hxcA).2
          have t3 := (G.out.pt yc hycA).2
          have t4 := (G.out.pt ya hyaA).2
          have i1 := G.out.it xa hxaA xc hxcA f5
          have i2 := G.out.it ya hyaA yc hycA g5
          rw [gd _ hxa] at t1 i1
          rw [gd _ hxc] at t2 i1
          rw [gd _ hyc] at t3 i2
          rw [gd _ hya] at t4 i2
          have x1 := G.out.xl xc hxcA
          have x2 := G.out.xl yc hycA
          refine ⟨by omega, fun k hk => ?_, fun k hk => ?_, fun k h0 hk => ?_, fun h => by cases h⟩
          · rcases (show k = 0 ∨ k = 1 by omega) with rfl | rfl
            · show l[yc.p].t ≠ l[ya.p].t
              rw [t3, t4, g3]; exact G.out.tx _ _ x2 hi g4
            · show l[xa.p].t ≠ l[xc.p].t
              rw [t1, t2, f3]; exact G.out.tx _ _ hi x1 (fun e => f4 e.symm)
          · rcases (show k = 0 ∨ k = 1 by omega) with rfl | rfl
            · exact i2.symm
            · exact i1
          · obtain rfl : k = 1 := by omega
            show l[ya.p].t = l[xa.p].t
            rw [t4, t1, g3, f3])
        have hB2l := (Array.getElem?_eq_some_iff.1 HB2.out).1
        clear f3 f4 f5 g3 g4 g5 hxaA hxcA hycA hyaA HA0 HA1 HB0 HB1 gd
        subst f1 f2 g1 g2
        have hq2 : (yc.p : Int) ≥ (xc.p : Int) := hq
        have hp2 : (xc.p : Int) ≥ 0 := hp
        go_upto_region 17 with fail
        have d1 := d1
        refine wp_region_L 8 (S := (fun (W : World) => W.cell? ⟨Bx2, 0, none⟩ = some (.int .i64 (yc.p : Int)) ∧ W.cell? ⟨Bx2, 1, none⟩ = some (.int .i64 (ya.p : Int)) ∧ W.cell? ⟨Bx1, 0, none⟩ = some (.int .i64 (xa.p : Int)) ∧ W.cell? ⟨Bx1, 1, none⟩ = some (.int .i64 (xc.p : Int)))) (by kernel_rfl) ?_
        have hHeld : (fun (W : World) => W.cell? ⟨Bx2, 0, none⟩ = some (.int .i64 (yc.p : Int)) ∧ W.cell? ⟨Bx2, 1, none⟩ = some (.int .i64 (ya.p : Int)) ∧ W.cell? ⟨Bx1, 0, none⟩ = some (.int .i64 (xa.p : Int)) ∧ W.cell? ⟨Bx1, 1, none⟩ = some (.int .i64 (xc.p : Int))) wc.drew := ⟨d3, d4, d1, d2⟩
        refine wpAnyL_take (i := 0) (v := .agg #[.int .i64 (yc.p : Int), .int .i64 (ya.p : Int)]) rfl (by kernel_rfl) (by kernel_rfl) (by kernel_rfl) (by kernel_rfl) (fun _ _ _ h => h) (Or.inl ⟨by rfl, ?_⟩) (by assumption) ?_
        · intro w hSw
          try dsimp only at hSw
          go_simp
        simp only [Act.put, List.setIfInBounds_toArray, List.set_cons_zero, List.set_cons_succ, List.getElem_toArray, List.getElem_cons_zero, List.getElem_cons_succ]
        refine wpAnyL_take (i := 1) (v := .slice as_ n capl) rfl (by kernel_rfl) (by kernel_rfl) (by kernel_rfl) (by kernel_rfl) (fun _ _ _ h => h) (Or.inl ⟨by rfl, ?_⟩) (by assumption) ?_
        · intro w hSw
          try dsimp only at hSw
          go_simp
        simp only [Act.put, List.setIfInBounds_toArray, List.set_cons_zero, List.set_cons_succ, List.getElem_toArray, List.getElem_cons_zero, List.getElem_cons_succ]
        refine wpAnyL_take (i := 3) (v := .agg #[.int .i64 (xa.p : Int), .int .i64 (xc.p : Int)]) rfl (by kernel_rfl) (by kernel_rfl) (by kernel_rfl) (by kernel_rfl) (fun _ _ _ h => h) (Or.inl ⟨by rfl, ?_⟩) (by assumption) ?_
        · intro w hSw
          try dsimp only at hSw
          go_simp
        simp only [Act.put, List.setIfInBounds_toArray, List.set_cons_zero, List.set_cons_succ, List.getElem_toArray, List.getElem_cons_zero, List.getElem_cons_succ]
        refine wpAnyL_take (i := 4) (v := .slice as_ n capl) rfl (by kernel_rfl) (by kernel_rfl) (by kernel_rfl) (by kernel_rfl) (fun _ _ _ h => h) (Or.inl ⟨by rfl, ?_⟩) (by assumption) ?_
        · intro w hSw
          try dsimp only at hSw
          go_simp
        simp only [Act.put, List.setIfInBounds_toArray, List.set_cons_zero, List.set_cons_succ, List.getElem_toArray, List.getElem_cons_zero, List.getElem_cons_succ]
        have BR : Below wc.drew.heap.size wc.drew wc.drew := Below.refl _ _
        have BR7 := N2.out.drew
        refine wpAnyL_one (i := 2) (by kernel_rfl) rfl (fun K hK => ?_)
        go_simp
        refine Calls.mono (arc_any _ (.slice as_ n capl) l yc.p ya.p hyc hya (by omega) (HVS.out.below BR7)) ?_
        rintro e w7 ⟨rfl, hb7⟩
        dsimp only
        have BN1 : Below wc.drew.heap.size wc.drew w7 := hb7
        have BN17 := N2.out.drew.trans (BN1.mono (by have := N2.out.size; exact this))
        refine hK.out _ _ (fun _ => ⟨(BN1.cell (p := ⟨Bx2, 0, none⟩) hBx2).trans d3, (BN1.cell (p := ⟨Bx2, 1, none⟩) hBx2).trans d4, (BN1.cell (p := ⟨Bx1, 0, none⟩) hBx1).trans d1, (BN1.cell (p := ⟨Bx1, 1, none⟩) hBx1).trans d2⟩) ?_
        clear hK K
        try simp only [Act.put, List.setIfInBounds_toArray, List.set_cons_zero, List.set_cons_succ, List.getElem_toArray, List.getElem_cons_zero, List.getElem_cons_succ]
        refine wpAnyL_one (i := 5) (by kernel_rfl) rfl (fun K hK => ?_)
        go_simp
        refine Calls.mono (arc_any _ (.slice as_ n capl) l xa.p xc.p hxa hxc (by omega) (HVS.out.below BN17)) ?_
        rintro e w8 ⟨rfl, hb8⟩
        dsimp only
        have BN2 := BN1.trans (hb8.mono (by have := BN1.size; omega))
        have BN27 := N2.out.drew.trans (BN2.mono (by have := N2.out.size; exact this))
        refine hK.out _ _ (fun _ => ⟨(BN2.cell (p := ⟨Bx2, 0, none⟩) hBx2).trans d3, (BN2.cell (p := ⟨Bx2, 1, none⟩) hBx2).trans d4, (BN2.cell (p := ⟨Bx1, 0, none⟩) hBx1).trans d1, (BN2.cell (p := ⟨Bx1, 1, none⟩) hBx1).trans d2⟩) ?_
        clear hK K
        try simp only [Act.put, List.setIfInBounds_toArray, List.set_cons_zero, List.set_cons_succ, List.getElem_toArray, List.getElem_cons_zero, List.getElem_cons_succ]
        refine wpAnyL_one (i := 6) (by kernel_rfl) rfl (fun K hK => ?_)
        refine bsD26_2 (by rfl) 90 93 (by rfl) l[yc.p] l[ya.p] l[xa.p] l[xc.p] (by rfl) (by rfl) ?_
        have BN3 := BN2.alloc (by have := BN2.size; omega) (.cells (arcC l[yc.p] l[ya.p] ++ arcC l[xa.p] l[xc.p]).toArray 67)
        refine hK.out _ _ (fun _ => ⟨(BN3.cell (p := ⟨Bx2, 0, none⟩) hBx2).trans d3, (BN3.cell (p := ⟨Bx2, 1, none⟩) hBx2).trans d4, (BN3.cell (p := ⟨Bx1, 0, none⟩) hBx1).trans d1, (BN3.cell (p := ⟨Bx1, 1, none⟩) hBx1).trans d2⟩) ?_
        clear hK K
        try simp only [Act.put, List.setIfInBounds_toArray, List.set_cons_zero, List.set_cons_succ, List.getElem_toArray, List.getElem_cons_zero, List.getElem_cons_succ]
        refine wpAnyL_one (i := 7) (by kernel_rfl) rfl (fun K hK => ?_)
        go_simp
        refine hK.out _ _ (fun _ => ⟨(BN3.cell (p := ⟨Bx2, 0, none⟩) hBx2).trans d3, (BN3.cell (p := ⟨Bx2, 1, none⟩) hBx2).trans d4, (BN3.cell (p := ⟨Bx1, 0, none⟩) hBx1).trans d1, (BN3.cell (p := ⟨Bx1, 1, none⟩) hBx1).trans d2⟩) ?_
        clear hK K
        try simp only [Act.put, List.setIfInBounds_toArray, List.set_cons_zero, List.set_cons_succ, List.getElem_toArray, List.getElem_cons_zero, List.getElem_cons_succ]
        refine wpAnyL_one (i := 8) (by kernel_rfl) rfl (fun K hK => ?_)
        have BN37 := BN27.alloc (by have := BN27.size; omega) (.cells (arcC l[yc.p] l[ya.p] ++ arcC l[xa.p] l[xc.p]).toArray 67)
        have hb2n := (BN37.block B2 hB2l).trans HB2.out
        refine stD28 (by rfl) _ _ (by rfl) B2 #[.slice none 0 0, .slice none 0 0, .bool false] #[.slice none 0 0, .slice (some ⟨w8.heap.size, 0, none⟩) 2 2, .bool false] (by rfl) (by rfl) hb2n rfl rfl (by simp [Value.oneCell']) ?_
        refine hK.out _ _ (fun h => absurd rfl h) ?_
        clear hK K
        try simp only [Act.put, List.setIfInBounds_toArray, List.set_cons_zero, List.set_cons_succ, List.getElem_toArray, List.getElem_cons_zero, List.getElem_cons_succ]
        refine wpAnyL_done (by kernel_rfl) ?_ _
        have RR := rangeAt_two _ l[yc.p] l[ya.p] l[xa.p] l[xc.p] w8.heap.size (heap_alloc_new w8 _)
        have HGR := hid (GRes.chain (l := l) (S := S) (tx := tx) (nT := nT) (FU := FU) (FL := FL) (X := X) (g := w8.heap.size) (k := 2) (cap := 2) (cy := false) (B := fun j => if j = 0 then l[yc.p] else l[xa.p]) (A := fun j => if j = 0 then l[ya.p] else l[xc.p]) BN37 hb2n (by have := BN27.size; omega) (by simp) (by omega) (fun j hj => by rcases (show j = 0 ∨ j = 1 by omega) with rfl | rfl; exact RR.1; exact RR.2) HLK.out)
        clear hb2n RR BN37 BN3 BN27 BN2
        go_wp2_with fail
        exact HR.out _ _ rfl HGR.out
      · have HNN := hid (show ¬ (0 ≤ FU (i * 2 + 1) ∧ FU (i * 2 + 1) ≤ FL (i * 2)) from fun h => hq (by rw [← HA1.out, ← HB0.out]; exact h.2))
        go_wp2_with fail
        have HH := HQ.out
        rw [show ((i + 1 : Nat) : Int) = (i : Int) + 1 from by omega] at HH
        exact HH _ _ _ _ _ _ _ _ _ _ _ _ _ _ _ _ _ _ _ _ _ _ _ _ _ _ _ _ _ _ _ _ _ ⟨N2.out, HNN.out⟩
    · have HNN := hid (show ¬ (0 ≤ FU (i * 2 + 1) ∧ FU (i * 2 + 1) ≤ FL (i * 2)) from fun h => hp (by rw [← HA1.out]; exact h.1))
      go_wp2_with fail
      have HH := HQ.out
      rw [show ((i + 1 : Nat) : Int) = (i : Int) + 1 from by omega] at HH
      exact HH _ _ _ _ _ _ _ _ _ _ _ _ _ _ _ _ _ _ _ _ _ _ _ _ _ _ _ _ _ _ _ _ _ ⟨N2.out, HNN.out⟩

end Go.Proofs.YbulkbgasDoor
