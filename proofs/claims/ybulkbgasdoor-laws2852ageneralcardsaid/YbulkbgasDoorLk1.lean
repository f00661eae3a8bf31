import Derived.Test.YbulkbgasDoorLk2
namespace Go.Proofs.YbulkbgasDoor
open Go.RowKit Go.Maps
set_option linter.unusedVariables false
attribute [local go_sem ↓] Go.wp_at_zero Go.wp_at_succ

theorem copy_kept1 {wa wE : World} {B t : Nat} {cs : Array Value} {fr : Nat × Nat} {row : Option Nat} {o : Obj} (hlt : B < wa.heap.size) (hB : wa.heap[B]? = some (.cells cs t fr)) (hg : ((wa.alloc o).drew).grownBy wE row) (hne : row ≠ some B) : wE.heap[B]? = some (.cells cs t fr) :=
  copy_kept (show ((wa.alloc o).drew).heap[B]? = _ from (Below.heap_alloc _ _ _ hlt).trans hB) hg hne

set_option maxRecDepth 1000000 in
set_option maxHeartbeats 4000000 in
theorem lk_round1 (w wr : World) (nT q capl : Nat) (al : Option Addr) (S : List Sp) (v : Nat → Value) (bx : Array Value) (hS : S.length ≤ 300) (hn : nT ≤ 1000) (hq0 : q < S.length) (HL : Hid (Els w 5 al S.length fun i => (S.getD i sp0).cells)) (HTX : Hid (∀ i, i < S.length → txOf S i < nT)) (N1 : Hid (LkB w wr bx nT v (byT (S.take q))))
    (Q : Exit → Act → World → Prop) (c0 c1 c2 c3 c4 c5 c6 c7 c8 c9 c10 c12 c13 c14 c15 c16 c17 c18 c19 c20 c21 c22 c23 c24 c25 c26 c27 c28 c29 c30 c31 c32 c33 c34 c35 c36 c40 c41 c42 c43 c44 c45 c46 c47 c48 c49 c50 c51 c52 c53 c54 c55 c56 c57 c58 c59 c60 c61 c62 c63 c64 c65 c66 c67 c68 c69 c70 c71 c72 c73 c74 c75 c76 c77 c78 c79 c80 c81 c82 c83 c84 c85 c86 c87 c88 c89 c90 c91 c92 c93 c94 c95 c96 c97 c98 c99 c100 c101 c102 c103 c104 c105 c106 c107 c108 c109 c110 c111 c112 c113 c114 c115 c116 c117 c118 c119 c120 c121 c122 c123 c124 c125 c126 c127 c128 c129 c130 c131 c132 c133 c134 c135 c136 c137 c138 c139 c140 c141 c142 c143 c144 c145 c146 c147 c148 c149 c150 c151 c152 c153 c154 c155 c156 c157 c158 c159 c160 c161 c162 c163 c164 c165 c166 c167 c168 c169 c170 c171 c172 c173 c174 c175 c176 c177 c178 c179 c180 c181 c182 c183 c184 c185 c186 c187 c188 c189 c190 c191 c192 c193 c194 c195 c196 c197 c198 c199 c200 c201 c202 c203 c204 c205 c206 c207 c208 c209 c210 c211 c212 c213 c214 c215 c216 c217 c218 c219 c220 c221 c222 c223 c224 c225 c226 c227 c228 c229 c230 c231 c232 c233 c234 c235 c236 c237 c238 c239 c240 c241 c242 c243 c244 c245 c246 c247 c248 c249 c250 c251 c252 c253 c254 c255 c256 c257 c258 c259 c260 c261 c262 c263 c264 c265 c266 c267 c268 c269 c270 c271 c272 c273 c274 c275 c276 c277 c278 c279 c280 c281 c282 c283 c284 c285 c286 c287 c288 c289 c290 c291 c292 c293 c294 c295 c296 c297 c298 c299 c300 c301 c302 c303 c304 c305 c306 c307 c308 c309 c310 : Value)
    (hq : ∀ (u13 u40 u41 u42 u43 u44 u45 u46 u47 u48 u49 u50 u51 u52 u53 u54 u55 : Value) (wi : World), (∃ v2, LkB w wi bx nT v2 (byT (S.take (q + 1)))) → Q .normal ⟨#[c0, c1, c2, c3, c4, c5, c6, c7, c8, c9, c10, .slice (some ⟨w.heap.size + 1, 0, none⟩) nT nT, c12, u13, c14, c15, c16, c17, c18, c19, c20, c21, c22, c23, c24, c25, c26, c27, c28, c29, c30, c31, c32, c33, c34, c35, c36, .slice al S.length capl, .int .i64 (S.length : Int), .int .i64 ((q + 1 : Nat) : Int), u40, u41, u42, u43, u44, u45, u46, u47, u48, u49, u50, u51, u52, u53, u54, u55, c56, c57, c58, c59, c60, c61, c62, c63, c64, c65, c66, c67, c68, c69, c70, c71, c72, c73, c74, c75, c76, c77, c78, c79, c80, c81, c82, c83, c84, c85, c86, c87, c88, c89, c90, c91, c92, c93, c94, c95, c96, c97, c98, c99, c100, c101, c102, c103, c104, c105, c106, c107, c108, c109, c110, c111, c112, c113, c114, c115, c116, c117, c118, c119, c120, c121, c122, c123, c124, c125, c126, c127, c128, c129, c130, c131, c132, c133, c134, c135, c136, c137, c138, c139, c140, c141, c142, c143, c144, c145, c146, c147, c148, c149, c150, c151, c152, c153, c154, c155, c156, c157, c158, c159, c160, c161, c162, c163, c164, c165, c166, c167, c168, c169, c170, c171, c172, c173, c174, c175, c176, c177, c178, c179, c180, c181, c182, c183, c184, c185, c186, c187, c188, c189, c190, c191, c192, c193, c194, c195, c196, c197, c198, c199, c200, c201, c202, c203, c204, c205, c206, c207, c208, c209, c210, c211, c212, c213, c214, c215, c216, c217, c218, c219, c220, c221, c222, c223, c224, c225, c226, c227, c228, c229, c230, c231, c232, c233, c234, c235, c236, c237, c238, c239, c240, c241, c242, c243, c244, c245, c246, c247, c248, c249, c250, c251, c252, c253, c254, c255, c256, c257, c258, c259, c260, c261, c262, c263, c264, c265, c266, c267, c268, c269, c270, c271, c272, c273, c274, c275, c276, c277, c278, c279, c280, c281, c282, c283, c284, c285, c286, c287, c288, c289, c290, c291, c292, c293, c294, c295, c296, c297, c298, c299, c300, c301, c302, c303, c304, c305, c306, c307, c308, c309, c310], []⟩ wi) :
    Code.wp Ybad.prog (lp32 0) Q ⟨#[c0, c1, c2, c3, c4, c5, c6, c7, c8, c9, c10, .slice (some ⟨w.heap.size + 1, 0, none⟩) nT nT, c12, c13, c14, c15, c16, c17, c18, c19, c20, c21, c22, c23, c24, c25, c26, c27, c28, c29, c30, c31, c32, c33, c34, c35, c36, .slice al S.length capl, .int .i64 (S.length : Int), .int .i64 (q : Int), c40, c41, c42, c43, c44, c45, c46, c47, c48, c49, c50, c51, c52, c53, c54, c55, c56, c57, c58, c59, c60, c61, c62, c63, c64, c65, c66, c67, c68, c69, c70, c71, c72, c73, c74, c75, c76, c77, c78, c79, c80, c81, c82, c83, c84, c85, c86, c87, c88, c89, c90, c91, c92, c93, c94, c95, c96, c97, c98, c99, c100, c101, c102, c103, c104, c105, c106, c107, c108, c109, c110, c111, c112, c113, c114, c115, c116, c117, c118, c119, c120, c121, c122, c123, c124, c125, c126, c127, c128, c129, c130, c131, c132, c133, c134, c135, c136, c137, c138, c139, c140, c141, c142, c143, c144, c145, c146, c147, c148, c149, c150, c151, c152, c153, c154, c155, c156, c157, c158, c159, c160, c161, c162, c163, c164, c165, c166, c167, c168, c169, c170, c171, c172, c173, c174, c175, c176, c177, c178, c179, c180, c181, c182, c183, c184, c185, c186, c187, c188, c189, c190, c191, c192, c193, c194, c195, c196, c197, c198, c199, c200, c201, c202, c203, c204, c205, c206, c207, c208, c209, c210, c211, c212, c213, c214, c215, c216, c217, c218, c219, c220, c221, c222, c223, c224, c225, c226, c227, c228, c229, c230, c231, c232, c233, c234, c235, c236, c237, c238, c239, c240, c241, c242, c243, c244, c245, c246, c247, c248, c249, c250, c251, c252, c253, c254, c255, c256, c257, c258, c259, c260, c261, c262, c263, c264, c265, c266, c267, c268, c269, c270, c271, c272, c273, c274, c275, c276, c277, c278, c279, c280, c281, c282, c283, c284, c285, c286, c287, c288, c289, c290, c291, c292, c293, c294, c295, c296, c297, c298, c299, c300, c301, c302, c303, c304, c305, c306, c307, c308, c309, c310], []⟩ wr := by
  refine Code.wp_mono NoPanic.imp ?_
  have HQ := hid hq
  clear hq
  conv => arg 2; whnf
  have hqi : (q : Int) < (S.length : Int) := by omega
  obtain ⟨b, off, rfl, hbl, c0', c1', c2', c3', c4'⟩ := sp_at5 HL.out hq0
  obtain ⟨s, hs⟩ : ∃ s, S.getD q sp0 = s := ⟨_, rfl⟩
  have hx : s.x < nT := by rw [← hs]; exact HTX.out q hq0
  rw [hs] at c0' c1' c2' c3' c4'
  have c0 : wr.cell? ⟨b, off + q * 5, none⟩ = some (.int .i64 (s.x : Int)) := (N1.out.bel.cell (p := ⟨b, off + q * 5, none⟩) hbl).trans c0'
  have c1 : wr.cell? ⟨b, off + q * 5 + 1, none⟩ = some (.int .i64 (s.i : Int)) := (N1.out.bel.cell (p := ⟨b, off + q * 5 + 1, none⟩) hbl).trans c1'
  have c2 : wr.cell? ⟨b, off + q * 5 + 2, none⟩ = some (.int .i64 (s.f : Int)) := (N1.out.bel.cell (p := ⟨b, off + q * 5 + 2, none⟩) hbl).trans c2'
  have c3 : wr.cell? ⟨b, off + q * 5 + 3, none⟩ = some (.int .i64 s.w) := (N1.out.bel.cell (p := ⟨b, off + q * 5 + 3, none⟩) hbl).trans c3'
  have c4 : wr.cell? ⟨b, off + q * 5 + 4, none⟩ = some (.int .i64 (s.la : Int)) := (N1.out.bel.cell (p := ⟨b, off + q * 5 + 4, none⟩) hbl).trans c4'
  have HTK := hid (show S.take (q + 1) = S.take q ++ [s] from by rw [List.take_succ_eq_append_getElem hq0, ← hs]; simp [List.getD_eq_getElem?_getD, List.getElem?_eq_getElem hq0])
  have hlt := N1.out.lt
  clear c0' c1' c2' c3' c4' hs
  go_upto_region 5 with fail
  have N2 := hid (N1.out.alloc (.cells #[.int .i64 (s.x : Int), .int .i64 (s.i : Int), .int .i64 (s.f : Int), .int .i64 s.w, .int .i64 (s.la : Int)] 102))
  have HB := hid (heap_alloc_new wr (.cells #[.int .i64 (s.x : Int), .int .i64 (s.i : Int), .int .i64 (s.f : Int), .int .i64 s.w, .int .i64 (s.la : Int)] 102))
  have HNB := hid (show (v s.x).ownBlock ≠ some wr.heap.size from fun e => by have := ((N1.out.fam.own s.x hx).lt _ e).2; omega)
  have hl1 : (byT (S.take q) s.x).length ≤ 100000 := by unfold byT; exact Nat.le_trans (List.length_filter_le _ _) (by rw [List.length_take]; omega)
  obtain ⟨wa, hwa⟩ : ∃ wa, wa = wr.alloc (.cells #[.int .i64 (s.x : Int), .int .i64 (s.i : Int), .int .i64 (s.f : Int), .int .i64 s.w, .int .i64 (s.la : Int)] 102) := ⟨_, rfl⟩
  obtain ⟨B, hBB⟩ : ∃ B, B = wr.heap.size := ⟨_, rfl⟩
  rw [← hwa] at N2 HB ⊢
  rw [← hBB] at HB HNB ⊢
  have hBlt : B < wa.heap.size := (Array.getElem?_eq_some_iff.1 HB.out).1
  have hB2 : w.heap.size + 1 < B := by omega
  clear hwa hBB c0 c1 c2 c3 c4 N1 hlt
  obtain ⟨G, hG⟩ : ∃ G, byT (S.take q) = G := ⟨_, rfl⟩
  rw [hG] at N2 hl1
  have HG := hid hG
  clear hG
  have d0 : wa.cell? ⟨B, 0, none⟩ = some (.int .i64 (s.x : Int)) := by rw [cell_of_row _ _ _ _ _ _ HB.out]; rfl
  have d1 : wa.cell? ⟨B, 1, none⟩ = some (.int .i64 (s.i : Int)) := by rw [cell_of_row _ _ _ _ _ _ HB.out]; rfl
  have d2 : wa.cell? ⟨B, 2, none⟩ = some (.int .i64 (s.f : Int)) := by rw [cell_of_row _ _ _ _ _ _ HB.out]; rfl
  have d3 : wa.cell? ⟨B, 3, none⟩ = some (.int .i64 s.w) := by rw [cell_of_row _ _ _ _ _ _ HB.out]; rfl
  have d4 : wa.cell? ⟨B, 4, none⟩ = some (.int .i64 (s.la : Int)) := by rw [cell_of_row _ _ _ _ _ _ HB.out]; rfl
  have e0 := N2.out.by_.cell hx
  have a0 : ∀ o, (wa.alloc o).cell? ⟨B, 0, none⟩ = some (.int .i64 (s.x : Int)) := fun o => by rw [cell_of_row _ _ _ _ _ _ ((Below.heap_alloc _ _ _ hBlt).trans HB.out)]; rfl
  have a1 : ∀ o, (wa.alloc o).cell? ⟨w.heap.size + 1, s.x, none⟩ = some (v s.x) := fun o => (N2.out.alloc o).by_.cell hx
  have hxi : (s.x : Int) < (nT : Int) := by omega
  have hx0 : (0 : Int) ≤ (s.x : Int) := by omega
  go_region_law ((refine apDG Ybad.E53 (by rfl) _ _ (by rfl) (w.heap.size + 2) (v s.x) (G s.x).length (rowS (G s.x)) s.cells wa.heap.size (wa.heap.size + 1) (by rfl) (by rfl) (((N2.out.alloc _).drew).fam.own s.x hx) (heap_alloc_new wa _) rfl (Sp.one s) hl1 (by simp; omega) (by simp) ?_; intro g1 cap1 w1 hown1 hgrow hat hlt1; obtain ⟨k1, k2, H9⟩ := ((N2.out.alloc _).drew).app hx hown1 hgrow (by simpa using hat); have k3 : w1.cell? ⟨B, 0, none⟩ = some (.int .i64 (s.x : Int)) := (by rw [cell_of_row _ _ _ _ _ _ (copy_kept1 hBlt HB.out hgrow HNB.out)]; rfl); clear hown1 hgrow hat))
  all_goals go_wp2_with fail
  all_goals (
    have HX := H9.out
    have e : byT (S.take (q + 1)) = updL G s.x (G s.x ++ [s]) := by funext i; rw [HTK.out, ← HG.out]; exact byT_snoc _ _ _
    rw [← e] at HX
    have HH := HQ.out
    rw [show ((q + 1 : Nat) : Int) = (q : Int) + 1 from by omega] at HH
    exact HH _ _ _ _ _ _ _ _ _ _ _ _ _ _ _ _ _ _ ⟨_, HX⟩)

end Go.Proofs.YbulkbgasDoor
