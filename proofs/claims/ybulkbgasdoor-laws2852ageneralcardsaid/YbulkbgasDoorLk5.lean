import Derived.Test.YbulkbgasDoorLk4
namespace Go.Proofs.YbulkbgasDoor
open Go.RowKit Go.Maps
set_option linter.unusedVariables false
attribute [local go_sem ↓] Go.wp_at_zero Go.wp_at_succ

theorem copy_kept2 {wa wE : World} {B t : Nat} {cs : Array Value} {fr : Nat × Nat} {row : Option Nat} {o : Obj} (hlt : B < wa.heap.size) (hB : wa.heap[B]? = some (.cells cs t fr)) (hg : ((wa.alloc o).drew).grownBy wE row) (hne : row ≠ some B) : wE.heap[B]? = some (.cells cs t fr) :=
  copy_kept (show ((wa.alloc o).drew).heap[B]? = _ from (Below.heap_alloc _ _ _ hlt).trans hB) hg hne
/-- The schedule that grows. -/
structure LkL (w4 wr : World) (vL : Value) (R : List Ac) : Prop where
  own : wr.ownsRow w4.heap.size 34 3 vL R.length (rowA R)
  bel : Below w4.heap.size w4 wr
section
variable {w4 wr : World} {vL : Value} {R : List Ac}
theorem LkL.alloc (h : LkL w4 wr vL R) (o : Obj) : LkL w4 (wr.alloc o) vL R := ⟨h.own.alloc o, h.bel.alloc h.bel.size o⟩
theorem LkL.same {w' : World} (h : LkL w4 wr vL R) (e : w'.heap = wr.heap) (e1 : w'.os = wr.os) (e2 : w'.tape = wr.tape) (e3 : w'.output = wr.output) : LkL w4 w' vL R :=
  ⟨own_of_block h.own fun g _ => by rw [e], e1.trans h.bel.os, e2.trans h.bel.tape, e3.trans h.bel.output, by rw [e]; exact h.bel.size, fun k hk => by rw [e]; exact h.bel.block k hk⟩
theorem LkL.drew (h : LkL w4 wr vL R) : LkL w4 wr.drew vL R := h.same rfl rfl rfl rfl
theorem LkL.app (h : LkL w4 wr vL R) {wE : World} {g cap : Nat} {a : Ac} (ho : wE.ownsRow w4.heap.size 34 3 (.slice (some ⟨g, 0, none⟩) (R.length + 1) cap) (R.length + 1) (rowA R ++ a.cells)) (hg : wr.grownBy wE vL.ownBlock) : LkL w4 wE (.slice (some ⟨g, 0, none⟩) (R.length + 1) cap) (R ++ [a]) := by
  refine ⟨?_, h.bel.grown hg h.bel.size fun k hk => own_ge h.own hk⟩
  rw [rowA_append, List.length_append]
  have : rowA [a] = a.cells := by simp [rowA]
  rw [this]; exact ho
end

set_option maxRecDepth 1000000 in
set_option maxHeartbeats 4000000 in
theorem lk_round7 (w4 wr : World) (Bc nT n q at_ i capg captx capl : Nat) (ag as_ : Option Addr) (btx otx : Nat) (g : List Sp) (s : Sp) (l : List Ac) (tx : List Int) (vL : Value) (R : List Ac) (hn : l.length = n) (hn2 : n ≤ 10000) (hgl : g.length ≤ 300) (hq0 : q < g.length) (HG : Hid (Els w4 5 ag g.length fun i => (g.getD i sp0).cells)) (hs : g.getD q sp0 = s) (hla : s.la < at_) (hf : s.f < n) (hRl : R.length ≤ 20000) (hBc : Bc < w4.heap.size) (hbtx : btx < w4.heap.size) (hi : i < nT) (hx1 : w4.cell? ⟨Bc, 0, none⟩ = some (.slice (some ⟨btx, otx, none⟩) nT captx)) (hx2 : w4.cell? ⟨btx, otx + i, none⟩ = some (.int .i64 (tx.getD i 0))) (hx3' : ∃ bs os, as_ = some ⟨bs, os, none⟩ ∧ bs < w4.heap.size ∧ w4.cell? ⟨bs, os + s.f * 3, none⟩ = some (.string (l.getD s.f ac0).k) ∧ w4.cell? ⟨bs, os + s.f * 3 + 1, none⟩ = some (.int .i64 (l.getD s.f ac0).t) ∧ w4.cell? ⟨bs, os + s.f * 3 + 2, none⟩ = some (.string (l.getD s.f ac0).it)) (N1 : Hid (LkL w4 wr vL R))
    (Q : Exit → Act → World → Prop) (c2 c3 c4 c5 c6 c7 c8 c9 c10 c11 c12 c13 c14 c15 c16 c17 c18 c19 c20 c21 c24 c26 c27 c28 c29 c30 c31 c32 c33 c34 c35 c36 c37 c38 c39 c40 c41 c42 c43 c44 c45 c46 c47 c48 c49 c50 c51 c52 c53 c54 c55 c56 c57 c58 c59 c60 c61 c62 c63 c64 c65 c66 c67 c68 c69 c70 c71 c72 c73 c74 c75 c76 c77 c78 c79 c80 c81 c82 c83 c84 c85 c86 c87 c88 c89 c90 c91 c92 c93 c94 c95 c96 c97 c98 c99 c100 c101 c102 c103 c104 c105 c106 c107 c108 c109 c110 c111 c112 c113 c114 c115 c116 c117 c118 c119 c120 c121 c122 c123 c124 c125 c126 c127 c128 c129 c130 c131 c132 c133 c134 c135 c136 c137 c138 c139 c140 c141 c142 c143 c144 c145 c146 c147 c148 c149 c150 c151 c152 c153 c154 c155 c156 c157 c158 c159 c160 c161 c162 c163 c164 c165 c166 c167 c168 c169 c170 c171 c172 c173 c174 c175 c176 c177 c178 c179 c180 c181 c182 c183 c184 c185 c186 c187 c188 c189 c190 c191 c192 c193 c194 c195 c196 c197 c198 c199 c200 c201 c202 c203 c204 c205 c206 c207 c208 c209 c210 c211 c212 c213 c214 c215 c216 c217 c218 c219 c220 c221 c222 c223 c224 c225 c226 c227 c228 c229 c230 c231 c232 c233 c234 c235 c236 c237 c238 c239 c240 c241 c242 c243 c244 c245 c246 c250 c251 c252 c253 c254 c255 c256 c257 c258 c259 c260 c261 c262 c263 c264 c265 c266 c267 c268 c269 c270 c271 c272 c273 c274 c275 c276 c277 c278 c279 c280 c281 c282 c283 c284 c285 c286 c287 c288 c289 c290 c291 c292 c293 c294 c295 c296 c297 c298 c299 c300 c301 c302 c303 c304 c305 c306 c307 c308 c309 c310 : Value)
    (hq : ∀ (u29 u250 u251 u252 u253 u254 u255 u256 u257 u258 u259 u260 u261 u262 u263 u264 u265 u266 u267 u268 u269 u270 u271 u272 u273 u274 : Value) (vL2 : Value) (wi : World), LkL w4 wi vL2 (R ++ [lkU l tx i s]) → Q .normal ⟨#[.pointer (some ⟨Bc, 0, none⟩), .slice as_ n capl, c2, c3, c4, c5, c6, c7, c8, c9, c10, c11, c12, c13, c14, c15, c16, c17, c18, c19, c20, c21, vL2, .int .i64 (at_ : Int), c24, .int .i64 (i : Int), c26, c27, c28, u29, c30, c31, c32, c33, c34, c35, c36, c37, c38, c39, c40, c41, c42, c43, c44, c45, c46, c47, c48, c49, c50, c51, c52, c53, c54, c55, c56, c57, c58, c59, c60, c61, c62, c63, c64, c65, c66, c67, c68, c69, c70, c71, c72, c73, c74, c75, c76, c77, c78, c79, c80, c81, c82, c83, c84, c85, c86, c87, c88, c89, c90, c91, c92, c93, c94, c95, c96, c97, c98, c99, c100, c101, c102, c103, c104, c105, c106, c107, c108, c109, c110, c111, c112, c113, c114, c115, c116, c117, c118, c119, c120, c121, c122, c123, c124, c125, c126, c127, c128, c129, c130, c131, c132, c133, c134, c135, c136, c137, c138, c139, c140, c141, c142, c143, c144, c145, c146, c147, c148, c149, c150, c151, c152, c153, c154, c155, c156, c157, c158, c159, c160, c161, c162, c163, c164, c165, c166, c167, c168, c169, c170, c171, c172, c173, c174, c175, c176, c177, c178, c179, c180, c181, c182, c183, c184, c185, c186, c187, c188, c189, c190, c191, c192, c193, c194, c195, c196, c197, c198, c199, c200, c201, c202, c203, c204, c205, c206, c207, c208, c209, c210, c211, c212, c213, c214, c215, c216, c217, c218, c219, c220, c221, c222, c223, c224, c225, c226, c227, c228, c229, c230, c231, c232, c233, c234, c235, c236, c237, c238, c239, c240, c241, c242, c243, c244, c245, c246, .slice ag g.length capg, .int .i64 (g.length : Int), .int .i64 ((q + 1 : Nat) : Int), u250, u251, u252, u253, u254, u255, u256, u257, u258, u259, u260, u261, u262, u263, u264, u265, u266, u267, u268, u269, u270, u271, u272, u273, u274, c275, c276, c277, c278, c279, c280, c281, c282, c283, c284, c285, c286, c287, c288, c289, c290, c291, c292, c293, c294, c295, c296, c297, c298, c299, c300, c301, c302, c303, c304, c305, c306, c307, c308, c309, c310], []⟩ wi) :
    Code.wp Ybad.prog (lp32 6) Q ⟨#[.pointer (some ⟨Bc, 0, none⟩), .slice as_ n capl, c2, c3, c4, c5, c6, c7, c8, c9, c10, c11, c12, c13, c14, c15, c16, c17, c18, c19, c20, c21, vL, .int .i64 (at_ : Int), c24, .int .i64 (i : Int), c26, c27, c28, c29, c30, c31, c32, c33, c34, c35, c36, c37, c38, c39, c40, c41, c42, c43, c44, c45, c46, c47, c48, c49, c50, c51, c52, c53, c54, c55, c56, c57, c58, c59, c60, c61, c62, c63, c64, c65, c66, c67, c68, c69, c70, c71, c72, c73, c74, c75, c76, c77, c78, c79, c80, c81, c82, c83, c84, c85, c86, c87, c88, c89, c90, c91, c92, c93, c94, c95, c96, c97, c98, c99, c100, c101, c102, c103, c104, c105, c106, c107, c108, c109, c110, c111, c112, c113, c114, c115, c116, c117, c118, c119, c120, c121, c122, c123, c124, c125, c126, c127, c128, c129, c130, c131, c132, c133, c134, c135, c136, c137, c138, c139, c140, c141, c142, c143, c144, c145, c146, c147, c148, c149, c150, c151, c152, c153, c154, c155, c156, c157, c158, c159, c160, c161, c162, c163, c164, c165, c166, c167, c168, c169, c170, c171, c172, c173, c174, c175, c176, c177, c178, c179, c180, c181, c182, c183, c184, c185, c186, c187, c188, c189, c190, c191, c192, c193, c194, c195, c196, c197, c198, c199, c200, c201, c202, c203, c204, c205, c206, c207, c208, c209, c210, c211, c212, c213, c214, c215, c216, c217, c218, c219, c220, c221, c222, c223, c224, c225, c226, c227, c228, c229, c230, c231, c232, c233, c234, c235, c236, c237, c238, c239, c240, c241, c242, c243, c244, c245, c246, .slice ag g.length capg, .int .i64 (g.length : Int), .int .i64 (q : Int), c250, c251, c252, c253, c254, c255, c256, c257, c258, c259, c260, c261, c262, c263, c264, c265, c266, c267, c268, c269, c270, c271, c272, c273, c274, c275, c276, c277, c278, c279, c280, c281, c282, c283, c284, c285, c286, c287, c288, c289, c290, c291, c292, c293, c294, c295, c296, c297, c298, c299, c300, c301, c302, c303, c304, c305, c306, c307, c308, c309, c310], []⟩ wr := by
  refine Code.wp_mono NoPanic.imp ?_
  have HQ := hid hq
  clear hq
  conv => arg 2; whnf
  have hqi : (q : Int) < (g.length : Int) := by omega
  obtain ⟨bs, os, rfl, hbs, _, _, hx3⟩ := hx3'
  obtain ⟨b, off, rfl, hbl, c0', c1', c2', c3', c4'⟩ := sp_at5 HG.out hq0
  rw [hs] at c0' c1' c2' c3' c4'
  have c0 : wr.cell? ⟨b, off + q * 5, none⟩ = some (.int .i64 (s.x : Int)) := (N1.out.bel.cell (p := ⟨b, off + q * 5, none⟩) hbl).trans c0'
  have c1 : wr.cell? ⟨b, off + q * 5 + 1, none⟩ = some (.int .i64 (s.i : Int)) := (N1.out.bel.cell (p := ⟨b, off + q * 5 + 1, none⟩) hbl).trans c1'
  have c2 : wr.cell? ⟨b, off + q * 5 + 2, none⟩ = some (.int .i64 (s.f : Int)) := (N1.out.bel.cell (p := ⟨b, off + q * 5 + 2, none⟩) hbl).trans c2'
  have c3 : wr.cell? ⟨b, off + q * 5 + 3, none⟩ = some (.int .i64 s.w) := (N1.out.bel.cell (p := ⟨b, off + q * 5 + 3, none⟩) hbl).trans c3'
  have c4 : wr.cell? ⟨b, off + q * 5 + 4, none⟩ = some (.int .i64 (s.la : Int)) := (N1.out.bel.cell (p := ⟨b, off + q * 5 + 4, none⟩) hbl).trans c4'
  have hz2 := N1.out.bel.size
  have hlai : (s.la : Int) < (at_ : Int) := by omega
  clear c0' c1' c2' c3' c4'
  go_upto_region 46 with fail
  have N2 := hid (N1.out.alloc (.cells #[.int .i64 (s.x : Int), .int .i64 (s.i : Int), .int .i64 (s.f : Int), .int .i64 s.w, .int .i64 (s.la : Int)] 102))
  have HB := hid (heap_alloc_new wr (.cells #[.int .i64 (s.x : Int), .int .i64 (s.i : Int), .int .i64 (s.f : Int), .int .i64 s.w, .int .i64 (s.la : Int)] 102))
  obtain ⟨wa, hwa⟩ : ∃ wa, wa = wr.alloc (.cells #[.int .i64 (s.x : Int), .int .i64 (s.i : Int), .int .i64 (s.f : Int), .int .i64 s.w, .int .i64 (s.la : Int)] 102) := ⟨_, rfl⟩
  obtain ⟨B, hBB⟩ : ∃ B, B = wr.heap.size := ⟨_, rfl⟩
  rw [← hwa] at N2 HB ⊢
  rw [← hBB] at HB ⊢
  have hBlt : B < wa.heap.size := (Array.getElem?_eq_some_iff.1 HB.out).1
  have hBge : w4.heap.size ≤ B := by omega
  have HNB := hid (show vL.ownBlock ≠ some B from fun e => by have := (N1.out.own.lt _ e).2; omega)
  clear hwa hBB c0 c1 c2 c3 c4 N1 hz2
  have d2 : wa.cell? ⟨B, 2, none⟩ = some (.int .i64 (s.f : Int)) := by rw [cell_of_row _ _ _ _ _ _ HB.out]; rfl
  have y1 : wa.cell? ⟨Bc, 0, none⟩ = some (.slice (some ⟨btx, otx, none⟩) nT captx) := (N2.out.bel.cell (p := ⟨Bc, 0, none⟩) hBc).trans hx1
  have y2 : wa.cell? ⟨btx, otx + i, none⟩ = some (.int .i64 (tx.getD i 0)) := (N2.out.bel.cell (p := ⟨btx, otx + i, none⟩) hbtx).trans hx2
  have y3 : wa.cell? ⟨bs, os + s.f * 3 + 2, none⟩ = some (.string (l.getD s.f ac0).it) := (N2.out.bel.cell (p := ⟨bs, os + s.f * 3 + 2, none⟩) hbs).trans hx3
  have hii : (i : Int) < (nT : Int) := by omega
  have hi0 : (0 : Int) ≤ (i : Int) := by omega
  have hfi : (s.f : Int) < (n : Int) := by omega
  have hf0 : (0 : Int) ≤ (s.f : Int) := by omega
  have hwz := N2.out.bel.size
  obtain ⟨it, hit⟩ : ∃ it, (l.getD s.f ac0).it = it := ⟨_, rfl⟩
  obtain ⟨ti, hti⟩ : ∃ ti, tx.getD i 0 = ti := ⟨_, rfl⟩
  have HU := hid (show lkU l tx i s = ⟨kU, ti, it⟩ from by unfold lkU; rw [hit, hti])
  rw [hit] at y3
  rw [hti] at y2
  rw [hit] at hx3
  rw [hti] at hx2
  have HX := hid (And.intro hx1 (And.intro hx2 hx3))
  clear hit hti hx1 hx2 hx3
  go_region_held3 (fun W => W.cell? ⟨B, 2, none⟩ = some (.int .i64 (s.f : Int)) ∧ W.cell? ⟨Bc, 0, none⟩ = some (.slice (some ⟨btx, otx, none⟩) nT captx) ∧ W.cell? ⟨btx, otx + i, none⟩ = some (.int .i64 ti) ∧ W.cell? ⟨bs, os + s.f * 3 + 2, none⟩ = some (.string it)) (go_keep) ((refine apDG Ybad.E24 (by rfl) _ _ (by rfl) w4.heap.size vL R.length (rowA R) (Ac.cells ⟨kU, ti, it⟩) wa.heap.size (wa.heap.size + 1) (by rfl) (by rfl) (((N2.out.alloc _).drew).own) (heap_alloc_new wa _) rfl (Ac.one _) (by omega) (by simp; omega) (by simp) ?_; intro g1 cap1 w1 hown1 hgrow hat hlt1; have H9 := hid (((N2.out.alloc _).drew).app hown1 hgrow); have k1 : w1.cell? ⟨B, 2, none⟩ = some (.int .i64 (s.f : Int)) := (by rw [cell_of_row _ _ _ _ _ _ (copy_kept2 hBlt HB.out hgrow HNB.out)]; rfl); have k2 := (H9.out.bel.cell (p := ⟨Bc, 0, none⟩) hBc).trans HX.out.1; have k3 := (H9.out.bel.cell (p := ⟨btx, otx + i, none⟩) hbtx).trans HX.out.2.1; have k4 := (H9.out.bel.cell (p := ⟨bs, os + s.f * 3 + 2, none⟩) hbs).trans HX.out.2.2; clear hown1 hgrow hat))
  all_goals go_wp2_with fail
  all_goals (
    have HH := HQ.out
    rw [HU.out, show ((q + 1 : Nat) : Int) = (q : Int) + 1 from by omega] at HH
    exact HH _ _ _ _ _ _ _ _ _ _ _ _ _ _ _ _ _ _ _ _ _ _ _ _ _ _ _ _ H9.out)

end Go.Proofs.YbulkbgasDoor
