import Derived.Test.YbulkbgasDoorLg2
namespace Go.Proofs.YbulkbgasDoor
open Go.RowKit Go.Maps
set_option linter.unusedVariables false
attribute [local go_sem ↓] Go.wp_at_zero Go.wp_at_succ

set_option maxRecDepth 1000000 in
set_option maxHeartbeats 4000000 in
theorem lg_round3 (w2 wr : World) (n at_ q capg : Nat) (ag : Option Addr) (g : List Sp) (s : Sp) (bf : Nat → ByteArray) (af : Nat → Bool) (v2 : Nat → Value) (Pt : Nat → List Nat) (hn : n ≤ 10000) (hgl : g.length ≤ 300) (hq0 : q < g.length) (HG : Hid (Els w2 5 ag g.length fun i => (g.getD i sp0).cells)) (hs : g.getD q sp0 = s) (hf : s.f < n) (hw : s.w < (n : Int)) (hw1 : -1 ≤ s.w) (hla : s.la < n) (hat : at_ ≤ n) (HLd : Hid (Laid w2)) (N1 : Hid (LgC w2 wr n bf af v2 Pt))
    (Q : Exit → Act → World → Prop) (c0 c1 c2 c3 c4 c5 c6 c7 c8 c9 c10 c11 c12 c13 c16 c17 c18 c20 c21 c22 c23 c24 c25 c26 c27 c28 c29 c30 c31 c32 c33 c34 c35 c36 c37 c38 c39 c40 c41 c42 c43 c44 c45 c46 c47 c48 c49 c50 c51 c52 c53 c54 c55 c56 c57 c58 c59 c60 c61 c62 c63 c64 c65 c66 c67 c68 c69 c70 c71 c72 c73 c74 c75 c76 c77 c78 c79 c80 c81 c82 c83 c84 c85 c86 c87 c88 c92 c93 c94 c95 c96 c97 c98 c99 c100 c101 c102 c103 c104 c105 c106 c107 c108 c109 c110 c111 c112 c113 c114 c115 c116 c117 c118 c119 c120 c121 c122 c123 c124 c125 c126 c127 c128 c129 c130 c131 c132 c133 c134 c135 c136 c137 c138 c139 c140 c141 c142 c143 c144 c145 c146 c147 c148 c149 c150 c151 c152 c153 c154 c155 c156 c157 c158 c159 c160 c161 c162 c163 c164 c165 c166 c167 c168 c169 c170 c171 c172 c173 c174 c175 c176 c177 c178 c179 c180 c181 c182 c183 c184 c185 c186 c187 c188 c189 c190 c191 c192 c193 c194 c195 c196 c197 c198 c199 c200 c201 c202 c203 c204 c205 c206 c207 c208 c209 c210 c211 c212 c213 c214 c215 c216 c217 c218 c219 c220 c221 c222 c223 c224 c225 c226 c227 c228 c229 c230 c231 c232 c233 c234 c235 c236 c237 c238 c239 c240 c241 c242 c243 c244 c245 c246 c247 c248 c249 c250 c251 c252 c253 c254 c255 c256 c257 c258 c259 c260 c261 c262 c263 c264 c265 c266 c267 c268 c269 c270 c271 c272 c273 c274 c275 c276 c277 c278 c279 c280 c281 c282 c283 c284 c285 c286 c287 c288 c289 c290 c291 c292 c293 c294 c295 c296 c297 c298 c299 c300 c301 c302 c303 c304 c305 c306 c307 c308 c309 c310 : Value)
    (hq : ∀ (u21 u92 u93 u94 u95 u96 u97 u98 u99 u100 u101 u102 u103 u104 u105 u106 u107 u108 u109 u110 u111 u112 u113 u114 u115 u116 u117 u118 u119 u120 u121 u122 u123 u124 u125 u126 u127 u128 u129 u130 u131 u132 u133 u134 : Value) (wi : World), LgC w2 wi n (gbOne at_ bf s) (gaOne at_ af s) v2 Pt → Q .normal ⟨#[c0, c1, c2, c3, c4, c5, c6, c7, c8, c9, c10, c11, c12, c13, .slice (some ⟨w2.heap.size, 0, none⟩) n n, .slice (some ⟨w2.heap.size + 1, 0, none⟩) n n, c16, c17, c18, .int .i64 (at_ : Int), c20, u21, c22, c23, c24, c25, c26, c27, c28, c29, c30, c31, c32, c33, c34, c35, c36, c37, c38, c39, c40, c41, c42, c43, c44, c45, c46, c47, c48, c49, c50, c51, c52, c53, c54, c55, c56, c57, c58, c59, c60, c61, c62, c63, c64, c65, c66, c67, c68, c69, c70, c71, c72, c73, c74, c75, c76, c77, c78, c79, c80, c81, c82, c83, c84, c85, c86, c87, c88, .slice ag g.length capg, .int .i64 (g.length : Int), .int .i64 ((q + 1 : Nat) : Int), u92, u93, u94, u95, u96, u97, u98, u99, u100, u101, u102, u103, u104, u105, u106, u107, u108, u109, u110, u111, u112, u113, u114, u115, u116, u117, u118, u119, u120, u121, u122, u123, u124, u125, u126, u127, u128, u129, u130, u131, u132, u133, u134, c135, c136, c137, c138, c139, c140, c141, c142, c143, c144, c145, c146, c147, c148, c149, c150, c151, c152, c153, c154, c155, c156, c157, c158, c159, c160, c161, c162, c163, c164, c165, c166, c167, c168, c169, c170, c171, c172, c173, c174, c175, c176, c177, c178, c179, c180, c181, c182, c183, c184, c185, c186, c187, c188, c189, c190, c191, c192, c193, c194, c195, c196, c197, c198, c199, c200, c201, c202, c203, c204, c205, c206, c207, c208, c209, c210, c211, c212, c213, c214, c215, c216, c217, c218, c219, c220, c221, c222, c223, c224, c225, c226, c227, c228, c229, c230, c231, c232, c233, c234, c235, c236, c237, c238, c239, c240, c241, c242, c243, c244, c245, c246, c247, c248, c249, c250, c251, c252, c253, c254, c255, c256, c257, c258, c259, c260, c261, c262, c263, c264, c265, c266, c267, c268, c269, c270, c271, c272, c273, c274, c275, c276, c277, c278, c279, c280, c281, c282, c283, c284, c285, c286, c287, c288, c289, c290, c291, c292, c293, c294, c295, c296, c297, c298, c299, c300, c301, c302, c303, c304, c305, c306, c307, c308, c309, c310], []⟩ wi) :
    Code.wp Ybad.prog (lp32 2) Q ⟨#[c0, c1, c2, c3, c4, c5, c6, c7, c8, c9, c10, c11, c12, c13, .slice (some ⟨w2.heap.size, 0, none⟩) n n, .slice (some ⟨w2.heap.size + 1, 0, none⟩) n n, c16, c17, c18, .int .i64 (at_ : Int), c20, c21, c22, c23, c24, c25, c26, c27, c28, c29, c30, c31, c32, c33, c34, c35, c36, c37, c38, c39, c40, c41, c42, c43, c44, c45, c46, c47, c48, c49, c50, c51, c52, c53, c54, c55, c56, c57, c58, c59, c60, c61, c62, c63, c64, c65, c66, c67, c68, c69, c70, c71, c72, c73, c74, c75, c76, c77, c78, c79, c80, c81, c82, c83, c84, c85, c86, c87, c88, .slice ag g.length capg, .int .i64 (g.length : Int), .int .i64 (q : Int), c92, c93, c94, c95, c96, c97, c98, c99, c100, c101, c102, c103, c104, c105, c106, c107, c108, c109, c110, c111, c112, c113, c114, c115, c116, c117, c118, c119, c120, c121, c122, c123, c124, c125, c126, c127, c128, c129, c130, c131, c132, c133, c134, c135, c136, c137, c138, c139, c140, c141, c142, c143, c144, c145, c146, c147, c148, c149, c150, c151, c152, c153, c154, c155, c156, c157, c158, c159, c160, c161, c162, c163, c164, c165, c166, c167, c168, c169, c170, c171, c172, c173, c174, c175, c176, c177, c178, c179, c180, c181, c182, c183, c184, c185, c186, c187, c188, c189, c190, c191, c192, c193, c194, c195, c196, c197, c198, c199, c200, c201, c202, c203, c204, c205, c206, c207, c208, c209, c210, c211, c212, c213, c214, c215, c216, c217, c218, c219, c220, c221, c222, c223, c224, c225, c226, c227, c228, c229, c230, c231, c232, c233, c234, c235, c236, c237, c238, c239, c240, c241, c242, c243, c244, c245, c246, c247, c248, c249, c250, c251, c252, c253, c254, c255, c256, c257, c258, c259, c260, c261, c262, c263, c264, c265, c266, c267, c268, c269, c270, c271, c272, c273, c274, c275, c276, c277, c278, c279, c280, c281, c282, c283, c284, c285, c286, c287, c288, c289, c290, c291, c292, c293, c294, c295, c296, c297, c298, c299, c300, c301, c302, c303, c304, c305, c306, c307, c308, c309, c310], []⟩ wr := by
  refine Code.wp_mono NoPanic.imp ?_
  have HQ := hid hq
  clear hq
  conv => arg 2; whnf
  have hqi : (q : Int) < (g.length : Int) := by omega
  obtain ⟨b, off, rfl, hbl, c0', c1', c2', c3', c4'⟩ := sp_at5 HG.out hq0
  rw [hs] at c0' c1' c2' c3' c4'
  have c0 : wr.cell? ⟨b, off + q * 5, none⟩ = some (.int .i64 (s.x : Int)) := (N1.out.bel.cell (p := ⟨b, off + q * 5, none⟩) hbl).trans c0'
  have c1 : wr.cell? ⟨b, off + q * 5 + 1, none⟩ = some (.int .i64 (s.i : Int)) := (N1.out.bel.cell (p := ⟨b, off + q * 5 + 1, none⟩) hbl).trans c1'
  have c2 : wr.cell? ⟨b, off + q * 5 + 2, none⟩ = some (.int .i64 (s.f : Int)) := (N1.out.bel.cell (p := ⟨b, off + q * 5 + 2, none⟩) hbl).trans c2'
  have c3 : wr.cell? ⟨b, off + q * 5 + 3, none⟩ = some (.int .i64 s.w) := (N1.out.bel.cell (p := ⟨b, off + q * 5 + 3, none⟩) hbl).trans c3'
  have c4 : wr.cell? ⟨b, off + q * 5 + 4, none⟩ = some (.int .i64 (s.la : Int)) := (N1.out.bel.cell (p := ⟨b, off + q * 5 + 4, none⟩) hbl).trans c4'
  have hlt := N1.out.lt
  clear c0' c1' c2' c3' c4'
  go_upto_region 18 with fail
  have N2 := hid (N1.out.copy s)
  have hz2 := N1.out.bel.size
  obtain ⟨wa, hwa⟩ : ∃ wa, wa = wr.alloc (.cells #[.int .i64 (s.x : Int), .int .i64 (s.i : Int), .int .i64 (s.f : Int), .int .i64 s.w, .int .i64 (s.la : Int)] 102) := ⟨_, rfl⟩
  obtain ⟨B, hBB⟩ : ∃ B, B = wr.heap.size := ⟨_, rfl⟩
  rw [← hwa, ← hBB] at N2
  rw [← hwa, ← hBB]
  clear hwa hBB c0 c1 c2 c3 c4 N1 hlt hz2
  obtain ⟨b0, o0, e0, b1, o1, e1, l1, l2, l3, l4, l5, l6, l7, l8, l9, l10⟩ := HLd.out
  have hfn : (s.f : Int) < (n : Int) := by omega
  have hf0 : (0 : Int) ≤ (s.f : Int) := by omega
  have d2 := N2.out.d2
  have d3 := N2.out.d3
  have hz := N2.out.st.bel.size
  have l1' : wa.cell? ⟨0, 0, none⟩ = some (.slice (some ⟨b0, o0, none⟩) 2 e0) := (N2.out.st.bel.cell (p := ⟨0, 0, none⟩) l3).trans l1
  have l2' : wa.cell? ⟨1, 0, none⟩ = some (.slice (some ⟨b1, o1, none⟩) 2 e1) := (N2.out.st.bel.cell (p := ⟨1, 0, none⟩) l4).trans l2
  have l7' : wa.cell? ⟨b0, o0 + 1, none⟩ = some (.string kRl) := (N2.out.st.bel.cell (p := ⟨b0, o0 + 1, none⟩) l5).trans l7
  have l8' : wa.cell? ⟨b0, o0 + 3 + 1, none⟩ = some (.string kWl) := (N2.out.st.bel.cell (p := ⟨b0, o0 + 3 + 1, none⟩) l5).trans l8
  have l9' : wa.cell? ⟨b1, o1, none⟩ = some (.string mSh) := (N2.out.st.bel.cell (p := ⟨b1, o1, none⟩) l6).trans l9
  have l10' : wa.cell? ⟨b1, o1 + 1, none⟩ = some (.string mEx) := (N2.out.st.bel.cell (p := ⟨b1, o1 + 1, none⟩) l6).trans l10
  have n0 : w2.heap.size ≠ 0 := by omega
  have n1 : w2.heap.size ≠ 1 := by omega
  have n2 : w2.heap.size ≠ b0 := by omega
  have n3 : w2.heap.size ≠ b1 := by omega
  have n4 : w2.heap.size ≠ B := by have := N2.out.ge; omega
  have f0 := N2.out.st.be.cell (j := s.f) (by omega)
  have f1 := N2.out.st.be.free s.f
  have HLL := hid (And.intro l1 (And.intro l2 (And.intro l7 (And.intro l8 (And.intro l9 l10)))))
  clear l1 l2 l7 l8 l9 l10
  go_cut [98] from 92 to 134 (fun t wd => t = .bool (decide ((s.f : Int) < (at_ : Int))) ∧ LgE w2 wd n bf af v2 Pt B s)
  case first =>
    by_cases hfa : (s.f : Int) < (at_ : Int)
    · go_wp2_with fail
      go_meet
      exact ⟨by rw [decide_eq_true hfa], N2.out⟩
    · go_wp2_with fail
      go_meet
      exact ⟨by rw [decide_eq_false (by omega)], N2.out⟩
  case rest =>
  obtain ⟨rfl, hc0⟩ := hcut
  have N2' := hid hc0
  clear hc0 N2 d2 d3 hz l1' l2' l7' l8' l9' l10' f0 f1
  have N2 := N2'
  clear N2'
  have d2 := N2.out.d2
  have d3 := N2.out.d3
  have hz := N2.out.st.bel.size
  have l1' : wc.cell? ⟨0, 0, none⟩ = some (.slice (some ⟨b0, o0, none⟩) 2 e0) := (N2.out.st.bel.cell (p := ⟨0, 0, none⟩) l3).trans HLL.out.1
  have l2' : wc.cell? ⟨1, 0, none⟩ = some (.slice (some ⟨b1, o1, none⟩) 2 e1) := (N2.out.st.bel.cell (p := ⟨1, 0, none⟩) l4).trans HLL.out.2.1
  have l7' : wc.cell? ⟨b0, o0 + 1, none⟩ = some (.string kRl) := (N2.out.st.bel.cell (p := ⟨b0, o0 + 1, none⟩) l5).trans HLL.out.2.2.1
  have l8' : wc.cell? ⟨b0, o0 + 3 + 1, none⟩ = some (.string kWl) := (N2.out.st.bel.cell (p := ⟨b0, o0 + 3 + 1, none⟩) l5).trans HLL.out.2.2.2.1
  have l9' : wc.cell? ⟨b1, o1, none⟩ = some (.string mSh) := (N2.out.st.bel.cell (p := ⟨b1, o1, none⟩) l6).trans HLL.out.2.2.2.2.1
  have l10' : wc.cell? ⟨b1, o1 + 1, none⟩ = some (.string mEx) := (N2.out.st.bel.cell (p := ⟨b1, o1 + 1, none⟩) l6).trans HLL.out.2.2.2.2.2
  have f0 := N2.out.st.be.cell (j := s.f) (by omega)
  have f1 := N2.out.st.be.free s.f
  have HGB := hid (show gb1 at_ bf s = if s.f < at_ then updL bf s.f (if s.w = (s.f : Int) then kWl else kRl) else bf from rfl)
  go_upto_if 98 with fail
  go_cut [98] from 92 to 134 (fun _ wd => LgE w2 wd n (gb1 at_ bf s) af v2 Pt B s)
  case first =>
   by_cases hfa : (s.f : Int) < (at_ : Int)
   · rw [decide_eq_true hfa]
     rw [if_pos (by omega)] at HGB
     go_upto_region 19 with fail
     by_cases hwf : s.w = (s.f : Int)
     · have hb1 : (s.w == (s.f : Int)) = true := by simp [hwf]
       have N3 := hid (N2.out.setB (j := s.f) (by omega) kWl)
       have HWF := hid hwf
       clear hwf
       go_region_held3 (fun W => W.cell? ⟨0, 0, none⟩ = some (.slice (some ⟨b0, o0, none⟩) 2 e0) ∧ W.cell? ⟨1, 0, none⟩ = some (.slice (some ⟨b1, o1, none⟩) 2 e1) ∧ W.cell? ⟨b0, o0 + 1, none⟩ = some (.string kRl) ∧ W.cell? ⟨b0, o0 + 3 + 1, none⟩ = some (.string kWl) ∧ W.cell? ⟨b1, o1, none⟩ = some (.string mSh) ∧ W.cell? ⟨b1, o1 + 1, none⟩ = some (.string mEx) ∧ W.cell? ⟨B, 2, none⟩ = some (.int .i64 (s.f : Int)) ∧ W.cell? ⟨B, 3, none⟩ = some (.int .i64 s.w)) (go_keep) (first
           | (go_at_call 53; refine Calls.mono (lockFor_t _) ?_; rintro e w' ⟨rfl, rfl⟩)
           | (go_at_call 52; refine Calls.mono (lockAct_t _ (b0 := b0) (o0 := o0) (c0 := e0) (b1 := b1) (o1 := o1) (c1 := e1) ?_ ?_ ?_ ?_ ?_ ?_) ?_; (simp [*]); (simp [*]); (simp [*]); (simp [*]); (simp [*]); (simp [*]); rintro e w' ⟨rfl, qq, rfl⟩))
       all_goals go_wp2_with fail
       all_goals go_meet
       all_goals (rw [HGB.out, if_pos HWF.out]; exact N3.out.same rfl rfl rfl rfl)
     · have hb1 : (s.w == (s.f : Int)) = false := by simp [hwf]
       have N3 := hid (N2.out.setB (j := s.f) (by omega) kRl)
       have HWF := hid hwf
       clear hwf
       go_region_held3 (fun W => W.cell? ⟨0, 0, none⟩ = some (.slice (some ⟨b0, o0, none⟩) 2 e0) ∧ W.cell? ⟨1, 0, none⟩ = some (.slice (some ⟨b1, o1, none⟩) 2 e1) ∧ W.cell? ⟨b0, o0 + 1, none⟩ = some (.string kRl) ∧ W.cell? ⟨b0, o0 + 3 + 1, none⟩ = some (.string kWl) ∧ W.cell? ⟨b1, o1, none⟩ = some (.string mSh) ∧ W.cell? ⟨b1, o1 + 1, none⟩ = some (.string mEx) ∧ W.cell? ⟨B, 2, none⟩ = some (.int .i64 (s.f : Int)) ∧ W.cell? ⟨B, 3, none⟩ = some (.int .i64 s.w)) (go_keep) (first
           | (go_at_call 53; refine Calls.mono (lockFor_f _) ?_; rintro e w' ⟨rfl, rfl⟩)
           | (go_at_call 52; refine Calls.mono (lockAct_f _ (b0 := b0) (o0 := o0) (c0 := e0) (b1 := b1) (o1 := o1) (c1 := e1) ?_ ?_ ?_ ?_ ?_ ?_) ?_; (simp [*]); (simp [*]); (simp [*]); (simp [*]); (simp [*]); (simp [*]); rintro e w' ⟨rfl, qq, rfl⟩))
       all_goals go_wp2_with fail
       all_goals go_meet
       all_goals (rw [HGB.out, if_neg HWF.out]; exact N3.out.same rfl rfl rfl rfl)
   · rw [decide_eq_false hfa]
     rw [if_neg (by omega)] at HGB
     go_wp2_with fail
     go_meet
     rw [HGB.out]
     exact N2.out
  case rest =>
    have N3 := hid hcut
    clear hcut N2 d2 d3 f0 f1 l1' l2' l7' l8' l9' l10' hz
    have d2 := N3.out.d2
    have d3 := N3.out.d3
    have HBO := hid (show gbOne at_ bf s = if (s.f : Int) < s.w ∧ s.w < (at_ : Int) then updL (gb1 at_ bf s) s.w.toNat kWl else gb1 at_ bf s from rfl)
    obtain ⟨bf1, hbf1⟩ : ∃ bf1, gb1 at_ bf s = bf1 := ⟨_, rfl⟩
    rw [hbf1] at N3 HBO
    clear hbf1
    go_upto_region 20 with fail
    go_cut [120] from 92 to 134 (fun t wd => t = .bool (decide ((s.f : Int) < s.w ∧ s.w < (at_ : Int))) ∧ LgE w2 wd n bf1 af v2 Pt B s)
    case first =>
      by_cases hfw : (s.f : Int) < s.w
      · by_cases hwa2 : s.w < (at_ : Int)
        · go_wp2_with fail
          go_meet
          exact ⟨by rw [decide_eq_true ⟨hfw, hwa2⟩], N3.out⟩
        · go_wp2_with fail
          go_meet
          exact ⟨by rw [decide_eq_false (by omega)], N3.out⟩
      · go_wp2_with fail
        go_meet
        exact ⟨by rw [decide_eq_false (by omega)], N3.out⟩
    case rest =>
      obtain ⟨rfl, hc1⟩ := hcut
      have N4 := hid hc1
      clear hc1 N3 d2 d3
      go_upto_if 120 with fail
      go_cut [120] from 92 to 134 (fun _ wd => LgE w2 wd n (gbOne at_ bf s) af v2 Pt B s)
      case first =>
        by_cases hfw : (s.f : Int) < s.w ∧ s.w < (at_ : Int)
        · rw [decide_eq_true hfw]
          rw [if_pos hfw] at HBO
          obtain ⟨wn, hwn⟩ : ∃ wn : Nat, s.w = (wn : Int) := ⟨s.w.toNat, by omega⟩
          have hwl : wn < n := by omega
          have hz := N4.out.st.bel.size
          have l1' : wc.cell? ⟨0, 0, none⟩ = some (.slice (some ⟨b0, o0, none⟩) 2 e0) := (N4.out.st.bel.cell (p := ⟨0, 0, none⟩) l3).trans HLL.out.1
          have l2' : wc.cell? ⟨1, 0, none⟩ = some (.slice (some ⟨b1, o1, none⟩) 2 e1) := (N4.out.st.bel.cell (p := ⟨1, 0, none⟩) l4).trans HLL.out.2.1
          have l7' : wc.cell? ⟨b0, o0 + 1, none⟩ = some (.string kRl) := (N4.out.st.bel.cell (p := ⟨b0, o0 + 1, none⟩) l5).trans HLL.out.2.2.1
          have l8' : wc.cell? ⟨b0, o0 + 3 + 1, none⟩ = some (.string kWl) := (N4.out.st.bel.cell (p := ⟨b0, o0 + 3 + 1, none⟩) l5).trans HLL.out.2.2.2.1
          have l9' : wc.cell? ⟨b1, o1, none⟩ = some (.string mSh) := (N4.out.st.bel.cell (p := ⟨b1, o1, none⟩) l6).trans HLL.out.2.2.2.2.1
          have l10' : wc.cell? ⟨b1, o1 + 1, none⟩ = some (.string mEx) := (N4.out.st.bel.cell (p := ⟨b1, o1 + 1, none⟩) l6).trans HLL.out.2.2.2.2.2
          have d3 := N4.out.d3
          rw [hwn] at d3 HBO
          rw [Int.toNat_natCast] at HBO
          have f0 := N4.out.st.be.cell (j := wn) hwl
          have f1 := N4.out.st.be.free wn
          have hwi : (wn : Int) < (n : Int) := by omega
          have hw0 : (0 : Int) ≤ (wn : Int) := by omega
          have N5 := hid (N4.out.setB (j := wn) hwl kWl)
          have HWN := hid hwn
          have HFW := hid hfw
          clear hwn hfw hw hw1
          go_upto_region 21 with fail
          go_region_held3 (fun W => W.cell? ⟨0, 0, none⟩ = some (.slice (some ⟨b0, o0, none⟩) 2 e0) ∧ W.cell? ⟨1, 0, none⟩ = some (.slice (some ⟨b1, o1, none⟩) 2 e1) ∧ W.cell? ⟨b0, o0 + 1, none⟩ = some (.string kRl) ∧ W.cell? ⟨b0, o0 + 3 + 1, none⟩ = some (.string kWl) ∧ W.cell? ⟨b1, o1, none⟩ = some (.string mSh) ∧ W.cell? ⟨b1, o1 + 1, none⟩ = some (.string mEx) ∧ W.cell? ⟨B, 3, none⟩ = some (.int .i64 (wn : Int))) (go_keep) (first
            | (go_at_call 52; refine Calls.mono (lockAct_t _ (b0 := b0) (o0 := o0) (c0 := e0) (b1 := b1) (o1 := o1) (c1 := e1) ?_ ?_ ?_ ?_ ?_ ?_) ?_; (simp [*]); (simp [*]); (simp [*]); (simp [*]); (simp [*]); (simp [*]); rintro e w' ⟨rfl, qq, rfl⟩))
          all_goals go_wp2_with fail
          all_goals go_meet
          all_goals (rw [HBO.out]; exact N5.out.same rfl rfl rfl rfl)
        · rw [decide_eq_false hfw]
          rw [if_neg hfw] at HBO
          go_wp2_with fail
          go_meet
          rw [HBO.out]; exact N4.out
      case rest =>
        have N5 := hid hcut
        clear hcut N4
        have d4 := N5.out.d4
        have f0 := N5.out.st.aft.cell (j := s.la) (by omega)
        have f1 := N5.out.st.aft.free s.la
        have hli : (s.la : Int) < (n : Int) := by omega
        have hl0 : (0 : Int) ≤ (s.la : Int) := by omega
        have HH := HQ.out
        rw [show ((q + 1 : Nat) : Int) = (q : Int) + 1 from by omega] at HH
        have HQ2 := hid HH
        clear HH HQ
        by_cases hla2 : (at_ : Int) ≤ (s.la : Int)
        · have hla4 : (s.la : Int) ≥ (at_ : Int) := by omega
          have hla3 : at_ ≤ s.la := by omega
          have N6 := hid (N5.out.st.setA (j := s.la) (by omega) true)
          go_wp2_with fail
          have HH := HQ2.out
          refine HH _ _ _ _ _ _ _ _ _ _ _ _ _ _ _ _ _ _ _ _ _ _ _ _ _ _ _ _ _ _ _ _ _ _ _ _ _ _ _ _ _ _ _ _ _ ?_
          unfold gaOne
          rw [decide_eq_true hla3]
          exact N6.out
        · have hla4 : ¬ (s.la : Int) ≥ (at_ : Int) := by omega
          have hla3 : ¬ at_ ≤ s.la := by omega
          have N6 := hid (N5.out.st.setA (j := s.la) (by omega) false)
          go_wp2_with fail
          have HH := HQ2.out
          refine HH _ _ _ _ _ _ _ _ _ _ _ _ _ _ _ _ _ _ _ _ _ _ _ _ _ _ _ _ _ _ _ _ _ _ _ _ _ _ _ _ _ _ _ _ _ ?_
          unfold gaOne
          rw [decide_eq_false hla3]
          exact N6.out

end Go.Proofs.YbulkbgasDoor
