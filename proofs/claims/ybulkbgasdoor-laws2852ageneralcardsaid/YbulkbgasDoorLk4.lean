import Derived.Test.YbulkbgasDoorLk3
namespace Go.Proofs.YbulkbgasDoor
open Go.RowKit Go.Maps
set_option linter.unusedVariables false
attribute [local go_sem ↓] Go.wp_at_zero Go.wp_at_succ

/-- The spans by transaction, as they stand. -/
def By (W : World) (Bt nT : Nat) (G : Nat → List Sp) : Prop := Bt < W.heap.size ∧ ∀ i, i < nT → ∃ a cap, W.cell? ⟨Bt, i, none⟩ = some (.slice a (G i).length cap) ∧ (G i).length ≤ 300 ∧ Els W 5 a (G i).length fun j => ((G i).getD j sp0).cells
theorem foldl_take_succ {α β : Type} (f : β → α → β) (l : List α) (d : α) {q : Nat} (h : q < l.length) (b : β) : (l.take (q + 1)).foldl f b = f ((l.take q).foldl f b) (l.getD q d) := by
  rw [List.take_succ_eq_append_getElem h, List.foldl_append]
  simp [List.getD_eq_getElem?_getD, List.getElem?_eq_getElem h]

set_option maxRecDepth 1000000 in
set_option maxHeartbeats 4000000 in
theorem lk_round2 (w2 wr : World) (n nT q bp bl Bt i : Nat) (L : Nat → Nat) (S : List Sp) (pl : List Nat) (bf : Nat → ByteArray) (v2 : Nat → Value) (Pt : Nat → List Nat) (hn : n ≤ 10000) (hnT : nT ≤ 1000) (hpl : pl.length ≤ 1000) (hq0 : q < pl.length) (hbp : bp < w2.heap.size) (hbl : bl < w2.heap.size) (hp1 : w2.cell? ⟨bp, q, none⟩ = some (.int .i64 (i : Int))) (hp2 : w2.cell? ⟨bl, i, none⟩ = some (.int .i64 (L i : Int))) (hi : i < nT) (hLi : L i ≤ n) (HS : Hid (∀ s ∈ byT S i, s.f < L i ∧ s.w < (L i : Int) ∧ s.la < L i)) (HBY : Hid (By w2 Bt nT (byT S))) (HLd : Hid (Laid w2)) (hPl : ∀ j, (Pt j).length ≤ 1000) (N1 : Hid (LkC w2 wr n bf v2 Pt))
    (Q : Exit → Act → World → Prop) (c0 c1 c2 c4 c5 c6 c7 c8 c9 c10 c12 c13 c17 c18 c19 c20 c21 c22 c23 c24 c25 c26 c27 c28 c29 c30 c31 c32 c33 c34 c35 c36 c37 c38 c39 c40 c41 c42 c43 c44 c45 c46 c47 c48 c49 c50 c51 c52 c53 c54 c55 c56 c57 c58 c59 c60 c61 c62 c63 c64 c65 c69 c70 c71 c72 c73 c74 c75 c76 c77 c78 c79 c80 c81 c82 c83 c84 c85 c86 c87 c88 c89 c90 c91 c92 c93 c94 c95 c96 c97 c98 c99 c100 c101 c102 c103 c104 c105 c106 c107 c108 c109 c110 c111 c112 c113 c114 c115 c116 c117 c118 c119 c120 c121 c122 c123 c124 c125 c126 c127 c128 c129 c130 c131 c132 c133 c134 c135 c136 c137 c138 c139 c140 c141 c142 c143 c144 c145 c146 c147 c148 c149 c150 c151 c152 c153 c154 c155 c156 c157 c158 c159 c160 c161 c162 c163 c164 c165 c166 c167 c168 c169 c170 c171 c172 c173 c174 c175 c176 c177 c178 c179 c180 c181 c182 c183 c184 c185 c186 c187 c188 c189 c190 c191 c192 c193 c194 c195 c196 c197 c198 c199 c200 c201 c202 c203 c204 c205 c206 c207 c208 c209 c210 c211 c212 c213 c214 c215 c216 c217 c218 c219 c220 c221 c222 c223 c224 c225 c226 c227 c228 c229 c230 c231 c232 c233 c234 c235 c236 c237 c238 c239 c240 c241 c242 c243 c244 c245 c246 c247 c248 c249 c250 c251 c252 c253 c254 c255 c256 c257 c258 c259 c260 c261 c262 c263 c264 c265 c266 c267 c268 c269 c270 c271 c272 c273 c274 c275 c276 c277 c278 c279 c280 c281 c282 c283 c284 c285 c286 c287 c288 c289 c290 c291 c292 c293 c294 c295 c296 c297 c298 c299 c300 c301 c302 c303 c304 c305 c306 c307 c308 c309 c310 : Value)
    (hq : ∀ (u18 u19 u21 u69 u70 u71 u72 u73 u74 u75 u76 u77 u78 u79 u80 u81 u82 u83 u84 u85 u86 u87 u88 u89 u90 u91 u92 u93 u94 u95 u96 u97 u98 u99 u100 u101 u102 u103 u104 u105 u106 u107 u108 u109 u110 u111 u112 u113 u114 u115 u116 u117 u118 u119 u120 u121 u122 u123 u124 u125 u126 u127 u128 u129 u130 u131 u132 u133 u134 u135 : Value) (wi : World), (∃ v3, LkC w2 wi n (bfIn S bf i) v3 (ptIn L Pt i)) → Q .normal ⟨#[c0, c1, c2, .slice (some ⟨bl, 0, none⟩) nT nT, c4, c5, c6, c7, c8, c9, c10, .slice (some ⟨Bt, 0, none⟩) nT nT, c12, c13, .slice (some ⟨w2.heap.size, 0, none⟩) n n, .slice (some ⟨w2.heap.size + 1, 0, none⟩) n n, .slice (some ⟨w2.heap.size + 2, 0, none⟩) (n + 1) (n + 1), c17, u18, u19, c20, u21, c22, c23, c24, c25, c26, c27, c28, c29, c30, c31, c32, c33, c34, c35, c36, c37, c38, c39, c40, c41, c42, c43, c44, c45, c46, c47, c48, c49, c50, c51, c52, c53, c54, c55, c56, c57, c58, c59, c60, c61, c62, c63, c64, c65, .slice (some ⟨bp, 0, none⟩) pl.length pl.length, .int .i64 (pl.length : Int), .int .i64 ((q + 1 : Nat) : Int), u69, u70, u71, u72, u73, u74, u75, u76, u77, u78, u79, u80, u81, u82, u83, u84, u85, u86, u87, u88, u89, u90, u91, u92, u93, u94, u95, u96, u97, u98, u99, u100, u101, u102, u103, u104, u105, u106, u107, u108, u109, u110, u111, u112, u113, u114, u115, u116, u117, u118, u119, u120, u121, u122, u123, u124, u125, u126, u127, u128, u129, u130, u131, u132, u133, u134, u135, c136, c137, c138, c139, c140, c141, c142, c143, c144, c145, c146, c147, c148, c149, c150, c151, c152, c153, c154, c155, c156, c157, c158, c159, c160, c161, c162, c163, c164, c165, c166, c167, c168, c169, c170, c171, c172, c173, c174, c175, c176, c177, c178, c179, c180, c181, c182, c183, c184, c185, c186, c187, c188, c189, c190, c191, c192, c193, c194, c195, c196, c197, c198, c199, c200, c201, c202, c203, c204, c205, c206, c207, c208, c209, c210, c211, c212, c213, c214, c215, c216, c217, c218, c219, c220, c221, c222, c223, c224, c225, c226, c227, c228, c229, c230, c231, c232, c233, c234, c235, c236, c237, c238, c239, c240, c241, c242, c243, c244, c245, c246, c247, c248, c249, c250, c251, c252, c253, c254, c255, c256, c257, c258, c259, c260, c261, c262, c263, c264, c265, c266, c267, c268, c269, c270, c271, c272, c273, c274, c275, c276, c277, c278, c279, c280, c281, c282, c283, c284, c285, c286, c287, c288, c289, c290, c291, c292, c293, c294, c295, c296, c297, c298, c299, c300, c301, c302, c303, c304, c305, c306, c307, c308, c309, c310], []⟩ wi) :
    Code.wp Ybad.prog (lp32 1) Q ⟨#[c0, c1, c2, .slice (some ⟨bl, 0, none⟩) nT nT, c4, c5, c6, c7, c8, c9, c10, .slice (some ⟨Bt, 0, none⟩) nT nT, c12, c13, .slice (some ⟨w2.heap.size, 0, none⟩) n n, .slice (some ⟨w2.heap.size + 1, 0, none⟩) n n, .slice (some ⟨w2.heap.size + 2, 0, none⟩) (n + 1) (n + 1), c17, c18, c19, c20, c21, c22, c23, c24, c25, c26, c27, c28, c29, c30, c31, c32, c33, c34, c35, c36, c37, c38, c39, c40, c41, c42, c43, c44, c45, c46, c47, c48, c49, c50, c51, c52, c53, c54, c55, c56, c57, c58, c59, c60, c61, c62, c63, c64, c65, .slice (some ⟨bp, 0, none⟩) pl.length pl.length, .int .i64 (pl.length : Int), .int .i64 (q : Int), c69, c70, c71, c72, c73, c74, c75, c76, c77, c78, c79, c80, c81, c82, c83, c84, c85, c86, c87, c88, c89, c90, c91, c92, c93, c94, c95, c96, c97, c98, c99, c100, c101, c102, c103, c104, c105, c106, c107, c108, c109, c110, c111, c112, c113, c114, c115, c116, c117, c118, c119, c120, c121, c122, c123, c124, c125, c126, c127, c128, c129, c130, c131, c132, c133, c134, c135, c136, c137, c138, c139, c140, c141, c142, c143, c144, c145, c146, c147, c148, c149, c150, c151, c152, c153, c154, c155, c156, c157, c158, c159, c160, c161, c162, c163, c164, c165, c166, c167, c168, c169, c170, c171, c172, c173, c174, c175, c176, c177, c178, c179, c180, c181, c182, c183, c184, c185, c186, c187, c188, c189, c190, c191, c192, c193, c194, c195, c196, c197, c198, c199, c200, c201, c202, c203, c204, c205, c206, c207, c208, c209, c210, c211, c212, c213, c214, c215, c216, c217, c218, c219, c220, c221, c222, c223, c224, c225, c226, c227, c228, c229, c230, c231, c232, c233, c234, c235, c236, c237, c238, c239, c240, c241, c242, c243, c244, c245, c246, c247, c248, c249, c250, c251, c252, c253, c254, c255, c256, c257, c258, c259, c260, c261, c262, c263, c264, c265, c266, c267, c268, c269, c270, c271, c272, c273, c274, c275, c276, c277, c278, c279, c280, c281, c282, c283, c284, c285, c286, c287, c288, c289, c290, c291, c292, c293, c294, c295, c296, c297, c298, c299, c300, c301, c302, c303, c304, c305, c306, c307, c308, c309, c310], []⟩ wr := by
  refine Code.wp_mono NoPanic.imp ?_
  have HQ := hid hq
  clear hq
  conv => arg 2; whnf
  have hqi : (q : Int) < (pl.length : Int) := by omega
  have c0 : wr.cell? ⟨bp, q, none⟩ = some (.int .i64 (i : Int)) := (N1.out.bel.cell (p := ⟨bp, q, none⟩) hbp).trans hp1
  have c1 : wr.cell? ⟨bl, i, none⟩ = some (.int .i64 (L i : Int)) := (N1.out.bel.cell (p := ⟨bl, i, none⟩) hbl).trans hp2
  have hii : (i : Int) < (nT : Int) := by omega
  have hi0 : (0 : Int) ≤ (i : Int) := by omega
  obtain ⟨lt, hlt⟩ : ∃ lt, L i = lt := ⟨_, rfl⟩
  rw [hlt] at c1 HS hLi
  have HLT := hid hlt
  clear hlt hp1 hp2
  have hli : (lt : Int) < (n : Int) + 1 := by omega
  have hl0 : (0 : Int) ≤ (lt : Int) := by omega
  have c2 := N1.out.po.cell (j := lt) (by omega)
  have hsz := N1.out.lt
  obtain ⟨hBt, hby⟩ := HBY.out
  obtain ⟨ag, capg, e1, e2, e3⟩ := hby i hi
  have HE := hid e3
  have HE1 := hid e1
  have hptl := hPl lt
  clear hby e3 e1
  go_wp2_with (first
    | ((with_reducible refine apK Ybad.E54 (t := 81) (u := 83) (w2.heap.size + 3) (v2 lt) (Pt lt).length (rowI (Pt lt)) [.int .i64 (i : Int)] wr.heap.size ?_ ?_ ?_ ?_ ?_ ?_ ?_ ?_ ?_); (exact rfl); (exact rfl); (exact (N1.out.fam.own lt (by omega)).alloc _); (exact heap_alloc_new _ _); (exact rfl); (intro x hx; simp at hx; subst hx; rfl); omega; (simp; omega); (intro g1 cap1 wE hownE hgE hatE _); (obtain ⟨k1, k2, H9⟩ := (N1.out.alloc _).app (i := lt) (by omega) hownE hgE (by simpa using hatE)); (have k3 := (H9.out.bel.cell (p := ⟨Bt, i, none⟩) hBt).trans HE1.out); clear hownE hgE hatE))
  obtain ⟨wB, hwB⟩ : ∃ wB, wB = wE.setCell ⟨w2.heap.size + 2, lt, none⟩ (.slice (some ⟨g1, 0, none⟩) ((Pt lt).length + 1) cap1) := ⟨_, rfl⟩
  rw [← hwB] at H9 ⊢
  obtain ⟨v3, hv3⟩ : ∃ v3, v3 = updL v2 lt (.slice (some ⟨g1, 0, none⟩) ((Pt lt).length + 1) cap1) := ⟨_, rfl⟩
  rw [← hv3] at H9
  have N2 := hid H9.out
  clear hwB hv3 H9 k1 k2 k3 c0 c1 c2 N1
  go_loopg [91] (byT S i).length (fun g0 iv wi => ∃ t : Nat, t ≤ (byT S i).length ∧ g0 = (byT S i).length - t ∧ iv = .int .i64 (t : Int) ∧ LkC w2 wi n (((byT S i).take t).foldl bfOne bf) v3 (updL Pt lt (Pt lt ++ [i])))
  case atStart => exact ⟨0, Nat.zero_le _, rfl, rfl, N2.out⟩
  case round =>
    obtain ⟨t, ht, rfl, rfl, hst⟩ := hrel
    have N3 := hid hst
    clear hst N2
    by_cases hlt3 : t < (byT S i).length
    · obtain ⟨hs1, hs2, hs3⟩ := HS.out ((byT S i).getD t sp0) (by rw [List.getD_eq_getElem?_getD, List.getElem?_eq_getElem hlt3]; exact List.getElem_mem _)
      refine lk_round3 w2 wr n lt t capg ag (byT S i) _ _ v3 _ hn e2 hlt3 HE rfl hs1 hs2 hs3 hLi HLd N3 _ _ _ _ _ _ _ _ _ _ _ _ _ _ _ _ _ _ _ _ _ _ _ _ _ _ _ _ _ _ _ _ _ _ _ _ _ _ _ _ _ _ _ _ _ _ _ _ _ _ _ _ _ _ _ _ _ _ _ _ _ _ _ _ _ _ _ _ _ _ _ _ _ _ _ _ _ _ _ _ _ _ _ _ _ _ _ _ _ _ _ _ _ _ _ _ _ _ _ _ _ _ _ _ _ _ _ _ _ _ _ _ _ _ _ _ _ _ _ _ _ _ _ _ _ _ _ _ _ _ _ _ _ _ _ _ _ _ _ _ _ _ _ _ _ _ _ _ _ _ _ _ _ _ _ _ _ _ _ _ _ _ _ _ _ _ _ _ _ _ _ _ _ _ _ _ _ _ _ _ _ _ _ _ _ _ _ _ _ _ _ _ _ _ _ _ _ _ _ _ _ _ _ _ _ _ _ _ _ _ _ _ _ _ _ _ _ _ _ _ _ _ _ _ _ _ _ _ _ _ _ _ _ _ _ _ _ _ _ _ _ _ _ _ _ _ _ _ _ _ _ _ _ _ _ _ _ _ _ _ _ _ _ _ _ _ _ _ _ _ _ _ _ _ _ _ _ _ _ _ _ _ _ _ _ _ _ _ _ _ _ _ _ _ _ _ _ _ _ _ _ _ _ _ _ _ ?_
      intro u21 u92 u93 u94 u95 u96 u97 u98 u99 u100 u101 u102 u103 u104 u105 u106 u107 u108 u109 u110 u111 u112 u113 u114 u115 u116 u117 u118 u119 u120 u121 u122 u123 u124 u125 u126 u127 u128 u129 u130 u131 u132 u133 u134 wi hst
      dsimp only [Exit.then]
      go_wp2_with fail
      go_roundg ((byT S i).length - (t + 1))
      case measure => omega
      case rel => exact ⟨t + 1, by omega, rfl, rfl, by rw [foldl_take_succ bfOne _ sp0 hlt3]; exact hst⟩
    · obtain rfl : t = (byT S i).length := by omega
      rw [List.take_length] at N3
      go_wp2_with fail
      have HH := HQ.out
      rw [show ((q + 1 : Nat) : Int) = (q : Int) + 1 from by omega] at HH
      refine HH _ _ _ _ _ _ _ _ _ _ _ _ _ _ _ _ _ _ _ _ _ _ _ _ _ _ _ _ _ _ _ _ _ _ _ _ _ _ _ _ _ _ _ _ _ _ _ _ _ _ _ _ _ _ _ _ _ _ _ _ _ _ _ _ _ _ _ _ _ _ _ ⟨v3, ?_⟩
      unfold bfIn ptIn
      rw [HLT.out]
      exact N3.out

end Go.Proofs.YbulkbgasDoor
