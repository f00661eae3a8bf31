import Derived.Test.YbulkbgasDoorTa5
namespace Go.Proofs.YbulkbgasDoor
open Go.RowKit Go.Maps
set_option linter.unusedVariables false
attribute [local go_sem ↓] Go.wp_at_zero Go.wp_at_succ

set_option maxRecDepth 1000000 in
set_option maxHeartbeats 4000000 in
theorem ta_end (n : Nat) (w0 wr : World) (s : Tar) (vC vP : Value) (pre seg : List Nat) (v : Nat) (hn : n ≤ 1000) (hlen : s.comp.length ≤ 1000) (HS : Hid (TaS n w0 wr s vC vP)) (HC : Hid (s.comp = pre ++ v :: seg)) (HND : Hid (s.comp.Nodup)) (HLT : Hid (∀ x ∈ s.comp, x < n))
    (Q : Exit → Act → World → Prop) (c0 c1 c2 c3 c9 c10 c11 c12 c13 c15 c16 c17 c18 c19 c20 c21 c22 c23 c24 c25 c26 c27 c28 c29 c30 c31 c32 c33 c34 c35 c36 c37 c38 c39 c40 c41 c42 c43 c44 c45 c46 c47 c48 c49 c50 c51 c52 c53 c54 c55 c56 c57 c58 c59 c60 c61 c62 c63 c64 c65 c66 c67 c68 c69 c70 c71 c72 c73 c74 c75 c76 c77 c78 c79 c80 c81 c82 c83 c84 c85 c86 c87 c88 c89 c90 c91 c92 c93 c94 c95 c96 c97 c98 c99 c100 c101 c102 c103 c104 c105 c106 c107 c108 c109 c110 c111 c112 c113 c114 c115 c116 c117 c118 c119 c120 c121 c122 c123 c124 c125 c126 c127 c128 c129 c130 c131 c132 c133 c134 c135 c136 c137 c138 c139 c140 c141 c142 c143 c144 c145 c146 c147 c148 c149 c150 c151 c152 c153 c154 c155 c156 c157 c158 c159 c160 c161 c162 c163 c164 c165 c166 c167 c168 c169 c170 c171 c172 c173 c174 c175 c176 c177 : Value)
    (hq : ∀ (u17 u19 u133 u134 u135 u136 u137 u138 u139 u140 u141 u142 u143 u144 u145 u146 u147 u148 u149 u150 u151 u152 u153 u154 u155 u156 u157 u158 u159 u160 u161 u162 u163 u164 u165 u166 u167 u168 u169 u170 u171 u172 u173 u174 u175 : Value) (wi : World), ((s.low v = s.ord v → ∃ vC2, TaS n w0 wi { s with comp := pre, on := fun x => if x = v ∨ x ∈ seg then decide (seg ≠ []) else s.on x } vC2 vP) ∧ (s.low v ≠ s.ord v → TaS n w0 wi s vC vP)) → Q .normal ⟨#[c0, c1, c2, c3, .slice (some ⟨w0.heap.size, 0, none⟩) n n, .pointer (some ⟨w0.heap.size + 2, 0, none⟩), .pointer (some ⟨w0.heap.size + 4, 0, none⟩), .pointer (some ⟨w0.heap.size + 5, 0, none⟩), .pointer (some ⟨w0.heap.size + 7, 0, none⟩), c9, c10, c11, c12, c13, .int .i64 (v : Int), c15, c16, u17, c18, u19, c20, c21, c22, c23, c24, c25, c26, c27, c28, c29, c30, c31, c32, c33, c34, c35, c36, c37, c38, c39, c40, c41, c42, c43, c44, c45, c46, c47, c48, c49, c50, c51, c52, c53, c54, c55, c56, c57, c58, c59, c60, c61, c62, c63, c64, c65, c66, c67, c68, c69, c70, c71, c72, c73, c74, c75, c76, c77, c78, c79, c80, c81, c82, c83, c84, c85, c86, c87, c88, c89, c90, c91, c92, c93, c94, c95, c96, c97, c98, c99, c100, c101, c102, c103, c104, c105, c106, c107, c108, c109, c110, c111, c112, c113, c114, c115, c116, c117, c118, c119, c120, c121, c122, c123, c124, c125, c126, c127, c128, c129, c130, c131, c132, u133, u134, u135, u136, u137, u138, u139, u140, u141, u142, u143, u144, u145, u146, u147, u148, u149, u150, u151, u152, u153, u154, u155, u156, u157, u158, u159, u160, u161, u162, u163, u164, u165, u166, u167, u168, u169, u170, u171, u172, u173, u174, u175, c176, c177], []⟩ wi) :
    Code.wp Ybad.prog (tail43 29) Q ⟨#[c0, c1, c2, c3, .slice (some ⟨w0.heap.size, 0, none⟩) n n, .pointer (some ⟨w0.heap.size + 2, 0, none⟩), .pointer (some ⟨w0.heap.size + 4, 0, none⟩), .pointer (some ⟨w0.heap.size + 5, 0, none⟩), .pointer (some ⟨w0.heap.size + 7, 0, none⟩), c9, c10, c11, c12, c13, .int .i64 (v : Int), c15, c16, c17, c18, c19, c20, c21, c22, c23, c24, c25, c26, c27, c28, c29, c30, c31, c32, c33, c34, c35, c36, c37, c38, c39, c40, c41, c42, c43, c44, c45, c46, c47, c48, c49, c50, c51, c52, c53, c54, c55, c56, c57, c58, c59, c60, c61, c62, c63, c64, c65, c66, c67, c68, c69, c70, c71, c72, c73, c74, c75, c76, c77, c78, c79, c80, c81, c82, c83, c84, c85, c86, c87, c88, c89, c90, c91, c92, c93, c94, c95, c96, c97, c98, c99, c100, c101, c102, c103, c104, c105, c106, c107, c108, c109, c110, c111, c112, c113, c114, c115, c116, c117, c118, c119, c120, c121, c122, c123, c124, c125, c126, c127, c128, c129, c130, c131, c132, c133, c134, c135, c136, c137, c138, c139, c140, c141, c142, c143, c144, c145, c146, c147, c148, c149, c150, c151, c152, c153, c154, c155, c156, c157, c158, c159, c160, c161, c162, c163, c164, c165, c166, c167, c168, c169, c170, c171, c172, c173, c174, c175, c176, c177], []⟩ wr := by
  refine Code.wp_mono NoPanic.imp ?_
  have HQ := hid hq
  clear hq
  conv => arg 2; whnf
  have hvn : v < n := HLT.out v (by rw [HC.out]; simp)
  have hvi : (v : Int) < (n : Int) := by omega
  have hv0 : (0 : Int) ≤ (v : Int) := by omega
  have d4 : wr.cell? ⟨w0.heap.size + 4, 0, none⟩ = some (.slice (some ⟨w0.heap.size + 3, 0, none⟩) n n) := HS.out.cell (k := 4) (by omega) Nat.zero_lt_one
  have d3 : wr.cell? ⟨w0.heap.size + 3, v, none⟩ = some (.int .i64 (s.low v : Int)) := HS.out.cell (k := 3) (j := v) (by omega) hvn
  have d2 : wr.cell? ⟨w0.heap.size + 2, 0, none⟩ = some (.slice (some ⟨w0.heap.size + 1, 0, none⟩) n n) := HS.out.cell (k := 2) (by omega) Nat.zero_lt_one
  have d1 : wr.cell? ⟨w0.heap.size + 1, v, none⟩ = some (.int .i64 (s.ord v : Int)) := HS.out.cell (k := 1) (j := v) (by omega) hvn
  obtain ⟨lv, hlv⟩ : ∃ lv, s.low v = lv := ⟨_, rfl⟩
  obtain ⟨ov, hov⟩ : ∃ ov, s.ord v = ov := ⟨_, rfl⟩
  rw [hlv] at d3 HQ
  rw [hov] at d1 HQ
  clear hlv hov
  dsimp only
  by_cases heq : lv = ov
  · have hb : ((lv : Int) == (ov : Int)) = true := by simp [heq]
    go_upto_region 29 with fail
    go_cut [141] from 133 to 141 (fun v141 wd => v141 = .bool true ∧ TaS n w0 wd s vC vP)
    case first =>
      go_quiet (fail)
      go_wp2_with fail
      go_meet
      exact ⟨rfl, HS.out.drewN _⟩
    case rest =>
      obtain ⟨rfl, hS⟩ := hcut
      clear HS d1 d2 d3 d4
      have HS := hid hS
      clear hS
      go_upto_if 141 with fail
      refine wp_cond_true rfl ?_
      refine ta_close n w0 _ s vC vP pre seg v hn hlen HS HC HND HLT _ _ _ _ _ _ _ _ _ _ _ _ _ _ _ _ _ _ _ _ _ _ _ _ _ _ _ _ _ _ _ _ _ _ _ _ _ _ _ _ _ _ _ _ _ _ _ _ _ _ _ _ _ _ _ _ _ _ _ _ _ _ _ _ _ _ _ _ _ _ _ _ _ _ _ _ _ _ _ _ _ _ _ _ _ _ _ _ _ _ _ _ _ _ _ _ _ _ _ _ _ _ _ _ _ _ _ _ _ _ _ _ _ _ _ _ _ _ _ _ _ _ _ _ _ _ _ _ _ _ _ _ _ _ _ _ _ _ _ _ _ _ _ _ _ _ _ _ _ _ _ _ _ _ _ _ _ _ _ _ _ _ _ _ _ _ _ _ _ _ _ _ _ _ _ ?_
      intro u17 u19 u142 u143 u144 u145 u146 u147 u148 u149 u150 u151 u152 u153 u154 u155 u156 u157 u158 u159 u160 u161 u162 u163 u164 u165 u166 u167 u168 u169 u170 u171 u172 u173 u174 u175 wi hst
      dsimp only [Exit.then]
      go_wp2_with fail
      exact HQ.out _ _ _ _ _ _ _ _ _ _ _ _ _ _ _ _ _ _ _ _ _ _ _ _ _ _ _ _ _ _ _ _ _ _ _ _ _ _ _ _ _ _ _ _ _ _ ⟨fun _ => hst, fun h => absurd heq h⟩
  · have hb : ((lv : Int) == (ov : Int)) = false := by simp; omega
    go_upto_region 29 with fail
    go_cut [141] from 133 to 141 (fun v141 wd => v141 = .bool false ∧ TaS n w0 wd s vC vP)
    case first =>
      go_quiet (fail)
      go_wp2_with fail
      go_meet
      exact ⟨rfl, HS.out.drewN _⟩
    case rest =>
      obtain ⟨rfl, hS⟩ := hcut
      clear HS d1 d2 d3 d4
      have HS := hid hS
      clear hS
      go_wp2_with fail
      exact HQ.out _ _ _ _ _ _ _ _ _ _ _ _ _ _ _ _ _ _ _ _ _ _ _ _ _ _ _ _ _ _ _ _ _ _ _ _ _ _ _ _ _ _ _ _ _ _ ⟨fun h => absurd h heq, fun _ => HS.out⟩

end Go.Proofs.YbulkbgasDoor
