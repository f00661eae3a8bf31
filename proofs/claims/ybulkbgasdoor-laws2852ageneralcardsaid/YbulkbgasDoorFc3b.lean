import Derived.Test.YbulkbgasDoorFc3a
namespace Go.Proofs.YbulkbgasDoor
open Go.RowKit Go.Maps
set_option linter.unusedVariables false
attribute [local go_sem ↓] Go.wp_at_zero Go.wp_at_succ

set_option maxRecDepth 1000000 in
set_option maxHeartbeats 4000000 in
theorem fc_post (w wr : World) (Bc k m nA q p B own : Nat) (S : List Sp) (c : Acc) (s2 : Fc) (v' : Nat → Value) (bx : Array Value)
    (hA : nA ≤ 300) (hS : S.length ≤ 300) (hqA : q < nA) (hm : m ≤ 1000) (hsm : c.x < k ∧ c.i < m) (hownS : own < S.length) (hpl : p < nA) (HOK3 : Hid (FcOk S.length nA q s2))
    (N3 : Hid (FcC w wr bx k S.length m v' s2 B c))
    (Q : Exit → Act → World → Prop) (c1 c2 c3 c4 c5 c6 c7 c8 c10 c11 c12 c17 c18 c19 c20 c21 c22 c23 c24 c25 c26 c27 c28 c29 c30 c31 c32 c33 c34 c35 c36 c37 c38 c39 c40 c41 c42 c43 c44 c45 c46 c47 c48 c49 c50 c51 c52 c53 c54 c55 c56 c57 c58 c59 c60 c61 c62 c63 c64 c65 c66 c67 c68 c69 c70 c71 c72 c73 c74 c75 c76 c77 c78 c79 c80 c81 c82 c83 c84 c85 c86 c87 c88 c89 c90 c91 c92 c93 c94 c95 c96 c97 c98 c99 c100 c101 c102 c103 c104 c105 c106 c107 c108 c109 c110 c111 c112 c113 c114 c115 c116 c117 c118 c119 c120 c121 c122 c123 c124 c125 c126 c127 c128 c129 c130 c131 c132 c133 c134 c135 c136 c137 c138 c139 c140 c141 c142 c143 c144 c145 c146 c147 c148 c149 c150 c151 c152 c153 c154 c155 c156 c157 c158 c159 c160 c161 c162 c163 c164 c165 c166 c167 c168 c169 c170 c171 c172 c173 c174 c175 c176 c177 c178 c179 c180 c181 c182 c183 c184 c185 c186 c187 c188 c189 c190 c191 c192 c193 c194 c195 c196 c197 c198 c199 c200 c201 c202 c203 c204 c205 c206 c207 c208 c209 c210 c211 c212 c213 c214 c215 c216 c217 c218 c219 c220 c221 c222 c223 c224 c225 c226 c227 c228 c229 c230 c231 c232 c233 : Value)
    (hq : ∀ (u24 u184 u185 u186 u187 u188 u189 u190 u191 u192 u193 u194 u195 u196 u197 u198 u199 u200 u201 u202 u203 u204 u205 u206 u207 u208 u209 u210 u211 u212 u213 u214 u215 u216 u217 u218 u219 u220 u221 u222 u223 u224 u225 u226 u227 u228 u229 u230 u231 : Value) (wi : World), (∃ v2 : Nat → Value, FcSt w wi bx k S.length m v2 (fcReg2 own c p (fcReg1 own c p s2))) → Q .normal ⟨#[.pointer (some ⟨Bc, 0, none⟩), c1, c2, c3, c4, c5, c6, c7, c8, .slice (some ⟨w.heap.size + 2, 0, none⟩) S.length S.length, c10, c11, c12, .int .i64 (p : Int), .pointer (some ⟨B, 0, none⟩), .int .i64 (own : Int), .pointer (some ⟨w.heap.size + 3, c.i * 2, none⟩), c17, c18, c19, c20, c21, c22, c23, u24, c25, c26, c27, c28, c29, c30, c31, c32, c33, c34, c35, c36, c37, c38, c39, c40, c41, c42, c43, c44, c45, c46, c47, c48, c49, c50, c51, c52, c53, c54, c55, c56, c57, c58, c59, c60, c61, c62, c63, c64, c65, c66, c67, c68, c69, c70, c71, c72, c73, c74, c75, c76, c77, c78, c79, c80, c81, c82, c83, c84, c85, c86, c87, c88, c89, c90, c91, c92, c93, c94, c95, c96, c97, c98, c99, c100, c101, c102, c103, c104, c105, c106, c107, c108, c109, c110, c111, c112, c113, c114, c115, c116, c117, c118, c119, c120, c121, c122, c123, c124, c125, c126, c127, c128, c129, c130, c131, c132, c133, c134, c135, c136, c137, c138, c139, c140, c141, c142, c143, c144, c145, c146, c147, c148, c149, c150, c151, c152, c153, c154, c155, c156, c157, c158, c159, c160, c161, c162, c163, c164, c165, c166, c167, c168, c169, c170, c171, c172, c173, c174, c175, c176, c177, c178, c179, c180, c181, c182, c183, u184, u185, u186, u187, u188, u189, u190, u191, u192, u193, u194, u195, u196, u197, u198, u199, u200, u201, u202, u203, u204, u205, u206, u207, u208, u209, u210, u211, u212, u213, u214, u215, u216, u217, u218, u219, u220, u221, u222, u223, u224, u225, u226, u227, u228, u229, u230, u231, c232, c233], []⟩ wi) :
    Code.wp Ybad.prog post23 Q ⟨#[.pointer (some ⟨Bc, 0, none⟩), c1, c2, c3, c4, c5, c6, c7, c8, .slice (some ⟨w.heap.size + 2, 0, none⟩) S.length S.length, c10, c11, c12, .int .i64 (p : Int), .pointer (some ⟨B, 0, none⟩), .int .i64 (own : Int), .pointer (some ⟨w.heap.size + 3, c.i * 2, none⟩), c17, c18, c19, c20, c21, c22, c23, c24, c25, c26, c27, c28, c29, c30, c31, c32, c33, c34, c35, c36, c37, c38, c39, c40, c41, c42, c43, c44, c45, c46, c47, c48, c49, c50, c51, c52, c53, c54, c55, c56, c57, c58, c59, c60, c61, c62, c63, c64, c65, c66, c67, c68, c69, c70, c71, c72, c73, c74, c75, c76, c77, c78, c79, c80, c81, c82, c83, c84, c85, c86, c87, c88, c89, c90, c91, c92, c93, c94, c95, c96, c97, c98, c99, c100, c101, c102, c103, c104, c105, c106, c107, c108, c109, c110, c111, c112, c113, c114, c115, c116, c117, c118, c119, c120, c121, c122, c123, c124, c125, c126, c127, c128, c129, c130, c131, c132, c133, c134, c135, c136, c137, c138, c139, c140, c141, c142, c143, c144, c145, c146, c147, c148, c149, c150, c151, c152, c153, c154, c155, c156, c157, c158, c159, c160, c161, c162, c163, c164, c165, c166, c167, c168, c169, c170, c171, c172, c173, c174, c175, c176, c177, c178, c179, c180, c181, c182, c183, c184, c185, c186, c187, c188, c189, c190, c191, c192, c193, c194, c195, c196, c197, c198, c199, c200, c201, c202, c203, c204, c205, c206, c207, c208, c209, c210, c211, c212, c213, c214, c215, c216, c217, c218, c219, c220, c221, c222, c223, c224, c225, c226, c227, c228, c229, c230, c231, c232, c233], []⟩ wr := by
  refine Code.wp_mono NoPanic.imp ?_
  have HQ := hid hq
  clear hq
  conv => arg 2; whnf
  have HOK4 := hid (fcReg1_ok (c := c) (own := own) (q := p) HOK3.out hownS hpl)
  have u0 := N3.out.st.wa.cell (j := own * 2) (by omega)
  have f0 := N3.out.st.wa.free (own * 2)
  try dsimp only at u0
  have hoi : (own : Int) < (S.length : Int) := by omega
  have ho0 : (0 : Int) ≤ (own : Int) := by omega
  go_upto_if 191 with fail
  go_cut [191] from 184 to 231 (fun _ wd => ∃ v'', FcC w wd bx k S.length m v'' (fcReg1 own c p s2) B c)
  case first =>
    have HR := hid (show fcReg1 own c p s2 = if s2.U (own * 2) < 0 then ⟨s2.F, updL s2.U (own * 2) (p : Int), if c.w = true then s2.L else updL s2.L (c.i * 2) (s2.L (c.i * 2) ++ [own])⟩ else s2 from rfl)
    by_cases hu : s2.U (own * 2) < 0
    · rw [if_pos hu] at HR
      have N4 := hid (N3.out.setU (j := own * 2) (by omega) (p : Int))
      have e3 := N4.out.cp.c3
      go_upto_region 46 with fail
      obtain ⟨wq, hwq⟩ : ∃ wq, wq = wr.setCell ⟨w.heap.size + 2, own * 2, none⟩ (.int .i64 (p : Int)) := ⟨_, rfl⟩
      rw [← hwq] at N4 e3 ⊢
      clear hwq u0 f0 N3
      cases hcw : c.w with
      | true =>
        rw [hcw] at e3
        rw [if_pos hcw] at HR
        go_wp2_with fail
        go_meet
        exact ⟨v', by rw [HR.out]; exact N4.out⟩
      | false =>
        rw [hcw] at e3
        rw [if_neg (by simp [hcw])] at HR
        have hl1 : (s2.L (c.i * 2)).length ≤ 100000 := by have := HOK3.out.len (c.i * 2); omega
        have hz := N4.out.ge
        have hz2 := N4.out.cp.lt
        have e5 := N4.out.li (i := c.i * 2) (by omega)
        have a2 : ∀ o, (wq.alloc o).cell? ⟨w.heap.size + 3, c.i * 2, none⟩ = some (v' (c.i * 2)) := fun o => (N4.out.alloc o).li (i := c.i * 2) (by omega)
        go_upto_region 47 with fail
        go_region_law ((refine apD (by rfl) _ _ (by rfl) (w.heap.size + 4) (v' (c.i * 2)) (s2.L (c.i * 2)) (own : Int) wq.heap.size (wq.heap.size + 1) (by rfl) (by rfl) (((N4.out.alloc _).drew).st.fam.own (c.i * 2) (by omega)) (heap_alloc_new wq _) hl1 (by simp; omega) (by simp) ?_; intro g1 cap1 w1 hown1 hgrow hat hlt1; obtain ⟨k1, k3, H9⟩ := ((N4.out.alloc _).drew).app (i := c.i * 2) (by omega) hown1 hgrow (by simpa using hat); clear hown1 hgrow hat))
        all_goals (go_wp2; go_meet; exact ⟨_, by rw [HR.out]; exact H9.out⟩)
    · rw [if_neg hu] at HR
      go_wp2_with fail
      go_meet
      exact ⟨v', by rw [HR.out]; exact N3.out⟩
  case rest =>
    obtain ⟨v2, hc1⟩ := hcut
    have N5 := hid hc1
    clear hc1 N3 u0 f0
    have HOW := hid (fcReg1_own (own := own) (c := c) (q := p) (s := s2))
    obtain ⟨s3, hs3⟩ : ∃ s3, fcReg1 own c p s2 = s3 := ⟨_, rfl⟩
    rw [hs3] at N5 HOK4 HOW HQ
    clear hs3
    have HR := hid (show fcReg2 own c p s3 = if c.w = true ∧ s3.U (own * 2 + 1) < 0 then ⟨s3.F, updL s3.U (own * 2 + 1) (p : Int), updL s3.L (c.i * 2 + 1) (s3.L (c.i * 2 + 1) ++ [own])⟩ else s3 from rfl)
    have u1 := N5.out.st.wa.cell (j := own * 2 + 1) (by omega)
    have f1 := N5.out.st.wa.free (own * 2 + 1)
    try dsimp only at u1
    have e3 := N5.out.cp.c3
    cases hcw : c.w with
    | false =>
      rw [hcw] at e3
      rw [if_neg (by simp [hcw])] at HR
      go_wp2_with fail
      have HH := HQ.out
      exact HH _ _ _ _ _ _ _ _ _ _ _ _ _ _ _ _ _ _ _ _ _ _ _ _ _ _ _ _ _ _ _ _ _ _ _ _ _ _ _ _ _ _ _ _ _ _ _ _ _ _ ⟨v2, by rw [HR.out]; exact N5.out.st⟩
    | true =>
      rw [hcw] at e3
      by_cases hu : s3.U (own * 2 + 1) < 0
      · rw [if_pos ⟨hcw, hu⟩] at HR
        have N6 := hid (N5.out.setU (j := own * 2 + 1) (by omega) (p : Int))
        go_upto_region 50 with fail
        obtain ⟨wq, hwq⟩ : ∃ wq, wq = wc.setCell ⟨w.heap.size + 2, own * 2 + 1, none⟩ (.int .i64 (p : Int)) := ⟨_, rfl⟩
        rw [← hwq] at N6 ⊢
        clear hwq u1 f1 N5 e3
        have hl1 : (s3.L (c.i * 2 + 1)).length ≤ 100000 := by have := HOK4.out.1.len (c.i * 2 + 1); omega
        have hz := N6.out.ge
        have hz2 := N6.out.cp.lt
        have e5 := N6.out.li (i := c.i * 2 + 1) (by omega)
        have a2 : ∀ o, (wq.alloc o).cell? ⟨w.heap.size + 3, c.i * 2 + 1, none⟩ = some (v2 (c.i * 2 + 1)) := fun o => (N6.out.alloc o).li (i := c.i * 2 + 1) (by omega)
        go_region_law ((refine apD (by rfl) _ _ (by rfl) (w.heap.size + 4) (v2 (c.i * 2 + 1)) (s3.L (c.i * 2 + 1)) (own : Int) wq.heap.size (wq.heap.size + 1) (by rfl) (by rfl) (((N6.out.alloc _).drew).st.fam.own (c.i * 2 + 1) (by omega)) (heap_alloc_new wq _) hl1 (by simp; omega) (by simp) ?_; intro g1 cap1 w1 hown1 hgrow hat hlt1; obtain ⟨k1, k3, H9⟩ := ((N6.out.alloc _).drew).app (i := c.i * 2 + 1) (by omega) hown1 hgrow (by simpa using hat); clear hown1 hgrow hat))
        all_goals go_wp2_with fail
        all_goals (
          have HX := H9.out.st
          try dsimp only at HX
          rw [← HR.out] at HX
          have HH := HQ.out
          exact HH _ _ _ _ _ _ _ _ _ _ _ _ _ _ _ _ _ _ _ _ _ _ _ _ _ _ _ _ _ _ _ _ _ _ _ _ _ _ _ _ _ _ _ _ _ _ _ _ _ _ ⟨_, HX⟩)
      · rw [if_neg (fun h => hu h.2)] at HR
        go_wp2_with fail
        have HH := HQ.out
        exact HH _ _ _ _ _ _ _ _ _ _ _ _ _ _ _ _ _ _ _ _ _ _ _ _ _ _ _ _ _ _ _ _ _ _ _ _ _ _ _ _ _ _ _ _ _ _ _ _ _ _ ⟨v2, by rw [HR.out]; exact N5.out.st⟩

end Go.Proofs.YbulkbgasDoor
