import Derived.Test.YbulkbgasDoorLg6
import Derived.Test.YbulkbgasDoorLk8
namespace Go.Proofs.YbulkbgasDoor
open Go.RowKit Go.Maps
set_option linter.unusedVariables false
attribute [local go_sem ↓] Go.wp_at_zero Go.wp_at_succ

theorem dec_hd {at_ : Nat} {af : Nat → Bool} {xa : Bool} (h0 : 0 < at_) (hx : af (at_ - 1) = xa) : decide (0 < at_ ∧ af (at_ - 1) = true) = xa := by subst hx; cases h : af (at_ - 1) <;> simp [h0]
theorem gPt_len {l : List Ac} {S : List Sp} {tx : List Int} {at_ i : Nat} (h : (byT S i).length ≤ 300) : (gPt l S tx at_ i).length ≤ 600 := by
  unfold gPt
  rw [List.length_append]
  have h1 := glLen l tx i at_ (byT S i)
  have h2 := guLen l tx i at_ (byT S i)
  omega
set_option maxRecDepth 1000000 in
set_option maxHeartbeats 4000000 in
theorem lg_round4 (w4 wr : World) (Bc Bt Bb nT n at_ captx capl capp : Nat) (ap_ as_ : Option Addr) (bf : Nat → ByteArray) (af : Nat → Bool) (Pt : Nat → List Nat) (S : List Sp) (l : List Ac) (tx : List Int) (vL : Value) (R : List Ac) (hn : l.length = n) (hn2 : n ≤ 10000) (hat : at_ ≤ n) (hpl : (Pt at_).length ≤ 1000) (hnT : nT ≤ 1000) (hBb : Bb + 2 < w4.heap.size)
    (hbf3 : bf at_ = ⟨#[]⟩ ∨ bf at_ = kRl ∨ bf at_ = kWl) (hb1 : at_ < n → w4.cell? ⟨Bb, at_, none⟩ = some (.string (bf at_))) (hb2 : ∀ j, j < n → w4.cell? ⟨Bb + 1, j, none⟩ = some (.bool (af j))) (hb3 : w4.cell? ⟨Bb + 2, at_, none⟩ = some (.slice ap_ (Pt at_).length capp)) (HP : Hid (∀ q (hq : q < (Pt at_).length), ∃ b o, ap_ = some ⟨b, o, none⟩ ∧ b < w4.heap.size ∧ w4.cell? ⟨b, o + q, none⟩ = some (.int .i64 ((Pt at_)[q] : Int))))
    (HPt : Hid (∀ i ∈ Pt at_, i < nT ∧ ∀ s ∈ byT S i, s.f < n ∧ -1 ≤ s.w)) (HLd : Hid (Laid w4)) (HBY : Hid (By w4 Bt nT (byT S))) (hRl : R.length + (Pt at_).length * 600 + 3 ≤ 20000) (hBc : Bc < w4.heap.size) (HX12 : Hid (∀ i, i < nT → ∃ btx otx, btx < w4.heap.size ∧ w4.cell? ⟨Bc, 0, none⟩ = some (.slice (some ⟨btx, otx, none⟩) nT captx) ∧ w4.cell? ⟨btx, otx + i, none⟩ = some (.int .i64 (tx.getD i 0)))) (HX3 : Hid (∀ f, f < n → ∃ bs os, as_ = some ⟨bs, os, none⟩ ∧ bs < w4.heap.size ∧ w4.cell? ⟨bs, os + f * 3, none⟩ = some (.string (l.getD f ac0).k) ∧ w4.cell? ⟨bs, os + f * 3 + 1, none⟩ = some (.int .i64 (l.getD f ac0).t) ∧ w4.cell? ⟨bs, os + f * 3 + 2, none⟩ = some (.string (l.getD f ac0).it))) (N1 : Hid (LkL w4 wr vL R))
    (Q : Exit → Act → World → Prop) (c2 c3 c4 c5 c6 c7 c8 c9 c10 c12 c13 c17 c18 c19 c20 c21 c24 c25 c26 c27 c28 c29 c30 c31 c32 c33 c34 c35 c36 c37 c38 c39 c40 c41 c42 c43 c44 c45 c46 c47 c48 c49 c50 c51 c52 c53 c54 c55 c56 c57 c58 c59 c60 c61 c62 c63 c64 c65 c66 c67 c68 c69 c70 c71 c72 c73 c74 c75 c76 c77 c78 c79 c80 c81 c82 c83 c84 c85 c86 c87 c88 c89 c90 c91 c92 c93 c94 c95 c96 c97 c98 c99 c100 c101 c102 c103 c104 c105 c106 c107 c108 c109 c110 c111 c112 c113 c114 c115 c116 c117 c118 c119 c120 c121 c122 c123 c124 c125 c126 c127 c128 c129 c130 c131 c132 c133 c134 c135 c136 c137 c138 c139 c140 c141 c142 c143 c144 c145 c146 c147 c148 c149 c150 c151 c152 c153 c154 c155 c156 c157 c158 c159 c160 c161 c162 c163 c164 c165 c166 c167 c168 c169 c170 c171 c172 c173 c174 c175 c176 c177 c178 c179 c180 c181 c182 c183 c184 c185 c186 c187 c188 c189 c190 c191 c192 c193 c194 c195 c196 c197 c198 c199 c200 c201 c202 c203 c204 c205 c206 c207 c208 c209 c210 c211 c212 c213 c214 c215 c216 c217 c218 c219 c220 c221 c222 c223 c224 c225 c226 c227 c228 c229 c230 c231 c232 c233 c234 c235 c236 c237 c238 c239 c240 c241 c242 c243 c244 c245 c246 c247 c248 c249 c250 c251 c252 c253 c254 c255 c256 c257 c258 c259 c260 c261 c262 c263 c264 c265 c266 c267 c268 c269 c270 c271 c272 c273 c274 c275 c276 c277 c278 c279 c280 c281 c282 c283 c284 c285 c286 c287 c288 c289 c290 c291 c292 c293 c294 c295 c296 c297 c298 c299 c300 c301 c302 c303 c304 c305 c306 c307 c308 c309 c310 : Value)
    (hq : ∀ (u25 u27 u29 u144 u145 u146 u147 u148 u149 u150 u151 u152 u153 u154 u155 u156 u157 u158 u159 u160 u161 u162 u163 u164 u165 u166 u167 u168 u169 u170 u171 u172 u173 u174 u175 u176 u177 u178 u179 u180 u181 u182 u183 u184 u185 u186 u187 u188 u189 u190 u191 u192 u193 u194 u195 u196 u197 u198 u199 u200 u201 u202 u203 u204 u205 u206 u207 u208 u209 u210 u211 u212 u213 u214 u215 u216 u217 u218 u219 u220 u221 u222 u223 u224 u225 u226 u227 u228 u229 u230 u231 u232 u233 u234 u235 u236 u237 u238 u239 u240 u241 u242 u243 u244 u245 u246 u247 u248 u249 u250 u251 u252 u253 u254 u255 u256 u257 u258 u259 u260 u261 u262 u263 u264 u265 u266 u267 u268 u269 u270 u271 u272 u273 u274 u275 u276 u277 u278 u279 u280 u281 u282 u283 u284 u285 u286 u287 u288 u289 u290 u291 u292 u293 u294 u295 u296 u297 u298 u299 u300 u301 u302 u303 u304 u305 u306 u307 u308 u309 : Value) (vL2 : Value) (wi : World), LkL w4 wi vL2 (R ++ gAt l S tx bf af Pt at_) → Q .normal ⟨#[.pointer (some ⟨Bc, 0, none⟩), .slice as_ n capl, c2, c3, c4, c5, c6, c7, c8, c9, c10, .slice (some ⟨Bt, 0, none⟩) nT nT, c12, c13, .slice (some ⟨Bb, 0, none⟩) n n, .slice (some ⟨Bb + 1, 0, none⟩) n n, .slice (some ⟨Bb + 2, 0, none⟩) (n + 1) (n + 1), c17, c18, c19, c20, c21, vL2, .int .i64 ((at_ + 1 : Nat) : Int), c24, u25, c26, u27, c28, u29, c30, c31, c32, c33, c34, c35, c36, c37, c38, c39, c40, c41, c42, c43, c44, c45, c46, c47, c48, c49, c50, c51, c52, c53, c54, c55, c56, c57, c58, c59, c60, c61, c62, c63, c64, c65, c66, c67, c68, c69, c70, c71, c72, c73, c74, c75, c76, c77, c78, c79, c80, c81, c82, c83, c84, c85, c86, c87, c88, c89, c90, c91, c92, c93, c94, c95, c96, c97, c98, c99, c100, c101, c102, c103, c104, c105, c106, c107, c108, c109, c110, c111, c112, c113, c114, c115, c116, c117, c118, c119, c120, c121, c122, c123, c124, c125, c126, c127, c128, c129, c130, c131, c132, c133, c134, c135, c136, c137, c138, c139, c140, c141, c142, c143, u144, u145, u146, u147, u148, u149, u150, u151, u152, u153, u154, u155, u156, u157, u158, u159, u160, u161, u162, u163, u164, u165, u166, u167, u168, u169, u170, u171, u172, u173, u174, u175, u176, u177, u178, u179, u180, u181, u182, u183, u184, u185, u186, u187, u188, u189, u190, u191, u192, u193, u194, u195, u196, u197, u198, u199, u200, u201, u202, u203, u204, u205, u206, u207, u208, u209, u210, u211, u212, u213, u214, u215, u216, u217, u218, u219, u220, u221, u222, u223, u224, u225, u226, u227, u228, u229, u230, u231, u232, u233, u234, u235, u236, u237, u238, u239, u240, u241, u242, u243, u244, u245, u246, u247, u248, u249, u250, u251, u252, u253, u254, u255, u256, u257, u258, u259, u260, u261, u262, u263, u264, u265, u266, u267, u268, u269, u270, u271, u272, u273, u274, u275, u276, u277, u278, u279, u280, u281, u282, u283, u284, u285, u286, u287, u288, u289, u290, u291, u292, u293, u294, u295, u296, u297, u298, u299, u300, u301, u302, u303, u304, u305, u306, u307, u308, u309, c310], []⟩ wi) :
    Code.wp Ybad.prog (lp32 3) Q ⟨#[.pointer (some ⟨Bc, 0, none⟩), .slice as_ n capl, c2, c3, c4, c5, c6, c7, c8, c9, c10, .slice (some ⟨Bt, 0, none⟩) nT nT, c12, c13, .slice (some ⟨Bb, 0, none⟩) n n, .slice (some ⟨Bb + 1, 0, none⟩) n n, .slice (some ⟨Bb + 2, 0, none⟩) (n + 1) (n + 1), c17, c18, c19, c20, c21, vL, .int .i64 (at_ : Int), c24, c25, c26, c27, c28, c29, c30, c31, c32, c33, c34, c35, c36, c37, c38, c39, c40, c41, c42, c43, c44, c45, c46, c47, c48, c49, c50, c51, c52, c53, c54, c55, c56, c57, c58, c59, c60, c61, c62, c63, c64, c65, c66, c67, c68, c69, c70, c71, c72, c73, c74, c75, c76, c77, c78, c79, c80, c81, c82, c83, c84, c85, c86, c87, c88, c89, c90, c91, c92, c93, c94, c95, c96, c97, c98, c99, c100, c101, c102, c103, c104, c105, c106, c107, c108, c109, c110, c111, c112, c113, c114, c115, c116, c117, c118, c119, c120, c121, c122, c123, c124, c125, c126, c127, c128, c129, c130, c131, c132, c133, c134, c135, c136, c137, c138, c139, c140, c141, c142, c143, c144, c145, c146, c147, c148, c149, c150, c151, c152, c153, c154, c155, c156, c157, c158, c159, c160, c161, c162, c163, c164, c165, c166, c167, c168, c169, c170, c171, c172, c173, c174, c175, c176, c177, c178, c179, c180, c181, c182, c183, c184, c185, c186, c187, c188, c189, c190, c191, c192, c193, c194, c195, c196, c197, c198, c199, c200, c201, c202, c203, c204, c205, c206, c207, c208, c209, c210, c211, c212, c213, c214, c215, c216, c217, c218, c219, c220, c221, c222, c223, c224, c225, c226, c227, c228, c229, c230, c231, c232, c233, c234, c235, c236, c237, c238, c239, c240, c241, c242, c243, c244, c245, c246, c247, c248, c249, c250, c251, c252, c253, c254, c255, c256, c257, c258, c259, c260, c261, c262, c263, c264, c265, c266, c267, c268, c269, c270, c271, c272, c273, c274, c275, c276, c277, c278, c279, c280, c281, c282, c283, c284, c285, c286, c287, c288, c289, c290, c291, c292, c293, c294, c295, c296, c297, c298, c299, c300, c301, c302, c303, c304, c305, c306, c307, c308, c309, c310], []⟩ wr := by
  refine Code.wp_mono NoPanic.imp ?_
  have HQ := hid hq
  clear hq
  conv => arg 2; whnf
  have hai : (at_ : Int) ≤ (n : Int) := by omega
  have hai2 : (at_ : Int) < (n : Int) + 1 := by omega
  have ha0 : (0 : Int) ≤ (at_ : Int) := by omega
  have HB1 := hid hb1
  have HB2 := hid hb2
  have HB3 := hid hb3
  have HBL := hid (show ∀ i, i < nT → (byT S i).length ≤ 300 from fun i hi => by obtain ⟨_, _, _, h2, _⟩ := HBY.out.2 i hi; exact h2)
  clear hb1 hb2 hb3
  go_upto_region 29 with fail
  go_cut [158] from 144 to 309 (fun t wd => t = .bool (decide (0 < at_ ∧ af (at_ - 1) = true)) ∧ wd = wr)
  case first =>
    rcases Nat.eq_zero_or_pos at_ with h0 | h0
    · subst h0
      go_wp2_with fail
      go_meet
      exact ⟨by simp, rfl⟩
    · obtain ⟨a1, ha1⟩ : ∃ a1, at_ = a1 + 1 := ⟨at_ - 1, by omega⟩
      have c0 : wr.cell? ⟨Bb + 1, a1, none⟩ = some (.bool (af a1)) := (N1.out.bel.cell (p := ⟨Bb + 1, a1, none⟩) (by show Bb + 1 < _; omega)).trans (HB2.out a1 (by omega))
      have e1 : (at_ : Int) - 1 = (a1 : Int) := by omega
      have h1 : (0 : Int) < (at_ : Int) := by omega
      have h2 : (a1 : Int) < (n : Int) := by omega
      have HA1 := hid ha1
      have HH0 := hid h0
      obtain ⟨xa, hxa⟩ : ∃ xa, af a1 = xa := ⟨_, rfl⟩
      rw [hxa] at c0
      have HXA := hid (show af (at_ - 1) = xa from by rw [show at_ - 1 = a1 by omega]; exact hxa)
      clear ha1 h0 hxa
      go_wp2_with fail
      go_meet
      exact ⟨by rw [dec_hd HH0.out HXA.out], rfl⟩
  case rest =>
    obtain ⟨rfl, rfl⟩ := hcut
    go_upto_if 158 with fail
    go_cut [22, 158] from 144 to 309 (fun vv _ wd => LkL w4 wd vv (R ++ gHd l af at_))
    case first =>
      by_cases hhd : 0 < at_ ∧ af (at_ - 1) = true
      · rw [decide_eq_true hhd]
        have HHD := hid (show gHd l af at_ = [⟨kU, (l.getD (at_ - 1) ac0).t, (l.getD (at_ - 1) ac0).it⟩] from by unfold gHd; rw [if_pos hhd])
        obtain ⟨a1, ha1⟩ : ∃ a1, at_ = a1 + 1 := ⟨at_ - 1, by omega⟩
        have h2 : (at_ : Int) - 1 < (n : Int) := by omega
        have h3 : (0 : Int) ≤ (at_ : Int) - 1 := by omega
        have h4 : ((at_ : Int) - 1).toNat = a1 := by omega
        have h5 : (1 : Int) ≤ (at_ : Int) := by omega
        have h6 : (0 : Int) < (at_ : Int) := by omega
        have h7 : 0 < at_ := by omega
        have h8 : 1 ≤ at_ := by omega
        have h9 : at_ - 1 = a1 := by omega
        rw [show at_ - 1 = a1 by omega] at HHD
        have han1 : a1 < n := by omega
        clear hhd ha1
        obtain ⟨bs, os, rfl, hbs, hx4, hx5, hx6⟩ := HX3.out a1 han1
        obtain ⟨la, hla⟩ : ∃ la, l.getD a1 ac0 = la := ⟨_, rfl⟩
        obtain ⟨ka, ta, ia⟩ := la
        rw [hla] at hx4 hx5 hx6 HHD
        dsimp only at hx4 hx5 hx6 HHD
        have HT1 := hid hx5
        have HI1 := hid hx6
        have d1 := (N1.out.bel.cell (p := ⟨bs, os + a1 * 3 + 1, none⟩) hbs).trans hx5
        have d2 := (N1.out.bel.cell (p := ⟨bs, os + a1 * 3 + 2, none⟩) hbs).trans hx6
        have hwz := N1.out.bel.size
        have hwr1 : IntKind.i64.wrap ((at_ : Int) - 1) = (at_ : Int) - 1 := by rw [IntKind.wrap_i64]; omega
        clear hx4 hx5 hx6 hla
        go_upto_region 30 with fail
        go_region_held3 (fun W => W.cell? ⟨bs, os + a1 * 3 + 1, none⟩ = some (.int .i64 ta) ∧ W.cell? ⟨bs, os + a1 * 3 + 2, none⟩ = some (.string ia)) (go_keep) ((refine apDG Ybad.E24 (by rfl) _ _ (by rfl) w4.heap.size vL R.length (rowA R) (Ac.cells ⟨kU, ta, ia⟩) wc.heap.size (wc.heap.size + 1) (by rfl) (by rfl) (((N1.out.alloc _).drew).own) (heap_alloc_new wc _) rfl (Ac.one _) (by omega) (by simp; omega) (by simp) ?_; intro g1 cap1 w1 hown1 hgrow hat1 hlt1; have H9 := hid (((N1.out.alloc _).drew).app hown1 hgrow); have k2 := (H9.out.bel.cell (p := ⟨bs, os + a1 * 3 + 1, none⟩) hbs).trans HT1.out; have k3 := (H9.out.bel.cell (p := ⟨bs, os + a1 * 3 + 2, none⟩) hbs).trans HI1.out; clear hown1 hgrow hat1))
        all_goals go_wp2_with fail
        all_goals go_meet
        all_goals (rw [HHD.out]; exact H9.out)
      · rw [decide_eq_false hhd]
        have HHD := hid (show gHd l af at_ = [] from by unfold gHd; rw [if_neg hhd])
        clear hhd
        go_wp2_with fail
        go_meet
        rw [HHD.out, List.append_nil]
        exact N1.out
    case rest =>
    have N1' := hid hcut
    clear hcut N1
    have N1 := N1'
    clear N1'
    have HHL := hid (show (gHd l af at_).length ≤ 1 from by unfold gHd; split <;> simp)
    have HGA := hid (show gAt l S tx bf af Pt at_ = gHd l af at_ ++ (Pt at_).flatMap (gPt l S tx at_) ++ gTl l bf at_ from rfl)
    obtain ⟨R0, hR0⟩ : ∃ R0, R ++ gHd l af at_ = R0 := ⟨_, rfl⟩
    have hR0l : R0.length ≤ R.length + 1 := by rw [← hR0, List.length_append]; have := HHL.out; omega
    have HR0 := hid hR0
    rw [hR0] at N1
    clear hR0
    have c1 := (N1.out.bel.cell (p := ⟨Bb + 2, at_, none⟩) (by show Bb + 2 < _; omega)).trans HB3.out
    have hpi : ((Pt at_).length : Int) ≤ 1000 := by omega
    have HLA := hid (show gTl l bf at_ = if at_ < l.length then (if bf at_ ≠ ⟨#[]⟩ then [⟨bf at_, (l.getD at_ ac0).t, (l.getD at_ ac0).it⟩] else []) ++ [l.getD at_ ac0] else [] from rfl)
    obtain ⟨pts, hpts⟩ : ∃ pts, Pt at_ = pts := ⟨_, rfl⟩
    rw [hpts] at c1 HP HPt hRl HGA hpi hpl
    clear hpts HB3
    go_wp2_with fail
    go_loopg [22, 180] pts.length (fun g0 vv iv wi => ∃ (q : Nat) (vL3 : Value), q ≤ pts.length ∧ g0 = pts.length - q ∧ vL3 = vv ∧ iv = .int .i64 (q : Int) ∧ LkL w4 wi vL3 (R0 ++ (pts.take q).flatMap (gPt l S tx at_)))
    case atStart => exact ⟨0, _, Nat.zero_le _, rfl, rfl, rfl, by simpa using N1.out⟩
    case round =>
      obtain ⟨q, vL3, hq0, rfl, rfl, rfl, hst⟩ := hrel
      have N2 := hid hst
      clear hst N1 c1
      by_cases hlt3 : q < pts.length
      · have hm := HPt.out pts[q] (List.getElem_mem _)
        have hfl := flat_le (f := gPt l S tx at_) (c := 600) (pts.take q) (fun i hi => gPt_len (HBL.out i (HPt.out i (List.mem_of_mem_take hi)).1))
        rw [List.length_take, Nat.min_eq_left (by omega)] at hfl
        have hfl3 : (q + 1) * 600 ≤ pts.length * 600 := Nat.mul_le_mul_right _ hlt3
        have hfl2 := HBL.out pts[q] hm.1
        obtain ⟨btx, otx, hbtx, hx1, hx2⟩ := HX12.out _ hm.1
        refine lg_round5 w4 wr Bc Bt nT n q at_ pts[q] captx capl capp btx otx ap_ as_ pts S l tx vL3 _ hn hn2 hpl hlt3 (HP.out q hlt3) hm.1 hnT (hid hm.2) HLd HBY (by rw [List.length_append]; omega) hBc hbtx hx1 hx2 HX3 N2 _ _ _ _ _ _ _ _ _ _ _ _ _ _ _ _ _ _ _ _ _ _ _ _ _ _ _ _ _ _ _ _ _ _ _ _ _ _ _ _ _ _ _ _ _ _ _ _ _ _ _ _ _ _ _ _ _ _ _ _ _ _ _ _ _ _ _ _ _ _ _ _ _ _ _ _ _ _ _ _ _ _ _ _ _ _ _ _ _ _ _ _ _ _ _ _ _ _ _ _ _ _ _ _ _ _ _ _ _ _ _ _ _ _ _ _ _ _ _ _ _ _ _ _ _ _ _ _ _ _ _ _ _ _ _ _ _ _ _ _ _ _ _ _ _ _ _ _ _ _ _ _ _ _ _ _ _ _ _ _ _ _ _ _ _ _ _ _ _ _ _ _ _ _ _ _ _ _ _ _ _ _ _ _ _ _ _ _ _ _ _ _ _ _ _ _ _ _ _ _ _ _ _ _ _ _ _ _ _ _ _ _ _ _ _ _ _ _ _ _ _ _ _ _ _ _ _ _ _ _ _ _ _ _ _ _ _ _ _ _ _ _ _ _ _ _ _ _ _ _ _ _ _ _ _ _ _ _ _ _ _ _ _ _ _ _ _ _ _ _ _ _ _ _ _ _ _ _ _ _ _ _ _ _ _ _ _ _ _ _ _ _ _ _ _ _ _ _ _ _ _ _ _ _ ?_
        intro u25 u27 u29 u181 u182 u183 u184 u185 u186 u187 u188 u189 u190 u191 u192 u193 u194 u195 u196 u197 u198 u199 u200 u201 u202 u203 u204 u205 u206 u207 u208 u209 u210 u211 u212 u213 u214 u215 u216 u217 u218 u219 u220 u221 u222 u223 u224 u225 u226 u227 u228 u229 u230 u231 u232 u233 u234 u235 u236 u237 u238 u239 u240 u241 u242 u243 u244 u245 u246 u247 u248 u249 u250 u251 u252 u253 u254 u255 u256 u257 u258 u259 u260 u261 u262 u263 u264 u265 u266 u267 u268 u269 u270 u271 u272 u273 u274 u275 vL4 wi hst
        dsimp only [Exit.then]
        go_wp2_with fail
        go_roundg (pts.length - (q + 1))
        case measure => omega
        case rel =>
          refine ⟨q + 1, vL4, by omega, rfl, rfl, rfl, ?_⟩
          rw [List.take_succ_eq_append_getElem hlt3, List.flatMap_append, List.flatMap_singleton, ← List.append_assoc]
          exact hst
      · obtain rfl : q = pts.length := by omega
        rw [List.take_length] at N2
        have hfl := flat_le (f := gPt l S tx at_) (c := 600) pts (fun i hi => gPt_len (HBL.out i (HPt.out i hi).1))
        have hRl2 : (R0 ++ pts.flatMap (gPt l S tx at_)).length + 2 ≤ 20000 := by rw [List.length_append]; omega
        obtain ⟨R2, hR2⟩ : ∃ R2, R0 ++ pts.flatMap (gPt l S tx at_) = R2 := ⟨_, rfl⟩
        clear hfl
        have HR2 := hid hR2
        rw [hR2] at N2 hRl2
        clear hR2
        by_cases han : at_ < n
        · have hani : (at_ : Int) < (n : Int) := by omega
          have HBF := hid (HB1.out han)
          obtain ⟨bs, os, rfl, hbs, hx4, hx5, hx6⟩ := HX3.out at_ han
          have HT1 := hid hx5
          have HK1 := hid hx4
          have HI1 := hid hx6
          clear hx4 hx5 hx6
          obtain ⟨bfa, hbfa⟩ : ∃ bfa, bf at_ = bfa := ⟨_, rfl⟩
          obtain ⟨la, hla⟩ : ∃ la, l.getD at_ ac0 = la := ⟨_, rfl⟩
          obtain ⟨ka, ta, ia⟩ := la
          rw [hbfa] at HBF HLA hbf3
          rw [hla] at HT1 HK1 HI1 HLA
          rw [if_pos (by rw [hn]; exact han)] at HLA
          dsimp only at HT1 HK1 HI1 HLA
          clear hbfa hla
          have c0 := (N2.out.bel.cell (p := ⟨Bb, at_, none⟩) (by show Bb < _; omega)).trans HBF.out
          go_upto_if 284 with fail
          go_cut [22, 284] from 144 to 309 (fun vv _ wd => LkL w4 wd vv (R2 ++ if bfa ≠ ⟨#[]⟩ then [⟨bfa, ta, ia⟩] else []))
          case first =>
            by_cases hbe : bfa = ⟨#[]⟩
            · have he0 : bfa.toList.isEmpty = true := by rw [hbe]; exact emp0
              rw [he0]
              go_wp2_with fail
              go_meet
              rw [if_neg (by simp [hbe]), List.append_nil]; exact N2.out
            · have he0 : bfa.toList.isEmpty = false := by
                rcases hbf3 with h | h | h
                · exact absurd h hbe
                · rw [h]; exact emp1
                · rw [h]; exact emp2
              rw [he0]
              have HBEH := hid hbe
              have N3 := hid N2.out
              have c1 := (N2.out.bel.cell (p := ⟨bs, os + at_ * 3 + 1, none⟩) hbs).trans HT1.out
              have c2 := (N2.out.bel.cell (p := ⟨bs, os + at_ * 3 + 2, none⟩) hbs).trans HI1.out
              have hwz := N2.out.bel.size
              clear N2 hbe he0 hbf3
              go_upto_region 51 with fail
              go_region_held3 (fun W => W.cell? ⟨Bb, at_, none⟩ = some (.string bfa) ∧ W.cell? ⟨bs, os + at_ * 3 + 1, none⟩ = some (.int .i64 ta) ∧ W.cell? ⟨bs, os + at_ * 3 + 2, none⟩ = some (.string ia)) (go_keep) ((refine apDG Ybad.E24 (by rfl) _ _ (by rfl) w4.heap.size vL3 R2.length (rowA R2) (Ac.cells ⟨bfa, ta, ia⟩) wr.heap.size (wr.heap.size + 1) (by rfl) (by rfl) (((N3.out.alloc _).drew).own) (heap_alloc_new wr _) rfl (Ac.one _) (by omega) (by simp; omega) (by simp) ?_; intro g1 cap1 w1 hown1 hgrow hat1 hlt1; have H9 := hid (((N3.out.alloc _).drew).app hown1 hgrow); have k1 := (H9.out.bel.cell (p := ⟨Bb, at_, none⟩) (by show Bb < _; omega)).trans HBF.out; have k2 := (H9.out.bel.cell (p := ⟨bs, os + at_ * 3 + 1, none⟩) hbs).trans HT1.out; have k3 := (H9.out.bel.cell (p := ⟨bs, os + at_ * 3 + 2, none⟩) hbs).trans HI1.out; clear hown1 hgrow hat1))
              all_goals go_wp2_with fail
              all_goals go_meet
              all_goals (rw [if_pos HBEH.out]; exact H9.out)
          case rest =>
            have N3 := hid hcut
            obtain ⟨R3, hR3⟩ : ∃ R3, (R2 ++ if bfa ≠ ⟨#[]⟩ then [(⟨bfa, ta, ia⟩ : Ac)] else []) = R3 := ⟨_, rfl⟩
            have hRl3 : R3.length ≤ 20000 := by rw [← hR3]; split <;> simp <;> omega
            have HR3 := hid hR3
            rw [hR3] at N3
            clear hR3 hcut N2 c0
            have d0 := (N3.out.bel.cell (p := ⟨bs, os + at_ * 3, none⟩) hbs).trans HK1.out
            have d1 := (N3.out.bel.cell (p := ⟨bs, os + at_ * 3 + 1, none⟩) hbs).trans HT1.out
            have d2 := (N3.out.bel.cell (p := ⟨bs, os + at_ * 3 + 2, none⟩) hbs).trans HI1.out
            have hwz := N3.out.bel.size
            go_wp2_with (first
              | ((with_reducible refine bs34 (t := 307) ⟨ka, ta, ia⟩ ?_ ?_); (exact rfl))
              | ((with_reducible refine apK Ybad.E24 (t := 303) (u := 308) w4.heap.size u22 R3.length (rowA R3) (Ac.cells ⟨ka, ta, ia⟩) wc.heap.size ?_ ?_ ?_ ?_ ?_ ?_ ?_ ?_ ?_); (exact rfl); (exact rfl); (exact (N3.out.own).alloc _); (exact heap_alloc_new _ _); (exact rfl); (exact Ac.one _); omega; (simp; omega); (intro g1 cap1 wE hownE hgE hatE _); (have H9 := hid ((N3.out.alloc _).app hownE hgE)); clear hownE hgE hatE))
            have HH := HQ.out
            rw [show ((at_ + 1 : Nat) : Int) = (at_ : Int) + 1 from by omega] at HH
            refine HH _ _ _ _ _ _ _ _ _ _ _ _ _ _ _ _ _ _ _ _ _ _ _ _ _ _ _ _ _ _ _ _ _ _ _ _ _ _ _ _ _ _ _ _ _ _ _ _ _ _ _ _ _ _ _ _ _ _ _ _ _ _ _ _ _ _ _ _ _ _ _ _ _ _ _ _ _ _ _ _ _ _ _ _ _ _ _ _ _ _ _ _ _ _ _ _ _ _ _ _ _ _ _ _ _ _ _ _ _ _ _ _ _ _ _ _ _ _ _ _ _ _ _ _ _ _ _ _ _ _ _ _ _ _ _ _ _ _ _ _ _ _ _ _ _ _ _ _ _ _ _ _ _ _ _ _ _ _ _ _ _ _ _ _ _ _ _ _ _ _ _ ?_
            rw [HGA.out, ← List.append_assoc, ← List.append_assoc, HR0.out, HR2.out, HLA.out, ← List.append_assoc, HR3.out]
            exact H9.out
        · have hani : ¬ (at_ : Int) < (n : Int) := by omega
          rw [if_neg (by rw [hn]; exact han)] at HLA
          go_wp2_with fail
          have HH := HQ.out
          rw [show ((at_ + 1 : Nat) : Int) = (at_ : Int) + 1 from by omega] at HH
          refine HH _ _ _ _ _ _ _ _ _ _ _ _ _ _ _ _ _ _ _ _ _ _ _ _ _ _ _ _ _ _ _ _ _ _ _ _ _ _ _ _ _ _ _ _ _ _ _ _ _ _ _ _ _ _ _ _ _ _ _ _ _ _ _ _ _ _ _ _ _ _ _ _ _ _ _ _ _ _ _ _ _ _ _ _ _ _ _ _ _ _ _ _ _ _ _ _ _ _ _ _ _ _ _ _ _ _ _ _ _ _ _ _ _ _ _ _ _ _ _ _ _ _ _ _ _ _ _ _ _ _ _ _ _ _ _ _ _ _ _ _ _ _ _ _ _ _ _ _ _ _ _ _ _ _ _ _ _ _ _ _ _ _ _ _ _ _ _ _ _ _ _ ?_
          rw [HGA.out, ← List.append_assoc, ← List.append_assoc, HR0.out, HR2.out, HLA.out, List.append_nil]
          exact N2.out

end Go.Proofs.YbulkbgasDoor
