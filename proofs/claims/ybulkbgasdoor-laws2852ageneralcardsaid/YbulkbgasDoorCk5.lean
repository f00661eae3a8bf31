import Derived.Test.YbulkbgasDoorCk4
import Derived.Test.YbulkbgasDoorNa3
namespace Go.Proofs.YbulkbgasDoor
open Go.RowKit Go.Maps
set_option linter.unusedVariables false
attribute [local go_sem ↓] Go.wp_at_zero Go.wp_at_succ

set_option maxRecDepth 1000000 in
set_option maxHeartbeats 4000000 in
theorem ck_tail12 (w6 : World) (Bc nT n B2 B6 Bo na Bm Bu Bl capl capt capS m : Nat) (at_ as_ al : Option Addr) (va : Value) (A : List Acc) (l : List Ac) (S : List Sp) (tx : List Int) (FU FL : Nat → Int) (L : Nat → Nat)
    (hln : l.length = n) (hn : n ≤ 300) (hnT : nT ≤ 10) (hm : m ≤ 1000) (hA : A.length ≤ 300) (htl : tx.length = nT) (HOk : Hid (∀ O : List Nat, O.length = nT → O.Nodup → (∀ j ∈ O, j < nT) → LkOk l S nT L O))
    (hBc : Bc < w6.heap.size) (hbx : w6.heap[Bc]? = some (.cells #[.slice at_ nT capt, .int .i64 (m : Int), va] 63 (0, 0))) (HVA : Hid (SlX w6 va A)) (HSM : Hid (∀ a ∈ A, a.x < nT ∧ a.i < m)) (HTX : Hid (SlI w6 (.slice at_ nT capt) tx)) (HSO : Hid (∀ i j (hi : i < tx.length) (hj : j < tx.length), i < j → tx[i] < tx[j]))
    (hBu : Bu < w6.heap.size) (hBl : Bl < w6.heap.size) (HU : Hid (∀ j, j < nT * 2 → w6.cell? ⟨Bu, j, none⟩ = some (.int .i64 (FU j)))) (HV : Hid (∀ j, j < nT * 2 → w6.cell? ⟨Bl, j, none⟩ = some (.int .i64 (FL j)))) (H1 : Hid (∀ i, i < nT → ¬ (0 ≤ FU (i * 2 + 1) ∧ FU (i * 2 + 1) ≤ FL (i * 2)))) (HX : Hid (∀ i, i < nT → ∀ j ∈ (naF nT A).X i, i < j ∧ j < nT))
    (HLp : Hid (∀ i, i < nT → (L i : Int) = ((naF nT A).X i).foldl (minL fun j => (L j : Int)) (lat0 FU n i))) (H3 : Hid (∀ i, i < nT → FL (i * 2) < (L i : Int))) (HS : Hid (Els w6 3 as_ l.length fun i => (l.getD i ac0).cells)) (HL : Hid (Els w6 5 al S.length fun i => (S.getD i sp0).cells)) (HLD : Hid (Laid w6)) (HB6 : Hid (w6.heap[B6]? = some (.cells #[.slice al S.length capS, .slice (some ⟨Bo, 0, none⟩) na na, .map (some Bm)] 57 (0, 0)))) (HB2 : Hid (w6.heap[B2]? = some (.cells #[.slice none 0 0, .slice none 0 0, .bool false] 28 (0, 0))))
    (Q : Exit → Act → World → Prop) (c1 c3 c4 c9 c10 c11 c12 c13 c14 c15 c16 c17 c18 c19 c20 c21 c22 c23 c24 c25 c26 c27 c28 c29 c30 c31 c32 c33 c34 c35 c36 c37 c38 c39 c40 c41 c42 c43 c44 c45 c46 c47 c48 c49 c50 c51 c52 c53 c54 c55 c56 c57 c58 c59 c60 c61 c62 c63 c64 c65 c66 c67 c68 c69 c70 c71 c72 c73 c74 c75 c76 c77 c78 c79 c80 c81 c82 c83 c84 c85 c86 c87 c88 c89 c90 c91 c92 c93 c94 c95 c96 c97 c98 c99 c100 c101 c102 c103 c104 c105 c106 c107 c108 c109 c110 c111 c112 c113 c114 c115 c116 c117 c118 c119 c120 c121 c122 c123 c124 c125 c126 c127 c128 c129 c130 c131 c132 c133 c134 c135 c136 c137 c138 c139 c140 c141 c142 c143 c144 c145 c146 c147 c148 c149 c150 c151 c152 c153 c154 c155 c156 c157 c158 c159 c160 c161 c162 c163 c164 c165 c166 c167 c168 c169 c170 c171 c172 c173 c174 c175 c176 c177 c178 c179 c180 c181 c182 c183 c184 c185 c186 c187 c188 c189 c190 c191 c192 c193 c194 c195 c196 c197 c198 c199 c200 c201 c202 c203 c204 c205 c206 c207 c208 c209 c210 c211 c212 c213 c214 c215 c216 c217 c218 c219 c220 c221 c222 c223 c224 c225 c226 c227 c228 c229 c230 c231 c232 c233 c234 c235 c236 c237 c238 c239 c240 c241 c242 c243 c244 c245 c246 c247 c248 c249 c250 c251 c252 c253 c254 c255 c256 c257 c258 c259 c260 c261 c262 c263 c264 c265 c266 c267 c268 c269 c270 c271 c272 c273 c274 c275 c276 c277 c278 c279 c280 c281 c282 c283 c284 c285 c286 c287 c288 c289 c290 c291 c292 c293 c294 c295 c296 c297 c298 c299 c300 c301 c302 c303 : Value)
    (hq : ∀ (u9 u10 u11 u12 u13 u14 u15 u16 u17 u18 u19 u20 u21 u22 u23 u24 u25 u26 u27 u28 u29 u30 u31 u32 u62 u63 u64 u65 u66 u67 u68 u69 u70 u71 u72 u73 u74 u75 u76 u77 u78 u79 u80 u81 u82 u83 u84 u85 u86 u87 u88 u89 u90 u91 u92 u93 u94 u95 u96 u97 u98 u99 u100 u101 u102 u103 u104 u105 u106 u107 u108 u109 u110 u111 u112 u113 u114 u115 u116 u117 u118 u119 u120 u121 u122 u123 u124 u125 u126 u127 u128 u129 u130 u131 u132 u133 u134 u135 u136 u137 u138 u139 u140 u141 u142 u143 u144 u145 u146 u147 u148 u149 u150 u151 u152 u153 u154 u155 u156 u157 u158 u159 u160 u161 u162 u163 u164 u165 u166 u167 u168 u169 u170 u171 u172 u173 u174 u175 u176 u177 u178 u179 u180 u181 u182 u183 u184 u185 u186 u187 u188 u189 u190 u191 u192 u193 u194 u195 u196 u197 u198 u199 u200 u201 u202 u203 u204 u205 u206 u207 u208 u209 u210 u211 u212 u213 u214 u215 u216 u217 u218 u219 u220 u221 u222 u223 u224 u225 u226 u227 u228 u229 u230 u231 u232 u233 u234 u235 u236 u237 u238 u239 u240 u241 u242 u243 u244 u245 u246 u247 u248 u249 u250 u251 u252 u253 u254 u255 u256 u257 u258 u259 u260 u261 u262 u263 u264 u265 u266 u267 u268 u269 u270 u271 u272 u273 u274 u275 u276 u277 u278 u279 u280 u281 u282 u283 u284 u285 u286 u287 u288 u289 u290 u291 u292 u293 u294 u295 u296 u297 u298 u299 u300 u301 u302 u303 : Value) (wi : World), (∃ vL O, O.length = nT ∧ O.Nodup ∧ (∀ j ∈ O, j < nT) ∧ SlA wi vL (lkF l S tx (bfAll S O) (ptAll L O) (l.length + 1)) ∧ wi.heap[B2]? = some (.cells #[vL, .slice none 0 0, .bool false] 28 (0, 0)) ∧ wi.os = w6.os ∧ wi.tape = w6.tape ∧ wi.output = w6.output ∧ w6.heap.size ≤ wi.heap.size ∧ ∀ k, k < w6.heap.size → k ≠ B2 → wi.heap[k]? = w6.heap[k]?) → Q .ret ⟨#[.slice as_ n capl, c1, .pointer (some ⟨B2, 0, none⟩), c3, c4, .pointer (some ⟨Bc, 0, none⟩), .pointer (some ⟨B6, 0, none⟩), .slice (some ⟨Bu, 0, none⟩) nT nT, .slice (some ⟨Bl, 0, none⟩) nT nT, u9, u10, u11, u12, u13, u14, u15, u16, u17, u18, u19, u20, u21, u22, u23, u24, u25, u26, u27, u28, u29, u30, u31, u32, c33, c34, c35, c36, c37, c38, c39, c40, c41, c42, c43, c44, c45, c46, c47, c48, c49, c50, c51, c52, c53, c54, c55, c56, c57, c58, c59, c60, c61, u62, u63, u64, u65, u66, u67, u68, u69, u70, u71, u72, u73, u74, u75, u76, u77, u78, u79, u80, u81, u82, u83, u84, u85, u86, u87, u88, u89, u90, u91, u92, u93, u94, u95, u96, u97, u98, u99, u100, u101, u102, u103, u104, u105, u106, u107, u108, u109, u110, u111, u112, u113, u114, u115, u116, u117, u118, u119, u120, u121, u122, u123, u124, u125, u126, u127, u128, u129, u130, u131, u132, u133, u134, u135, u136, u137, u138, u139, u140, u141, u142, u143, u144, u145, u146, u147, u148, u149, u150, u151, u152, u153, u154, u155, u156, u157, u158, u159, u160, u161, u162, u163, u164, u165, u166, u167, u168, u169, u170, u171, u172, u173, u174, u175, u176, u177, u178, u179, u180, u181, u182, u183, u184, u185, u186, u187, u188, u189, u190, u191, u192, u193, u194, u195, u196, u197, u198, u199, u200, u201, u202, u203, u204, u205, u206, u207, u208, u209, u210, u211, u212, u213, u214, u215, u216, u217, u218, u219, u220, u221, u222, u223, u224, u225, u226, u227, u228, u229, u230, u231, u232, u233, u234, u235, u236, u237, u238, u239, u240, u241, u242, u243, u244, u245, u246, u247, u248, u249, u250, u251, u252, u253, u254, u255, u256, u257, u258, u259, u260, u261, u262, u263, u264, u265, u266, u267, u268, u269, u270, u271, u272, u273, u274, u275, u276, u277, u278, u279, u280, u281, u282, u283, u284, u285, u286, u287, u288, u289, u290, u291, u292, u293, u294, u295, u296, u297, u298, u299, u300, u301, u302, u303], []⟩ wi) :
    Code.wp Ybad.prog (tail7 12) Q ⟨#[.slice as_ n capl, c1, .pointer (some ⟨B2, 0, none⟩), c3, c4, .pointer (some ⟨Bc, 0, none⟩), .pointer (some ⟨B6, 0, none⟩), .slice (some ⟨Bu, 0, none⟩) nT nT, .slice (some ⟨Bl, 0, none⟩) nT nT, c9, c10, c11, c12, c13, c14, c15, c16, c17, c18, c19, c20, c21, c22, c23, c24, c25, c26, c27, c28, c29, c30, c31, c32, c33, c34, c35, c36, c37, c38, c39, c40, c41, c42, c43, c44, c45, c46, c47, c48, c49, c50, c51, c52, c53, c54, c55, c56, c57, c58, c59, c60, c61, c62, c63, c64, c65, c66, c67, c68, c69, c70, c71, c72, c73, c74, c75, c76, c77, c78, c79, c80, c81, c82, c83, c84, c85, c86, c87, c88, c89, c90, c91, c92, c93, c94, c95, c96, c97, c98, c99, c100, c101, c102, c103, c104, c105, c106, c107, c108, c109, c110, c111, c112, c113, c114, c115, c116, c117, c118, c119, c120, c121, c122, c123, c124, c125, c126, c127, c128, c129, c130, c131, c132, c133, c134, c135, c136, c137, c138, c139, c140, c141, c142, c143, c144, c145, c146, c147, c148, c149, c150, c151, c152, c153, c154, c155, c156, c157, c158, c159, c160, c161, c162, c163, c164, c165, c166, c167, c168, c169, c170, c171, c172, c173, c174, c175, c176, c177, c178, c179, c180, c181, c182, c183, c184, c185, c186, c187, c188, c189, c190, c191, c192, c193, c194, c195, c196, c197, c198, c199, c200, c201, c202, c203, c204, c205, c206, c207, c208, c209, c210, c211, c212, c213, c214, c215, c216, c217, c218, c219, c220, c221, c222, c223, c224, c225, c226, c227, c228, c229, c230, c231, c232, c233, c234, c235, c236, c237, c238, c239, c240, c241, c242, c243, c244, c245, c246, c247, c248, c249, c250, c251, c252, c253, c254, c255, c256, c257, c258, c259, c260, c261, c262, c263, c264, c265, c266, c267, c268, c269, c270, c271, c272, c273, c274, c275, c276, c277, c278, c279, c280, c281, c282, c283, c284, c285, c286, c287, c288, c289, c290, c291, c292, c293, c294, c295, c296, c297, c298, c299, c300, c301, c302, c303], []⟩ w6 := by
  refine Code.wp_mono NoPanic.imp ?_
  have HQ := hid hq
  clear hq
  conv => arg 2; whnf
  have c0 : w6.cell? ⟨Bc, 0, none⟩ = some (.slice at_ nT capt) := by rw [cell_of_row _ _ _ _ _ _ hbx]; rfl
  have HBX := hid hbx
  have HTL := hid htl
  have HLN := hid hln
  clear hbx htl hln
  have hB6l := (Array.getElem?_eq_some_iff.1 HB6.out).1
  have hB2l := (Array.getElem?_eq_some_iff.1 HB2.out).1
  dsimp only
  go_wp2_with fail
  go_loopg [67] nT (fun g0 iv wi => ∃ i : Nat, i ≤ nT ∧ g0 = nT - i ∧ iv = .int .i64 (i : Int) ∧ Below w6.heap.size w6 wi)
  case atStart => exact ⟨0, Nat.zero_le _, rfl, rfl, Below.refl _ _⟩
  case round =>
    obtain ⟨i, hi, rfl, rfl, hst⟩ := hrel
    have N1 := hid hst
    clear hst c0
    by_cases hlt : i < nT
    · refine ck_round2 w6 wr nT i Bu Bl FU FL (by omega) hlt hBu hBl (HU.out _ (by omega)) (HU.out _ (by omega)) (HV.out _ (by omega)) (HV.out _ (by omega)) (H1.out i hlt) N1 _ _ _ _ _ _ _ _ _ _ _ _ _ _ _ _ _ _ _ _ _ _ _ _ _ _ _ _ _ _ _ _ _ _ _ _ _ _ _ _ _ _ _ _ _ _ _ _ _ _ _ _ _ _ _ _ _ _ _ _ _ _ _ _ _ _ _ _ _ _ _ _ _ _ _ _ _ _ _ _ _ _ _ _ _ _ _ _ _ _ _ _ _ _ _ _ _ _ _ _ _ _ _ _ _ _ _ _ _ _ _ _ _ _ _ _ _ _ _ _ _ _ _ _ _ _ _ _ _ _ _ _ _ _ _ _ _ _ _ _ _ _ _ _ _ _ _ _ _ _ _ _ _ _ _ _ _ _ _ _ _ _ _ _ _ _ _ _ _ _ _ _ _ _ _ _ _ _ _ _ _ _ _ _ _ _ _ _ _ _ _ _ _ _ _ _ _ _ _ _ _ _ _ _ _ _ _ _ _ _ _ _ _ _ _ _ _ _ _ _ _ _ _ _ _ _ _ _ _ _ _ _ _ _ _ _ _ _ _ _ _ _ _ _ _ _ _ _ _ _ _ _ _ _ _ _ _ _ _ _ _ _ _ _ _ _ _ _ _ _ _ _ _ _ _ _ _ _ _ _ _ _ _ _ _ _ _ _ _ _ _ _ _ _ _ _ _ _ _ _ _ ?_
      intro u9 u10 u11 u68 u69 u70 u71 u72 u73 u74 u75 u76 u77 u78 u79 u80 u81 u82 u83 u84 u85 u86 u87 u88 u89 u90 u91 u92 u93 u94 u95 u96 wi hst
      dsimp only [Exit.then]
      go_wp2_with fail
      go_roundg (nT - (i + 1))
      case measure => omega
      case rel => exact ⟨i + 1, by omega, rfl, rfl, hst⟩
    · obtain rfl : i = nT := by omega
      have hz := N1.out.size
      have HNR := hid (near_any wr Bc i m capt at_ va A (by omega) (by omega) hm (by omega) ((N1.out.block Bc hBc).trans HBX.out) (HVA.out.below N1.out) HSM.out)
      go_upto_region 20 with (go_at_call 25; refine Calls.mono HNR.out ?_; rintro e wN ⟨v, rfl, hfx, hfam, hbN⟩; have HFX := hid hfx; have HFM := hid hfam; have HBN := hid hbN; clear hfx hfam hbN; dsimp only)
      have HBN6 := hid (N1.out.trans (HBN.out.mono hz))
      have hzN := HBN6.out.size
      have hzN2 := HBN.out.size
      have hFl := HFX.out.lt
      have c1 := (HBN6.out.cell (p := ⟨Bc, 0, none⟩) hBc).trans (show w6.cell? ⟨Bc, 0, none⟩ = some (.slice at_ i capt) from by rw [cell_of_row _ _ _ _ _ _ HBX.out]; rfl)
      have HLX := hid (naF_len (n := i) (m := m) A (fun a ha => (HSM.out a ha).1) hA).1
      have hlen : ∀ j, j < i → ((naF i A).X j).length ≤ 100000 := fun j hj => by have := HLX.out.1 j hj; have : A.length * 300 ≤ 300 * 300 := Nat.mul_le_mul_right _ hA; omega
      have HLE := hid hlen
      clear hlen
      have HOR := hid (order_any wN (.slice at_ i capt) tx (wr.heap.size + 1) i (naF i A).X v HTL.out (HTX.out.below HBN6.out) (by omega) HFX.out (fun j hj => ⟨_, HFM.out.own j (by omega)⟩) HX.out HLE.out)
      go_upto_if 109 with (go_at_call 26; refine Calls.mono HOR.out ?_; rintro e w7 ⟨vo, O, rfl, hof, ho1, ho2, ho3, ho4, ho5, ho6⟩; have HOF := hid hof; have HO1 := hid ho1; have HO2 := hid ho2; have HO3 := hid ho3; have HO4 := hid ho4; have HO5 := hid ho5; have HO6 := hid ho6; clear hof ho1 ho2 ho3 ho4 ho5 ho6; dsimp only)
      obtain ⟨bo, co, hvo⟩ := HOF.out
      subst hvo
      have HB7 := hid (HBN6.out.trans (HO6.out.mono hzN))
      have hz7 := HB7.out.size
      have hz8 := HO6.out.size
      obtain ⟨a', cap', e1, e2, e3⟩ := HO5.out
      simp only [Value.slice.injEq] at e1
      obtain ⟨rfl, _, rfl⟩ := e1
      have hbo : ∀ k (hk : k < O.length), bo < w7.heap.size ∧ w7.cell? ⟨bo, 0 + k, none⟩ = some (.int .i64 (tx.getD O[k] 0)) := fun k hk => by
        obtain ⟨b', o', f1, f2, f3⟩ := e3 k (by rw [List.length_map]; exact hk)
        simp only [Option.some.injEq, Addr.mk.injEq, and_true] at f1
        obtain ⟨rfl, rfl⟩ := f1
        have f4 := f3 0 _ rfl
        rw [Nat.mul_one] at f4
        refine ⟨f2, ?_⟩
        rw [show 0 + k = 0 + k + 0 by omega, f4]
        simp [List.getD_eq_getElem?_getD, List.getElem?_map, List.getElem?_eq_getElem hk]
      have HN := hid (show Near w7 (wr.heap.size + 1) i (naF i A).X from ⟨by omega, fun j hj => by
        have hown := HFM.out.own j (by omega)
        obtain ⟨ax, capx, hvx, _, _, _⟩ := own_form hown
        refine ⟨ax, capx, (HO6.out.cell (p := ⟨wr.heap.size + 1, j, none⟩) hFl).trans (by rw [HFX.out.cell hj, hvx]), HLE.out j hj, fun t ht => ?_⟩
        obtain ⟨g, cap, h1, h2, h3, h4, h5⟩ := ownI_cell hown ht
        rw [hvx] at h1
        simp only [Value.slice.injEq] at h1
        exact ⟨g, 0, h1.1, by omega, (HO6.out.cell (p := ⟨g, 0 + t, none⟩) h3).trans (by rw [Nat.zero_add]; exact h5)⟩⟩)
      refine wp_cond_false rfl (wp_skip ?_)
      dsimp only [Exit.then]
      apply_assumption
      refine ck_tail30 w7 Bc i n B2 B6 Bo na Bm Bu Bl (wr.heap.size + 1) bo 0 co capl capt capS m at_ as_ al va l S tx FU FL (naF i A).X L O HLN.out hn hnT HTL.out HO1.out HO3 HO4 (HOk.out O HO1.out HO2.out HO3.out) (by omega) ((HB7.out.block Bc hBc).trans HBX.out) (hid (HTX.out.below HB7.out)) HSO (hid hbo) (by omega) (by omega) (hid (fun j hj => (HB7.out.cell (p := ⟨Bu, j, none⟩) hBu).trans (HU.out j hj))) (hid (fun j hj => (HB7.out.cell (p := ⟨Bl, j, none⟩) hBl).trans (HV.out j hj))) HN HX HLp H3 (HS.out.below HB7.out) (HL.out.below HB7.out) (HLD.out.below HB7.out) ((HB7.out.block B6 hB6l).trans HB6.out) ((HB7.out.block B2 hB2l).trans HB2.out) _ _ _ _ _ _ _ _ _ _ _ _ _ _ _ _ _ _ _ _ _ _ _ _ _ _ _ _ _ _ _ _ _ _ _ _ _ _ _ _ _ _ _ _ _ _ _ _ _ _ _ _ _ _ _ _ _ _ _ _ _ _ _ _ _ _ _ _ _ _ _ _ _ _ _ _ _ _ _ _ _ _ _ _ _ _ _ _ _ _ _ _ _ _ _ _ _ _ _ _ _ _ _ _ _ _ _ _ _ _ _ _ _ _ _ _ _ _ _ _ _ _ _ _ _ _ _ _ _ _ _ _ _ _ _ _ _ _ _ _ _ _ _ _ _ _ _ _ _ _ _ _ _ _ _ _ _ _ _ _ _ _ _ _ _ _ _ _ _ _ _ _ _ _ _ _ _ _ _ _ _ _ _ _ _ _ _ _ _ _ _ _ _ _ _ _ _ _ _ _ _ _ _ _ _ _ _ _ _ _ _ _ _ _ _ _ _ _ _ _ _ _ _ _ _ _ _ _ _ _ _ _ _ _ _ _ _ _ _ _ _ _ _ _ _ _ _ _ _ _ _ _ _ _ _ _ _ _ _ _ _ _ _ _ _ _ _ _ _ _ _ _ _ _ _ _ _ _ _ _ _ _ _ _ _ _ _ _ _ _ _ _ _ _ _ _ _ ?_
      · intro u19 u20 u21 u22 u23 u24 u25 u27 u28 u29 u30 u31 u32 u148 u149 u150 u151 u152 u153 u154 u155 u156 u157 u158 u159 u160 u161 u162 u163 u164 u165 u166 u167 u168 u169 u170 u171 u172 u173 u174 u175 u176 u177 u178 u179 u180 u181 u182 u183 u184 u185 u186 u187 u188 u189 u190 u191 u192 u193 u194 u195 u196 u197 u198 u199 u200 u201 u202 u203 u204 u205 u206 u207 u208 u209 u210 u211 u212 u213 u214 u215 u216 u217 u218 u219 u220 u221 u222 u223 u224 u225 u226 u227 u228 u229 u230 u231 u232 u233 u234 u235 u236 u237 u238 u239 u240 u241 u242 u243 u244 u245 u246 u247 u248 u249 u250 u251 u252 u253 u254 u255 u256 u257 u258 u259 u260 u261 u262 u263 u264 u265 u266 u267 u268 u269 u270 u271 u272 u273 u274 u275 u276 u277 u278 u279 u280 u281 u282 u283 u284 u285 u286 u287 u288 u289 u290 u291 u292 u293 u294 u295 u296 u297 u298 u299 u300 u301 u302 u303 wi hst
        obtain ⟨vL, q1, q2, q3, q4, q5, q6, q7⟩ := hst
        refine HQ.out _ _ _ _ _ _ _ _ _ _ _ _ _ _ _ _ _ _ _ _ _ _ _ _ _ _ _ _ _ _ _ _ _ _ _ _ _ _ _ _ _ _ _ _ _ _ _ _ _ _ _ _ _ _ _ _ _ _ _ _ _ _ _ _ _ _ _ _ _ _ _ _ _ _ _ _ _ _ _ _ _ _ _ _ _ _ _ _ _ _ _ _ _ _ _ _ _ _ _ _ _ _ _ _ _ _ _ _ _ _ _ _ _ _ _ _ _ _ _ _ _ _ _ _ _ _ _ _ _ _ _ _ _ _ _ _ _ _ _ _ _ _ _ _ _ _ _ _ _ _ _ _ _ _ _ _ _ _ _ _ _ _ _ _ _ _ _ _ _ _ _ _ _ _ _ _ _ _ _ _ _ _ _ _ _ _ _ _ _ _ _ _ _ _ _ _ _ _ _ _ _ _ _ _ _ _ _ _ _ _ _ _ _ _ _ _ _ _ _ _ _ _ _ _ _ _ _ _ _ _ _ _ _ _ _ _ _ _ _ _ _ _ _ _ _ _ _ _ _ _ _ _ _ _ _ _ _ _ _ _ _ _ _ _ _ _ _ ⟨vL, O, HO1.out, HO2.out, HO3.out, q1, q2, q3.trans HB7.out.os, q4.trans HB7.out.tape, q5.trans HB7.out.output, by omega, fun j hj hjb => (q7 j (by omega) hjb).trans (HB7.out.block j hj)⟩

end Go.Proofs.YbulkbgasDoor
