import Derived.Test.YbulkbgasDoorCk6
namespace Go.Proofs.YbulkbgasDoor
open Go.RowKit Go.Maps
set_option linter.unusedVariables false
attribute [local go_sem ↓] Go.wp_at_zero Go.wp_at_succ

set_option maxRecDepth 1000000 in
set_option maxHeartbeats 4000000 in
theorem ck_mid (w2 w3 : World) (B2 n capl : Nat) (as_ : Option Addr) (v3 : Value) (l : List Ac) (zs : List Int) (L : Nat → Nat) (hln : l.length = n) (hn : n ≤ 300) (hcl : n ≤ capl)
    (HT : Hid (∀ a ∈ l, 1 ≤ a.t ∧ a.t ≤ 4)) (HIT : Hid (∀ a ∈ l, a.it.size ≤ 100)) (HS : Hid (Els w2 3 as_ l.length fun i => (l.getD i ac0).cells)) (HLD : Hid (Laid w2)) (HB2 : Hid (w2.heap[B2]? = some (.cells #[.slice none 0 0, .slice none 0 0, .bool false] 28 (0, 0)))) (HB3 : Hid (Below w2.heap.size w2 w3))
    (HZ : Hid (w3.ownsRow w2.heap.size 32 1 v3 zs.length (rowT zs))) (HZN : Hid (zs.Nodup)) (HZM : Hid (∀ t, t ∈ zs ↔ ∃ a ∈ l, a.t = t)) (PL : Hid (Plain7 l L))
    (Q : Exit → Act → World → Prop) (c1 c4 c5 c6 c7 c8 c9 c10 c11 c12 c13 c14 c15 c16 c17 c18 c19 c20 c21 c22 c23 c24 c25 c26 c27 c28 c29 c30 c31 c32 c33 c34 c35 c36 c37 c38 c39 c40 c41 c42 c43 c44 c45 c46 c47 c48 c49 c50 c51 c52 c53 c54 c55 c56 c57 c58 c59 c60 c61 c62 c63 c64 c65 c66 c67 c68 c69 c70 c71 c72 c73 c74 c75 c76 c77 c78 c79 c80 c81 c82 c83 c84 c85 c86 c87 c88 c89 c90 c91 c92 c93 c94 c95 c96 c97 c98 c99 c100 c101 c102 c103 c104 c105 c106 c107 c108 c109 c110 c111 c112 c113 c114 c115 c116 c117 c118 c119 c120 c121 c122 c123 c124 c125 c126 c127 c128 c129 c130 c131 c132 c133 c134 c135 c136 c137 c138 c139 c140 c141 c142 c143 c144 c145 c146 c147 c148 c149 c150 c151 c152 c153 c154 c155 c156 c157 c158 c159 c160 c161 c162 c163 c164 c165 c166 c167 c168 c169 c170 c171 c172 c173 c174 c175 c176 c177 c178 c179 c180 c181 c182 c183 c184 c185 c186 c187 c188 c189 c190 c191 c192 c193 c194 c195 c196 c197 c198 c199 c200 c201 c202 c203 c204 c205 c206 c207 c208 c209 c210 c211 c212 c213 c214 c215 c216 c217 c218 c219 c220 c221 c222 c223 c224 c225 c226 c227 c228 c229 c230 c231 c232 c233 c234 c235 c236 c237 c238 c239 c240 c241 c242 c243 c244 c245 c246 c247 c248 c249 c250 c251 c252 c253 c254 c255 c256 c257 c258 c259 c260 c261 c262 c263 c264 c265 c266 c267 c268 c269 c270 c271 c272 c273 c274 c275 c276 c277 c278 c279 c280 c281 c282 c283 c284 c285 c286 c287 c288 c289 c290 c291 c292 c293 c294 c295 c296 c297 c298 c299 c300 c301 c302 c303 : Value)
    (hq : ∀ (u5 u6 u7 u8 u9 u10 u11 u12 u13 u14 u15 u16 u17 u18 u19 u20 u21 u22 u23 u24 u25 u26 u27 u28 u29 u30 u31 u32 u49 u50 u51 u52 u53 u54 u55 u56 u57 u58 u59 u60 u61 u62 u63 u64 u65 u66 u67 u68 u69 u70 u71 u72 u73 u74 u75 u76 u77 u78 u79 u80 u81 u82 u83 u84 u85 u86 u87 u88 u89 u90 u91 u92 u93 u94 u95 u96 u97 u98 u99 u100 u101 u102 u103 u104 u105 u106 u107 u108 u109 u110 u111 u112 u113 u114 u115 u116 u117 u118 u119 u120 u121 u122 u123 u124 u125 u126 u127 u128 u129 u130 u131 u132 u133 u134 u135 u136 u137 u138 u139 u140 u141 u142 u143 u144 u145 u146 u147 u148 u149 u150 u151 u152 u153 u154 u155 u156 u157 u158 u159 u160 u161 u162 u163 u164 u165 u166 u167 u168 u169 u170 u171 u172 u173 u174 u175 u176 u177 u178 u179 u180 u181 u182 u183 u184 u185 u186 u187 u188 u189 u190 u191 u192 u193 u194 u195 u196 u197 u198 u199 u200 u201 u202 u203 u204 u205 u206 u207 u208 u209 u210 u211 u212 u213 u214 u215 u216 u217 u218 u219 u220 u221 u222 u223 u224 u225 u226 u227 u228 u229 u230 u231 u232 u233 u234 u235 u236 u237 u238 u239 u240 u241 u242 u243 u244 u245 u246 u247 u248 u249 u250 u251 u252 u253 u254 u255 u256 u257 u258 u259 u260 u261 u262 u263 u264 u265 u266 u267 u268 u269 u270 u271 u272 u273 u274 u275 u276 u277 u278 u279 u280 u281 u282 u283 u284 u285 u286 u287 u288 u289 u290 u291 u292 u293 u294 u295 u296 u297 u298 u299 u300 u301 u302 u303 : Value) (wi : World), Res7 w2 wi B2 l L → Q .ret ⟨#[.slice as_ n capl, c1, .pointer (some ⟨B2, 0, none⟩), v3, c4, u5, u6, u7, u8, u9, u10, u11, u12, u13, u14, u15, u16, u17, u18, u19, u20, u21, u22, u23, u24, u25, u26, u27, u28, u29, u30, u31, u32, c33, c34, c35, c36, c37, c38, c39, c40, c41, c42, c43, c44, c45, c46, c47, c48, u49, u50, u51, u52, u53, u54, u55, u56, u57, u58, u59, u60, u61, u62, u63, u64, u65, u66, u67, u68, u69, u70, u71, u72, u73, u74, u75, u76, u77, u78, u79, u80, u81, u82, u83, u84, u85, u86, u87, u88, u89, u90, u91, u92, u93, u94, u95, u96, u97, u98, u99, u100, u101, u102, u103, u104, u105, u106, u107, u108, u109, u110, u111, u112, u113, u114, u115, u116, u117, u118, u119, u120, u121, u122, u123, u124, u125, u126, u127, u128, u129, u130, u131, u132, u133, u134, u135, u136, u137, u138, u139, u140, u141, u142, u143, u144, u145, u146, u147, u148, u149, u150, u151, u152, u153, u154, u155, u156, u157, u158, u159, u160, u161, u162, u163, u164, u165, u166, u167, u168, u169, u170, u171, u172, u173, u174, u175, u176, u177, u178, u179, u180, u181, u182, u183, u184, u185, u186, u187, u188, u189, u190, u191, u192, u193, u194, u195, u196, u197, u198, u199, u200, u201, u202, u203, u204, u205, u206, u207, u208, u209, u210, u211, u212, u213, u214, u215, u216, u217, u218, u219, u220, u221, u222, u223, u224, u225, u226, u227, u228, u229, u230, u231, u232, u233, u234, u235, u236, u237, u238, u239, u240, u241, u242, u243, u244, u245, u246, u247, u248, u249, u250, u251, u252, u253, u254, u255, u256, u257, u258, u259, u260, u261, u262, u263, u264, u265, u266, u267, u268, u269, u270, u271, u272, u273, u274, u275, u276, u277, u278, u279, u280, u281, u282, u283, u284, u285, u286, u287, u288, u289, u290, u291, u292, u293, u294, u295, u296, u297, u298, u299, u300, u301, u302, u303], []⟩ wi) :
    Code.wp Ybad.prog (tail7 8) Q ⟨#[.slice as_ n capl, c1, .pointer (some ⟨B2, 0, none⟩), v3, c4, c5, c6, c7, c8, c9, c10, c11, c12, c13, c14, c15, c16, c17, c18, c19, c20, c21, c22, c23, c24, c25, c26, c27, c28, c29, c30, c31, c32, c33, c34, c35, c36, c37, c38, c39, c40, c41, c42, c43, c44, c45, c46, c47, c48, c49, c50, c51, c52, c53, c54, c55, c56, c57, c58, c59, c60, c61, c62, c63, c64, c65, c66, c67, c68, c69, c70, c71, c72, c73, c74, c75, c76, c77, c78, c79, c80, c81, c82, c83, c84, c85, c86, c87, c88, c89, c90, c91, c92, c93, c94, c95, c96, c97, c98, c99, c100, c101, c102, c103, c104, c105, c106, c107, c108, c109, c110, c111, c112, c113, c114, c115, c116, c117, c118, c119, c120, c121, c122, c123, c124, c125, c126, c127, c128, c129, c130, c131, c132, c133, c134, c135, c136, c137, c138, c139, c140, c141, c142, c143, c144, c145, c146, c147, c148, c149, c150, c151, c152, c153, c154, c155, c156, c157, c158, c159, c160, c161, c162, c163, c164, c165, c166, c167, c168, c169, c170, c171, c172, c173, c174, c175, c176, c177, c178, c179, c180, c181, c182, c183, c184, c185, c186, c187, c188, c189, c190, c191, c192, c193, c194, c195, c196, c197, c198, c199, c200, c201, c202, c203, c204, c205, c206, c207, c208, c209, c210, c211, c212, c213, c214, c215, c216, c217, c218, c219, c220, c221, c222, c223, c224, c225, c226, c227, c228, c229, c230, c231, c232, c233, c234, c235, c236, c237, c238, c239, c240, c241, c242, c243, c244, c245, c246, c247, c248, c249, c250, c251, c252, c253, c254, c255, c256, c257, c258, c259, c260, c261, c262, c263, c264, c265, c266, c267, c268, c269, c270, c271, c272, c273, c274, c275, c276, c277, c278, c279, c280, c281, c282, c283, c284, c285, c286, c287, c288, c289, c290, c291, c292, c293, c294, c295, c296, c297, c298, c299, c300, c301, c302, c303], []⟩ w3 := by
  refine Code.wp_mono NoPanic.imp ?_
  have HQ := hid hq
  clear hq
  conv => arg 2; whnf
  have HZS := hid (srt_txL HZN.out HZM.out HT.out)
  have HZL := hid (show zs.length = (txL l).length from by rw [← HZS.out, srt_length])
  have htl := txL_length l
  have hmem : ∀ a ∈ l, a.t ∈ txL l := fun a ha => (txL_mem HT.out _).2 ⟨a, ha, rfl⟩
  have HMEM := hid hmem
  clear hmem
  have HSORT := hid (sort_own HZ.out HB3.out (by have := HZL.out; omega))
  obtain ⟨at_, capt, hv3, _, _, _⟩ := own_form HZ.out
  rw [HZL.out] at hv3
  subst hv3
  have HLN := hid hln
  have HB2l := hid (Array.getElem?_eq_some_iff.1 HB2.out).1
  have hA : (acL l).length ≤ 300 := Nat.le_trans (accN_length_le _ _ _) (by omega)
  have hil : (itemsOf l).length ≤ 300 := Nat.le_trans (itemsOf_length_le l) (by omega)
  have HSA := hid (show SlA w2 (.slice as_ n capl) l from ⟨as_, capl, by rw [hln], by omega, HS.out⟩)
  clear hln
  dsimp only
  go_upto_region 9 with (go_at_call 20; refine Calls.mono HSORT.out ?_; rintro e w4 ⟨rfl, hsl, hb⟩; have HSL := hid hsl; have HB4 := hid hb; clear hsl hb; dsimp only)
  rw [HZS.out] at HSL
  have hz4 := HB4.out.size
  have HCONF := hid (conf_any w4 (.slice as_ n capl) (.slice at_ (txL l).length capt) l (txL l) (by have := HLN.out; omega) (HSA.out.below HB4.out) HSL.out (by omega) (txL_nodup l) (fun t h => txL_bd h) HMEM.out HIT.out)
  go_upto_region 10 with (go_at_call 21; refine Calls.mono HCONF.out ?_; rintro e w5 ⟨va, rfl, hbx, hxs, hb⟩; have HBX := hid hbx; have HXS := hid hxs; have HB5 := hid hb; clear hbx hxs hb; dsimp only)
  have hz5 := HB5.out.size
  have HB52 := hid (HB4.out.trans (HB5.out.mono hz4))
  have hBc := (Array.getElem?_eq_some_iff.1 HBX.out).1
  have HSPAN := hid (spans_any w5 w4.heap.size _ _ va (acL l) (by omega) hBc HBX.out HXS.out (fun a ha => by have := accN_lt HMEM.out ha; have := HLN.out; omega))
  go_upto_region 11 with (go_at_call 22; refine Calls.mono HSPAN.out ?_; rintro e w6 ⟨vl, rfl, hsp, hof, _, hb⟩; obtain ⟨al, capS, hvl, hcS, hel⟩ := id hsp; subst hvl; have HSP := hid hsp; have HOF := hid hof; have HEL := hid hel; have HB6 := hid hb; clear hsp hof hb hel; dsimp only)
  have hz6 := HB6.out.size
  have HB62 := hid (HB52.out.trans (HB6.out.mono (by omega)))
  obtain ⟨w7, hw7⟩ : ∃ w7, w7 = w6.alloc (.cells #[.slice al (spF (acL l)).length capS, .slice (some ⟨w5.heap.size + 1, 0, none⟩) (acL l).length (acL l).length, .map (some (w5.heap.size + 2))] 57) := ⟨_, rfl⟩
  have hz7 : w7.heap.size = w6.heap.size + 1 := by rw [hw7]; simp
  have hz2 := HB62.out.size
  have HB76 := hid (show Below w6.heap.size w6 w7 from by rw [hw7]; exact (Below.refl _ _).alloc (Nat.le_refl _) _)
  have HBOX := hid (show w7.heap[w6.heap.size]? = some (.cells #[.slice al (spF (acL l)).length capS, .slice (some ⟨w5.heap.size + 1, 0, none⟩) (acL l).length (acL l).length, .map (some (w5.heap.size + 2))] 57 (0, 0)) from by rw [hw7]; exact heap_alloc_new _ _)
  rw [← hw7]
  clear hw7
  have HB72 := hid (HB62.out.trans (HB76.out.mono (by omega)))
  have HBX6 := hid ((HB6.out.block _ hBc).trans HBX.out)
  have HBX7 := hid ((HB76.out.block _ (by omega)).trans HBX6.out)
  have HXS7 := hid ((HXS.out.below HB6.out).below HB76.out)
  have HSP7 := hid (HSP.out.below HB76.out)
  have HOF7 := hid (show Fix w7 (w5.heap.size + 1) 3 (acL l).length (ofN (acL l) (acL l).length) from (HB76.out.block _ HOF.out.lt).trans HOF.out)
  have HFC := hid (fun W back hb => first_at w7 l (by have := HLN.out; omega) HT.out w4.heap.size (w5.heap.size + 1) (w5.heap.size + 2) w6.heap.size capt capS at_ al va (by omega) HBX7.out HXS7.out HSP7.out HOF7.out HBOX.out W back hb)
  have q0 : w7.cell? ⟨w6.heap.size, 0, none⟩ = some (.slice al (spF (acL l)).length capS) := by rw [cell_of_row _ _ _ _ _ _ HBOX.out]; rfl
  have q1 : w7.cell? ⟨w6.heap.size, 1, none⟩ = some (.slice (some ⟨w5.heap.size + 1, 0, none⟩) (acL l).length (acL l).length) := by rw [cell_of_row _ _ _ _ _ _ HBOX.out]; rfl
  have q2 : w7.cell? ⟨w6.heap.size, 2, none⟩ = some (.map (some (w5.heap.size + 2))) := by rw [cell_of_row _ _ _ _ _ _ HBOX.out]; rfl
  have q3 : Below w7.heap.size w7 w7.drew := (Below.refl _ _).drew
  clear hBc
  go_cut [7, 8] from 56 to 61 (fun p1 p2 wd => ∃ Bu Bl, p1 = .slice (some ⟨Bu, 0, none⟩) (txL l).length (txL l).length ∧ p2 = .slice (some ⟨Bl, 0, none⟩) (txL l).length (txL l).length ∧ Fix wd Bu 65 ((txL l).length * 2) (fun j => .int .i64 (fcL false l j)) ∧ Fix wd Bl 65 ((txL l).length * 2) (fun j => .int .i64 (fcL true l j)) ∧ Below w7.heap.size w7 wd)
  case first =>
    go_region_held3 (fun W => Below w7.heap.size w7 W ∧ W.cell? ⟨w6.heap.size, 0, none⟩ = some (.slice al (spF (acL l)).length capS) ∧ W.cell? ⟨w6.heap.size, 1, none⟩ = some (.slice (some ⟨w5.heap.size + 1, 0, none⟩) (acL l).length (acL l).length) ∧ W.cell? ⟨w6.heap.size, 2, none⟩ = some (.map (some (w5.heap.size + 2)))) ((refine ⟨by first | assumption | exact Below.drew (by assumption), ?_⟩; go_keep)) ((go_at_call 23; refine Calls.mono (HFC.out _ _ (by go_split_ands; assumption)) ?_; rintro e wU ⟨rfl, hU, hUb, hU7, hU0, hU1, hU2⟩; dsimp only))
    all_goals go_wp2
    all_goals go_meet
    rename_i wA hA1 hA2 hA3 hA4 hA5 hA6 hA7
    rw [show w7.drew.heap.size = w6.heap.size + 1 from hz7] at hA1
    exact ⟨_, _, rfl, rfl, (hUb.block _ hA1.lt).trans hA1, hU, hU7⟩
  case rest =>
    obtain ⟨Bu, Bl, rfl, rfl, hfu, hfl, hb8⟩ := hcut
    have HFU := hid hfu
    have HFL := hid hfl
    have HB8 := hid hb8
    have hz8 := hb8.size
    clear hfu hfl hb8 q0 q1 q2 q3
    have HB82 := hid (HB72.out.trans (HB8.out.mono (by omega)))
    apply_assumption
    refine ck_tail12 _ w4.heap.size (txL l).length n B2 w6.heap.size (w5.heap.size + 1) (acL l).length (w5.heap.size + 2) Bu Bl capl capt capS (itemsOf l).length at_ as_ al va (acL l) l (spF (acL l)) (txL l) (fcL false l) (fcL true l) L HLN.out hn (by omega) (by omega) hA rfl (hid PL.out.ok) (by omega) ((HB8.out.block _ (by omega)).trans HBX7.out) (hid (HXS7.out.below HB8.out)) (hid fun a ha => ⟨(accN_lt HMEM.out ha).1, (accN_lt HMEM.out ha).2.1⟩) (hid (((HSL.out.below HB5.out).below HB6.out |>.below HB76.out).below HB8.out)) (hid txL_get) HFU.out.lt HFL.out.lt (hid fun j hj => HFU.out.cell hj) (hid fun j hj => HFL.out.cell hj) (hid PL.out.h1) (hid PL.out.hx) (hid (by have := PL.out.hl; rw [HLN.out] at this; exact this)) (hid PL.out.h3) (hid (HS.out.below HB82.out)) (hid ((HEL.out.below HB76.out).below HB8.out)) (hid (HLD.out.below HB82.out)) (hid ((HB8.out.block _ (by omega)).trans HBOX.out)) (hid ((HB82.out.block _ HB2l.out).trans HB2.out)) _ _ _ _ _ _ _ _ _ _ _ _ _ _ _ _ _ _ _ _ _ _ _ _ _ _ _ _ _ _ _ _ _ _ _ _ _ _ _ _ _ _ _ _ _ _ _ _ _ _ _ _ _ _ _ _ _ _ _ _ _ _ _ _ _ _ _ _ _ _ _ _ _ _ _ _ _ _ _ _ _ _ _ _ _ _ _ _ _ _ _ _ _ _ _ _ _ _ _ _ _ _ _ _ _ _ _ _ _ _ _ _ _ _ _ _ _ _ _ _ _ _ _ _ _ _ _ _ _ _ _ _ _ _ _ _ _ _ _ _ _ _ _ _ _ _ _ _ _ _ _ _ _ _ _ _ _ _ _ _ _ _ _ _ _ _ _ _ _ _ _ _ _ _ _ _ _ _ _ _ _ _ _ _ _ _ _ _ _ _ _ _ _ _ _ _ _ _ _ _ _ _ _ _ _ _ _ _ _ _ _ _ _ _ _ _ _ _ _ _ _ _ _ _ _ _ _ _ _ _ _ _ _ _ _ _ _ _ _ _ _ _ _ _ _ _ _ _ _ _ _ _ _ _ _ _ _ _ _ _ _ _ _ _ _ _ _ _ _ _ _ _ _ _ _ _ _ _ _ _ _ _ _ _ _ _ _ _ _ _ _ _ _ _ _ _ _ _ _ ?_
    intro u9 u10 u11 u12 u13 u14 u15 u16 u17 u18 u19 u20 u21 u22 u23 u24 u25 u26 u27 u28 u29 u30 u31 u32 u62 u63 u64 u65 u66 u67 u68 u69 u70 u71 u72 u73 u74 u75 u76 u77 u78 u79 u80 u81 u82 u83 u84 u85 u86 u87 u88 u89 u90 u91 u92 u93 u94 u95 u96 u97 u98 u99 u100 u101 u102 u103 u104 u105 u106 u107 u108 u109 u110 u111 u112 u113 u114 u115 u116 u117 u118 u119 u120 u121 u122 u123 u124 u125 u126 u127 u128 u129 u130 u131 u132 u133 u134 u135 u136 u137 u138 u139 u140 u141 u142 u143 u144 u145 u146 u147 u148 u149 u150 u151 u152 u153 u154 u155 u156 u157 u158 u159 u160 u161 u162 u163 u164 u165 u166 u167 u168 u169 u170 u171 u172 u173 u174 u175 u176 u177 u178 u179 u180 u181 u182 u183 u184 u185 u186 u187 u188 u189 u190 u191 u192 u193 u194 u195 u196 u197 u198 u199 u200 u201 u202 u203 u204 u205 u206 u207 u208 u209 u210 u211 u212 u213 u214 u215 u216 u217 u218 u219 u220 u221 u222 u223 u224 u225 u226 u227 u228 u229 u230 u231 u232 u233 u234 u235 u236 u237 u238 u239 u240 u241 u242 u243 u244 u245 u246 u247 u248 u249 u250 u251 u252 u253 u254 u255 u256 u257 u258 u259 u260 u261 u262 u263 u264 u265 u266 u267 u268 u269 u270 u271 u272 u273 u274 u275 u276 u277 u278 u279 u280 u281 u282 u283 u284 u285 u286 u287 u288 u289 u290 u291 u292 u293 u294 u295 u296 u297 u298 u299 u300 u301 u302 u303 wi hst
    obtain ⟨vL, O, r1, r2, r3, r4, r5, r6, r7, r8, r9, r10⟩ := hst
    exact HQ.out _ _ _ _ _ _ _ _ _ _ _ _ _ _ _ _ _ _ _ _ _ _ _ _ _ _ _ _ _ _ _ _ _ _ _ _ _ _ _ _ _ _ _ _ _ _ _ _ _ _ _ _ _ _ _ _ _ _ _ _ _ _ _ _ _ _ _ _ _ _ _ _ _ _ _ _ _ _ _ _ _ _ _ _ _ _ _ _ _ _ _ _ _ _ _ _ _ _ _ _ _ _ _ _ _ _ _ _ _ _ _ _ _ _ _ _ _ _ _ _ _ _ _ _ _ _ _ _ _ _ _ _ _ _ _ _ _ _ _ _ _ _ _ _ _ _ _ _ _ _ _ _ _ _ _ _ _ _ _ _ _ _ _ _ _ _ _ _ _ _ _ _ _ _ _ _ _ _ _ _ _ _ _ _ _ _ _ _ _ _ _ _ _ _ _ _ _ _ _ _ _ _ _ _ _ _ _ _ _ _ _ _ _ _ _ _ _ _ _ _ _ _ _ _ _ _ _ _ _ _ _ _ _ _ _ _ _ _ _ _ _ _ _ _ _ _ _ _ _ _ _ _ _ _ _ _ _ _ _ _ _ _ _ _ _ _ _ _ _ _ _ _ _ _ _ _ _ _ _ _ _ _ _ _ ⟨vL, O, r1, r2, r3, r4, r5, r6.trans HB82.out.os, r7.trans HB82.out.tape, r8.trans HB82.out.output, by have := HB82.out.size; omega, fun k hk hkb => (r10 k (by have := HB82.out.size; omega) hkb).trans (HB82.out.block k hk)⟩

end Go.Proofs.YbulkbgasDoor
