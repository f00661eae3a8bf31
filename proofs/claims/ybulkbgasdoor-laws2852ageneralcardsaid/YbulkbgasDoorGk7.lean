import Derived.Test.YbulkbgasDoorGk6
import Derived.Test.YbulkbgasDoorNa3
namespace Go.Proofs.YbulkbgasDoor
open Go.RowKit Go.Maps
set_option linter.unusedVariables false
set_option linter.unusedSimpArgs false
attribute [local go_sem ↓] Go.wp_at_zero Go.wp_at_succ

set_option maxRecDepth 1000000 in
set_option maxHeartbeats 2000000 in
theorem gk_tail12 (w6 : World) (Bc nT n B2 B6 Bo Bm Bu Bl capl capt capS m : Nat) (at_ as_ al : Option Addr) (va : Value) (A : List Acc) (l : List Ac) (S : List Sp) (tx : List Int) (FU FL : Nat → Int)
    (G : Hid (GenP l A tx nT FU FL (naF nT A).X)) (hS : Hid (S = spF A)) (hln : l.length = n) (hn : n ≤ 300) (hnT : nT ≤ 10) (hm : m ≤ 1000) (hA : A.length ≤ 300) (HSM3 : Hid (∀ a ∈ A, a.x < nT ∧ a.i < m ∧ a.p < l.length)) (HSPB : Hid (∀ s ∈ S, s.x < nT ∧ s.f < l.length ∧ s.w < (l.length : Int) ∧ -1 ≤ s.w ∧ s.la < l.length)) (htl : tx.length = nT)
    (hBc : Bc < w6.heap.size) (hbx : w6.heap[Bc]? = some (.cells #[.slice at_ nT capt, .int .i64 (m : Int), va] 63 (0, 0))) (HVA : Hid (SlX w6 va A)) (HTX : Hid (SlI w6 (.slice at_ nT capt) tx)) (HSO : Hid (∀ i j (hi : i < tx.length) (hj : j < tx.length), i < j → tx[i] < tx[j]))
    (hBu : Bu < w6.heap.size) (hBl : Bl < w6.heap.size) (HU : Hid (∀ j, j < nT * 2 → w6.cell? ⟨Bu, j, none⟩ = some (.int .i64 (FU j)))) (HV : Hid (∀ j, j < nT * 2 → w6.cell? ⟨Bl, j, none⟩ = some (.int .i64 (FL j))))
    (HVS : Hid (SlA w6 (.slice as_ n capl) l)) (HSP : Hid (SlS w6 (.slice al S.length capS) S)) (HMP : Hid (MapI F98 w6 Bm A.length (keysF A).length (loc (keysF A)))) (HLD : Hid (Laid w6)) (HB6 : Hid (w6.heap[B6]? = some (.cells #[.slice al S.length capS, .slice (some ⟨Bo, 0, none⟩) A.length A.length, .map (some Bm)] 57 (0, 0)))) (HB2 : Hid (w6.heap[B2]? = some (.cells #[.slice none 0 0, .slice none 0 0, .bool false] 28 (0, 0))))
    (Q : Exit → Act → World → Prop) (c1 c3 c4 c9 c10 c11 c12 c13 c14 c15 c16 c17 c18 c19 c20 c21 c22 c23 c24 c25 c26 c27 c28 c29 c30 c31 c32 c33 c34 c35 c36 c37 c38 c39 c40 c41 c42 c43 c44 c45 c46 c47 c48 c49 c50 c51 c52 c53 c54 c55 c56 c57 c58 c59 c60 c61 c62 c63 c64 c65 c66 c67 c68 c69 c70 c71 c72 c73 c74 c75 c76 c77 c78 c79 c80 c81 c82 c83 c84 c85 c86 c87 c88 c89 c90 c91 c92 c93 c94 c95 c96 c97 c98 c99 c100 c101 c102 c103 c104 c105 c106 c107 c108 c109 c110 c111 c112 c113 c114 c115 c116 c117 c118 c119 c120 c121 c122 c123 c124 c125 c126 c127 c128 c129 c130 c131 c132 c133 c134 c135 c136 c137 c138 c139 c140 c141 c142 c143 c144 c145 c146 c147 c148 c149 c150 c151 c152 c153 c154 c155 c156 c157 c158 c159 c160 c161 c162 c163 c164 c165 c166 c167 c168 c169 c170 c171 c172 c173 c174 c175 c176 c177 c178 c179 c180 c181 c182 c183 c184 c185 c186 c187 c188 c189 c190 c191 c192 c193 c194 c195 c196 c197 c198 c199 c200 c201 c202 c203 c204 c205 c206 c207 c208 c209 c210 c211 c212 c213 c214 c215 c216 c217 c218 c219 c220 c221 c222 c223 c224 c225 c226 c227 c228 c229 c230 c231 c232 c233 c234 c235 c236 c237 c238 c239 c240 c241 c242 c243 c244 c245 c246 c247 c248 c249 c250 c251 c252 c253 c254 c255 c256 c257 c258 c259 c260 c261 c262 c263 c264 c265 c266 c267 c268 c269 c270 c271 c272 c273 c274 c275 c276 c277 c278 c279 c280 c281 c282 c283 c284 c285 c286 c287 c288 c289 c290 c291 c292 c293 c294 c295 c296 c297 c298 c299 c300 c301 c302 c303 : Value)
    (hret : ∀ (tm : Array Value) (wi : World), tm.getD 2 undef = .pointer (some ⟨B2, 0, none⟩) → GRes l S tx nT FU FL (naF nT A).X w6 wi B2 → Q .ret ⟨tm, []⟩ wi) :
    Code.wp Ybad.prog (tail7 12) Q ⟨#[.slice as_ n capl, c1, .pointer (some ⟨B2, 0, none⟩), c3, c4, .pointer (some ⟨Bc, 0, none⟩), .pointer (some ⟨B6, 0, none⟩), .slice (some ⟨Bu, 0, none⟩) nT nT, .slice (some ⟨Bl, 0, none⟩) nT nT, c9, c10, c11, c12, c13, c14, c15, c16, c17, c18, c19, c20, c21, c22, c23, c24, c25, c26, c27, c28, c29, c30, c31, c32, c33, c34, c35, c36, c37, c38, c39, c40, c41, c42, c43, c44, c45, c46, c47, c48, c49, c50, c51, c52, c53, c54, c55, c56, c57, c58, c59, c60, c61, c62, c63, c64, c65, c66, c67, c68, c69, c70, c71, c72, c73, c74, c75, c76, c77, c78, c79, c80, c81, c82, c83, c84, c85, c86, c87, c88, c89, c90, c91, c92, c93, c94, c95, c96, c97, c98, c99, c100, c101, c102, c103, c104, c105, c106, c107, c108, c109, c110, c111, c112, c113, c114, c115, c116, c117, c118, c119, c120, c121, c122, c123, c124, c125, c126, c127, c128, c129, c130, c131, c132, c133, c134, c135, c136, c137, c138, c139, c140, c141, c142, c143, c144, c145, c146, c147, c148, c149, c150, c151, c152, c153, c154, c155, c156, c157, c158, c159, c160, c161, c162, c163, c164, c165, c166, c167, c168, c169, c170, c171, c172, c173, c174, c175, c176, c177, c178, c179, c180, c181, c182, c183, c184, c185, c186, c187, c188, c189, c190, c191, c192, c193, c194, c195, c196, c197, c198, c199, c200, c201, c202, c203, c204, c205, c206, c207, c208, c209, c210, c211, c212, c213, c214, c215, c216, c217, c218, c219, c220, c221, c222, c223, c224, c225, c226, c227, c228, c229, c230, c231, c232, c233, c234, c235, c236, c237, c238, c239, c240, c241, c242, c243, c244, c245, c246, c247, c248, c249, c250, c251, c252, c253, c254, c255, c256, c257, c258, c259, c260, c261, c262, c263, c264, c265, c266, c267, c268, c269, c270, c271, c272, c273, c274, c275, c276, c277, c278, c279, c280, c281, c282, c283, c284, c285, c286, c287, c288, c289, c290, c291, c292, c293, c294, c295, c296, c297, c298, c299, c300, c301, c302, c303], []⟩ w6 := by
  refine Code.wp_mono NoPanic.imp ?_
  have HR := hid hret
  clear hret
  conv => arg 2; whnf
  have c0 : w6.cell? ⟨Bc, 0, none⟩ = some (.slice at_ nT capt) := by rw [cell_of_row _ _ _ _ _ _ hbx]; rfl
  have HBX := hid hbx
  have HSM := hid (show ∀ a ∈ A, a.x < nT ∧ a.i < m from fun a ha => ⟨(HSM3.out a ha).1, (HSM3.out a ha).2.1⟩)
  have HTL := hid htl
  have HLN := hid hln
  clear hbx htl hln
  have hB6l := (Array.getElem?_eq_some_iff.1 HB6.out).1
  have hB2l := (Array.getElem?_eq_some_iff.1 HB2.out).1
  dsimp only
  go_wp2_with fail
  go_loopg [67] nT (fun g0 iv wi => ∃ i : Nat, i ≤ nT ∧ g0 = nT - i ∧ iv = .int .i64 (i : Int) ∧ Below w6.heap.size w6 wi ∧ ∀ j, j < i → ¬ (0 ≤ FU (j * 2 + 1) ∧ FU (j * 2 + 1) ≤ FL (j * 2)))
  case atStart => exact ⟨0, Nat.zero_le _, rfl, rfl, Below.refl _ _, fun j hj => by omega⟩
  case round =>
    obtain ⟨i, hi, rfl, rfl, hst, hno⟩ := hrel
    have N1 := hid hst
    have HNO := hid hno
    clear hst c0 hno
    by_cases hlt : i < nT
    · refine gk_round2 w6 wr nT n i Bu Bl B2 capl as_ l S A tx FU FL (naF nT A).X G HLN.out hn HVS HB2 (by omega) hlt hBu hBl (HU.out _ (by omega)) (HU.out _ (by omega)) (HV.out _ (by omega)) (HV.out _ (by omega)) N1 _ _ _ _ _ _ _ _ _ _ _ _ _ _ _ _ _ _ _ _ _ _ _ _ _ _ _ _ _ _ _ _ _ _ _ _ _ _ _ _ _ _ _ _ _ _ _ _ _ _ _ _ _ _ _ _ _ _ _ _ _ _ _ _ _ _ _ _ _ _ _ _ _ _ _ _ _ _ _ _ _ _ _ _ _ _ _ _ _ _ _ _ _ _ _ _ _ _ _ _ _ _ _ _ _ _ _ _ _ _ _ _ _ _ _ _ _ _ _ _ _ _ _ _ _ _ _ _ _ _ _ _ _ _ _ _ _ _ _ _ _ _ _ _ _ _ _ _ _ _ _ _ _ _ _ _ _ _ _ _ _ _ _ _ _ _ _ _ _ _ _ _ _ _ _ _ _ _ _ _ _ _ _ _ _ _ _ _ _ _ _ _ _ _ _ _ _ _ _ _ _ _ _ _ _ _ _ _ _ _ _ _ _ _ _ _ _ _ _ _ _ _ _ _ _ _ _ _ _ _ _ _ _ _ _ _ _ _ _ _ _ _ _ _ _ _ _ _ _ _ _ _ _ _ _ _ _ _ _ _ _ _ _ _ _ _ _ _ _ _ _ _ _ _ _ _ _ _ _ _ _ _ _ _ _ _ _ _ _ _ _ _ _ _ _ _ _ _ _ ?_ ?_
      · intro tm wi h1 h2
        try dsimp only [Exit.then]
        exact HR.out tm wi h1 h2
      intro u9 u10 u11 u68 u69 u70 u71 u72 u73 u74 u75 u76 u77 u78 u79 u80 u81 u82 u83 u84 u85 u86 u87 u88 u89 u90 u91 u92 u93 u94 u95 u96 wi hst
      obtain ⟨hst, hno⟩ := hst
      dsimp only [Exit.then]
      go_wp2_with fail
      go_roundg (nT - (i + 1))
      case measure => omega
      case rel => exact ⟨i + 1, by omega, rfl, rfl, hst, fun j hj => by
        by_cases e : j = i
        · subst e; exact hno
        · exact HNO.out j (by omega)⟩
    · obtain rfl : i = nT := by omega
      have hz := N1.out.size
      have HNR := hid (near_any wr Bc i m capt at_ va A (by omega) (by omega) hm (by omega) ((N1.out.block Bc hBc).trans HBX.out) (HVA.out.below N1.out) HSM.out)
      go_upto_region 20 with (go_at_call 25; refine Calls.mono HNR.out ?_; rintro e wN ⟨v, rfl, hfx, hfam, hbN⟩; have HFX := hid hfx; have HFM := hid hfam; have HBN := hid hbN; clear hfx hfam hbN; dsimp only)
      have HBN6 := hid (N1.out.trans (HBN.out.mono hz))
      have hzN := HBN6.out.size
      have hzN2 := HBN.out.size
      have hFl := HFX.out.lt
      have c1 := (HBN6.out.cell (p := ⟨Bc, 0, none⟩) hBc).trans (show w6.cell? ⟨Bc, 0, none⟩ = some (.slice at_ i capt) from by rw [cell_of_row _ _ _ _ _ _ HBX.out]; rfl)
      have HLX := hid (naF_len (n := i) (m := m) A (fun a ha => (HSM.out a ha).1) hA).1
      have hlen : ∀ j, j < i → ((naF i A).X j).length ≤ 100000 := fun j hj => by have := HLX.out.1 j hj; have : A.length * 300 ≤ 300 * 300 := Nat.mul_le_mul_right _ hA; omega
      have HLE := hid hlen
      clear hlen
      have HOR := hid (order_gen wN (.slice at_ i capt) tx (wr.heap.size + 1) i (naF i A).X v HTL.out (HTX.out.below HBN6.out) (by omega) HFX.out (fun j hj => ⟨_, HFM.out.own j (by omega)⟩) (fun j hj k hk => (G.out.ar j hj k hk).1) HLE.out)
      go_upto_if 109 with (go_at_call 26; refine Calls.mono HOR.out ?_; rintro e w7 ⟨ho6, hoc⟩; rcases hoc with ⟨vo, O, rfl, hof, ho1, ho2, ho3, ho4, ho5⟩ | ⟨O, rfl, ho1, ho2, ho3, ho4⟩ <;> have HO6 := hid ho6 <;> dsimp only)
      · have HOF := hid hof
        have HO1 := hid ho1
        have HO2 := hid ho2
        have HO3 := hid ho3
        have HO4 := hid ho4
        have HO5 := hid ho5
        clear hof ho1 ho2 ho3 ho4 ho5 ho6
        obtain ⟨bo, co, hvo⟩ := HOF.out
        subst hvo
        have HB7 := hid (HBN6.out.trans (HO6.out.mono hzN))
        have hz7 := HB7.out.size
        have hz8 := HO6.out.size
        obtain ⟨a', cap', e1, e2, e3⟩ := HO5.out
        simp only [Value.slice.injEq] at e1
        obtain ⟨rfl, _, rfl⟩ := e1
        have hbo : ∀ k (hk : k < O.length), bo < w7.heap.size ∧ w7.cell? ⟨bo, 0 + k, none⟩ = some (.int .i64 (tx.getD O[k] 0)) := fun k hk => by
          obtain ⟨b', o', f1, f2, f3⟩ := e3 k (by rw [List.length_map]; exact hk)
          simp only [Option.some.injEq, Addr.mk.injEq, and_true] at f1
          obtain ⟨rfl, rfl⟩ := f1
          have f4 := f3 0 _ rfl
          rw [Nat.mul_one] at f4
          refine ⟨f2, ?_⟩
          rw [show 0 + k = 0 + k + 0 by omega, f4]
          simp [List.getD_eq_getElem?_getD, List.getElem?_map, List.getElem?_eq_getElem hk]
        have HN := hid (show Near w7 (wr.heap.size + 1) i (naF i A).X from ⟨by omega, fun j hj => by
          have hown := HFM.out.own j (by omega)
          obtain ⟨ax, capx, hvx, _, _, _⟩ := own_form hown
          refine ⟨ax, capx, (HO6.out.cell (p := ⟨wr.heap.size + 1, j, none⟩) hFl).trans (by rw [HFX.out.cell hj, hvx]), HLE.out j hj, fun t ht => ?_⟩
          obtain ⟨g, cap, h1, h2, h3, h4, h5⟩ := ownI_cell hown ht
          rw [hvx] at h1
          simp only [Value.slice.injEq] at h1
          exact ⟨g, 0, h1.1, by omega, (HO6.out.cell (p := ⟨g, 0 + t, none⟩) h3).trans (by rw [Nat.zero_add]; exact h5)⟩⟩)
        refine wp_cond_false rfl (wp_skip ?_)
        dsimp only [Exit.then]
        apply_assumption
        refine gk_tail30 w7 Bc i n B2 B6 Bo Bm Bu Bl (wr.heap.size + 1) bo 0 co capl capt capS m at_ as_ al va l A S tx FU FL (naF i A).X O G hS HLN.out hn hnT hm hA HSM3 HSPB HTL.out HO1.out HO2 HO3 HO4 HNO (by omega) ((HB7.out.block Bc hBc).trans HBX.out) (hid (HTX.out.below HB7.out)) HSO (hid hbo) (by omega) (by omega) (hid (fun j hj => (HB7.out.cell (p := ⟨Bu, j, none⟩) hBu).trans (HU.out j hj))) (hid (fun j hj => (HB7.out.cell (p := ⟨Bl, j, none⟩) hBl).trans (HV.out j hj))) HN (hid (HVA.out.below HB7.out)) (hid (HVS.out.below HB7.out)) (hid (HSP.out.below HB7.out)) (hid (MapF.kept HMP.out (below_gr HB7.out) (by simp))) (HLD.out.below HB7.out) ((HB7.out.block B6 hB6l).trans HB6.out) ((HB7.out.block B2 hB2l).trans HB2.out) _ _ _ _ _ _ _ _ _ _ _ _ _ _ _ _ _ _ _ _ _ _ _ _ _ _ _ _ _ _ _ _ _ _ _ _ _ _ _ _ _ _ _ _ _ _ _ _ _ _ _ _ _ _ _ _ _ _ _ _ _ _ _ _ _ _ _ _ _ _ _ _ _ _ _ _ _ _ _ _ _ _ _ _ _ _ _ _ _ _ _ _ _ _ _ _ _ _ _ _ _ _ _ _ _ _ _ _ _ _ _ _ _ _ _ _ _ _ _ _ _ _ _ _ _ _ _ _ _ _ _ _ _ _ _ _ _ _ _ _ _ _ _ _ _ _ _ _ _ _ _ _ _ _ _ _ _ _ _ _ _ _ _ _ _ _ _ _ _ _ _ _ _ _ _ _ _ _ _ _ _ _ _ _ _ _ _ _ _ _ _ _ _ _ _ _ _ _ _ _ _ _ _ _ _ _ _ _ _ _ _ _ _ _ _ _ _ _ _ _ _ _ _ _ _ _ _ _ _ _ _ _ _ _ _ _ _ _ _ _ _ _ _ _ _ _ _ _ _ _ _ _ _ _ _ _ _ _ _ _ _ _ _ _ _ _ _ _ _ _ _ _ _ _ _ _ _ _ _ _ _ _ _ _ _ _ _ _ _ _ _ _ _ _ _ _ _ ?_
        intro tm wi h1 h2
        exact HR.out tm wi h1 (h2.up HB7.out)
      · have HO1 := hid ho1
        have HO3 := hid ho3
        have HO4 := hid ho4
        clear ho1 ho2 ho3 ho4 ho6
        have HB7 := hid (HBN6.out.trans (HO6.out.mono hzN))
        have hz7 := HB7.out.size
        have hz8 := HO6.out.size
        have HN := hid (show Near w7 (wr.heap.size + 1) i (naF i A).X from ⟨by omega, fun j hj => by
          have hown := HFM.out.own j (by omega)
          obtain ⟨ax, capx, hvx, _, _, _⟩ := own_form hown
          refine ⟨ax, capx, (HO6.out.cell (p := ⟨wr.heap.size + 1, j, none⟩) hFl).trans (by rw [HFX.out.cell hj, hvx]), HLE.out j hj, fun t ht => ?_⟩
          obtain ⟨g, cap, h1, h2, h3, h4, h5⟩ := ownI_cell hown ht
          rw [hvx] at h1
          simp only [Value.slice.injEq] at h1
          exact ⟨g, 0, h1.1, by omega, (HO6.out.cell (p := ⟨g, 0 + t, none⟩) h3).trans (by rw [Nat.zero_add]; exact h5)⟩⟩)
        refine wp_cond_true rfl ?_
        refine gk_cycle w7 Bc i n B2 B6 Bo Bm (wr.heap.size + 1) capl capt capS m at_ as_ al va l A S tx FU FL (naF i A).X O G hS HLN.out hn hnT hm hA HSM3 HTL HO1.out HO3 HO4 (by omega) (hid ((HB7.out.block Bc hBc).trans HBX.out)) (hid (HTX.out.below HB7.out)) HSO HN (hid (HVA.out.below HB7.out)) (hid (HVS.out.below HB7.out)) (hid (HSP.out.below HB7.out)) (hid (MapF.kept HMP.out (below_gr HB7.out) (by simp))) (hid ((HB7.out.block B6 hB6l).trans HB6.out)) (hid ((HB7.out.block B2 hB2l).trans HB2.out)) _ _ _ _ _ _ _ _ _ _ _ _ _ _ _ _ _ _ _ _ _ _ _ _ _ _ _ _ _ _ _ _ _ _ _ _ _ _ _ _ _ _ _ _ _ _ _ _ _ _ _ _ _ _ _ _ _ _ _ _ _ _ _ _ _ _ _ _ _ _ _ _ _ _ _ _ _ _ _ _ _ _ _ _ _ _ _ _ _ _ _ _ _ _ _ _ _ _ _ _ _ _ _ _ _ _ _ _ _ _ _ _ _ _ _ _ _ _ _ _ _ _ _ _ _ _ _ _ _ _ _ _ _ _ _ _ _ _ _ _ _ _ _ _ _ _ _ _ _ _ _ _ _ _ _ _ _ _ _ _ _ _ _ _ _ _ _ _ _ _ _ _ _ _ _ _ _ _ _ _ _ _ _ _ _ _ _ _ _ _ _ _ _ _ _ _ _ _ _ _ _ _ _ _ _ _ _ _ _ _ _ _ _ _ _ _ _ _ _ _ _ _ _ _ _ _ _ _ _ _ _ _ _ _ _ _ _ _ _ _ _ _ _ _ _ _ _ _ _ _ _ _ _ _ _ _ _ _ _ _ _ _ _ _ _ _ _ _ _ _ _ _ _ _ _ _ _ _ _ _ _ _ _ _ _ _ _ _ _ _ _ _ _ _ _ _ _ _ _ _ ?_
        intro tm wi h1 h2
        dsimp only [Exit.then]
        exact HR.out tm wi h1 (h2.up HB7.out)

end Go.Proofs.YbulkbgasDoor
