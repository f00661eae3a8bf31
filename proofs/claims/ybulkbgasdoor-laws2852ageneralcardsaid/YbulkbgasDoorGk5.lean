import Derived.Test.YbulkbgasDoorGk4
namespace Go.Proofs.YbulkbgasDoor
open Go.RowKit Go.Maps
set_option linter.unusedVariables false
set_option linter.unusedSimpArgs false
attribute [local go_sem ↓] Go.wp_at_zero Go.wp_at_succ

theorem mvL_congr {La La' : Nat → Int} (xs : List Nat) (v0 : Int) (h : ∀ j ∈ xs, La j = La' j) : mvL La xs v0 = mvL La' xs v0 := by
  unfold mvL
  generalize (v0, (-1 : Int)) = p
  induction xs generalizing p with
  | nil => rfl
  | cons x xs ih =>
    rw [List.foldl_cons, List.foldl_cons, ih (fun j hj => h j (List.mem_cons_of_mem _ hj))]
    congr 1
    unfold mvS
    rw [h x List.mem_cons_self]

set_option maxRecDepth 1000000 in
set_option maxHeartbeats 4000000 in
theorem gk_tail30 (w7 : World) (Bc nT n B2 B6 Bo Bm Bu Bl Bn bo oo capo capl capt capS m : Nat) (at_ as_ al : Option Addr) (va : Value) (l : List Ac) (A : List Acc) (S : List Sp) (tx : List Int) (FU FL : Nat → Int) (X : Nat → List Nat) (O : List Nat)
    (G : Hid (GenP l A tx nT FU FL X)) (hS : Hid (S = spF A)) (hln : l.length = n) (hn : n ≤ 300) (hnT : nT ≤ 10) (hm : m ≤ 1000) (hA : A.length ≤ 300) (HSM : Hid (∀ a ∈ A, a.x < nT ∧ a.i < m ∧ a.p < l.length)) (HSPB : Hid (∀ s ∈ S, s.x < nT ∧ s.f < l.length ∧ s.w < (l.length : Int) ∧ -1 ≤ s.w ∧ s.la < l.length)) (htl : tx.length = nT) (hOl : O.length = nT) (HND : Hid O.Nodup) (HOm : Hid (∀ j ∈ O, j < nT)) (HOt : Hid (Topo X nT O))
    (HH1 : Hid (∀ i, i < nT → ¬ (0 ≤ FU (i * 2 + 1) ∧ FU (i * 2 + 1) ≤ FL (i * 2))))
    (hBc : Bc < w7.heap.size) (hbx : w7.heap[Bc]? = some (.cells #[.slice at_ nT capt, .int .i64 (m : Int), va] 63 (0, 0))) (HTX : Hid (SlI w7 (.slice at_ nT capt) tx)) (HSO : Hid (∀ i j (hi : i < tx.length) (hj : j < tx.length), i < j → tx[i] < tx[j]))
    (HO : Hid (∀ k (hk : k < O.length), bo < w7.heap.size ∧ w7.cell? ⟨bo, oo + k, none⟩ = some (.int .i64 (tx.getD O[k] 0)))) (hBu : Bu < w7.heap.size) (hBl : Bl < w7.heap.size) (HU : Hid (∀ j, j < nT * 2 → w7.cell? ⟨Bu, j, none⟩ = some (.int .i64 (FU j)))) (HV : Hid (∀ j, j < nT * 2 → w7.cell? ⟨Bl, j, none⟩ = some (.int .i64 (FL j)))) (HN : Hid (Near w7 Bn nT X))
    (HVA : Hid (SlX w7 va A)) (HVS : Hid (SlA w7 (.slice as_ n capl) l)) (HSP : Hid (SlS w7 (.slice al S.length capS) S)) (HMP : Hid (MapI F98 w7 Bm A.length (keysF A).length (loc (keysF A)))) (hld : Laid w7) (hB6 : w7.heap[B6]? = some (.cells #[.slice al S.length capS, .slice (some ⟨Bo, 0, none⟩) A.length A.length, .map (some Bm)] 57 (0, 0))) (hB2 : w7.heap[B2]? = some (.cells #[.slice none 0 0, .slice none 0 0, .bool false] 28 (0, 0)))
    (Q : Exit → Act → World → Prop) (c1 c3 c4 c9 c10 c11 c14 c15 c16 c17 c18 c19 c20 c21 c22 c23 c24 c25 c26 c27 c28 c29 c30 c31 c32 c33 c34 c35 c36 c37 c38 c39 c40 c41 c42 c43 c44 c45 c46 c47 c48 c49 c50 c51 c52 c53 c54 c55 c56 c57 c58 c59 c60 c61 c62 c63 c64 c65 c66 c67 c68 c69 c70 c71 c72 c73 c74 c75 c76 c77 c78 c79 c80 c81 c82 c83 c84 c85 c86 c87 c88 c89 c90 c91 c92 c93 c94 c95 c96 c97 c98 c99 c100 c101 c102 c103 c104 c105 c106 c107 c108 c109 c110 c111 c112 c113 c114 c115 c116 c117 c118 c119 c120 c121 c122 c123 c124 c125 c126 c127 c128 c129 c130 c131 c132 c133 c134 c135 c136 c137 c138 c139 c140 c141 c142 c143 c144 c145 c146 c147 c148 c149 c150 c151 c152 c153 c154 c155 c156 c157 c158 c159 c160 c161 c162 c163 c164 c165 c166 c167 c168 c169 c170 c171 c172 c173 c174 c175 c176 c177 c178 c179 c180 c181 c182 c183 c184 c185 c186 c187 c188 c189 c190 c191 c192 c193 c194 c195 c196 c197 c198 c199 c200 c201 c202 c203 c204 c205 c206 c207 c208 c209 c210 c211 c212 c213 c214 c215 c216 c217 c218 c219 c220 c221 c222 c223 c224 c225 c226 c227 c228 c229 c230 c231 c232 c233 c234 c235 c236 c237 c238 c239 c240 c241 c242 c243 c244 c245 c246 c247 c248 c249 c250 c251 c252 c253 c254 c255 c256 c257 c258 c259 c260 c261 c262 c263 c264 c265 c266 c267 c268 c269 c270 c271 c272 c273 c274 c275 c276 c277 c278 c279 c280 c281 c282 c283 c284 c285 c286 c287 c288 c289 c290 c291 c292 c293 c294 c295 c296 c297 c298 c299 c300 c301 c302 c303 : Value)
    (hret : ∀ (tm : Array Value) (wi : World), tm.getD 2 undef = .pointer (some ⟨B2, 0, none⟩) → GRes l S tx nT FU FL X w7 wi B2 → Q .ret ⟨tm, []⟩ wi) :
    Code.wp Ybad.prog (tail7 30) Q ⟨#[.slice as_ n capl, c1, .pointer (some ⟨B2, 0, none⟩), c3, c4, .pointer (some ⟨Bc, 0, none⟩), .pointer (some ⟨B6, 0, none⟩), .slice (some ⟨Bu, 0, none⟩) nT nT, .slice (some ⟨Bl, 0, none⟩) nT nT, c9, c10, c11, .slice (some ⟨Bn, 0, none⟩) nT nT, .slice (some ⟨bo, oo, none⟩) nT capo, c14, c15, c16, c17, c18, c19, c20, c21, c22, c23, c24, c25, c26, c27, c28, c29, c30, c31, c32, c33, c34, c35, c36, c37, c38, c39, c40, c41, c42, c43, c44, c45, c46, c47, c48, c49, c50, c51, c52, c53, c54, c55, c56, c57, c58, c59, c60, c61, c62, c63, c64, c65, c66, c67, c68, c69, c70, c71, c72, c73, c74, c75, c76, c77, c78, c79, c80, c81, c82, c83, c84, c85, c86, c87, c88, c89, c90, c91, c92, c93, c94, c95, c96, c97, c98, c99, c100, c101, c102, c103, c104, c105, c106, c107, c108, c109, c110, c111, c112, c113, c114, c115, c116, c117, c118, c119, c120, c121, c122, c123, c124, c125, c126, c127, c128, c129, c130, c131, c132, c133, c134, c135, c136, c137, c138, c139, c140, c141, c142, c143, c144, c145, c146, c147, c148, c149, c150, c151, c152, c153, c154, c155, c156, c157, c158, c159, c160, c161, c162, c163, c164, c165, c166, c167, c168, c169, c170, c171, c172, c173, c174, c175, c176, c177, c178, c179, c180, c181, c182, c183, c184, c185, c186, c187, c188, c189, c190, c191, c192, c193, c194, c195, c196, c197, c198, c199, c200, c201, c202, c203, c204, c205, c206, c207, c208, c209, c210, c211, c212, c213, c214, c215, c216, c217, c218, c219, c220, c221, c222, c223, c224, c225, c226, c227, c228, c229, c230, c231, c232, c233, c234, c235, c236, c237, c238, c239, c240, c241, c242, c243, c244, c245, c246, c247, c248, c249, c250, c251, c252, c253, c254, c255, c256, c257, c258, c259, c260, c261, c262, c263, c264, c265, c266, c267, c268, c269, c270, c271, c272, c273, c274, c275, c276, c277, c278, c279, c280, c281, c282, c283, c284, c285, c286, c287, c288, c289, c290, c291, c292, c293, c294, c295, c296, c297, c298, c299, c300, c301, c302, c303], []⟩ w7 := by
  refine Code.wp_mono NoPanic.imp ?_
  have HR := hid hret
  clear hret
  conv => arg 2; whnf
  have HBX := hid hbx
  have c0 : w7.cell? ⟨Bc, 0, none⟩ = some (.slice at_ nT capt) := by rw [cell_of_row _ _ _ _ _ _ hbx]; rfl
  have HC0 := hid c0
  have HS := hid (show Els w7 3 as_ l.length fun i => (l.getD i ac0).cells from by
    obtain ⟨a, c, e1, _, e3⟩ := HVS.out
    simp only [Value.slice.injEq] at e1
    obtain ⟨rfl, _, _⟩ := e1
    exact e3)
  have HL := hid (show Els w7 5 al S.length fun i => (S.getD i sp0).cells from by
    obtain ⟨a, c, e1, _, e3⟩ := HSP.out
    simp only [Value.slice.injEq] at e1
    obtain ⟨rfl, _, _⟩ := e1
    exact e3)
  have HLD := hid hld
  have HB6 := hid hB6
  have HB2 := hid hB2
  have hB6l := (Array.getElem?_eq_some_iff.1 hB6).1
  have hB2l := (Array.getElem?_eq_some_iff.1 hB2).1
  clear hbx hld hB6 hB2
  have HOL := hid hOl
  have HTL := hid htl
  have HLN := hid hln
  clear hOl htl hln
  have hmk := fun (W : World) => mkRow1 Ybad.E54 rfl nT (by omega) W
  have n1 : Bc ≠ w7.heap.size := by omega
  dsimp only
  go_upto_region 30 with fail
  go_cut [19, 20] from 148 to 303 (fun p1 p2 wd => ∃ Bla Bvi, p1 = .slice (some ⟨Bla, 0, none⟩) nT nT ∧ p2 = .slice (some ⟨Bvi, 0, none⟩) nT nT ∧ Fix wd Bla 3 nT (fun _ => .int .i64 0) ∧ Fix wd Bvi 3 nT (fun _ => .int .i64 0) ∧ w7.heap.size ≤ Bla ∧ w7.heap.size ≤ Bvi ∧ Bla ≠ Bvi ∧ Below w7.heap.size w7 wd)
  case first =>
    go_region_held3 (fun W => W.cell? ⟨Bc, 0, none⟩ = some (.slice at_ nT capt)) (go_keep) (fail)
    all_goals go_wp2
    all_goals go_meet
    · exact ⟨w7.heap.size, w7.heap.size + 1, rfl, rfl, (show Fix _ _ _ _ _ from (Below.heap_alloc _ _ _ (by simp)).trans (heap_alloc_new w7 _)), (show Fix _ _ _ _ _ from alloc_at (by simp)), by omega, by omega, by omega, (((Below.refl _ w7).alloc (Nat.le_refl _) _).alloc (by simp) _).drew⟩
    · exact ⟨w7.heap.size + 1, w7.heap.size, rfl, rfl, (show Fix _ _ _ _ _ from alloc_at (by simp)), (show Fix _ _ _ _ _ from (Below.heap_alloc _ _ _ (by simp)).trans (heap_alloc_new w7 _)), by omega, by omega, by omega, (((Below.refl _ w7).alloc (Nat.le_refl _) _).alloc (by simp) _).drew⟩
  case rest =>
    obtain ⟨Bla, Bvi, rfl, rfl, hla, hvi, g1, g2, g3, hb⟩ := hcut
    have hz := hb.size
    have NL := hid (show CkL w7 (wc.alloc (.cells (rowF nT fun _ => .int .i64 0) 3)) Bla Bvi wc.heap.size nT (fun _ => 0) (fun _ => 0) (fun _ => 0) from ⟨hla.alloc _, hvi.alloc _, heap_alloc_new _ _, hb.alloc hz _, g1, g2, hz, g3, by have := hla.lt; omega, by have := hvi.lt; omega⟩)
    obtain ⟨Bpl, hBpl⟩ : ∃ Bpl, Bpl = wc.heap.size := ⟨_, rfl⟩
    rw [← hBpl] at NL
    clear hla hvi g1 g2 g3 hb
    go_wp2_with fail
    rw [← hBpl]
    clear hBpl hmk c0
    go_loopg [22] nT (fun g0 iv wi => ∃ (k : Nat) (La Vi Pl : Nat → Int), k ≤ nT ∧ g0 = nT - k ∧ iv = .int .i64 ((nT : Int) - 1 - (k : Int)) ∧ CkL w7 wi Bla Bvi Bpl nT La Vi Pl ∧ (∀ q (hq : q < O.length), nT - k ≤ q → (La O[q], Vi O[q]) = mvL La (X O[q]) (lat0 FU n O[q]) ∧ Pl q = (O[q] : Int)))
    case atStart => exact ⟨0, _, _, _, Nat.zero_le _, rfl, by simp, NL.out, fun q hq h => by have := HOL.out; omega⟩
    case round =>
      obtain ⟨k, La, Vi, Pl, hk, rfl, rfl, hst, hinv⟩ := hrel
      have N1 := hid hst
      have HI := hid hinv
      clear hst hinv NL
      by_cases hlt : k < nT
      · obtain ⟨x, hx⟩ : ∃ x, x = nT - 1 - k := ⟨_, rfl⟩
        have hxO : x < O.length := by rw [HOL.out]; omega
        rw [show (nT : Int) - 1 - (k : Int) = (x : Int) by omega]
        have hin : O[x] < nT := HOm.out _ (List.getElem_mem _)
        refine gk_round4 w7 wr Bc nT n x O[x] Bu Bn Bla Bvi Bpl bo oo capo capl capt at_ as_ tx FU La Vi Pl X (by omega) (by omega) HTL.out (by omega) hin hBc hBu (HO.out x hxO).1 HC0.out HTX HSO (HO.out x hxO).2 (HU.out _ (by omega)) (HU.out _ (by omega)) HN (hid (fun j hj => ⟨fun e => (G.out.ar _ hin j hj).2.1 e.symm, (G.out.ar _ hin j hj).1⟩)) N1 _ _ _ _ _ _ _ _ _ _ _ _ _ _ _ _ _ _ _ _ _ _ _ _ _ _ _ _ _ _ _ _ _ _ _ _ _ _ _ _ _ _ _ _ _ _ _ _ _ _ _ _ _ _ _ _ _ _ _ _ _ _ _ _ _ _ _ _ _ _ _ _ _ _ _ _ _ _ _ _ _ _ _ _ _ _ _ _ _ _ _ _ _ _ _ _ _ _ _ _ _ _ _ _ _ _ _ _ _ _ _ _ _ _ _ _ _ _ _ _ _ _ _ _ _ _ _ _ _ _ _ _ _ _ _ _ _ _ _ _ _ _ _ _ _ _ _ _ _ _ _ _ _ _ _ _ _ _ _ _ _ _ _ _ _ _ _ _ _ _ _ _ _ _ _ _ _ _ _ _ _ _ _ _ _ _ _ _ _ _ _ _ _ _ _ _ _ _ _ _ _ _ _ _ _ _ _ _ _ _ _ _ _ _ _ _ _ _ _ _ _ _ _ _ _ _ _ _ _ _ _ _ _ _ _ _ _ _ _ _ _ _ _ _ _ _ _ _ _ _ _ _ _ _ _ _ _ _ _ _ _ _ _ _ _ _ _ _ _ _ _ _ _ _ _ _ _ _ _ _ _ _ _ _ _ _ _ _ _ _ _ _ _ _ _ _ ?_
        intro u23 u24 u25 u27 u166 u167 u168 u169 u170 u171 u172 u173 u174 u175 u176 u177 u178 u179 u180 u181 u182 u183 u184 u185 u186 u187 u188 u189 u190 u191 u192 u193 u194 u195 u196 u197 u198 u199 u200 u201 u202 u203 u204 u205 u206 u207 u208 u209 u210 u211 u212 u213 u214 u215 u216 u217 u218 u219 u220 u221 u222 u223 u224 u225 u226 u227 u228 u229 u230 u231 u232 u233 u234 u235 wi hst
        dsimp only [Exit.then]
        go_wp2_with fail
        go_roundg (nT - (k + 1))
        case measure => omega
        case rel =>
          refine ⟨k + 1, _, _, _, by omega, rfl, by congr 1; omega, hst, fun q hq hge => ?_⟩
          have hlat : ∀ j ∈ X O[q], j ≠ O[x] := fun j hj ej => by
            obtain ⟨p, hp, hqp, e2⟩ := topo_later HND.out HOL.out HOm.out HOt.out hq hj (G.out.ar _ (HOm.out _ (List.getElem_mem _)) j hj).1
            have := (List.getElem_inj HND.out).1 (e2.trans ej)
            omega
          rw [mvL_congr (La' := La) (X O[q]) _ (fun j hj => updL_other _ (hlat j hj) _)]
          by_cases e : q = x
          · subst e
            refine ⟨?_, by rw [updL_same]⟩
            rw [updL_same, updL_same]
          · have h1 := HI.out q hq (by omega)
            have h2 : O[q] ≠ O[x] := fun h => e ((List.getElem_inj HND.out).1 h)
            rw [updL_other _ h2, updL_other _ h2, updL_other _ e]
            exact h1
      · obtain rfl : k = nT := by omega
        rw [show (k : Int) - 1 - (k : Int) = -1 by omega]
        obtain ⟨W8, hW8⟩ : ∃ W8, W8 = wr := ⟨_, rfl⟩
        rw [← hW8] at N1 ⊢
        clear hW8
        have MV := hid (show MvP k n FU La Vi X O from ⟨fun i hi => by
          obtain ⟨q, hq, e⟩ := List.getElem_of_mem (all_mem HND.out HOL.out HOm.out i hi)
          have := (HI.out q hq (by omega)).1
          rw [e] at this; exact this, HOL.out, HND.out, HOm.out, HOt.out, fun i hi j hj => (G.out.ar i hi j hj).1⟩)
        have h0 : ∀ i, i < k → ((La i).toNat : Int) = La i := fun i hi => Int.toNat_of_nonneg (MV.out.nonneg _ i hi (Nat.le_refl _))
        have HNN := hid h0
        clear h0
        have HPl := hid (show ∀ q (hq : q < O.length), Pl q = (O[q] : Int) from fun q hq => (HI.out q hq (by omega)).2)
        have c1 := (N1.out.bel.cell (p := ⟨Bc, 0, none⟩) hBc).trans HC0.out
        have hz8 := N1.out.bel.size
        have g8 := N1.out.ge
        have hla8 := N1.out.la.lt
        have hpl8 := N1.out.pl.lt
        go_wp2_with fail
        go_loopg [241] k (fun g0 iv wi => ∃ i : Nat, i ≤ k ∧ g0 = k - i ∧ iv = .int .i64 (i : Int) ∧ Below W8.heap.size W8 wi ∧ ∀ j, j < i → FL (j * 2) < La j)
        case atStart => exact ⟨0, Nat.zero_le _, rfl, rfl, Below.refl _ _, fun j hj => by omega⟩
        case round =>
          obtain ⟨i, hi, rfl, rfl, hst, hfl⟩ := hrel
          have N2 := hid hst
          have HFL := hid hfl
          clear hfl
          clear hst c1
          by_cases hlt2 : i < k
          · have b8 := N1.out.bel
            refine gk_round6 W8 wr Bc k n i B2 B6 Bo Bm Bu Bl Bla Bvi capl capt capS m at_ as_ al va l A S tx FU FL La Vi X O G hS MV HLN.out hn hnT hm hA HSM (by omega) (hid ((b8.block Bc hBc).trans HBX.out)) (hid (HVA.out.below b8)) (hid (HVS.out.below b8)) (hid (HSP.out.below b8)) (hid (MapF.kept HMP.out (below_gr b8) (by simp))) (hid ((b8.block B6 hB6l).trans HB6.out)) (hid ((b8.block B2 hB2l).trans HB2.out)) HH1 hlt2 (by omega) (by omega) hla8 N1.out.vi.lt (hid (fun j hj => (b8.cell (p := ⟨Bu, j, none⟩) hBu).trans (HU.out j hj))) (hid (fun j hj => (b8.cell (p := ⟨Bl, j, none⟩) hBl).trans (HV.out j hj))) (hid (fun j hj => N1.out.la.cell hj)) (hid (fun j hj => N1.out.vi.cell hj)) N2 _ _ _ _ _ _ _ _ _ _ _ _ _ _ _ _ _ _ _ _ _ _ _ _ _ _ _ _ _ _ _ _ _ _ _ _ _ _ _ _ _ _ _ _ _ _ _ _ _ _ _ _ _ _ _ _ _ _ _ _ _ _ _ _ _ _ _ _ _ _ _ _ _ _ _ _ _ _ _ _ _ _ _ _ _ _ _ _ _ _ _ _ _ _ _ _ _ _ _ _ _ _ _ _ _ _ _ _ _ _ _ _ _ _ _ _ _ _ _ _ _ _ _ _ _ _ _ _ _ _ _ _ _ _ _ _ _ _ _ _ _ _ _ _ _ _ _ _ _ _ _ _ _ _ _ _ _ _ _ _ _ _ _ _ _ _ _ _ _ _ _ _ _ _ _ _ _ _ _ _ _ _ _ _ _ _ _ _ _ _ _ _ _ _ _ _ _ _ _ _ _ _ _ _ _ _ _ _ _ _ _ _ _ _ _ _ _ _ _ _ _ _ _ _ _ _ _ _ _ _ _ _ _ _ _ _ _ _ _ _ _ _ _ _ _ _ _ _ _ _ _ _ _ _ _ _ _ _ _ _ _ _ _ _ _ _ _ _ _ _ _ _ _ _ _ _ _ _ _ _ _ _ _ _ _ _ _ _ _ _ _ _ _ _ _ ?_ ?_
            · intro tm wi h1 h2
              try dsimp only [Exit.then]
              exact HR.out tm wi h1 (h2.up b8)
            intro u28 u29 u30 u31 u32 u242 u243 u244 u245 u246 u247 u248 u249 u250 u251 u252 u253 u254 u255 u256 u257 u258 u259 u260 u261 u262 u263 u264 u265 u266 u267 u268 u269 u270 u271 u272 u273 u274 u275 u276 u277 u278 u279 u280 u281 u282 u283 u284 u285 u286 u287 u288 u289 u290 u291 u292 u293 u294 u295 u296 wi hst
            obtain ⟨hst, hfl⟩ := hst
            dsimp only [Exit.then]
            go_wp2_with fail
            go_roundg (k - (i + 1))
            case measure => omega
            case rel => exact ⟨i + 1, by omega, rfl, rfl, hst, fun j hj => by
              by_cases e : j = i
              · subst e; exact hfl
              · exact HFL.out j (by omega)⟩
          · obtain rfl : i = k := by omega
            obtain ⟨L, hL⟩ : ∃ L : Nat → Nat, L = fun j => (La j).toNat := ⟨_, rfl⟩
            have HLE := hid (show ∀ j, L j = (La j).toNat from fun j => by rw [hL])
            have HLP := hid (show LkP i FU FL X L O from by rw [hL]; exact MV.out.lkp HFL.out)
            clear hL
            have HLG := hid (show LgOk l S i L O from ⟨by rw [HLN.out]; exact hn, by rw [hS.out]; exact Nat.le_trans (spF_length_le _) hA, hnT, HOL.out, HOm.out, HND.out, fun j hj => by
              have h1 := (MV.out.le hj).1
              have h2 := HNN.out j hj
              rw [← HLE.out] at h2
              have h3 := HLN.out
              unfold lat0 at h1
              split at h1
              · rename_i hf
                obtain ⟨a, ha, c, hc, e1, e2, _⟩ := G.out.fu j hj hf
                have := (G.out.pt c hc).1
                omega
              · omega, HSPB.out⟩)
            have HB9 := hid (N1.out.bel.trans (N2.out.mono hz8))
            have hz9 := HB9.out.size
            have hz10 := N2.out.size
            have d6 : wr.heap[B6]? = some (.cells #[.slice al S.length capS, .slice (some ⟨Bo, 0, none⟩) A.length A.length, .map (some Bm)] 57 (0, 0)) := (HB9.out.block B6 hB6l).trans HB6.out
            have d60 : wr.cell? ⟨B6, 0, none⟩ = some (.slice al S.length capS) := by rw [cell_of_row _ _ _ _ _ _ d6]; rfl
            have d61 : wr.cell? ⟨B6, 1, none⟩ = some (.slice (some ⟨Bo, 0, none⟩) A.length A.length) := by rw [cell_of_row _ _ _ _ _ _ d6]; rfl
            have d62 : wr.cell? ⟨B6, 2, none⟩ = some (.map (some Bm)) := by rw [cell_of_row _ _ _ _ _ _ d6]; rfl
            have HLK := hid (show Calls Ybad.prog 32 #[.pointer (some ⟨Bc, 0, none⟩), .slice as_ n capl, .agg #[.slice al S.length capS, .slice (some ⟨Bo, 0, none⟩) A.length A.length, .map (some Bm)], .slice (some ⟨Bla, 0, none⟩) i i, .slice (some ⟨Bpl, 0, none⟩) i i] wr (fun e w' => ∃ vL, e = .returned vL ∧ w'.ownsRow wr.heap.size 34 3 vL (gF l S tx (gbAll S L O) (gaAll S L O) (ptAll L O) (l.length + 1)).length (rowA (gF l S tx (gbAll S L O) (gaAll S L O) (ptAll L O) (l.length + 1))) ∧ Below wr.heap.size wr w') from by
              have h := lock_gen wr Bc i m capt capl capS Bo A.length Bm Bla Bpl at_ as_ al va l S tx L O HLG.out (by omega) ((HB9.out.block Bc hBc).trans HBX.out) (fun j hj => by
                obtain ⟨a', cap', e1, e2, e3⟩ := HTX.out
                simp only [Value.slice.injEq] at e1
                obtain ⟨rfl, _, _⟩ := e1
                obtain ⟨bt, ot, f1, f2, f3⟩ := e3 j (by rw [HTL.out]; exact hj)
                dsimp only at f3
                rw [Nat.mul_one] at f3
                exact ⟨bt, ot, f1, by omega, (HB9.out.cell (p := ⟨bt, ot + j, none⟩) f2).trans (f3 0 _ rfl)⟩) (HS.out.below HB9.out) (HL.out.below HB9.out) (by omega) (by omega) (fun j hj => (N2.out.cell (p := ⟨Bla, j, none⟩) hla8).trans (by rw [N1.out.la.cell hj, ← HNN.out j hj, HLE.out])) (fun q hq => (N2.out.cell (p := ⟨Bpl, q, none⟩) hpl8).trans (by rw [N1.out.pl.cell (by rw [← HOL.out]; exact hq), HPl.out q hq])) (HLD.out.below HB9.out)
              have e1 := HLN.out
              have e2 := HOL.out
              rw [show Value.slice as_ n capl = .slice as_ l.length capl by rw [e1], show Value.slice (some ⟨Bpl, 0, none⟩) i i = .slice (some ⟨Bpl, 0, none⟩) O.length O.length by rw [e2]]
              exact h)
            go_wp2_with (go_at_call 32; refine Calls.mono HLK.out ?_; rintro e w9 ⟨vL, rfl, hel9, hbel9⟩; obtain ⟨a9, cap9, hv9, hj1, hj2, hj3⟩ := own_form hel9; subst hv9; have HEL := hid hel9; have HBL := hid hbel9; have h2 := (hbel9.block B2 (by omega)).trans ((HB9.out.block B2 hB2l).trans HB2.out); have HH2 := hid h2; have t0 : w9.cell? ⟨B2, 0, none⟩ = some (.slice none 0 0) := (by rw [cell_of_row _ _ _ _ _ _ h2]; rfl); have t1 : w9.cell? ⟨B2, 1, none⟩ = some (.slice none 0 0) := (by rw [cell_of_row _ _ _ _ _ _ h2]; rfl); have t2 : w9.cell? ⟨B2, 2, none⟩ = some (.bool false) := (by rw [cell_of_row _ _ _ _ _ _ h2]; rfl); have q0 : w9.frozen? ⟨B2, 0, none⟩ = false := frozen_of_row _ _ _ _ _ h2; have q1 : w9.frozen? ⟨B2, 1, none⟩ = false := frozen_of_row _ _ _ _ _ h2; have q2 : w9.frozen? ⟨B2, 2, none⟩ = false := frozen_of_row _ _ _ _ _ h2; clear hel9 hbel9 h2)
            have hz11 := HBL.out.size
            have hne : ∀ g, (Value.slice a9 (gF l S tx (gbAll S L O) (gaAll S L O) (ptAll L O) (l.length + 1)).length cap9).ownBlock = some g → g ≠ B2 := fun g hg => by have := own_ge HEL.out hg; omega
            have hk : ∀ (W : World) (j : Nat) (x : Value), W.ownsRow wr.heap.size 34 3 (.slice a9 (gF l S tx (gbAll S L O) (gaAll S L O) (ptAll L O) (l.length + 1)).length cap9) (gF l S tx (gbAll S L O) (gaAll S L O) (ptAll L O) (l.length + 1)).length (rowA (gF l S tx (gbAll S L O) (gaAll S L O) (ptAll L O) (l.length + 1))) → (W.setCell ⟨B2, j, none⟩ x).ownsRow wr.heap.size 34 3 (.slice a9 (gF l S tx (gbAll S L O) (gaAll S L O) (ptAll L O) (l.length + 1)).length cap9) (gF l S tx (gbAll S L O) (gaAll S L O) (ptAll L O) (l.length + 1)).length (rowA (gF l S tx (gbAll S L O) (gaAll S L O) (ptAll L O) (l.length + 1))) := fun W j x h => own_of_block h fun g hg => heap_setCell_other _ _ _ _ (hne g hg)
            refine HR.out _ _ rfl ⟨_, _, _, ?_, .inl ⟨rfl, rfl, L, O, HLP.out, HLG.out, SlA.of_own (hk _ _ _ (hk _ _ _ (hk _ _ _ HEL.out)))⟩, ?_, ?_, ?_, ?_, ?_⟩
            · rw [heap_setCell_same _ _ _ _ _ _ (heap_setCell_same _ _ _ _ _ _ (heap_setCell_same _ _ _ _ _ _ HH2.out))]; rfl
            · exact HBL.out.os.trans HB9.out.os
            · exact HBL.out.tape.trans HB9.out.tape
            · exact HBL.out.output.trans HB9.out.output
            · simp only [World.size_setCell]; omega
            · intro j hj hjb
              rw [heap_setCell_other _ _ _ _ hjb, heap_setCell_other _ _ _ _ hjb, heap_setCell_other _ _ _ _ hjb]
              exact (HBL.out.block j (by omega)).trans (HB9.out.block j hj)

end Go.Proofs.YbulkbgasDoor
