import Derived.Test.YbulkbgasDoorFc2
namespace Go.Proofs.YbulkbgasDoor
open Go.RowKit Go.Maps
set_option linter.unusedVariables false
attribute [local go_sem ↓] Go.wp_at_zero Go.wp_at_succ

/-! ### Pieces of a function's text -/
def loopsOf : Code → List Code
  | .loop c => c :: loopsOf c
  | .seq a b => loopsOf a ++ loopsOf b
  | .cond _ a b => loopsOf a ++ loopsOf b
  | .block _ c => loopsOf c
  | .scope c => loopsOf c
  | _ => []
def firstRegion : Code → Option Nat
  | .region id _ _ => some id
  | .seq a b => match firstRegion a with
    | some r => some r
    | none => firstRegion b
  | .block _ c => firstRegion c
  | .loop c => firstRegion c
  | .scope c => firstRegion c
  | _ => none
def fromRegion (r : Nat) : Code → Option Code
  | .seq a b => if firstRegion (.seq a b) = some r then some (.seq a b) else match fromRegion r a with
    | some c => some c
    | none => fromRegion r b
  | .block _ c => fromRegion r c
  | .loop c => fromRegion r c
  | .scope c => fromRegion r c
  | .cond _ a b => match fromRegion r a with
    | some c => some c
    | none => fromRegion r b
  | _ => none
noncomputable def lp23 (k : Nat) : Code := ((Ybad.f23.body.map loopsOf).getD [])[k]?.getD .skip
noncomputable def post23 : Code := (Ybad.f23.body.bind (fromRegion 43)).getD .skip

set_option maxRecDepth 1000000 in
set_option maxHeartbeats 4000000 in
theorem fc_round5 (w wr : World) (back : Bool) (Bc k m capt Bo Bm cap capl B own lcap h j : Nat) (at_ a al la : Option Addr) (A : List Acc) (S : List Sp) (c : Acc) (s1 : Fc) (l M : List Nat) (v' : Nat → Value) (bx : Array Value)
    (hA : A.length ≤ 300) (hS : S.length ≤ 300) (hn : k ≤ 1000) (hm : m ≤ 1000) (hB : Bc < w.heap.size)
    (HS : Hid (Els w 4 a A.length fun i => (A.getD i a0).cells)) (HL : Hid (Els w 5 al S.length fun i => (S.getD i sp0).cells)) (HTX : Hid (∀ i, i < S.length → txOf S i < k))
    (HBX : Hid (w.heap[Bc]? = some (.cells #[.slice at_ k capt, .int .i64 (m : Int), .slice a A.length cap] 63 (0, 0)))) (HBE : Hid (bx = #[.slice al S.length capl, .slice (some ⟨Bo, 0, none⟩) A.length A.length, .map (some Bm)]))
    (hsm : c.x < k ∧ c.i < m) (hh2 : h < 2) (hsk : ¬ (h = 0 ∧ c.w = false)) (hll2 : l.length ≤ 300) (hllc : l.length ≤ lcap) (nA : Nat) (hnA : nA = A.length) (kk : Nat) (HOK3 : Hid (FcOk S.length nA kk s1)) (HLL : Hid (s1.L (c.i * 2 + h) = l)) (HVL : Hid (v' (c.i * 2 + h) = .slice la l.length lcap))
    (hjl : j < l.length) (HM1 : Hid (M.length = l.length)) (HM2 : Hid (M.drop j = l.drop j)) (HM3 : Hid (M.take ((l.take j).filter (· == own)).length = (l.take j).filter (· == own)))
    (N6 : Hid (FcC w wr bx k S.length m v' ⟨(l.take j).foldl (fcIn back (fun q => (A.getD q a0).p) (txOf S) s1.U own c) s1.F, s1.U, updL s1.L (c.i * 2 + h) M⟩ B c))
    (Q : Exit → Act → World → Prop) (c1 c3 c5 c6 c8 c10 c11 c12 c13 c16 c17 c18 c20 c21 c22 c23 c24 c25 c26 c27 c28 c29 c30 c31 c32 c33 c34 c35 c36 c37 c38 c39 c40 c41 c42 c43 c44 c45 c46 c47 c48 c49 c50 c51 c52 c53 c54 c55 c56 c57 c58 c59 c60 c61 c62 c63 c64 c65 c66 c67 c68 c69 c70 c71 c72 c73 c74 c75 c76 c77 c78 c79 c80 c81 c82 c83 c84 c85 c86 c87 c88 c89 c90 c91 c92 c93 c94 c95 c96 c97 c98 c99 c100 c101 c102 c103 c104 c105 c106 c107 c108 c109 c110 c114 c115 c116 c117 c118 c119 c120 c121 c122 c123 c124 c125 c126 c127 c128 c129 c130 c131 c132 c133 c134 c135 c136 c137 c138 c139 c140 c141 c142 c143 c144 c145 c146 c147 c148 c149 c150 c151 c152 c153 c154 c155 c156 c157 c158 c159 c160 c161 c162 c163 c164 c165 c166 c167 c168 c169 c170 c171 c172 c173 c174 c175 c176 c177 c178 c179 c180 c181 c182 c183 c184 c185 c186 c187 c188 c189 c190 c191 c192 c193 c194 c195 c196 c197 c198 c199 c200 c201 c202 c203 c204 c205 c206 c207 c208 c209 c210 c211 c212 c213 c214 c215 c216 c217 c218 c219 c220 c221 c222 c223 c224 c225 c226 c227 c228 c229 c230 c231 c232 c233 : Value)
    (hq : ∀ (u21 u22 u23 u114 u115 u116 u117 u118 u119 u120 u121 u122 u123 u124 u125 u126 u127 u128 u129 u130 u131 u132 u133 u134 u135 u136 u137 u138 u139 u140 u141 u142 u143 u144 u145 u146 u147 u148 u149 u150 u151 u152 u153 u154 u155 u156 u157 u158 u159 u160 u161 u162 u163 u164 u165 u166 u167 u168 u169 u170 u171 u172 u173 u174 u175 u176 u177 : Value) (wi : World), (∃ M : List Nat, M.length = l.length ∧ M.drop (j + 1) = l.drop (j + 1) ∧ M.take ((l.take (j + 1)).filter (· == own)).length = (l.take (j + 1)).filter (· == own) ∧ FcC w wi bx k S.length m v' ⟨(l.take (j + 1)).foldl (fcIn back (fun q => (A.getD q a0).p) (txOf S) s1.U own c) s1.F, s1.U, updL s1.L (c.i * 2 + h) M⟩ B c) → Q .normal ⟨#[.pointer (some ⟨Bc, 0, none⟩), c1, .bool back, c3, .pointer (some ⟨w.heap.size, 0, none⟩), c5, c6, .slice (some ⟨w.heap.size + 1, 0, none⟩) k k, c8, .slice (some ⟨w.heap.size + 2, 0, none⟩) S.length S.length, c10, c11, c12, c13, .pointer (some ⟨B, 0, none⟩), .int .i64 (own : Int), c16, c17, c18, .slice la ((l.take (j + 1)).filter (· == own)).length lcap, c20, u21, u22, u23, c24, c25, c26, c27, c28, c29, c30, c31, c32, c33, c34, c35, c36, c37, c38, c39, c40, c41, c42, c43, c44, c45, c46, c47, c48, c49, c50, c51, c52, c53, c54, c55, c56, c57, c58, c59, c60, c61, c62, c63, c64, c65, c66, c67, c68, c69, c70, c71, c72, c73, c74, c75, c76, c77, c78, c79, c80, c81, c82, c83, c84, c85, c86, c87, c88, c89, c90, c91, c92, c93, c94, c95, c96, c97, c98, c99, c100, c101, c102, c103, c104, c105, c106, c107, c108, c109, c110, .slice la l.length lcap, .int .i64 (l.length : Int), .int .i64 ((j + 1 : Nat) : Int), u114, u115, u116, u117, u118, u119, u120, u121, u122, u123, u124, u125, u126, u127, u128, u129, u130, u131, u132, u133, u134, u135, u136, u137, u138, u139, u140, u141, u142, u143, u144, u145, u146, u147, u148, u149, u150, u151, u152, u153, u154, u155, u156, u157, u158, u159, u160, u161, u162, u163, u164, u165, u166, u167, u168, u169, u170, u171, u172, u173, u174, u175, u176, u177, c178, c179, c180, c181, c182, c183, c184, c185, c186, c187, c188, c189, c190, c191, c192, c193, c194, c195, c196, c197, c198, c199, c200, c201, c202, c203, c204, c205, c206, c207, c208, c209, c210, c211, c212, c213, c214, c215, c216, c217, c218, c219, c220, c221, c222, c223, c224, c225, c226, c227, c228, c229, c230, c231, c232, c233], []⟩ wi) :
    Code.wp Ybad.prog (lp23 4) Q ⟨#[.pointer (some ⟨Bc, 0, none⟩), c1, .bool back, c3, .pointer (some ⟨w.heap.size, 0, none⟩), c5, c6, .slice (some ⟨w.heap.size + 1, 0, none⟩) k k, c8, .slice (some ⟨w.heap.size + 2, 0, none⟩) S.length S.length, c10, c11, c12, c13, .pointer (some ⟨B, 0, none⟩), .int .i64 (own : Int), c16, c17, c18, .slice la ((l.take j).filter (· == own)).length lcap, c20, c21, c22, c23, c24, c25, c26, c27, c28, c29, c30, c31, c32, c33, c34, c35, c36, c37, c38, c39, c40, c41, c42, c43, c44, c45, c46, c47, c48, c49, c50, c51, c52, c53, c54, c55, c56, c57, c58, c59, c60, c61, c62, c63, c64, c65, c66, c67, c68, c69, c70, c71, c72, c73, c74, c75, c76, c77, c78, c79, c80, c81, c82, c83, c84, c85, c86, c87, c88, c89, c90, c91, c92, c93, c94, c95, c96, c97, c98, c99, c100, c101, c102, c103, c104, c105, c106, c107, c108, c109, c110, .slice la l.length lcap, .int .i64 (l.length : Int), .int .i64 (j : Int), c114, c115, c116, c117, c118, c119, c120, c121, c122, c123, c124, c125, c126, c127, c128, c129, c130, c131, c132, c133, c134, c135, c136, c137, c138, c139, c140, c141, c142, c143, c144, c145, c146, c147, c148, c149, c150, c151, c152, c153, c154, c155, c156, c157, c158, c159, c160, c161, c162, c163, c164, c165, c166, c167, c168, c169, c170, c171, c172, c173, c174, c175, c176, c177, c178, c179, c180, c181, c182, c183, c184, c185, c186, c187, c188, c189, c190, c191, c192, c193, c194, c195, c196, c197, c198, c199, c200, c201, c202, c203, c204, c205, c206, c207, c208, c209, c210, c211, c212, c213, c214, c215, c216, c217, c218, c219, c220, c221, c222, c223, c224, c225, c226, c227, c228, c229, c230, c231, c232, c233], []⟩ wr := by
  conv => arg 2; whnf
  have HQ := hid hq
  clear hq
  subst hnA
  have HO6 := hid (show wr.ownsRow (w.heap.size + 4) 3 1 (.slice la l.length lcap) M.length (rowI M) from by have := N6.out.st.fam.own (c.i * 2 + h) (by omega); rw [HVL.out] at this; dsimp only at this; rw [updL_same] at this; exact this)
  have hjM : j < M.length := by rw [HM1.out]; exact hjl
  obtain ⟨gg, cap1, hv1, hg1, hg2, hg3, hc1⟩ := ownI_cell HO6.out hjM
  simp only [Value.slice.injEq] at hv1
  obtain ⟨rfl, hlM, rfl⟩ := hv1
  clear hlM
  obtain ⟨x, hx⟩ : ∃ x, l[j] = x := ⟨_, rfl⟩
  have hMx : M[j] = x := by have := get_of_drop HM2.out hjl; rw [List.getElem?_eq_getElem hjM] at this; rw [← hx]; exact Option.some.inj this
  rw [hMx] at hc1
  have HX := hid hx
  have HMEM := hid (HOK3.out.mem (c.i * 2 + h) x (by rw [HLL.out, ← hx]; exact List.getElem_mem _))
  have hxS : x < S.length := HMEM.out.1
  have hji : (j : Int) < (l.length : Int) := by omega
  have HFS := hid (filter_succ (own := own) hjl)
  rw [hx] at HFS
  have HFD := hid (show (l.take (j + 1)).foldl (fcIn back (fun q => (A.getD q a0).p) (txOf S) s1.U own c) s1.F = fcIn back (fun q => (A.getD q a0).p) (txOf S) s1.U own c ((l.take j).foldl (fcIn back (fun q => (A.getD q a0).p) (txOf S) s1.U own c) s1.F) x from by rw [List.take_succ_eq_append_getElem hjl, List.foldl_append, hx]; rfl)
  have hknj : ((l.take j).filter (· == own)).length ≤ j := filter_le
  obtain ⟨fl, hfl⟩ : ∃ fl, (l.take j).filter (· == own) = fl := ⟨_, rfl⟩
  rw [hfl] at HFS HM3 hknj ⊢
  clear hx hMx hfl
  by_cases hxo : x = own
  · have hxo' := hxo.symm
    clear hxo
    subst hxo'
    rw [if_pos rfl] at HFS
    have hkM : fl.length < (rowI M).length := by rw [rowI_length]; omega
    have hk0 := own_cell (by have := HO6.out.alloc (.cells #[.int .i64 (own : Int)] 3); rw [HM1.out] at this; exact this) hkM
    have HK0 := hid hk0
    clear hk0
    have H8 := hid (FcC.inPlace (nI := m) N6.out (i := c.i * 2 + h) (by omega) HVL.out (j := fl.length) (by dsimp only; rw [updL_same]; omega) own)
    dsimp only at H8
    rw [updL_same, updL_updL] at H8
    have HFN := hid (show fcIn back (fun q => (A.getD q a0).p) (txOf S) s1.U own c ((l.take j).foldl (fcIn back (fun q => (A.getD q a0).p) (txOf S) s1.U own c) s1.F) own = (l.take j).foldl (fcIn back (fun q => (A.getD q a0).p) (txOf S) s1.U own c) s1.F from by unfold fcIn; rw [if_pos rfl])
    as_aux_lemma =>
      go_wp2_with (first
        | ((with_reducible refine apRoom (t := 120) (u := 122) gg fl.length lcap wr.heap.size (own : Int) ?_ ?_ ?_ ?_ (rowI M)[fl.length] ?_ ?_ ?_); (exact rfl); (exact rfl); (exact heap_alloc_new _ _); omega; (exact HK0.out.1); (exact HK0.out.2)))
      have HH := HQ.out
      rw [HFS.out, List.length_append, List.length_singleton, show ((j + 1 : Nat) : Int) = (j : Int) + 1 from by omega] at HH
      exact HH _ _ _ _ _ _ _ _ _ _ _ _ _ _ _ _ _ _ _ _ _ _ _ _ _ _ _ _ _ _ _ _ _ _ _ _ _ _ _ _ _ _ _ _ _ _ _ _ _ _ _ _ _ _ _ _ _ _ _ _ _ _ _ _ _ _ _ _ ⟨M.set fl.length own, by simpa using HM1.out, keep_set HM2.out hknj own, by rw [take_set HM3.out (by rw [HM1.out]; omega)], by rw [HFD.out, HFN.out]; exact H8.out.alloc _⟩
  · have hb1 : ((x : Int) == (own : Int)) = false := by simp; omega
    rw [if_neg hxo, List.append_nil] at HFS
    obtain ⟨F1, hF1⟩ : ∃ F1, (l.take j).foldl (fcIn back (fun q => (A.getD q a0).p) (txOf S) s1.U own c) s1.F = F1 := ⟨_, rfl⟩
    rw [hF1] at HFD N6
    clear hF1
    have u1 := N6.out.st.wa.cell (j := x * 2 + 1) (by omega)
    have e3 := N6.out.cp.c3
    have hxi : (x : Int) < (S.length : Int) := by omega
    have hx0 : (0 : Int) ≤ (x : Int) := by omega
    try dsimp only at u1
    go_upto_if 130 with fail
    obtain ⟨th, hth⟩ : ∃ th : Nat, (if c.w = true then s1.U (x * 2) else s1.U (x * 2 + 1)) = (th : Int) := by
      have hm := HMEM.out
      refine ⟨(if c.w = true then s1.U (x * 2) else s1.U (x * 2 + 1)).toNat, ?_⟩
      split
      · omega
      · rename_i hcw
        have : (c.i * 2 + h) % 2 = 1 := by
          have : h ≠ 0 := fun e => hsk ⟨e, by simpa using hcw⟩
          omega
        have := hm.2.2 this; omega
    have hthA : th < A.length := by
      have h1 := HOK3.out.hi (x * 2)
      have h2 := HOK3.out.hi (x * 2 + 1)
      split at hth <;> omega
    have HTH := hid hth
    clear hth
    go_cut [22, 130] from 114 to 177 (fun t bw wd => t = .int .i64 (th : Int) ∧ bw = .bool c.w ∧ FcC w wd bx k S.length m v' ⟨F1, s1.U, updL s1.L (c.i * 2 + h) M⟩ B c)
    case first =>
      as_aux_lemma =>
        cases hcw : c.w with
        | true =>
          have u0 := N6.out.st.wa.cell (j := x * 2) (by omega)
          have e5 : s1.U (x * 2) = (th : Int) := by rw [← HTH.out, hcw]; rfl
          try dsimp only at u0
          rw [e5] at u0
          have E5 := hid e5
          clear e5
          go_wp2_with fail
          go_meet
          exact ⟨rfl, by rw [hcw], N6.out⟩
        | false =>
          go_wp2_with fail
          go_meet
          exact ⟨by rw [← HTH.out, hcw]; rfl, by rw [hcw], N6.out⟩
    case rest =>
      obtain ⟨rfl, rfl, hc1⟩ := hcut
      have N7 := hid hc1
      clear hc1 N6 u1 e3
      obtain ⟨b5, off5, rfl, hb5, g0'⟩ := sp_at HL.out hxS
      have g0 : wc.cell? ⟨b5, off5 + x * 5, none⟩ = some (.int .i64 (txOf S x : Int)) := (N7.out.st.bel.cell (p := ⟨b5, off5 + x * 5, none⟩) hb5).trans g0'
      have htk : txOf S x < k := HTX.out x hxS
      have d0 : wc.cell? ⟨w.heap.size, 0, none⟩ = some (.slice (some ⟨b5, off5, none⟩) S.length capl) := by rw [cell_of_row _ _ _ _ _ _ N7.out.st.box, HBE.out]; rfl
      obtain ⟨t, ht⟩ : ∃ t, txOf S x = t := ⟨_, rfl⟩
      rw [ht] at g0 htk
      have HT := hid ht
      clear ht g0'
      have q0 := N7.out.st.fi.cell (j := t * 2) (by omega)
      try dsimp only at q0
      have hti : (t : Int) < (k : Int) := by omega
      have ht0 : (0 : Int) ≤ (t : Int) := by omega
      have HFI := hid (show fcIn back (fun q => (A.getD q a0).p) (txOf S) s1.U own c F1 x = if F1 (t * 2) < 0 then (if back = true then upd2 F1 t (c.p : Int) ((A.getD th a0).p : Int) else upd2 F1 t ((A.getD th a0).p : Int) (c.p : Int)) else F1 from by unfold fcIn; rw [if_neg hxo, HT.out, HTH.out, Int.toNat_natCast])
      by_cases hneg : F1 (t * 2) < 0
      · rw [if_pos hneg] at HFI
        obtain ⟨b, off, hab, hbl, z0', z1', z2', z3'⟩ := acc_at HS.out hthA hthA
        have hPe : (A.getD th a0).p = A[th].p := by simp [List.getD_eq_getElem?_getD, List.getElem?_eq_getElem hthA]
        rw [← hPe] at z2'
        obtain ⟨pt, hpt⟩ : ∃ pt, (A.getD th a0).p = pt := ⟨_, rfl⟩
        rw [hpt] at z2' HFI
        have z2 : wc.cell? ⟨b, off + th * 4 + 2, none⟩ = some (.int .i64 (pt : Int)) := (N7.out.st.bel.cell (p := ⟨b, off + th * 4 + 2, none⟩) hbl).trans z2'
        have y0 := N7.out.cp.c2
        have y1 : wc.cell? ⟨Bc, 2, none⟩ = some (.slice (some ⟨b, off, none⟩) A.length cap) := (N7.out.st.bel.cell (p := ⟨Bc, 2, none⟩) hB).trans (by rw [cell_of_row _ _ _ _ _ _ HBX.out]; simp [hab])
        have q1 := N7.out.st.fi.cell (j := t * 2 + 1) (by omega)
        have r0 := N7.out.st.fi.free (t * 2)
        have r1 := N7.out.st.fi.free (t * 2 + 1)
        try dsimp only at q1
        have HZ2 := hid z2'
        have HAB := hid hab
        clear z0' z1' z2' z3' hPe hab
        have hthi : (th : Int) < (A.length : Int) := by omega
        have hth0 : (0 : Int) ≤ (th : Int) := by omega
        have hge := N7.out.ge
        have hn1 : w.heap.size + 1 ≠ b := by omega
        have hn2 : w.heap.size + 1 ≠ Bc := by omega
        have hn3 : w.heap.size + 1 ≠ B := by omega
        as_aux_lemma =>
          go_upto_region 37 with fail
          go_region_held3 (fun W => W.cell? ⟨Bc, 2, none⟩ = some (.slice (some ⟨b, off, none⟩) A.length cap) ∧ W.cell? ⟨b, off + th * 4 + 2, none⟩ = some (.int .i64 (pt : Int)) ∧ W.cell? ⟨B, 2, none⟩ = some (.int .i64 (c.p : Int))) (go_keep) (fail)
          have N8 := hid ((N7.out.setF htk (pt : Int) (c.p : Int)).drew)
          obtain ⟨wq, hwq⟩ : ∃ wq, wq = ((wc.setCell ⟨w.heap.size + 1, t * 2, none⟩ (.int .i64 (pt : Int))).setCell ⟨w.heap.size + 1, t * 2 + 1, none⟩ (.int .i64 (c.p : Int))).drew := ⟨_, rfl⟩
          rw [← hwq] at N8 ⊢
          clear hwq q0 q1 r0 r1 y0 y1 z2 d0 g0
          rcases Bool.eq_false_or_eq_true back with hb | hb
          · subst hb
            rw [if_pos rfl] at HFI
            have z2 : wq.cell? ⟨b, off + th * 4 + 2, none⟩ = some (.int .i64 (pt : Int)) := (N8.out.st.bel.cell (p := ⟨b, off + th * 4 + 2, none⟩) hbl).trans HZ2.out
            have y0 := N8.out.cp.c2
            have y1 : wq.cell? ⟨Bc, 2, none⟩ = some (.slice (some ⟨b, off, none⟩) A.length cap) := (N8.out.st.bel.cell (p := ⟨Bc, 2, none⟩) hB).trans (by rw [cell_of_row _ _ _ _ _ _ HBX.out]; simp [HAB.out])
            have q0 := N8.out.st.fi.cell (j := t * 2) (by omega)
            have q1 := N8.out.st.fi.cell (j := t * 2 + 1) (by omega)
            have r0 := N8.out.st.fi.free (t * 2)
            have r1 := N8.out.st.fi.free (t * 2 + 1)
            try dsimp only at q0 q1
            go_upto_region 39 with fail
            go_region_held3 (fun W => W.cell? ⟨Bc, 2, none⟩ = some (.slice (some ⟨b, off, none⟩) A.length cap) ∧ W.cell? ⟨b, off + th * 4 + 2, none⟩ = some (.int .i64 (pt : Int)) ∧ W.cell? ⟨B, 2, none⟩ = some (.int .i64 (c.p : Int))) (go_keep) (fail)
            have N9 := hid ((N8.out.setF htk (c.p : Int) (pt : Int)).drew)
            try dsimp only at N9
            rw [upd2_upd2, ← HFI.out, ← HFD.out] at N9
            go_wp2_with fail
            have HH := HQ.out
            rw [HFS.out, show ((j + 1 : Nat) : Int) = (j : Int) + 1 from by omega] at HH
            exact HH _ _ _ _ _ _ _ _ _ _ _ _ _ _ _ _ _ _ _ _ _ _ _ _ _ _ _ _ _ _ _ _ _ _ _ _ _ _ _ _ _ _ _ _ _ _ _ _ _ _ _ _ _ _ _ _ _ _ _ _ _ _ _ _ _ _ _ _ ⟨M, HM1.out, skip_keep HM2.out, HM3.out, N9.out⟩
          · subst hb
            rw [if_neg (by simp)] at HFI
            have N9 := hid N8.out
            try dsimp only at N9
            rw [← HFI.out, ← HFD.out] at N9
            go_wp2_with fail
            have HH := HQ.out
            rw [HFS.out, show ((j + 1 : Nat) : Int) = (j : Int) + 1 from by omega] at HH
            exact HH _ _ _ _ _ _ _ _ _ _ _ _ _ _ _ _ _ _ _ _ _ _ _ _ _ _ _ _ _ _ _ _ _ _ _ _ _ _ _ _ _ _ _ _ _ _ _ _ _ _ _ _ _ _ _ _ _ _ _ _ _ _ _ _ _ _ _ _ ⟨M, HM1.out, skip_keep HM2.out, HM3.out, N9.out⟩
      · rw [if_neg hneg] at HFI
        as_aux_lemma =>
          go_wp2_with fail
          have HH := HQ.out
          rw [HFS.out, show ((j + 1 : Nat) : Int) = (j : Int) + 1 from by omega] at HH
          exact HH _ _ _ _ _ _ _ _ _ _ _ _ _ _ _ _ _ _ _ _ _ _ _ _ _ _ _ _ _ _ _ _ _ _ _ _ _ _ _ _ _ _ _ _ _ _ _ _ _ _ _ _ _ _ _ _ _ _ _ _ _ _ _ _ _ _ _ _ ⟨M, HM1.out, skip_keep HM2.out, HM3.out, by rw [HFD.out, HFI.out]; exact N7.out⟩

end Go.Proofs.YbulkbgasDoor
