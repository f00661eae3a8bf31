import Derived.Test.YbulkbgasDoorGk3
namespace Go.Proofs.YbulkbgasDoor
open Go.RowKit Go.Maps
set_option linter.unusedVariables false
set_option linter.unusedSimpArgs false
attribute [local go_sem ↓] Go.wp_at_zero Go.wp_at_succ

theorem apArcs {ops : Array Oper} {o : Oper} {a : Act} {w : World} {K : Act → World → Prop} {Q : Exit → Act → World → Prop} {E : Prop} (hgd : o.guard = none) (s x : Operand) (ho : o.op = .call { callee := .builtin .append, args := #[s, x], argTypes := #[26, 26] }) (base gd g np : Nat) (x0 y0 : Ac) (B C : Nat → Ac) (hs : a.eval s = .slice (some ⟨gd, 0, none⟩) 1 1) (hx : a.eval x = .slice (some ⟨g, 0, none⟩) np np) (hd : w.heap[gd]? = some (.cells (arcC x0 y0).toArray 67 (0, 0))) (hb : base ≤ gd) (hr : ∀ k, k < np → w.rangeAt g (k * 8) (arcC (B k) (C k))) (hnp : 0 < np) (hnp2 : np ≤ 1000) (hbase : base ≤ w.heap.size)
    (hK : ∀ g' cap w', w'.ownsRow base 67 8 (.slice (some ⟨g', 0, none⟩) (1 + np) cap) (1 + np) (arcC x0 y0 ++ rowFn np B C) → w.grownBy w' (some gd) → g' < w'.heap.size → K (a.put o.dst (.slice (some ⟨g', 0, none⟩) (1 + np) cap)) w') : if Region.wanted o (yielded ops a.tmps) = true then Oper.wp Ybad.prog o a w K Q else E := by
  obtain ⟨ie, hie, hz, hsz, hb2⟩ := info_parts Ybad.E26.info
  have hown : w.ownsRow base 67 8 (.slice (some ⟨gd, 0, none⟩) 1 1) 1 (arcC x0 y0) := ⟨by show 8 = 1 * 8; omega, .inr ⟨gd, 1, (arcC x0 y0).toArray, rfl, hb, hd, Nat.le_refl _, by unfold maxLen; omega, rfl, by simp [arcC]⟩⟩
  refine step_append_lies w hgd s x 26 ho base 67 ie _ 8 96 Ybad.E26.und hie hz hsz hb2 Ybad.E26.zc Ybad.E26.pos _ 1 (arcC x0 y0) hs hown ⟨g, 0, none⟩ np np (rowFn np B C) hx (rowFn_len B C np) (fun j u hj => ?_) (rowFn_one B C np) hnp (by unfold maxLen; omega) (by omega) hbase w.heap.size rfl (fun g' cap w' h1 h2 h3 h4 => hK g' cap w' h1 h2 h4)
  rw [add0]
  exact rowFn_at hr j u hj
theorem chain_rows {w : World} {base g n cap : Nat} {B C : Nat → Ac} (h : w.ownsRow base 67 8 (.slice (some ⟨g, 0, none⟩) n cap) n (rowFn n B C)) : ∀ j, j < n → w.rangeAt g (j * 8) (arcC (B j) (C j)) := fun j hj => by
  obtain ⟨a, c, e1, _, e3⟩ := els_own h
  obtain ⟨b, f1, _, _, f4⟩ := e3 j hj
  simp only [Value.slice.injEq] at e1
  obtain ⟨rfl, _, _⟩ := e1
  simp only [Option.some.injEq, Addr.mk.injEq, and_true] at f1
  subst f1
  rw [rowFn_get B C n j hj, Nat.zero_add] at f4
  exact f4
theorem along_at {w8 wr W : World} {Bc nT m capt capP gP Bo Bm n capl capS np : Nat} {at_ as_ al : Option Addr} {va : Value} {A : List Acc} {l : List Ac} {S : List Sp} {P : List Nat} (hS : S = spF A) (hA : A.length ≤ 300) (hnT : nT ≤ 10) (hm : m ≤ 1000) (hBc : Bc < w8.heap.size) (HBX : Hid (w8.heap[Bc]? = some (.cells #[.slice at_ nT capt, .int .i64 (m : Int), va] 63 (0, 0)))) (HVA : Hid (SlX w8 va A)) (HSM : Hid (∀ a ∈ A, a.x < nT ∧ a.i < m ∧ a.p < l.length)) (hso : A.Pairwise (fun a b => a.p < b.p)) (hll : l.length ≤ 300) (HVS : Hid (SlA w8 (.slice as_ n capl) l)) (HSP : Hid (SlS w8 (.slice al S.length capS) S)) (HMP : Hid (MapI F98 w8 Bm A.length (keysF A).length (loc (keysF A)))) (hPl : P.length = np + 1) (hlt : ∀ x ∈ P, x < nT) (hnp : np ≤ 1000) (hgP : gP < wr.heap.size) (hPc : ∀ k (hk : k < P.length), wr.cell? ⟨gP, k, none⟩ = some (.int .i64 (P[k] : Int))) (hcapP : np + 1 ≤ capP) (hsu : ∀ k, k < np → Succ A (P.getD k 0) (P.getD (k + 1) 0)) (b8 : Below w8.heap.size w8 W) (b : Below wr.heap.size wr W) :
    Calls Ybad.prog 31 #[.pointer (some ⟨Bc, 0, none⟩), .slice as_ n capl, .agg #[.slice al S.length capS, .slice (some ⟨Bo, 0, none⟩) A.length A.length, .map (some Bm)], .slice (some ⟨gP, 0, none⟩) (np + 1) capP] W fun e w' => ∃ (g : Nat) (B C : Nat → Ac), e = .returned (.slice (some ⟨g, 0, none⟩) np np) ∧ W.heap.size ≤ g ∧ (∀ k, k < np → w'.rangeAt g (k * 8) (arcC (B k) (C k))) ∧ g < w'.heap.size ∧ Below W.heap.size W w' ∧
      ∀ k, k < np → ∃ a ∈ A, ∃ c ∈ A, a.x = P.getD k 0 ∧ c.x = P.getD (k + 1) 0 ∧ a.i = c.i ∧ B k = l.getD a.p ac0 ∧ C k = l.getD c.p ac0 := by
  subst hS
  have h1 := (b8.block Bc hBc).trans HBX.out
  have h2 := HVA.out.below b8
  have h3 := HVS.out.below b8
  have h4 := HSP.out.below b8
  have h5 : MapI F98 W Bm A.length (keysF A).length (loc (keysF A)) := MapF.kept HMP.out (below_gr b8) (by simp)
  exact along_any W Bc nT m capt 0 capP gP Bo Bm at_ none va (.slice as_ n capl) (.slice al (spF A).length capS) A l P hA (by omega) hm h1 h2 HSM.out hso hll h3 h4 h5 np hPl hlt hnp (Nat.lt_of_lt_of_le hgP b.size) (fun k hk => (b.cell (p := ⟨gP, k, none⟩) hgP).trans (hPc k hk)) hcapP hsu
/-- The first arc, those along the way, the last. -/
def bC (np : Nat) (x0 : Ac) (Bf : Nat → Ac) (x1 : Ac) : Nat → Ac := fun k => if k = 0 then x0 else if k ≤ np then Bf (k - 1) else x1
theorem bC_row (np : Nat) (x0 y0 x1 y1 : Ac) (Bf Cf : Nat → Ac) : arcC x0 y0 ++ rowFn np Bf Cf ++ arcC x1 y1 = rowFn (np + 2) (bC np x0 Bf x1) (bC np y0 Cf y1) := by
  rw [rowFn_cons, rowFn_succ (np + 1)]
  congr 1
  · refine rowFn_congr fun k hk => ?_
    unfold bC
    by_cases e : k = 0
    · subst e; exact ⟨rfl, rfl⟩
    · try dsimp only
      rw [if_neg e, if_neg e, if_neg e, if_neg e, if_pos (by omega), if_pos (by omega)]; exact ⟨rfl, rfl⟩
  · unfold bC
    rw [if_neg (by omega), if_neg (by omega), if_neg (by omega), if_neg (by omega)]
theorem chain_linked {l : List Ac} {A : List Acc} {tx : List Int} {nT : Nat} {FU FL : Nat → Int} {X : Nat → List Nat} (G : GenP l A tx nT FU FL X) {np : Nat} {P : List Nat} {Bf Cf : Nat → Ac} {yc ya xa xc : Acc} (hP : P.length = np + 1) (hyc : yc ∈ A) (hya : ya ∈ A) (hxa : xa ∈ A) (hxc : xc ∈ A) (h1 : ya.x = P.getD 0 0) (h2 : yc.x ≠ P.getD 0 0) (h3 : ya.i = yc.i) (h4 : xa.x = P.getD np 0) (h5 : xc.x ≠ P.getD np 0) (h6 : xa.i = xc.i)
    (hs : ∀ k, k < np → P.getD k 0 ≠ P.getD (k + 1) 0 ∧ ∃ a ∈ A, ∃ c ∈ A, a.x = P.getD k 0 ∧ c.x = P.getD (k + 1) 0 ∧ a.i = c.i ∧ Bf k = l.getD a.p ac0 ∧ Cf k = l.getD c.p ac0) :
    Linked (np + 2) (bC np (l.getD yc.p ac0) Bf (l.getD xa.p ac0)) (bC np (l.getD ya.p ac0) Cf (l.getD xc.p ac0)) false := by
  refine linked_of G (fun j => if j = 0 then yc.x else if j ≤ np + 1 then P.getD (j - 1) 0 else xc.x) (by omega) (fun j hj => ?_) (fun h => by cases h)
  unfold bC
  by_cases e0 : j = 0
  · subst e0
    rw [if_pos rfl, if_neg (by omega), if_pos (by omega), if_pos rfl, if_pos rfl]
    exact ⟨h2, yc, hyc, ya, hya, rfl, h1, h3.symm, rfl, rfl⟩
  · try dsimp only
    rw [if_neg e0, if_pos (by omega), if_neg (by omega), if_neg e0, if_neg e0]
    by_cases e1 : j ≤ np
    · rw [if_pos (by omega), if_pos e1, if_pos e1]
      have := hs (j - 1) (by omega)
      rw [show j - 1 + 1 = j by omega] at this
      rw [show j + 1 - 1 = j by omega]
      exact this
    · obtain rfl : j = np + 1 := by omega
      rw [if_neg (by omega), if_neg (by omega), if_neg (by omega), show np + 1 - 1 = np by omega]
      exact ⟨fun h => h5 h.symm, xa, hxa, xc, hxc, h4, rfl, h6, rfl, rfl⟩

set_option maxRecDepth 1000000 in
set_option maxHeartbeats 4000000 in
theorem gk_round6 (w8 wr : World) (Bc nT n i B2 B6 Bo Bm Bu Bl Bla Bvi capl capt capS m : Nat) (at_ as_ al : Option Addr) (va : Value) (l : List Ac) (A : List Acc) (S : List Sp) (tx : List Int) (FU FL La Vi : Nat → Int) (X : Nat → List Nat) (O : List Nat)
    (G : Hid (GenP l A tx nT FU FL X)) (hS : Hid (S = spF A)) (MV : Hid (MvP nT n FU La Vi X O)) (hln : l.length = n) (hn : n ≤ 300) (hnT : nT ≤ 10) (hm : m ≤ 1000) (hA : A.length ≤ 300) (HSM : Hid (∀ a ∈ A, a.x < nT ∧ a.i < m ∧ a.p < l.length))
    (hBc : Bc < w8.heap.size) (HBX : Hid (w8.heap[Bc]? = some (.cells #[.slice at_ nT capt, .int .i64 (m : Int), va] 63 (0, 0)))) (HVA : Hid (SlX w8 va A)) (HVS : Hid (SlA w8 (.slice as_ n capl) l)) (HSP : Hid (SlS w8 (.slice al S.length capS) S)) (HMP : Hid (MapI F98 w8 Bm A.length (keysF A).length (loc (keysF A)))) (HB6 : Hid (w8.heap[B6]? = some (.cells #[.slice al S.length capS, .slice (some ⟨Bo, 0, none⟩) A.length A.length, .map (some Bm)] 57 (0, 0)))) (HB2 : Hid (w8.heap[B2]? = some (.cells #[.slice none 0 0, .slice none 0 0, .bool false] 28 (0, 0))))
    (HH1 : Hid (∀ i, i < nT → ¬ (0 ≤ FU (i * 2 + 1) ∧ FU (i * 2 + 1) ≤ FL (i * 2)))) (hi : i < nT) (hBu : Bu < w8.heap.size) (hBl : Bl < w8.heap.size) (hBla : Bla < w8.heap.size) (hBvi : Bvi < w8.heap.size) (HU : Hid (∀ j, j < nT * 2 → w8.cell? ⟨Bu, j, none⟩ = some (.int .i64 (FU j)))) (HV : Hid (∀ j, j < nT * 2 → w8.cell? ⟨Bl, j, none⟩ = some (.int .i64 (FL j)))) (HLa : Hid (∀ j, j < nT → w8.cell? ⟨Bla, j, none⟩ = some (.int .i64 (La j)))) (HVi : Hid (∀ j, j < nT → w8.cell? ⟨Bvi, j, none⟩ = some (.int .i64 (Vi j)))) (N1 : Hid (Below w8.heap.size w8 wr))
    (Q : Exit → Act → World → Prop) (c1 c3 c4 c9 c10 c11 c12 c13 c14 c15 c16 c17 c18 c21 c22 c23 c24 c25 c26 c27 c28 c29 c30 c31 c32 c33 c34 c35 c36 c37 c38 c39 c40 c41 c42 c43 c44 c45 c46 c47 c48 c49 c50 c51 c52 c53 c54 c55 c56 c57 c58 c59 c60 c61 c62 c63 c64 c65 c66 c67 c68 c69 c70 c71 c72 c73 c74 c75 c76 c77 c78 c79 c80 c81 c82 c83 c84 c85 c86 c87 c88 c89 c90 c91 c92 c93 c94 c95 c96 c97 c98 c99 c100 c101 c102 c103 c104 c105 c106 c107 c108 c109 c110 c111 c112 c113 c114 c115 c116 c117 c118 c119 c120 c121 c122 c123 c124 c125 c126 c127 c128 c129 c130 c131 c132 c133 c134 c135 c136 c137 c138 c139 c140 c141 c142 c143 c144 c145 c146 c147 c148 c149 c150 c151 c152 c153 c154 c155 c156 c157 c158 c159 c160 c161 c162 c163 c164 c165 c166 c167 c168 c169 c170 c171 c172 c173 c174 c175 c176 c177 c178 c179 c180 c181 c182 c183 c184 c185 c186 c187 c188 c189 c190 c191 c192 c193 c194 c195 c196 c197 c198 c199 c200 c201 c202 c203 c204 c205 c206 c207 c208 c209 c210 c211 c212 c213 c214 c215 c216 c217 c218 c219 c220 c221 c222 c223 c224 c225 c226 c227 c228 c229 c230 c231 c232 c233 c234 c235 c236 c237 c238 c239 c242 c243 c244 c245 c246 c247 c248 c249 c250 c251 c252 c253 c254 c255 c256 c257 c258 c259 c260 c261 c262 c263 c264 c265 c266 c267 c268 c269 c270 c271 c272 c273 c274 c275 c276 c277 c278 c279 c280 c281 c282 c283 c284 c285 c286 c287 c288 c289 c290 c291 c292 c293 c294 c295 c296 c297 c298 c299 c300 c301 c302 c303 : Value)
    (hret : ∀ (tm : Array Value) (wi : World), tm.getD 2 undef = .pointer (some ⟨B2, 0, none⟩) → GRes l S tx nT FU FL X w8 wi B2 → Q .ret ⟨tm, []⟩ wi)
    (hq : ∀ (u28 u29 u30 u31 u32 u242 u243 u244 u245 u246 u247 u248 u249 u250 u251 u252 u253 u254 u255 u256 u257 u258 u259 u260 u261 u262 u263 u264 u265 u266 u267 u268 u269 u270 u271 u272 u273 u274 u275 u276 u277 u278 u279 u280 u281 u282 u283 u284 u285 u286 u287 u288 u289 u290 u291 u292 u293 u294 u295 u296 : Value) (wi : World), Below w8.heap.size w8 wi ∧ FL (i * 2) < La i → Q .normal ⟨#[.slice as_ n capl, c1, .pointer (some ⟨B2, 0, none⟩), c3, c4, .pointer (some ⟨Bc, 0, none⟩), .pointer (some ⟨B6, 0, none⟩), .slice (some ⟨Bu, 0, none⟩) nT nT, .slice (some ⟨Bl, 0, none⟩) nT nT, c9, c10, c11, c12, c13, c14, c15, c16, c17, c18, .slice (some ⟨Bla, 0, none⟩) nT nT, .slice (some ⟨Bvi, 0, none⟩) nT nT, c21, c22, c23, c24, c25, c26, c27, u28, u29, u30, u31, u32, c33, c34, c35, c36, c37, c38, c39, c40, c41, c42, c43, c44, c45, c46, c47, c48, c49, c50, c51, c52, c53, c54, c55, c56, c57, c58, c59, c60, c61, c62, c63, c64, c65, c66, c67, c68, c69, c70, c71, c72, c73, c74, c75, c76, c77, c78, c79, c80, c81, c82, c83, c84, c85, c86, c87, c88, c89, c90, c91, c92, c93, c94, c95, c96, c97, c98, c99, c100, c101, c102, c103, c104, c105, c106, c107, c108, c109, c110, c111, c112, c113, c114, c115, c116, c117, c118, c119, c120, c121, c122, c123, c124, c125, c126, c127, c128, c129, c130, c131, c132, c133, c134, c135, c136, c137, c138, c139, c140, c141, c142, c143, c144, c145, c146, c147, c148, c149, c150, c151, c152, c153, c154, c155, c156, c157, c158, c159, c160, c161, c162, c163, c164, c165, c166, c167, c168, c169, c170, c171, c172, c173, c174, c175, c176, c177, c178, c179, c180, c181, c182, c183, c184, c185, c186, c187, c188, c189, c190, c191, c192, c193, c194, c195, c196, c197, c198, c199, c200, c201, c202, c203, c204, c205, c206, c207, c208, c209, c210, c211, c212, c213, c214, c215, c216, c217, c218, c219, c220, c221, c222, c223, c224, c225, c226, c227, c228, c229, c230, c231, c232, c233, c234, c235, c236, c237, c238, c239, .int .i64 (nT : Int), .int .i64 ((i + 1 : Nat) : Int), u242, u243, u244, u245, u246, u247, u248, u249, u250, u251, u252, u253, u254, u255, u256, u257, u258, u259, u260, u261, u262, u263, u264, u265, u266, u267, u268, u269, u270, u271, u272, u273, u274, u275, u276, u277, u278, u279, u280, u281, u282, u283, u284, u285, u286, u287, u288, u289, u290, u291, u292, u293, u294, u295, u296, c297, c298, c299, c300, c301, c302, c303], []⟩ wi) :
    Code.wp Ybad.prog (lp7 5) Q ⟨#[.slice as_ n capl, c1, .pointer (some ⟨B2, 0, none⟩), c3, c4, .pointer (some ⟨Bc, 0, none⟩), .pointer (some ⟨B6, 0, none⟩), .slice (some ⟨Bu, 0, none⟩) nT nT, .slice (some ⟨Bl, 0, none⟩) nT nT, c9, c10, c11, c12, c13, c14, c15, c16, c17, c18, .slice (some ⟨Bla, 0, none⟩) nT nT, .slice (some ⟨Bvi, 0, none⟩) nT nT, c21, c22, c23, c24, c25, c26, c27, c28, c29, c30, c31, c32, c33, c34, c35, c36, c37, c38, c39, c40, c41, c42, c43, c44, c45, c46, c47, c48, c49, c50, c51, c52, c53, c54, c55, c56, c57, c58, c59, c60, c61, c62, c63, c64, c65, c66, c67, c68, c69, c70, c71, c72, c73, c74, c75, c76, c77, c78, c79, c80, c81, c82, c83, c84, c85, c86, c87, c88, c89, c90, c91, c92, c93, c94, c95, c96, c97, c98, c99, c100, c101, c102, c103, c104, c105, c106, c107, c108, c109, c110, c111, c112, c113, c114, c115, c116, c117, c118, c119, c120, c121, c122, c123, c124, c125, c126, c127, c128, c129, c130, c131, c132, c133, c134, c135, c136, c137, c138, c139, c140, c141, c142, c143, c144, c145, c146, c147, c148, c149, c150, c151, c152, c153, c154, c155, c156, c157, c158, c159, c160, c161, c162, c163, c164, c165, c166, c167, c168, c169, c170, c171, c172, c173, c174, c175, c176, c177, c178, c179, c180, c181, c182, c183, c184, c185, c186, c187, c188, c189, c190, c191, c192, c193, c194, c195, c196, c197, c198, c199, c200, c201, c202, c203, c204, c205, c206, c207, c208, c209, c210, c211, c212, c213, c214, c215, c216, c217, c218, c219, c220, c221, c222, c223, c224, c225, c226, c227, c228, c229, c230, c231, c232, c233, c234, c235, c236, c237, c238, c239, .int .i64 (nT : Int), .int .i64 (i : Int), c242, c243, c244, c245, c246, c247, c248, c249, c250, c251, c252, c253, c254, c255, c256, c257, c258, c259, c260, c261, c262, c263, c264, c265, c266, c267, c268, c269, c270, c271, c272, c273, c274, c275, c276, c277, c278, c279, c280, c281, c282, c283, c284, c285, c286, c287, c288, c289, c290, c291, c292, c293, c294, c295, c296, c297, c298, c299, c300, c301, c302, c303], []⟩ wr := by
  refine Code.wp_mono NoPanic.imp ?_
  have HQ := hid hq
  clear hq
  have HR := hid hret
  clear hret
  conv => arg 2; whnf
  have hii : (i : Int) < (nT : Int) := by omega
  have hi0 : (0 : Int) ≤ (i : Int) := by omega
  obtain ⟨b0, hb0⟩ : ∃ b0, FL (i * 2) = b0 := ⟨_, rfl⟩
  obtain ⟨b1, hb1⟩ : ∃ b1, FL (i * 2 + 1) = b1 := ⟨_, rfl⟩
  obtain ⟨Li, hLi⟩ : ∃ Li, La i = Li := ⟨_, rfl⟩
  have hz := N1.out.size
  have c0 := (N1.out.cell (p := ⟨Bl, i * 2, none⟩) hBl).trans (HV.out (i * 2) (by omega))
  have c1 := (N1.out.cell (p := ⟨Bl, i * 2 + 1, none⟩) hBl).trans (HV.out (i * 2 + 1) (by omega))
  rw [hb0] at c0
  rw [hb1] at c1
  have N2 := hid (N1.out.alloc hz (.cells #[.int .i64 b0, .int .i64 b1] 65))
  have c2 := (N2.out.cell (p := ⟨Bla, i, none⟩) hBla).trans (HLa.out i hi)
  rw [hLi] at c2
  have HC3 := hid (heap_alloc_new wr (.cells #[.int .i64 b0, .int .i64 b1] 65))
  have c3 : (wr.alloc (.cells #[.int .i64 b0, .int .i64 b1] 65)).cell? ⟨wr.heap.size, 0, none⟩ = some (.int .i64 b0) := by rw [cell_of_row _ _ _ _ _ _ HC3.out]; rfl
  have HF0 := hid hb0
  have HF1 := hid hb1
  have HLI := hid hLi
  clear hb0 hb1 hLi
  go_upto_region 51 with fail
  obtain ⟨wa, hwa⟩ : ∃ wa, wa = wr.alloc (.cells #[.int .i64 b0, .int .i64 b1] 65) := ⟨_, rfl⟩
  obtain ⟨B, hBB⟩ : ∃ B, B = wr.heap.size := ⟨_, rfl⟩
  have hBge : w8.heap.size ≤ B := by omega
  rw [← hwa] at N2 c2 c3 HC3 ⊢
  rw [← hBB] at c3 HC3 ⊢
  clear hwa hBB c0 c1
  by_cases hlt : b0 < Li
  · have hn1 : ¬ Li ≤ b0 := by omega
    have hn2 : ¬ b0 ≥ Li := by omega
    have HFL := hid (show FL (i * 2) < La i from by rw [HF0.out, HLI.out]; exact hlt)
    go_quiet (fail)
    go_wp2_with fail
    have HH := HQ.out
    rw [show ((i + 1 : Nat) : Int) = (i : Int) + 1 from by omega] at HH
    exact HH _ _ _ _ _ _ _ _ _ _ _ _ _ _ _ _ _ _ _ _ _ _ _ _ _ _ _ _ _ _ _ _ _ _ _ _ _ _ _ _ _ _ _ _ _ _ _ _ _ _ _ _ _ _ _ _ _ _ _ _ _ ⟨below_drewN N2.out _, HFL.out⟩
  · have hn1 : Li ≤ b0 := by omega
    have hn2 : b0 ≥ Li := by omega
    have hLi0 : 0 ≤ Li := by rw [← HLI.out]; exact MV.out.nonneg _ i hi (Nat.le_refl _)
    obtain ⟨yc, hycA, ya, hyaA, g1', g2', g3', g4', g5'⟩ := G.out.fl i hi (by rw [HF0.out]; omega)
    rw [HF0.out] at g1'
    rw [HF1.out] at g2'
    have hyc := (G.out.pt yc hycA).1
    have hya := (G.out.pt ya hyaA).1
    have hVi0 : 0 ≤ Vi i := by
      apply Decidable.byContradiction
      intro hv
      have h1 := MV.out.stop hi (by omega)
      rw [HLI.out] at h1
      unfold lat0 at h1
      split at h1
      · rename_i h2
        exact HH1.out i hi ⟨h2, by rw [HF0.out, ← h1]; exact hn1⟩
      · omega
    have gd : ∀ c (hc : c < l.length), l.getD c ac0 = l[c] := fun c hc => by rw [List.getD_eq_getElem?_getD, List.getElem?_eq_getElem hc, Option.getD_some]
    have HGD := hid gd
    have HG3 := hid (And.intro g3' (And.intro g4' g5'))
    have HHY := hid (And.intro hycA hyaA)
    have hB2l := (Array.getElem?_eq_some_iff.1 HB2.out).1
    have hB6l := (Array.getElem?_eq_some_iff.1 HB6.out).1
    clear gd g3' g4' g5' hycA hyaA
    subst g1' g2'
    have HN1 := hid hn1
    clear hlt
    go_quiet (fail)
    obtain ⟨wq, hwq⟩ : ∃ wq, wq = wa.drewN nq := ⟨_, rfl⟩
    have N3 := hid (show Below w8.heap.size w8 wq from by rw [hwq]; exact below_drewN N2.out _)
    have HC4 := hid (show wq.heap[B]? = some (.cells #[.int .i64 (yc.p : Int), .int .i64 (ya.p : Int)] 65 (0, 0)) from by rw [hwq]; exact HC3.out)
    go_upto_region 52 with fail
    rw [← hwq]
    clear hwq N2 c2 c3 HC3
    have hzq := N3.out.size
    have HO0 := hid (own_lit (W := wq.alloc (.cells #[.int .i64 (i : Int)] 3)) (base := w8.heap.size) (xs := rowI [i]) (e := 3) (heap_alloc_new _ _) hzq (by simp [rowI]))
    have N4 := hid (N3.out.alloc hzq (.cells #[.int .i64 (i : Int)] 3))
    have HC5 := hid (show (wq.alloc (.cells #[.int .i64 (i : Int)] 3)).heap[B]? = _ from (Below.heap_alloc _ _ _ (Array.getElem?_eq_some_iff.1 HC4.out).1).trans HC4.out)
    have v0 := (N4.out.cell (p := ⟨Bvi, i, none⟩) hBvi).trans (HVi.out i hi)
    obtain ⟨wp, hwp⟩ : ∃ wp, wp = wq.alloc (.cells #[.int .i64 (i : Int)] 3) := ⟨_, rfl⟩
    rw [← hwp] at HO0 N4 HC5 v0
    go_upto_region 53 with fail
    rw [← hwp]
    clear hwp N3 HC4
    go_wp2_with fail
    go_loopg [30, 31] (nT - ix O i) (fun g0 vP jv wi => ∃ (P : List Nat) (e g cap : Nat), g0 = nT - ix O e ∧ vP = .slice (some ⟨g, 0, none⟩) P.length cap ∧ jv = .int .i64 (Vi e) ∧ wi.ownsRow w8.heap.size 3 1 (.slice (some ⟨g, 0, none⟩) P.length cap) P.length (rowI P) ∧ PathI A nT La O i P e ∧ Below w8.heap.size w8 wi ∧ wi.heap[B]? = some (.cells #[.int .i64 (yc.p : Int), .int .i64 (ya.p : Int)] 65 (0, 0)))
    case atStart => exact ⟨[i], i, _, _, rfl, rfl, rfl, HO0.out, PathI.begin hi, N4.out, HC5.out⟩
    case round =>
      obtain ⟨P, e, gP, capP, rfl, rfl, rfl, hown, hpi, hbel, hbox⟩ := hrel
      have HPI := hid hpi
      have HOP := hid hown
      have NB := hid hbel
      have HBX2 := hid hbox
      clear hown hpi hbel hbox N4 HC5 HO0 v0
      have hzr := NB.out.size
      have hpl : P.length ≤ 11 := by
        have h1 := HPI.out.bd
        have h2 := ix_lt (MV.out.all HPI.out.elt)
        have h3 := MV.out.ol
        omega
      have he := HPI.out.elt
      by_cases hv : 0 ≤ Vi e
      · obtain ⟨j, hj1, hj2, hj3, hj4, hj5⟩ := MV.out.step he hv
        have HPJ := hid (HPI.out.step (G.out.ar e he j hj2).2 hj3 hj4 hj5)
        have hix := ix_lt (MV.out.all hj3)
        rw [MV.out.ol] at hix
        rw [hj1]
        have hji : (j : Int) < (nT : Int) := by omega
        have hj0 : (0 : Int) ≤ (j : Int) := by omega
        have v1 := HVi.out j hj3
        obtain ⟨vj, hvj⟩ : ∃ vj, Vi j = vj := ⟨_, rfl⟩
        rw [hvj] at v1
        have HVJ := hid hvj
        have HV1 := hid v1
        clear hvj v1 hj1 hj2 hj4 hv
        go_wp2_with (first
          | ((with_reducible refine apK Ybad.E54 (t := 267) (u := 269) w8.heap.size (.slice (some ⟨gP, 0, none⟩) P.length capP) P.length (rowI P) [.int .i64 (j : Int)] wr.heap.size ?_ ?_ ?_ ?_ ?_ ?_ ?_ ?_ ?_); (exact rfl); (exact rfl); (exact HOP.out.alloc _); (exact heap_alloc_new _ _); (exact rfl); (intro x hx; simp at hx; subst hx; rfl); omega; (simp; omega); (intro g1 cap1 wE hownE hgE hatE _); (have NE := hid ((NB.out.alloc hzr (.cells #[.int .i64 (j : Int)] 3)).grown hgE (by simp; omega) (fun k hk => own_ge HOP.out hk))); (have HOE := hid hownE); (have HBE := hid ((hgE.block B (by have := (Array.getElem?_eq_some_iff.1 HBX2.out).1; simp; omega) (fun h => own_apart HOP.out HBX2.out (by decide) h.symm)).trans ((Below.heap_alloc _ _ _ (Array.getElem?_eq_some_iff.1 HBX2.out).1).trans HBX2.out))); (have v2 := (NE.out.cell (p := ⟨Bvi, j, none⟩) hBvi).trans HV1.out); clear hownE hgE hatE))
        go_roundg (nT - ix O j)
        case measure => omega
        case rel => exact ⟨P ++ [j], j, g1, cap1, rfl, by simp, by rw [HVJ.out], by rw [rowI_snoc, List.length_append, List.length_singleton]; exact HOE.out, HPJ.out, NE.out, HBE.out⟩
      · have hP2 : 2 ≤ P.length := by
          apply Decidable.byContradiction
          intro h
          have h1 : P.length = 1 := by have := HPI.out.ne; omega
          have h2 := HPI.out.la
          rw [h1, HPI.out.hd] at h2
          subst h2
          omega
        obtain ⟨np, hPl⟩ : ∃ np, P.length = np + 1 := ⟨P.length - 1, by omega⟩
        have hPe2 : P.getD np 0 = e := by have := HPI.out.la; rw [hPl, Nat.add_sub_cancel] at this; exact this
        have hPe : P[np]'(by omega) = e := by rw [← hPe2, List.getD_eq_getElem?_getD, List.getElem?_eq_getElem (by omega), Option.getD_some]
        have hfu : 0 ≤ FU (e * 2 + 1) := by
          have h1 := MV.out.stop he (by omega)
          have h2 := HPI.out.eq
          rw [h1, HLI.out] at h2
          unfold lat0 at h2
          split at h2
          · assumption
          · have := HN1.out; omega
        obtain ⟨xa, hxaA, xc, hxcA, f1, f2, f3, f4, f5⟩ := G.out.fu e he hfu
        have hxa := (G.out.pt xa hxaA).1
        have hxc := (G.out.pt xc hxcA).1
        have hycA := HHY.out.1
        have hyaA := HHY.out.2
        obtain ⟨g3', g4', g5'⟩ := HG3.out
        have gd := HGD.out
        obtain ⟨_, _, hq, hq1, hgPW, hcapP, _⟩ := ownI_cell HOP.out (i := np) (by omega)
        simp only [Value.slice.injEq, Option.some.injEq, Addr.mk.injEq, and_true, true_and] at hq
        obtain ⟨rfl, rfl⟩ := hq
        have hPc : ∀ k (hk : k < P.length), wr.drew.cell? ⟨gP, k, none⟩ = some (.int .i64 (P[k] : Int)) := fun k hk => by
          obtain ⟨_, _, hq, _, _, _, h⟩ := ownI_cell HOP.out hk
          simp only [Value.slice.injEq, Option.some.injEq, Addr.mk.injEq, and_true, true_and] at hq
          obtain ⟨rfl, rfl⟩ := hq
          exact h
        have BR8 : Below w8.heap.size w8 wr.drew := NB.out.drew
        have hBW : B < wr.drew.heap.size := (Array.getElem?_eq_some_iff.1 HBX2.out).1
        have hB6W : B6 < wr.drew.heap.size := Nat.lt_of_lt_of_le hB6l BR8.size
        have s0 : wr.drew.cell? ⟨B, 0, none⟩ = some (.int .i64 (yc.p : Int)) := by rw [cell_of_row _ _ _ _ _ _ (show wr.drew.heap[B]? = _ from HBX2.out)]; rfl
        have s1 : wr.drew.cell? ⟨B, 1, none⟩ = some (.int .i64 (ya.p : Int)) := by rw [cell_of_row _ _ _ _ _ _ (show wr.drew.heap[B]? = _ from HBX2.out)]; rfl
        have hB6R := (BR8.block B6 hB6l).trans HB6.out
        have s2 : wr.drew.cell? ⟨B6, 0, none⟩ = some (.slice al S.length capS) := by rw [cell_of_row _ _ _ _ _ _ hB6R]; rfl
        have s3 : wr.drew.cell? ⟨B6, 1, none⟩ = some (.slice (some ⟨Bo, 0, none⟩) A.length A.length) := by rw [cell_of_row _ _ _ _ _ _ hB6R]; rfl
        have s4 : wr.drew.cell? ⟨B6, 2, none⟩ = some (.map (some Bm)) := by rw [cell_of_row _ _ _ _ _ _ hB6R]; rfl
        clear hB6R hq1
        rw [hPl] at hcapP ⊢
        have HAL := hid (fun (W : World) (b8 : Below w8.heap.size w8 W) (b : Below wr.drew.heap.size wr.drew W) => along_at (wr := wr.drew) (W := W) (Bo := Bo) hS.out hA hnT hm hBc HBX HVA HSM G.out.so (by omega) HVS HSP HMP hPl HPI.out.lt (by omega) hgPW hPc hcapP (fun k hk => HPI.out.su k (by omega)) b8 b)
        go_upto_region 57 with fail
        refine wp_region_L 11 (S := (fun (W : World) => W.cell? ⟨B, 0, none⟩ = some (.int .i64 (yc.p : Int)) ∧ W.cell? ⟨B, 1, none⟩ = some (.int .i64 (ya.p : Int)) ∧ W.cell? ⟨B6, 0, none⟩ = some (.slice al S.length capS) ∧ W.cell? ⟨B6, 1, none⟩ = some (.slice (some ⟨Bo, 0, none⟩) A.length A.length) ∧ W.cell? ⟨B6, 2, none⟩ = some (.map (some Bm)))) (by kernel_rfl) ?_
        have hHeld : (fun (W : World) => W.cell? ⟨B, 0, none⟩ = some (.int .i64 (yc.p : Int)) ∧ W.cell? ⟨B, 1, none⟩ = some (.int .i64 (ya.p : Int)) ∧ W.cell? ⟨B6, 0, none⟩ = some (.slice al S.length capS) ∧ W.cell? ⟨B6, 1, none⟩ = some (.slice (some ⟨Bo, 0, none⟩) A.length A.length) ∧ W.cell? ⟨B6, 2, none⟩ = some (.map (some Bm))) wr.drew := ⟨s0, s1, s2, s3, s4⟩
        refine wpAnyL_take (i := 0) (v := .agg #[.int .i64 (yc.p : Int), .int .i64 (ya.p : Int)]) rfl (by kernel_rfl) (by kernel_rfl) (by kernel_rfl) (by kernel_rfl) (fun _ _ _ h => h) (Or.inl ⟨by rfl, ?_⟩) (by assumption) ?_
        · intro w hSw
          try dsimp only at hSw
          go_simp
        simp only [Act.put, List.setIfInBounds_toArray, List.set_cons_zero, List.set_cons_succ, List.getElem_toArray, List.getElem_cons_zero, List.getElem_cons_succ]
        refine wpAnyL_take (i := 1) (v := .slice as_ n capl) rfl (by kernel_rfl) (by kernel_rfl) (by kernel_rfl) (by kernel_rfl) (fun _ _ _ h => h) (Or.inl ⟨by rfl, ?_⟩) (by assumption) ?_
        · intro w hSw
          try dsimp only at hSw
          go_simp
        simp only [Act.put, List.setIfInBounds_toArray, List.set_cons_zero, List.set_cons_succ, List.getElem_toArray, List.getElem_cons_zero, List.getElem_cons_succ]
        refine wpAnyL_take (i := 4) (v := .pointer (some ⟨Bc, 0, none⟩)) rfl (by kernel_rfl) (by kernel_rfl) (by kernel_rfl) (by kernel_rfl) (fun _ _ _ h => h) (Or.inl ⟨by rfl, ?_⟩) (by assumption) ?_
        · intro w hSw
          try dsimp only at hSw
          go_simp
        simp only [Act.put, List.setIfInBounds_toArray, List.set_cons_zero, List.set_cons_succ, List.getElem_toArray, List.getElem_cons_zero, List.getElem_cons_succ]
        refine wpAnyL_take (i := 5) (v := .slice as_ n capl) rfl (by kernel_rfl) (by kernel_rfl) (by kernel_rfl) (by kernel_rfl) (fun _ _ _ h => h) (Or.inl ⟨by rfl, ?_⟩) (by assumption) ?_
        · intro w hSw
          try dsimp only at hSw
          go_simp
        simp only [Act.put, List.setIfInBounds_toArray, List.set_cons_zero, List.set_cons_succ, List.getElem_toArray, List.getElem_cons_zero, List.getElem_cons_succ]
        refine wpAnyL_take (i := 6) (v := .agg #[.slice al S.length capS, .slice (some ⟨Bo, 0, none⟩) A.length A.length, .map (some Bm)]) rfl (by kernel_rfl) (by kernel_rfl) (by kernel_rfl) (by kernel_rfl) (fun _ _ _ h => h) (Or.inl ⟨by rfl, ?_⟩) (by assumption) ?_
        · intro w hSw
          try dsimp only at hSw
          go_simp
        simp only [Act.put, List.setIfInBounds_toArray, List.set_cons_zero, List.set_cons_succ, List.getElem_toArray, List.getElem_cons_zero, List.getElem_cons_succ]
        refine wpAnyL_take (i := 7) (v := .slice (some ⟨gP, 0, none⟩) (np + 1) capP) rfl (by kernel_rfl) (by kernel_rfl) (by kernel_rfl) (by kernel_rfl) (fun _ _ _ h => h) (Or.inl ⟨by rfl, ?_⟩) (by assumption) ?_
        · intro w hSw
          try dsimp only at hSw
          go_simp
        simp only [Act.put, List.setIfInBounds_toArray, List.set_cons_zero, List.set_cons_succ, List.getElem_toArray, List.getElem_cons_zero, List.getElem_cons_succ]
        refine wpAnyL_one (i := 2) (by kernel_rfl) rfl (fun K hK => ?_)
        go_simp
        refine Calls.mono (arc_any _ (.slice as_ n capl) l yc.p ya.p hyc hya (by omega) (HVS.out.below BR8)) ?_
        rintro e w7 ⟨rfl, hb7⟩
        dsimp only
        have BN1 : Below wr.drew.heap.size wr.drew w7 := hb7
        have BN18 := BR8.trans (BN1.mono BR8.size)
        refine hK.out _ _ (fun _ => ⟨(BN1.cell (p := ⟨B, 0, none⟩) hBW).trans s0, (BN1.cell (p := ⟨B, 1, none⟩) hBW).trans s1, (BN1.cell (p := ⟨B6, 0, none⟩) hB6W).trans s2, (BN1.cell (p := ⟨B6, 1, none⟩) hB6W).trans s3, (BN1.cell (p := ⟨B6, 2, none⟩) hB6W).trans s4⟩) ?_
        clear hK K hb7
        try simp only [Act.put, List.setIfInBounds_toArray, List.set_cons_zero, List.set_cons_succ, List.getElem_toArray, List.getElem_cons_zero, List.getElem_cons_succ]
        refine wpAnyL_two (i := 3) (j := 8) (by kernel_rfl) rfl rfl (fun K hK => ?_) (fun K hK => ?_)
        · refine bsD26_1 (by rfl) 273 (by rfl) l[yc.p] l[ya.p] (by rfl) ?_
          have BN2 := BN1.alloc (by have := BN1.size; omega) (.cells (arcC l[yc.p] l[ya.p]).toArray 67)
          have BN28 := BN18.alloc (by have := BN18.size; omega) (.cells (arcC l[yc.p] l[ya.p]).toArray 67)
          refine hK.out _ _ (fun _ => ⟨(BN2.cell (p := ⟨B, 0, none⟩) hBW).trans s0, (BN2.cell (p := ⟨B, 1, none⟩) hBW).trans s1, (BN2.cell (p := ⟨B6, 0, none⟩) hB6W).trans s2, (BN2.cell (p := ⟨B6, 1, none⟩) hB6W).trans s3, (BN2.cell (p := ⟨B6, 2, none⟩) hB6W).trans s4⟩) ?_
          clear hK K
          try simp only [Act.put, List.setIfInBounds_toArray, List.set_cons_zero, List.set_cons_succ, List.getElem_toArray, List.getElem_cons_zero, List.getElem_cons_succ]
          refine wpAnyL_one (i := 8) (by kernel_rfl) rfl (fun K hK => ?_)
          go_simp
          refine Calls.mono (HAL.out _ BN28 BN2) ?_
          rintro e w9 ⟨g, Bf, Cf, rfl, hg1, hrg, hgl, hb9, hall⟩
          dsimp only
          have BN3 := BN2.trans (hb9.mono BN2.size)
          have BN38 := BN28.trans (hb9.mono BN28.size)
          refine hK.out _ _ (fun _ => ⟨(BN3.cell (p := ⟨B, 0, none⟩) hBW).trans s0, (BN3.cell (p := ⟨B, 1, none⟩) hBW).trans s1, (BN3.cell (p := ⟨B6, 0, none⟩) hB6W).trans s2, (BN3.cell (p := ⟨B6, 1, none⟩) hB6W).trans s3, (BN3.cell (p := ⟨B6, 2, none⟩) hB6W).trans s4⟩) ?_
          clear hK K
          try simp only [Act.put, List.setIfInBounds_toArray, List.set_cons_zero, List.set_cons_succ, List.getElem_toArray, List.getElem_cons_zero, List.getElem_cons_succ]
          have HRG := hrg
          have hd2 : w9.heap[w7.heap.size]? = some (.cells (arcC l[yc.p] l[ya.p]).toArray 67 (0, 0)) := (hb9.block _ (by simp)).trans (heap_alloc_new w7 _)
          have hge2 : w8.heap.size ≤ w7.heap.size := BN18.size
          have hge3 : wr.drew.heap.size ≤ w7.heap.size := BN1.size
          refine wpAnyL_one (i := 9) (by kernel_rfl) rfl (fun K hK => ?_)
          refine apArcs (by rfl) _ _ (by rfl) w8.heap.size w7.heap.size g np l[yc.p] l[ya.p] Bf Cf (by rfl) (by rfl) hd2 hge2 HRG (by omega) (by omega) (by have := BN38.size; omega) ?_
          intro g2 cap2 wE hown2 hgr2 hlt2
          have BNE := BN3.grown hgr2 (by have := BN3.size; omega) (fun k hk => by cases hk; exact hge3)
          have BNE8 := BN38.grown hgr2 (by have := BN38.size; omega) (fun k hk => by cases hk; exact hge2)
          refine hK.out _ _ (fun _ => ⟨(BNE.cell (p := ⟨B, 0, none⟩) hBW).trans s0, (BNE.cell (p := ⟨B, 1, none⟩) hBW).trans s1, (BNE.cell (p := ⟨B6, 0, none⟩) hB6W).trans s2, (BNE.cell (p := ⟨B6, 1, none⟩) hB6W).trans s3, (BNE.cell (p := ⟨B6, 2, none⟩) hB6W).trans s4⟩) ?_
          clear hK K
          try simp only [Act.put, List.setIfInBounds_toArray, List.set_cons_zero, List.set_cons_succ, List.getElem_toArray, List.getElem_cons_zero, List.getElem_cons_succ]
          refine wpAnyL_one (i := 10) (by kernel_rfl) rfl (fun K hK => ?_)
          go_simp
          refine hK.out _ _ (fun _ => ⟨(BNE.cell (p := ⟨B, 0, none⟩) hBW).trans s0, (BNE.cell (p := ⟨B, 1, none⟩) hBW).trans s1, (BNE.cell (p := ⟨B6, 0, none⟩) hB6W).trans s2, (BNE.cell (p := ⟨B6, 1, none⟩) hB6W).trans s3, (BNE.cell (p := ⟨B6, 2, none⟩) hB6W).trans s4⟩) ?_
          clear hK K
          try simp only [Act.put, List.setIfInBounds_toArray, List.set_cons_zero, List.set_cons_succ, List.getElem_toArray, List.getElem_cons_zero, List.getElem_cons_succ]
          refine wpAnyL_done (by kernel_rfl) ?_ _
          have HOE := hid hown2
          have HBE := hid BNE
          have HBE8 := hid BNE8
          have HALL := hid hall
          clear hown2 hgr2 BNE BNE8 hall hrg HRG hHeld hb9
          have hzE := HBE8.out.size
          have p0 : wE.cell? ⟨gP, np, none⟩ = some (.int .i64 (e : Int)) := (HBE.out.cell (p := ⟨gP, np, none⟩) hgPW).trans (by have := hPc np (by omega); rw [this, hPe])
          have u0 : wE.cell? ⟨Bu, e * 2, none⟩ = some (.int .i64 (xa.p : Int)) := (HBE8.out.cell (p := ⟨Bu, e * 2, none⟩) hBu).trans (by rw [HU.out _ (by omega), f1])
          have u1 : wE.cell? ⟨Bu, e * 2 + 1, none⟩ = some (.int .i64 (xc.p : Int)) := (HBE8.out.cell (p := ⟨Bu, e * 2 + 1, none⟩) hBu).trans (by rw [HU.out _ (by omega), f2])
          have HARC := hid (arc_any wE (.slice as_ n capl) l xa.p xc.p hxa hxc (by omega) (HVS.out.below HBE8.out))
          obtain ⟨ex, hex⟩ : ∃ ex, l[xa.p] = ex := ⟨_, rfl⟩
          obtain ⟨ey, hey⟩ : ∃ ey, l[xc.p] = ey := ⟨_, rfl⟩
          rw [hex, hey] at HARC
          have HEX := hid hex
          have HEY := hid hey
          clear hex hey
          have hei : (e : Int) < (nT : Int) := by omega
          have he0 : (0 : Int) ≤ (e : Int) := by omega
          have hnpi : (np : Int) < (np : Int) + 1 := by omega
          have hnp0 : (0 : Int) ≤ (np : Int) := by omega
          go_wp2_with (first
            | (go_at_call 24; refine Calls.mono HARC.out ?_; rintro e9 w9 ⟨rfl, hb9⟩; have BN9 := hid (HBE8.out.trans (hb9.mono hzE)); have HO9 := hid (show w9.ownsRow w8.heap.size 67 8 (.slice (some ⟨g2, 0, none⟩) (1 + np) cap2) (1 + np) (arcC l[yc.p] l[ya.p] ++ rowFn np Bf Cf) from HOE.out.kept (below_gr hb9) (by cases (Value.slice (some ⟨g2, 0, none⟩) (1 + np) cap2).ownBlock <;> simp)); clear hb9; dsimp only)
            | ((with_reducible refine bs67 (t := 292) ex ey ?_ ?_); (exact rfl))
            | ((with_reducible refine apK Ybad.E26 (t := 281) (u := 293) w8.heap.size (.slice (some ⟨g2, 0, none⟩) (1 + np) cap2) (1 + np) (arcC l[yc.p] l[ya.p] ++ rowFn np Bf Cf) (arcC ex ey) w9.heap.size ?_ ?_ ?_ ?_ ?_ ?_ ?_ ?_ ?_); (exact rfl); (exact rfl); (exact HO9.out.alloc _); (exact heap_alloc_new _ _); (exact rfl); (exact arcC_one _ _); omega; (have := BN9.out.size; simp; omega); (intro g3 cap3 wF hownF hgF hatF hltF); (have BNF := hid ((BN9.out.alloc BN9.out.size (.cells (arcC ex ey).toArray 67)).grown hgF (by have := BN9.out.size; simp; omega) (fun k hk => own_ge HO9.out hk))); (have HOF := hid hownF); (have hg3 := own_ge hownF (k := g3) rfl); (have HB2F := hid ((BNF.out.block B2 hB2l).trans HB2.out)); clear hownF hgF hatF)
            | ((with_reducible refine st28 (t := 2) (u := 295) B2 #[.slice none 0 0, .slice none 0 0, .bool false] #[.slice none 0 0, .slice (some ⟨g3, 0, none⟩) (1 + np + 1) cap3, .bool false] ?_ ?_ ?_ ?_ ?_ ?_ ?_); (exact rfl); (exact rfl); (exact HB2F.out); (exact rfl); (exact rfl); (simp [Value.oneCell'])))
          have HLK := hid (chain_linked G.out (np := np) (P := P) (Bf := Bf) (Cf := Cf) hPl hycA hyaA hxaA hxcA (g3'.trans HPI.out.hd.symm) (by rw [HPI.out.hd]; exact g4') g5' (f3.trans hPe2.symm) (by rw [hPe2]; exact f4) f5 (fun k hk => ⟨(HPI.out.su k (by omega)).1, HALL.out k hk⟩))
          have hrow := HOF.out
          rw [show arcC ex ey = arcC (l.getD xa.p ac0) (l.getD xc.p ac0) from by rw [gd _ hxa, gd _ hxc, HEX.out, HEY.out], show arcC l[yc.p] l[ya.p] = arcC (l.getD yc.p ac0) (l.getD ya.p ac0) from by rw [gd _ hyc, gd _ hya], bC_row, show 1 + np + 1 = np + 2 by omega] at hrow
          rw [show 1 + np + 1 = np + 2 by omega]
          exact HR.out _ _ rfl (GRes.chain BNF.out HB2F.out (by omega) hltF (by omega) (chain_rows hrow) HLK.out)
        · go_simp
          refine Calls.mono (HAL.out _ BN18 BN1) ?_
          rintro e w9 ⟨g, Bf, Cf, rfl, hg1, hrg, hgl, hb9, hall⟩
          dsimp only
          have BN2 := BN1.trans (hb9.mono BN1.size)
          have BN28 := BN18.trans (hb9.mono BN18.size)
          refine hK.out _ _ (fun _ => ⟨(BN2.cell (p := ⟨B, 0, none⟩) hBW).trans s0, (BN2.cell (p := ⟨B, 1, none⟩) hBW).trans s1, (BN2.cell (p := ⟨B6, 0, none⟩) hB6W).trans s2, (BN2.cell (p := ⟨B6, 1, none⟩) hB6W).trans s3, (BN2.cell (p := ⟨B6, 2, none⟩) hB6W).trans s4⟩) ?_
          clear hK K
          try simp only [Act.put, List.setIfInBounds_toArray, List.set_cons_zero, List.set_cons_succ, List.getElem_toArray, List.getElem_cons_zero, List.getElem_cons_succ]
          refine wpAnyL_one (i := 3) (by kernel_rfl) rfl (fun K hK => ?_)
          refine bsD26_1 (by rfl) 273 (by rfl) l[yc.p] l[ya.p] (by rfl) ?_
          have BN3 := BN2.alloc (by have := BN2.size; omega) (.cells (arcC l[yc.p] l[ya.p]).toArray 67)
          have BN38 := BN28.alloc (by have := BN28.size; omega) (.cells (arcC l[yc.p] l[ya.p]).toArray 67)
          refine hK.out _ _ (fun _ => ⟨(BN3.cell (p := ⟨B, 0, none⟩) hBW).trans s0, (BN3.cell (p := ⟨B, 1, none⟩) hBW).trans s1, (BN3.cell (p := ⟨B6, 0, none⟩) hB6W).trans s2, (BN3.cell (p := ⟨B6, 1, none⟩) hB6W).trans s3, (BN3.cell (p := ⟨B6, 2, none⟩) hB6W).trans s4⟩) ?_
          clear hK K
          try simp only [Act.put, List.setIfInBounds_toArray, List.set_cons_zero, List.set_cons_succ, List.getElem_toArray, List.getElem_cons_zero, List.getElem_cons_succ]
          have HRG : ∀ k, k < np → (w9.alloc (.cells (arcC l[yc.p] l[ya.p]).toArray 67)).rangeAt g (k * 8) (arcC (Bf k) (Cf k)) := fun k hk => World.rangeAt_alloc (hrg k hk) _
          have hd2 := heap_alloc_new w9 (.cells (arcC l[yc.p] l[ya.p]).toArray 67)
          have hge2 : w8.heap.size ≤ w9.heap.size := BN28.size
          have hge3 : wr.drew.heap.size ≤ w9.heap.size := BN2.size
          refine wpAnyL_one (i := 9) (by kernel_rfl) rfl (fun K hK => ?_)
          refine apArcs (by rfl) _ _ (by rfl) w8.heap.size w9.heap.size g np l[yc.p] l[ya.p] Bf Cf (by rfl) (by rfl) hd2 hge2 HRG (by omega) (by omega) (by have := BN38.size; omega) ?_
          intro g2 cap2 wE hown2 hgr2 hlt2
          have BNE := BN3.grown hgr2 (by have := BN3.size; omega) (fun k hk => by cases hk; exact hge3)
          have BNE8 := BN38.grown hgr2 (by have := BN38.size; omega) (fun k hk => by cases hk; exact hge2)
          refine hK.out _ _ (fun _ => ⟨(BNE.cell (p := ⟨B, 0, none⟩) hBW).trans s0, (BNE.cell (p := ⟨B, 1, none⟩) hBW).trans s1, (BNE.cell (p := ⟨B6, 0, none⟩) hB6W).trans s2, (BNE.cell (p := ⟨B6, 1, none⟩) hB6W).trans s3, (BNE.cell (p := ⟨B6, 2, none⟩) hB6W).trans s4⟩) ?_
          clear hK K
          try simp only [Act.put, List.setIfInBounds_toArray, List.set_cons_zero, List.set_cons_succ, List.getElem_toArray, List.getElem_cons_zero, List.getElem_cons_succ]
          refine wpAnyL_one (i := 10) (by kernel_rfl) rfl (fun K hK => ?_)
          go_simp
          refine hK.out _ _ (fun _ => ⟨(BNE.cell (p := ⟨B, 0, none⟩) hBW).trans s0, (BNE.cell (p := ⟨B, 1, none⟩) hBW).trans s1, (BNE.cell (p := ⟨B6, 0, none⟩) hB6W).trans s2, (BNE.cell (p := ⟨B6, 1, none⟩) hB6W).trans s3, (BNE.cell (p := ⟨B6, 2, none⟩) hB6W).trans s4⟩) ?_
          clear hK K
          try simp only [Act.put, List.setIfInBounds_toArray, List.set_cons_zero, List.set_cons_succ, List.getElem_toArray, List.getElem_cons_zero, List.getElem_cons_succ]
          refine wpAnyL_done (by kernel_rfl) ?_ _
          have HOE := hid hown2
          have HBE := hid BNE
          have HBE8 := hid BNE8
          have HALL := hid hall
          clear hown2 hgr2 BNE BNE8 hall hrg HRG hHeld hb9
          have hzE := HBE8.out.size
          have p0 : wE.cell? ⟨gP, np, none⟩ = some (.int .i64 (e : Int)) := (HBE.out.cell (p := ⟨gP, np, none⟩) hgPW).trans (by have := hPc np (by omega); rw [this, hPe])
          have u0 : wE.cell? ⟨Bu, e * 2, none⟩ = some (.int .i64 (xa.p : Int)) := (HBE8.out.cell (p := ⟨Bu, e * 2, none⟩) hBu).trans (by rw [HU.out _ (by omega), f1])
          have u1 : wE.cell? ⟨Bu, e * 2 + 1, none⟩ = some (.int .i64 (xc.p : Int)) := (HBE8.out.cell (p := ⟨Bu, e * 2 + 1, none⟩) hBu).trans (by rw [HU.out _ (by omega), f2])
          have HARC := hid (arc_any wE (.slice as_ n capl) l xa.p xc.p hxa hxc (by omega) (HVS.out.below HBE8.out))
          obtain ⟨ex, hex⟩ : ∃ ex, l[xa.p] = ex := ⟨_, rfl⟩
          obtain ⟨ey, hey⟩ : ∃ ey, l[xc.p] = ey := ⟨_, rfl⟩
          rw [hex, hey] at HARC
          have HEX := hid hex
          have HEY := hid hey
          clear hex hey
          have hei : (e : Int) < (nT : Int) := by omega
          have he0 : (0 : Int) ≤ (e : Int) := by omega
          have hnpi : (np : Int) < (np : Int) + 1 := by omega
          have hnp0 : (0 : Int) ≤ (np : Int) := by omega
          go_wp2_with (first
            | (go_at_call 24; refine Calls.mono HARC.out ?_; rintro e9 w9 ⟨rfl, hb9⟩; have BN9 := hid (HBE8.out.trans (hb9.mono hzE)); have HO9 := hid (show w9.ownsRow w8.heap.size 67 8 (.slice (some ⟨g2, 0, none⟩) (1 + np) cap2) (1 + np) (arcC l[yc.p] l[ya.p] ++ rowFn np Bf Cf) from HOE.out.kept (below_gr hb9) (by cases (Value.slice (some ⟨g2, 0, none⟩) (1 + np) cap2).ownBlock <;> simp)); clear hb9; dsimp only)
            | ((with_reducible refine bs67 (t := 292) ex ey ?_ ?_); (exact rfl))
            | ((with_reducible refine apK Ybad.E26 (t := 281) (u := 293) w8.heap.size (.slice (some ⟨g2, 0, none⟩) (1 + np) cap2) (1 + np) (arcC l[yc.p] l[ya.p] ++ rowFn np Bf Cf) (arcC ex ey) w9.heap.size ?_ ?_ ?_ ?_ ?_ ?_ ?_ ?_ ?_); (exact rfl); (exact rfl); (exact HO9.out.alloc _); (exact heap_alloc_new _ _); (exact rfl); (exact arcC_one _ _); omega; (have := BN9.out.size; simp; omega); (intro g3 cap3 wF hownF hgF hatF hltF); (have BNF := hid ((BN9.out.alloc BN9.out.size (.cells (arcC ex ey).toArray 67)).grown hgF (by have := BN9.out.size; simp; omega) (fun k hk => own_ge HO9.out hk))); (have HOF := hid hownF); (have hg3 := own_ge hownF (k := g3) rfl); (have HB2F := hid ((BNF.out.block B2 hB2l).trans HB2.out)); clear hownF hgF hatF)
            | ((with_reducible refine st28 (t := 2) (u := 295) B2 #[.slice none 0 0, .slice none 0 0, .bool false] #[.slice none 0 0, .slice (some ⟨g3, 0, none⟩) (1 + np + 1) cap3, .bool false] ?_ ?_ ?_ ?_ ?_ ?_ ?_); (exact rfl); (exact rfl); (exact HB2F.out); (exact rfl); (exact rfl); (simp [Value.oneCell'])))
          have HLK := hid (chain_linked G.out (np := np) (P := P) (Bf := Bf) (Cf := Cf) hPl hycA hyaA hxaA hxcA (g3'.trans HPI.out.hd.symm) (by rw [HPI.out.hd]; exact g4') g5' (f3.trans hPe2.symm) (by rw [hPe2]; exact f4) f5 (fun k hk => ⟨(HPI.out.su k (by omega)).1, HALL.out k hk⟩))
          have hrow := HOF.out
          rw [show arcC ex ey = arcC (l.getD xa.p ac0) (l.getD xc.p ac0) from by rw [gd _ hxa, gd _ hxc, HEX.out, HEY.out], show arcC l[yc.p] l[ya.p] = arcC (l.getD yc.p ac0) (l.getD ya.p ac0) from by rw [gd _ hyc, gd _ hya], bC_row, show 1 + np + 1 = np + 2 by omega] at hrow
          rw [show 1 + np + 1 = np + 2 by omega]
          exact HR.out _ _ rfl (GRes.chain BNF.out HB2F.out (by omega) hltF (by omega) (chain_rows hrow) HLK.out)


end Go.Proofs.YbulkbgasDoor
