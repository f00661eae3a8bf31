import Derived.Test.YbulkbgasDoorGk8
import Derived.Test.YbulkbgasDoorCk8
namespace Go.Proofs.YbulkbgasDoor
open Go.RowKit Go.Maps
set_option linter.unusedVariables false
set_option linter.unusedSimpArgs false
attribute [local go_sem ↓] Go.wp_at_zero Go.wp_at_succ

set_option maxRecDepth 1000000 in
set_option maxHeartbeats 4000000 in
theorem gk_front (w2 : World) (B2 n capl : Nat) (as_ : Option Addr) (l : List Ac) (hln : l.length = n) (hn : n ≤ 300) (hcl : n ≤ capl)
    (HT : Hid (∀ a ∈ l, 1 ≤ a.t ∧ a.t ≤ 4)) (HIT : Hid (∀ a ∈ l, a.it.size ≤ 100)) (HS : Hid (Els w2 3 as_ l.length fun i => (l.getD i ac0).cells)) (HLD : Hid (Laid w2)) (HB2 : Hid (w2.heap[B2]? = some (.cells #[.slice none 0 0, .slice none 0 0, .bool false] 28 (0, 0)))) (PL : Hid (Gen7 l))
    (Q : Exit → Act → World → Prop) (c1 c3 c4 c5 c6 c7 c8 c9 c10 c11 c12 c13 c14 c15 c16 c17 c18 c19 c20 c21 c22 c23 c24 c25 c26 c27 c28 c29 c30 c31 c32 c33 c34 c35 c36 c37 c38 c39 c40 c41 c42 c43 c44 c45 c46 c47 c48 c49 c50 c51 c52 c53 c54 c55 c56 c57 c58 c59 c60 c61 c62 c63 c64 c65 c66 c67 c68 c69 c70 c71 c72 c73 c74 c75 c76 c77 c78 c79 c80 c81 c82 c83 c84 c85 c86 c87 c88 c89 c90 c91 c92 c93 c94 c95 c96 c97 c98 c99 c100 c101 c102 c103 c104 c105 c106 c107 c108 c109 c110 c111 c112 c113 c114 c115 c116 c117 c118 c119 c120 c121 c122 c123 c124 c125 c126 c127 c128 c129 c130 c131 c132 c133 c134 c135 c136 c137 c138 c139 c140 c141 c142 c143 c144 c145 c146 c147 c148 c149 c150 c151 c152 c153 c154 c155 c156 c157 c158 c159 c160 c161 c162 c163 c164 c165 c166 c167 c168 c169 c170 c171 c172 c173 c174 c175 c176 c177 c178 c179 c180 c181 c182 c183 c184 c185 c186 c187 c188 c189 c190 c191 c192 c193 c194 c195 c196 c197 c198 c199 c200 c201 c202 c203 c204 c205 c206 c207 c208 c209 c210 c211 c212 c213 c214 c215 c216 c217 c218 c219 c220 c221 c222 c223 c224 c225 c226 c227 c228 c229 c230 c231 c232 c233 c234 c235 c236 c237 c238 c239 c240 c241 c242 c243 c244 c245 c246 c247 c248 c249 c250 c251 c252 c253 c254 c255 c256 c257 c258 c259 c260 c261 c262 c263 c264 c265 c266 c267 c268 c269 c270 c271 c272 c273 c274 c275 c276 c277 c278 c279 c280 c281 c282 c283 c284 c285 c286 c287 c288 c289 c290 c291 c292 c293 c294 c295 c296 c297 c298 c299 c300 c301 c302 c303 : Value)
    (hret : ∀ (tm : Array Value) (wi : World), tm.getD 2 undef = .pointer (some ⟨B2, 0, none⟩) → GR7 l w2 wi B2 → Q .ret ⟨tm, []⟩ wi) :
    Code.wp Ybad.prog (tail7 3) Q ⟨#[.slice as_ n capl, c1, .pointer (some ⟨B2, 0, none⟩), c3, c4, c5, c6, c7, c8, c9, c10, c11, c12, c13, c14, c15, c16, c17, c18, c19, c20, c21, c22, c23, c24, c25, c26, c27, c28, c29, c30, c31, c32, c33, c34, c35, c36, c37, c38, c39, c40, c41, c42, c43, c44, c45, c46, c47, c48, c49, c50, c51, c52, c53, c54, c55, c56, c57, c58, c59, c60, c61, c62, c63, c64, c65, c66, c67, c68, c69, c70, c71, c72, c73, c74, c75, c76, c77, c78, c79, c80, c81, c82, c83, c84, c85, c86, c87, c88, c89, c90, c91, c92, c93, c94, c95, c96, c97, c98, c99, c100, c101, c102, c103, c104, c105, c106, c107, c108, c109, c110, c111, c112, c113, c114, c115, c116, c117, c118, c119, c120, c121, c122, c123, c124, c125, c126, c127, c128, c129, c130, c131, c132, c133, c134, c135, c136, c137, c138, c139, c140, c141, c142, c143, c144, c145, c146, c147, c148, c149, c150, c151, c152, c153, c154, c155, c156, c157, c158, c159, c160, c161, c162, c163, c164, c165, c166, c167, c168, c169, c170, c171, c172, c173, c174, c175, c176, c177, c178, c179, c180, c181, c182, c183, c184, c185, c186, c187, c188, c189, c190, c191, c192, c193, c194, c195, c196, c197, c198, c199, c200, c201, c202, c203, c204, c205, c206, c207, c208, c209, c210, c211, c212, c213, c214, c215, c216, c217, c218, c219, c220, c221, c222, c223, c224, c225, c226, c227, c228, c229, c230, c231, c232, c233, c234, c235, c236, c237, c238, c239, c240, c241, c242, c243, c244, c245, c246, c247, c248, c249, c250, c251, c252, c253, c254, c255, c256, c257, c258, c259, c260, c261, c262, c263, c264, c265, c266, c267, c268, c269, c270, c271, c272, c273, c274, c275, c276, c277, c278, c279, c280, c281, c282, c283, c284, c285, c286, c287, c288, c289, c290, c291, c292, c293, c294, c295, c296, c297, c298, c299, c300, c301, c302, c303], []⟩ w2 := by
  refine Code.wp_mono NoPanic.imp ?_
  have HR := hid hret
  clear hret
  conv => arg 2; whnf
  have HLN := hid hln
  have HSA := hid (show SlA w2 (.slice as_ n capl) l from ⟨as_, capl, by rw [hln], by omega, HS.out⟩)
  have HEND := hid (ends_any w2 (.slice as_ n capl) l (by omega) HSA.out HT.out)
  clear hln
  dsimp only
  go_wp2_with (first
    | (go_at_call 19; refine Calls.mono HEND.out ?_; rintro e w3 ⟨nm, rfl, ⟨D, hD, hDs⟩, _, hb⟩; have HD := hid hD; have HDS := hid hDs; have HB3 := hid hb; clear hD hDs hb; dsimp only)
    | (at_range; refine wpList_range_own _ rfl _ 48 rfl 32 90 keyed32 Ybad.underlying48 R90 w2.heap.size nm D rfl HD.out ?_; intro w0 hrg0 hg0 hs0))
  go_frame
  have hz3 := HB3.out.size
  have hlt3 := HD.out.lt
  have HB0 := hid (HB3.out.grown hg0 hz3 (fun k hk => by cases hk))
  have HRG0 := hid hrg0
  clear hrg0 hg0
  go_loopg [3] (Maps.size D) (fun g0 v wi => ∃ (left : Lit → Bool) (zs : List Int), wi.ranges Ybad.prog 32 R90 w2.heap.size w3.heap.size nm D left g0 ∧ wi.ownsRow (w3.heap.size + 1) 32 1 v zs.length (rowT zs) ∧ Col l left zs ∧ Below w2.heap.size w2 wi ∧ w3.heap.size + 1 ≤ wi.heap.size)
  case atStart => exact ⟨_, [], HRG0.out, World.ownsRow_nil _ _ _ _, Col.start HT.out HDS.out, HB0.out, by omega⟩
  case round =>
    obtain ⟨left, zs, hrg, hown, hcol, hbel, hsz⟩ := hrel
    have HRG := hid hrg
    have HOW := hid hown
    have HCO := hid hcol
    have HBE := hid hbel
    clear hrg hown hcol hbel HRG0 HB0
    go_wp2_with (at_next; refine wpList_next_ranges _ rfl _ rfl 32 keyed32 R90 (Value.int .i64) (fun c : Int × Int => .agg #[.int .i64 c.1, .int .i64 c.2]) (fun key kl hkey => by obtain ⟨x, rfl, _⟩ := Maps.keyOf_int_inv Ybad.underlying32 hkey; exact ⟨x, rfl⟩) R90_inv' w2.heap.size w3.heap.size nm D left _ rfl HRG.out ?_ ?_)
    · intro _ hl0
      have HL0 := hid hl0
      clear hl0
      go_upto_if 42 with fail
      refine wp_cond_false rfl (wp_exit ?_)
      dsimp only [Exit.then, Exit.inBlock]
      simp only [if_true]
      apply_assumption
      refine gk_mid w2 _ B2 n capl as_ _ l zs HLN.out hn hcl HT HIT HS HLD HB2 HBE (hid (own_base HOW.out (by omega))) (hid HCO.out.nd) (hid (HCO.out.stop HL0.out)) PL _ _ _ _ _ _ _ _ _ _ _ _ _ _ _ _ _ _ _ _ _ _ _ _ _ _ _ _ _ _ _ _ _ _ _ _ _ _ _ _ _ _ _ _ _ _ _ _ _ _ _ _ _ _ _ _ _ _ _ _ _ _ _ _ _ _ _ _ _ _ _ _ _ _ _ _ _ _ _ _ _ _ _ _ _ _ _ _ _ _ _ _ _ _ _ _ _ _ _ _ _ _ _ _ _ _ _ _ _ _ _ _ _ _ _ _ _ _ _ _ _ _ _ _ _ _ _ _ _ _ _ _ _ _ _ _ _ _ _ _ _ _ _ _ _ _ _ _ _ _ _ _ _ _ _ _ _ _ _ _ _ _ _ _ _ _ _ _ _ _ _ _ _ _ _ _ _ _ _ _ _ _ _ _ _ _ _ _ _ _ _ _ _ _ _ _ _ _ _ _ _ _ _ _ _ _ _ _ _ _ _ _ _ _ _ _ _ _ _ _ _ _ _ _ _ _ _ _ _ _ _ _ _ _ _ _ _ _ _ _ _ _ _ _ _ _ _ _ _ _ _ _ _ _ _ _ _ _ _ _ _ _ _ _ _ _ _ _ _ _ _ _ _ _ _ _ _ _ _ _ _ _ _ _ _ _ _ _ _ _ _ _ _ _ _ _ _ _ _ _ _ _ ?_
      intro tm wi h1 h2
      exact HR.out tm wi h1 h2
    · intro x ca cb kl y1 y2 w4 cnt' hkey hlk hv hat hrg1 hlt hg1 hs1 hen
      obtain ⟨x', ex, rfl, hwx⟩ := Maps.keyOf_int_inv Ybad.underlying32 hkey
      cases ex
      have HRG1 := hid hrg1
      have HG1 := hid hg1
      have HCO1 := hid (HCO.out.step hwx hlk)
      have HOW1 := hid (HOW.out.kept hg1 (.inr fun e => by have := own_ge HOW.out e; omega))
      have hlen := HCO.out.len HT.out
      have HW4 := hid (show Below w2.heap.size w2 w4 from HBE.out.grown hg1 HBE.out.size (fun k hk => by cases hk; omega))
      obtain ⟨a3, cap3, hv3, hc3, _, _⟩ := own_form HOW.out
      subst hv3
      have hz4 : w3.heap.size + 1 ≤ w4.heap.size := by omega
      have HS1 := hid hs1
      clear hkey hlk hv hat hrg1 hg1 hwx hs1
      go_wp2_with ((with_reducible refine apK Ybad.E47 (t := 45) (u := 47) (w3.heap.size + 1) (.slice a3 zs.length cap3) zs.length (rowT zs) [.int .i64 x] w4.heap.size ?_ ?_ ?_ ?_ ?_ ?_ ?_ ?_ ?_); (exact rfl); (exact rfl); (exact HOW1.out.alloc _); (exact heap_alloc_new _ _); (exact rfl); (intro x hx; simp at hx; subst hx; rfl); omega; (simp; omega); (intro g1 cap1 wE hownE hgE hatE hltE))
      have hne : ∀ k, k ≤ w3.heap.size → some k ≠ (Value.slice a3 zs.length cap3).ownBlock := fun k hk e => by have := own_ge HOW.out e.symm; omega
      have HRG2 := hid ((HRG1.out.alloc _).kept hgE (hne _ (by omega)) (hne _ (by omega)))
      have hsE := hgE.size
      rw [World.size_alloc] at hsE
      have HBE2 := hid ((HW4.out.alloc (o := Obj.cells #[Value.int IntKind.i64 x] 32) (by have := HW4.out.size; omega)).grown hgE (by have := HW4.out.size; rw [World.size_alloc]; omega) (fun k hk => by have := own_ge HOW.out hk; omega))
      have HOWN2 := hid hownE
      clear hownE hgE hatE hltE
      go_roundg cnt'
      case measure => exact hlt
      case rel => exact ⟨_, zs ++ [x], HRG2.out, by rw [List.length_append, rowT_snoc]; exact HOWN2.out, HCO1.out, HBE2.out, by omega⟩

end Go.Proofs.YbulkbgasDoor
