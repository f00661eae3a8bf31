import Derived.Test.YbulkbgasDoorGk5
namespace Go.Proofs.YbulkbgasDoor
open Go.RowKit Go.Maps
set_option linter.unusedVariables false
set_option linter.unusedSimpArgs false
attribute [local go_sem ↓] Go.wp_at_zero Go.wp_at_succ

theorem rch_first {A : List Acc} {n : Nat} {X : Nat → List Nat} (har : ∀ i, i < n → ∀ j ∈ X i, j < n ∧ Succ A i j) {a b : Nat} (h : Rch X a b) : a < n → Star (Succ A) a b := by
  induction h with
  | refl a => exact fun _ => .refl a
  | step h1 _ ih => exact fun ha => .step (har _ ha _ h1).2 (ih (har _ ha _ h1).1)
theorem rch_back {A : List Acc} {n : Nat} {X : Nat → List Nat} (har : ∀ i, i < n → ∀ j ∈ X i, j < n ∧ Succ A i j) : ∀ v, v < n → (∃ u, u ≠ v ∧ Rch X v u ∧ Rch X u v) → ∃ x, Succ A v x ∧ Star (Succ A) x v := by
  rintro v hv ⟨u, hne, h1, h2⟩
  cases h1 with
  | refl => exact absurd rfl hne
  | step h3 h4 =>
    have := har v hv _ h3
    exact ⟨_, this.2, rch_first har (h4.trans h2) this.1⟩
theorem Near.below {W W' : World} {Bn nT : Nat} {X : Nat → List Nat} (h : Near W Bn nT X) (b : Below W.heap.size W W') : Near W' Bn nT X := by
  obtain ⟨h1, h2⟩ := h
  refine ⟨Nat.lt_of_lt_of_le h1 b.size, fun i hi => ?_⟩
  obtain ⟨a, cap, h3, h4, h5⟩ := h2 i hi
  refine ⟨a, cap, (b.cell (p := ⟨Bn, i, none⟩) h1).trans h3, h4, fun t ht => ?_⟩
  obtain ⟨bx, ox, h6, h7, h8⟩ := h5 t ht
  exact ⟨bx, ox, h6, Nat.lt_of_lt_of_le h7 b.size, (b.cell (p := ⟨bx, ox + t, none⟩) h7).trans h8⟩
theorem own_block_lt {w : World} {base : Nat} {v : Value} {n : Nat} {xs : List Value} {e : Nat} {size : Nat} (h : w.ownsRow base e size v n xs) {k : Nat} (hk : v.ownBlock = some k) : k < w.heap.size := by
  rcases h.2 with ⟨rfl, _⟩ | ⟨g, cap, cur, rfl, hb, hh, _⟩
  · simp [Value.ownBlock] at hk
  · simp [Value.ownBlock] at hk
    subst hk
    exact (Array.getElem?_eq_some_iff.1 hh).1

set_option maxRecDepth 1000000 in
set_option maxHeartbeats 4000000 in
theorem gk_cycle (w7 : World) (Bc nT n B2 B6 Bo Bm Bn capl capt capS m : Nat) (at_ as_ al : Option Addr) (va : Value) (l : List Ac) (A : List Acc) (S : List Sp) (tx : List Int) (FU FL : Nat → Int) (X : Nat → List Nat) (O : List Nat)
    (G : Hid (GenP l A tx nT FU FL X)) (hS : Hid (S = spF A)) (hln : l.length = n) (hn : n ≤ 300) (hnT : nT ≤ 10) (hm : m ≤ 1000) (hA : A.length ≤ 300) (HSM : Hid (∀ a ∈ A, a.x < nT ∧ a.i < m ∧ a.p < l.length)) (HTL : Hid (tx.length = nT)) (hOl : O.length < nT) (HOm : Hid (∀ j ∈ O, j < nT)) (HST : Hid (∀ j, j < nT → j ∉ O → ∃ i, i < nT ∧ i ∉ O ∧ j ∈ X i))
    (hBc : Bc < w7.heap.size) (HBX : Hid (w7.heap[Bc]? = some (.cells #[.slice at_ nT capt, .int .i64 (m : Int), va] 63 (0, 0)))) (HTX : Hid (SlI w7 (.slice at_ nT capt) tx)) (HSO : Hid (∀ i j (hi : i < tx.length) (hj : j < tx.length), i < j → tx[i] < tx[j])) (HN : Hid (Near w7 Bn nT X))
    (HVA : Hid (SlX w7 va A)) (HVS : Hid (SlA w7 (.slice as_ n capl) l)) (HSP : Hid (SlS w7 (.slice al S.length capS) S)) (HMP : Hid (MapI F98 w7 Bm A.length (keysF A).length (loc (keysF A)))) (HB6 : Hid (w7.heap[B6]? = some (.cells #[.slice al S.length capS, .slice (some ⟨Bo, 0, none⟩) A.length A.length, .map (some Bm)] 57 (0, 0)))) (HB2 : Hid (w7.heap[B2]? = some (.cells #[.slice none 0 0, .slice none 0 0, .bool false] 28 (0, 0))))
    (Q : Exit → Act → World → Prop) (c1 c3 c4 c7 c8 c9 c10 c11 c13 c14 c15 c16 c17 c18 c19 c20 c21 c22 c23 c24 c25 c26 c27 c28 c29 c30 c31 c32 c33 c34 c35 c36 c37 c38 c39 c40 c41 c42 c43 c44 c45 c46 c47 c48 c49 c50 c51 c52 c53 c54 c55 c56 c57 c58 c59 c60 c61 c62 c63 c64 c65 c66 c67 c68 c69 c70 c71 c72 c73 c74 c75 c76 c77 c78 c79 c80 c81 c82 c83 c84 c85 c86 c87 c88 c89 c90 c91 c92 c93 c94 c95 c96 c97 c98 c99 c100 c101 c102 c103 c104 c105 c106 c107 c108 c109 c110 c111 c112 c113 c114 c115 c116 c117 c118 c119 c120 c121 c122 c123 c124 c125 c126 c127 c128 c129 c130 c131 c132 c133 c134 c135 c136 c137 c138 c139 c140 c141 c142 c143 c144 c145 c146 c147 c148 c149 c150 c151 c152 c153 c154 c155 c156 c157 c158 c159 c160 c161 c162 c163 c164 c165 c166 c167 c168 c169 c170 c171 c172 c173 c174 c175 c176 c177 c178 c179 c180 c181 c182 c183 c184 c185 c186 c187 c188 c189 c190 c191 c192 c193 c194 c195 c196 c197 c198 c199 c200 c201 c202 c203 c204 c205 c206 c207 c208 c209 c210 c211 c212 c213 c214 c215 c216 c217 c218 c219 c220 c221 c222 c223 c224 c225 c226 c227 c228 c229 c230 c231 c232 c233 c234 c235 c236 c237 c238 c239 c240 c241 c242 c243 c244 c245 c246 c247 c248 c249 c250 c251 c252 c253 c254 c255 c256 c257 c258 c259 c260 c261 c262 c263 c264 c265 c266 c267 c268 c269 c270 c271 c272 c273 c274 c275 c276 c277 c278 c279 c280 c281 c282 c283 c284 c285 c286 c287 c288 c289 c290 c291 c292 c293 c294 c295 c296 c297 c298 c299 c300 c301 c302 c303 : Value)
    (hret : ∀ (tm : Array Value) (wi : World), tm.getD 2 undef = .pointer (some ⟨B2, 0, none⟩) → GRes l S tx nT FU FL X w7 wi B2 → Q .ret ⟨tm, []⟩ wi) :
    Code.wp Ybad.prog (tail7 22) Q ⟨#[.slice as_ n capl, c1, .pointer (some ⟨B2, 0, none⟩), c3, c4, .pointer (some ⟨Bc, 0, none⟩), .pointer (some ⟨B6, 0, none⟩), c7, c8, c9, c10, c11, .slice (some ⟨Bn, 0, none⟩) nT nT, c13, c14, c15, c16, c17, c18, c19, c20, c21, c22, c23, c24, c25, c26, c27, c28, c29, c30, c31, c32, c33, c34, c35, c36, c37, c38, c39, c40, c41, c42, c43, c44, c45, c46, c47, c48, c49, c50, c51, c52, c53, c54, c55, c56, c57, c58, c59, c60, c61, c62, c63, c64, c65, c66, c67, c68, c69, c70, c71, c72, c73, c74, c75, c76, c77, c78, c79, c80, c81, c82, c83, c84, c85, c86, c87, c88, c89, c90, c91, c92, c93, c94, c95, c96, c97, c98, c99, c100, c101, c102, c103, c104, c105, c106, c107, c108, c109, c110, c111, c112, c113, c114, c115, c116, c117, c118, c119, c120, c121, c122, c123, c124, c125, c126, c127, c128, c129, c130, c131, c132, c133, c134, c135, c136, c137, c138, c139, c140, c141, c142, c143, c144, c145, c146, c147, c148, c149, c150, c151, c152, c153, c154, c155, c156, c157, c158, c159, c160, c161, c162, c163, c164, c165, c166, c167, c168, c169, c170, c171, c172, c173, c174, c175, c176, c177, c178, c179, c180, c181, c182, c183, c184, c185, c186, c187, c188, c189, c190, c191, c192, c193, c194, c195, c196, c197, c198, c199, c200, c201, c202, c203, c204, c205, c206, c207, c208, c209, c210, c211, c212, c213, c214, c215, c216, c217, c218, c219, c220, c221, c222, c223, c224, c225, c226, c227, c228, c229, c230, c231, c232, c233, c234, c235, c236, c237, c238, c239, c240, c241, c242, c243, c244, c245, c246, c247, c248, c249, c250, c251, c252, c253, c254, c255, c256, c257, c258, c259, c260, c261, c262, c263, c264, c265, c266, c267, c268, c269, c270, c271, c272, c273, c274, c275, c276, c277, c278, c279, c280, c281, c282, c283, c284, c285, c286, c287, c288, c289, c290, c291, c292, c293, c294, c295, c296, c297, c298, c299, c300, c301, c302, c303], []⟩ w7 := by
  refine Code.wp_mono NoPanic.imp ?_
  have HR := hid hret
  clear hret
  conv => arg 2; whnf
  have hB6l := (Array.getElem?_eq_some_iff.1 HB6.out).1
  have hB2l := (Array.getElem?_eq_some_iff.1 HB2.out).1
  have B7 : Below w7.heap.size w7 w7.drew := (Below.refl _ w7).drew
  have c0 : w7.drew.cell? ⟨Bc, 0, none⟩ = some (.slice at_ nT capt) := by rw [cell_of_row _ _ _ _ _ _ (show w7.drew.heap[Bc]? = _ from HBX.out)]; rfl
  have HWK := hid (walk_any w7.drew Bc nT m capt at_ va A hA (by omega) hm HBX.out (HVA.out.below B7) (fun a ha => ⟨(HSM.out a ha).1, (HSM.out a ha).2.1⟩))
  go_upto_region 22 with fail
  refine wp_region_L 10 (S := (fun (W : World) => W.cell? ⟨Bc, 0, none⟩ = some (.slice at_ nT capt))) (by kernel_rfl) ?_
  have hHeld : (fun (W : World) => W.cell? ⟨Bc, 0, none⟩ = some (.slice at_ nT capt)) w7.drew := c0
  refine wpAnyL_take (i := 0) (v := .pointer (some ⟨Bc, 0, none⟩)) rfl (by kernel_rfl) (by kernel_rfl) (by kernel_rfl) (by kernel_rfl) (fun _ _ _ h => h) (Or.inl ⟨by rfl, ?_⟩) (by assumption) ?_
  · intro w hSw
    try dsimp only at hSw
    go_simp
  simp only [Act.put, List.setIfInBounds_toArray, List.set_cons_zero, List.set_cons_succ, List.getElem_toArray, List.getElem_cons_zero, List.getElem_cons_succ]
  refine wpAnyL_take (i := 1) (v := .pointer (some ⟨Bc, 0, none⟩)) rfl (by kernel_rfl) (by kernel_rfl) (by kernel_rfl) (by kernel_rfl) (fun _ _ _ h => h) (Or.inl ⟨by rfl, ?_⟩) (by assumption) ?_
  · intro w hSw
    try dsimp only at hSw
    go_simp
  simp only [Act.put, List.setIfInBounds_toArray, List.set_cons_zero, List.set_cons_succ, List.getElem_toArray, List.getElem_cons_zero, List.getElem_cons_succ]
  refine wpAnyL_take (i := 2) (v := .pointer (some ⟨Bc, 0, none⟩)) rfl (by kernel_rfl) (by kernel_rfl) (by kernel_rfl) (by kernel_rfl) (fun _ _ _ h => h) (Or.inl ⟨by rfl, ?_⟩) (by assumption) ?_
  · intro w hSw
    try dsimp only at hSw
    go_simp
  simp only [Act.put, List.setIfInBounds_toArray, List.set_cons_zero, List.set_cons_succ, List.getElem_toArray, List.getElem_cons_zero, List.getElem_cons_succ]
  refine wpAnyL_take (i := 3) (v := .slice at_ nT capt) rfl (by kernel_rfl) (by kernel_rfl) (by kernel_rfl) (by kernel_rfl) (fun _ _ _ h => h) (Or.inl ⟨by rfl, ?_⟩) (by assumption) ?_
  · intro w hSw
    try dsimp only at hSw
    go_simp
  simp only [Act.put, List.setIfInBounds_toArray, List.set_cons_zero, List.set_cons_succ, List.getElem_toArray, List.getElem_cons_zero, List.getElem_cons_succ]
  refine wpAnyL_take (i := 4) (v := .slice (some ⟨Bn, 0, none⟩) nT nT) rfl (by kernel_rfl) (by kernel_rfl) (by kernel_rfl) (by kernel_rfl) (fun _ _ _ h => h) (Or.inl ⟨by rfl, ?_⟩) (by assumption) ?_
  · intro w hSw
    try dsimp only at hSw
    go_simp
  simp only [Act.put, List.setIfInBounds_toArray, List.set_cons_zero, List.set_cons_succ, List.getElem_toArray, List.getElem_cons_zero, List.getElem_cons_succ]
  refine wpAnyL_take (i := 5) (v := .pointer (some ⟨Bc, 0, none⟩)) rfl (by kernel_rfl) (by kernel_rfl) (by kernel_rfl) (by kernel_rfl) (fun _ _ _ h => h) (Or.inl ⟨by rfl, ?_⟩) (by assumption) ?_
  · intro w hSw
    try dsimp only at hSw
    go_simp
  simp only [Act.put, List.setIfInBounds_toArray, List.set_cons_zero, List.set_cons_succ, List.getElem_toArray, List.getElem_cons_zero, List.getElem_cons_succ]
  refine wpAnyL_one (i := 6) (by kernel_rfl) rfl (fun K hK => ?_)
  go_simp
  refine Calls.mono HWK.out ?_
  rintro e w8 ⟨b, v, rfl, hcw, hv⟩
  dsimp only
  have HCW := hid hcw
  have HWV := hid (show WkV A nT m v from hv)
  clear hcw hv
  have BN1 := hid HCW.out.bel
  have hz1 := BN1.out.size
  have HLC := hid (lowest_any w7.drew w8 nT m Bc capt Bn at_ va (.slice at_ nT capt) tx X b A v w8.heap.size hA (by omega) hm HBX.out (HVA.out.below B7) (fun a ha => ⟨(HSM.out a ha).1, (HSM.out a ha).2.1⟩) HCW.out HWV.out (fun r hr g hg => own_block_lt (HCW.out.fam.own r hr) hg) (Nat.le_refl _) (Nat.succ_le_of_lt HCW.out.g.lt) (HTX.out.below B7) HTL.out (Near.below (W := w7.drew) (HN.out.below B7) BN1.out) (fun i hi h => (G.out.ar i hi i h).2.1 rfl) (fun i hi j hj => (G.out.ar i hi j hj).1) (fun ⟨fin, h1, h2⟩ => fin_not_stuck h1 h2 hOl HOm.out HST.out) (rch_back G.out.ar))
  have c1 := (BN1.out.cell (p := ⟨Bc, 0, none⟩) hBc).trans c0
  refine hK.out _ _ (fun _ => c1) ?_
  clear hK K HWK
  try simp only [Act.put, List.setIfInBounds_toArray, List.set_cons_zero, List.set_cons_succ, List.getElem_toArray, List.getElem_cons_zero, List.getElem_cons_succ]
  refine wpAnyL_one (i := 7) (by kernel_rfl) rfl (fun K hK => ?_)
  go_simp
  refine hK.out _ _ (fun _ => c1) ?_
  clear hK K
  try simp only [Act.put, List.setIfInBounds_toArray, List.set_cons_zero, List.set_cons_succ, List.getElem_toArray, List.getElem_cons_zero, List.getElem_cons_succ]
  refine wpAnyL_one (i := 8) (by kernel_rfl) rfl (fun K hK => ?_)
  go_simp
  refine Calls.mono HLC.out ?_
  rintro e w9 ⟨gR, R, rfl, hrs, hcy, hb9⟩
  dsimp only
  have HRS := hid hrs
  have HCY := hid hcy
  have BN9 := hid hb9
  clear hrs hcy hb9
  have c2 := (BN9.out.cell (p := ⟨Bc, 0, none⟩) hBc).trans c0
  refine hK.out _ _ (fun _ => c2) ?_
  clear hK K HLC HCW HWV BN1 c1
  try simp only [Act.put, List.setIfInBounds_toArray, List.set_cons_zero, List.set_cons_succ, List.getElem_toArray, List.getElem_cons_zero, List.getElem_cons_succ]
  refine wpAnyL_one (i := 9) (by kernel_rfl) rfl (fun K hK => ?_)
  go_simp
  refine hK.out _ _ (fun _ => c2) ?_
  clear hK K hHeld
  try simp only [Act.put, List.setIfInBounds_toArray, List.set_cons_zero, List.set_cons_succ, List.getElem_toArray, List.getElem_cons_zero, List.getElem_cons_succ]
  refine wpAnyL_done (by kernel_rfl) ?_ _
  have HB9 := hid (show Below w7.heap.size w7 w9 from B7.trans BN9.out)
  have hz9 := HB9.out.size
  clear BN9 c0 hz1
  have hfew := HCY.out.few
  have htwo := HCY.out.two
  obtain ⟨r, hr⟩ : ∃ r, R.length = r := ⟨_, rfl⟩
  have HRL := hid hr
  rw [hr] at HRS hfew htwo ⊢
  clear hr
  have hmk := fun (W : World) => mkRow1 Ybad.E54 rfl r (by omega) W
  have F0 := hid (show Fix (w9.alloc (.cells (rowF r (fun _ => .int .i64 0)) 3)) w9.heap.size 3 r (fun j => .int .i64 (if j < 0 then (R.getD j 0 : Int) else 0)) from by
    have : Fix (w9.alloc (.cells (rowF r (fun _ => .int .i64 0)) 3)) w9.heap.size 3 r (fun _ => .int .i64 0) := heap_alloc_new _ _
    exact this.congr fun j _ => by rw [if_neg (by omega)])
  have B0 := hid (show Below w9.heap.size w9 (w9.alloc (.cells (rowF r (fun _ => .int .i64 0)) 3)) from (Below.refl _ _).alloc (Nat.le_refl _) _)
  obtain ⟨wz, hwz⟩ : ∃ wz, wz = w9.alloc (.cells (rowF r (fun _ => .int .i64 0)) 3) := ⟨_, rfl⟩
  rw [← hwz] at F0 B0
  go_upto_region 24 with fail
  rw [← hwz]
  clear hwz hmk
  go_wp2_with fail
  go_loopg [124] r (fun g0 iv wi => ∃ k : Nat, k ≤ r ∧ g0 = r - k ∧ iv = .int .i64 (k : Int) ∧ Fix wi w9.heap.size 3 r (fun j => .int .i64 (if j < k then (R.getD j 0 : Int) else 0)) ∧ Below w9.heap.size w9 wi)
  case atStart => exact ⟨0, Nat.zero_le _, rfl, rfl, F0.out, B0.out⟩
  case round =>
    obtain ⟨k, hk, rfl, rfl, hfx, hbe⟩ := hrel
    have FX := hid hfx
    have BE := hid hbe
    clear hfx hbe F0 B0
    have hze := BE.out.size
    by_cases hlt : k < r
    · have hki : (k : Int) < (r : Int) := by omega
      have hk0 : (0 : Int) ≤ (k : Int) := by omega
      have hkR : k < R.length := by rw [HRL.out]; exact hlt
      obtain ⟨x, hx⟩ : ∃ x, R[k] = x := ⟨_, rfl⟩
      have hxn : x < nT := by rw [← hx]; exact HCY.out.lt _ (List.getElem_mem _)
      have HX := hid (show R.getD k 0 = x from by rw [List.getD_eq_getElem?_getD, List.getElem?_eq_getElem hkR, Option.getD_some, hx])
      have hxt : x < tx.length := by rw [HTL.out]; exact hxn
      have c3 : wr.cell? ⟨gR, k, none⟩ = some (.int .i64 tx[x]) := by
        obtain ⟨a', cap', e1, _, e3⟩ := HRS.out
        simp only [Value.slice.injEq] at e1
        obtain ⟨rfl, _, _⟩ := e1
        obtain ⟨b', o', f1, f2, f3⟩ := e3 k (by rw [List.length_map]; exact hkR)
        simp only [Option.some.injEq, Addr.mk.injEq, and_true] at f1
        obtain ⟨rfl, rfl⟩ := f1
        have f4 := f3 0 _ rfl
        rw [Nat.mul_one, Nat.zero_add, Nat.add_zero] at f4
        refine (BE.out.cell (p := ⟨gR, k, none⟩) f2).trans (f4.trans ?_)
        rw [List.getD_eq_getElem?_getD, List.getElem?_map, List.getElem?_eq_getElem hkR, hx]
        simp [List.getD_eq_getElem?_getD, hxt]
      have BE7 := hid (HB9.out.trans (BE.out.mono hz9))
      have c4 : wr.cell? ⟨Bc, 0, none⟩ = some (.slice at_ nT capt) := by rw [cell_of_row _ _ _ _ _ _ ((BE7.out.block Bc hBc).trans HBX.out)]; rfl
      have HBS := hid (bs_any wr (.slice at_ nT capt) tx (HTX.out.below BE7.out) (by rw [HTL.out]; omega) HSO.out x hxt)
      obtain ⟨tv, htv⟩ : ∃ tv, tx[x] = tv := ⟨_, rfl⟩
      rw [htv] at c3 HBS
      have f0 := FX.out.free k
      have f1 := FX.out.cell hlt
      clear hx htv hkR hxt
      go_wp2_with (go_at_call 30; refine Calls.mono HBS.out ?_; rintro e wx ⟨rfl, rfl⟩; dsimp only)
      go_roundg (r - (k + 1))
      case measure => omega
      case rel =>
        refine ⟨k + 1, by omega, rfl, by go_num, (FX.out.set hlt (.int .i64 (x : Int))).congr fun j hj => ?_, BE.out.setCell (p := ⟨w9.heap.size, k, none⟩) (by simp) _⟩
        unfold upd
        by_cases e : j = k
        · subst e; rw [if_pos rfl, if_pos (by omega), HX.out]
        · rw [if_neg e]
          dsimp only
          by_cases e2 : j < k
          · rw [if_pos e2, if_pos (by omega)]
          · rw [if_neg e2, if_neg (by omega)]
    · obtain rfl : k = r := by omega
      have hgw := FX.out.lt
      have BE7 := hid (HB9.out.trans (BE.out.mono hz9))
      have hd6 := (BE7.out.block B6 hB6l).trans HB6.out
      have s2 : wr.cell? ⟨B6, 0, none⟩ = some (.slice al S.length capS) := by rw [cell_of_row _ _ _ _ _ _ hd6]; rfl
      have s3 : wr.cell? ⟨B6, 1, none⟩ = some (.slice (some ⟨Bo, 0, none⟩) A.length A.length) := by rw [cell_of_row _ _ _ _ _ _ hd6]; rfl
      have s4 : wr.cell? ⟨B6, 2, none⟩ = some (.map (some Bm)) := by rw [cell_of_row _ _ _ _ _ _ hd6]; rfl
      obtain ⟨np, rfl⟩ : ∃ np, k = np + 1 := ⟨k - 1, by omega⟩
      have HAL := hid (along_at (wr := wr) (W := wr) (Bo := Bo) (capP := np + 1) (gP := w9.heap.size) (P := R) hS.out hA hnT hm hBc HBX HVA HSM G.out.so (by omega) HVS HSP HMP HRL.out HCY.out.lt (by omega) hgw (fun j hj => by
        have h1 : j < np + 1 := by rw [← HRL.out]; exact hj
        rw [FX.out.cell h1]
        try dsimp only
        rw [if_pos h1, List.getD_eq_getElem?_getD, List.getElem?_eq_getElem hj, Option.getD_some]) (Nat.le_refl _) (fun j hj => HCY.out.su j (by rw [HRL.out]; omega)) BE7.out (Below.refl _ _))
      clear hd6
      go_upto_region 29 with fail
      go_wp2_with (first
        | (go_at_call 31; refine Calls.mono HAL.out ?_; rintro e wA ⟨g, Bf, Cf, rfl, hg1, hrg, hgl, hb9, hall⟩; have HRG := hid hrg; have BEA := hid (BE7.out.trans (hb9.mono BE7.out.size)); have HALL := hid hall; have HB2A := hid ((BEA.out.block B2 hB2l).trans HB2.out); clear hrg hb9 hall; dsimp only)
        | ((with_reducible refine st28 (t := 2) (u := 147) B2 #[.slice none 0 0, .slice none 0 0, .bool false] #[.slice none 0 0, .slice (some ⟨g, 0, none⟩) np np, .bool true] ?_ ?_ ?_ ?_ ?_ ?_ ?_); (exact rfl); (exact rfl); (exact HB2A.out); (exact rfl); (exact rfl); (simp [Value.oneCell'])))
      have hzz := BE7.out.size
      refine HR.out _ _ rfl (GRes.chain BEA.out HB2A.out (by omega) hgl (by omega) HRG.out ?_)
      refine linked_of G.out (fun j => R.getD j 0) (by omega) (fun j hj => ⟨(HCY.out.su j (by rw [HRL.out]; omega)).1, HALL.out j hj⟩) (fun _ => ?_)
      have := HCY.out.cl
      rw [HRL.out, Nat.add_sub_cancel] at this
      exact this.symm


end Go.Proofs.YbulkbgasDoor
