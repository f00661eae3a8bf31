import Derived.Test.YbulkbgasDoorTa8
namespace Go.Proofs.YbulkbgasDoor
open Go.RowKit Go.Maps
set_option linter.unusedVariables false
set_option linter.unusedSimpArgs false
attribute [local go_sem ↓] Go.wp_at_zero Go.wp_at_succ

def regionAt (r : Nat) : Code → Option Code
  | .region id ops b => if id = r then some (.region id ops b) else none
  | .seq a b => match regionAt r a with
    | some c => some c
    | none => regionAt r b
  | .block _ c => regionAt r c
  | .loop c => regionAt r c
  | .scope c => regionAt r c
  | .cond _ a b => match regionAt r a with
    | some c => some c
    | none => regionAt r b
  | _ => none
noncomputable def rg28 (r : Nat) : Code := (Ybad.f28.body.bind (regionAt r)).getD .skip

/-! ### Ten makes in whatever order -/
def cnT (t : Nat → Bool) : Nat := (if t 0 then 0 else 1) + (if t 1 then 0 else 1) + (if t 2 then 0 else 1) + (if t 3 then 0 else 1) + (if t 4 then 0 else 1) + (if t 5 then 0 else 1) + (if t 6 then 0 else 1) + (if t 7 then 0 else 1) + (if t 8 then 0 else 1) + (if t 9 then 0 else 1)
theorem cnT_upd {t : Nat → Bool} {k c : Nat} (hk : k < 10) (h : t k = false) (hc : cnT t = c + 1) : cnT (updL t k true) = c := by
  unfold cnT updL at *
  rcases (show k = 0 ∨ k = 1 ∨ k = 2 ∨ k = 3 ∨ k = 4 ∨ k = 5 ∨ k = 6 ∨ k = 7 ∨ k = 8 ∨ k = 9 by omega) with rfl | rfl | rfl | rfl | rfl | rfl | rfl | rfl | rfl | rfl <;> simp [h] at hc ⊢ <;> omega
theorem cnT_zero {t : Nat → Bool} (h : cnT t = 0) : ∀ k, k < 10 → t k = true := fun k hk => by
  unfold cnT at h
  rcases (show k = 0 ∨ k = 1 ∨ k = 2 ∨ k = 3 ∨ k = 4 ∨ k = 5 ∨ k = 6 ∨ k = 7 ∨ k = 8 ∨ k = 9 by omega) with rfl | rfl | rfl | rfl | rfl | rfl | rfl | rfl | rfl | rfl <;> (apply Decidable.byContradiction; intro hn; simp [hn] at h)
theorem cnT_pos {t : Nat → Bool} {c : Nat} (h : cnT t = c + 1) (hall : ∀ k, k < 10 → t k = true) : False := by
  unfold cnT at h
  simp [hall] at h
theorem makes_rule {ops : Array Oper} {P : Program} {md : Region.Mode} {Q : Exit → Act → World → Prop} {S : World → Prop} (f : Nat) (L : (Nat → Bool) → Array Bool) (A : (Nat → Value) → Act) (Inv : (Nat → Bool) → (Nat → Value) → World → Prop)
    (hne : ∀ t c, cnT t = c + 1 → Region.ready md ops (L t) ≠ [])
    (hstep : ∀ c t x W, cnT t = c + 1 → Inv t x W → ∀ i ∈ Region.ready md ops (L t), wpOp P ops Q i (fun a' w' => S w' ∧ ∃ t' x', a' = A x' ∧ (L t).setIfInBounds i true = L t' ∧ cnT t' = c ∧ Inv t' x' w') (A x) W)
    (hfin : ∀ t x W, cnT t = 0 → Inv t x W → wpAnyH P md ops Q S f (L t) (A x) W) :
    ∀ c t x W, cnT t = c → Inv t x W → wpAnyH P md ops Q S (c + f) (L t) (A x) W := by
  intro c
  induction c with
  | zero => intro t x W hc hi; rw [Nat.zero_add]; exact hfin t x W hc hi
  | succ c ih =>
    intro t x W hc hi
    rw [show c + 1 + f = (c + f) + 1 by omega]
    refine ⟨fun h => absurd h (hne t c hc), fun i hr => wpOp_mono (fun a' w' h => ⟨h.1, ?_⟩) (hstep c t x W hc hi i hr)⟩
    obtain ⟨t', x', rfl, hl, hc', hi'⟩ := h.2
    rw [hl]
    exact ih t' x' w' hc' hi'
theorem listed_as {ops : Array Oper} {P : Program} {md : Region.Mode} {Q : Exit → Act → World → Prop} {S : World → Prop} {f : Nat} {l l' : Array Bool} {a : Act} {w : World} (h : l = l') (k : wpAnyH P md ops Q S f l' a w) : wpAnyH P md ops Q S f l a w := h ▸ k

/-- What the ten rows are. -/
def cwLn (n m L k : Nat) : Nat := match k with | 0 => n | 5 => L | 6 => L | 7 => n | _ => m
def cwTy (k : Nat) : Nat := match k with | 0 => 4 | 1 => 54 | 2 => 54 | 3 => 127 | 4 => 127 | 7 => 54 | _ => 3
def cwZ (k : Nat) : Value := match k with | 0 => .bool false | 1 => .slice none 0 0 | 2 => .slice none 0 0 | 3 => .slice none 0 0 | 4 => .slice none 0 0 | 7 => .slice none 0 0 | _ => .int .i64 0
structure Cw0 (w W : World) (n m L : Nat) (t : Nat → Bool) (x : Nat → Value) (b : Nat → Nat) : Prop where
  row : ∀ k, k < 10 → t k = true → x k = .slice (some ⟨b k, 0, none⟩) (cwLn n m L k) (cwLn n m L k) ∧ Fix W (b k) (cwTy k) (cwLn n m L k) (fun _ => cwZ k) ∧ w.heap.size ≤ b k
  inj : ∀ j k, j < 10 → k < 10 → t j = true → t k = true → b j = b k → j = k
  bel : Below w.heap.size w W
  siz : W.heap.size = w.heap.size + (10 - cnT t)
theorem Cw0.make {w W : World} {n m L : Nat} {t : Nat → Bool} {x : Nat → Value} {b : Nat → Nat} (h : Cw0 w W n m L t x b) {k c : Nat} (hk : k < 10) (ht : t k = false) (hc : cnT t = c + 1) :
    Cw0 w (W.alloc (.cells (rowF (cwLn n m L k) (fun _ => cwZ k)) (cwTy k))) n m L (updL t k true) (updL x k (.slice (some ⟨W.heap.size, 0, none⟩) (cwLn n m L k) (cwLn n m L k))) (updL b k W.heap.size) := by
  have hs := h.bel.size
  have hc2 := cnT_upd hk ht hc
  have hc3 : cnT t ≤ 10 := by
    have e : ∀ k, (if t k = true then 0 else 1) ≤ 1 := fun k => by split <;> omega
    have := e 0; have := e 1; have := e 2; have := e 3; have := e 4; have := e 5; have := e 6; have := e 7; have := e 8; have := e 9
    unfold cnT; omega
  refine ⟨fun j hj hjt => ?_, fun i j hi hj hti htj e => ?_, h.bel.alloc hs _, ?_⟩
  · by_cases e : j = k
    · subst e; rw [updL_same, updL_same]
      exact ⟨rfl, heap_alloc_new W _, hs⟩
    · rw [updL_other _ e] at hjt
      rw [updL_other _ e, updL_other _ e]
      have := h.row j hj hjt
      exact ⟨this.1, this.2.1.alloc _, this.2.2⟩
  · by_cases e1 : i = k
    · by_cases e2 : j = k
      · rw [e1, e2]
      · rw [updL_other _ e2] at htj
        rw [e1, updL_same, updL_other _ e2] at e
        have := (h.row j hj htj).2.1.lt
        omega
    · rw [updL_other _ e1] at hti
      by_cases e2 : j = k
      · rw [e2, updL_same, updL_other _ e1] at e
        have := (h.row i hi hti).2.1.lt
        omega
      · rw [updL_other _ e2] at htj
        rw [updL_other _ e1, updL_other _ e2] at e
        exact h.inj i j hi hj hti htj e
  · rw [World.size_alloc, h.siz, hc2, hc]; omega
theorem Cw0.all {w W : World} {n m L : Nat} {t : Nat → Bool} {x : Nat → Value} {b : Nat → Nat} (h : Cw0 w W n m L t x b) (hc : cnT t = 0) : Cw0 w W n m L (fun _ => true) x b :=
  ⟨fun k hk _ => h.row k hk (cnT_zero hc k hk), fun j k hj hk _ _ e => h.inj j k hj hk (cnT_zero hc j hj) (cnT_zero hc k hk) e, h.bel, by rw [h.siz, hc]; rfl⟩
theorem Ybad.E124 : ElemT 124 127 1 24 (.slice none 0 0) := ⟨Ybad.underlying124, by kernel_rfl, rfl, by decide, by decide⟩

set_option maxRecDepth 1000000 in
set_option maxHeartbeats 8000000 in
theorem reg28 (w : World) (Bc n m L capt capa : Nat) (at_ aa : Option Addr) (hn : n ≤ 1000) (hm : m ≤ 1000) (hL : L ≤ 1000) (hbx : w.heap[Bc]? = some (.cells #[.slice at_ n capt, .int .i64 (m : Int), .slice aa L capa] 63 (0, 0)))
    (Q : Exit → Act → World → Prop) (c1 c2 c3 c4 c5 c6 c7 c8 c9 c10 c11 c12 c13 c14 c15 c16 c17 c18 c19 c20 c21 c22 c23 c24 c25 c26 c27 c28 c29 c30 c31 c32 c33 c34 c35 c36 c37 c38 c39 c40 c41 c42 c43 c44 c45 c46 c47 c48 c49 c50 c51 c52 c53 c54 c55 c56 c57 c58 c59 c60 c61 c62 c63 c64 c65 c66 c67 c68 c69 c70 c71 c72 c73 c74 c75 c76 c77 c78 c79 c80 c81 c82 c83 c84 c85 c86 c87 c88 c89 c90 c91 c92 c93 c94 c95 c96 c97 c98 c99 c100 c101 c102 c103 c104 c105 c106 c107 c108 c109 c110 c111 c112 c113 c114 c115 c116 c117 c118 c119 c120 c121 c122 c123 c124 c125 c126 c127 c128 c129 c130 c131 c132 c133 c134 c135 c136 c137 c138 c139 c140 c141 c142 c143 c144 c145 c146 c147 c148 c149 c150 c151 c152 c153 c154 c155 c156 c157 c158 c159 c160 c161 c162 c163 c164 c165 c166 c167 c168 c169 c170 c171 c172 c173 c174 c175 c176 c177 c178 c179 c180 c181 c182 c183 c184 c185 c186 c187 c188 c189 c190 c191 c192 c193 c194 c195 c196 c197 c198 c199 c200 c201 : Value)
    (hq : ∀ (u7 u8 u9 u10 u11 u12 u13 u14 u15 u16 u17 u18 u19 u20 u21 u22 u23 u24 u25 u26 u27 u28 u29 u30 u31 u32 u33 u34 u35 u36 u37 u38 u39 u40 u41 u42 u43 u44 u45 u46 u47 u48 u49 u50 u51 u52 u53 u54 u55 u56 u57 u58 u59 u60 u61 u62 u63 : Value) (b : Nat → Nat) (wi : World), Cw0 w wi n m L (fun _ => true) (fun k => .slice (some ⟨b k, 0, none⟩) (cwLn n m L k) (cwLn n m L k)) b → Q .normal ⟨#[.pointer (some ⟨Bc, 0, none⟩), c1, c2, .pointer (some ⟨w.heap.size + 10, 0, none⟩), c4, c5, c6, u7, u8, u9, u10, u11, u12, u13, u14, u15, u16, u17, u18, u19, u20, u21, u22, u23, u24, u25, u26, u27, u28, u29, u30, u31, u32, u33, u34, u35, u36, u37, u38, u39, u40, u41, u42, u43, u44, u45, u46, u47, u48, u49, u50, u51, u52, u53, u54, u55, u56, u57, u58, u59, u60, u61, u62, u63, c64, c65, c66, c67, c68, c69, c70, c71, c72, c73, c74, c75, c76, c77, c78, c79, c80, c81, c82, c83, c84, c85, c86, c87, c88, c89, c90, c91, c92, c93, c94, c95, c96, c97, c98, c99, c100, c101, c102, c103, c104, c105, c106, c107, c108, c109, c110, c111, c112, c113, c114, c115, c116, c117, c118, c119, c120, c121, c122, c123, c124, c125, c126, c127, c128, c129, c130, c131, c132, c133, c134, c135, c136, c137, c138, c139, c140, c141, c142, c143, c144, c145, c146, c147, c148, c149, c150, c151, c152, c153, c154, c155, c156, c157, c158, c159, c160, c161, c162, c163, c164, c165, c166, c167, c168, c169, c170, c171, c172, c173, c174, c175, c176, c177, c178, c179, c180, c181, c182, c183, c184, c185, c186, c187, c188, c189, c190, c191, c192, c193, c194, c195, c196, c197, c198, c199, c200, c201], []⟩ (wi.alloc (.cells #[.pointer (some ⟨Bc, 0, none⟩), .slice (some ⟨b 0, 0, none⟩) n n, .slice (some ⟨b 1, 0, none⟩) m m, .slice (some ⟨b 2, 0, none⟩) m m, .slice (some ⟨b 3, 0, none⟩) m m, .slice (some ⟨b 4, 0, none⟩) m m, .slice (some ⟨b 5, 0, none⟩) L L, .slice (some ⟨b 6, 0, none⟩) L L, .slice (some ⟨b 7, 0, none⟩) n n, .slice (some ⟨b 8, 0, none⟩) m m, .slice (some ⟨b 9, 0, none⟩) m m] 126))) :
    Code.wp Ybad.prog (rg28 1) Q ⟨#[.pointer (some ⟨Bc, 0, none⟩), c1, c2, c3, c4, c5, c6, c7, c8, c9, c10, c11, c12, c13, c14, c15, c16, c17, c18, c19, c20, c21, c22, c23, c24, c25, c26, c27, c28, c29, c30, c31, c32, c33, c34, c35, c36, c37, c38, c39, c40, c41, c42, c43, c44, c45, c46, c47, c48, c49, c50, c51, c52, c53, c54, c55, c56, c57, c58, c59, c60, c61, c62, c63, c64, c65, c66, c67, c68, c69, c70, c71, c72, c73, c74, c75, c76, c77, c78, c79, c80, c81, c82, c83, c84, c85, c86, c87, c88, c89, c90, c91, c92, c93, c94, c95, c96, c97, c98, c99, c100, c101, c102, c103, c104, c105, c106, c107, c108, c109, c110, c111, c112, c113, c114, c115, c116, c117, c118, c119, c120, c121, c122, c123, c124, c125, c126, c127, c128, c129, c130, c131, c132, c133, c134, c135, c136, c137, c138, c139, c140, c141, c142, c143, c144, c145, c146, c147, c148, c149, c150, c151, c152, c153, c154, c155, c156, c157, c158, c159, c160, c161, c162, c163, c164, c165, c166, c167, c168, c169, c170, c171, c172, c173, c174, c175, c176, c177, c178, c179, c180, c181, c182, c183, c184, c185, c186, c187, c188, c189, c190, c191, c192, c193, c194, c195, c196, c197, c198, c199, c200, c201], []⟩ w := by
  refine Code.wp_mono NoPanic.imp ?_
  have HQ := hid hq
  clear hq
  conv => arg 2; whnf
  have hBl : Bc < w.heap.size := (Array.getElem?_eq_some_iff.1 hbx).1
  have c0' : w.cell? ⟨Bc, 0, none⟩ = some (.slice at_ n capt) := by rw [cell_of_row _ _ _ _ _ _ hbx]; rfl
  have c1' : w.cell? ⟨Bc, 1, none⟩ = some (.int .i64 (m : Int)) := by rw [cell_of_row _ _ _ _ _ _ hbx]; rfl
  have c2' : w.cell? ⟨Bc, 2, none⟩ = some (.slice aa L capa) := by rw [cell_of_row _ _ _ _ _ _ hbx]; rfl
  have HBX := hid hbx
  clear hbx
  refine wp_region_held_drew (S := fun W => W.cell? ⟨Bc, 0, none⟩ = some (.slice at_ n capt) ∧ W.cell? ⟨Bc, 1, none⟩ = some (.int .i64 (m : Int)) ∧ W.cell? ⟨Bc, 2, none⟩ = some (.slice aa L capa)) (by kernel_rfl) ⟨c0', c1', c2'⟩ (fun hHeld => ?_)
  refine wpAnyH_take (i := 0) (v := (.pointer (some ⟨Bc, 0, none⟩))) rfl (by kernel_rfl) (by kernel_rfl) (by kernel_rfl) (fun _ _ _ h => h) (Or.inl ⟨by rfl, ?_⟩) (by assumption) ?_
  · intro w hSw
    try dsimp only at hSw
    go_simp
  simp only [Act.put, List.setIfInBounds_toArray, List.set_cons_zero, List.set_cons_succ, List.getElem_toArray, List.getElem_cons_zero, List.getElem_cons_succ]
  refine wpAnyH_take (i := 1) (v := (.pointer (some ⟨Bc, 0, none⟩))) rfl (by kernel_rfl) (by kernel_rfl) (by kernel_rfl) (fun _ _ _ h => h) (Or.inl ⟨by rfl, ?_⟩) (by assumption) ?_
  · intro w hSw
    try dsimp only at hSw
    go_simp
  simp only [Act.put, List.setIfInBounds_toArray, List.set_cons_zero, List.set_cons_succ, List.getElem_toArray, List.getElem_cons_zero, List.getElem_cons_succ]
  refine wpAnyH_take (i := 2) (v := (.pointer (some ⟨Bc, 0, none⟩))) rfl (by kernel_rfl) (by kernel_rfl) (by kernel_rfl) (fun _ _ _ h => h) (Or.inl ⟨by rfl, ?_⟩) (by assumption) ?_
  · intro w hSw
    try dsimp only at hSw
    go_simp
  simp only [Act.put, List.setIfInBounds_toArray, List.set_cons_zero, List.set_cons_succ, List.getElem_toArray, List.getElem_cons_zero, List.getElem_cons_succ]
  refine wpAnyH_take (i := 3) (v := (.pointer (some ⟨Bc, 0, none⟩))) rfl (by kernel_rfl) (by kernel_rfl) (by kernel_rfl) (fun _ _ _ h => h) (Or.inl ⟨by rfl, ?_⟩) (by assumption) ?_
  · intro w hSw
    try dsimp only at hSw
    go_simp
  simp only [Act.put, List.setIfInBounds_toArray, List.set_cons_zero, List.set_cons_succ, List.getElem_toArray, List.getElem_cons_zero, List.getElem_cons_succ]
  refine wpAnyH_take (i := 4) (v := (.slice at_ n capt)) rfl (by kernel_rfl) (by kernel_rfl) (by kernel_rfl) (fun _ _ _ h => h) (Or.inl ⟨by rfl, ?_⟩) (by assumption) ?_
  · intro w hSw
    try dsimp only at hSw
    go_simp
  simp only [Act.put, List.setIfInBounds_toArray, List.set_cons_zero, List.set_cons_succ, List.getElem_toArray, List.getElem_cons_zero, List.getElem_cons_succ]
  refine wpAnyH_take (i := 5) (v := (.int .i64 (n : Int))) rfl (by kernel_rfl) (by kernel_rfl) (by kernel_rfl) (fun _ _ _ h => h) (Or.inl ⟨by rfl, ?_⟩) (by assumption) ?_
  · intro w hSw
    try dsimp only at hSw
    go_simp
  simp only [Act.put, List.setIfInBounds_toArray, List.set_cons_zero, List.set_cons_succ, List.getElem_toArray, List.getElem_cons_zero, List.getElem_cons_succ]
  refine wpAnyH_take (i := 7) (v := (.pointer (some ⟨Bc, 0, none⟩))) rfl (by kernel_rfl) (by kernel_rfl) (by kernel_rfl) (fun _ _ _ h => h) (Or.inl ⟨by rfl, ?_⟩) (by assumption) ?_
  · intro w hSw
    try dsimp only at hSw
    go_simp
  simp only [Act.put, List.setIfInBounds_toArray, List.set_cons_zero, List.set_cons_succ, List.getElem_toArray, List.getElem_cons_zero, List.getElem_cons_succ]
  refine wpAnyH_take (i := 8) (v := (.pointer (some ⟨Bc, 0, none⟩))) rfl (by kernel_rfl) (by kernel_rfl) (by kernel_rfl) (fun _ _ _ h => h) (Or.inl ⟨by rfl, ?_⟩) (by assumption) ?_
  · intro w hSw
    try dsimp only at hSw
    go_simp
  simp only [Act.put, List.setIfInBounds_toArray, List.set_cons_zero, List.set_cons_succ, List.getElem_toArray, List.getElem_cons_zero, List.getElem_cons_succ]
  refine wpAnyH_take (i := 9) (v := (.pointer (some ⟨Bc, 0 + 1, none⟩))) rfl (by kernel_rfl) (by kernel_rfl) (by kernel_rfl) (fun _ _ _ h => h) (Or.inl ⟨by rfl, ?_⟩) (by assumption) ?_
  · intro w hSw
    try dsimp only at hSw
    go_simp
  simp only [Act.put, List.setIfInBounds_toArray, List.set_cons_zero, List.set_cons_succ, List.getElem_toArray, List.getElem_cons_zero, List.getElem_cons_succ]
  refine wpAnyH_take (i := 10) (v := (.int .i64 (m : Int))) rfl (by kernel_rfl) (by kernel_rfl) (by kernel_rfl) (fun _ _ _ h => h) (Or.inl ⟨by rfl, ?_⟩) (by assumption) ?_
  · intro w hSw
    try dsimp only at hSw
    go_simp
  simp only [Act.put, List.setIfInBounds_toArray, List.set_cons_zero, List.set_cons_succ, List.getElem_toArray, List.getElem_cons_zero, List.getElem_cons_succ]
  refine wpAnyH_take (i := 12) (v := (.pointer (some ⟨Bc, 0, none⟩))) rfl (by kernel_rfl) (by kernel_rfl) (by kernel_rfl) (fun _ _ _ h => h) (Or.inl ⟨by rfl, ?_⟩) (by assumption) ?_
  · intro w hSw
    try dsimp only at hSw
    go_simp
  simp only [Act.put, List.setIfInBounds_toArray, List.set_cons_zero, List.set_cons_succ, List.getElem_toArray, List.getElem_cons_zero, List.getElem_cons_succ]
  refine wpAnyH_take (i := 13) (v := (.pointer (some ⟨Bc, 0, none⟩))) rfl (by kernel_rfl) (by kernel_rfl) (by kernel_rfl) (fun _ _ _ h => h) (Or.inl ⟨by rfl, ?_⟩) (by assumption) ?_
  · intro w hSw
    try dsimp only at hSw
    go_simp
  simp only [Act.put, List.setIfInBounds_toArray, List.set_cons_zero, List.set_cons_succ, List.getElem_toArray, List.getElem_cons_zero, List.getElem_cons_succ]
  refine wpAnyH_take (i := 14) (v := (.pointer (some ⟨Bc, 0 + 1, none⟩))) rfl (by kernel_rfl) (by kernel_rfl) (by kernel_rfl) (fun _ _ _ h => h) (Or.inl ⟨by rfl, ?_⟩) (by assumption) ?_
  · intro w hSw
    try dsimp only at hSw
    go_simp
  simp only [Act.put, List.setIfInBounds_toArray, List.set_cons_zero, List.set_cons_succ, List.getElem_toArray, List.getElem_cons_zero, List.getElem_cons_succ]
  refine wpAnyH_take (i := 15) (v := (.int .i64 (m : Int))) rfl (by kernel_rfl) (by kernel_rfl) (by kernel_rfl) (fun _ _ _ h => h) (Or.inl ⟨by rfl, ?_⟩) (by assumption) ?_
  · intro w hSw
    try dsimp only at hSw
    go_simp
  simp only [Act.put, List.setIfInBounds_toArray, List.set_cons_zero, List.set_cons_succ, List.getElem_toArray, List.getElem_cons_zero, List.getElem_cons_succ]
  refine wpAnyH_take (i := 17) (v := (.pointer (some ⟨Bc, 0, none⟩))) rfl (by kernel_rfl) (by kernel_rfl) (by kernel_rfl) (fun _ _ _ h => h) (Or.inl ⟨by rfl, ?_⟩) (by assumption) ?_
  · intro w hSw
    try dsimp only at hSw
    go_simp
  simp only [Act.put, List.setIfInBounds_toArray, List.set_cons_zero, List.set_cons_succ, List.getElem_toArray, List.getElem_cons_zero, List.getElem_cons_succ]
  refine wpAnyH_take (i := 18) (v := (.pointer (some ⟨Bc, 0, none⟩))) rfl (by kernel_rfl) (by kernel_rfl) (by kernel_rfl) (fun _ _ _ h => h) (Or.inl ⟨by rfl, ?_⟩) (by assumption) ?_
  · intro w hSw
    try dsimp only at hSw
    go_simp
  simp only [Act.put, List.setIfInBounds_toArray, List.set_cons_zero, List.set_cons_succ, List.getElem_toArray, List.getElem_cons_zero, List.getElem_cons_succ]
  refine wpAnyH_take (i := 19) (v := (.pointer (some ⟨Bc, 0 + 1, none⟩))) rfl (by kernel_rfl) (by kernel_rfl) (by kernel_rfl) (fun _ _ _ h => h) (Or.inl ⟨by rfl, ?_⟩) (by assumption) ?_
  · intro w hSw
    try dsimp only at hSw
    go_simp
  simp only [Act.put, List.setIfInBounds_toArray, List.set_cons_zero, List.set_cons_succ, List.getElem_toArray, List.getElem_cons_zero, List.getElem_cons_succ]
  refine wpAnyH_take (i := 20) (v := (.int .i64 (m : Int))) rfl (by kernel_rfl) (by kernel_rfl) (by kernel_rfl) (fun _ _ _ h => h) (Or.inl ⟨by rfl, ?_⟩) (by assumption) ?_
  · intro w hSw
    try dsimp only at hSw
    go_simp
  simp only [Act.put, List.setIfInBounds_toArray, List.set_cons_zero, List.set_cons_succ, List.getElem_toArray, List.getElem_cons_zero, List.getElem_cons_succ]
  refine wpAnyH_take (i := 22) (v := (.pointer (some ⟨Bc, 0, none⟩))) rfl (by kernel_rfl) (by kernel_rfl) (by kernel_rfl) (fun _ _ _ h => h) (Or.inl ⟨by rfl, ?_⟩) (by assumption) ?_
  · intro w hSw
    try dsimp only at hSw
    go_simp
  simp only [Act.put, List.setIfInBounds_toArray, List.set_cons_zero, List.set_cons_succ, List.getElem_toArray, List.getElem_cons_zero, List.getElem_cons_succ]
  refine wpAnyH_take (i := 23) (v := (.pointer (some ⟨Bc, 0, none⟩))) rfl (by kernel_rfl) (by kernel_rfl) (by kernel_rfl) (fun _ _ _ h => h) (Or.inl ⟨by rfl, ?_⟩) (by assumption) ?_
  · intro w hSw
    try dsimp only at hSw
    go_simp
  simp only [Act.put, List.setIfInBounds_toArray, List.set_cons_zero, List.set_cons_succ, List.getElem_toArray, List.getElem_cons_zero, List.getElem_cons_succ]
  refine wpAnyH_take (i := 24) (v := (.pointer (some ⟨Bc, 0 + 1, none⟩))) rfl (by kernel_rfl) (by kernel_rfl) (by kernel_rfl) (fun _ _ _ h => h) (Or.inl ⟨by rfl, ?_⟩) (by assumption) ?_
  · intro w hSw
    try dsimp only at hSw
    go_simp
  simp only [Act.put, List.setIfInBounds_toArray, List.set_cons_zero, List.set_cons_succ, List.getElem_toArray, List.getElem_cons_zero, List.getElem_cons_succ]
  refine wpAnyH_take (i := 25) (v := (.int .i64 (m : Int))) rfl (by kernel_rfl) (by kernel_rfl) (by kernel_rfl) (fun _ _ _ h => h) (Or.inl ⟨by rfl, ?_⟩) (by assumption) ?_
  · intro w hSw
    try dsimp only at hSw
    go_simp
  simp only [Act.put, List.setIfInBounds_toArray, List.set_cons_zero, List.set_cons_succ, List.getElem_toArray, List.getElem_cons_zero, List.getElem_cons_succ]
  refine wpAnyH_take (i := 27) (v := (.pointer (some ⟨Bc, 0, none⟩))) rfl (by kernel_rfl) (by kernel_rfl) (by kernel_rfl) (fun _ _ _ h => h) (Or.inl ⟨by rfl, ?_⟩) (by assumption) ?_
  · intro w hSw
    try dsimp only at hSw
    go_simp
  simp only [Act.put, List.setIfInBounds_toArray, List.set_cons_zero, List.set_cons_succ, List.getElem_toArray, List.getElem_cons_zero, List.getElem_cons_succ]
  refine wpAnyH_take (i := 28) (v := (.pointer (some ⟨Bc, 0, none⟩))) rfl (by kernel_rfl) (by kernel_rfl) (by kernel_rfl) (fun _ _ _ h => h) (Or.inl ⟨by rfl, ?_⟩) (by assumption) ?_
  · intro w hSw
    try dsimp only at hSw
    go_simp
  simp only [Act.put, List.setIfInBounds_toArray, List.set_cons_zero, List.set_cons_succ, List.getElem_toArray, List.getElem_cons_zero, List.getElem_cons_succ]
  refine wpAnyH_take (i := 29) (v := (.pointer (some ⟨Bc, 0 + 2, none⟩))) rfl (by kernel_rfl) (by kernel_rfl) (by kernel_rfl) (fun _ _ _ h => h) (Or.inl ⟨by rfl, ?_⟩) (by assumption) ?_
  · intro w hSw
    try dsimp only at hSw
    go_simp
  simp only [Act.put, List.setIfInBounds_toArray, List.set_cons_zero, List.set_cons_succ, List.getElem_toArray, List.getElem_cons_zero, List.getElem_cons_succ]
  refine wpAnyH_take (i := 30) (v := (.slice aa L capa)) rfl (by kernel_rfl) (by kernel_rfl) (by kernel_rfl) (fun _ _ _ h => h) (Or.inl ⟨by rfl, ?_⟩) (by assumption) ?_
  · intro w hSw
    try dsimp only at hSw
    go_simp
  simp only [Act.put, List.setIfInBounds_toArray, List.set_cons_zero, List.set_cons_succ, List.getElem_toArray, List.getElem_cons_zero, List.getElem_cons_succ]
  refine wpAnyH_take (i := 31) (v := (.int .i64 (L : Int))) rfl (by kernel_rfl) (by kernel_rfl) (by kernel_rfl) (fun _ _ _ h => h) (Or.inl ⟨by rfl, ?_⟩) (by assumption) ?_
  · intro w hSw
    try dsimp only at hSw
    go_simp
  simp only [Act.put, List.setIfInBounds_toArray, List.set_cons_zero, List.set_cons_succ, List.getElem_toArray, List.getElem_cons_zero, List.getElem_cons_succ]
  refine wpAnyH_take (i := 33) (v := (.pointer (some ⟨Bc, 0, none⟩))) rfl (by kernel_rfl) (by kernel_rfl) (by kernel_rfl) (fun _ _ _ h => h) (Or.inl ⟨by rfl, ?_⟩) (by assumption) ?_
  · intro w hSw
    try dsimp only at hSw
    go_simp
  simp only [Act.put, List.setIfInBounds_toArray, List.set_cons_zero, List.set_cons_succ, List.getElem_toArray, List.getElem_cons_zero, List.getElem_cons_succ]
  refine wpAnyH_take (i := 34) (v := (.pointer (some ⟨Bc, 0, none⟩))) rfl (by kernel_rfl) (by kernel_rfl) (by kernel_rfl) (fun _ _ _ h => h) (Or.inl ⟨by rfl, ?_⟩) (by assumption) ?_
  · intro w hSw
    try dsimp only at hSw
    go_simp
  simp only [Act.put, List.setIfInBounds_toArray, List.set_cons_zero, List.set_cons_succ, List.getElem_toArray, List.getElem_cons_zero, List.getElem_cons_succ]
  refine wpAnyH_take (i := 35) (v := (.pointer (some ⟨Bc, 0 + 2, none⟩))) rfl (by kernel_rfl) (by kernel_rfl) (by kernel_rfl) (fun _ _ _ h => h) (Or.inl ⟨by rfl, ?_⟩) (by assumption) ?_
  · intro w hSw
    try dsimp only at hSw
    go_simp
  simp only [Act.put, List.setIfInBounds_toArray, List.set_cons_zero, List.set_cons_succ, List.getElem_toArray, List.getElem_cons_zero, List.getElem_cons_succ]
  refine wpAnyH_take (i := 36) (v := (.slice aa L capa)) rfl (by kernel_rfl) (by kernel_rfl) (by kernel_rfl) (fun _ _ _ h => h) (Or.inl ⟨by rfl, ?_⟩) (by assumption) ?_
  · intro w hSw
    try dsimp only at hSw
    go_simp
  simp only [Act.put, List.setIfInBounds_toArray, List.set_cons_zero, List.set_cons_succ, List.getElem_toArray, List.getElem_cons_zero, List.getElem_cons_succ]
  refine wpAnyH_take (i := 37) (v := (.int .i64 (L : Int))) rfl (by kernel_rfl) (by kernel_rfl) (by kernel_rfl) (fun _ _ _ h => h) (Or.inl ⟨by rfl, ?_⟩) (by assumption) ?_
  · intro w hSw
    try dsimp only at hSw
    go_simp
  simp only [Act.put, List.setIfInBounds_toArray, List.set_cons_zero, List.set_cons_succ, List.getElem_toArray, List.getElem_cons_zero, List.getElem_cons_succ]
  refine wpAnyH_take (i := 39) (v := (.pointer (some ⟨Bc, 0, none⟩))) rfl (by kernel_rfl) (by kernel_rfl) (by kernel_rfl) (fun _ _ _ h => h) (Or.inl ⟨by rfl, ?_⟩) (by assumption) ?_
  · intro w hSw
    try dsimp only at hSw
    go_simp
  simp only [Act.put, List.setIfInBounds_toArray, List.set_cons_zero, List.set_cons_succ, List.getElem_toArray, List.getElem_cons_zero, List.getElem_cons_succ]
  refine wpAnyH_take (i := 40) (v := (.pointer (some ⟨Bc, 0, none⟩))) rfl (by kernel_rfl) (by kernel_rfl) (by kernel_rfl) (fun _ _ _ h => h) (Or.inl ⟨by rfl, ?_⟩) (by assumption) ?_
  · intro w hSw
    try dsimp only at hSw
    go_simp
  simp only [Act.put, List.setIfInBounds_toArray, List.set_cons_zero, List.set_cons_succ, List.getElem_toArray, List.getElem_cons_zero, List.getElem_cons_succ]
  refine wpAnyH_take (i := 41) (v := (.pointer (some ⟨Bc, 0, none⟩))) rfl (by kernel_rfl) (by kernel_rfl) (by kernel_rfl) (fun _ _ _ h => h) (Or.inl ⟨by rfl, ?_⟩) (by assumption) ?_
  · intro w hSw
    try dsimp only at hSw
    go_simp
  simp only [Act.put, List.setIfInBounds_toArray, List.set_cons_zero, List.set_cons_succ, List.getElem_toArray, List.getElem_cons_zero, List.getElem_cons_succ]
  refine wpAnyH_take (i := 42) (v := (.slice at_ n capt)) rfl (by kernel_rfl) (by kernel_rfl) (by kernel_rfl) (fun _ _ _ h => h) (Or.inl ⟨by rfl, ?_⟩) (by assumption) ?_
  · intro w hSw
    try dsimp only at hSw
    go_simp
  simp only [Act.put, List.setIfInBounds_toArray, List.set_cons_zero, List.set_cons_succ, List.getElem_toArray, List.getElem_cons_zero, List.getElem_cons_succ]
  refine wpAnyH_take (i := 43) (v := (.int .i64 (n : Int))) rfl (by kernel_rfl) (by kernel_rfl) (by kernel_rfl) (fun _ _ _ h => h) (Or.inl ⟨by rfl, ?_⟩) (by assumption) ?_
  · intro w hSw
    try dsimp only at hSw
    go_simp
  simp only [Act.put, List.setIfInBounds_toArray, List.set_cons_zero, List.set_cons_succ, List.getElem_toArray, List.getElem_cons_zero, List.getElem_cons_succ]
  refine wpAnyH_take (i := 45) (v := (.pointer (some ⟨Bc, 0, none⟩))) rfl (by kernel_rfl) (by kernel_rfl) (by kernel_rfl) (fun _ _ _ h => h) (Or.inl ⟨by rfl, ?_⟩) (by assumption) ?_
  · intro w hSw
    try dsimp only at hSw
    go_simp
  simp only [Act.put, List.setIfInBounds_toArray, List.set_cons_zero, List.set_cons_succ, List.getElem_toArray, List.getElem_cons_zero, List.getElem_cons_succ]
  refine wpAnyH_take (i := 46) (v := (.pointer (some ⟨Bc, 0, none⟩))) rfl (by kernel_rfl) (by kernel_rfl) (by kernel_rfl) (fun _ _ _ h => h) (Or.inl ⟨by rfl, ?_⟩) (by assumption) ?_
  · intro w hSw
    try dsimp only at hSw
    go_simp
  simp only [Act.put, List.setIfInBounds_toArray, List.set_cons_zero, List.set_cons_succ, List.getElem_toArray, List.getElem_cons_zero, List.getElem_cons_succ]
  refine wpAnyH_take (i := 47) (v := (.pointer (some ⟨Bc, 0 + 1, none⟩))) rfl (by kernel_rfl) (by kernel_rfl) (by kernel_rfl) (fun _ _ _ h => h) (Or.inl ⟨by rfl, ?_⟩) (by assumption) ?_
  · intro w hSw
    try dsimp only at hSw
    go_simp
  simp only [Act.put, List.setIfInBounds_toArray, List.set_cons_zero, List.set_cons_succ, List.getElem_toArray, List.getElem_cons_zero, List.getElem_cons_succ]
  refine wpAnyH_take (i := 48) (v := (.int .i64 (m : Int))) rfl (by kernel_rfl) (by kernel_rfl) (by kernel_rfl) (fun _ _ _ h => h) (Or.inl ⟨by rfl, ?_⟩) (by assumption) ?_
  · intro w hSw
    try dsimp only at hSw
    go_simp
  simp only [Act.put, List.setIfInBounds_toArray, List.set_cons_zero, List.set_cons_succ, List.getElem_toArray, List.getElem_cons_zero, List.getElem_cons_succ]
  refine wpAnyH_take (i := 50) (v := (.pointer (some ⟨Bc, 0, none⟩))) rfl (by kernel_rfl) (by kernel_rfl) (by kernel_rfl) (fun _ _ _ h => h) (Or.inl ⟨by rfl, ?_⟩) (by assumption) ?_
  · intro w hSw
    try dsimp only at hSw
    go_simp
  simp only [Act.put, List.setIfInBounds_toArray, List.set_cons_zero, List.set_cons_succ, List.getElem_toArray, List.getElem_cons_zero, List.getElem_cons_succ]
  refine wpAnyH_take (i := 51) (v := (.pointer (some ⟨Bc, 0, none⟩))) rfl (by kernel_rfl) (by kernel_rfl) (by kernel_rfl) (fun _ _ _ h => h) (Or.inl ⟨by rfl, ?_⟩) (by assumption) ?_
  · intro w hSw
    try dsimp only at hSw
    go_simp
  simp only [Act.put, List.setIfInBounds_toArray, List.set_cons_zero, List.set_cons_succ, List.getElem_toArray, List.getElem_cons_zero, List.getElem_cons_succ]
  refine wpAnyH_take (i := 52) (v := (.pointer (some ⟨Bc, 0 + 1, none⟩))) rfl (by kernel_rfl) (by kernel_rfl) (by kernel_rfl) (fun _ _ _ h => h) (Or.inl ⟨by rfl, ?_⟩) (by assumption) ?_
  · intro w hSw
    try dsimp only at hSw
    go_simp
  simp only [Act.put, List.setIfInBounds_toArray, List.set_cons_zero, List.set_cons_succ, List.getElem_toArray, List.getElem_cons_zero, List.getElem_cons_succ]
  refine wpAnyH_take (i := 53) (v := (.int .i64 (m : Int))) rfl (by kernel_rfl) (by kernel_rfl) (by kernel_rfl) (fun _ _ _ h => h) (Or.inl ⟨by rfl, ?_⟩) (by assumption) ?_
  · intro w hSw
    try dsimp only at hSw
    go_simp
  simp only [Act.put, List.setIfInBounds_toArray, List.set_cons_zero, List.set_cons_succ, List.getElem_toArray, List.getElem_cons_zero, List.getElem_cons_succ]
  have hmk0 := fun (W : World) => mkRow1 Ybad.E121' rfl n (by omega) W
  have hmk1 := fun (W : World) => mkRow1 Ybad.E69 rfl m (by omega) W
  have hmk2 := fun (W : World) => mkRow1 Ybad.E124 rfl m (by omega) W
  have hmk3 := fun (W : World) => mkRow1 Ybad.E54' rfl L (by omega) W
  have hmk4 := fun (W : World) => mkRow1 Ybad.E69 rfl n (by omega) W
  have hmk5 := fun (W : World) => mkRow1 Ybad.E54' rfl m (by omega) W
  refine listed_as (l' := (fun (t : Nat → Bool) => (#[true, true, true, true, true, true, t 0, true, true, true, true, t 1, true, true, true, true, t 2, true, true, true, true, t 3, true, true, true, true, t 4, true, true, true, true, true, t 5, true, true, true, true, true, t 6, true, true, true, true, true, t 7, true, true, true, true, t 8, true, true, true, true, t 9, false, false, false] : Array Bool)) (fun _ => false)) (by kernel_rfl) ?_
  refine makes_rule 3 (fun (t : Nat → Bool) => (#[true, true, true, true, true, true, t 0, true, true, true, true, t 1, true, true, true, true, t 2, true, true, true, true, t 3, true, true, true, true, t 4, true, true, true, true, true, t 5, true, true, true, true, true, t 6, true, true, true, true, true, t 7, true, true, true, true, t 8, true, true, true, true, t 9, false, false, false] : Array Bool)) (fun (x : Nat → Value) => (⟨#[.pointer (some ⟨Bc, 0, none⟩), c1, c2, c3, c4, c5, c6, .pointer (some ⟨Bc, 0, none⟩), .pointer (some ⟨Bc, 0, none⟩), .pointer (some ⟨Bc, 0, none⟩), .pointer (some ⟨Bc, 0, none⟩), .slice at_ n capt, .int .i64 (n : Int), x 0, .pointer (some ⟨Bc, 0, none⟩), .pointer (some ⟨Bc, 0, none⟩), .pointer (some ⟨Bc, 0 + 1, none⟩), .int .i64 (m : Int), x 1, .pointer (some ⟨Bc, 0, none⟩), .pointer (some ⟨Bc, 0, none⟩), .pointer (some ⟨Bc, 0 + 1, none⟩), .int .i64 (m : Int), x 2, .pointer (some ⟨Bc, 0, none⟩), .pointer (some ⟨Bc, 0, none⟩), .pointer (some ⟨Bc, 0 + 1, none⟩), .int .i64 (m : Int), x 3, .pointer (some ⟨Bc, 0, none⟩), .pointer (some ⟨Bc, 0, none⟩), .pointer (some ⟨Bc, 0 + 1, none⟩), .int .i64 (m : Int), x 4, .pointer (some ⟨Bc, 0, none⟩), .pointer (some ⟨Bc, 0, none⟩), .pointer (some ⟨Bc, 0 + 2, none⟩), .slice aa L capa, .int .i64 (L : Int), x 5, .pointer (some ⟨Bc, 0, none⟩), .pointer (some ⟨Bc, 0, none⟩), .pointer (some ⟨Bc, 0 + 2, none⟩), .slice aa L capa, .int .i64 (L : Int), x 6, .pointer (some ⟨Bc, 0, none⟩), .pointer (some ⟨Bc, 0, none⟩), .pointer (some ⟨Bc, 0, none⟩), .slice at_ n capt, .int .i64 (n : Int), x 7, .pointer (some ⟨Bc, 0, none⟩), .pointer (some ⟨Bc, 0, none⟩), .pointer (some ⟨Bc, 0 + 1, none⟩), .int .i64 (m : Int), x 8, .pointer (some ⟨Bc, 0, none⟩), .pointer (some ⟨Bc, 0, none⟩), .pointer (some ⟨Bc, 0 + 1, none⟩), .int .i64 (m : Int), x 9, c62, c63, c64, c65, c66, c67, c68, c69, c70, c71, c72, c73, c74, c75, c76, c77, c78, c79, c80, c81, c82, c83, c84, c85, c86, c87, c88, c89, c90, c91, c92, c93, c94, c95, c96, c97, c98, c99, c100, c101, c102, c103, c104, c105, c106, c107, c108, c109, c110, c111, c112, c113, c114, c115, c116, c117, c118, c119, c120, c121, c122, c123, c124, c125, c126, c127, c128, c129, c130, c131, c132, c133, c134, c135, c136, c137, c138, c139, c140, c141, c142, c143, c144, c145, c146, c147, c148, c149, c150, c151, c152, c153, c154, c155, c156, c157, c158, c159, c160, c161, c162, c163, c164, c165, c166, c167, c168, c169, c170, c171, c172, c173, c174, c175, c176, c177, c178, c179, c180, c181, c182, c183, c184, c185, c186, c187, c188, c189, c190, c191, c192, c193, c194, c195, c196, c197, c198, c199, c200, c201], []⟩ : Act)) (fun t x W => (W.cell? ⟨Bc, 0, none⟩ = some (.slice at_ n capt) ∧ W.cell? ⟨Bc, 1, none⟩ = some (.int .i64 (m : Int)) ∧ W.cell? ⟨Bc, 2, none⟩ = some (.slice aa L capa)) ∧ ∃ b, Cw0 w W n m L t x b) ?_ ?_ ?_ 10 (fun _ => false) (fun k => match k with | 0 => c13 | 1 => c18 | 2 => c23 | 3 => c28 | 4 => c33 | 5 => c39 | 6 => c45 | 7 => c51 | 8 => c56 | _ => c61) w.drew rfl ⟨hHeld, fun _ => 0, ⟨fun k _ h => (by cases h), fun j k _ _ h => (by cases h), ⟨rfl, rfl, rfl, Nat.le_refl _, fun _ _ => rfl⟩, rfl⟩⟩
  · intro t c hc h
    refine cnT_pos hc (fun k hk => ?_)
    rcases (show k = 0 ∨ k = 1 ∨ k = 2 ∨ k = 3 ∨ k = 4 ∨ k = 5 ∨ k = 6 ∨ k = 7 ∨ k = 8 ∨ k = 9 by omega) with rfl | rfl | rfl | rfl | rfl | rfl | rfl | rfl | rfl | rfl
    · cases e : t 0 with
      | true => rfl
      | false =>
        exfalso
        refine List.eq_nil_iff_forall_not_mem.1 h 6 (mem_ready.2 ⟨e, _, rfl, fun e he _ => ?_⟩)
        · simp only [List.getElem_toArray, List.getElem_cons_zero, List.getElem_cons_succ, List.mem_toArray, List.mem_cons, or_self, List.not_mem_nil, or_false] at he
          subst he
          rfl
    · cases e : t 1 with
      | true => rfl
      | false =>
        exfalso
        refine List.eq_nil_iff_forall_not_mem.1 h 11 (mem_ready.2 ⟨e, _, rfl, fun e he _ => ?_⟩)
        · simp only [List.getElem_toArray, List.getElem_cons_zero, List.getElem_cons_succ, List.mem_toArray, List.mem_cons, or_self, List.not_mem_nil, or_false] at he
          subst he
          rfl
    · cases e : t 2 with
      | true => rfl
      | false =>
        exfalso
        refine List.eq_nil_iff_forall_not_mem.1 h 16 (mem_ready.2 ⟨e, _, rfl, fun e he _ => ?_⟩)
        · simp only [List.getElem_toArray, List.getElem_cons_zero, List.getElem_cons_succ, List.mem_toArray, List.mem_cons, or_self, List.not_mem_nil, or_false] at he
          subst he
          rfl
    · cases e : t 3 with
      | true => rfl
      | false =>
        exfalso
        refine List.eq_nil_iff_forall_not_mem.1 h 21 (mem_ready.2 ⟨e, _, rfl, fun e he _ => ?_⟩)
        · simp only [List.getElem_toArray, List.getElem_cons_zero, List.getElem_cons_succ, List.mem_toArray, List.mem_cons, or_self, List.not_mem_nil, or_false] at he
          subst he
          rfl
    · cases e : t 4 with
      | true => rfl
      | false =>
        exfalso
        refine List.eq_nil_iff_forall_not_mem.1 h 26 (mem_ready.2 ⟨e, _, rfl, fun e he _ => ?_⟩)
        · simp only [List.getElem_toArray, List.getElem_cons_zero, List.getElem_cons_succ, List.mem_toArray, List.mem_cons, or_self, List.not_mem_nil, or_false] at he
          subst he
          rfl
    · cases e : t 5 with
      | true => rfl
      | false =>
        exfalso
        refine List.eq_nil_iff_forall_not_mem.1 h 32 (mem_ready.2 ⟨e, _, rfl, fun e he _ => ?_⟩)
        · simp only [List.getElem_toArray, List.getElem_cons_zero, List.getElem_cons_succ, List.mem_toArray, List.mem_cons, or_self, List.not_mem_nil, or_false] at he
          subst he
          rfl
    · cases e : t 6 with
      | true => rfl
      | false =>
        exfalso
        refine List.eq_nil_iff_forall_not_mem.1 h 38 (mem_ready.2 ⟨e, _, rfl, fun e he _ => ?_⟩)
        · simp only [List.getElem_toArray, List.getElem_cons_zero, List.getElem_cons_succ, List.mem_toArray, List.mem_cons, or_self, List.not_mem_nil, or_false] at he
          subst he
          rfl
    · cases e : t 7 with
      | true => rfl
      | false =>
        exfalso
        refine List.eq_nil_iff_forall_not_mem.1 h 44 (mem_ready.2 ⟨e, _, rfl, fun e he _ => ?_⟩)
        · simp only [List.getElem_toArray, List.getElem_cons_zero, List.getElem_cons_succ, List.mem_toArray, List.mem_cons, or_self, List.not_mem_nil, or_false] at he
          subst he
          rfl
    · cases e : t 8 with
      | true => rfl
      | false =>
        exfalso
        refine List.eq_nil_iff_forall_not_mem.1 h 49 (mem_ready.2 ⟨e, _, rfl, fun e he _ => ?_⟩)
        · simp only [List.getElem_toArray, List.getElem_cons_zero, List.getElem_cons_succ, List.mem_toArray, List.mem_cons, or_self, List.not_mem_nil, or_false] at he
          subst he
          rfl
    · cases e : t 9 with
      | true => rfl
      | false =>
        exfalso
        refine List.eq_nil_iff_forall_not_mem.1 h 54 (mem_ready.2 ⟨e, _, rfl, fun e he _ => ?_⟩)
        · simp only [List.getElem_toArray, List.getElem_cons_zero, List.getElem_cons_succ, List.mem_toArray, List.mem_cons, or_self, List.not_mem_nil, or_false] at he
          subst he
          rfl
  · intro c t x W hc hI i hr
    obtain ⟨hS, b, hi⟩ := hI
    obtain ⟨h1, o, ho, h2⟩ := mem_ready.1 hr
    have hlt : i < 58 := (Array.getElem?_eq_some_iff.1 ho).1
    clear hr
    rcases (show i = 0 ∨ i = 1 ∨ i = 2 ∨ i = 3 ∨ i = 4 ∨ i = 5 ∨ i = 6 ∨ i = 7 ∨ i = 8 ∨ i = 9 ∨ i = 10 ∨ i = 11 ∨ i = 12 ∨ i = 13 ∨ i = 14 ∨ i = 15 ∨ i = 16 ∨ i = 17 ∨ i = 18 ∨ i = 19 ∨ i = 20 ∨ i = 21 ∨ i = 22 ∨ i = 23 ∨ i = 24 ∨ i = 25 ∨ i = 26 ∨ i = 27 ∨ i = 28 ∨ i = 29 ∨ i = 30 ∨ i = 31 ∨ i = 32 ∨ i = 33 ∨ i = 34 ∨ i = 35 ∨ i = 36 ∨ i = 37 ∨ i = 38 ∨ i = 39 ∨ i = 40 ∨ i = 41 ∨ i = 42 ∨ i = 43 ∨ i = 44 ∨ i = 45 ∨ i = 46 ∨ i = 47 ∨ i = 48 ∨ i = 49 ∨ i = 50 ∨ i = 51 ∨ i = 52 ∨ i = 53 ∨ i = 54 ∨ i = 55 ∨ i = 56 ∨ i = 57 from by omega) with rfl | rfl | rfl | rfl | rfl | rfl | rfl | rfl | rfl | rfl | rfl | rfl | rfl | rfl | rfl | rfl | rfl | rfl | rfl | rfl | rfl | rfl | rfl | rfl | rfl | rfl | rfl | rfl | rfl | rfl | rfl | rfl | rfl | rfl | rfl | rfl | rfl | rfl | rfl | rfl | rfl | rfl | rfl | rfl | rfl | rfl | rfl | rfl | rfl | rfl | rfl | rfl | rfl | rfl | rfl | rfl | rfl | rfl
    · exact Bool.noConfusion (show true = false from h1)
    · exact Bool.noConfusion (show true = false from h1)
    · exact Bool.noConfusion (show true = false from h1)
    · exact Bool.noConfusion (show true = false from h1)
    · exact Bool.noConfusion (show true = false from h1)
    · exact Bool.noConfusion (show true = false from h1)
    · refine wpOp_step rfl (fun K hK => ?_)
      go_simp
      refine hK _ _ ⟨?_, updL t 0 true, updL x 0 (.slice (some ⟨W.heap.size, 0, none⟩) (cwLn n m L 0) (cwLn n m L 0)), rfl, rfl, cnT_upd (by omega) h1 hc, ?_, _, hi.make (by omega) h1 hc⟩
      all_goals exact ⟨(World.cell?_alloc_lt W _ _ (by have := hi.bel.size; show Bc < _; omega)).trans hS.1, (World.cell?_alloc_lt W _ _ (by have := hi.bel.size; show Bc < _; omega)).trans hS.2.1, (World.cell?_alloc_lt W _ _ (by have := hi.bel.size; show Bc < _; omega)).trans hS.2.2⟩
    · exact Bool.noConfusion (show true = false from h1)
    · exact Bool.noConfusion (show true = false from h1)
    · exact Bool.noConfusion (show true = false from h1)
    · exact Bool.noConfusion (show true = false from h1)
    · refine wpOp_step rfl (fun K hK => ?_)
      go_simp
      refine hK _ _ ⟨?_, updL t 1 true, updL x 1 (.slice (some ⟨W.heap.size, 0, none⟩) (cwLn n m L 1) (cwLn n m L 1)), rfl, rfl, cnT_upd (by omega) h1 hc, ?_, _, hi.make (by omega) h1 hc⟩
      all_goals exact ⟨(World.cell?_alloc_lt W _ _ (by have := hi.bel.size; show Bc < _; omega)).trans hS.1, (World.cell?_alloc_lt W _ _ (by have := hi.bel.size; show Bc < _; omega)).trans hS.2.1, (World.cell?_alloc_lt W _ _ (by have := hi.bel.size; show Bc < _; omega)).trans hS.2.2⟩
    · exact Bool.noConfusion (show true = false from h1)
    · exact Bool.noConfusion (show true = false from h1)
    · exact Bool.noConfusion (show true = false from h1)
    · exact Bool.noConfusion (show true = false from h1)
    · refine wpOp_step rfl (fun K hK => ?_)
      go_simp
      refine hK _ _ ⟨?_, updL t 2 true, updL x 2 (.slice (some ⟨W.heap.size, 0, none⟩) (cwLn n m L 2) (cwLn n m L 2)), rfl, rfl, cnT_upd (by omega) h1 hc, ?_, _, hi.make (by omega) h1 hc⟩
      all_goals exact ⟨(World.cell?_alloc_lt W _ _ (by have := hi.bel.size; show Bc < _; omega)).trans hS.1, (World.cell?_alloc_lt W _ _ (by have := hi.bel.size; show Bc < _; omega)).trans hS.2.1, (World.cell?_alloc_lt W _ _ (by have := hi.bel.size; show Bc < _; omega)).trans hS.2.2⟩
    · exact Bool.noConfusion (show true = false from h1)
    · exact Bool.noConfusion (show true = false from h1)
    · exact Bool.noConfusion (show true = false from h1)
    · exact Bool.noConfusion (show true = false from h1)
    · refine wpOp_step rfl (fun K hK => ?_)
      go_simp
      refine hK _ _ ⟨?_, updL t 3 true, updL x 3 (.slice (some ⟨W.heap.size, 0, none⟩) (cwLn n m L 3) (cwLn n m L 3)), rfl, rfl, cnT_upd (by omega) h1 hc, ?_, _, hi.make (by omega) h1 hc⟩
      all_goals exact ⟨(World.cell?_alloc_lt W _ _ (by have := hi.bel.size; show Bc < _; omega)).trans hS.1, (World.cell?_alloc_lt W _ _ (by have := hi.bel.size; show Bc < _; omega)).trans hS.2.1, (World.cell?_alloc_lt W _ _ (by have := hi.bel.size; show Bc < _; omega)).trans hS.2.2⟩
    · exact Bool.noConfusion (show true = false from h1)
    · exact Bool.noConfusion (show true = false from h1)
    · exact Bool.noConfusion (show true = false from h1)
    · exact Bool.noConfusion (show true = false from h1)
    · refine wpOp_step rfl (fun K hK => ?_)
      go_simp
      refine hK _ _ ⟨?_, updL t 4 true, updL x 4 (.slice (some ⟨W.heap.size, 0, none⟩) (cwLn n m L 4) (cwLn n m L 4)), rfl, rfl, cnT_upd (by omega) h1 hc, ?_, _, hi.make (by omega) h1 hc⟩
      all_goals exact ⟨(World.cell?_alloc_lt W _ _ (by have := hi.bel.size; show Bc < _; omega)).trans hS.1, (World.cell?_alloc_lt W _ _ (by have := hi.bel.size; show Bc < _; omega)).trans hS.2.1, (World.cell?_alloc_lt W _ _ (by have := hi.bel.size; show Bc < _; omega)).trans hS.2.2⟩
    · exact Bool.noConfusion (show true = false from h1)
    · exact Bool.noConfusion (show true = false from h1)
    · exact Bool.noConfusion (show true = false from h1)
    · exact Bool.noConfusion (show true = false from h1)
    · exact Bool.noConfusion (show true = false from h1)
    · refine wpOp_step rfl (fun K hK => ?_)
      go_simp
      refine hK _ _ ⟨?_, updL t 5 true, updL x 5 (.slice (some ⟨W.heap.size, 0, none⟩) (cwLn n m L 5) (cwLn n m L 5)), rfl, rfl, cnT_upd (by omega) h1 hc, ?_, _, hi.make (by omega) h1 hc⟩
      all_goals exact ⟨(World.cell?_alloc_lt W _ _ (by have := hi.bel.size; show Bc < _; omega)).trans hS.1, (World.cell?_alloc_lt W _ _ (by have := hi.bel.size; show Bc < _; omega)).trans hS.2.1, (World.cell?_alloc_lt W _ _ (by have := hi.bel.size; show Bc < _; omega)).trans hS.2.2⟩
    · exact Bool.noConfusion (show true = false from h1)
    · exact Bool.noConfusion (show true = false from h1)
    · exact Bool.noConfusion (show true = false from h1)
    · exact Bool.noConfusion (show true = false from h1)
    · exact Bool.noConfusion (show true = false from h1)
    · refine wpOp_step rfl (fun K hK => ?_)
      go_simp
      refine hK _ _ ⟨?_, updL t 6 true, updL x 6 (.slice (some ⟨W.heap.size, 0, none⟩) (cwLn n m L 6) (cwLn n m L 6)), rfl, rfl, cnT_upd (by omega) h1 hc, ?_, _, hi.make (by omega) h1 hc⟩
      all_goals exact ⟨(World.cell?_alloc_lt W _ _ (by have := hi.bel.size; show Bc < _; omega)).trans hS.1, (World.cell?_alloc_lt W _ _ (by have := hi.bel.size; show Bc < _; omega)).trans hS.2.1, (World.cell?_alloc_lt W _ _ (by have := hi.bel.size; show Bc < _; omega)).trans hS.2.2⟩
    · exact Bool.noConfusion (show true = false from h1)
    · exact Bool.noConfusion (show true = false from h1)
    · exact Bool.noConfusion (show true = false from h1)
    · exact Bool.noConfusion (show true = false from h1)
    · exact Bool.noConfusion (show true = false from h1)
    · refine wpOp_step rfl (fun K hK => ?_)
      go_simp
      refine hK _ _ ⟨?_, updL t 7 true, updL x 7 (.slice (some ⟨W.heap.size, 0, none⟩) (cwLn n m L 7) (cwLn n m L 7)), rfl, rfl, cnT_upd (by omega) h1 hc, ?_, _, hi.make (by omega) h1 hc⟩
      all_goals exact ⟨(World.cell?_alloc_lt W _ _ (by have := hi.bel.size; show Bc < _; omega)).trans hS.1, (World.cell?_alloc_lt W _ _ (by have := hi.bel.size; show Bc < _; omega)).trans hS.2.1, (World.cell?_alloc_lt W _ _ (by have := hi.bel.size; show Bc < _; omega)).trans hS.2.2⟩
    · exact Bool.noConfusion (show true = false from h1)
    · exact Bool.noConfusion (show true = false from h1)
    · exact Bool.noConfusion (show true = false from h1)
    · exact Bool.noConfusion (show true = false from h1)
    · refine wpOp_step rfl (fun K hK => ?_)
      go_simp
      refine hK _ _ ⟨?_, updL t 8 true, updL x 8 (.slice (some ⟨W.heap.size, 0, none⟩) (cwLn n m L 8) (cwLn n m L 8)), rfl, rfl, cnT_upd (by omega) h1 hc, ?_, _, hi.make (by omega) h1 hc⟩
      all_goals exact ⟨(World.cell?_alloc_lt W _ _ (by have := hi.bel.size; show Bc < _; omega)).trans hS.1, (World.cell?_alloc_lt W _ _ (by have := hi.bel.size; show Bc < _; omega)).trans hS.2.1, (World.cell?_alloc_lt W _ _ (by have := hi.bel.size; show Bc < _; omega)).trans hS.2.2⟩
    · exact Bool.noConfusion (show true = false from h1)
    · exact Bool.noConfusion (show true = false from h1)
    · exact Bool.noConfusion (show true = false from h1)
    · exact Bool.noConfusion (show true = false from h1)
    · refine wpOp_step rfl (fun K hK => ?_)
      go_simp
      refine hK _ _ ⟨?_, updL t 9 true, updL x 9 (.slice (some ⟨W.heap.size, 0, none⟩) (cwLn n m L 9) (cwLn n m L 9)), rfl, rfl, cnT_upd (by omega) h1 hc, ?_, _, hi.make (by omega) h1 hc⟩
      all_goals exact ⟨(World.cell?_alloc_lt W _ _ (by have := hi.bel.size; show Bc < _; omega)).trans hS.1, (World.cell?_alloc_lt W _ _ (by have := hi.bel.size; show Bc < _; omega)).trans hS.2.1, (World.cell?_alloc_lt W _ _ (by have := hi.bel.size; show Bc < _; omega)).trans hS.2.2⟩
    · exfalso
      refine cnT_pos hc (fun k hk => ?_)
      rcases (show k = 0 ∨ k = 1 ∨ k = 2 ∨ k = 3 ∨ k = 4 ∨ k = 5 ∨ k = 6 ∨ k = 7 ∨ k = 8 ∨ k = 9 by omega) with rfl | rfl | rfl | rfl | rfl | rfl | rfl | rfl | rfl | rfl
      · cases ho
        exact h2 ⟨6, .data⟩ (by simp) rfl
      · cases ho
        exact h2 ⟨11, .data⟩ (by simp) rfl
      · cases ho
        exact h2 ⟨16, .data⟩ (by simp) rfl
      · cases ho
        exact h2 ⟨21, .data⟩ (by simp) rfl
      · cases ho
        exact h2 ⟨26, .data⟩ (by simp) rfl
      · cases ho
        exact h2 ⟨32, .data⟩ (by simp) rfl
      · cases ho
        exact h2 ⟨38, .data⟩ (by simp) rfl
      · cases ho
        exact h2 ⟨44, .data⟩ (by simp) rfl
      · cases ho
        exact h2 ⟨49, .data⟩ (by simp) rfl
      · cases ho
        exact h2 ⟨54, .data⟩ (by simp) rfl
    · cases ho
      exact Bool.noConfusion (show false = true from h2 ⟨55, .data⟩ (by simp) rfl)
    · cases ho
      exact Bool.noConfusion (show false = true from h2 ⟨56, .data⟩ (by simp) rfl)
  · intro t x W hc hI
    obtain ⟨hS, b, hi⟩ := hI
    have ht := cnT_zero hc
    refine listed_as (l' := #[true, true, true, true, true, true, true, true, true, true, true, true, true, true, true, true, true, true, true, true, true, true, true, true, true, true, true, true, true, true, true, true, true, true, true, true, true, true, true, true, true, true, true, true, true, true, true, true, true, true, true, true, true, true, true, false, false, false]) (by simp only [ht 0 (by omega), ht 1 (by omega), ht 2 (by omega), ht 3 (by omega), ht 4 (by omega), ht 5 (by omega), ht 6 (by omega), ht 7 (by omega), ht 8 (by omega), ht 9 (by omega)]) ?_
    have e0 : x 0 = .slice (some ⟨b 0, 0, none⟩) n n := (hi.row 0 (by omega) (ht 0 (by omega))).1
    have e1 : x 1 = .slice (some ⟨b 1, 0, none⟩) m m := (hi.row 1 (by omega) (ht 1 (by omega))).1
    have e2 : x 2 = .slice (some ⟨b 2, 0, none⟩) m m := (hi.row 2 (by omega) (ht 2 (by omega))).1
    have e3 : x 3 = .slice (some ⟨b 3, 0, none⟩) m m := (hi.row 3 (by omega) (ht 3 (by omega))).1
    have e4 : x 4 = .slice (some ⟨b 4, 0, none⟩) m m := (hi.row 4 (by omega) (ht 4 (by omega))).1
    have e5 : x 5 = .slice (some ⟨b 5, 0, none⟩) L L := (hi.row 5 (by omega) (ht 5 (by omega))).1
    have e6 : x 6 = .slice (some ⟨b 6, 0, none⟩) L L := (hi.row 6 (by omega) (ht 6 (by omega))).1
    have e7 : x 7 = .slice (some ⟨b 7, 0, none⟩) n n := (hi.row 7 (by omega) (ht 7 (by omega))).1
    have e8 : x 8 = .slice (some ⟨b 8, 0, none⟩) m m := (hi.row 8 (by omega) (ht 8 (by omega))).1
    have e9 : x 9 = .slice (some ⟨b 9, 0, none⟩) m m := (hi.row 9 (by omega) (ht 9 (by omega))).1
    simp only [e0, e1, e2, e3, e4, e5, e6, e7, e8, e9]
    have HA := hid (hi.all hc)
    have hsz : W.heap.size = w.heap.size + 10 := by have := hi.siz; rw [hc] at this; exact this
    have HSS := hid hS
    clear hi ht e0 e1 e2 e3 e4 e5 e6 e7 e8 e9
    refine wpAnyH_ready (rs := [55]) (by kernel_rfl) (by simp) (AllReadyH.cons rfl (fun K hK => ?_) AllReadyH.nil)
    go_simp
    refine hK.out _ _ HSS.out (fun _ => ?_)
    clear hK K
    simp only [Act.put, List.setIfInBounds_toArray, List.set_cons_zero, List.set_cons_succ, List.getElem_toArray, List.getElem_cons_zero, List.getElem_cons_succ]
    refine wpAnyH_ready (rs := [56]) (by kernel_rfl) (by simp) (AllReadyH.cons rfl (fun K hK => ?_) AllReadyH.nil)
    go_simp
    refine hK.out _ _ ⟨(World.cell?_alloc_lt W _ _ (by show Bc < _; omega)).trans HSS.out.1, (World.cell?_alloc_lt W _ _ (by show Bc < _; omega)).trans HSS.out.2.1, (World.cell?_alloc_lt W _ _ (by show Bc < _; omega)).trans HSS.out.2.2⟩ (fun hS3 => ?_)
    clear hK K
    simp only [Act.put, List.setIfInBounds_toArray, List.set_cons_zero, List.set_cons_succ, List.getElem_toArray, List.getElem_cons_zero, List.getElem_cons_succ]
    refine wpAnyH_ready (rs := [57]) (by kernel_rfl) (by simp) (AllReadyH.cons rfl (fun K hK => ?_) AllReadyH.nil)
    go_simp
    refine hK.out _ _ hS3 (fun _ => ?_)
    clear hK K
    simp only [Act.put, List.setIfInBounds_toArray, List.set_cons_zero, List.set_cons_succ, List.getElem_toArray, List.getElem_cons_zero, List.getElem_cons_succ]
    refine wpAnyH_done (by kernel_rfl) ?_ _
    refine NoPanic.normal ?_
    exact HQ.out _ _ _ _ _ _ _ _ _ _ _ _ _ _ _ _ _ _ _ _ _ _ _ _ _ _ _ _ _ _ _ _ _ _ _ _ _ _ _ _ _ _ _ _ _ _ _ _ _ _ _ _ _ _ _ _ _ b W ⟨fun k hk _ => ⟨rfl, (HA.out.row k hk rfl).2⟩, HA.out.inj, HA.out.bel, HA.out.siz⟩

end Go.Proofs.YbulkbgasDoor
