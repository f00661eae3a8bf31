import Derived.Test.YbulkbgasDoorCw4
import Derived.Test.YbulkbgasDoorGp2
import Derived.Test.YbulkbgasDoorPl3
import Derived.Test.YbulkbgasDoorChain
namespace Go.Proofs.YbulkbgasDoor
open Go.RowKit Go.Maps
set_option linter.unusedVariables false

/-! ### A map of slices: its elements read as themselves -/
def RV : Value → Option (DataW Value × List MemPlace) := fun v => some (.held v, [])
theorem keyed3 : Keyed Ybad.prog 3 := int_keyed Ybad.underlying3
theorem key3 {t : Nat} (h : t ≤ 1000000000) : keyOf Ybad.prog 3 (.int .i64 (t : Int)) = some (.int .i64 (t : Int)) := keyOf_int_mk Ybad.underlying3 (wf64 (by omega) (by omega))
/-- Block b is a map from ints; at t it holds m t. -/
def MapVal (W : World) (b n : Nat) (m : Nat → Option Value) : Prop := ∃ D, W.ownsMap Ybad.prog 3 RV b n D ∧ ∀ t : Nat, t ≤ 1000000000 → ∀ zd, D.atKey (.int .i64 (t : Int)) zd = ((m t).map DataW.held).getD zd
section
variable {W W' : World} {b n : Nat} {m : Nat → Option Value}
theorem MapVal.made (w : World) : MapVal (w.alloc (.map #[] 0)) w.heap.size 0 (fun _ => none) := ⟨.map [], World.ownsMap_made w _ _ _, fun _ _ _ => rfl⟩
theorem MapVal.lt (h : MapVal W b n m) : b < W.heap.size := by obtain ⟨D, h1, _⟩ := h; exact h1.lt
theorem MapVal.kept {row : Option Nat} (h : MapVal W b n m) (hg : W.grownBy W' row) (hne : some b ≠ row) : MapVal W' b n m := by obtain ⟨D, h1, h2⟩ := h; exact ⟨D, h1.kept hg hne, h2⟩
theorem MapVal.get (h : MapVal W b n m) {t : Nat} (ht : t ≤ 1000000000) : (Instr.lookup 135 (.map (some b)) (.int .i64 (t : Int)) false).run Ybad.prog W = .ok ((m t).getD (.slice none 0 0)) W := by
  obtain ⟨D, hD, hs⟩ := h
  obtain ⟨v, pl, hr, hv⟩ := hD.lookup keyed3 Ybad.underlying135 (Ybad.zeroValue54 W) (show RV (.slice none 0 0) = some (.held (.slice none 0 0), []) from rfl) (key3 ht)
  rw [hs t ht] at hv
  rw [hr]
  unfold RV at hv
  simp only [Option.some.injEq, Prod.mk.injEq] at hv
  cases h2 : m t with
  | none =>
    rw [h2] at hv
    have := hv.1
    simp at this
    rw [this]; rfl
  | some x =>
    rw [h2] at hv
    have := hv.1
    simp at this
    rw [this]; rfl
theorem MapVal.put {ops : Array Oper} {o : Oper} {a : Act} {w : World} {K : Act → World → Prop} {Q : Exit → Act → World → Prop} {E : Prop} (hgd : o.guard = none) (x1 x2 x3 : Operand) (ho : o.op = .mapUpdate 135 x1 x2 x3) (h : MapVal w b n m) (hn : n < 1000000) (hm : a.eval x1 = .map (some b)) {t : Nat} (ht : t ≤ 1000000000) (hx : a.eval x2 = .int .i64 (t : Int)) {val : Value} (hv : a.eval x3 = val)
    (hK : ∀ w', MapVal w' b (n + 1) (updL m t (some val)) → w.grownBy w' (some b) → K (a.put o.dst undef) w') : if Region.wanted o (yielded ops a.tmps) = true then Oper.wp Ybad.prog o a w K Q else E := by
  have hw : Region.wanted o (yielded ops a.tmps) = true := by simp [Region.wanted, hgd]
  rw [if_pos hw]
  obtain ⟨D, hD, hs⟩ := h
  obtain ⟨w', hrun, r1, r2⟩ := hD.update keyed3 Ybad.underlying135 (by unfold maxLen; omega) (key3 ht) (show RV val = some (.held val, []) from rfl)
  unfold Oper.wp
  simp [execOp, ho, hm, hx, hv, hrun, Result.andThen]
  refine hK w' ⟨_, r1, fun y hy zd => ?_⟩ r2
  unfold updL
  by_cases e : y = t
  · subst e
    rw [if_pos rfl, atKey_put_same hD.isMap (keyed3.key (key3 ht))]
    rfl
  · rw [if_neg e]
    have hne : Lit.int .i64 (y : Int) ≠ Lit.int .i64 (t : Int) := fun h => e (by simp at h; omega)
    rw [atKey_put_other hne]
    exact hs y hy zd
end

/-! ### arcsAlong, plainly -/
/-- The steps among the first m that end at t. -/
def inX (path : List Nat) (m t : Nat) : List Nat := (List.range m).filter fun j => path.getD (j + 1) 0 == t
theorem inX_succ (path : List Nat) (m t : Nat) : inX path (m + 1) t = updL (inX path m) (path.getD (m + 1) 0) (inX path m (path.getD (m + 1) 0) ++ [m]) t := by
  unfold inX
  rw [List.range_succ, List.filter_append]
  unfold updL
  by_cases e : t = path.getD (m + 1) 0
  · subst e; rw [if_pos rfl]; simp
  · rw [if_neg e]
    have : (path.getD (m + 1) 0 == t) = false := by simpa using fun h => e h.symm
    rw [List.filter_cons, if_neg (by rw [this]; simp)]; simp
theorem inX_len (path : List Nat) (m t : Nat) : (inX path m t).length ≤ m := by
  unfold inX; exact Nat.le_trans (List.length_filter_le _ _) (by simp)
theorem inX_mem {path : List Nat} {m t k : Nat} : k ∈ inX path m t ↔ k < m ∧ path.getD (k + 1) 0 = t := by
  unfold inX; simp
noncomputable def alE (S : List Sp) (K : List (Nat × Nat)) (path : List Nat) (c : Acc) (k : Nat) : Int := if c.w = true then ((S.getD (ix K (c.i, path.getD k 0)) sp0).f : Int) else (S.getD (ix K (c.i, path.getD k 0)) sp0).w
open Classical in
noncomputable def alOne (S : List Sp) (K : List (Nat × Nat)) (path : List Nat) (c : Acc) (F : Nat → Int) (k : Nat) : Nat → Int :=
  if (c.i, path.getD k 0) ∈ K ∧ F (k * 2) < 0 ∧ 0 ≤ alE S K path c k ∧ alE S K path c k < (c.p : Int)
  then upd2 F k (alE S K path c k) (c.p : Int) else F
noncomputable def alAcc (S : List Sp) (K : List (Nat × Nat)) (path : List Nat) (np : Nat) (F : Nat → Int) (c : Acc) : Nat → Int := (inX path np c.x).foldl (alOne S K path c) F
noncomputable def alF (S : List Sp) (K : List (Nat × Nat)) (path : List Nat) (np : Nat) (A : List Acc) : Nat → Int := A.foldl (alAcc S K path np) (fun _ => -1)

/-- Of step k: the pair behind it. -/
def AlP (A : List Acc) (path : List Nat) (F : Nat → Int) (k : Nat) : Prop := (F (k * 2) < 0) ∨ ∃ a ∈ A, ∃ c ∈ A, a.x = path.getD k 0 ∧ c.x = path.getD (k + 1) 0 ∧ a.i = c.i ∧ F (k * 2) = (a.p : Int) ∧ F (k * 2 + 1) = (c.p : Int)
section
variable {A : List Acc} {path : List Nat} {np : Nat}
theorem sp_keyed (hs : A.Pairwise (fun a b => a.p < b.p)) {key : Nat × Nat} (h : key ∈ keysF A) : ∃ s, (spF A).getD (ix (keysF A) key) sp0 = s ∧ s ∈ spF A ∧ s.key = key ∧ SpOk A s := by
  have hl := ix_lt h
  have hl2 : ix (keysF A) key < (spF A).length := by unfold keysF at hl ⊢; rw [List.length_map] at hl; exact hl
  refine ⟨(spF A)[ix (keysF A) key], ?_, List.getElem_mem _, ?_, spF_ok A hs _ (List.getElem_mem _)⟩
  · rw [List.getD_eq_getElem?_getD, List.getElem?_eq_getElem hl2, Option.getD_some]
  · have := ix_get h
    unfold keysF at this
    rw [List.getElem_map] at this
    exact this
theorem alOne_p (hs : A.Pairwise (fun a b => a.p < b.p)) {c : Acc} (hc : c ∈ A) {F : Nat → Int} {j : Nat} (hj : path.getD (j + 1) 0 = c.x) (h : ∀ k, AlP A path F k) : ∀ k, AlP A path (alOne (spF A) (keysF A) path c F j) k := by
  intro k
  unfold alOne
  split
  · rename_i hcond
    obtain ⟨h1, h2, h3, h4⟩ := hcond
    obtain ⟨s, e, hsm, hk, ok⟩ := sp_keyed hs h1
    unfold alE at h3 h4 ⊢
    rw [e] at h3 h4 ⊢
    by_cases ek : k = j
    · subst ek
      right
      by_cases hw : c.w = true
      · obtain ⟨a, ha, ak, ap⟩ := ok.f
        have hak := ak.trans hk
        refine ⟨a, ha, c, hc, (Prod.mk.inj hak).2, hj.symm, (Prod.mk.inj hak).1, ?_, ?_⟩
        · rw [upd2_0, if_pos hw, ap]
        · rw [upd2_1]
      · rw [if_neg hw] at h3 ⊢
        rcases ok.w with ⟨w1, _⟩ | ⟨a, ha, ak, aw, ap, _⟩
        · omega
        · have hak := ak.trans hk
          refine ⟨a, ha, c, hc, (Prod.mk.inj hak).2, hj.symm, (Prod.mk.inj hak).1, ?_, ?_⟩
          · rw [upd2_0, ap]
          · rw [upd2_1]
    · have := h k
      unfold AlP at this ⊢
      rw [(upd2_o ek _ _).1, (upd2_o ek _ _).2]
      exact this
  · exact h k
/-- What is set stays. -/
theorem alOne_keep {S : List Sp} {K : List (Nat × Nat)} {c : Acc} {F : Nat → Int} {j k : Nat} (h : 0 ≤ F (k * 2)) : 0 ≤ alOne S K path c F j (k * 2) := by
  unfold alOne
  split
  · rename_i hcond
    by_cases ek : k = j
    · subst ek; rw [upd2_0]; exact hcond.2.2.1
    · rw [(upd2_o ek _ _).1]; exact h
  · exact h
theorem alFold_keep {S : List Sp} {K : List (Nat × Nat)} {c : Acc} {k : Nat} : ∀ (W : List Nat) (F : Nat → Int), 0 ≤ F (k * 2) → 0 ≤ W.foldl (alOne S K path c) F (k * 2)
  | [], F, h => h
  | j :: W, F, h => by rw [List.foldl_cons]; exact alFold_keep W _ (alOne_keep h)
theorem alFold_p (hs : A.Pairwise (fun a b => a.p < b.p)) {c : Acc} (hc : c ∈ A) : ∀ (W : List Nat) (F : Nat → Int), (∀ j ∈ W, path.getD (j + 1) 0 = c.x) → (∀ k, AlP A path F k) → ∀ k, AlP A path (W.foldl (alOne (spF A) (keysF A) path c) F) k
  | [], F, _, h => h
  | j :: W, F, hW, h => by
    rw [List.foldl_cons]
    exact alFold_p hs hc W _ (fun i hi => hW i (List.mem_cons_of_mem _ hi)) (alOne_p hs hc (hW j List.mem_cons_self) h)
theorem alFold_set {c : Acc} {k : Nat} (hcond : ∀ F : Nat → Int, 0 ≤ alOne (spF A) (keysF A) path c F k (k * 2)) : ∀ (W : List Nat) (F : Nat → Int), k ∈ W → 0 ≤ W.foldl (alOne (spF A) (keysF A) path c) F (k * 2)
  | [], F, h => by simp at h
  | j :: W, F, h => by
    rw [List.foldl_cons]
    by_cases e : k = j
    · subst e; exact alFold_keep W _ (hcond F)
    · exact alFold_set hcond W _ ((List.mem_cons.1 h).resolve_left e)
theorem alF_p (hs : A.Pairwise (fun a b => a.p < b.p)) : ∀ (B : List Acc), (∀ c ∈ B, c ∈ A) → ∀ F : Nat → Int, (∀ k, AlP A path F k) → ∀ k, AlP A path (B.foldl (alAcc (spF A) (keysF A) path np) F) k
  | [], _, F, h => h
  | c :: B, hB, F, h => by
    rw [List.foldl_cons]
    refine alF_p hs B (fun x hx => hB x (List.mem_cons_of_mem _ hx)) _ ?_
    unfold alAcc
    exact alFold_p hs (hB c List.mem_cons_self) _ _ (fun j hj => (inX_mem.1 hj).2) h
theorem alF_keep {k : Nat} : ∀ (B : List Acc) (F : Nat → Int), 0 ≤ F (k * 2) → 0 ≤ B.foldl (alAcc (spF A) (keysF A) path np) F (k * 2)
  | [], F, h => h
  | c :: B, F, h => by
    rw [List.foldl_cons]
    exact alF_keep B _ (alFold_keep _ _ h)
theorem alF_set {c : Acc} {k : Nat} (hk : k ∈ inX path np c.x) (hcond : ∀ F : Nat → Int, 0 ≤ alOne (spF A) (keysF A) path c F k (k * 2)) : ∀ (B : List Acc) (F : Nat → Int), c ∈ B → 0 ≤ B.foldl (alAcc (spF A) (keysF A) path np) F (k * 2)
  | [], F, h => by simp at h
  | d :: B, F, h => by
    rw [List.foldl_cons]
    rcases List.mem_cons.1 h with e | e
    · subst e; exact alF_keep B _ (alFold_set hcond _ _ hk)
    · exact alF_set hk hcond B _ e
/-- Where every step is a conflict, every step has its pair. -/
theorem alF_ok (hs : A.Pairwise (fun a b => a.p < b.p)) {k : Nat} (hk : k < np) (h : Succ A (path.getD k 0) (path.getD (k + 1) 0)) :
    ∃ a ∈ A, ∃ c ∈ A, a.x = path.getD k 0 ∧ c.x = path.getD (k + 1) 0 ∧ a.i = c.i ∧ alF (spF A) (keysF A) path np A (k * 2) = (a.p : Int) ∧ alF (spF A) (keysF A) path np A (k * 2 + 1) = (c.p : Int) := by
  have hp : AlP A path (alF (spF A) (keysF A) path np A) k := alF_p hs A (fun c hc => hc) _ (fun k => .inl (by simp)) k
  rcases hp with hp | hp
  · exfalso
    obtain ⟨_, p, q, h1, h2, h3, h4, h5, h6⟩ := h
    have hpA : p < A.length := by omega
    have ep := aA_get hpA
    have eq := aA_get h2
    have hcm : aA A q ∈ A := by rw [eq]; exact List.getElem_mem _
    have ham : aA A p ∈ A := by rw [ep]; exact List.getElem_mem _
    have hlt : (aA A p).p < (aA A q).p := by
      rw [ep, eq]; exact List.pairwise_iff_getElem.1 hs p q hpA h2 h1
    have hkey : ((aA A q).i, path.getD k 0) ∈ keysF A := by
      have := key_getA (A := A) (k := p) hpA
      have e2 : (A.getD p a0).key = ((aA A q).i, path.getD k 0) := by
        show ((aA A p).i, (aA A p).x) = _
        rw [h5, h3]
      rw [e2] at this; exact this
    obtain ⟨s, e, hsm, hsk, ok⟩ := sp_keyed hs hkey
    have hak : (aA A p).key = s.key := by rw [hsk]; show ((aA A p).i, (aA A p).x) = _; rw [h5, h3]
    have hset := alF_set (A := A) (path := path) (np := np) (c := aA A q) (k := k) (inX_mem.2 ⟨hk, h4.symm⟩) (fun F => by
      unfold alOne
      by_cases hF : F (k * 2) < 0
      · rw [if_pos]
        · rw [upd2_0]
          unfold alE
          rw [e]
          by_cases hw : (aA A q).w = true
          · rw [if_pos hw]; omega
          · rw [if_neg hw]
            rcases ok.w with ⟨w1, w2⟩ | ⟨a, ha, ak, aw, ap, am⟩
            · have := w2 _ ham hak
              rw [this] at h6
              rcases h6 with h6 | h6
              · cases h6
              · exact absurd h6 hw
            · omega
        · refine ⟨hkey, hF, ?_⟩
          unfold alE
          rw [e]
          by_cases hw : (aA A q).w = true
          · rw [if_pos hw]
            have := ok.fm _ ham hak
            omega
          · rw [if_neg hw]
            have hpw : (aA A p).w = true := h6.resolve_right hw
            rcases ok.w with ⟨w1, w2⟩ | ⟨a, ha, ak, aw, ap, am⟩
            · have := w2 _ ham hak
              rw [hpw] at this; cases this
            · have := am _ ham hak hpw
              omega
      · split
        · rename_i hc; exact absurd hc.2.1 hF
        · omega) A (fun _ => -1) hcm
    unfold alF at hp
    omega
  · exact hp
end

end Go.Proofs.YbulkbgasDoor
