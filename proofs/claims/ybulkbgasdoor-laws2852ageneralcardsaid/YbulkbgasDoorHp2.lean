import Derived.Test.YbulkbgasDoorHp
import Derived.Test.YbulkbgasDoorFc1
namespace Go.Proofs.YbulkbgasDoor
open Go.RowKit Go.Maps
set_option linter.unusedVariables false
attribute [local go_sem ↓] Go.wp_at_zero Go.wp_at_succ

theorem Ybad.E115 : ElemT 115 3 1 8 (.int .i64 0) := ⟨Ybad.underlying115, by kernel_rfl, rfl, by decide, by decide⟩

/-- 'append(v, x)' of an int to a lowestFirst, at a step of a region that draws. -/
theorem apD5 {ops : Array Oper} {o : Oper} {a : Act} {w : World} {K : Act → World → Prop} {Q : Exit → Act → World → Prop} {E : Prop} (hgd : o.guard = none) (s x : Operand)
    (ho : o.op = .call { callee := .builtin .append, args := #[s, x], argTypes := #[115, 115] }) (base : Nat) (v : Value) (l : List Nat) (y : Int) (h0 H : Nat) (hs : a.eval s = v) (hx : a.eval x = .slice (some ⟨h0, 0, none⟩) 1 1)
    (hown : w.ownsRow base 3 1 v l.length (rowI l)) (hh : w.heap[h0]? = some (.cells #[.int .i64 y] 3 (0, 0))) (hn : l.length ≤ 100000) (hb : base ≤ w.heap.size) (hH : w.heap.size = H)
    (hK : ∀ g cap w', w'.ownsRow base 3 1 (.slice (some ⟨g, 0, none⟩) (l.length + 1) cap) (l.length + 1) (rowI l ++ [.int .i64 y]) → w.grownBy w' v.ownBlock → (v.ownBlock = some g ∨ g = H) → g < w'.heap.size → K (a.put o.dst (.slice (some ⟨g, 0, none⟩) (l.length + 1) cap)) w') :
    if Region.wanted o (yielded ops a.tmps) = true then Oper.wp Ybad.prog o a w K Q else E := by
  obtain ⟨ie, hie, hz, hsz, hb2⟩ := info_parts Ybad.E115.info
  exact step_append_lies w hgd s x 115 ho base 3 ie _ 1 8 Ybad.E115.und hie hz hsz hb2 Ybad.E115.zc Ybad.E115.pos v l.length (rowI l) hs hown ⟨h0, 0, none⟩ 1 1 [.int .i64 y] hx rfl (World.news_of_block (cs := #[.int .i64 y]) (t := 3) (fr := (0, 0)) hh) (by simp [Value.oneCell']) (by decide) (by unfold maxLen; omega) (by omega) hb H hH hK

theorem ta3 (v : Value) (W : World) : Sem.run Ybad.prog (Instr.typeAssert (.iface 3 v) 20 3 false) W = .ok v W := by
  simp [Instr.typeAssert]

set_option maxRecDepth 100000 in
theorem len_any (w : World) (a : Option Addr) (n cap : Nat) : Calls Ybad.prog 39 #[.slice a n cap] w fun e w' => e = .returned (.int .i64 (n : Int)) ∧ w' = w := by
  go_enter Ybad.func39, Ybad.ntmps39
  go_wp2_with fail
  go_ret
  exact ⟨rfl, rfl⟩

section
variable {w : World} {g cap base : Nat} {l : List Nat}
theorem rowI_cell (h : w.ownsRow base 3 1 (.slice (some ⟨g, 0, none⟩) l.length cap) l.length (rowI l)) {i : Nat} (hi : i < l.length) : w.cell? ⟨g, i, none⟩ = some (.int .i64 (l[i] : Int)) ∧ w.frozen? ⟨g, i, none⟩ = false := by
  have := own_cell h (j := i) (by rw [rowI_length]; exact hi)
  rw [rowI_get hi] at this; exact this

def RetB (e : Ending) : Prop := ∃ r, e = .returned (.bool r)
set_option maxRecDepth 100000 in
theorem less_any (h : w.ownsRow base 3 1 (.slice (some ⟨g, 0, none⟩) l.length cap) l.length (rowI l)) {i j : Nat} (hi : i < l.length) (hj : j < l.length) :
    Calls Ybad.prog 112 #[.slice (some ⟨g, 0, none⟩) l.length cap, .int .i64 (i : Int), .int .i64 (j : Int)] w fun e w' => RetB e ∧ ∃ k, w' = w.drewN k := by
  have c0 := (rowI_cell h hi).1
  have c1 := (rowI_cell h hj).1
  have hi1 : (i : Int) < (l.length : Int) := by omega
  have hj1 : (j : Int) < (l.length : Int) := by omega
  have hi0 : (0 : Int) ≤ (i : Int) := by omega
  have hj0 : (0 : Int) ≤ (j : Int) := by omega
  clear h
  go_enter Ybad.func112, Ybad.ntmps112
  go_upto_region 1 with fail
  go_quiet (fail)
  go_wp2_with fail
  go_ret
  exact ⟨⟨_, rfl⟩, ⟨_, rfl⟩⟩

theorem swap_perm {i j : Nat} (hi : i < l.length) (hj : j < l.length) : ((l.set i l[j]).set j l[i]).Perm l := List.set_set_perm hi hj

set_option maxRecDepth 100000 in
theorem swap_any {b : Nat} (h : Hp w b base l (.slice (some ⟨g, 0, none⟩) l.length cap)) {i j : Nat} (hi : i < l.length) (hj : j < l.length) :
    Calls Ybad.prog 113 #[.slice (some ⟨g, 0, none⟩) l.length cap, .int .i64 (i : Int), .int .i64 (j : Int)] w fun e w' => e = .returned (.tuple #[]) ∧ ∃ l', l'.Perm l ∧ HpTo b base w (.slice (some ⟨g, 0, none⟩) l.length cap) w' l' (.slice (some ⟨g, 0, none⟩) l.length cap) := by
  have H1 := hid ((HpTo.refl h).put hi l[j])
  obtain ⟨c0, f0⟩ := rowI_cell h.own hi
  obtain ⟨c1, f1⟩ := rowI_cell h.own hj
  obtain ⟨c2, f2⟩ := rowI_cell (l := l.set i l[j]) (i := j) (by have := H1.out.hp.own; simpa only [List.length_set] using this) (by simpa using hj)
  rw [show (l.set i l[j])[j]'(by simpa using hj) = l[j] from by rw [List.getElem_set]; split <;> rfl] at c2
  have H2 := hid (H1.out.put (j := j) (by simpa using hj) l[i]).drew
  have hi1 : (i : Int) < (l.length : Int) := by omega
  have hj1 : (j : Int) < (l.length : Int) := by omega
  have hi0 : (0 : Int) ≤ (i : Int) := by omega
  have hj0 : (0 : Int) ≤ (j : Int) := by omega
  have HP := hid (swap_perm hi hj)
  clear h H1
  go_enter Ybad.func113, Ybad.ntmps113
  go_upto_region 0 with fail
  go_region_law (fail)
  all_goals go_wp2_with fail
  all_goals go_end0
  all_goals exact ⟨rfl, _, HP.out, H2.out⟩
end

set_option maxRecDepth 100000 in
theorem pop_any {w : World} {b base : Nat} {l : List Nat} {v : Value} (h : Hp w b base l v) (hl : l ≠ []) (hlen : l.length ≤ 100000) :
    Calls Ybad.prog 114 #[.pointer (some ⟨b, 0, none⟩)] w fun e w' => ∃ (x : Nat) (l' : List Nat) (v' : Value), e = .returned (.iface 3 (.int .i64 (x : Int))) ∧ (x :: l').Perm l ∧ HpTo b base w v w' l' v' := by
  obtain ⟨n, hn⟩ : ∃ n, l.length = n + 1 := ⟨l.length - 1, by have := List.length_pos_iff.2 hl; omega⟩
  obtain ⟨g, cap, rfl, hg1, hg2, hg3, c0⟩ := ownI_cell h.own (show n < l.length by omega)
  have H0 := hid h
  obtain ⟨x, hx⟩ : ∃ x, l[n] = x := ⟨_, rfl⟩
  rw [hx] at c0
  have b0 := h.cell
  have bf := h.free
  have hcp : (l.length : Int) ≤ (cap : Int) := by omega
  have HO := hid (show w.ownsRow base 3 1 (.slice (some ⟨g, 0, none⟩) n cap) (l.take n).length (rowI (l.take n)) from by
    have := own_take' (l := l) (k := n) h.own (by omega)
    rwa [show (l.take n).length = n by simp; omega])
  have H1 := hid ((HpTo.refl h).own2 (World.grownBy.refl w _) rfl HO.out (fun g' hg' => .inl hg')).2
  have HP := hid (show (x :: l.take n).Perm l from by
    have e : l = l.take n ++ [x] := by
      conv => lhs; rw [← List.take_length (l := l), hn, List.take_succ_eq_append_getElem (by omega), hx]
    conv => rhs; rw [e]
    exact (List.perm_append_singleton x (l.take n)).symm)
  have hli : (l.length : Int) = (n : Int) + 1 := by omega
  have hn1 : (n : Int) < (l.length : Int) := by omega
  have hwn : IntKind.i64.wrap (n : Int) = n := by rw [IntKind.wrap_i64]; omega
  have hn0 : (0 : Int) ≤ (n : Int) := by omega
  have hnc : (n : Int) ≤ (cap : Int) := by omega
  clear h hx
  go_enter Ybad.func114, Ybad.ntmps114
  go_upto_region 1 with fail
  go_quiet (fail)
  go_upto_region 2 with fail
  go_region_law (fail)
  all_goals go_wp2_with fail
  all_goals go_ret
  all_goals exact ⟨x, _, _, rfl, HP.out, H1.out.heap rfl rfl rfl rfl⟩

theorem pushed {w w1 w2 : World} {b base g cap x : Nat} {l : List Nat} {v : Value} (h : HpTo b base w v w1 l v) (hg : w1.grownBy w2 v.ownBlock) (ho : w2.ownsRow base 3 1 (.slice (some ⟨g, 0, none⟩) (l.length + 1) cap) (l.length + 1) (rowI l ++ [.int .i64 (x : Int)])) (hat : v.ownBlock = some g ∨ g = w1.heap.size) :
    w2.cell? ⟨b, 0, none⟩ = some v ∧ w2.frozen? ⟨b, 0, none⟩ = false ∧ Hid (HpTo b base w v (w2.setCell ⟨b, 0, none⟩ (.slice (some ⟨g, 0, none⟩) (l.length + 1) cap)) (l ++ [x]) (.slice (some ⟨g, 0, none⟩) (l.length + 1) cap)) := by
  obtain ⟨h1, h2⟩ := h.own2 hg rfl (l2 := l ++ [x]) (v2 := .slice (some ⟨g, 0, none⟩) (l.length + 1) cap) (by rw [rowI_snoc, List.length_append]; exact ho) (fun g' e => by
    simp [Value.ownBlock] at e; subst e
    rcases hat with h | h
    · exact .inl h
    · exact .inr (by omega))
  exact ⟨by rw [cell_of_row _ _ _ _ _ _ h1]; rfl, frozen_of_row _ _ _ _ _ h1, hid h2⟩

set_option maxRecDepth 100000 in
theorem push_any {w : World} {b base : Nat} {l : List Nat} {v : Value} (h : Hp w b base l v) (hlen : l.length ≤ 100000) (hb : base ≤ w.heap.size) (x : Nat) :
    Calls Ybad.prog 115 #[.pointer (some ⟨b, 0, none⟩), .iface 3 (.int .i64 (x : Int))] w fun e w' => e = .returned (.tuple #[]) ∧ ∃ v', HpTo b base w v w' (l ++ [x]) v' := by
  have H0 := hid (HpTo.refl h)
  have hta := ta3 (.int .i64 (x : Int))
  have b0 := h.cell
  have hlt := h.lt
  have a2 : ∀ o, (w.alloc o).cell? ⟨b, 0, none⟩ = some v := fun o => (H0.out.alloc o).hp.cell
  clear h
  go_enter Ybad.func115, Ybad.ntmps115
  go_upto_region 0 with fail
  go_region_law ((refine apD5 (by rfl) _ _ (by rfl) base v l (x : Int) w.heap.size (w.heap.size + 1) (by rfl) (by rfl) (((H0.out.alloc _).drew).hp.own) (heap_alloc_new w _) hlen (by simp; omega) (by simp) ?_; intro g1 cap1 w1 hown1 hgrow hat hlt1; obtain ⟨k1, k2, H9⟩ := pushed (H0.out.alloc _).drew hgrow hown1 (by simpa using hat); clear hown1 hgrow hat))
  all_goals go_wp2_with fail
  all_goals go_end0
  all_goals exact ⟨rfl, _, H9.out.heap rfl rfl rfl rfl⟩

end Go.Proofs.YbulkbgasDoor
