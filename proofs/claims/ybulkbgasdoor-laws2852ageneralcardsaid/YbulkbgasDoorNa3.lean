import Derived.Test.YbulkbgasDoorNa2
namespace Go.Proofs.YbulkbgasDoor
open Go.RowKit Go.Maps
set_option linter.unusedVariables false
attribute [local go_sem ↓] Go.wp_at_zero Go.wp_at_succ

/-- The rows do not grow beyond measure. -/
def NaLen (n q : Nat) (s : Na) : Prop := (∀ i, i < n → (s.X i).length ≤ q * 300) ∧ ∀ k, (s.X (n + k)).length ≤ q

theorem naOne_far {x n : Nat} {X : Nat → List Nat} {r : Nat} (hr : r < n) (k : Nat) : naOne x X r (n + k) = X (n + k) := by
  unfold naOne; split
  · rfl
  · exact updL_other _ (by omega) _
theorem naFold_far {x n : Nat} : ∀ (l : List Nat) (X : Nat → List Nat), (∀ r ∈ l, r < n) → ∀ k, l.foldl (naOne x) X (n + k) = X (n + k)
  | [], _, _, _ => rfl
  | r :: l, X, h, k => by rw [List.foldl_cons, naFold_far l _ (fun r hr => h r (List.mem_cons_of_mem _ hr)) k, naOne_far (h r List.mem_cons_self)]
theorem naOne_len {x : Nat} {X : Nat → List Nat} {r : Nat} (i : Nat) : (naOne x X r i).length ≤ (X i).length + 1 := by
  unfold naOne; split
  · omega
  · unfold updL; split
    · rename_i e; subst e; simp
    · omega
theorem naFold_len {x : Nat} : ∀ (l : List Nat) (X : Nat → List Nat) (i : Nat), (l.foldl (naOne x) X i).length ≤ (X i).length + l.length
  | [], _, _ => by simp
  | r :: l, X, i => by
    rw [List.foldl_cons]
    have h1 := naFold_len (x := x) l (naOne x X r) i
    have h2 := naOne_len (x := x) (X := X) (r := r) i
    simp only [List.length_cons]; omega
theorem naArc_far {n : Nat} {s : Na} {a : Acc} (hw : s.wt a.i < n) (k : Nat) : (naArc s a).X (n + k) = s.X (n + k) := by
  unfold naArc; split
  · rename_i h; exact updL_other _ (by have := h.1; omega) _
  · rfl
theorem naArc_len {s : Na} {a : Acc} (i : Nat) : ((naArc s a).X i).length ≤ (s.X i).length + 1 := by
  unfold naArc; split
  · dsimp only; unfold updL; split
    · rename_i e; rw [← e]; simp
    · omega
  · omega
theorem naStep_len {n m q : Nat} {s : Na} {a : Acc} (h : NaLen n q s) (ok : NaOk n m s) (hx : a.x < n) (hq : q < 300) : NaLen n (q + 1) (naStep n s a) := by
  have hw := ok.wt a.i
  have hf : ∀ k, ((naArc s a).X (n + k)).length ≤ q := fun k => by rw [naArc_far hw]; exact h.2 k
  have hok := naArc_ok (a := a) ok hx
  unfold naStep
  split
  · unfold naWrite
    refine ⟨fun i hi => ?_, fun k => ?_⟩
    · dsimp only
      rw [updL_other _ (by omega)]
      have h1 := naFold_len (x := a.x) ((naArc s a).X (n + a.i)) (naArc s a).X i
      have h2 := naArc_len (s := s) (a := a) i
      have h3 := h.1 i hi
      have h4 := hf a.i
      omega
    · dsimp only
      unfold updL; split
      · simp
      · rw [naFold_far _ _ (hok.X _)]; have := hf k; omega
  · unfold naRead
    split
    · exact ⟨fun i hi => by have h2 := naArc_len (s := s) (a := a) i; have h3 := h.1 i hi; omega, fun k => by have := hf k; omega⟩
    · refine ⟨fun i hi => ?_, fun k => ?_⟩
      · dsimp only; rw [updL_other _ (by omega)]
        have h2 := naArc_len (s := s) (a := a) i; have h3 := h.1 i hi; omega
      · dsimp only; unfold updL; split
        · have := hf a.i; simp; omega
        · have := hf k; omega
theorem naF_len {n m : Nat} (A : List Acc) (hA : ∀ a ∈ A, a.x < n) (hl : A.length ≤ 300) : NaLen n A.length (naF n A) ∧ NaOk n m (naF n A) := by
  suffices ∀ (A : List Acc) (s : Na) (q : Nat), NaLen n q s → NaOk n m s → (∀ a ∈ A, a.x < n) → q + A.length ≤ 300 → NaLen n (q + A.length) (A.foldl (naStep n) s) by
    refine ⟨?_, naF_ok n m A hA⟩
    have := this A ⟨fun _ => -1, fun _ => []⟩ 0 ⟨fun _ _ => by simp, fun _ => by simp⟩ ⟨fun _ => by simp; omega, fun _ => by simp, fun _ _ h => by simp at h⟩ hA (by omega)
    simpa [naF] using this
  intro A
  induction A with
  | nil => intro s q h _ _ _; exact h
  | cons a A ih =>
    intro s q h ok hA hq
    simp only [List.length_cons] at hq ⊢
    have := ih (naStep n s a) (q + 1) (naStep_len h ok (hA a List.mem_cons_self) (by omega)) (naStep_ok ok (hA a List.mem_cons_self)) (fun b hb => hA b (List.mem_cons_of_mem _ hb)) (by omega)
    rw [List.foldl_cons, show q + (A.length + 1) = q + 1 + A.length by omega]; exact this

def it0 (k : Nat) : Nat → Value := fun j => if j % 2 = 0 then .int .i64 (if j / 2 < k then -1 else 0) else .slice none 0 0

theorem mk111 (m : Nat) (hm : m ≤ 1000) (W : World) : (Instr.makeSlice 111 (.int .i64 (m : Int)) (.int .i64 (m : Int))).run Ybad.prog W = .ok (.slice (some ⟨W.heap.size, 0, none⟩) m m) (W.alloc (.cells (rowF (m * 2) (it0 0)) 113)) := by
  rw [mkRow Ybad.E111 m (by omega) rfl W]
  congr 3
  apply rowF_congr
  intro j hj
  unfold it0
  rcases Nat.mod_two_eq_zero_or_one j with e | e
  · rw [if_pos e, e, if_neg (by omega)]; rfl
  · rw [if_neg (by omega), e]; rfl

theorem na_begin {w wr : World} {n m : Nat} (hf : Fix wr w.heap.size 113 (m * 2) (it0 m)) (hz : wr.heap.size = w.heap.size + 1) (hb : Below w.heap.size w wr) :
    NaSt w (wr.alloc (.cells (rowF n fun _ => .slice none 0 0) 54)) n m (fun _ => .slice none 0 0) (naF n []) := by
  refine ⟨(hf.alloc _).congr fun j hj => ?_, alloc_at hz, Fam.nil _ rfl _ _ _ _ _, hb.alloc (by omega) _⟩
  unfold it0 itF naF
  split
  · rw [if_pos (by omega)]; rfl
  · rfl

set_option maxRecDepth 100000 in
set_option maxHeartbeats 2000000 in
theorem near_any (w : World) (Bc n m capt : Nat) (at_ : Option Addr) (va : Value) (A : List Acc) (hA : A.length ≤ 300) (hn : n ≤ 1000) (hm : m ≤ 1000) (hB : Bc < w.heap.size) (hbx : w.heap[Bc]? = some (.cells #[.slice at_ n capt, .int .i64 (m : Int), va] 63 (0, 0))) (hs : SlX w va A) (hsm : ∀ a ∈ A, a.x < n ∧ a.i < m) :
    Calls Ybad.prog 25 #[.pointer (some ⟨Bc, 0, none⟩)] w fun e w' => ∃ v, e = .returned (.slice (some ⟨w.heap.size + 1, 0, none⟩) n n) ∧ Fix w' (w.heap.size + 1) 54 n v ∧ FamI w' (w.heap.size + 2) 3 1 (n + m) v (naF n A).X ∧ Below w.heap.size w w' := by
  obtain ⟨a, cap, rfl, hcap, hel⟩ := hs
  have HS := hid hel
  have HM := hid hsm
  have HBX := hid hbx
  have cc0 : w.cell? ⟨Bc, 1, none⟩ = some (.int .i64 (m : Int)) := by rw [cell_of_row _ _ _ _ _ _ hbx]; rfl
  clear hel hsm hbx
  have hmk := fun (W : World) => mkRow1 Ybad.E69 rfl n (by omega) W
  have hmk2 := fun (W : World) => mk111 m hm W
  go_enter Ybad.func25, Ybad.ntmps25
  go_wp2_with fail
  go_loopg [19] m (fun g i wr => ∃ k : Nat, k ≤ m ∧ g = m - k ∧ i = .int .i64 (k : Int) ∧ Fix wr w.heap.size 113 (m * 2) (it0 k) ∧ wr.heap.size = w.heap.size + 1 ∧ Below w.heap.size w wr)
  case atStart =>
    exact ⟨0, Nat.zero_le _, rfl, rfl, heap_alloc_new w _, by simp, (Below.refl _ w).alloc (Nat.le_refl _) _⟩
  case round =>
    obtain ⟨k, hk, rfl, rfl, hf, hz, hb⟩ := hrel
    by_cases hlt : k < m
    · have hki : (k : Int) < (m : Int) := by omega
      have c0 := hf.cell (j := k * 2) (by omega)
      have f0 := hf.free (k * 2)
      go_wp2_with fail
      go_roundg (m - (k + 1))
      case measure => omega
      case rel =>
        refine ⟨k + 1, by omega, rfl, by go_num, (hf.set (j := k * 2) (by omega) (.int .i64 (-1))).congr fun j hj => ?_, by simpa using hz, hb.setCell (p := ⟨w.heap.size, k * 2, none⟩) (by simp) _⟩
        unfold upd it0
        by_cases e : j = k * 2
        · subst e; rw [if_pos rfl, if_pos (by omega), if_pos (by omega)]
        · rw [if_neg e]
          split
          · by_cases e2 : j / 2 < k
            · rw [if_pos e2, if_pos (by omega)]
            · rw [if_neg e2, if_neg (by omega)]
          · rfl
    · obtain rfl : k = m := by omega
      have ST0 := hid (na_begin (n := n) hf hz hb)
      have HB := hid hb
      have hg := hb.cell (p := ⟨Bc, 0, none⟩) hB
      rw [show w.cell? ⟨Bc, 0, none⟩ = some (.slice at_ n capt) from by rw [cell_of_row _ _ _ _ _ _ HBX.out]; rfl] at hg
      have hg2 : (wr.alloc (.cells (rowF n fun _ => .slice none 0 0) 54)).cell? ⟨Bc, 2, none⟩ = some (.slice a A.length cap) := (ST0.out.bel.cell (p := ⟨Bc, 2, none⟩) hB).trans (by rw [cell_of_row _ _ _ _ _ _ HBX.out]; rfl)
      clear hf hb
      go_wp2_with fail
      go_loopg [38] A.length (fun g i wr => ∃ (q : Nat) (v : Nat → Value), q ≤ A.length ∧ g = A.length - q ∧ i = .int .i64 (q : Int) ∧ NaSt w wr n k v (naF n (A.take q)))
      case atStart => exact ⟨0, _, Nat.zero_le _, rfl, rfl, ST0.out⟩
      case round =>
        obtain ⟨q, v, hq, rfl, rfl, hst⟩ := hrel
        have ST := hid hst
        clear hst
        by_cases hlt : q < A.length
        · have hki : (q : Int) < (A.length : Int) := by omega
          obtain ⟨b, off, rfl, hbl, c0', c1', c2', c3'⟩ := acc_at HS.out hlt hlt
          obtain ⟨c, hc⟩ : ∃ c, A[q] = c := ⟨_, rfl⟩
          have hsm := HM.out c (by rw [← hc]; exact List.getElem_mem _)
          rw [hc] at c0' c1' c2' c3'
          have c0 : wr.cell? ⟨b, off + q * 4, none⟩ = some (.int .i64 (c.x : Int)) := (ST.out.bel.cell (p := ⟨b, off + q * 4, none⟩) hbl).trans c0'
          have c1 : wr.cell? ⟨b, off + q * 4 + 1, none⟩ = some (.int .i64 (c.i : Int)) := (ST.out.bel.cell (p := ⟨b, off + q * 4 + 1, none⟩) hbl).trans c1'
          have c2 : wr.cell? ⟨b, off + q * 4 + 2, none⟩ = some (.int .i64 (c.p : Int)) := (ST.out.bel.cell (p := ⟨b, off + q * 4 + 2, none⟩) hbl).trans c2'
          have c3 : wr.cell? ⟨b, off + q * 4 + 3, none⟩ = some (.bool c.w) := (ST.out.bel.cell (p := ⟨b, off + q * 4 + 3, none⟩) hbl).trans c3'
          clear c0' c1' c2' c3'
          go_upto_region 12 with fail
          have NC := hid (show NaC w (wr.alloc (.cells #[.int .i64 (c.x : Int), .int .i64 (c.i : Int), .int .i64 (c.p : Int), .bool c.w] 100)) n k v (naF n (A.take q)) wr.heap.size c from ⟨ST.out.alloc _, heap_alloc_new _ _, ST.out.lt⟩)
          obtain ⟨wa, hwa⟩ : ∃ wa, wa = wr.alloc (.cells #[.int .i64 (c.x : Int), .int .i64 (c.i : Int), .int .i64 (c.p : Int), .bool c.w] 100) := ⟨_, rfl⟩
          rw [← hwa] at NC ⊢
          obtain ⟨B, hBB⟩ : ∃ B, B = wr.heap.size := ⟨_, rfl⟩
          rw [← hBB] at NC ⊢
          clear hwa hBB c0 c1 c2 c3 ST
          obtain ⟨s, hs⟩ : ∃ s, naF n (A.take q) = s := ⟨_, rfl⟩
          rw [hs] at NC
          obtain ⟨wt, hwt⟩ : ∃ wt, s.wt c.i = wt := ⟨_, rfl⟩
          have hfl := naF_len (n := n) (m := k) (A.take q) (fun a ha => (HM.out a (List.mem_of_mem_take ha)).1) (by simp; omega)
          rw [hs, List.length_take, Nat.min_eq_left (by omega)] at hfl
          obtain ⟨hlen, hok⟩ := hfl
          have hwl : -1 ≤ wt := by rw [← hwt]; exact hok.wl _
          have hwn : wt < n := by rw [← hwt]; exact hok.wt _
          have HLEN := hid hlen
          have HOK := hid hok
          clear hlen hok
          have e0 := NC.out.st.wt hsm.2
          rw [hwt] at e0
          have e1 := NC.out.cp.c0
          go_cut [59] (fun t wc => t = .bool (decide (0 ≤ wt ∧ wt ≠ (c.x : Int))) ∧ NaC w wc n k v s B c)
          case first =>
            by_cases hneg : 0 ≤ wt
            · by_cases hx : wt = (c.x : Int)
              · have hb1 : (wt != (c.x : Int)) = false := by simp [hx]
                go_quiet (fail)
                go_wp2
                go_meet
                exact ⟨by simp [hx], NC.out.drewN _⟩
              · have hb1 : (wt != (c.x : Int)) = true := by simp [hx]
                go_quiet (fail)
                go_wp2
                go_meet
                exact ⟨by simp [hx, hneg], NC.out.drewN _⟩
            · go_quiet (fail)
              go_wp2
              go_meet
              exact ⟨by rw [decide_eq_false (by omega)], NC.out.drewN _⟩
          case rest =>
            obtain ⟨rfl, hc1⟩ := hcut
            have N1 := hid hc1
            clear hc1 NC e0 e1
            go_upto_if 59 with fail
            go_cut [] (fun wc => ∃ v', NaC w wc n k v' (naArc s c) B c)
            case first =>
              have HA := hid (show naArc s c = if 0 ≤ wt ∧ wt ≠ (c.x : Int) then { s with X := updL s.X wt.toNat (s.X wt.toNat ++ [c.x]) } else s from by unfold naArc; rw [hwt])
              by_cases hif : 0 ≤ wt ∧ wt ≠ (c.x : Int)
              · have hd : decide (0 ≤ wt ∧ wt ≠ (c.x : Int)) = true := decide_eq_true hif
                obtain ⟨t, rfl⟩ : ∃ t : Nat, wt = (t : Int) := ⟨wt.toNat, by omega⟩
                have ht : t < n := by omega
                have e0 := N1.out.st.wt hsm.2
                rw [hwt] at e0
                have e1 := N1.out.cp.c0
                have e2 := N1.out.st.su ht
                go_upto_region 13 with fail
                have t0 : (0 : Int) ≤ (t : Int) := Int.natCast_nonneg _
                have t1 : (t : Int) < (n : Int) := by omega
                have hl1 : (s.X t).length ≤ 100000 := by have := HLEN.out.1 t ht; have : q * 300 ≤ 300 * 300 := Nat.mul_le_mul_right _ (by omega); omega
                have hz := N1.out.st.lt
                have a0 : ∀ o, (wc.alloc o).cell? ⟨w.heap.size, c.i * 2, none⟩ = some (.int .i64 (t : Int)) := fun o => by have := (N1.out.alloc o).st.wt hsm.2; rw [hwt] at this; exact this
                have a1 : ∀ o, (wc.alloc o).cell? ⟨B, 0, none⟩ = some (.int .i64 (c.x : Int)) := fun o => (N1.out.alloc o).cp.c0
                have a2 : ∀ o, (wc.alloc o).cell? ⟨w.heap.size + 1, t, none⟩ = some (v t) := fun o => (N1.out.alloc o).st.su ht
                go_region_law ((refine apD (by rfl) _ _ (by rfl) (w.heap.size + 2) (v t) (s.X t) (c.x : Int) wc.heap.size (wc.heap.size + 1) (by rfl) (by rfl) (((N1.out.alloc _).drew).st.fam.own t (by omega)) (heap_alloc_new wc _) hl1 (by simp; omega) (by simp) ?_; intro g1 cap1 w1 hown1 hgrow hat hlt1; obtain ⟨k1, k3, k0', k2, H9⟩ := ((N1.out.alloc _).drew).appS ht hown1 hgrow (by simpa using hat); have k0 := k0' c.i hsm.2; rw [hwt] at k0; clear hown1 hgrow hat k0'))
                all_goals (go_wp2; go_meet; exact ⟨_, by rw [HA.out, if_pos hif, Int.toNat_natCast]; exact H9.out⟩)
              · have hd : decide (0 ≤ wt ∧ wt ≠ (c.x : Int)) = false := decide_eq_false hif
                go_wp2_with fail
                go_meet
                exact ⟨v, by rw [HA.out, if_neg hif]; exact N1.out⟩
            case rest =>
              obtain ⟨v1, hc2⟩ := hcut
              have N2 := hid hc2
              have HF := hid (show ((naArc s c).X (n + c.i)) = s.X (n + c.i) from naArc_far (by rw [hwt]; exact hwn) c.i)
              have HST := hid (show naF n (A.take (q + 1)) = naStep n s c from by rw [List.take_succ_eq_append_getElem hlt, naF_snoc, hs, hc])
              have HOK1 := hid (naArc_ok (a := c) HOK.out hsm.1)
              have HLN1 := hid (show (∀ i, i < n → ((naArc s c).X i).length ≤ q * 300 + 1) ∧ ∀ j, ((naArc s c).X (n + j)).length ≤ q from ⟨fun i hi => Nat.le_trans (naArc_len i) (by have := HLEN.out.1 i hi; omega), fun j => by rw [naArc_far (by rw [hwt]; exact hwn)]; exact HLEN.out.2 j⟩)
              clear hc2 N1
              obtain ⟨s1, hs1⟩ : ∃ s1, naArc s c = s1 := ⟨_, rfl⟩
              rw [hs1] at N2 HF HOK1 HLN1
              obtain ⟨ar, capr, hvr, hlr, hA1, hA2⟩ := own_form (N2.out.st.fam.own (n + c.i) (by omega))
              have r0 := N2.out.st.rd hsm.2
              rw [hvr] at r0
              have r1 := N2.out.cp.c0
              have r3 := N2.out.cp.c3
              have hrl : (s1.X (n + c.i)).length ≤ q := HLN1.out.2 c.i
              obtain ⟨rd, hrd⟩ : ∃ rd, s1.X (n + c.i) = rd := ⟨_, rfl⟩
              rw [hrd] at r0 hvr hrl hlr
              cases hcw : c.w with
              | false =>
                rw [hcw] at r3
                have HSN := hid (show naStep n s c = naRead n s1 c from by unfold naStep; rw [hcw, hs1]; rfl)
                go_upto_region 16 with fail
                go_cut [9, 99] (fun _ t wx => t = .bool (decide (rd.getLast? ≠ some c.x)) ∧ NaC w wx n k v1 s1 B c)
                case first =>
                  rcases List.eq_nil_or_concat rd with hnil | ⟨rd', y, hcat⟩
                  · subst hnil
                    go_quiet (fail)
                    go_wp2
                    go_meet
                    exact ⟨by simp, N2.out.drewN _⟩
                  · rw [List.concat_eq_append] at hcat
                    obtain ⟨L, hL⟩ : ∃ L, L = rd'.length := ⟨_, rfl⟩
                    have hrl1 : rd.length = L + 1 := by rw [hcat, hL]; simp
                    have ho := N2.out.st.fam.own (n + c.i) (by omega)
                    rw [hrd] at ho
                    obtain ⟨g, cap1, hv1, hg1, hg2, hg3, hc1⟩ := ownI_cell ho (i := L) (by omega)
                    rw [hvr] at hv1
                    simp only [Value.slice.injEq] at hv1
                    obtain ⟨rfl, _, rfl⟩ := hv1
                    have hy : rd[L]'(by omega) = y := by simp [hcat, hL]
                    rw [hy] at hc1
                    have hlast : rd.getLast? = some y := by rw [hcat]; simp
                    rw [hrl1] at r0 hrl ⊢
                    have HLA := hid hlast
                    have HR1 := hid hrl1
                    have HVR := hid hvr
                    clear hcat hL hy hlast hrl1 hvr ho hA1 hA2 hlr hg3
                    have hLn : (L : Int) + 1 ≤ 300 := by omega
                    have hb0 : (((L + 1 : Nat) : Int) == 0) = false := by simp; omega
                    have hb9 : ((L : Int) + 1 == 0) = false := by simp; omega
                    by_cases hyx : y = c.x
                    · have hb1 : ((y : Int) != (c.x : Int)) = false := by simp [hyx]
                      go_quiet (fail)
                      go_wp2
                      go_meet
                      exact ⟨by rw [HLA.out]; simp [hyx], N2.out.drewN _⟩
                    · have hb1 : ((y : Int) != (c.x : Int)) = true := by simp; omega
                      go_quiet (fail)
                      go_wp2
                      go_meet
                      exact ⟨by rw [HLA.out]; simp [hyx], N2.out.drewN _⟩
                case rest =>
                  obtain ⟨rfl, hc3⟩ := hcut
                  have N3 := hid hc3
                  clear hc3 N2 r0 r1 r3
                  by_cases hif : rd.getLast? ≠ some c.x
                  · have hd : decide (rd.getLast? ≠ some c.x) = true := decide_eq_true hif
                    have N3l := N3.out.st.lt
                    have r0 := N3.out.st.rd hsm.2
                    have r1 := N3.out.cp.c0
                    have a1 : ∀ o, (wc.alloc o).cell? ⟨B, 0, none⟩ = some (.int .i64 (c.x : Int)) := fun o => (N3.out.alloc o).cp.c0
                    have a2 : ∀ o, (wc.alloc o).cell? ⟨w.heap.size, c.i * 2 + 1, none⟩ = some (v1 (n + c.i)) := fun o => (N3.out.alloc o).st.rd hsm.2
                    have HRD := hid hrd
                    have hl1 : (s1.X (n + c.i)).length ≤ 100000 := by rw [hrd]; omega
                    clear hvr hrd
                    go_upto_region 17 with fail
                    go_region_law ((refine apD (by rfl) _ _ (by rfl) (w.heap.size + 2) (v1 (n + c.i)) (s1.X (n + c.i)) (c.x : Int) wc.heap.size (wc.heap.size + 1) (by rfl) (by rfl) (((N3.out.alloc _).drew).st.fam.own (n + c.i) (by omega)) (heap_alloc_new wc _) hl1 (by simp; omega) (by simp) ?_; intro g1 cap1 w1 hown1 hgrow hat hlt1; obtain ⟨k1, k3, k2, H9⟩ := ((N3.out.alloc _).drew).appR hsm.2 hown1 hgrow (by simpa using hat); clear hown1 hgrow hat))
                    all_goals go_wp2_with fail
                    all_goals go_roundg (A.length - (q + 1))
                    all_goals first
                      | (show _ < _; omega)
                      | (have HX := H9.out.st
                         have e : naF n (A.take (q + 1)) = ⟨s1.wt, updL s1.X (n + c.i) (s1.X (n + c.i) ++ [c.x])⟩ := by rw [HST.out, HSN.out]; unfold naRead; rw [HRD.out, if_neg hif]
                         rw [← e] at HX
                         exact ⟨q + 1, _, by omega, rfl, by go_num, HX⟩)
                  · have hd : decide (rd.getLast? ≠ some c.x) = false := decide_eq_false hif
                    go_wp2_with fail
                    go_roundg (A.length - (q + 1))
                    case measure => omega
                    case rel =>
                      refine ⟨q + 1, v1, by omega, rfl, by go_num, ?_⟩
                      rw [HST.out, HSN.out]
                      unfold naRead
                      rw [hrd, if_pos (by simpa using hif)]
                      exact N3.out.st
              | true =>
                rw [hcw] at r3
                have HSN := hid (show naStep n s c = naWrite n s1 c from by unfold naStep; rw [hcw, hs1]; rfl)
                have hrl2 : (rd.length : Int) ≤ 300 := by omega
                go_wp2_with fail
                go_loopg [116] rd.length (fun g i wi => ∃ (r : Nat) (v' : Nat → Value), r ≤ rd.length ∧ g = rd.length - r ∧ i = .int .i64 (r : Int) ∧ v' (n + c.i) = .slice ar rd.length capr ∧ NaC w wi n k v' ⟨s1.wt, (rd.take r).foldl (naOne c.x) s1.X⟩ B c)
                case atStart => exact ⟨0, v1, Nat.zero_le _, rfl, rfl, hvr, N2.out⟩
                case round =>
                  obtain ⟨r, v', hr, rfl, rfl, hv', hst⟩ := hrel
                  have N3 := hid hst
                  clear hst
                  have HR := hid (show ∀ r ∈ rd, r < n from fun r hr => HOK1.out.X _ r (by rw [hrd]; exact hr))
                  have HFar := hid (show (rd.take r).foldl (naOne c.x) s1.X (n + c.i) = rd from by rw [naFold_far _ _ (fun x hx => HR.out x (List.mem_of_mem_take hx)), hrd])
                  by_cases hrlt : r < rd.length
                  · have ho := N3.out.st.fam.own (n + c.i) (by omega)
                    dsimp only at ho
                    rw [HFar.out] at ho
                    obtain ⟨g, cap1, hv1, hg1, hg2, hg3, hc1⟩ := ownI_cell ho hrlt
                    rw [hv'] at hv1
                    simp only [Value.slice.injEq] at hv1
                    obtain ⟨rfl, _, rfl⟩ := hv1
                    obtain ⟨t, ht0⟩ : ∃ t, rd[r] = t := ⟨_, rfl⟩
                    have ht : t < n := by rw [← ht0]; exact HR.out _ (List.getElem_mem _)
                    rw [ht0] at hc1
                    have r1 := N3.out.cp.c0
                    have hri : (r : Int) < (rd.length : Int) := by omega
                    have HT := hid (show (rd.take (r + 1)).foldl (naOne c.x) s1.X = naOne c.x ((rd.take r).foldl (naOne c.x) s1.X) t from by rw [List.take_succ_eq_append_getElem hrlt, List.foldl_append, ht0]; rfl)
                    have HV := hid hv'
                    clear ho ht0 hv' hvr r0 r3 N2
                    by_cases hrx : t = c.x
                    · have hb1 : ((t : Int) != (c.x : Int)) = false := by simp [hrx]
                      go_wp2_with fail
                      go_roundg (rd.length - (r + 1))
                      case measure => omega
                      case rel =>
                        refine ⟨r + 1, v', by omega, rfl, by go_num, HV.out, ?_⟩
                        rw [HT.out]; unfold naOne; rw [if_pos hrx]; exact N3.out
                    · have hb1 : ((t : Int) != (c.x : Int)) = true := by simp; omega
                      obtain ⟨Y, hY⟩ : ∃ Y, (rd.take r).foldl (naOne c.x) s1.X = Y := ⟨_, rfl⟩
                      have hl1 : (Y t).length ≤ 100000 := by
                        have h1 := naFold_len (x := c.x) (rd.take r) s1.X t
                        have h2 := HLN1.out.1 t ht
                        have h3 : q * 300 ≤ 299 * 300 := Nat.mul_le_mul_right _ (by omega)
                        have h4 : (rd.take r).length ≤ r := by simp; omega
                        rw [hY] at h1
                        omega
                      rw [hY] at N3 HT
                      clear hY HFar
                      have N3l := N3.out.st.lt
                      have e2 := N3.out.st.su ht
                      have a1 : ∀ o, (wr.alloc o).cell? ⟨B, 0, none⟩ = some (.int .i64 (c.x : Int)) := fun o => (N3.out.alloc o).cp.c0
                      have a2 : ∀ o, (wr.alloc o).cell? ⟨w.heap.size + 1, t, none⟩ = some (v' t) := fun o => (N3.out.alloc o).st.su ht
                      have t0 : (0 : Int) ≤ (t : Int) := Int.natCast_nonneg _
                      have t1 : (t : Int) < (n : Int) := by omega
                      go_upto_region 22 with fail
                      go_region_law ((refine apD (by rfl) _ _ (by rfl) (w.heap.size + 2) (v' t) (Y t) (c.x : Int) wr.heap.size (wr.heap.size + 1) (by rfl) (by rfl) (((N3.out.alloc _).drew).st.fam.own t (by omega)) (heap_alloc_new wr _) hl1 (by simp; omega) (by simp) ?_; intro g1 cap1 w1 hown1 hgrow hat hlt1; obtain ⟨k1, k3, k0', k2, H9⟩ := ((N3.out.alloc _).drew).appS ht hown1 hgrow (by simpa using hat); clear hown1 hgrow hat k0'))
                      all_goals go_wp2_with fail
                      all_goals go_roundg (rd.length - (r + 1))
                      all_goals first
                        | (show _ < _; omega)
                        | (have HX := H9.out
                           have e : naOne c.x Y t = updL Y t (Y t ++ [c.x]) := by unfold naOne; rw [if_neg hrx]
                           rw [← e, ← HT.out] at HX
                           exact ⟨r + 1, updL v' t (.slice (some ⟨g1, 0, none⟩) ((Y t).length + 1) cap1), by omega, rfl, by go_num, (updL_other v' (show n + c.i ≠ t by omega) _).trans HV.out, HX⟩)
                  · obtain rfl : r = rd.length := by omega
                    rw [List.take_length] at N3 HFar
                    obtain ⟨Y, hY⟩ : ∃ Y, rd.foldl (naOne c.x) s1.X = Y := ⟨_, rfl⟩
                    rw [hY] at N3 HFar
                    have N3l := N3.out.st.lt
                    have e0 := N3.out.st.wt hsm.2
                    have f0 := N3.out.st.it.free (c.i * 2)
                    have e1 := N3.out.st.rd hsm.2
                    have f1 := N3.out.st.it.free (c.i * 2 + 1)
                    have e2 := N3.out.cp.c0
                    rw [hv'] at e1
                    have HV := hid hv'
                    clear hv' hvr r0 r3 N2
                    have hcap0 : (0 : Int) ≤ (capr : Int) := by omega
                    have H9 := hid (N3.out.wrote hsm.2 (a := ar) (cap := capr) (by dsimp only; rw [HV.out, HFar.out]) c.x)
                    go_upto_region 24 with fail
                    have hne : c.i * 2 ≠ c.i * 2 + 1 := by omega
                    go_region_law (fail)
                    all_goals go_wp2_with fail
                    all_goals go_roundg (A.length - (q + 1))
                    all_goals first
                      | (show _ < _; omega)
                      | (have HX := H9.out.drew.st
                         have e : naF n (A.take (q + 1)) = ⟨updL s1.wt c.i (c.x : Int), updL Y (n + c.i) []⟩ := by rw [HST.out, HSN.out]; unfold naWrite; rw [hrd, hY]
                         rw [← e] at HX
                         exact ⟨q + 1, _, by omega, rfl, by go_num, HX⟩)
        · obtain rfl : q = A.length := by omega
          rw [List.take_length] at ST
          go_wp2_with fail
          go_ret
          exact ⟨v, rfl, ST.out.sc, ST.out.fam, ST.out.bel⟩

end Go.Proofs.YbulkbgasDoor
