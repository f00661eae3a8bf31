import Derived.Test.YbulkbgasDoorSc2
import Derived.Test.YbulkbgasDoorTa8
import Derived.Test.YbulkbgasDoorSo4
namespace Go.Proofs.YbulkbgasDoor
open Go.RowKit Go.Maps
set_option linter.unusedVariables false
attribute [local go_sem ↓] Go.wp_at_zero Go.wp_at_succ

theorem sli_of_fix {W : World} {g n : Nat} {l : List Int} (h : Fix W g 32 n fun j => .int .i64 (l.getD j 0)) (hl : l.length = n) : SlI W (.slice (some ⟨g, 0, none⟩) n n) l := by
  subst hl
  refine ⟨_, _, rfl, Nat.le_refl _, fun i hi => ⟨g, 0, rfl, h.lt, fun j v hv => ?_⟩⟩
  have hj : j = 0 := by
    have := (List.getElem?_eq_some_iff.1 hv).1
    simp at this; omega
  subst hj
  simp only [List.getElem?_cons_zero, Option.some.injEq] at hv
  rw [← hv]
  have := h.cell hi
  rw [show 0 + i * 1 + 0 = i by omega]
  exact this
theorem below_gr {w w' : World} (h : Below w.heap.size w w') : w.grownBy w' none := ⟨h.os, h.tape, h.output, h.size, fun k hk _ => h.block k hk⟩

set_option maxRecDepth 1000000 in
set_option maxHeartbeats 2000000 in
theorem lowest_any (w0 w1 : World) (n m Bc capt Bn : Nat) (at_ : Option Addr) (va vt : Value) (tx : List Int) (Xn : Nat → List Nat) (b : Nat → Nat) (A : List Acc) (v : Nat → Value) (T : Nat) (hA : A.length ≤ 300) (hn : n ≤ 300) (hm : m ≤ 1000) (hbx : w0.heap[Bc]? = some (.cells #[.slice at_ n capt, .int .i64 (m : Int), va] 63 (0, 0))) (hs : SlX w0 va A) (hsmA : ∀ a ∈ A, a.x < n ∧ a.i < m)
    (hC : CwS w0 w1 n m A.length Bc b (fun _ => false) (iaF A A.length) (nwF A A.length) (fun _ => 0) (fun _ => 0) v (cwX n m A m m)) (hV : WkV A n m v) (htop : ∀ r, r < cwN n m → ∀ g, (v r).ownBlock = some g → g < T) (hT : T ≤ w1.heap.size) (hTb : w0.heap.size + 11 ≤ T)
    (hvt : SlI w0 vt tx) (htl : tx.length = n) (hN : Near w1 Bn n Xn) (hX : ∀ i, i < n → i ∉ Xn i) (hXn : ∀ i, i < n → ∀ j ∈ Xn i, j < n) (hfin : ¬ ∃ fin, FinOk Xn fin ∧ ∀ v, v < n → v ∈ fin) (hcy : ∀ v, v < n → (∃ u, u ≠ v ∧ Rch Xn v u ∧ Rch Xn u v) → ∃ x, Succ A v x ∧ Star (Succ A) x v) :
    Calls Ybad.prog 27 #[vt, .slice (some ⟨Bn, 0, none⟩) n n, .func (.func 29) #[.pointer (some ⟨w0.heap.size + 10, 0, none⟩)] #[]] w1 fun e w' => ∃ g R, e = .returned (.slice (some ⟨g, 0, none⟩) R.length R.length) ∧ SlI w' (.slice (some ⟨g, 0, none⟩) R.length R.length) (R.map fun i => tx.getD i 0) ∧ CycI A n R ∧ Below w0.heap.size w0 w' := by
  obtain ⟨at2, capt2, rfl, hcap2, hel2⟩ := hvt
  have HT := hid hel2
  have HBX := hid hbx
  have HSX := hid hs
  have HM := hid hsmA
  have HC := hid hC
  have HV := hid hV
  have HTOP := hid htop
  have HFIN := hid hfin
  have HCY := hid hcy
  have HOC := hid (onCycles_any w1 Bn n Xn (by omega) hN hX hXn)
  rw [htl]
  have HTL := hid htl
  clear hel2 hbx hs hsmA hC hV htop hfin hcy hN hX hXn htl hcap2
  go_enter Ybad.func27, Ybad.ntmps27
  go_upto_region 2 with (first
    | (go_at_call 43; refine Calls.mono HOC.out ?_; rintro e w2 ⟨on, rfl, hfx, hon, hor, hbe⟩; have HFX := hid hfx; have HON := hid hon; have HOR := hid hor; have HBE := hid hbe; have HIX := hid (index_any w2 w1.heap.size n on (by omega) hfx); clear hfx hon hor hbe; dsimp only)
    | (go_at_call 42; refine Calls.mono HIX.out ?_; rintro e w3 ⟨rfl, hcase⟩; rcases hcase with ⟨start, hst, hos, rfl⟩ | ⟨hall, rfl⟩))
  · have HS := hid hst
    have HSC := hid (HCY.out start hst (HON.out start hos).2)
    have hst0 : ¬ ((start : Int) < 0) := by omega
    have hz2 := HBE.out.size
    have HC2 := hid (show CwS w0 w3 n m A.length Bc b (fun _ => false) (iaF A A.length) (nwF A A.length) (fun _ => 0) (fun _ => 0) v (cwX n m A m m) from HC.out.g.grownNew (below_gr HBE.out))
    have HSH := hid (short_any w0 w3 n m Bc capt at_ va b A v T start hA hn hm HBX.out HSX.out HM.out hst HSC.out HC2.out HV.out HTOP.out (by omega) hTb)
    clear hos
    go_upto_region 5 with (go_at_call 44; refine Calls.mono HSH.out ?_; rintro e w4 ⟨vR, R, rfl, hoR, hcR, hbR⟩; have HOR2 := hid hoR; have HCR := hid hcR; have HBR := hid hbR; clear hoR hcR hbR; dsimp only)
    have h2 := HCR.out.two
    have hfew := HCR.out.few
    obtain ⟨gR, capR, rfl, hgR1, hgR2, hcR, -⟩ := ownI_cell HOR2.out (i := 0) (by omega)
    obtain ⟨l, hl⟩ : ∃ l, R.length = l := ⟨_, rfl⟩
    have HL := hid hl
    rw [hl] at h2 hfew hcR ⊢
    clear hl
    have hmk := fun (W : World) => mkRow1 Ybad.E47 rfl l (by omega) W
    have F0 := hid (show Fix (w4.alloc (.cells (rowF l (fun _ => .int .i64 0)) 32)) w4.heap.size 32 l (fun j => .int .i64 (if j < 0 then tx.getD (R.getD j 0) 0 else 0)) from by
      have : Fix (w4.alloc (.cells (rowF l (fun _ => .int .i64 0)) 32)) w4.heap.size 32 l (fun _ => .int .i64 0) := heap_alloc_new _ _
      exact this.congr fun j _ => by rw [if_neg (by omega)])
    have B0 := hid (show Below w4.heap.size w4 (w4.alloc (.cells (rowF l (fun _ => .int .i64 0)) 32)) from (Below.refl _ _).alloc (Nat.le_refl _) _)
    obtain ⟨w5, hw5⟩ : ∃ w5, w5 = w4.alloc (.cells (rowF l (fun _ => .int .i64 0)) 32) := ⟨_, rfl⟩
    rw [← hw5] at F0 B0
    go_upto_region 7 with fail
    rw [← hw5]
    clear hw5 hmk
    go_wp2_with fail
    go_loopg [25] l (fun g0 iv wi => ∃ k : Nat, k ≤ l ∧ g0 = l - k ∧ iv = .int .i64 (k : Int) ∧ Fix wi w4.heap.size 32 l (fun j => .int .i64 (if j < k then tx.getD (R.getD j 0) 0 else 0)) ∧ Below w4.heap.size w4 wi)
    case atStart => exact ⟨0, Nat.zero_le _, rfl, rfl, F0.out, B0.out⟩
    case round =>
      obtain ⟨k, hk, rfl, rfl, hfx, hbe⟩ := hrel
      have FX := hid hfx
      have BE := hid hbe
      clear hfx hbe F0 B0
      by_cases hlt : k < l
      · have hki : (k : Int) < (l : Int) := by omega
        have hk0 : (0 : Int) ≤ (k : Int) := by omega
        have hkR : k < R.length := by rw [HL.out]; exact hlt
        obtain ⟨g', cap', e1, -, -, -, c0⟩ := ownI_cell HOR2.out hkR
        simp only [Value.slice.injEq, Option.some.injEq, Addr.mk.injEq, and_true, true_and] at e1
        obtain ⟨rfl, -⟩ := e1
        obtain ⟨x, hx⟩ : ∃ x, R[k] = x := ⟨_, rfl⟩
        rw [hx] at c0
        have hxn : x < n := by rw [← hx]; exact HCR.out.lt _ (List.getElem_mem _)
        have HX := hid (show R.getD k 0 = x from by rw [List.getD_eq_getElem?_getD, List.getElem?_eq_getElem hkR, Option.getD_some, hx])
        have c1 : wr.cell? ⟨gR, k, none⟩ = some (.int .i64 (x : Int)) := (BE.out.cell (p := ⟨gR, k, none⟩) hgR2).trans c0
        have hxi : (x : Int) < (n : Int) := by omega
        have hx0 : (0 : Int) ≤ (x : Int) := by omega
        obtain ⟨bt, ot, rfl, hbt, c2⟩ := int_at HT.out (k := x) (by rw [HTL.out]; exact hxn) (by rw [HTL.out]; exact hxn)
        have HTX := hid (show tx.getD x 0 = tx[x]'(by rw [HTL.out]; exact hxn) from by simp [List.getD_eq_getElem?_getD, HTL.out, hxn])
        have c3 : wr.cell? ⟨bt, ot + x, none⟩ = some (.int .i64 (tx.getD x 0)) := by
          rw [HTX.out]
          exact (BE.out.cell (p := ⟨bt, ot + x, none⟩) (by have := HBR.out.size; show bt < w4.heap.size; omega)).trans ((HBR.out.cell (p := ⟨bt, ot + x, none⟩) hbt).trans c2)
        obtain ⟨tv, htv⟩ : ∃ tv, tx.getD x 0 = tv := ⟨_, rfl⟩
        rw [htv] at c3
        have HTV := hid htv
        have f0 := FX.out.free k
        have f1 := FX.out.cell hlt
        have HK2 := hid hkR
        clear hx c0 c2 htv HTX hkR
        go_wp2_with fail
        go_roundg (l - (k + 1))
        case measure => omega
        case rel =>
          refine ⟨k + 1, by omega, rfl, by go_num, (FX.out.set hlt (.int .i64 tv)).congr fun j hj => ?_, BE.out.setCell (p := ⟨w4.heap.size, k, none⟩) (by simp) _⟩
          unfold upd
          by_cases e : j = k
          · subst e; rw [if_pos rfl, if_pos (by omega), HX.out, HTV.out]
          · rw [if_neg e]
            dsimp only
            by_cases e2 : j < k
            · rw [if_pos e2, if_pos (by omega)]
            · rw [if_neg e2, if_neg (by omega)]
      · obtain rfl : k = l := by omega
        go_wp2_with fail
        go_ret
        have hb := HBR.out.trans (BE.out.mono (by have := HBR.out.size; omega))
        refine ⟨w4.heap.size, R, by rw [HL.out]; rfl, ?_, HCR.out, hb⟩
        rw [HL.out]
        refine sli_of_fix (FX.out.congr fun j hj => ?_) (by rw [List.length_map, HL.out])
        rw [if_pos hj]
        congr 1
        have hjR : j < R.length := by rw [HL.out]; exact hj
        rw [List.getD_eq_getElem?_getD (l := List.map _ R), List.getElem?_map, List.getElem?_eq_getElem hjR, Option.map_some, Option.getD_some, List.getD_eq_getElem?_getD (l := R), List.getElem?_eq_getElem hjR, Option.getD_some]
  · exact absurd (HOR.out.resolve_left fun ⟨v, hv⟩ => by have := hall v (HON.out v hv).1; rw [hv] at this; cases this) HFIN.out

end Go.Proofs.YbulkbgasDoor
