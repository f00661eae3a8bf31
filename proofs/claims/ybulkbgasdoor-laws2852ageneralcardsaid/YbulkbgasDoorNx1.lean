import Derived.Test.YbulkbgasDoorTk3
import Derived.Test.YbulkbgasDoorSort
namespace Go.Proofs
open Go.Shelf Go.RowKit
shelf_lay_g SlLaysM.n5 Slgm 5 at Ybad 49 as Ybad.sortI
end Go.Proofs

namespace Go.Proofs.YbulkbgasDoor
open Go.RowKit Go.Sort Go.Shelf
set_option linter.unusedVariables false

theorem sortI_none (p : Option Addr) (cap : Nat) (w : World) : Calls Ybad.prog 49 #[.slice p 0 cap] w fun e w' => e = .returned (.tuple #[]) ∧ w' = w :=
  AnyM.slices_Sort_int_none Ybad.sortI p cap w

theorem sortI_any (w : World) (g cap : Nat) (zs : List Int) (hH : ∀ j (hj : j < zs.length), w.cell? ⟨g, j, none⟩ = some (.int .i64 zs[j]) ∧ w.frozen? ⟨g, j, none⟩ = false) (hg : g < w.heap.size) (hn : zs.length ≤ 1000) :
    Calls Ybad.prog 49 #[.slice (some ⟨g, 0, none⟩) zs.length cap] w fun e w' => e = .returned (.tuple #[]) ∧ (∀ j (hj : j < (srt zs).length), w'.cell? ⟨g, j, none⟩ = some (.int .i64 (srt zs)[j])) ∧ w.grownBy w' (some g) := by
  have hHo : Holds (Value.int .i64) w g 0 zs.toArray := fun j hj => by
    have hj' : j < zs.length := by simpa using hj
    have := hH j hj'
    rw [Nat.zero_add]
    simpa [getElem!_pos, hj'] using this
  refine Calls.mono (AnyM.slices_Sort_int Ybad.sortI g 0 cap zs w hHo hg (by omega)) ?_
  rintro e w' ⟨rfl, n, os, rfl⟩
  have hsz : (srt zs).toArray.size = zs.toArray.size := by simp [srt_length]
  have hH2 : Holds (Value.int .i64) (putRow (Value.int .i64) (Sort.ahead w n) g 0 (srt zs).toArray) g 0 (srt zs).toArray := holds_putRow (Value.int .i64) (Sort.ahead w n) g 0 zs.toArray _ hHo hsz
  have hH3 := holds_grow (Value.int .i64) _ os g 0 _ (by simpa using hg) hH2
  refine ⟨rfl, fun j hj => ?_, ⟨rfl, rfl, rfl, by simp [Sort.ahead], fun k hk hne => ?_⟩⟩
  · have := (hH3 j (by simpa using hj)).1
    rw [Nat.zero_add] at this
    have e : (srt zs).toArray[j]! = (srt zs)[j] := by simp [getElem!_pos, hj]
    rw [e] at this
    exact this
  · have hk' : k < (putRow (Value.int .i64) (Sort.ahead w n) g 0 (srt zs).toArray).heap.size := by simpa using hk
    show (grow (putRow (Value.int .i64) (Sort.ahead w n) g 0 (srt zs).toArray) os).heap[k]? = _
    rw [heap_grow_old _ _ hk']
    have hkg : ¬ g = k := fun e => hne (by rw [e])
    show ((Sort.ahead w n).heap.modify g _)[k]? = _
    rw [Array.getElem?_modify, if_neg hkg]
    rfl

/-- A slice of numbers that can be read, its block not below base. -/
def RdI (W : World) (base : Nat) (v : Value) (l : List Nat) : Prop := ∃ a cap, v = .slice a l.length cap ∧ l.length ≤ cap ∧ ∀ i (hi : i < l.length), ∃ g, a = some ⟨g, 0, none⟩ ∧ base ≤ g ∧ g < W.heap.size ∧ W.cell? ⟨g, i, none⟩ = some (.int .i64 (l[i] : Int))
theorem RdI.grown {W W' : World} {base : Nat} {v : Value} {l : List Nat} (h : RdI W base v l) {row : Option Nat} (hg : W.grownBy W' row) (hne : ∀ g, v.ownBlock = some g → row ≠ some g) : RdI W' base v l := by
  obtain ⟨a, cap, h1, h2, h3⟩ := h
  refine ⟨a, cap, h1, h2, fun i hi => ?_⟩
  obtain ⟨g, e1, e2, e3, e4⟩ := h3 i hi
  refine ⟨g, e1, e2, Nat.lt_of_lt_of_le e3 hg.size, ?_⟩
  have hb := hg.block g e3 (fun e => hne g (by rw [h1, e1]; rfl) e.symm)
  rw [← e4]
  unfold World.cell?
  simp only [hb]
theorem perm_nat (F : List Nat) : ∃ F' : List Nat, F'.Perm F ∧ F'.length = F.length ∧ ∃ e : (srt (F.map fun x : Nat => (x : Int))).length = F'.length, ∀ j (hj : j < F'.length), (srt (F.map fun x : Nat => (x : Int)))[j] = (F'[j] : Int) := by
  have hp : (srt (F.map fun x : Nat => (x : Int))).Perm (F.map fun x : Nat => (x : Int)) := List.mergeSort_perm _ _
  refine ⟨(srt (F.map fun x : Nat => (x : Int))).map Int.toNat, ?_, by rw [List.length_map, srt_length, List.length_map], by rw [List.length_map], fun j hj => ?_⟩
  · have := hp.map Int.toNat
    rw [List.map_map] at this
    have e : (F.map (Int.toNat ∘ fun x : Nat => (x : Int))) = F := by
      conv => rhs; rw [← List.map_id F]
      exact List.map_congr_left fun x _ => by simp
    rw [e] at this
    exact this
  · rw [List.getElem_map]
    have hj' : j < (srt (F.map fun x : Nat => (x : Int))).length := by simpa using hj
    have hm := hp.mem_iff.1 (List.getElem_mem hj')
    obtain ⟨x, _, hx⟩ := List.mem_map.1 hm
    omega

theorem sortN_any (w : World) (base : Nat) (vf : Value) (F : List Nat) (ho : w.ownsRow base 3 1 vf F.length (rowI F)) (hn : F.length ≤ 1000) :
    Calls Ybad.prog 49 #[vf] w fun e w' => e = .returned (.tuple #[]) ∧ ∃ F', F'.Perm F ∧ RdI w' base vf F' ∧ w.grownBy w' vf.ownBlock := by
  by_cases h0 : F.length = 0
  · obtain ⟨a, cap, h1, h2, _, _⟩ := own_form ho
    rw [h0] at h1
    subst h1
    refine Calls.mono (sortI_none a cap w) ?_
    rintro e w' ⟨rfl, rfl⟩
    have hF : F = [] := List.length_eq_zero_iff.1 h0
    subst hF
    exact ⟨rfl, [], List.Perm.refl _, ⟨a, cap, rfl, Nat.zero_le _, fun i hi => by simp at hi⟩, gr_refl _ _⟩
  · obtain ⟨g, cap, hv, hb, hg, hc, _⟩ := ownI_cell ho (i := 0) (by omega)
    subst hv
    have hl : F.length = (F.map fun x : Nat => (x : Int)).length := by rw [List.length_map]
    rw [hl]
    have hh := fun j (hj : j < F.length) => own_cell ho (j := j) (by rw [rowI_length]; exact hj)
    refine Calls.mono (sortI_any w g cap (F.map fun x : Nat => (x : Int)) (fun j hj => ⟨?_, (hh j (by simpa using hj)).2⟩) hg (by rw [List.length_map]; exact hn)) ?_
    · rw [(hh j (by simpa using hj)).1, rowI_get (by simpa using hj)]; simp
    · rintro e w' ⟨rfl, h1, h2⟩
      obtain ⟨F', p1, p2, p3, p4⟩ := perm_nat F
      refine ⟨rfl, F', p1, ⟨_, cap, by rw [List.length_map, p2], by omega, fun i hi => ⟨g, rfl, hb, Nat.lt_of_lt_of_le hg h2.size, ?_⟩⟩, h2⟩
      rw [h1 i (by omega), p4 i hi]

/-! ### The walk's memory as 'next' begins and ends -/
section
variable {w0 w1 wr w' : World} {n m L Bc : Nat} {b : Nat → Nat} {met : Nat → Bool} {ia nw rd wn : Nat → Nat} {v : Nat → Value} {X : Nat → List Nat} {T u : Nat} {vf : Value} {F : List Nat}
theorem TkM.begin (hC : CwS w0 w1 n m L Bc b met ia nw rd wn v X) (htop : ∀ r, r < cwN n m → ∀ g, (v r).ownBlock = some g → g < T) (hT : T ≤ w1.heap.size) (hTb : w0.heap.size + 11 ≤ T) :
    TkM w0 w1 (((w1.alloc (.cells #[.pointer (some ⟨w0.heap.size + 10, 0, none⟩)] 75)).alloc (.cells #[.int .i64 (u : Int)] 3)).alloc (.cells #[.slice none 0 0] 54)) n m L Bc b met ia nw rd wn v X T u (.slice none 0 0) [] :=
  ⟨((hC.g.alloc _).alloc _).alloc _, (Below.heap_alloc _ _ _ (by simp; omega)).trans ((Below.heap_alloc _ _ _ (by simp)).trans (heap_alloc_new _ _)), (Below.heap_alloc _ _ _ (by simp)).trans (alloc_at (by simp)), alloc_at (by simp), World.ownsRow_nil _ _ _ _, htop, hT, hTb, fun g h1 h2 => (Below.heap_alloc _ _ _ (by simp; omega)).trans ((Below.heap_alloc _ _ _ (by simp; omega)).trans (Below.heap_alloc _ _ _ h2))⟩
theorem TkM.sorted (h : TkM w0 w1 wr n m L Bc b met ia nw rd wn v X T u vf F) (hg : wr.grownBy w' vf.ownBlock) :
    w'.cell? ⟨w1.heap.size + 2, 0, none⟩ = some vf ∧ Hid (CwS w0 w' n m L Bc b met ia nw rd wn v X) ∧ Hid (∀ g, T ≤ g → g < w1.heap.size → w'.heap[g]? = w1.heap[g]?) := by
  have hl := h.lt
  have ht := h.tw
  have htb := h.tb
  have hne : ∀ g, g < w1.heap.size + 3 → some g ≠ vf.ownBlock := fun g hg e => by have := own_ge h.fr e.symm; omega
  have bf1 := (hg.block _ (by omega) (hne (w1.heap.size + 2) (by omega))).trans h.bf
  refine ⟨by rw [cell_of_row _ _ _ _ _ _ bf1]; rfl, hid ?_, hid fun g hg1 hg2 => (hg.block _ (by omega) (hne _ (by omega))).trans (h.kp g hg1 hg2)⟩
  refine ⟨h.cw.inj, h.cw.rng, (hg.block _ (by omega) (hne _ (by omega))).trans h.cw.box, fun k hk => (h.cw.fx k hk).grown hg (hne _ (by have := (h.cw.rng k hk).2; omega)), h.cw.fam.keptOut hg (fun r hr g e e2 => ?_), h.cw.bel.grown hg (by omega) (fun g e => ?_)⟩
  · have := h.top r hr g e; exact hne g (by omega) e2.symm
  · have := own_ge h.fr e; omega
theorem CwC.kp {w2 w3 : World} {B q : Nat} {c : Acc} {vf' : Value} (h : CwC w0 w2 B c) (hk : Kp T q w2 vf w3 vf') (h1 : T ≤ B) (h2 : B ≠ q) (h3 : vf.ownBlock ≠ some B) : CwC w0 w3 B c :=
  ⟨(hk.2 B h1 h.lt h2 h3).1.trans h.cp, h.ge⟩
end

/-! ### What 'next' does, on -/
def WkV (A : List Acc) (n m : Nat) (v : Nat → Value) : Prop := ∀ i, i < m → (∃ g, v (m + m + n + i) = .slice (some ⟨g, 0, none⟩) ((rowAc A i).length + 1) ((rowAc A i).length + 1)) ∧ ∃ g, v (m + m + n + (m + i)) = .slice (some ⟨g, 0, none⟩) ((rowWr A i).length + 1) ((rowWr A i).length + 1)
section
variable {A : List Acc} {n m : Nat} {met met' met0 : Nat → Bool} {rd wn : Nat → Nat} {X : Nat → List Nat} {u k p : Nat} {F F' : List Nat} {R' : Nat → Nat}
theorem by_before (hk : k < (rowBy A u).length) (hp : (rowBy A u)[k] = p) {p' : Nat} (h1 : p' < A.length) (h2 : (aA A p').x = u) (h3 : p' < p) : ∃ k', ∃ hk' : k' < (rowBy A u).length, k' < k ∧ (rowBy A u)[k'] = p' := by
  obtain ⟨k', hk', e⟩ := List.mem_iff_getElem.1 ((rowBy_mem (t := u) A p').2 ⟨h1, h2⟩)
  refine ⟨k', hk', ?_, e⟩
  apply Decidable.byContradiction
  intro hn
  have := sorted_idx (rowBy_sorted (t := u) A) hk hk' (by omega)
  omega
theorem WkI.tookW (h : WkI A n m met rd wn X) (hx : NxI A n u k met0 met F) (hk : k < (rowBy A u).length) (hp : (rowBy A u)[k] = p) (hw : (aA A p).w = true) (hi : (aA A p).i < m) (t : TkI n u (rowAc A (aA A p).i) ((rowAc (A.take p) (aA A p).i).length + 1) (rowAc A (aA A p).i).length met F met' F' R') :
    WkI A n m met' rd (updL wn (aA A p).i (u + 1)) (updL X (m + m + n + (aA A p).i) (rowR (rowAc A (aA A p).i).length R')) ∧ NxI A n u (k + 1) met0 met' F' := by
  have hpm := (rowBy_mem (t := u) A p).1 (by rw [← hp]; exact List.getElem_mem _)
  obtain ⟨hn1, hm⟩ := hx.took t (sound_w hpm.1 hpm.2 hw)
  have hd := take_w hpm.1 hpm.2 hw t
  refine ⟨⟨fun r hr => by rw [updL_other _ (by omega)]; exact h.st r hr, fun i hl => ?_, fun i hl => ?_, fun i t' hl he p' hp' hx' hi' hw' => ?_, fun i t' hl he p' hp' hx' hi' hw' => (h.dr i t' hl he p' hp' hx' hi' hw').mono hm⟩, hn1.skip fun hk' => by rw [hp]; exact hd⟩
  · by_cases e : i = (aA A p).i
    · subst e
      exact ⟨R', by rw [updL_same], t.rem, t.dr⟩
    · obtain ⟨R, h1, h2, h3⟩ := h.la i hl
      exact ⟨R, by rw [updL_other _ (by omega)]; exact h1, h2, fun j hj hne => hm _ (h3 j hj hne)⟩
  · obtain ⟨R, h1, h2, h3⟩ := h.lw i hl
    exact ⟨R, by rw [updL_other _ (by omega)]; exact h1, h2, fun j hj hne => hm _ (h3 j hj hne)⟩
  · by_cases e : i = (aA A p).i
    · subst e
      rw [updL_same] at he
      obtain rfl : t' = u := by omega
      by_cases hlt : p' < p
      · obtain ⟨k', hk', hkk, hpe⟩ := by_before hk hp hp' hx' hlt
        have := hn1.dn k' hk' hkk
        rw [hpe] at this
        exact this
      · intro q h1 h2 h3 h4
        exact hd q (by omega) h2 (by rw [h3, hi']) (.inl hw)
    · rw [updL_other _ e] at he
      exact (h.dw i t' hl he p' hp' hx' hi' hw').mono hm
theorem WkI.tookR (h : WkI A n m met rd wn X) (hx : NxI A n u k met0 met F) (hk : k < (rowBy A u).length) (hp : (rowBy A u)[k] = p) (hw : (aA A p).w = false) (hi : (aA A p).i < m) (t : TkI n u (rowWr A (aA A p).i) (rowWr (A.take (p + 1)) (aA A p).i).length (rowWr A (aA A p).i).length met F met' F' R') :
    WkI A n m met' (updL rd (aA A p).i (u + 1)) wn (updL X (m + m + n + (m + (aA A p).i)) (rowR (rowWr A (aA A p).i).length R')) ∧ NxI A n u (k + 1) met0 met' F' := by
  have hpm := (rowBy_mem (t := u) A p).1 (by rw [← hp]; exact List.getElem_mem _)
  obtain ⟨hn1, hm⟩ := hx.took t (sound_r hpm.1 hpm.2)
  have hd := take_r hpm.1 hw t
  refine ⟨⟨fun r hr => by rw [updL_other _ (by omega)]; exact h.st r hr, fun i hl => ?_, fun i hl => ?_, fun i t' hl he p' hp' hx' hi' hw' => (h.dw i t' hl he p' hp' hx' hi' hw').mono hm, fun i t' hl he p' hp' hx' hi' hw' => ?_⟩, hn1.skip fun hk' => by rw [hp]; exact hd⟩
  · obtain ⟨R, h1, h2, h3⟩ := h.la i hl
    exact ⟨R, by rw [updL_other _ (by omega)]; exact h1, h2, fun j hj hne => hm _ (h3 j hj hne)⟩
  · by_cases e : i = (aA A p).i
    · subst e
      exact ⟨R', by rw [updL_same], t.rem, t.dr⟩
    · obtain ⟨R, h1, h2, h3⟩ := h.lw i hl
      exact ⟨R, by rw [updL_other _ (by omega)]; exact h1, h2, fun j hj hne => hm _ (h3 j hj hne)⟩
  · by_cases e : i = (aA A p).i
    · subst e
      rw [updL_same] at he
      obtain rfl : t' = u := by omega
      by_cases hlt : p' < p
      · obtain ⟨k', hk', hkk, hpe⟩ := by_before hk hp hp' hx' hlt
        have := hn1.dn k' hk' hkk
        rw [hpe] at this
        exact this
      · intro q h1 h2 h3 h4
        refine hd q (by omega) h2 (by rw [h3, hi']) (.inr (h4.resolve_left fun e => ?_))
        rw [hw'] at e; cases e
    · rw [updL_other _ e] at he
      exact (h.dr i t' hl he p' hp' hx' hi' hw').mono hm
end

section
variable {w0 w1 W : World} {n m Bc : Nat} {b : Nat → Nat} {A : List Acc} {met : Nat → Bool} {ia nw rd wn rd' wn' : Nat → Nat} {v : Nat → Value} {X : Nat → List Nat} {T u : Nat} {vf : Value} {F : List Nat} {c : Acc} {p x0 : Nat}
theorem tkW (hW : WkI A n m met rd wn X) (hV : WkV A n m v) (hM : TkM w0 w1 W n m A.length Bc b met ia nw rd' wn' v X T u vf F) (hi : c.i < m) (hp : p < A.length) (hc : aA A p = c) (hx : iaF A A.length p = x0) (hA : A.length ≤ 300) (hn : n ≤ 300) (hF : F.length ≤ n) (hs : ∀ a ∈ A, a.x < n ∧ a.i < m) :
    Calls Ybad.prog 46 #[v c.i, v (m + m + n + c.i), .int .i64 ((x0 : Int) + 1), .pointer (some ⟨w1.heap.size + 1, 0, none⟩), .pointer (some ⟨w1.heap.size, 0, none⟩), .pointer (some ⟨w1.heap.size + 2, 0, none⟩)] W fun e w' => e = .returned (.tuple #[]) ∧ ∃ met' vf' F' R', TkM w0 w1 w' n m A.length Bc b met' ia nw rd' wn' v (updL X (m + m + n + c.i) (rowR (rowAc A c.i).length R')) T u vf' F' ∧ TkI n u (rowAc A c.i) ((rowAc (A.take p) c.i).length + 1) (rowAc A c.i).length met F met' F' R' ∧ Kp T (w1.heap.size + 2) W vf w' vf' := by
  have hX2 : X c.i = rowAc A c.i := (hW.st c.i (by omega)).trans (cwX_ac hi)
  obtain ⟨R, h1, h2, h3⟩ := hW.la c.i hi
  obtain ⟨⟨g, hg⟩, _⟩ := hV c.i hi
  have hx0 : x0 = (rowAc (A.take p) c.i).length := by
    rw [← hx]; unfold iaF; rw [if_pos hp]
    have : (A.getD p a0).i = c.i := by rw [← hc]; rfl
    rw [this]
  have hle : x0 + 1 ≤ (rowAc A c.i).length := by
    have e1 : (rowAc (A.take (p + 1)) c.i).length = (rowAc (A.take p) c.i).length + 1 := fl_step (P := fun a => decide (a.i = c.i)) A hp (by rw [hc]; simp)
    have e2 : (rowAc (A.take (p + 1)) c.i).length ≤ (rowAc (A.take A.length) c.i).length := fl_mono (P := fun a => decide (a.i = c.i)) A (by omega)
    rw [List.take_length] at e2
    omega
  have := take_any w0 w1 W n m A.length Bc b met ia nw rd' wn' v X T u vf F hM (m + m + n + c.i) c.i (rowAc A c.i).length g (x0 + 1) R (by unfold cwN; omega) (by unfold cwN; omega) (by omega) hg h1 (by rw [hX2]) (Nat.le_trans (rowAc_len A c.i) hA) hle (by omega) h2 (fun x hx => by
    rw [hX2] at hx
    obtain ⟨a, ha, rfl⟩ := List.mem_map.1 hx
    exact (hs a (List.mem_filter.1 ha).1).1) (fun j hj hne => by
    simp only [hX2] at hj ⊢
    exact h3 j hj hne)
  rw [hX2, show ((x0 + 1 : Nat) : Int) = (x0 : Int) + 1 from by omega] at this
  rw [← hx0]
  exact this
theorem tkR (hW : WkI A n m met rd wn X) (hV : WkV A n m v) (hM : TkM w0 w1 W n m A.length Bc b met ia nw rd' wn' v X T u vf F) (hi : c.i < m) (hp : p < A.length) (hc : aA A p = c) (hx : nwF A A.length p = x0) (hA : A.length ≤ 300) (hn : n ≤ 300) (hF : F.length ≤ n) (hs : ∀ a ∈ A, a.x < n ∧ a.i < m) :
    Calls Ybad.prog 46 #[v (m + c.i), v (m + m + n + (m + c.i)), .int .i64 (x0 : Int), .pointer (some ⟨w1.heap.size + 1, 0, none⟩), .pointer (some ⟨w1.heap.size, 0, none⟩), .pointer (some ⟨w1.heap.size + 2, 0, none⟩)] W fun e w' => e = .returned (.tuple #[]) ∧ ∃ met' vf' F' R', TkM w0 w1 w' n m A.length Bc b met' ia nw rd' wn' v (updL X (m + m + n + (m + c.i)) (rowR (rowWr A c.i).length R')) T u vf' F' ∧ TkI n u (rowWr A c.i) (rowWr (A.take (p + 1)) c.i).length (rowWr A c.i).length met F met' F' R' ∧ Kp T (w1.heap.size + 2) W vf w' vf' := by
  have hX2 : X (m + c.i) = rowWr A c.i := (hW.st (m + c.i) (by omega)).trans (cwX_wr hi)
  obtain ⟨R, h1, h2, h3⟩ := hW.lw c.i hi
  obtain ⟨_, g, hg⟩ := hV c.i hi
  have hx0 : x0 = (rowWr (A.take (p + 1)) c.i).length := by
    rw [← hx]; unfold nwF; rw [if_pos hp]
    have : (A.getD p a0).i = c.i := by rw [← hc]; rfl
    rw [this]
  have hle : x0 ≤ (rowWr A c.i).length := by
    have e2 : (rowWr (A.take (p + 1)) c.i).length ≤ (rowWr (A.take A.length) c.i).length := fl_mono (P := fun a => decide (a.i = c.i) && a.w) A (by omega)
    rw [List.take_length] at e2
    omega
  have := take_any w0 w1 W n m A.length Bc b met ia nw rd' wn' v X T u vf F hM (m + m + n + (m + c.i)) (m + c.i) (rowWr A c.i).length g x0 R (by unfold cwN; omega) (by unfold cwN; omega) (by omega) hg h1 (by rw [hX2]) (Nat.le_trans (rowWr_len A c.i) hA) hle (by omega) h2 (fun x hx => by
    rw [hX2] at hx
    obtain ⟨a, ha, rfl⟩ := List.mem_map.1 hx
    exact (hs a (List.mem_filter.1 ha).1).1) (fun j hj hne => by
    simp only [hX2] at hj ⊢
    exact h3 j hj hne)
  rw [hX2] at this
  rw [← hx0]
  exact this
end
end Go.Proofs.YbulkbgasDoor
