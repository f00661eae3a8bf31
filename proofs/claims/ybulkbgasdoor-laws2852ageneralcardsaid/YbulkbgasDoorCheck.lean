import Derived.Test.YbulkbgasDoorEqual
namespace Go.Proofs.YbulkbgasDoor
open Go.RowKit
set_option linter.unusedVariables false

/-- The number of an item: x, y, z. -/
def itIx (s : ByteArray) : Option Nat := if s = sX then some 0 else if s = sY then some 1 else if s = sZ then some 2 else none

set_option maxHeartbeats 1000000 in
theorem item_any (s : ByteArray) (n : Nat) (h : itIx s = some n) (w : World) : Calls Ybad.prog 33 #[.string s] w fun e w' => e = .returned (.int .i64 n) ∧ w' = w := by
  unfold itIx at h
  split at h
  · rename_i e; subst e; cases h
    go_enter Ybad.func33, Ybad.ntmps33
    go_wp2
    go_ret
    exact ⟨rfl, rfl⟩
  · split at h
    · rename_i e; subst e; cases h
      go_enter Ybad.func33, Ybad.ntmps33
      go_wp2
      go_ret
      exact ⟨rfl, rfl⟩
    · split at h
      · rename_i e; subst e; cases h
        go_enter Ybad.func33, Ybad.ntmps33
        go_wp2
        go_ret
        exact ⟨rfl, rfl⟩
      · cases h

/-- The checker's state: the modes held (at 3 t + i), and who has begun to shrink. -/
structure Md where
  m : Nat → Int
  s : Nat → Bool

def Md.set (M : Md) (j : Nat) (v : Int) : Md := { M with m := fun i => if i = j then v else M.m i }
def Md.shr (M : Md) (t : Nat) : Md := { M with s := fun i => if i = t then true else M.s i }

/-- One action, checked. -/
inductive Ck (M : Md) : Ac → Md → Prop where
  | fin (k it : ByteArray) (t : Nat) (hk : k = kC ∨ k = kA) (h1 : 1 ≤ t) (h4 : t ≤ 4) : Ck M ⟨k, t, it⟩ M
  | r (it : ByteArray) (t i : Nat) (h1 : 1 ≤ t) (h4 : t ≤ 4) (hi : itIx it = some i) (hm : 1 ≤ M.m (t * 3 + i)) : Ck M ⟨kR, t, it⟩ M
  | w (it : ByteArray) (t i : Nat) (h1 : 1 ≤ t) (h4 : t ≤ 4) (hi : itIx it = some i) (hm : M.m (t * 3 + i) = 2) : Ck M ⟨kW, t, it⟩ M
  | rl (it : ByteArray) (t i : Nat) (h1 : 1 ≤ t) (h4 : t ≤ 4) (hi : itIx it = some i) (hs : M.s t = false) (hm : ∀ u, 1 ≤ u → u ≤ 4 → u ≠ t → M.m (u * 3 + i) ≠ 2) : Ck M ⟨kRl, t, it⟩ (if M.m (t * 3 + i) = 0 then M.set (t * 3 + i) 1 else M)
  | wl (it : ByteArray) (t i : Nat) (h1 : 1 ≤ t) (h4 : t ≤ 4) (hi : itIx it = some i) (hs : M.s t = false) (hm : ∀ u, 1 ≤ u → u ≤ 4 → u ≠ t → M.m (u * 3 + i) = 0) : Ck M ⟨kWl, t, it⟩ (M.set (t * 3 + i) 2)
  | u (it : ByteArray) (t i : Nat) (h1 : 1 ≤ t) (h4 : t ≤ 4) (hi : itIx it = some i) : Ck M ⟨kU, t, it⟩ ((M.set (t * 3 + i) 0).shr t)

inductive Cks : Md → List Ac → Md → Prop where
  | nil (M : Md) : Cks M [] M
  | cons {M M' M'' : Md} {a : Ac} {l : List Ac} (h : Ck M a M') (t : Cks M' l M'') : Cks M (a :: l) M''

abbrev Md0 : Md := ⟨fun _ => 0, fun _ => false⟩

theorem itIx_lt {s : ByteArray} {i : Nat} (h : itIx s = some i) : i < 3 := by
  unfold itIx at h
  split at h
  · cases h; decide
  · split at h
    · cases h; decide
    · split at h
      · cases h; decide
      · cases h

/-- The two arrays of the checker. -/
def Arrs (W : World) (Bm Bs : Nat) (M : Md) : Prop := Fix W Bm 83 15 (fun j => .int .i8 (M.m j)) ∧ Fix W Bs 84 5 (fun j => .bool (M.s j))

theorem Arrs.set {W : World} {Bm Bs : Nat} {M : Md} (h : Arrs W Bm Bs M) (hne : Bs ≠ Bm) {j : Nat} (hj : j < 15) (v : Int) : Arrs (W.setCell ⟨Bm, j, none⟩ (.int .i8 v)) Bm Bs (M.set j v) :=
  ⟨(h.1.set hj _).congr fun i _ => by unfold upd Md.set; dsimp only; split <;> rfl, h.2.other _ _ hne _⟩
theorem Arrs.shr {W : World} {Bm Bs : Nat} {M : Md} (h : Arrs W Bm Bs M) (hne : Bm ≠ Bs) {j : Nat} (hj : j < 5) : Arrs (W.setCell ⟨Bs, j, none⟩ (.bool true)) Bm Bs (M.shr j) :=
  ⟨h.1.other _ _ hne _, (h.2.set hj _).congr fun i _ => by unfold upd Md.shr; dsimp only; split <;> rfl⟩
theorem Arrs.alloc {W : World} {Bm Bs : Nat} {M : Md} (h : Arrs W Bm Bs M) (o : Obj) : Arrs (W.alloc o) Bm Bs M := ⟨h.1.alloc o, h.2.alloc o⟩

set_option maxRecDepth 100000 in
set_option maxHeartbeats 1000000 in
theorem check_true (w : World) (v1 v2 : Value) (l : List Ac) (M' : Md) (hn : l.length ≤ 10000) (h1 : SlA w v1 (l.filter fun x => !isLk x.k)) (h2 : SlA w v2 l) (hck : Cks Md0 l M') :
    Calls Ybad.prog 9 #[v1, v2] w fun e w' => e = .returned (.bool true) ∧ Below w.heap.size w w' := by
  have HS := hid (strip_any w v2 l hn h2)
  have HC := hid hck
  obtain ⟨a2, cp2, rfl, hcp2, hel⟩ := id h2
  have H1 := hid h1
  have H2 := hid hel
  clear h1 h2 hck hel
  go_enter Ybad.func9, Ybad.ntmps9
  go_wp2_with fail
  refine Calls.mono HS.out ?_
  rintro e w1 ⟨v3, rfl, hown, hbel⟩
  obtain ⟨a3, cp3, rfl, hcp3, hel3⟩ := SlA.of_own hown
  obtain ⟨a1, cp1, rfl, hcp1, hel1⟩ := H1.out.below hbel
  have hfl : (l.filter fun x => !isLk x.k).length ≤ 10000 := Nat.le_trans (List.length_filter_le _ _) hn
  have HE := hid (equalA_true a3 a1 cp3 cp1 (l.filter fun x => !isLk x.k) w1 (by omega) hel3 hel1)
  have HB := hid hbel
  clear hel3 hel1 hown hbel
  go_wp2_with fail
  refine Calls.mono HE.out ?_
  rintro e w2 ⟨rfl, q, rfl⟩
  have H2' := hid (H2.out.below (below_drewN HB.out q))
  have HB' := hid (below_drewN HB.out q)
  clear HE HS H1 H2 HB
  generalize hw2 : w1.drewN q = w2 at H2' HB' ⊢
  have hsz := HB'.out.size
  go_wp2_with fail
  go_loopw [20] (fun i wr => ∃ (k : Nat) (M : Md), k ≤ l.length ∧ i = .int .i64 k ∧ Cks M (l.drop k) M' ∧ Arrs wr w2.heap.size (w2.heap.size + 1) M ∧ Below w2.heap.size w2 wr) (fun i _ => l.length - (intOf i).toNat)
  case atStart => exact ⟨0, Md0, Nat.zero_le _, rfl, HC.out, ⟨(show Fix _ _ _ _ _ from (Below.heap_alloc _ _ _ (by simp)).trans (heap_alloc_new w2 _)), alloc_at (by simp)⟩, ((Below.refl _ w2).alloc (Nat.le_refl _) _).alloc (by simp) _⟩
  case round =>
    obtain ⟨k, M, hk, rfl, hcs, hA, hbr⟩ := hrel
    have HA := hid hA
    have HBr := hid hbr
    have hs2 := hbr.size
    have hAl : w2.heap.size + 1 < wr.heap.size := hA.2.lt
    clear hA
    by_cases hlt : k < l.length
    · have hki : (k : Int) < (l.length : Int) := by omega
      rw [List.drop_eq_getElem_cons hlt] at hcs
      obtain ⟨c, hc⟩ : ∃ c, l[k] = c := ⟨_, rfl⟩
      rw [hc] at hcs
      obtain ⟨b, off, rfl, hbl, c0', c1', c2'⟩ := cells_at H2'.out hlt hlt
      rw [hc] at c0' c1' c2'
      have c0 : wr.cell? ⟨b, off + k * 3, none⟩ = some (.string c.k) := (hbr.cell (p := ⟨b, off + k * 3, none⟩) hbl).trans c0'
      have c1 : wr.cell? ⟨b, off + k * 3 + 1, none⟩ = some (.int .i64 c.t) := (hbr.cell (p := ⟨b, off + k * 3 + 1, none⟩) hbl).trans c1'
      have c2 : wr.cell? ⟨b, off + k * 3 + 2, none⟩ = some (.string c.it) := (hbr.cell (p := ⟨b, off + k * 3 + 2, none⟩) hbl).trans c2'
      clear c0' c1' c2' hc
      cases hcs with
      | cons hstep htail =>
      have HTl := hid htail
      clear htail hbr
      cases hstep with
      | fin k' it t hk' h1 h4 =>
        have hti : (1 : Int) ≤ (t : Int) := by omega
        have htj : (t : Int) ≤ 4 := by omega
        rcases hk' with rfl | rfl
        · go_wp2
          go_roundw
          case rel => exact ⟨k + 1, M, by omega, by go_num, HTl.out, HA.out.alloc _, HBr.out.alloc hs2 _⟩
          case measure => simp [intOf]; omega
        · go_wp2
          go_roundw
          case rel => exact ⟨k + 1, M, by omega, by go_num, HTl.out, HA.out.alloc _, HBr.out.alloc hs2 _⟩
          case measure => simp [intOf]; omega
      | r it t i h1 h4 hi hm =>
        have hti : (1 : Int) ≤ (t : Int) := by omega
        have htj : (t : Int) ≤ 4 := by omega
        have hi3 := itIx_lt hi
        have HI := hid (item_any it i hi)
        have m0 := (HA.out.alloc (.cells #[.string kR, .int .i64 t, .string it] 34)).1.cell (j := t * 3 + i) (by omega)
        go_wp2_with (go_at_call 33; refine Calls.mono (HI.out _) ?_; rintro e w' ⟨rfl, rfl⟩)
        go_roundw
        case rel => exact ⟨k + 1, M, by omega, by go_num, HTl.out, HA.out.alloc _, HBr.out.alloc hs2 _⟩
        case measure => simp [intOf]; omega
      | w it t i h1 h4 hi hm =>
        have hti : (1 : Int) ≤ (t : Int) := by omega
        have htj : (t : Int) ≤ 4 := by omega
        have hi3 := itIx_lt hi
        have HI := hid (item_any it i hi)
        have m0 := (HA.out.alloc (.cells #[.string kW, .int .i64 t, .string it] 34)).1.cell (j := t * 3 + i) (by omega)
        rw [hm] at m0
        go_wp2_with (go_at_call 33; refine Calls.mono (HI.out _) ?_; rintro e w' ⟨rfl, rfl⟩)
        go_roundw
        case rel => exact ⟨k + 1, M, by omega, by go_num, HTl.out, HA.out.alloc _, HBr.out.alloc hs2 _⟩
        case measure => simp [intOf]; omega
      | rl it t i h1 h4 hi hs hm =>
        have hti : (1 : Int) ≤ (t : Int) := by omega
        have htj : (t : Int) ≤ 4 := by omega
        have hi3 := itIx_lt hi
        have HI := hid (item_any it i hi)
        have s0 := (HA.out.alloc (.cells #[.string kRl, .int .i64 t, .string it] 34)).2.cell (j := t) (by omega)
        rw [hs] at s0
        go_wp2_with (go_at_call 33; refine Calls.mono (HI.out _) ?_; rintro e w' ⟨rfl, rfl⟩)
        go_loopw [11] (fun u wr' => ∃ n : Nat, 1 ≤ n ∧ n ≤ 5 ∧ u = .int .i64 n ∧ wr' = wr.alloc (.cells #[.string kRl, .int .i64 t, .string it] 34)) (fun u _ => 5 - (intOf u).toNat)
        case atStart => exact ⟨1, by omega, by omega, rfl, rfl⟩
        case round =>
          obtain ⟨n, hn1, hn5, rfl, rfl⟩ := hrel
          by_cases hn4 : n ≤ 4
          · have hni : (n : Int) ≤ 4 := by omega
            by_cases hnt : n = t
            · subst hnt
              go_wp2
              go_roundw
              case rel => exact ⟨n + 1, by omega, by omega, by go_num, by first | trivial | rfl⟩
              case measure => simp [intOf]; omega
            · have hnti : ¬ (n : Int) = (t : Int) := by omega
              have hmn := hm n hn1 hn4 hnt
              have mn := (HA.out.alloc (.cells #[.string kRl, .int .i64 t, .string it] 34)).1.cell (j := n * 3 + i) (by omega)
              have hmn' : (M.m (n * 3 + i) == 2) = false := by simpa using hmn
              go_wp2
              go_roundw
              case rel => exact ⟨n + 1, by omega, by omega, by go_num, by first | trivial | rfl⟩
              case measure => simp [intOf]; omega
          · obtain rfl : n = 5 := by omega
            have m0 := (HA.out.alloc (.cells #[.string kRl, .int .i64 t, .string it] 34)).1.cell (j := t * 3 + i) (by omega)
            have f0 := (HA.out.alloc (.cells #[.string kRl, .int .i64 t, .string it] 34)).1.free (t * 3 + i)
            by_cases hz : M.m (t * 3 + i) = 0
            · rw [hz] at m0
              rw [if_pos hz] at HTl
              go_wp2
              go_roundw
              case rel => exact ⟨k + 1, _, by omega, by go_num, HTl.out, (HA.out.alloc _).set (by omega) (by omega) _, (HBr.out.alloc hs2 _).setCell (p := ⟨w2.heap.size, t * 3 + i, none⟩) (by simp) _⟩
              case measure => simp [intOf]; omega
            · rw [if_neg hz] at HTl
              go_wp2
              go_roundw
              case rel => exact ⟨k + 1, _, by omega, by go_num, HTl.out, HA.out.alloc _, HBr.out.alloc hs2 _⟩
              case measure => simp [intOf]; omega
      | wl it t i h1 h4 hi hs hm =>
        have hti : (1 : Int) ≤ (t : Int) := by omega
        have htj : (t : Int) ≤ 4 := by omega
        have hi3 := itIx_lt hi
        have HI := hid (item_any it i hi)
        have s0 := (HA.out.alloc (.cells #[.string kWl, .int .i64 t, .string it] 34)).2.cell (j := t) (by omega)
        rw [hs] at s0
        go_wp2_with (go_at_call 33; refine Calls.mono (HI.out _) ?_; rintro e w' ⟨rfl, rfl⟩)
        go_loopw [12] (fun u wr' => ∃ n : Nat, 1 ≤ n ∧ n ≤ 5 ∧ u = .int .i64 n ∧ wr' = wr.alloc (.cells #[.string kWl, .int .i64 t, .string it] 34)) (fun u _ => 5 - (intOf u).toNat)
        case atStart => exact ⟨1, by omega, by omega, rfl, rfl⟩
        case round =>
          obtain ⟨n, hn1, hn5, rfl, rfl⟩ := hrel
          by_cases hn4 : n ≤ 4
          · have hni : (n : Int) ≤ 4 := by omega
            by_cases hnt : n = t
            · subst hnt
              go_wp2
              go_roundw
              case rel => exact ⟨n + 1, by omega, by omega, by go_num, by first | trivial | rfl⟩
              case measure => simp [intOf]; omega
            · have hnti : ¬ (n : Int) = (t : Int) := by omega
              have hmn := hm n hn1 hn4 hnt
              have mn := (HA.out.alloc (.cells #[.string kWl, .int .i64 t, .string it] 34)).1.cell (j := n * 3 + i) (by omega)
              rw [hmn] at mn
              go_wp2
              go_roundw
              case rel => exact ⟨n + 1, by omega, by omega, by go_num, by first | trivial | rfl⟩
              case measure => simp [intOf]; omega
          · obtain rfl : n = 5 := by omega
            have m0 := (HA.out.alloc (.cells #[.string kWl, .int .i64 t, .string it] 34)).1.cell (j := t * 3 + i) (by omega)
            have f0 := (HA.out.alloc (.cells #[.string kWl, .int .i64 t, .string it] 34)).1.free (t * 3 + i)
            go_wp2
            go_roundw
            case rel => exact ⟨k + 1, _, by omega, by go_num, HTl.out, (HA.out.alloc _).set (by omega) (by omega) _, (HBr.out.alloc hs2 _).setCell (p := ⟨w2.heap.size, t * 3 + i, none⟩) (by simp) _⟩
            case measure => simp [intOf]; omega
      | u it t i h1 h4 hi =>
        have hti : (1 : Int) ≤ (t : Int) := by omega
        have htj : (t : Int) ≤ 4 := by omega
        have hi3 := itIx_lt hi
        have HI := hid (item_any it i hi)
        have m0 := (HA.out.alloc (.cells #[.string kU, .int .i64 t, .string it] 34)).1.cell (j := t * 3 + i) (by omega)
        have f0 := (HA.out.alloc (.cells #[.string kU, .int .i64 t, .string it] 34)).1.free (t * 3 + i)
        have HA1 := hid ((HA.out.alloc (.cells #[.string kU, .int .i64 t, .string it] 34)).set (by omega) (show t * 3 + i < 15 by omega) 0)
        have s0 := HA1.out.2.cell (j := t) (by omega)
        have g0 := HA1.out.2.free t
        go_wp2_with (go_at_call 33; refine Calls.mono (HI.out _) ?_; rintro e w' ⟨rfl, rfl⟩)
        go_roundw
        case rel => exact ⟨k + 1, _, by omega, by go_num, HTl.out, HA1.out.shr (by omega) (by omega), ((HBr.out.alloc hs2 _).setCell (p := ⟨w2.heap.size, t * 3 + i, none⟩) (by simp) _).setCell (p := ⟨w2.heap.size + 1, t, none⟩) (by simp) _⟩
        case measure => simp [intOf]; omega
    · obtain rfl : k = l.length := by omega
      go_wp2
      go_ret
      exact ⟨rfl, HB'.out.trans (HBr.out.mono hsz)⟩

end Go.Proofs.YbulkbgasDoor
