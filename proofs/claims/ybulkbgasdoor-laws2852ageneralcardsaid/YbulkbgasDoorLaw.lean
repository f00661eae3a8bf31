import Derived.Test.YbulkbgasDoorCk9
import Derived.Test.YbulkbgasDoorBuildA
import Derived.Test.YbulkbgasDoorCheck
namespace Go.Proofs.YbulkbgasDoor
open Go.RowKit Go.Maps
set_option linter.unusedVariables false

/-- The actions of the transactions 1 to k, one transaction after another. -/
def srlN (all : List Ac) (k : Nat) : List Ac := (List.range k).flatMap fun (j : Nat) => all.filter fun a => a.t == ((j : Int) + 1)
theorem srlN_succ (all : List Ac) (k : Nat) : srlN all (k + 1) = srlN all k ++ all.filter fun a => a.t == ((k : Int) + 1) := by
  unfold srlN; rw [List.range_succ, List.flatMap_append]; simp
theorem srlN_zero (all : List Ac) : srlN all 0 = [] := rfl
theorem srlN_cons (a : Ac) (all : List Ac) : ∀ k, (srlN (a :: all) k).length ≤ (srlN all k).length + (if a.t ≤ (k : Int) then 1 else 0)
  | 0 => by simp [srlN_zero]
  | k + 1 => by
    rw [srlN_succ, srlN_succ, List.length_append, List.length_append, List.filter_cons]
    have := srlN_cons a all k
    by_cases e : a.t = ((k : Int) + 1)
    · have e1 : (a.t == ((k : Int) + 1)) = true := by simpa using e
      rw [if_neg (by omega)] at this
      rw [if_pos e1, if_pos (by omega), List.length_cons]
      omega
    · have e1 : ¬ ((a.t == ((k : Int) + 1)) = true) := by simpa using e
      rw [if_neg e1]
      by_cases h : a.t ≤ (k : Int)
      · rw [if_pos h] at this; rw [if_pos (by omega)]; omega
      · rw [if_neg h] at this; rw [if_neg (by omega)]; omega
theorem srlN_length (k : Nat) : ∀ all : List Ac, (srlN all k).length ≤ all.length
  | [] => by
    have : srlN [] k = [] := by unfold srlN; simp
    rw [this]; simp
  | a :: all => by
    have h1 := srlN_cons a all k
    have h2 := srlN_length k all
    simp only [List.length_cons]
    split at h1 <;> omega
theorem srlN_mem {all : List Ac} {k : Nat} {a : Ac} (h : a ∈ srlN all k) : a ∈ all := by
  unfold srlN at h
  obtain ⟨j, _, h⟩ := List.mem_flatMap.1 h
  exact (List.mem_filter.1 h).1

theorem acOf_t {s : St} (h : s.Ok) : 1 ≤ (acOf s).t ∧ (acOf s).t ≤ 4 := by
  have : (acOf s).t = s.t % 4 + 1 := by
    unfold acOf; repeat' split
    all_goals rfl
  rw [this]; omega
theorem itemS_size (z : Int) : (itemS z).size ≤ 100 := by
  unfold itemS; repeat' split
  all_goals decide
theorem acOf_it (s : St) : (acOf s).it.size ≤ 100 := by
  unfold acOf
  repeat' split
  all_goals first | exact itemS_size _ | exact (show (ByteArray.mk #[]).size ≤ 100 by decide)

/-- What the plain law gives. -/
structure Fin7 (s : List Ac) (L : Nat → Nat) : Prop where
  pl : Plain7 (keptA s) L
  fin : ∀ O : List Nat, O.length = (txL (keptA s)).length → O.Nodup → (∀ j ∈ O, j < (txL (keptA s)).length) →
    (lkF (keptA s) (spF (acL (keptA s))) (txL (keptA s)) (bfAll (spF (acL (keptA s))) O) (ptAll L O) ((keptA s).length + 1)).filter (fun x => !isLk x.k) = keptA s ∧
    (lkF (keptA s) (spF (acL (keptA s))) (txL (keptA s)) (bfAll (spF (acL (keptA s))) O) (ptAll L O) ((keptA s).length + 1)).length ≤ 10000 ∧
    ∃ M', Cks Md0 (lkF (keptA s) (spF (acL (keptA s))) (txL (keptA s)) (bfAll (spF (acL (keptA s))) O) (ptAll L O) ((keptA s).length + 1)) M'

theorem strip_at (w8 : World) (v4 : Value) (s : List Ac) (hn : s.length ≤ 300) (hs : SlA w8 v4 s) (B8 : Nat) (hB : B8 < w8.heap.size) (x : Value) (hx : w8.cell? ⟨B8, 0, none⟩ = some x) (W : World) (hb : Below w8.heap.size w8 W) :
    Calls Ybad.prog 10 #[v4] W fun e w' => ∃ v', e = .returned v' ∧ SlA w' v' (keptA s) ∧ Below w8.heap.size w8 w' ∧ w'.cell? ⟨B8, 0, none⟩ = some x := by
  refine Calls.mono (strip_any W v4 s (by omega) (hs.below hb)) ?_
  rintro e w' ⟨v', rfl, h1, h2⟩
  have h3 := hb.trans (h2.mono hb.size)
  exact ⟨v', rfl, SlA.of_own h1, h3, (h3.cell (p := ⟨B8, 0, none⟩) hB).trans hx⟩
theorem check_at (w8 : World) (vL : Value) (s lk : List Ac) (M' : Md) (hn : lk.length ≤ 10000) (hf : lk.filter (fun x => !isLk x.k) = keptA s) (hs : SlA w8 vL lk) (hck : Cks Md0 lk M') (B8 : Nat) (hB : B8 < w8.heap.size) (hx : w8.cell? ⟨B8, 0, none⟩ = some vL) (W : World) (v1 : Value) (h1 : SlA W v1 (keptA s)) (hb : Below w8.heap.size w8 W) :
    Calls Ybad.prog 9 #[v1, vL] W fun e w' => e = .returned (.bool true) ∧ Below w8.heap.size w8 w' ∧ w'.cell? ⟨B8, 0, none⟩ = some vL := by
  refine Calls.mono (check_true W v1 vL lk M' hn (by rw [hf]; exact h1) (hs.below hb) hck) ?_
  rintro e w' ⟨rfl, h2⟩
  have h3 := hb.trans (h2.mono hb.size)
  exact ⟨rfl, h3, (h3.cell (p := ⟨B8, 0, none⟩) hB).trans hx⟩

set_option maxRecDepth 100000 in
set_option maxHeartbeats 2000000 in
theorem serial_long (w : World) (a : Option Addr) (n cap : Nat) (hn : 300 < n) (hb : n ≤ 9223372036854775807) :
    Calls Ybad.prog 4 #[.slice a n cap] w fun e w' => e = .returned (.bool true) ∧ Below w.heap.size w w' := by
  have hni : (300 : Int) < (n : Int) := by omega
  go_enter Ybad.func4, Ybad.ntmps4
  go_wp2
  go_ret
  exact ⟨rfl, Below.refl _ _⟩

set_option maxRecDepth 100000 in
set_option maxHeartbeats 4000000 in
theorem serial_walk (w : World) (a : Option Addr) (cap : Nat) (sts : List St) (L : Nat → Nat) (hn : sts.length ≤ 300) (hs : Els w 3 a sts.length fun i => (sts.getD i ⟨0, 0, 0⟩).cells) (hok : ∀ s ∈ sts, s.Ok) (hld : Laid w) (hpl : Fin7 (srlN (sts.map acOf) 4) L) :
    Calls Ybad.prog 4 #[.slice a sts.length cap] w fun e w' => e = .returned (.bool true) ∧ Below w.heap.size w w' := by
  have hni : ¬ (300 : Int) < (sts.length : Int) := by omega
  have HB := hid (build_any w a cap sts hn hs hok)
  have HT := hid (show ∀ x ∈ sts.map acOf, 1 ≤ x.t ∧ x.t ≤ 4 from fun x hx => by obtain ⟨s, hs, rfl⟩ := List.mem_map.1 hx; exact acOf_t (hok s hs))
  have HIT := hid (show ∀ x ∈ sts.map acOf, x.it.size ≤ 100 from fun x hx => by obtain ⟨s, hs, rfl⟩ := List.mem_map.1 hx; exact acOf_it s)
  have HLD := hid hld
  have HPL := hid hpl
  have HAL := hid (show (sts.map acOf).length = sts.length from List.length_map _)
  clear hs hok hld hpl
  obtain ⟨all, hall⟩ : ∃ all, sts.map acOf = all := ⟨_, rfl⟩
  rw [hall] at HT HIT HPL HAL HB
  clear hall
  go_enter Ybad.func4, Ybad.ntmps4
  go_wp2_with (go_at_call 6; refine Calls.mono HB.out ?_; rintro e w1 ⟨v, rfl, hown, hb⟩; rw [← HAL.out] at hown; have HS := hid (SlA.of_own hown); have HB1 := hid hb; clear hown hb; obtain ⟨a1, cap1, hv1, _, hel⟩ := id HS.out; subst hv1; have HE := hid hel; clear hel; dsimp only)
  have hz1 := HB1.out.size
  have hal : all.length ≤ 300 := by have := HAL.out; omega
  go_loopg [4, 5] 4 (fun g0 v kv wi => ∃ k : Nat, k ≤ 4 ∧ g0 = 4 - k ∧ kv = .int .i64 ((k : Int) + 1) ∧ wi.ownsRow w1.heap.size 34 3 v (srlN all k).length (rowA (srlN all k)) ∧ Below w1.heap.size w1 wi)
  case atStart => exact ⟨0, by omega, rfl, rfl, World.ownsRow_nil _ _ _ _, Below.refl _ _⟩
  case round =>
    obtain ⟨k, hk, rfl, rfl, hown, hbel⟩ := hrel
    have HO := hid hown
    have HBE := hid hbel
    clear hown hbel
    have hsl := srlN_length k all
    by_cases hlt : k < 4
    · have hki : ((k : Int) + 1) ≤ 4 := by omega
      go_wp2_with fail
      go_loopg [4, 20] all.length (fun g0 v iv wi => ∃ q : Nat, q ≤ all.length ∧ g0 = all.length - q ∧ iv = .int .i64 (q : Int) ∧ wi.ownsRow w1.heap.size 34 3 v (srlN all k ++ (all.take q).filter fun x => x.t == ((k : Int) + 1)).length (rowA (srlN all k ++ (all.take q).filter fun x => x.t == ((k : Int) + 1))) ∧ Below w1.heap.size w1 wi)
      case atStart => exact ⟨0, Nat.zero_le _, rfl, rfl, by simpa using HO.out, HBE.out⟩
      case round =>
        obtain ⟨q, hq, rfl, rfl, hown, hbel⟩ := hrel
        clear HO HBE
        have HO := hid hown
        have HBE := hid hbel
        clear hown hbel
        by_cases hql : q < all.length
        · have hqi : (q : Int) < (all.length : Int) := by omega
          obtain ⟨b, off, rfl, hbl, c0', c1', c2'⟩ := cells_at HE.out hql hql
          obtain ⟨c, hc⟩ : ∃ c, all[q] = c := ⟨_, rfl⟩
          rw [hc] at c0' c1' c2'
          have c0 : wr.cell? ⟨b, off + q * 3, none⟩ = some (.string c.k) := (HBE.out.cell (p := ⟨b, off + q * 3, none⟩) hbl).trans c0'
          have c1 : wr.cell? ⟨b, off + q * 3 + 1, none⟩ = some (.int .i64 c.t) := (HBE.out.cell (p := ⟨b, off + q * 3 + 1, none⟩) hbl).trans c1'
          have c2 : wr.cell? ⟨b, off + q * 3 + 2, none⟩ = some (.string c.it) := (HBE.out.cell (p := ⟨b, off + q * 3 + 2, none⟩) hbl).trans c2'
          clear c0' c1' c2'
          have hsz := HBE.out.size
          have HTK := hid (show all.take (q + 1) = all.take q ++ [c] by rw [List.take_succ_eq_append_getElem hql, hc])
          clear hc
          have hfl : (srlN all k ++ (all.take q).filter fun x => x.t == ((k : Int) + 1)).length ≤ 10000 := by
            have := List.length_filter_le (fun x : Ac => x.t == ((k : Int) + 1)) (all.take q)
            rw [List.length_take] at this
            rw [List.length_append]; omega
          obtain ⟨xs, hxs⟩ : ∃ xs, (srlN all k ++ (all.take q).filter fun x => x.t == ((k : Int) + 1)) = xs := ⟨_, rfl⟩
          rw [hxs] at HO hfl
          have HX := hid hxs
          clear hxs
          obtain ⟨a3, cap3, hv3, hc3, _, _⟩ := own_form HO.out
          subst hv3
          by_cases hct : c.t = ((k : Int) + 1)
          · have hb1 : (c.t == ((k : Int) + 1)) = true := by simpa using hct
            have HCT := hid hct
            clear hct
            go_wp2_with (first
              | ((with_reducible refine bs34 (t := 29) c ?_ ?_); (exact rfl))
              | ((with_reducible refine apK Ybad.E24 (t := 28) (u := 30) w1.heap.size (.slice a3 xs.length cap3) xs.length (rowA xs) c.cells (wr.alloc (.cells #[.string c.k, .int .i64 c.t, .string c.it] 34)).heap.size ?_ ?_ ?_ ?_ ?_ ?_ ?_ ?_ ?_); (exact rfl); (exact rfl); (exact (HO.out.alloc _).alloc _); (exact heap_alloc_new _ _); (exact rfl); (exact Ac.one _); omega; (simp; omega); (intro g1 cap1 w2 hown1 hgrow1 _ _); (have H1 := hid (keep_strip HBE.out hsz HO.out hgrow1)); (have O1 := hid hown1); clear hown1 hgrow1))
            go_roundg (all.length - (q + 1))
            case measure => omega
            case rel =>
              refine ⟨q + 1, by omega, rfl, by go_num, ?_, H1.out⟩
              have := O1.out
              rw [HTK.out, List.filter_append, show [c].filter (fun x => x.t == ((k : Int) + 1)) = [c] from by simp [HCT.out], ← List.append_assoc, HX.out, rowA_append, List.length_append]
              simpa [rowA] using this
          · have hb1 : (c.t == ((k : Int) + 1)) = false := by simpa using hct
            have HCT := hid hct
            clear hct
            go_wp2_with fail
            go_roundg (all.length - (q + 1))
            case measure => omega
            case rel =>
              refine ⟨q + 1, by omega, rfl, by go_num, ?_, HBE.out.alloc hsz _⟩
              rw [HTK.out, List.filter_append, show [c].filter (fun x => x.t == ((k : Int) + 1)) = [] from by simpa using HCT.out, List.append_nil, HX.out]
              exact HO.out.alloc _
        · obtain rfl : q = all.length := by omega
          go_wp2_with fail
          go_roundg (4 - (k + 1))
          case measure => omega
          case rel =>
            refine ⟨k + 1, by omega, rfl, by go_num, ?_, HBE.out⟩
            rw [srlN_succ]
            simpa using HO.out
    · obtain rfl : k = 4 := by omega
      have HS4 := hid (SlA.of_own HO.out)
      have HM4 := hid (show ∀ x ∈ srlN all 4, 1 ≤ x.t ∧ x.t ≤ 4 from fun x hx => HT.out x (srlN_mem hx))
      have HI4 := hid (show ∀ x ∈ srlN all 4, x.it.size ≤ 100 from fun x hx => HIT.out x (srlN_mem hx))
      have HB14 := hid (HB1.out.trans (HBE.out.mono hz1))
      have HLK := hid (lockable_any wr u4 (srlN all 4) L (by omega) HS4.out HM4.out HI4.out (HLD.out.below HB14.out) HPL.out.pl)
      have hzr := HB14.out.size
      go_upto_if 37 with (go_at_call 7; refine Calls.mono HLK.out ?_; rintro e w5 ⟨vL, O, rfl, o1, o2, o3, hsl5, hb5⟩; have HFIN := hid (HPL.out.fin O o1 o2 o3); generalize lkF _ _ _ _ _ _ = lk at hsl5 HFIN; have HSL5 := hid hsl5; have HB5 := hid hb5; clear o1 o2 o3 hsl5 hb5; obtain ⟨aL, capL, hvL, _, _⟩ := id HSL5.out; subst hvL; dsimp only)
      obtain ⟨f1, f2, M', f3⟩ := HFIN.out
      have F1 := hid f1
      have F3 := hid f3
      clear f1 f3
      have hz5 := HB5.out.size
      obtain ⟨w8, hw8⟩ : ∃ w8, w8 = w5.alloc (.cells #[.slice aL lk.length capL, .slice none 0 0, .bool false] 28) := ⟨_, rfl⟩
      have hz8 : w8.heap.size = w5.heap.size + 1 := by rw [hw8]; simp
      have HB85 := hid (show Below w5.heap.size w5 w8 from by rw [hw8]; exact (Below.refl _ _).alloc (Nat.le_refl _) _)
      have HX8 := hid (show w8.heap[w5.heap.size]? = some (.cells #[.slice aL lk.length capL, .slice none 0 0, .bool false] 28 (0, 0)) from by rw [hw8]; exact heap_alloc_new _ _)
      rw [← hw8]
      clear hw8
      have q0 : w8.cell? ⟨w5.heap.size, 0, none⟩ = some (.slice aL lk.length capL) := by rw [cell_of_row _ _ _ _ _ _ HX8.out]; rfl
      have HB8r := hid (HB5.out.trans (HB85.out.mono hz5))
      have HSTR := hid (fun W hb => strip_at w8 u4 (srlN all 4) (by omega) (HS4.out.below HB8r.out) w5.heap.size (by omega) _ q0 W hb)
      have HCHK := hid (fun W v1 h1 hb => check_at w8 _ (srlN all 4) lk M' f2 F1.out (HSL5.out.below HB85.out) F3.out w5.heap.size (by omega) q0 W v1 h1 hb)
      have HB80 := hid (HB14.out.trans (HB8r.out.mono hzr))
      have q3 : Below w8.heap.size w8 w8.drew := (Below.refl _ _).drew
      refine wp_cond_false rfl (wp_skip ?_)
      dsimp only [Exit.then]
      apply_assumption
      go_upto_region 17 with fail
      go_region_held3 (fun W => Below w8.heap.size w8 W ∧ W.cell? ⟨w5.heap.size, 0, none⟩ = some (.slice aL lk.length capL)) ((refine ⟨by first | assumption | exact Below.drew (by assumption), ?_⟩; go_keep)) (first
        | (go_at_call 10; refine Calls.mono (HSTR.out _ (by go_split_ands; assumption)) ?_; rintro e wU ⟨v', rfl, hU, hU7, hU0⟩; have HU := hid hU; clear hU; dsimp only)
        | (go_at_call 9; refine Calls.mono (HCHK.out _ _ HU.out (by go_split_ands; assumption)) ?_; rintro e wV ⟨rfl, hV7, hV0⟩; dsimp only))
      go_wp2
      go_ret
      exact ⟨rfl, HB80.out.trans (hV7.mono (by have := HB80.out.size; omega))⟩

end Go.Proofs.YbulkbgasDoor
