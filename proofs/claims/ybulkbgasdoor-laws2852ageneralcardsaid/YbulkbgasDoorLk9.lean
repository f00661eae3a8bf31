import Derived.Test.YbulkbgasDoorLk8
namespace Go.Proofs.YbulkbgasDoor
open Go.RowKit Go.Maps
set_option linter.unusedVariables false
attribute [local go_sem ↓] Go.wp_at_zero Go.wp_at_succ

theorem own_lower {w : World} {b b' e k n : Nat} {v : Value} {xs : List Value} (h : w.ownsRow b e k v n xs) (hb : b' ≤ b) : w.ownsRow b' e k v n xs := by
  refine ⟨h.1, ?_⟩
  rcases h.2 with h1 | ⟨g, cap, cur, h1, h2, h3⟩
  · exact .inl h1
  · exact .inr ⟨g, cap, cur, h1, by omega, h3⟩

set_option maxRecDepth 1000000 in
set_option maxHeartbeats 4000000 in
theorem lock_any (w : World) (Bc nT m capt capl capS Bo na Bm bl bp : Nat) (at_ as_ al : Option Addr) (va : Value) (l : List Ac) (S : List Sp) (tx : List Int) (L : Nat → Nat) (pl : List Nat) (ok : LkOk l S nT L pl) (hB : Bc < w.heap.size) (hbx : w.heap[Bc]? = some (.cells #[.slice at_ nT capt, .int .i64 (m : Int), va] 63 (0, 0))) (htx : ∀ i, i < nT → ∃ bt ot, at_ = some ⟨bt, ot, none⟩ ∧ bt < w.heap.size ∧ w.cell? ⟨bt, ot + i, none⟩ = some (.int .i64 (tx.getD i 0)))
    (hs : Els w 3 as_ l.length fun i => (l.getD i ac0).cells) (hl : Els w 5 al S.length fun i => (S.getD i sp0).cells) (hbl : bl < w.heap.size) (hbp : bp < w.heap.size) (hL : ∀ i, i < nT → w.cell? ⟨bl, i, none⟩ = some (.int .i64 (L i : Int))) (hpl : ∀ q (hq : q < pl.length), w.cell? ⟨bp, q, none⟩ = some (.int .i64 (pl[q] : Int))) (hld : Laid w) :
    Calls Ybad.prog 32 #[.pointer (some ⟨Bc, 0, none⟩), .slice as_ l.length capl, .agg #[.slice al S.length capS, .slice (some ⟨Bo, 0, none⟩) na na, .map (some Bm)], .slice (some ⟨bl, 0, none⟩) nT nT, .slice (some ⟨bp, 0, none⟩) pl.length pl.length] w fun e w' => ∃ vL, e = .returned vL ∧ w'.ownsRow w.heap.size 34 3 vL (lkF l S tx (bfAll S pl) (ptAll L pl) (l.length + 1)).length (rowA (lkF l S tx (bfAll S pl) (ptAll L pl) (l.length + 1))) ∧ Below w.heap.size w w' := by
  have HOK := hid ok
  have hok1 := ok.ln
  have hok2 := ok.lS
  have hok3 := ok.lT
  have HBX := hid hbx
  have HTX := hid htx
  have HS := hid hs
  have HL := hid hl
  have HLT := hid hL
  have HPL := hid hpl
  have HLD := hid hld
  have cc0 : ∀ o, (w.alloc o).cell? ⟨Bc, 0, none⟩ = some (.slice at_ nT capt) := fun o => by rw [cell_of_row _ _ _ _ _ _ ((Below.heap_alloc _ _ _ hB).trans hbx)]; rfl
  clear hbx htx hs hl hL hpl hld ok
  have hmk1 := fun (W : World) => mk136 nT (by omega) W
  have hmk2 := fun (W : World) => mk137 l.length (by omega) W
  have hmk3 := fun (W : World) => mk121 l.length (by omega) W
  have hmk4 := fun (W : World) => mk69 (l.length + 1) (by omega) W
  rw [show ((l.length + 1 : Nat) : Int) = (l.length : Int) + 1 from by omega] at hmk4
  have hST := hid (show LkB w ((w.alloc (.cells #[.slice al S.length capS, .slice (some ⟨Bo, 0, none⟩) na na, .map (some Bm)] 57)).alloc (.cells (rowF nT fun _ => .slice none 0 0) 53)) #[.slice al S.length capS, .slice (some ⟨Bo, 0, none⟩) na na, .map (some Bm)] nT (fun _ => .slice none 0 0) (byT (S.take 0)) from ⟨(Below.heap_alloc _ _ _ (by simp)).trans (heap_alloc_new w _), alloc_at (by simp), Fam.nil _ rfl _ _ _ _ _, ((Below.refl _ w).alloc (Nat.le_refl _) _).alloc (by simp) _⟩)
  have b0 : ((w.alloc (.cells #[.slice al S.length capS, .slice (some ⟨Bo, 0, none⟩) na na, .map (some Bm)] 57)).alloc (.cells (rowF nT fun _ => .slice none 0 0) 53)).cell? ⟨w.heap.size, 0, none⟩ = some (.slice al S.length capS) := by rw [cell_of_row _ _ _ _ _ _ hST.out.box]; rfl
  go_enter Ybad.func32, Ybad.ntmps32
  go_wp2_with fail
  go_loopg [39] S.length (fun g i wr => ∃ (q : Nat) (v : Nat → Value), q ≤ S.length ∧ g = S.length - q ∧ i = .int .i64 (q : Int) ∧ LkB w wr #[.slice al S.length capS, .slice (some ⟨Bo, 0, none⟩) na na, .map (some Bm)] nT v (byT (S.take q)))
  case atStart => exact ⟨0, _, Nat.zero_le _, rfl, rfl, hST.out⟩
  case round =>
    obtain ⟨q, v, hq, rfl, rfl, hst⟩ := hrel
    have N1 := hid hst
    clear hst hST b0 cc0
    by_cases hlt : q < S.length
    · refine lk_round1 w wr nT q capS al S v _ hok2 (by omega) hlt HL (hid (fun i hi => (HOK.out.sp (S.getD i sp0) (by rw [List.getD_eq_getElem?_getD, List.getElem?_eq_getElem hi]; exact List.getElem_mem _)).1)) N1 _ _ _ _ _ _ _ _ _ _ _ _ _ _ _ _ _ _ _ _ _ _ _ _ _ _ _ _ _ _ _ _ _ _ _ _ _ _ _ _ _ _ _ _ _ _ _ _ _ _ _ _ _ _ _ _ _ _ _ _ _ _ _ _ _ _ _ _ _ _ _ _ _ _ _ _ _ _ _ _ _ _ _ _ _ _ _ _ _ _ _ _ _ _ _ _ _ _ _ _ _ _ _ _ _ _ _ _ _ _ _ _ _ _ _ _ _ _ _ _ _ _ _ _ _ _ _ _ _ _ _ _ _ _ _ _ _ _ _ _ _ _ _ _ _ _ _ _ _ _ _ _ _ _ _ _ _ _ _ _ _ _ _ _ _ _ _ _ _ _ _ _ _ _ _ _ _ _ _ _ _ _ _ _ _ _ _ _ _ _ _ _ _ _ _ _ _ _ _ _ _ _ _ _ _ _ _ _ _ _ _ _ _ _ _ _ _ _ _ _ _ _ _ _ _ _ _ _ _ _ _ _ _ _ _ _ _ _ _ _ _ _ _ _ _ _ _ _ _ _ _ _ _ _ _ _ _ _ _ _ _ _ _ _ _ _ _ _ _ _ _ _ _ _ _ _ _ _ _ _ _ _ _ _ _ _ _ _ _ _ _ _ _ _ _ _ _ _ _ _ _ _ _ _ _ _ _ _ ?_
      intro u13 u40 u41 u42 u43 u44 u45 u46 u47 u48 u49 u50 u51 u52 u53 u54 u55 wi hst
      obtain ⟨v2, hst⟩ := hst
      dsimp only [Exit.then]
      go_wp2_with fail
      go_roundg (S.length - (q + 1))
      case measure => omega
      case rel => exact ⟨q + 1, v2, by omega, rfl, rfl, hst⟩
    · obtain rfl : q = S.length := by omega
      rw [List.take_length] at N1
      obtain ⟨W2, hW2⟩ : ∃ W2, W2 = wr := ⟨_, rfl⟩
      rw [← hW2] at N1 ⊢
      clear hW2
      have HBY := hid (N1.out.by (fun i => Nat.le_trans (byT_length S i) hok2))
      have HBW := hid N1.out.bel
      have hz2 := N1.out.bel.size
      have HLD2 := hid (HLD.out.below N1.out.bel)
      have bs0 : W2.cell? ⟨w.heap.size, 0, none⟩ = some (.slice al S.length capS) := by rw [cell_of_row _ _ _ _ _ _ N1.out.box]; rfl
      have HBS0 := hid bs0
      have hz3 := N1.out.lt
      clear N1 bs0
      go_wp2_with fail
      go_loopg [68] pl.length (fun g i wr => ∃ (q : Nat) (v2 : Nat → Value), q ≤ pl.length ∧ g = pl.length - q ∧ i = .int .i64 (q : Int) ∧ LkC W2 wr l.length ((pl.take q).foldl (bfIn S) fun _ => ⟨#[]⟩) v2 ((pl.take q).foldl (ptIn L) fun _ => []))
      case atStart => exact ⟨0, _, Nat.zero_le _, rfl, rfl, lkC_begin W2 l.length⟩
      case round =>
        obtain ⟨q, v2, hq, rfl, rfl, hst⟩ := hrel
        have N2 := hid hst
        clear hst
        by_cases hlt2 : q < pl.length
        · have hi : pl[q] < nT := HOK.out.mem _ (List.getElem_mem _)
          refine lk_round2 W2 wr l.length nT q bp bl (w.heap.size + 1) pl[q] L S pl _ v2 _ (by omega) (by omega) (by rw [HOK.out.lp]; omega) hlt2 (by omega) (by omega) ((HBW.out.cell (p := ⟨bp, q, none⟩) hbp).trans (HPL.out q hlt2)) ((HBW.out.cell (p := ⟨bl, pl[q], none⟩) hbl).trans (HLT.out _ hi)) hi (HOK.out.lL _ hi) (hid (fun s hs => by
              obtain ⟨h1, h2⟩ := byT_mem hs
              have := HOK.out.sp s h1
              rw [h2] at this
              exact ⟨this.2.1, this.2.2.1, this.2.2.2.1⟩)) HBY HLD2 (fun j => by rw [ptF_mem (n := 0)]; simp only [List.nil_append]; exact Nat.le_trans (List.length_filter_le _ _) (by rw [List.length_take, HOK.out.lp]; omega)) N2 _ _ _ _ _ _ _ _ _ _ _ _ _ _ _ _ _ _ _ _ _ _ _ _ _ _ _ _ _ _ _ _ _ _ _ _ _ _ _ _ _ _ _ _ _ _ _ _ _ _ _ _ _ _ _ _ _ _ _ _ _ _ _ _ _ _ _ _ _ _ _ _ _ _ _ _ _ _ _ _ _ _ _ _ _ _ _ _ _ _ _ _ _ _ _ _ _ _ _ _ _ _ _ _ _ _ _ _ _ _ _ _ _ _ _ _ _ _ _ _ _ _ _ _ _ _ _ _ _ _ _ _ _ _ _ _ _ _ _ _ _ _ _ _ _ _ _ _ _ _ _ _ _ _ _ _ _ _ _ _ _ _ _ _ _ _ _ _ _ _ _ _ _ _ _ _ _ _ _ _ _ _ _ _ _ _ _ _ _ _ _ _ _ _ _ _ _ _ _ _ _ _ _ _ _ _ _ _ _ _ _ _ _ _ _ _ _ _ _ _ _ _ _ _ _ _ _ _ _ _ _ _ _ _ _ _ _ _ _ _ _ _ _ _ _ _ _ _ _ _ _ _ _ _ _ _ _ _ _ _ _ _ _ _ _ _ _ _ _ _ _ _ _ _ _ _ _ _ _ _ _ _ _ _ _ _ _ _ _ _ _ _ _ _ _ _ _ _ _ _ _ _ _ _ ?_
          intro u18 u19 u21 u69 u70 u71 u72 u73 u74 u75 u76 u77 u78 u79 u80 u81 u82 u83 u84 u85 u86 u87 u88 u89 u90 u91 u92 u93 u94 u95 u96 u97 u98 u99 u100 u101 u102 u103 u104 u105 u106 u107 u108 u109 u110 u111 u112 u113 u114 u115 u116 u117 u118 u119 u120 u121 u122 u123 u124 u125 u126 u127 u128 u129 u130 u131 u132 u133 u134 u135 wi hst
          obtain ⟨v3, hst⟩ := hst
          dsimp only [Exit.then]
          go_wp2_with fail
          go_roundg (pl.length - (q + 1))
          case measure => omega
          case rel =>
            refine ⟨q + 1, v3, by omega, rfl, rfl, ?_⟩
            rw [foldl_take_succ (bfIn S) pl 0 hlt2, foldl_take_succ (ptIn L) pl 0 hlt2]
            have e : pl.getD q 0 = pl[q] := by simp [List.getD_eq_getElem?_getD, List.getElem?_eq_getElem hlt2]
            rw [e]
            exact hst
        · obtain rfl : q = pl.length := by omega
          rw [List.take_length] at N2
          change Hid (LkC W2 wr l.length (bfAll S pl) v2 (ptAll L pl)) at N2
          have c0 := (N2.out.bel.cell (p := ⟨w.heap.size, 0, none⟩) (by show w.heap.size < _; omega)).trans HBS0.out
          obtain ⟨ie, hie, hz0, hsz0, hb0⟩ := info_parts Ybad.E24.info
          have hfew := Ybad.E24.few
          obtain ⟨w5, hmk5, hown5, hg5⟩ := run_make_own (P := Ybad.prog) wr wr.heap.size 24 34 ie _ 3 Ybad.E24.und hie hz0 hsz0 .i64 .i64 (l.length + 3 * S.length) (by rw [hb0]; exact Nat.le_trans (Nat.mul_le_mul hfew (show l.length + 3 * S.length ≤ 2000 by omega)) (by omega)) (by unfold maxLen; omega) (Nat.le_refl _)
          rw [show ((l.length + 3 * S.length : Nat) : Int) = (l.length : Int) + 3 * (S.length : Int) from by omega] at hmk5
          go_wp2_with fail
          obtain ⟨W4, hW4⟩ : ∃ W4, W4 = wr := ⟨_, rfl⟩
          rw [← hW4] at N2 hown5 hg5 ⊢
          clear hW4 hmk5 hie hz0 hsz0 hb0 hfew c0 hmk1 hmk2 hmk3 hmk4
          have NL := hid (show LkL W4 w5 (.slice (some ⟨W4.heap.size, 0, none⟩) 0 (l.length + 3 * S.length)) [] from ⟨hown5, hg5.os, hg5.tape, hg5.output, hg5.size, fun k hk => hg5.block k hk (by simp)⟩)
          have HB4 := hid (HBW.out.trans (N2.out.bel.mono hz2))
          have hz4 := N2.out.lt
          have hzw := HB4.out.size
          have HBY4 := hid (HBY.out.below N2.out.bel)
          have HPT := hid (fun j => ptAll_eq L pl j)
          have HX12 := hid (show ∀ i, i < nT → ∃ btx otx, btx < W4.heap.size ∧ W4.cell? ⟨Bc, 0, none⟩ = some (.slice (some ⟨btx, otx, none⟩) nT capt) ∧ W4.cell? ⟨btx, otx + i, none⟩ = some (.int .i64 (tx.getD i 0)) from fun i hi => by
            obtain ⟨bt, ot, e1, e2, e3⟩ := HTX.out i hi
            exact ⟨bt, ot, by omega, (HB4.out.cell (p := ⟨Bc, 0, none⟩) hB).trans (by rw [cell_of_row _ _ _ _ _ _ HBX.out, e1]; rfl), (HB4.out.cell (p := ⟨bt, ot + i, none⟩) e2).trans e3⟩)
          have HX3 := hid (show ∀ f, f < l.length → ∃ bs os, as_ = some ⟨bs, os, none⟩ ∧ bs < W4.heap.size ∧ W4.cell? ⟨bs, os + f * 3, none⟩ = some (.string (l.getD f ac0).k) ∧ W4.cell? ⟨bs, os + f * 3 + 1, none⟩ = some (.int .i64 (l.getD f ac0).t) ∧ W4.cell? ⟨bs, os + f * 3 + 2, none⟩ = some (.string (l.getD f ac0).it) from fun f hf => by
            obtain ⟨b, o, e1, e2, e3⟩ := HS.out f hf
            exact ⟨b, o, e1, by omega, (HB4.out.cell (p := ⟨b, o + f * 3, none⟩) e2).trans (e3 0 _ rfl), (HB4.out.cell (p := ⟨b, o + f * 3 + 1, none⟩) e2).trans (e3 1 _ rfl), (HB4.out.cell (p := ⟨b, o + f * 3 + 2, none⟩) e2).trans (e3 2 _ rfl)⟩)
          clear hown5 hg5
          go_loopg [22, 23] (l.length + 1) (fun g0 vv iv wi => ∃ (pt : Nat) (vL : Value), pt ≤ l.length + 1 ∧ g0 = l.length + 1 - pt ∧ vL = vv ∧ iv = .int .i64 (pt : Int) ∧ LkL W4 wi vL (lkF l S tx (bfAll S pl) (ptAll L pl) pt))
          case atStart => exact ⟨0, _, Nat.zero_le _, rfl, rfl, rfl, NL.out⟩
          case round =>
            obtain ⟨pt, vL, hat, rfl, rfl, rfl, hst⟩ := hrel
            have N3 := hid hst
            clear hst NL
            by_cases hlt3 : pt ≤ l.length
            · have hown := N2.out.fam.own pt (by omega)
              obtain ⟨ap_, capp, hva, _, _, _⟩ := own_form hown
              have hmem : ∀ i ∈ ptAll L pl pt, i < nT ∧ L i = pt := fun i hi => by
                rw [HPT.out] at hi
                obtain ⟨h1, h2⟩ := List.mem_filter.1 hi
                exact ⟨HOK.out.mem i h1, by simpa using h2⟩
              refine lk_round4 W4 wr Bc (w.heap.size + 1) W2.heap.size nT l.length pt capt capl capp ap_ as_ (bfAll S pl) (ptAll L pl) S l tx vL _ rfl (by omega) hlt3 (by rw [HPT.out]; exact Nat.le_trans (List.length_filter_le _ _) (by rw [HOK.out.lp]; omega)) (by omega) hz4 (bfF_three pl _ (fun _ => .inl rfl) pt) (fun h => N2.out.be.cell h) (fun j hj => N2.out.af.cell hj) (by rw [N2.out.po.cell (by omega), hva]) (hid (fun q hq => by
                  obtain ⟨g, cap, h1, h2, h3, h4, h5⟩ := ownI_cell hown hq
                  rw [hva] at h1
                  simp only [Value.slice.injEq] at h1
                  exact ⟨g, 0, h1.1, h3, by rw [Nat.zero_add]; exact h5⟩)) (hid (fun i hi => by
                  obtain ⟨h1, h2⟩ := hmem i hi
                  refine ⟨h1, fun s hs => ?_⟩
                  obtain ⟨h3, h4⟩ := byT_mem hs
                  have := HOK.out.sp s h3
                  rw [h4, h2] at this
                  exact this.2)) HBY4 (lk_room HOK.out tx _ hlt3) (by omega) HX12 HX3 N3 _ _ _ _ _ _ _ _ _ _ _ _ _ _ _ _ _ _ _ _ _ _ _ _ _ _ _ _ _ _ _ _ _ _ _ _ _ _ _ _ _ _ _ _ _ _ _ _ _ _ _ _ _ _ _ _ _ _ _ _ _ _ _ _ _ _ _ _ _ _ _ _ _ _ _ _ _ _ _ _ _ _ _ _ _ _ _ _ _ _ _ _ _ _ _ _ _ _ _ _ _ _ _ _ _ _ _ _ _ _ _ _ _ _ _ _ _ _ _ _ _ _ _ _ _ _ _ _ _ _ _ _ _ _ _ _ _ _ _ _ _ _ _ _ _ _ _ _ _ _ _ _ _ _ _ _ _ _ _ _ _ _ _ _ _ _ _ _ _ _ _ _ _ _ _ _ _ _ _ _ _ _ _ _ _ _ _ _ _ _ _ _ _ _ _ _ _ _ _ _ _ _ _ _ _ _ _ _ _ _ _ _ _ _ _ _ _ _ _ _ _ _ _ _ _ _ _ _ _ _ _ _ _ _ _ _ _ _ _ _ _ _ _ _ _ _ _ _ _ _ _ _ _ _ _ _ _ _ _ _ _ _ _ _ _ _ _ _ _ _ _ _ _ _ _ _ _ _ _ _ _ _ _ _ _ _ _ _ _ _ _ _ _ _ _ _ _ _ _ _ _ _ _ _ ?_
              intro u25 u27 u29 u144 u145 u146 u147 u148 u149 u150 u151 u152 u153 u154 u155 u156 u157 u158 u159 u160 u161 u162 u163 u164 u165 u166 u167 u168 u169 u170 u171 u172 u173 u174 u175 u176 u177 u178 u179 u180 u181 u182 u183 u184 u185 u186 u187 u188 u189 u190 u191 u192 u193 u194 u195 u196 u197 u198 u199 u200 u201 u202 u203 u204 u205 u206 u207 u208 u209 u210 u211 u212 u213 u214 u215 u216 u217 u218 u219 u220 u221 u222 u223 u224 u225 u226 u227 u228 u229 u230 u231 u232 u233 u234 u235 u236 u237 u238 u239 u240 u241 u242 u243 u244 u245 u246 u247 u248 u249 u250 u251 u252 u253 u254 u255 u256 u257 u258 u259 u260 u261 u262 u263 u264 u265 u266 u267 u268 u269 u270 u271 u272 u273 u274 u275 u276 u277 u278 u279 u280 u281 u282 u283 u284 u285 u286 u287 u288 u289 u290 u291 u292 u293 u294 u295 u296 u297 u298 u299 u300 u301 u302 u303 u304 u305 u306 u307 u308 u309 vL2 wi hst
              dsimp only [Exit.then]
              go_wp2_with fail
              go_roundg (l.length + 1 - (pt + 1))
              case measure => omega
              case rel => exact ⟨pt + 1, vL2, by omega, rfl, rfl, rfl, by rw [lkF_succ]; exact hst⟩
            · obtain rfl : pt = l.length + 1 := by omega
              have hge : ¬ ((l.length + 1 : Nat) : Int) ≤ (l.length : Int) := by omega
              have hge2 : ¬ (l.length : Int) + 1 ≤ (l.length : Int) := by omega
              go_wp2_with fail
              go_ret
              exact ⟨_, rfl, own_lower N3.out.own hzw, HB4.out.trans (N3.out.bel.mono hzw)⟩
end Go.Proofs.YbulkbgasDoor
