import Derived.Test.YbulkbgasDoorCk8
namespace Go.Proofs.YbulkbgasDoor
open Go.RowKit Go.Maps
set_option linter.unusedVariables false
attribute [local go_sem ↓] Go.wp_at_zero Go.wp_at_succ

theorem Ybad.size28 : (Ybad.prog.info? 28).map (·.size) = some 3 := by kernel_rfl
theorem own_rangeA {w : World} {base g cap : Nat} {l : List Ac} (h : w.ownsRow base 34 3 (.slice (some ⟨g, 0, none⟩) l.length cap) l.length (rowA l)) : (∀ x (hx : x < l.length), w.rangeAt g (x * 3) l[x].cells) ∧ w.there g 0 (l.length * 3) ∧ base ≤ g ∧ g < w.heap.size ∧ l.length ≤ cap := by
  obtain ⟨a, c, e1, e2, e3⟩ := els_own h
  simp only [Value.slice.injEq, true_and] at e1
  obtain ⟨rfl, rfl⟩ := e1
  have hl : base ≤ g ∧ g < w.heap.size := h.lt g rfl
  refine ⟨fun x hx => ?_, fun j hj => ?_, hl.1, hl.2, e2⟩
  · obtain ⟨b, f1, f2, f3, f4⟩ := e3 x hx
    simp only [Option.some.injEq, Addr.mk.injEq, and_true] at f1
    obtain rfl := f1
    rw [rowA_get l x hx, Nat.zero_add] at f4
    exact f4
  · have hlen : (rowA l).length = l.length * 3 := by have := h.1; omega
    have := own_cell h (j := j) (by omega)
    rw [Nat.zero_add]
    exact ⟨by rw [this.1]; rfl, this.2⟩

set_option maxRecDepth 1000000 in
set_option maxHeartbeats 4000000 in
theorem lockable_any (w : World) (v : Value) (s : List Ac) (L : Nat → Nat) (hn : s.length ≤ 300) (hs : SlA w v s) (ht : ∀ a ∈ s, 1 ≤ a.t ∧ a.t ≤ 4) (hit : ∀ a ∈ s, a.it.size ≤ 100) (hld : Laid w) (hpl : Plain7 (keptA s) L) :
    Calls Ybad.prog 7 #[v] w fun e w' => ∃ vL O, e = .returned (.agg #[vL, .slice none 0 0, .bool false]) ∧ O.length = (txL (keptA s)).length ∧ O.Nodup ∧ (∀ j ∈ O, j < (txL (keptA s)).length) ∧ SlA w' vL (lkF (keptA s) (spF (acL (keptA s))) (txL (keptA s)) (bfAll (spF (acL (keptA s))) O) (ptAll L O) ((keptA s).length + 1)) ∧ Below w.heap.size w w' := by
  have HT := hid (show ∀ a ∈ keptA s, 1 ≤ a.t ∧ a.t ≤ 4 from fun a ha => ht a (List.mem_filter.1 ha).1)
  have HIT := hid (show ∀ a ∈ keptA s, a.it.size ≤ 100 from fun a ha => hit a (List.mem_filter.1 ha).1)
  have hkl : (keptA s).length ≤ s.length := List.length_filter_le _ _
  have HPL := hid hpl
  have HLD := hid hld
  have HS := hid hs
  obtain ⟨as_, capl, rfl, hcl, hel⟩ := hs
  clear ht hit hpl hld hel
  obtain ⟨w1, hw1⟩ : ∃ w1, w1 = w.alloc (.cells #[.slice none 0 0, .slice none 0 0, .bool false] 28) := ⟨_, rfl⟩
  have HB1 := hid (show Below w.heap.size w w1 from by rw [hw1]; exact (Below.refl _ _).alloc (Nat.le_refl _) _)
  have HX1 := hid (show w1.heap[w.heap.size]? = some (.cells #[.slice none 0 0, .slice none 0 0, .bool false] 28 (0, 0)) from by rw [hw1]; exact heap_alloc_new _ _)
  have hz1 : w1.heap.size = w.heap.size + 1 := by rw [hw1]; simp
  have HC := hid (contains_any w1 (.slice as_ s.length capl) s (by omega) (HS.out.below HB1.out))
  by_cases hlk : 0 ≤ idxLk s
  · have hpos : 0 < s.length := by
      rcases Nat.eq_zero_or_pos s.length with h0 | h0
      · have := List.eq_nil_of_length_eq_zero h0; subst this; simp [idxLk] at hlk
      · exact h0
    go_enter Ybad.func7, Ybad.ntmps7
    go_upto_region 1 with fail
    rw [← hw1]
    clear hw1
    go_upto_if 34 with (go_at_call 13; refine Calls.mono HC.out ?_; rintro e w2 ⟨rfl, hb⟩; have HB2 := hid hb; clear hb; rw [decide_eq_true hlk]; dsimp only)
    have HB12 := hid (HB1.out.trans (HB2.out.mono (by omega)))
    have hz2 := HB2.out.size
    have HCL := hid (clone_any w2 (.slice as_ s.length capl) s hpos (by omega) (HS.out.below HB12.out))
    refine wp_cond_true rfl ?_
    go_cut [0] from 35 to 37 (fun v0 wd => ∃ g cap, v0 = .slice (some ⟨g, 0, none⟩) (keptA s).length cap ∧ (keptA s).length ≤ cap ∧ g < wd.heap.size ∧ (∀ x (hx : x < (keptA s).length), wd.rangeAt g (x * 3) (keptA s)[x].cells) ∧ Below w2.heap.size w2 wd)
    case first =>
      go_wp2_with (first
        | (go_at_call 17; refine Calls.mono HCL.out ?_; rintro e w3 ⟨g, cap, rfl, hown, hb⟩; have HOW := hid hown; have HB3 := hid hb; clear hown hb; have HR := hid (own_rangeA HOW.out); dsimp only)
        | (go_at_call 16; refine Calls.mono (del_any w3 g cap s HR.out.2.2.2.2 (by omega) hlk HR.out.2.2.2.1 HR.out.1 HR.out.2.1) ?_; rintro e w4 ⟨rfl, hr, hg⟩; have HR4 := hid hr; have HG4 := hid hg; clear hr hg; dsimp only))
      go_meet
      have := HR.out.2.2
      exact ⟨g, cap, rfl, by omega, by have := HG4.out.size; omega, HR4.out, HB3.out.grown HG4.out HB3.out.size (fun k hk => by cases hk; omega)⟩
    case rest =>
      obtain ⟨g, cap, rfl, h1, h2, h3, h4⟩ := hcut
      have H3 := hid h3
      have H4 := hid h4
      have hz4 := h4.size
      clear h3 h4
      have HB14 := hid (HB12.out.trans (H4.out.mono (by omega)))
      apply_assumption
      refine ck_front _ w.heap.size (keptA s).length cap (some ⟨g, 0, none⟩) (keptA s) L rfl (by omega) h1 HT HIT (hid fun i hi => ⟨g, 0, rfl, h2, by
        have := H3.out i hi
        rw [Nat.zero_add]
        simpa [List.getD_eq_getElem?_getD, List.getElem?_eq_getElem hi] using this⟩) (hid (HLD.out.below HB14.out)) (hid ((H4.out.block _ (by omega)).trans ((HB2.out.block _ (by omega)).trans HX1.out))) HPL _ _ _ _ _ _ _ _ _ _ _ _ _ _ _ _ _ _ _ _ _ _ _ _ _ _ _ _ _ _ _ _ _ _ _ _ _ _ _ _ _ _ _ _ _ _ _ _ _ _ _ _ _ _ _ _ _ _ _ _ _ _ _ _ _ _ _ _ _ _ _ _ _ _ _ _ _ _ _ _ _ _ _ _ _ _ _ _ _ _ _ _ _ _ _ _ _ _ _ _ _ _ _ _ _ _ _ _ _ _ _ _ _ _ _ _ _ _ _ _ _ _ _ _ _ _ _ _ _ _ _ _ _ _ _ _ _ _ _ _ _ _ _ _ _ _ _ _ _ _ _ _ _ _ _ _ _ _ _ _ _ _ _ _ _ _ _ _ _ _ _ _ _ _ _ _ _ _ _ _ _ _ _ _ _ _ _ _ _ _ _ _ _ _ _ _ _ _ _ _ _ _ _ _ _ _ _ _ _ _ _ _ _ _ _ _ _ _ _ _ _ _ _ _ _ _ _ _ _ _ _ _ _ _ _ _ _ _ _ _ _ _ _ _ _ _ _ _ _ _ _ _ _ _ _ _ _ _ _ _ _ _ _ _ _ _ _ _ _ _ _ _ _ _ _ _ _ _ _ _ _ _ _ _ _ _ _ _ _ _ _ _ _ _ _ _ _ _ _ _ _ _ _ ?_
      intro u3 u4 u5 u6 u7 u8 u9 u10 u11 u12 u13 u14 u15 u16 u17 u18 u19 u20 u21 u22 u23 u24 u25 u26 u27 u28 u29 u30 u31 u32 u38 u39 u40 u41 u42 u43 u44 u45 u46 u47 u48 u49 u50 u51 u52 u53 u54 u55 u56 u57 u58 u59 u60 u61 u62 u63 u64 u65 u66 u67 u68 u69 u70 u71 u72 u73 u74 u75 u76 u77 u78 u79 u80 u81 u82 u83 u84 u85 u86 u87 u88 u89 u90 u91 u92 u93 u94 u95 u96 u97 u98 u99 u100 u101 u102 u103 u104 u105 u106 u107 u108 u109 u110 u111 u112 u113 u114 u115 u116 u117 u118 u119 u120 u121 u122 u123 u124 u125 u126 u127 u128 u129 u130 u131 u132 u133 u134 u135 u136 u137 u138 u139 u140 u141 u142 u143 u144 u145 u146 u147 u148 u149 u150 u151 u152 u153 u154 u155 u156 u157 u158 u159 u160 u161 u162 u163 u164 u165 u166 u167 u168 u169 u170 u171 u172 u173 u174 u175 u176 u177 u178 u179 u180 u181 u182 u183 u184 u185 u186 u187 u188 u189 u190 u191 u192 u193 u194 u195 u196 u197 u198 u199 u200 u201 u202 u203 u204 u205 u206 u207 u208 u209 u210 u211 u212 u213 u214 u215 u216 u217 u218 u219 u220 u221 u222 u223 u224 u225 u226 u227 u228 u229 u230 u231 u232 u233 u234 u235 u236 u237 u238 u239 u240 u241 u242 u243 u244 u245 u246 u247 u248 u249 u250 u251 u252 u253 u254 u255 u256 u257 u258 u259 u260 u261 u262 u263 u264 u265 u266 u267 u268 u269 u270 u271 u272 u273 u274 u275 u276 u277 u278 u279 u280 u281 u282 u283 u284 u285 u286 u287 u288 u289 u290 u291 u292 u293 u294 u295 u296 u297 u298 u299 u300 u301 u302 u303 wi hst
      obtain ⟨vL, O, r1, r2, r3, r4, r5, r6, r7, r8, r9, r10⟩ := hst
      refine bodyPost_ret (results_cell_row rfl _ _ w.heap.size 28 #[vL, .slice none 0 0, .bool false] (0, 0) _ rfl r5 Ybad.underlying28 rfl Ybad.size28) rfl ?_
      have hz14 := HB14.out.size
      exact ⟨vL, O, rfl, r1, r2, r3, r4, r6.trans HB14.out.os, r7.trans HB14.out.tape, r8.trans HB14.out.output, by omega, fun k hk => (r10 k (by omega) (by omega)).trans (HB14.out.block k hk)⟩
  · have hk : keptA s = s := filter_none hlk
    have HK := hid hk
    go_enter Ybad.func7, Ybad.ntmps7
    go_upto_region 1 with fail
    rw [← hw1]
    clear hw1
    go_upto_if 34 with (go_at_call 13; refine Calls.mono HC.out ?_; rintro e w2 ⟨rfl, hb⟩; have HB2 := hid hb; clear hb; rw [decide_eq_false hlk]; dsimp only)
    have HB12 := hid (HB1.out.trans (HB2.out.mono (by omega)))
    have hz2 := HB2.out.size
    refine wp_cond_false rfl (wp_skip ?_)
    dsimp only [Exit.then]
    apply_assumption
    obtain ⟨as2, capl2, e1, e2, e3⟩ := HS.out.below HB12.out
    simp only [Value.slice.injEq, true_and] at e1
    obtain ⟨rfl, rfl⟩ := e1
    refine ck_front _ w.heap.size s.length capl as_ (keptA s) L (by rw [hk]) (by omega) hcl HT HIT (hid (by rw [hk]; exact e3)) (hid (HLD.out.below HB12.out)) (hid ((HB2.out.block _ (by omega)).trans HX1.out)) HPL _ _ _ _ _ _ _ _ _ _ _ _ _ _ _ _ _ _ _ _ _ _ _ _ _ _ _ _ _ _ _ _ _ _ _ _ _ _ _ _ _ _ _ _ _ _ _ _ _ _ _ _ _ _ _ _ _ _ _ _ _ _ _ _ _ _ _ _ _ _ _ _ _ _ _ _ _ _ _ _ _ _ _ _ _ _ _ _ _ _ _ _ _ _ _ _ _ _ _ _ _ _ _ _ _ _ _ _ _ _ _ _ _ _ _ _ _ _ _ _ _ _ _ _ _ _ _ _ _ _ _ _ _ _ _ _ _ _ _ _ _ _ _ _ _ _ _ _ _ _ _ _ _ _ _ _ _ _ _ _ _ _ _ _ _ _ _ _ _ _ _ _ _ _ _ _ _ _ _ _ _ _ _ _ _ _ _ _ _ _ _ _ _ _ _ _ _ _ _ _ _ _ _ _ _ _ _ _ _ _ _ _ _ _ _ _ _ _ _ _ _ _ _ _ _ _ _ _ _ _ _ _ _ _ _ _ _ _ _ _ _ _ _ _ _ _ _ _ _ _ _ _ _ _ _ _ _ _ _ _ _ _ _ _ _ _ _ _ _ _ _ _ _ _ _ _ _ _ _ _ _ _ _ _ _ _ _ _ _ _ _ _ _ _ _ _ _ _ _ _ _ _ _ ?_
    intro u3 u4 u5 u6 u7 u8 u9 u10 u11 u12 u13 u14 u15 u16 u17 u18 u19 u20 u21 u22 u23 u24 u25 u26 u27 u28 u29 u30 u31 u32 u38 u39 u40 u41 u42 u43 u44 u45 u46 u47 u48 u49 u50 u51 u52 u53 u54 u55 u56 u57 u58 u59 u60 u61 u62 u63 u64 u65 u66 u67 u68 u69 u70 u71 u72 u73 u74 u75 u76 u77 u78 u79 u80 u81 u82 u83 u84 u85 u86 u87 u88 u89 u90 u91 u92 u93 u94 u95 u96 u97 u98 u99 u100 u101 u102 u103 u104 u105 u106 u107 u108 u109 u110 u111 u112 u113 u114 u115 u116 u117 u118 u119 u120 u121 u122 u123 u124 u125 u126 u127 u128 u129 u130 u131 u132 u133 u134 u135 u136 u137 u138 u139 u140 u141 u142 u143 u144 u145 u146 u147 u148 u149 u150 u151 u152 u153 u154 u155 u156 u157 u158 u159 u160 u161 u162 u163 u164 u165 u166 u167 u168 u169 u170 u171 u172 u173 u174 u175 u176 u177 u178 u179 u180 u181 u182 u183 u184 u185 u186 u187 u188 u189 u190 u191 u192 u193 u194 u195 u196 u197 u198 u199 u200 u201 u202 u203 u204 u205 u206 u207 u208 u209 u210 u211 u212 u213 u214 u215 u216 u217 u218 u219 u220 u221 u222 u223 u224 u225 u226 u227 u228 u229 u230 u231 u232 u233 u234 u235 u236 u237 u238 u239 u240 u241 u242 u243 u244 u245 u246 u247 u248 u249 u250 u251 u252 u253 u254 u255 u256 u257 u258 u259 u260 u261 u262 u263 u264 u265 u266 u267 u268 u269 u270 u271 u272 u273 u274 u275 u276 u277 u278 u279 u280 u281 u282 u283 u284 u285 u286 u287 u288 u289 u290 u291 u292 u293 u294 u295 u296 u297 u298 u299 u300 u301 u302 u303 wi hst
    obtain ⟨vL, O, r1, r2, r3, r4, r5, r6, r7, r8, r9, r10⟩ := hst
    refine bodyPost_ret (results_cell_row rfl _ _ w.heap.size 28 #[vL, .slice none 0 0, .bool false] (0, 0) _ rfl r5 Ybad.underlying28 rfl Ybad.size28) rfl ?_
    have hz14 := HB12.out.size
    exact ⟨vL, O, rfl, r1, r2, r3, r4, r6.trans HB12.out.os, r7.trans HB12.out.tape, r8.trans HB12.out.output, by omega, fun k hk => (r10 k (by omega) (by omega)).trans (HB12.out.block k hk)⟩

end Go.Proofs.YbulkbgasDoor
