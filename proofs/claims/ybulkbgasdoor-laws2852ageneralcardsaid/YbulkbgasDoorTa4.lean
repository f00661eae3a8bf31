import Derived.Test.YbulkbgasDoorTa3
import Derived.Test.YbulkbgasDoorCk3
namespace Go.Proofs.YbulkbgasDoor
open Go.RowKit Go.Maps
set_option linter.unusedVariables false
attribute [local go_sem ↓] Go.wp_at_zero Go.wp_at_succ

noncomputable def lp43 (k : Nat) : Code := ((Ybad.f43.body.map loopsOf).getD [])[k]?.getD .skip

theorem rowP_at (p : List (Nat × Nat)) (v k : Nat) : (rowP (p ++ [(v, k)]))[p.length * 2]? = some (.int .i64 (v : Int)) ∧ (rowP (p ++ [(v, k)]))[p.length * 2 + 1]? = some (.int .i64 (k : Int)) := by
  rw [rowP_snoc]
  have hl := rowP_length p
  rw [List.getElem?_append_right (by omega), List.getElem?_append_right (by omega), hl]
  simp
theorem rowP_set (p : List (Nat × Nat)) (v k k' : Nat) : (rowP (p ++ [(v, k)])).set (p.length * 2 + 1) (.int .i64 (k' : Int)) = rowP (p ++ [(v, k')]) := by
  rw [rowP_snoc, rowP_snoc]
  have hl := rowP_length p
  rw [List.set_append_right _ _ (by omega), hl]
  simp
/-- The path's last frame in memory. -/
theorem path_top {w : World} {base : Nat} {vP : Value} {p : List (Nat × Nat)} {v k : Nat} (h : w.ownsRow base 161 2 vP (p ++ [(v, k)]).length (rowP (p ++ [(v, k)]))) :
    ∃ g cap, vP = .slice (some ⟨g, 0, none⟩) (p.length + 1) cap ∧ base ≤ g ∧ g < w.heap.size ∧ p.length + 1 ≤ cap ∧ w.cell? ⟨g, p.length * 2, none⟩ = some (.int .i64 (v : Int)) ∧ w.cell? ⟨g, p.length * 2 + 1, none⟩ = some (.int .i64 (k : Int)) ∧ w.frozen? ⟨g, p.length * 2 + 1, none⟩ = false := by
  obtain ⟨a, cap, rfl, hcap, hs, hn⟩ := own_form h
  cases a with
  | none => have := (hn rfl).1; simp at this
  | some A =>
    obtain ⟨g, rfl⟩ := hs A rfl
    have hl : (rowP (p ++ [(v, k)])).length = (p.length + 1) * 2 := by rw [rowP_length]; simp
    have c0 := own_cell h (j := p.length * 2) (by omega)
    have c1 := own_cell h (j := p.length * 2 + 1) (by omega)
    have r := rowP_at p v k
    rw [List.getElem?_eq_getElem (by omega), List.getElem?_eq_getElem (by omega)] at r
    have hg := h.lt g rfl
    refine ⟨g, cap, by simp, hg.1, hg.2, by simpa using hcap, ?_, ?_, c1.2⟩
    · rw [c0.1]; exact r.1
    · rw [c1.1]; exact r.2
theorem TaG.setP {n : Nat} {w0 wr : World} {V : Nat → Nat → Value} {C : List Nat} {vC : Value} {p : List (Nat × Nat)} {v k g cap : Nat} (h : TaG n w0 wr V C vC (p ++ [(v, k)]) (.slice (some ⟨g, 0, none⟩) (p.length + 1) cap)) (k' : Nat) :
    TaG n w0 (wr.setCell ⟨g, p.length * 2 + 1, none⟩ (.int .i64 (k' : Int))) V C vC (p ++ [(v, k')]) (.slice (some ⟨g, 0, none⟩) (p.length + 1) cap) := by
  refine h.apP ?_ (gr_set _ _ _ _)
  have h1 := h.pa
  have e1 : (p ++ [(v, k)]).length = p.length + 1 := by simp
  have e2 : (p ++ [(v, k')]).length = p.length + 1 := by simp
  rw [e1] at h1
  rw [e2]
  have := own_setCell h1 (j := p.length * 2 + 1) (by rw [rowP_length]; simp; omega) (.int .i64 (k' : Int))
  rwa [rowP_set] at this

theorem ta_facts {n : Nat} {w0 W : World} {s : Tar} {vC : Value} {g cap : Nat} {p : List (Nat × Nat)} {v k : Nat} (h : TaS n w0 W s vC (.slice (some ⟨g, 0, none⟩) (p.length + 1) cap)) (hp : s.path = p ++ [(v, k)]) :
    W.cell? ⟨g, p.length * 2, none⟩ = some (.int .i64 (v : Int)) ∧ W.cell? ⟨g, p.length * 2 + 1, none⟩ = some (.int .i64 (k : Int)) ∧ W.frozen? ⟨g, p.length * 2 + 1, none⟩ = false ∧ W.cell? ⟨w0.heap.size + 8, 0, none⟩ = some (.slice (some ⟨g, 0, none⟩) (p.length + 1) cap) ∧ w0.heap.size + 10 ≤ g ∧ g < W.heap.size := by
  have hpa : W.ownsRow (w0.heap.size + 10) 161 2 (.slice (some ⟨g, 0, none⟩) (p.length + 1) cap) (p ++ [(v, k)]).length (rowP (p ++ [(v, k)])) := by have := h.pa; rw [hp] at this; exact this
  obtain ⟨g', cap', e, h1, h2, h3, h4, h5, h6⟩ := path_top hpa
  simp only [Value.slice.injEq, Option.some.injEq, Addr.mk.injEq, and_true, true_and] at e
  obtain ⟨rfl, rfl⟩ := e
  exact ⟨h4, h5, h6, h.cell (k := 8) (by omega) Nat.zero_lt_one, h1, h2⟩
theorem tarMu_adv (X : Nat → List Nat) (n : Nat) (s : Tar) (fin : List Nat) {p : List (Nat × Nat)} {v k : Nat} (hp : s.path = p ++ [(v, k)]) (hk : k < (X v).length) (low' : Nat → Nat) : tarMu X n { s with path := p ++ [(v, k + 1)], low := low' } fin < tarMu X n s fin := by
  unfold tarMu
  rw [hp]
  simp
  omega
theorem tarMu_reach (X : Nat → List Nat) (n : Nat) (s : Tar) (fin : List Nat) {p : List (Nat × Nat)} {v k w : Nat} (hp : s.path = p ++ [(v, k)]) (hk : k < (X v).length) (hw : (X w).length ≤ 100000) (hl : s.comp.length + 1 + fin.length ≤ n) : tarMu X n (({ s with path := p ++ [(v, k + 1)] } : Tar).reach w) fin < tarMu X n s fin := by
  unfold tarMu Tar.reach
  rw [hp]
  simp
  have e : n - (s.comp.length + fin.length) = (n - (s.comp.length + 1 + fin.length)) + 1 := by omega
  rw [e, Nat.add_mul]
  omega

set_option maxRecDepth 1000000 in
set_option maxHeartbeats 4000000 in
theorem ta_arc (X : Nat → List Nat) (n Bn : Nat) (w0 wr : World) (s : Tar) (fin : List Nat) (vC vP : Value) (p : List (Nat × Nat)) (v k : Nat) (hn : n ≤ 1000) (HX : Hid (∀ i, i < n → i ∉ X i)) (HXn : Hid (∀ i, i < n → ∀ j ∈ X i, j < n)) (HN : Hid (Near w0 Bn n X)) (HS : Hid (TaS n w0 wr s vC vP)) (HI : Hid (TarI X n s fin)) (hp : s.path = p ++ [(v, k)]) (hk : k < (X v).length)
    (Q : Exit → Act → World → Prop) (c1 c2 c12 c13 c14 c15 c16 c17 c18 c19 c20 c21 c22 c23 c24 c25 c26 c27 c28 c29 c30 c31 c32 c33 c34 c35 c36 c37 c38 c39 c40 c41 c42 c43 c44 c45 c46 c47 c48 c49 c50 c51 c52 c53 c54 c55 c56 c57 c58 c59 c60 c61 c62 c63 c64 c65 c66 c67 c68 c69 c70 c71 c72 c73 c74 c75 c76 c77 c78 c79 c80 c81 c82 c83 c84 c85 c86 c87 c88 c89 c90 c91 c92 c93 c94 c95 c96 c97 c98 c99 c100 c101 c102 c103 c104 c105 c106 c107 c108 c109 c110 c111 c112 c113 c114 c115 c116 c117 c118 c119 c120 c121 c122 c123 c124 c125 c126 c127 c128 c129 c130 c131 c132 c133 c134 c135 c136 c137 c138 c139 c140 c141 c142 c143 c144 c145 c146 c147 c148 c149 c150 c151 c152 c153 c154 c155 c156 c157 c158 c159 c160 c161 c162 c163 c164 c165 c166 c167 c168 c169 c170 c171 c172 c173 c174 c175 c176 c177 : Value)
    (hq : ∀ (u13 u14 u15 u16 u17 u19 u43 u44 u45 u46 u47 u48 u49 u50 u51 u52 u53 u54 u55 u56 u57 u58 u59 u60 u61 u62 u63 u64 u65 u66 u67 u68 u69 u70 u71 u72 u73 u74 u75 u76 u77 u78 u79 u80 u81 u82 u83 u84 u85 u86 u87 u88 u89 u90 u91 u92 u93 u94 u95 u96 u97 u98 u99 u100 u101 u102 u103 u104 u105 u106 u107 u108 u109 u110 u111 u112 u113 u114 u115 u116 u117 u118 u119 u120 u121 u122 u123 u124 u125 u126 u127 u128 u129 u130 u131 u132 u133 u134 u135 u136 u137 u138 u139 u140 u141 u142 u143 u144 u145 u146 u147 u148 u149 u150 u151 u152 u153 u154 u155 u156 u157 u158 u159 u160 u161 u162 u163 u164 u165 u166 u167 u168 u169 u170 u171 u172 u173 u174 u175 : Value) (wi : World), (∃ s2 fin2 vC2 vP2, TaS n w0 wi s2 vC2 vP2 ∧ TarI X n s2 fin2 ∧ tarMu X n s2 fin2 < tarMu X n s fin ∧ ∀ x, s.ord x ≠ 0 → s2.ord x ≠ 0) → Q .normal ⟨#[.slice (some ⟨Bn, 0, none⟩) n n, c1, c2, .int .i64 (n : Int), .slice (some ⟨w0.heap.size, 0, none⟩) n n, .pointer (some ⟨w0.heap.size + 2, 0, none⟩), .pointer (some ⟨w0.heap.size + 4, 0, none⟩), .pointer (some ⟨w0.heap.size + 5, 0, none⟩), .pointer (some ⟨w0.heap.size + 7, 0, none⟩), .pointer (some ⟨w0.heap.size + 8, 0, none⟩), .pointer (some ⟨w0.heap.size + 9, 0, none⟩), .func (.func 66) #[] #[.pointer (some ⟨w0.heap.size + 9, 0, none⟩), .pointer (some ⟨w0.heap.size + 2, 0, none⟩), .pointer (some ⟨w0.heap.size + 4, 0, none⟩), .pointer (some ⟨w0.heap.size + 5, 0, none⟩), .pointer (some ⟨w0.heap.size + 7, 0, none⟩), .pointer (some ⟨w0.heap.size + 8, 0, none⟩)], c12, u13, u14, u15, u16, u17, c18, u19, c20, c21, c22, c23, c24, c25, c26, c27, c28, c29, c30, c31, c32, c33, c34, c35, c36, c37, c38, c39, c40, c41, c42, u43, u44, u45, u46, u47, u48, u49, u50, u51, u52, u53, u54, u55, u56, u57, u58, u59, u60, u61, u62, u63, u64, u65, u66, u67, u68, u69, u70, u71, u72, u73, u74, u75, u76, u77, u78, u79, u80, u81, u82, u83, u84, u85, u86, u87, u88, u89, u90, u91, u92, u93, u94, u95, u96, u97, u98, u99, u100, u101, u102, u103, u104, u105, u106, u107, u108, u109, u110, u111, u112, u113, u114, u115, u116, u117, u118, u119, u120, u121, u122, u123, u124, u125, u126, u127, u128, u129, u130, u131, u132, u133, u134, u135, u136, u137, u138, u139, u140, u141, u142, u143, u144, u145, u146, u147, u148, u149, u150, u151, u152, u153, u154, u155, u156, u157, u158, u159, u160, u161, u162, u163, u164, u165, u166, u167, u168, u169, u170, u171, u172, u173, u174, u175, c176, c177], []⟩ wi) :
    Code.wp Ybad.prog (lp43 1) Q ⟨#[.slice (some ⟨Bn, 0, none⟩) n n, c1, c2, .int .i64 (n : Int), .slice (some ⟨w0.heap.size, 0, none⟩) n n, .pointer (some ⟨w0.heap.size + 2, 0, none⟩), .pointer (some ⟨w0.heap.size + 4, 0, none⟩), .pointer (some ⟨w0.heap.size + 5, 0, none⟩), .pointer (some ⟨w0.heap.size + 7, 0, none⟩), .pointer (some ⟨w0.heap.size + 8, 0, none⟩), .pointer (some ⟨w0.heap.size + 9, 0, none⟩), .func (.func 66) #[] #[.pointer (some ⟨w0.heap.size + 9, 0, none⟩), .pointer (some ⟨w0.heap.size + 2, 0, none⟩), .pointer (some ⟨w0.heap.size + 4, 0, none⟩), .pointer (some ⟨w0.heap.size + 5, 0, none⟩), .pointer (some ⟨w0.heap.size + 7, 0, none⟩), .pointer (some ⟨w0.heap.size + 8, 0, none⟩)], c12, c13, c14, c15, c16, c17, c18, c19, c20, c21, c22, c23, c24, c25, c26, c27, c28, c29, c30, c31, c32, c33, c34, c35, c36, c37, c38, c39, c40, c41, c42, c43, c44, c45, c46, c47, c48, c49, c50, c51, c52, c53, c54, c55, c56, c57, c58, c59, c60, c61, c62, c63, c64, c65, c66, c67, c68, c69, c70, c71, c72, c73, c74, c75, c76, c77, c78, c79, c80, c81, c82, c83, c84, c85, c86, c87, c88, c89, c90, c91, c92, c93, c94, c95, c96, c97, c98, c99, c100, c101, c102, c103, c104, c105, c106, c107, c108, c109, c110, c111, c112, c113, c114, c115, c116, c117, c118, c119, c120, c121, c122, c123, c124, c125, c126, c127, c128, c129, c130, c131, c132, c133, c134, c135, c136, c137, c138, c139, c140, c141, c142, c143, c144, c145, c146, c147, c148, c149, c150, c151, c152, c153, c154, c155, c156, c157, c158, c159, c160, c161, c162, c163, c164, c165, c166, c167, c168, c169, c170, c171, c172, c173, c174, c175, c176, c177], []⟩ wr := by
  refine Code.wp_mono NoPanic.imp ?_
  have HQ := hid hq
  clear hq
  conv => arg 2; whnf
  have HP := hid hp
  have HPA := hid (show wr.ownsRow (w0.heap.size + 10) 161 2 vP (p ++ [(v, k)]).length (rowP (p ++ [(v, k)])) from by have := HS.out.pa; rw [hp] at this; exact this)
  obtain ⟨g, cap, hvP, hgb, hgl, hgc, c0, c1, f1⟩ := path_top HPA.out
  subst hvP
  have hvn : v < n := HI.out.lt v (.inl (HI.out.path_comp (p := (v, k)) (by rw [hp]; simp)))
  have cB9 : wr.cell? ⟨w0.heap.size + 8, 0, none⟩ = some (.slice (some ⟨g, 0, none⟩) (p.length + 1) cap) := HS.out.cell (k := 8) (by omega) Nat.zero_lt_one
  obtain ⟨ax, capx, n0, n1, n2⟩ := HN.out.2 v hvn
  obtain ⟨bx, ox, hax, hbx, n3⟩ := n2 k hk
  subst hax
  have HBn := HN.out.1
  have q0 := (HS.out.bel.cell (p := ⟨Bn, v, none⟩) HBn).trans n0
  have q1 := (HS.out.bel.cell (p := ⟨bx, ox + k, none⟩) hbx).trans n3
  have hxv : (X v).length ≤ 100000 := n1
  have hvi : (v : Int) < (n : Int) := by omega
  have hv0 : (0 : Int) ≤ (v : Int) := by omega
  have hki : (k : Int) < ((X v).length : Int) := by omega
  have hk0 : (0 : Int) ≤ (k : Int) := by omega
  have hlp : p.length + 1 ≤ 1000 := by
    have h1 := HI.out.sub.length_le
    have h2 := HI.out.len
    rw [hp] at h1
    simp at h1; omega
  have hcb : s.comp.length ≤ 1000 := by have := HI.out.len; omega
  have hct : s.cnt ≤ 1000 := by have := HI.out.len; have := HI.out.ct; omega
  obtain ⟨w, hw⟩ : ∃ w, (X v)[k] = w := ⟨_, rfl⟩
  rw [hw] at q1 n3
  have HN0 := hid n0
  have HN3 := hid n3
  have hwn : w < n := HXn.out v hvn w (by rw [← hw]; exact List.getElem_mem _)
  have HW := hid hw
  clear n0 n1 n2 n3 hw hp
  have HXL := hid (show ∀ y, y < n → (X y).length ≤ 100000 from fun y hy => by obtain ⟨_, _, _, h1, _⟩ := HN.out.2 y hy; exact h1)
  dsimp only
  go_upto_region 18 with fail
  go_cut [64] from 43 to 175 (fun v64 wd => v64 = .bool true ∧ TaS n w0 wd s vC (.slice (some ⟨g, 0, none⟩) (p.length + 1) cap))
  case first =>
    go_quiet (fail)
    go_wp2_with fail
    go_meet
    exact ⟨rfl, HS.out.drewN _⟩
  case rest =>
    obtain ⟨rfl, hS⟩ := hcut
    clear HS c0 c1 f1 cB9 q0 q1 HPA hgl
    have HS := hid hS
    clear hS
    have q0 := (HS.out.bel.cell (p := ⟨Bn, v, none⟩) HBn).trans HN0.out
    have q1 := (HS.out.bel.cell (p := ⟨bx, ox + k, none⟩) hbx).trans HN3.out
    obtain ⟨c0, c1, f1, cB9, _, hgl⟩ := ta_facts HS.out HP.out
    go_upto_region 19 with fail
    go_cut [15] from 43 to 175 (fun v15 wd => v15 = .int .i64 (w : Int) ∧ TaS n w0 wd s vC (.slice (some ⟨g, 0, none⟩) (p.length + 1) cap))
    case first =>
      go_quiet (fail)
      go_wp2_with fail
      go_meet
      exact ⟨rfl, HS.out.drewN _⟩
    case rest =>
      obtain ⟨rfl, hS⟩ := hcut
      clear HS c0 c1 f1 cB9 q0 q1 hgl
      have HS := hid hS
      clear hS
      obtain ⟨c0, c1, f1, cB9, _, hgl⟩ := ta_facts HS.out HP.out
      have H1 := hid (TaG.setP (v := v) (k := k) (by have := HS.out; unfold TaS at this; rw [HP.out] at this; exact this) (k + 1))
      go_upto_region 21 with fail
      obtain ⟨w1, hw1⟩ : ∃ w1, w1 = wc.setCell ⟨g, p.length * 2 + 1, none⟩ (.int .i64 ((k : Int) + 1)) := ⟨_, rfl⟩
      rw [show ((k + 1 : Nat) : Int) = (k : Int) + 1 from by omega, ← hw1] at H1
      rw [← hw1]
      clear hw1 c0 c1 f1 cB9 HS
      have HT := hid (show TaS n w0 w1 { s with path := p ++ [(v, k + 1)] } vC (.slice (some ⟨g, 0, none⟩) (p.length + 1) cap) from H1.out)
      have d2 : w1.cell? ⟨w0.heap.size + 2, 0, none⟩ = some (.slice (some ⟨w0.heap.size + 1, 0, none⟩) n n) := H1.out.cell (k := 2) (by omega) Nat.zero_lt_one
      have d1 : w1.cell? ⟨w0.heap.size + 1, w, none⟩ = some (.int .i64 (s.ord w : Int)) := H1.out.cell (k := 1) (j := w) (by omega) hwn
      have hwi : (w : Int) < (n : Int) := by omega
      have hw0 : (0 : Int) ≤ (w : Int) := by omega
      obtain ⟨ow, how⟩ : ∃ ow, s.ord w = ow := ⟨_, rfl⟩
      rw [how] at d1
      have HEK := hid (show (X v)[k]? = some w from by rw [List.getElem?_eq_getElem hk, HW.out])
      by_cases h0 : ow = 0
      · have hb1 : ((ow : Int) == 0) = true := by simp [h0]
        have HTI := hid (HI.out.reach hwn (by rw [how, h0]) (P' := p ++ [(v, k + 1)]) (.inr ⟨p, v, k, HP.out, rfl, HEK.out⟩))
        have HMU := hid (tarMu_reach X n s fin HP.out hk (HXL.out w hwn) (by have := HTI.out.len; have e : (({ s with path := p ++ [(v, k + 1)] } : Tar).reach w).comp.length = s.comp.length + 1 := (by simp [Tar.reach]); omega))
        have HRE := hid (reach_any n w0 w1 { s with path := p ++ [(v, k + 1)] } vC _ w hwn hn hct hcb (by simp; omega) HT.out)
        subst h0
        have HOW := hid how
        clear how
        go_wp2_with (go_at_call 66; refine Calls.mono HRE.out ?_; rintro e w2 ⟨vC2, vP2, rfl, hst⟩; have HST := hid hst; clear hst; dsimp only)
        exact HQ.out _ _ _ _ _ _ _ _ _ _ _ _ _ _ _ _ _ _ _ _ _ _ _ _ _ _ _ _ _ _ _ _ _ _ _ _ _ _ _ _ _ _ _ _ _ _ _ _ _ _ _ _ _ _ _ _ _ _ _ _ _ _ _ _ _ _ _ _ _ _ _ _ _ _ _ _ _ _ _ _ _ _ _ _ _ _ _ _ _ _ _ _ _ _ _ _ _ _ _ _ _ _ _ _ _ _ _ _ _ _ _ _ _ _ _ _ _ _ _ _ _ _ _ _ _ _ _ _ _ _ _ _ _ _ _ _ _ _ _ _ ⟨_, fin, vC2, vP2, HST.out, HTI.out, HMU.out, fun x hx => by
          show updL s.ord w (s.cnt + 1) x ≠ 0
          unfold updL; split
          · omega
          · exact hx⟩
      · have hb1 : ((ow : Int) == 0) = false := by simp; omega
        have HOW := hid how
        have hwr : w ∈ s.comp ∨ w ∈ fin := (HI.out.rd w hwn).1 (by rw [how]; exact h0)
        clear how
        have d7 : w1.cell? ⟨w0.heap.size + 7, 0, none⟩ = some (.slice (some ⟨w0.heap.size + 6, 0, none⟩) n n) := H1.out.cell (k := 7) (by omega) Nat.zero_lt_one
        have d6 : w1.cell? ⟨w0.heap.size + 6, w, none⟩ = some (.bool (decide (w ∈ s.comp))) := H1.out.cell (k := 6) (j := w) (by omega) hwn
        by_cases hwc : w ∈ s.comp
        · rw [decide_eq_true hwc] at d6
          have HTI := hid (HI.out.adv HX.out HP.out HEK.out (.inr ⟨hwc, rfl⟩))
          have HMU := hid (tarMu_adv X n s fin HP.out hk (updL s.low v (min (s.low v) (s.ord w))))
          rw [HOW.out] at HTI HMU
          have d4 : w1.cell? ⟨w0.heap.size + 4, 0, none⟩ = some (.slice (some ⟨w0.heap.size + 3, 0, none⟩) n n) := H1.out.cell (k := 4) (by omega) Nat.zero_lt_one
          have d3 : w1.cell? ⟨w0.heap.size + 3, v, none⟩ = some (.int .i64 (s.low v : Int)) := H1.out.cell (k := 3) (j := v) (by omega) hvn
          have f3 := H1.out.free (k := 3) (by omega) v
          obtain ⟨lv, hlv⟩ : ∃ lv, s.low v = lv := ⟨_, rfl⟩
          rw [hlv] at d3 HTI HMU
          have H2 := hid (H1.out.set (k0 := 3) (j := v) (by omega) hvn (.int .i64 ((min lv ow : Nat) : Int)))
          have HLV := hid hlv
          clear hlv
          go_upto_region 24 with fail
          go_cut [] from 43 to 175 (fun wd => TaS n w0 wd { s with path := p ++ [(v, k + 1)], low := updL s.low v (min lv ow) } vC (.slice (some ⟨g, 0, none⟩) (p.length + 1) cap))
          case first =>
            rcases Nat.lt_or_ge ow lv with hol | hol
            · rw [Nat.min_eq_right (Nat.le_of_lt hol)] at H2
              go_region
              all_goals go_wp2_with fail
              all_goals go_meet
              all_goals rw [Nat.min_eq_right (Nat.le_of_lt hol)]
              all_goals exact (H2.out.congr (lt10 (fun j hj => rfl) (fun j hj => rfl) (fun j hj => rfl) (fun j hj => (by show upd (fun j => Value.int .i64 ((s.low j : Nat) : Int)) v (.int .i64 (ow : Int)) j = _; exact taUpd s.low v ow j)) (fun j hj => rfl) (fun j hj => rfl) (fun j hj => rfl) (fun j hj => rfl) (fun j hj => rfl) (fun j hj => rfl))).drew
            · rw [Nat.min_eq_left hol] at H2
              have hol' : ¬ ow < lv := by omega
              go_region
              all_goals go_wp2_with fail
              all_goals go_meet
              all_goals rw [Nat.min_eq_left hol]
              all_goals exact (H2.out.congr (lt10 (fun j hj => rfl) (fun j hj => rfl) (fun j hj => rfl) (fun j hj => (by show upd (fun j => Value.int .i64 ((s.low j : Nat) : Int)) v (.int .i64 (lv : Int)) j = _; exact taUpd s.low v lv j)) (fun j hj => rfl) (fun j hj => rfl) (fun j hj => rfl) (fun j hj => rfl) (fun j hj => rfl) (fun j hj => rfl))).drew
          case rest =>
            have HS2 := hid hcut
            clear hcut
            go_wp2_with fail
            exact HQ.out _ _ _ _ _ _ _ _ _ _ _ _ _ _ _ _ _ _ _ _ _ _ _ _ _ _ _ _ _ _ _ _ _ _ _ _ _ _ _ _ _ _ _ _ _ _ _ _ _ _ _ _ _ _ _ _ _ _ _ _ _ _ _ _ _ _ _ _ _ _ _ _ _ _ _ _ _ _ _ _ _ _ _ _ _ _ _ _ _ _ _ _ _ _ _ _ _ _ _ _ _ _ _ _ _ _ _ _ _ _ _ _ _ _ _ _ _ _ _ _ _ _ _ _ _ _ _ _ _ _ _ _ _ _ _ _ _ _ _ _ ⟨_, fin, _, _, HS2.out, HTI.out, HMU.out, fun x hx => hx⟩
        · rw [decide_eq_false hwc] at d6
          have HTI := hid (HI.out.adv HX.out HP.out HEK.out (low' := s.low) (.inl ⟨hwr.resolve_left hwc, rfl⟩))
          have HMU := hid (tarMu_adv X n s fin HP.out hk s.low)
          go_wp2_with fail
          exact HQ.out _ _ _ _ _ _ _ _ _ _ _ _ _ _ _ _ _ _ _ _ _ _ _ _ _ _ _ _ _ _ _ _ _ _ _ _ _ _ _ _ _ _ _ _ _ _ _ _ _ _ _ _ _ _ _ _ _ _ _ _ _ _ _ _ _ _ _ _ _ _ _ _ _ _ _ _ _ _ _ _ _ _ _ _ _ _ _ _ _ _ _ _ _ _ _ _ _ _ _ _ _ _ _ _ _ _ _ _ _ _ _ _ _ _ _ _ _ _ _ _ _ _ _ _ _ _ _ _ _ _ _ _ _ _ _ _ _ _ _ _ ⟨_, fin, _, _, HT.out, HTI.out, HMU.out, fun x hx => hx⟩

end Go.Proofs.YbulkbgasDoor
