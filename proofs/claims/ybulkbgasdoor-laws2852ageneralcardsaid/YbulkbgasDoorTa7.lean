import Derived.Test.YbulkbgasDoorTa6
namespace Go.Proofs.YbulkbgasDoor
open Go.RowKit Go.Maps
set_option linter.unusedVariables false
attribute [local go_sem ↓] Go.wp_at_zero Go.wp_at_succ

/-- The path's last frame is taken off. -/
theorem TaG.popP {n : Nat} {w0 wr : World} {V : Nat → Nat → Value} {C : List Nat} {vC : Value} {p : List (Nat × Nat)} {x : Nat × Nat} {g cap : Nat} (h : TaG n w0 wr V C vC (p ++ [x]) (.slice (some ⟨g, 0, none⟩) (p.length + 1) cap)) : TaG n w0 wr V C vC p (.slice (some ⟨g, 0, none⟩) p.length cap) := by
  refine h.apP ?_ (gr_refl _ _)
  have h1 := h.pa
  have e1 : (p ++ [x]).length = p.length + 1 := by simp
  rw [e1] at h1
  have := own_short h1 (m := p.length) (by omega)
  rwa [rowP_take] at this
theorem tarMu_pop (X : Nat → List Nat) (n : Nat) (s : Tar) (fin fin2 : List Nat) {p : List (Nat × Nat)} {v k : Nat} (hp : s.path = p ++ [(v, k)]) (s2 : Tar) (h2 : s2.path = p) (hl : s2.comp.length + fin2.length = s.comp.length + fin.length) : tarMu X n s2 fin2 < tarMu X n s fin := by
  unfold tarMu
  rw [hp, h2, hl]
  simp
theorem comp_split {s : Tar} {v : Nat} (h : v ∈ s.comp) : ∃ pre seg, s.comp = pre ++ v :: seg := List.append_of_mem h

set_option maxRecDepth 1000000 in
set_option maxHeartbeats 4000000 in
theorem ta_back (X : Nat → List Nat) (n Bn : Nat) (w0 wr : World) (s : Tar) (fin : List Nat) (vC vP : Value) (p : List (Nat × Nat)) (v k : Nat) (hn : n ≤ 1000) (HN : Hid (Near w0 Bn n X)) (HS : Hid (TaS n w0 wr s vC vP)) (HI : Hid (TarI X n s fin)) (hp : s.path = p ++ [(v, k)]) (hk : k = (X v).length)
    (Q : Exit → Act → World → Prop) (c1 c2 c12 c13 c14 c15 c16 c17 c18 c19 c20 c21 c22 c23 c24 c25 c26 c27 c28 c29 c30 c31 c32 c33 c34 c35 c36 c37 c38 c39 c40 c41 c42 c43 c44 c45 c46 c47 c48 c49 c50 c51 c52 c53 c54 c55 c56 c57 c58 c59 c60 c61 c62 c63 c64 c65 c66 c67 c68 c69 c70 c71 c72 c73 c74 c75 c76 c77 c78 c79 c80 c81 c82 c83 c84 c85 c86 c87 c88 c89 c90 c91 c92 c93 c94 c95 c96 c97 c98 c99 c100 c101 c102 c103 c104 c105 c106 c107 c108 c109 c110 c111 c112 c113 c114 c115 c116 c117 c118 c119 c120 c121 c122 c123 c124 c125 c126 c127 c128 c129 c130 c131 c132 c133 c134 c135 c136 c137 c138 c139 c140 c141 c142 c143 c144 c145 c146 c147 c148 c149 c150 c151 c152 c153 c154 c155 c156 c157 c158 c159 c160 c161 c162 c163 c164 c165 c166 c167 c168 c169 c170 c171 c172 c173 c174 c175 c176 c177 : Value)
    (hq : ∀ (u13 u14 u15 u16 u17 u19 u43 u44 u45 u46 u47 u48 u49 u50 u51 u52 u53 u54 u55 u56 u57 u58 u59 u60 u61 u62 u63 u64 u65 u66 u67 u68 u69 u70 u71 u72 u73 u74 u75 u76 u77 u78 u79 u80 u81 u82 u83 u84 u85 u86 u87 u88 u89 u90 u91 u92 u93 u94 u95 u96 u97 u98 u99 u100 u101 u102 u103 u104 u105 u106 u107 u108 u109 u110 u111 u112 u113 u114 u115 u116 u117 u118 u119 u120 u121 u122 u123 u124 u125 u126 u127 u128 u129 u130 u131 u132 u133 u134 u135 u136 u137 u138 u139 u140 u141 u142 u143 u144 u145 u146 u147 u148 u149 u150 u151 u152 u153 u154 u155 u156 u157 u158 u159 u160 u161 u162 u163 u164 u165 u166 u167 u168 u169 u170 u171 u172 u173 u174 u175 : Value) (wi : World), (∃ s2 fin2 vC2 vP2, TaS n w0 wi s2 vC2 vP2 ∧ TarI X n s2 fin2 ∧ tarMu X n s2 fin2 < tarMu X n s fin ∧ ∀ x, s.ord x ≠ 0 → s2.ord x ≠ 0) → Q .normal ⟨#[.slice (some ⟨Bn, 0, none⟩) n n, c1, c2, .int .i64 (n : Int), .slice (some ⟨w0.heap.size, 0, none⟩) n n, .pointer (some ⟨w0.heap.size + 2, 0, none⟩), .pointer (some ⟨w0.heap.size + 4, 0, none⟩), .pointer (some ⟨w0.heap.size + 5, 0, none⟩), .pointer (some ⟨w0.heap.size + 7, 0, none⟩), .pointer (some ⟨w0.heap.size + 8, 0, none⟩), .pointer (some ⟨w0.heap.size + 9, 0, none⟩), .func (.func 66) #[] #[.pointer (some ⟨w0.heap.size + 9, 0, none⟩), .pointer (some ⟨w0.heap.size + 2, 0, none⟩), .pointer (some ⟨w0.heap.size + 4, 0, none⟩), .pointer (some ⟨w0.heap.size + 5, 0, none⟩), .pointer (some ⟨w0.heap.size + 7, 0, none⟩), .pointer (some ⟨w0.heap.size + 8, 0, none⟩)], c12, u13, u14, u15, u16, u17, c18, u19, c20, c21, c22, c23, c24, c25, c26, c27, c28, c29, c30, c31, c32, c33, c34, c35, c36, c37, c38, c39, c40, c41, c42, u43, u44, u45, u46, u47, u48, u49, u50, u51, u52, u53, u54, u55, u56, u57, u58, u59, u60, u61, u62, u63, u64, u65, u66, u67, u68, u69, u70, u71, u72, u73, u74, u75, u76, u77, u78, u79, u80, u81, u82, u83, u84, u85, u86, u87, u88, u89, u90, u91, u92, u93, u94, u95, u96, u97, u98, u99, u100, u101, u102, u103, u104, u105, u106, u107, u108, u109, u110, u111, u112, u113, u114, u115, u116, u117, u118, u119, u120, u121, u122, u123, u124, u125, u126, u127, u128, u129, u130, u131, u132, u133, u134, u135, u136, u137, u138, u139, u140, u141, u142, u143, u144, u145, u146, u147, u148, u149, u150, u151, u152, u153, u154, u155, u156, u157, u158, u159, u160, u161, u162, u163, u164, u165, u166, u167, u168, u169, u170, u171, u172, u173, u174, u175, c176, c177], []⟩ wi) :
    Code.wp Ybad.prog (lp43 1) Q ⟨#[.slice (some ⟨Bn, 0, none⟩) n n, c1, c2, .int .i64 (n : Int), .slice (some ⟨w0.heap.size, 0, none⟩) n n, .pointer (some ⟨w0.heap.size + 2, 0, none⟩), .pointer (some ⟨w0.heap.size + 4, 0, none⟩), .pointer (some ⟨w0.heap.size + 5, 0, none⟩), .pointer (some ⟨w0.heap.size + 7, 0, none⟩), .pointer (some ⟨w0.heap.size + 8, 0, none⟩), .pointer (some ⟨w0.heap.size + 9, 0, none⟩), .func (.func 66) #[] #[.pointer (some ⟨w0.heap.size + 9, 0, none⟩), .pointer (some ⟨w0.heap.size + 2, 0, none⟩), .pointer (some ⟨w0.heap.size + 4, 0, none⟩), .pointer (some ⟨w0.heap.size + 5, 0, none⟩), .pointer (some ⟨w0.heap.size + 7, 0, none⟩), .pointer (some ⟨w0.heap.size + 8, 0, none⟩)], c12, c13, c14, c15, c16, c17, c18, c19, c20, c21, c22, c23, c24, c25, c26, c27, c28, c29, c30, c31, c32, c33, c34, c35, c36, c37, c38, c39, c40, c41, c42, c43, c44, c45, c46, c47, c48, c49, c50, c51, c52, c53, c54, c55, c56, c57, c58, c59, c60, c61, c62, c63, c64, c65, c66, c67, c68, c69, c70, c71, c72, c73, c74, c75, c76, c77, c78, c79, c80, c81, c82, c83, c84, c85, c86, c87, c88, c89, c90, c91, c92, c93, c94, c95, c96, c97, c98, c99, c100, c101, c102, c103, c104, c105, c106, c107, c108, c109, c110, c111, c112, c113, c114, c115, c116, c117, c118, c119, c120, c121, c122, c123, c124, c125, c126, c127, c128, c129, c130, c131, c132, c133, c134, c135, c136, c137, c138, c139, c140, c141, c142, c143, c144, c145, c146, c147, c148, c149, c150, c151, c152, c153, c154, c155, c156, c157, c158, c159, c160, c161, c162, c163, c164, c165, c166, c167, c168, c169, c170, c171, c172, c173, c174, c175, c176, c177], []⟩ wr := by
  refine Code.wp_mono NoPanic.imp ?_
  have HQ := hid hq
  clear hq
  conv => arg 2; whnf
  have HP := hid hp
  have HPA := hid (show wr.ownsRow (w0.heap.size + 10) 161 2 vP (p ++ [(v, k)]).length (rowP (p ++ [(v, k)])) from by have := HS.out.pa; rw [hp] at this; exact this)
  obtain ⟨g, cap, hvP, hgb, hgl, hgc, c0, c1, f1⟩ := path_top HPA.out
  subst hvP
  have hvc : v ∈ s.comp := HI.out.path_comp (p := (v, k)) (by rw [hp]; simp)
  have hvn : v < n := HI.out.lt v (.inl hvc)
  have cB9 : wr.cell? ⟨w0.heap.size + 8, 0, none⟩ = some (.slice (some ⟨g, 0, none⟩) (p.length + 1) cap) := HS.out.cell (k := 8) (by omega) Nat.zero_lt_one
  obtain ⟨ax, capx, n0, n1, _⟩ := HN.out.2 v hvn
  have HBn := HN.out.1
  have q0 := (HS.out.bel.cell (p := ⟨Bn, v, none⟩) HBn).trans n0
  have hvi : (v : Int) < (n : Int) := by omega
  have hv0 : (0 : Int) ≤ (v : Int) := by omega
  have hki : ¬ (k : Int) < ((X v).length : Int) := by omega
  have hlp : p.length + 1 ≤ 1000 := by
    have h1 := HI.out.sub.length_le
    have h2 := HI.out.len
    rw [hp] at h1
    simp at h1; omega
  have hcb : s.comp.length ≤ 1000 := by have := HI.out.len; omega
  obtain ⟨pre, seg, hcs⟩ := comp_split hvc
  have HC := hid hcs
  have HND := hid HI.out.nd
  have HLT := hid (show ∀ x ∈ s.comp, x < n from fun x hx => HI.out.lt x (.inl hx))
  have HOB := hid (show ∀ x, s.ord x ≤ 1000 from fun x => by have := HI.out.le x; have := HI.out.ct; have := HI.out.len; omega)
  have hmax := HI.out.top_max hp
  have HMAX := hid hmax
  clear n0 n1 hp hcs hmax
  dsimp only
  go_upto_region 18 with fail
  go_cut [64] from 43 to 175 (fun v64 wd => v64 = .bool false ∧ TaS n w0 wd s vC (.slice (some ⟨g, 0, none⟩) (p.length + 1) cap))
  case first =>
    go_quiet (fail)
    go_wp2_with fail
    go_meet
    exact ⟨rfl, HS.out.drewN _⟩
  case rest =>
    obtain ⟨rfl, hS⟩ := hcut
    clear HS c0 c1 f1 cB9 q0 HPA hgl
    have HS := hid hS
    clear hS
    obtain ⟨c0, c1, f1, cB9, _, hgl⟩ := ta_facts HS.out HP.out
    have f8 := HS.out.free (k := 8) (by omega) 0
    have H1 := hid (TaG.set (k0 := 8) (j := 0) (TaG.popP (x := (v, k)) (by have := HS.out; unfold TaS at this; rw [HP.out] at this; exact this)) (by omega) Nat.zero_lt_one (.slice (some ⟨g, 0, none⟩) p.length cap))
    have hpl0 : (0 : Int) ≤ (p.length : Int) := by omega
    have hpl1 : (p.length : Int) ≤ (cap : Int) := by omega
    go_upto_region 26 with fail
    obtain ⟨w1, hw1⟩ : ∃ w1, w1 = wc.setCell ⟨w0.heap.size + 8, 0, none⟩ (.slice (some ⟨g, 0, none⟩) p.length cap) := ⟨_, rfl⟩
    have HT0 := hid (show TaS n w0 w1 { s with path := p } vC (.slice (some ⟨g, 0, none⟩) p.length cap) from by
      rw [hw1]
      exact H1.out.congr (lt10 (fun j hj => rfl) (fun j hj => rfl) (fun j hj => rfl) (fun j hj => rfl) (fun j hj => rfl) (fun j hj => rfl) (fun j hj => rfl) (fun j hj => rfl) (fun j hj => (by
        have hj' : j < 1 := hj
        obtain rfl : j = 0 := by omega
        rfl)) (fun j hj => rfl)))
    rw [← hw1]
    clear hw1 c0 c1 f1 cB9 f8 H1 HS
    have c8 : w1.cell? ⟨w0.heap.size + 8, 0, none⟩ = some (.slice (some ⟨g, 0, none⟩) p.length cap) := HT0.out.cell (k := 8) (by omega) Nat.zero_lt_one
    have hlo := (HI.out.lw v hvc).1
    rcases List.eq_nil_or_concat p with hpe | ⟨p0, uj, hpe⟩
    · subst hpe
      have HPE := hid (show ([] : List (Nat × Nat)) = [] from rfl)
      go_upto_if 113 with fail
      refine wp_cond_false rfl (wp_skip ?_)
      dsimp only [Exit.then]
      apply_assumption
      refine ta_end n w0 _ { s with path := ([] : List (Nat × Nat)), low := s.low } vC (.slice (some ⟨g, 0, none⟩) ([] : List (Nat × Nat)).length cap) pre seg v hn hcb HT0 HC HND HLT _ _ _ _ _ _ _ _ _ _ _ _ _ _ _ _ _ _ _ _ _ _ _ _ _ _ _ _ _ _ _ _ _ _ _ _ _ _ _ _ _ _ _ _ _ _ _ _ _ _ _ _ _ _ _ _ _ _ _ _ _ _ _ _ _ _ _ _ _ _ _ _ _ _ _ _ _ _ _ _ _ _ _ _ _ _ _ _ _ _ _ _ _ _ _ _ _ _ _ _ _ _ _ _ _ _ _ _ _ _ _ _ _ _ _ _ _ _ _ _ _ _ _ _ _ _ _ _ _ _ _ _ _ _ _ _ _ _ _ _ _ _ _ _ _ _ _ _ _ _ _ _ _ _ _ _ _ _ _ _ _ _ _ _ _ _ _ _ _ _ _ _ _ ?_
      intro u17 u19 u133 u134 u135 u136 u137 u138 u139 u140 u141 u142 u143 u144 u145 u146 u147 u148 u149 u150 u151 u152 u153 u154 u155 u156 u157 u158 u159 u160 u161 u162 u163 u164 u165 u166 u167 u168 u169 u170 u171 u172 u173 u174 u175 wi hst
      dsimp only [Exit.then]
      go_wp2_with fail
      refine HQ.out _ _ _ _ _ _ _ _ _ _ _ _ _ _ _ _ _ _ _ _ _ _ _ _ _ _ _ _ _ _ _ _ _ _ _ _ _ _ _ _ _ _ _ _ _ _ _ _ _ _ _ _ _ _ _ _ _ _ _ _ _ _ _ _ _ _ _ _ _ _ _ _ _ _ _ _ _ _ _ _ _ _ _ _ _ _ _ _ _ _ _ _ _ _ _ _ _ _ _ _ _ _ _ _ _ _ _ _ _ _ _ _ _ _ _ _ _ _ _ _ _ _ _ _ _ _ _ _ _ _ _ _ _ _ _ _ _ _ _ _ ?_
      by_cases heq : s.low v = s.ord v
      · obtain ⟨vC2, h2⟩ := hst.1 (by show s.low v = s.ord v; rw [show s.low v = s.low v from rfl]; exact heq)
        have hti := HI.out.close HP.out hk heq HC.out (on' := fun x => if x = v ∨ x ∈ seg then decide (seg ≠ []) else s.on x) (fun w => rfl) (low' := s.low) (fun w _ => rfl)
        exact ⟨_, _, vC2, _, h2, hti, tarMu_pop X n s fin _ HP.out _ rfl (by show pre.length + (fin ++ (seg ++ [v])).length = s.comp.length + fin.length; rw [HC.out]; simp; omega), fun x hx => hx⟩
      · obtain ⟨p0, u, j, e0, _⟩ := HI.out.leave HP.out (by omega)
        simp at e0
    · obtain ⟨u, j0⟩ := uj
      have hpz : (0 : Int) < (p.length : Int) := by rw [hpe]; simp
      have HPE := hid hpe
      have hplen : p.length = p0.length + 1 := by rw [hpe]; simp
      have hun : u < n := HI.out.lt u (.inl (HMAX.out.2.2 u (by rw [hpe]; simp)))
      have huv : u ≠ v := fun e => by have := HMAX.out.1 u (by rw [hpe]; simp); rw [e] at this; omega
      have hpa2 : w1.ownsRow (w0.heap.size + 10) 161 2 (.slice (some ⟨g, 0, none⟩) p.length cap) (p0 ++ [(u, j0)]).length (rowP (p0 ++ [(u, j0)])) := by
        have h9 : w1.ownsRow (w0.heap.size + 10) 161 2 (.slice (some ⟨g, 0, none⟩) p.length cap) p.length (rowP p) := HT0.out.pa
        rw [show (p0 ++ [(u, j0)]).length = p.length from by rw [hplen]; simp]
        rw [show p0 ++ [(u, j0)] = p from by rw [hpe]; simp]
        exact h9
      obtain ⟨g2, cap2, e2, _, _, _, t0, _, _⟩ := path_top hpa2
      simp only [Value.slice.injEq, Option.some.injEq, Addr.mk.injEq, and_true] at e2
      obtain ⟨rfl, hdel, rfl⟩ := e2
      clear hdel
      clear hpa2 hpe
      have hui : (u : Int) < (n : Int) := by omega
      have hu0 : (0 : Int) ≤ (u : Int) := by omega
      have hq1 : (p.length : Int) - 1 = (p0.length : Int) := by omega
      have hq2 : (0 : Int) ≤ (p.length : Int) - 1 := by omega
      have hq3 : ((p.length : Int) - 1).toNat = p0.length := by omega
      clear hplen
      have d4 : w1.cell? ⟨w0.heap.size + 4, 0, none⟩ = some (.slice (some ⟨w0.heap.size + 3, 0, none⟩) n n) := HT0.out.cell (k := 4) (by omega) Nat.zero_lt_one
      have d3 : w1.cell? ⟨w0.heap.size + 3, u, none⟩ = some (.int .i64 (s.low u : Int)) := HT0.out.cell (k := 3) (j := u) (by omega) hun
      have d3v : w1.cell? ⟨w0.heap.size + 3, v, none⟩ = some (.int .i64 (s.low v : Int)) := HT0.out.cell (k := 3) (j := v) (by omega) hvn
      have f3 := HT0.out.free (k := 3) (by omega) u
      go_upto_region 28 with fail
      obtain ⟨lu, hlu⟩ : ∃ lu, s.low u = lu := ⟨_, rfl⟩
      obtain ⟨lv, hlv⟩ : ∃ lv, s.low v = lv := ⟨_, rfl⟩
      have H2 := hid (HT0.out.set (k0 := 3) (j := u) (by omega) hun (.int .i64 ((min lu lv : Nat) : Int)))
      go_cut [] from 43 to 175 (fun wd => TaS n w0 wd { s with path := p, low := updL s.low u (min (s.low u) (s.low v)) } vC (.slice (some ⟨g, 0, none⟩) p.length cap))
      case first =>
        rw [hlu] at d3
        rw [hlv] at d3v
        rcases Nat.lt_or_ge lv lu with hol | hol
        · rw [Nat.min_eq_right (Nat.le_of_lt hol)] at H2
          have HLU := hid hlu
          have HLV := hid hlv
          clear hlu hlv
          go_region
          all_goals go_wp2_with fail
          all_goals go_meet
          all_goals rw [HLU.out, HLV.out, Nat.min_eq_right (Nat.le_of_lt hol)]
          all_goals exact (TaG.congr H2.out (lt10 (fun j hj => rfl) (fun j hj => rfl) (fun j hj => rfl) (fun j hj => (by show upd (fun j => Value.int .i64 ((s.low j : Nat) : Int)) u (.int .i64 (lv : Int)) j = _; exact taUpd s.low u lv j)) (fun j hj => rfl) (fun j hj => rfl) (fun j hj => rfl) (fun j hj => rfl) (fun j hj => rfl) (fun j hj => rfl))).drew
        · rw [Nat.min_eq_left hol] at H2
          have hol2 : ¬ lv < lu := by omega
          have HLU := hid hlu
          have HLV := hid hlv
          clear hlu hlv
          go_region
          all_goals go_wp2_with fail
          all_goals go_meet
          all_goals rw [HLU.out, HLV.out, Nat.min_eq_left hol]
          all_goals exact (TaG.congr H2.out (lt10 (fun j hj => rfl) (fun j hj => rfl) (fun j hj => rfl) (fun j hj => (by show upd (fun j => Value.int .i64 ((s.low j : Nat) : Int)) u (.int .i64 (lu : Int)) j = _; exact taUpd s.low u lu j)) (fun j hj => rfl) (fun j hj => rfl) (fun j hj => rfl) (fun j hj => rfl) (fun j hj => rfl) (fun j hj => rfl))).drew
      case rest =>
        have HT1 := hid hcut
        clear hcut
        apply_assumption
        refine ta_end n w0 _ { s with path := p, low := (updL s.low u (min (s.low u) (s.low v))) } vC (.slice (some ⟨g, 0, none⟩) p.length cap) pre seg v hn hcb HT1 HC HND HLT _ _ _ _ _ _ _ _ _ _ _ _ _ _ _ _ _ _ _ _ _ _ _ _ _ _ _ _ _ _ _ _ _ _ _ _ _ _ _ _ _ _ _ _ _ _ _ _ _ _ _ _ _ _ _ _ _ _ _ _ _ _ _ _ _ _ _ _ _ _ _ _ _ _ _ _ _ _ _ _ _ _ _ _ _ _ _ _ _ _ _ _ _ _ _ _ _ _ _ _ _ _ _ _ _ _ _ _ _ _ _ _ _ _ _ _ _ _ _ _ _ _ _ _ _ _ _ _ _ _ _ _ _ _ _ _ _ _ _ _ _ _ _ _ _ _ _ _ _ _ _ _ _ _ _ _ _ _ _ _ _ _ _ _ _ _ _ _ _ _ _ _ _ ?_
        intro u17 u19 u133 u134 u135 u136 u137 u138 u139 u140 u141 u142 u143 u144 u145 u146 u147 u148 u149 u150 u151 u152 u153 u154 u155 u156 u157 u158 u159 u160 u161 u162 u163 u164 u165 u166 u167 u168 u169 u170 u171 u172 u173 u174 u175 wi hst
        dsimp only [Exit.then]
        go_wp2_with fail
        refine HQ.out _ _ _ _ _ _ _ _ _ _ _ _ _ _ _ _ _ _ _ _ _ _ _ _ _ _ _ _ _ _ _ _ _ _ _ _ _ _ _ _ _ _ _ _ _ _ _ _ _ _ _ _ _ _ _ _ _ _ _ _ _ _ _ _ _ _ _ _ _ _ _ _ _ _ _ _ _ _ _ _ _ _ _ _ _ _ _ _ _ _ _ _ _ _ _ _ _ _ _ _ _ _ _ _ _ _ _ _ _ _ _ _ _ _ _ _ _ _ _ _ _ _ _ _ _ _ _ _ _ _ _ _ _ _ _ _ _ _ _ _ ?_
        by_cases heq : s.low v = s.ord v
        · obtain ⟨vC2, h2⟩ := hst.1 (by show (updL s.low u (min (s.low u) (s.low v))) v = s.ord v; rw [updL_other _ (fun e => huv e.symm)]; exact heq)
          have hti := HI.out.close HP.out hk heq HC.out (on' := fun x => if x = v ∨ x ∈ seg then decide (seg ≠ []) else s.on x) (fun w => rfl) (low' := (updL s.low u (min (s.low u) (s.low v)))) (fun w hw => by
            by_cases e : w = u
            · subst e
              rw [updL_same]
              have h1 := HMAX.out.1 w (by rw [HPE.out]; simp)
              have h2 := (HI.out.lw w (HMAX.out.2.2 w (by rw [HPE.out]; simp))).1
              omega
            · exact updL_other _ e _)
          exact ⟨_, _, vC2, _, h2, hti, tarMu_pop X n s fin _ HP.out _ rfl (by show pre.length + (fin ++ (seg ++ [v])).length = s.comp.length + fin.length; rw [HC.out]; simp; omega), fun x hx => hx⟩
        · obtain ⟨p1, u1, j1, e0, hti⟩ := HI.out.leave HP.out (by omega)
          have e9 : u1 = u := by
            rw [HPE.out, List.concat_eq_append] at e0
            have := List.append_inj_right' e0 (by simp)
            simp at this
            exact this.1.symm
          rw [e9] at hti
          exact ⟨_, fin, vC, _, hst.2 (by show updL s.low u (min (s.low u) (s.low v)) v ≠ s.ord v; rw [updL_other _ (fun e => huv e.symm)]; exact heq), hti, tarMu_pop X n s fin _ HP.out _ rfl rfl, fun x hx => hx⟩

end Go.Proofs.YbulkbgasDoor
