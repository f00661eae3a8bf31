import Derived.Test.YbulkbgasDoorTa7
namespace Go.Proofs.YbulkbgasDoor
open Go.RowKit Go.Maps
set_option linter.unusedVariables false
attribute [local go_sem ↓] Go.wp_at_zero Go.wp_at_succ

def tarInit : Tar := ⟨fun _ => 0, fun _ => 0, [], [], 0, fun _ => false⟩
abbrev TaW (w : World) (n : Nat) : World := (((((((((w.alloc (.cells (rowF n (fun _ => .bool false)) 4)).alloc (.cells (rowF n (fun _ => .int .i64 0)) 3)).alloc (.cells #[.slice (some ⟨w.heap.size + 1, 0, none⟩) n n] 54)).alloc (.cells (rowF n (fun _ => .int .i64 0)) 3)).alloc (.cells #[.slice (some ⟨w.heap.size + 3, 0, none⟩) n n] 54)).alloc (.cells #[.slice none 0 0] 54)).alloc (.cells (rowF n (fun _ => .bool false)) 4)).alloc (.cells #[.slice (some ⟨w.heap.size + 6, 0, none⟩) n n] 121)).alloc (.cells #[.slice none 0 0] 159)).alloc (.cells #[.int .i64 0] 3)
theorem taW_below (w : World) (n : Nat) : Below w.heap.size w (TaW w n) := by
  unfold TaW
  refine Below.alloc (Below.alloc (Below.alloc (Below.alloc (Below.alloc (Below.alloc (Below.alloc (Below.alloc (Below.alloc (Below.alloc (Below.refl _ w) ?_ _) ?_ _) ?_ _) ?_ _) ?_ _) ?_ _) ?_ _) ?_ _) ?_ _) ?_ _ <;> (try simp only [World.size_alloc]) <;> omega
theorem taW_S (w : World) (n : Nat) : TaS n w (TaW w n) tarInit (.slice none 0 0) (.slice none 0 0) := by
  have old : ∀ (W : World) (o : Obj) (k : Nat) (x : Option Obj), k < W.heap.size → W.heap[k]? = x → (W.alloc o).heap[k]? = x := fun W o k x hk h => (Below.heap_alloc _ _ _ hk).trans h
  refine ⟨lt10 ?_ ?_ ?_ ?_ ?_ ?_ ?_ ?_ ?_ ?_, World.ownsRow_nil _ _ _ _, World.ownsRow_nil _ _ _ _, taW_below w n⟩
  all_goals unfold Fix TaW
  all_goals repeat (first
    | (apply alloc_at; (simp only [World.size_alloc]) <;> omega)
    | (apply old; focus ((simp only [World.size_alloc]) <;> omega)))
  all_goals exact heap_alloc_new w _

set_option maxRecDepth 1000000 in
set_option maxHeartbeats 4000000 in
theorem onCycles_any (w : World) (Bn n : Nat) (X : Nat → List Nat) (hn : n ≤ 1000) (hN : Near w Bn n X) (hX : ∀ i, i < n → i ∉ X i) (hXn : ∀ i, i < n → ∀ j ∈ X i, j < n) :
    Calls Ybad.prog 43 #[.slice (some ⟨Bn, 0, none⟩) n n] w fun e w' => ∃ on : Nat → Bool, e = .returned (.slice (some ⟨w.heap.size, 0, none⟩) n n) ∧ Fix w' w.heap.size 4 n (fun j => .bool (on j)) ∧ (∀ v, on v = true → v < n ∧ ∃ u, u ≠ v ∧ Rch X v u ∧ Rch X u v) ∧ ((∃ v, on v = true) ∨ ∃ fin, FinOk X fin ∧ ∀ v, v < n → v ∈ fin) ∧ Below w.heap.size w w' := by
  have HN := hid hN
  have HX := hid hX
  have HXn := hid hXn
  clear hN hX hXn
  have HS0 := hid (taW_S w n)
  have hmk1 := fun (W : World) => mkRow1 Ybad.E121' rfl n (by omega) W
  have hmk2 := fun (W : World) => mkRow1 Ybad.E54' rfl n (by omega) W
  have hmf : ∀ (fn : Fn) (first cap : Array Value) (w : World), (Instr.makeFunc fn first cap).run Ybad.prog w = .ok (.func fn first cap) w := fun _ _ _ _ => rfl
  go_enter Ybad.func43, Ybad.ntmps43
  go_wp2_with fail
  simp only [Nat.add_assoc, Nat.reduceAdd]
  obtain ⟨wA, hwA⟩ : ∃ wA, wA = TaW w n := ⟨_, rfl⟩
  rw [← hwA] at HS0
  rw [show ((((((((((w.alloc (.cells (rowF n (fun _ => .bool false)) 4)).alloc (.cells (rowF n (fun _ => .int .i64 0)) 3)).alloc (.cells #[.slice (some ⟨w.heap.size + 1, 0, none⟩) n n] 54)).alloc (.cells (rowF n (fun _ => .int .i64 0)) 3)).alloc (.cells #[.slice (some ⟨w.heap.size + 3, 0, none⟩) n n] 54)).alloc (.cells #[.slice none 0 0] 54)).alloc (.cells (rowF n (fun _ => .bool false)) 4)).alloc (.cells #[.slice (some ⟨w.heap.size + 6, 0, none⟩) n n] 121)).alloc (.cells #[.slice none 0 0] 159)).alloc (.cells #[.int .i64 0] 3)) = wA from hwA.symm]
  clear hwA hmk1 hmk2
  go_loopg [32] n (fun g0 iv wi => ∃ (r : Nat) (s : Tar) (fin : List Nat) (vC vP : Value), r ≤ n ∧ g0 = n - r ∧ iv = .int .i64 (r : Int) ∧ TaS n w wi s vC vP ∧ TarI X n s fin ∧ s.path = [] ∧ ∀ x, x < r → s.ord x ≠ 0)
  case atStart => exact ⟨0, tarInit, [], _, _, Nat.zero_le _, rfl, rfl, HS0.out, tar0 X n, rfl, fun x hx => by omega⟩
  case round =>
    obtain ⟨r, s, fin, vC, vP, hr, rfl, rfl, hts, hti, hpa, hre⟩ := hrel
    have HS := hid hts
    have HI := hid hti
    have HPA := hid hpa
    have HRE := hid hre
    clear hts hti hpa hre HS0
    by_cases hlt : r < n
    · have hri : (r : Int) < (n : Int) := by omega
      have hr0 : (0 : Int) ≤ (r : Int) := by omega
      have d2 : wr.cell? ⟨w.heap.size + 2, 0, none⟩ = some (.slice (some ⟨w.heap.size + 1, 0, none⟩) n n) := HS.out.cell (k := 2) (by omega) Nat.zero_lt_one
      have d1 : wr.cell? ⟨w.heap.size + 1, r, none⟩ = some (.int .i64 (s.ord r : Int)) := HS.out.cell (k := 1) (j := r) (by omega) hlt
      obtain ⟨o, ho⟩ : ∃ o, s.ord r = o := ⟨_, rfl⟩
      rw [ho] at d1
      by_cases h0 : o = 0
      · have hb1 : ((o : Int) != 0) = false := by simp [h0]
        have hct : s.cnt ≤ 1000 := by have := HI.out.len; have := HI.out.ct; omega
        have hcb : s.comp.length ≤ 1000 := by have := HI.out.len; omega
        have HRC := hid (reach_any n w wr s vC vP r hlt hn hct hcb (by rw [HPA.out]; simp) HS.out)
        have HTI := hid (HI.out.reach hlt (by rw [ho, h0]) (P' := []) (.inl ⟨HPA.out, rfl⟩))
        have HTE := hid (show ({ s with path := ([] : List (Nat × Nat)) } : Tar).reach r = s.reach r from by unfold Tar.reach; rw [HPA.out])
        rw [HTE.out] at HTI
        subst h0
        have HO := hid ho
        clear ho
        go_wp2_with (go_at_call 66; refine Calls.mono HRC.out ?_; rintro e w2 ⟨vC2, vP2, rfl, hst⟩; have HST := hid hst; clear hst; dsimp only)
        go_loopg [13] (tarMu X n (s.reach r) fin) (fun g0 _ wi => ∃ (s2 : Tar) (fin2 : List Nat) (vC3 vP3 : Value), g0 = tarMu X n s2 fin2 ∧ TaS n w wi s2 vC3 vP3 ∧ TarI X n s2 fin2 ∧ ∀ x, (s.reach r).ord x ≠ 0 → s2.ord x ≠ 0)
        case atStart => exact ⟨_, _, _, _, rfl, HST.out, HTI.out, fun x hx => hx⟩
        case round =>
          obtain ⟨s2, fin2, vC3, vP3, rfl, hts2, hti2, hor2⟩ := hrel
          have HS2 := hid hts2
          have HI2 := hid hti2
          have HOR := hid hor2
          clear hts2 hti2 hor2
          rcases List.eq_nil_or_concat s2.path with hnil | ⟨p, ⟨v, k⟩, hcc⟩
          · have hpe : ∃ o c, vP3 = .slice o 0 c := by
              have := HS2.out.pa
              rw [hnil] at this
              rcases this.2 with ⟨h, -⟩ | ⟨g, cap, cur, h, -⟩
              · exact ⟨_, _, h⟩
              · exact ⟨_, _, h⟩
            obtain ⟨o3, c3, rfl⟩ := hpe
            have d8 : wr.cell? ⟨w.heap.size + 8, 0, none⟩ = some (.slice o3 0 c3) := HS2.out.cell (k := 8) (by omega) Nat.zero_lt_one
            have hb2 : ((0 : Int) > 0) = False := by simp
            have HNIL := hid hnil
            clear hnil
            go_wp2_with fail
            go_roundg (n - (r + 1))
            case measure => omega
            case rel =>
              refine ⟨r + 1, s2, fin2, vC3, _, by omega, rfl, by go_num, HS2.out, HI2.out, HNIL.out, fun x hx => HOR.out x ?_⟩
              show updL s.ord r (s.cnt + 1) x ≠ 0
              unfold updL
              split
              · omega
              · exact HRE.out x (by omega)
          · rw [List.concat_eq_append] at hcc
            by_cases hk : k < (X v).length
            · refine ta_arc X n Bn w wr s2 fin2 vC3 vP3 p v k hn HX HXn HN HS2 HI2 hcc hk _ _ _ _ _ _ _ _ _ _ _ _ _ _ _ _ _ _ _ _ _ _ _ _ _ _ _ _ _ _ _ _ _ _ _ _ _ _ _ _ _ _ _ _ _ _ _ _ _ _ _ _ _ _ _ _ _ _ _ _ _ _ _ _ _ _ _ _ _ _ _ _ _ _ _ _ _ _ _ _ _ _ _ _ _ _ _ _ _ _ _ _ _ _ _ _ _ _ _ _ _ _ _ _ _ _ _ _ _ _ _ _ _ _ _ _ _ _ _ _ _ _ _ _ _ _ _ _ _ _ _ _ _ _ _ _ _ _ _ _ _ _ _ _ _ _ _ _ _ _ _ _ _ _ _ _ _ _ _ _ _ _ _ _ _ _ _ _ _ ?_
              rintro u13 u14 u15 u16 u17 u19 u43 u44 u45 u46 u47 u48 u49 u50 u51 u52 u53 u54 u55 u56 u57 u58 u59 u60 u61 u62 u63 u64 u65 u66 u67 u68 u69 u70 u71 u72 u73 u74 u75 u76 u77 u78 u79 u80 u81 u82 u83 u84 u85 u86 u87 u88 u89 u90 u91 u92 u93 u94 u95 u96 u97 u98 u99 u100 u101 u102 u103 u104 u105 u106 u107 u108 u109 u110 u111 u112 u113 u114 u115 u116 u117 u118 u119 u120 u121 u122 u123 u124 u125 u126 u127 u128 u129 u130 u131 u132 u133 u134 u135 u136 u137 u138 u139 u140 u141 u142 u143 u144 u145 u146 u147 u148 u149 u150 u151 u152 u153 u154 u155 u156 u157 u158 u159 u160 u161 u162 u163 u164 u165 u166 u167 u168 u169 u170 u171 u172 u173 u174 u175 wi ⟨s4, fin4, vC4, vP4, hs4, hi4, hm4, ho4⟩
              dsimp only [Exit.then]
              go_wp2_with fail
              go_roundg (tarMu X n s4 fin4)
              case measure => exact hm4
              case rel => exact ⟨s4, fin4, vC4, vP4, rfl, hs4, hi4, fun x hx => ho4 x (HOR.out x hx)⟩
            · have hk2 : k = (X v).length := by
                have := HI2.out.nx (v, k) (by rw [hcc]; simp)
                simp only at this
                omega
              refine ta_back X n Bn w wr s2 fin2 vC3 vP3 p v k hn HN HS2 HI2 hcc hk2 _ _ _ _ _ _ _ _ _ _ _ _ _ _ _ _ _ _ _ _ _ _ _ _ _ _ _ _ _ _ _ _ _ _ _ _ _ _ _ _ _ _ _ _ _ _ _ _ _ _ _ _ _ _ _ _ _ _ _ _ _ _ _ _ _ _ _ _ _ _ _ _ _ _ _ _ _ _ _ _ _ _ _ _ _ _ _ _ _ _ _ _ _ _ _ _ _ _ _ _ _ _ _ _ _ _ _ _ _ _ _ _ _ _ _ _ _ _ _ _ _ _ _ _ _ _ _ _ _ _ _ _ _ _ _ _ _ _ _ _ _ _ _ _ _ _ _ _ _ _ _ _ _ _ _ _ _ _ _ _ _ _ _ _ _ _ _ _ _ ?_
              rintro u13 u14 u15 u16 u17 u19 u43 u44 u45 u46 u47 u48 u49 u50 u51 u52 u53 u54 u55 u56 u57 u58 u59 u60 u61 u62 u63 u64 u65 u66 u67 u68 u69 u70 u71 u72 u73 u74 u75 u76 u77 u78 u79 u80 u81 u82 u83 u84 u85 u86 u87 u88 u89 u90 u91 u92 u93 u94 u95 u96 u97 u98 u99 u100 u101 u102 u103 u104 u105 u106 u107 u108 u109 u110 u111 u112 u113 u114 u115 u116 u117 u118 u119 u120 u121 u122 u123 u124 u125 u126 u127 u128 u129 u130 u131 u132 u133 u134 u135 u136 u137 u138 u139 u140 u141 u142 u143 u144 u145 u146 u147 u148 u149 u150 u151 u152 u153 u154 u155 u156 u157 u158 u159 u160 u161 u162 u163 u164 u165 u166 u167 u168 u169 u170 u171 u172 u173 u174 u175 wi ⟨s4, fin4, vC4, vP4, hs4, hi4, hm4, ho4⟩
              dsimp only [Exit.then]
              go_wp2_with fail
              go_roundg (tarMu X n s4 fin4)
              case measure => exact hm4
              case rel => exact ⟨s4, fin4, vC4, vP4, rfl, hs4, hi4, fun x hx => ho4 x (HOR.out x hx)⟩
      · have hb1 : ((o : Int) != 0) = true := by simp; omega
        go_wp2_with fail
        go_roundg (n - (r + 1))
        case measure => omega
        case rel =>
          refine ⟨r + 1, s, fin, vC, _, by omega, rfl, by go_num, HS.out, HI.out, HPA.out, fun x hx => ?_⟩
          by_cases hxr : x = r
          · subst hxr; omega
          · exact HRE.out x (by omega)
    · have HRN := hid (show r = n by omega)
      clear hr
      have hrn : ¬((r : Int) < (n : Int)) := by omega
      go_wp2_with fail
      go_ret
      refine ⟨rfl, s.on, HS.out.fx 0 (by omega), HI.out.mark, ?_, HS.out.bel⟩
      rcases HI.out.stop HPA.out (fun v hv => HRE.out v (by have := HRN.out; omega)) with h | ⟨h1, h2⟩
      · exact .inl h
      · exact .inr ⟨fin, h1, h2⟩

end Go.Proofs.YbulkbgasDoor
