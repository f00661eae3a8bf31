import Derived.Test.YbulkbgasDoorCf2
namespace Go.Proofs.YbulkbgasDoor
open Go.RowKit Go.Maps
set_option linter.unusedVariables false

theorem make95 (n : Nat) (w : World) : (Instr.makeMap 95 (some (.int .i64 (n : Int)))).run Ybad.prog w = .ok (.map (some w.heap.size)) (w.alloc (.map #[] 0)) := by
  simp [Instr.makeMap, go_sem]

set_option maxRecDepth 100000 in
set_option maxHeartbeats 2000000 in
theorem conf_any (w : World) (v vt : Value) (l : List Ac) (tx : List Int) (hn : l.length ≤ 10000) (hs : SlA w v l) (hst : SlI w vt tx) (htn : tx.length ≤ 1000) (hnd : tx.Nodup) (htb : ∀ t ∈ tx, 1 ≤ t ∧ t ≤ 4) (hmem : ∀ a ∈ l, a.t ∈ tx) (hit : ∀ a ∈ l, a.it.size ≤ 100) :
    Calls Ybad.prog 21 #[v, vt, .bool true] w fun e w' => ∃ va, e = .returned (.pointer (some ⟨w.heap.size, 0, none⟩)) ∧ w'.heap[w.heap.size]? = some (.cells #[vt, .int .i64 (itemsOf l).length, va] 63 (0, 0)) ∧ SlX w' va (accN tx l l.length) ∧ Below w.heap.size w w' := by
  obtain ⟨a, cap, rfl, hcap, hel⟩ := hs
  obtain ⟨at', capt, rfl, hcapt, helt⟩ := hst
  have HS := hid hel
  have HT := hid helt
  have HND := hid hnd
  have HB := hid htb
  have HM := hid hmem
  have HI := hid hit
  clear hel helt hnd htb hmem hit
  have hmm := @run_makeMap Ybad.prog
  have hm95 := make95
  go_enter Ybad.func21, Ybad.ntmps21
  go_wp2
  go_loopw [35] (fun i wr => ∃ k : Nat, k ≤ tx.length ∧ i = .int .i64 k ∧ wr.heap[w.heap.size]? = some (.cells #[.slice at' tx.length capt, .int .i64 0, .slice none 0 0] 63 (0, 0)) ∧ MapI F32 wr (w.heap.size + 1) k k (loc (tx.take k)) ∧ Below w.heap.size w wr ∧ wr.heap.size = w.heap.size + 2) (fun i _ => tx.length - (intOf i).toNat)
  case atStart =>
    refine ⟨0, Nat.zero_le _, rfl, (Below.heap_alloc _ _ _ (by simp)).trans (heap_alloc_new w _), ?_, ((Below.refl _ w).alloc (Nat.le_refl _) _).alloc (by simp) _, by simp⟩
    have h := MapF.made F32 (w.alloc (.cells #[.slice at' tx.length capt, .int .i64 0, .slice none 0 0] 63)) (plainElem Ybad.prog 3)
    rw [World.size_alloc] at h
    have e : (fun i => ((loc (tx.take 0) i).map fun c => (DataW.lit (.int .i64 c) : DataW Unit))) = fun _ => none := by funext i; rw [loc_not (by simp)]; rfl
    unfold MapI
    rw [e]; exact h
  case round =>
    obtain ⟨k, hk, rfl, hbox, hmap, hbel, hwz⟩ := hrel
    have HX := hid hbox
    have HMp := hid hmap
    have hB := hid hbel
    clear hbox hmap hbel
    by_cases hlt : k < tx.length
    · have hki : (k : Int) < (tx.length : Int) := by omega
      obtain ⟨b, off, rfl, hbl, c0'⟩ := int_at HT.out hlt hlt
      have c0 : wr.cell? ⟨b, off + k, none⟩ = some (.int .i64 tx[k]) := (hB.out.cell (p := ⟨b, off + k, none⟩) hbl).trans c0'
      have htk := HB.out tx[k] (List.getElem_mem _)
      have HNew := hid (show tx[k] ∉ tx.take k from fun hm => by
        obtain ⟨j, hj, e⟩ := List.getElem_of_mem hm
        rw [List.getElem_take] at e
        have hj' : j < k := by simp at hj; omega
        have := (List.getElem_inj (h₀ := by omega) (h₁ := hlt) HND.out).1 e
        omega)
      obtain ⟨t0, ht0⟩ : ∃ t0, tx[k] = t0 := ⟨_, rfl⟩
      have HT0 := hid ht0
      rw [ht0] at c0 htk HNew
      clear c0' ht0
      go_wp2_with ((with_reducible refine mapPutI (F := F32) keyed32' Ybad.underlying95 (tm := 40) (tk := 41) (tv := 42) (w.heap.size + 1) k k (loc (tx.take k)) ?_ ?_ ?_ t0 ?_ ?_ (k : Int) ?_ ?_ ?_); (exact rfl); (exact HMp.out); omega; (exact ⟨by omega, by omega⟩); (exact rfl); (exact ⟨by omega, by omega⟩); (exact rfl); (intro w1 hmap1 hgrow1 hsz1); (have M1 := hid hmap1); (have G1 := hid hgrow1); clear hmap1 hgrow1)
      go_roundw
      case rel =>
        refine ⟨k + 1, by omega, by go_num, (G1.out.block _ (by omega) (by simp)).trans HX.out, ?_, hB.out.grown G1.out (by omega) (fun j ej => by cases ej; omega), by omega⟩
        have := M1.out
        rw [loc_not HNew.out, loc_put HNew.out (by simp; omega)] at this
        rw [List.take_succ_eq_append_getElem hlt, HT0.out]
        exact this
      case measure => simp [intOf]; omega
    · obtain rfl : k = tx.length := by omega
      rw [List.take_length] at HMp
      go_wp2
      go_loopw [48] (fun i wr2 => ∃ (k : Nat) (va : Value) (mW : Nat × Nat → Option Bool), k ≤ l.length ∧ i = .int .i64 k ∧ CfSt w wr2 (.slice at' tx.length capt) tx l k va mW) (fun i _ => l.length - (intOf i).toNat)
      case atStart =>
        have e0 : itemsOf (l.take 0) = [] := rfl
        have h9 := MapF.made F9 wr (plainElem Ybad.prog 3)
        have h98 := MapF.made F98 (wr.alloc (.map #[] 0)) (plainElem Ybad.prog 4)
        rw [World.size_alloc] at h98
        rw [hwz] at h9 h98
        have e9 : (fun i => ((loc (itemsOf (l.take 0)) i).map fun c => (DataW.lit (.int .i64 c) : DataW Unit))) = fun _ => none := by funext i; rw [loc_not (by rw [e0]; simp)]; rfl
        have i9 : MapI F9 ((wr.alloc (.map #[] 0)).alloc (.map #[] 0)) (w.heap.size + 2) 0 (itemsOf (l.take 0)).length (loc (itemsOf (l.take 0))) := by unfold MapI; rw [e9]; exact MapF.alloc h9 _
        exact ⟨0, .slice none 0 0, fun _ => none, Nat.zero_le _, rfl, (Below.heap_alloc _ _ _ (by simp; omega)).trans ((Below.heap_alloc _ _ _ (by omega)).trans HX.out), MapF.alloc (MapF.alloc HMp.out _) _, i9, ⟨0, h98⟩, World.ownsRow_nil _ _ _ _, (hB.out.alloc (by omega) _).alloc (by simp; omega) _, fun i x hi _ => absurd hi (by rw [e0]; simp), fun _ _ _ => rfl⟩
      case round =>
        obtain ⟨k, va, mW, hk, rfl, hst⟩ := hrel
        have ST := hid hst
        have hlt3 := hst.lt
        clear hst HX HMp
        by_cases hlt : k < l.length
        · have hki : (k : Int) < (l.length : Int) := by omega
          obtain ⟨b, off, rfl, hbl, c0', c1', c2'⟩ := cells_at HS.out hlt hlt
          obtain ⟨c, hc⟩ : ∃ c, l[k] = c := ⟨_, rfl⟩
          have hmem : c ∈ l := by rw [← hc]; exact List.getElem_mem _
          have hct := HM.out c hmem
          have hcb := HB.out _ hct
          have hci := HI.out c hmem
          rw [hc] at c0' c1' c2'
          have c0 : wr.cell? ⟨b, off + k * 3, none⟩ = some (.string c.k) := (ST.out.bel.cell (p := ⟨b, off + k * 3, none⟩) hbl).trans c0'
          have c1 : wr.cell? ⟨b, off + k * 3 + 1, none⟩ = some (.int .i64 c.t) := (ST.out.bel.cell (p := ⟨b, off + k * 3 + 1, none⟩) hbl).trans c1'
          have c2 : wr.cell? ⟨b, off + k * 3 + 2, none⟩ = some (.string c.it) := (ST.out.bel.cell (p := ⟨b, off + k * 3 + 2, none⟩) hbl).trans c2'
          clear c0' c1' c2'
          have HC := hid hc
          clear hc hmem
          obtain ⟨x, hx⟩ : ∃ x, ix tx c.t = x := ⟨_, rfl⟩
          have hl1 : (loc tx c.t).getD 0 = (x : Int) := by rw [loc_mem hct, hx]; rfl
          have hl2 : (loc tx c.t).isSome = true := by rw [loc_mem hct]; rfl
          have hxl : x < tx.length := by rw [← hx]; exact ix_lt hct
          have HX' := hid hx
          have HCT := hid hct
          clear hx hct
          have HTc := hid (touch_any c.k)
          obtain ⟨r, hr⟩ : ∃ r, tch c.k = r := ⟨_, rfl⟩
          rw [hr] at HTc
          have HR := hid hr
          have htk : True := trivial
          have HV32 := hid (show F32.V c.t from ⟨by omega, by omega⟩)
          have HV9 := hid (show F9.V c.it from (by show _ ≤ maxLen; unfold maxLen; omega))
          cases r
          · clear hr
            go_wp2_with (first
              | ((with_reducible refine mapGetI (F := F32) keyed32' Ybad.underlying95 (tm := 54) (tk := 56) (w.heap.size + 1) tx.length tx.length (loc tx) ?_ ?_ c.t ?_ ?_ ?_); (exact rfl); (exact (ST.out.alloc _).plc); (exact HV32.out); (exact rfl))
              | (go_at_call 38; refine Calls.mono (HTc.out _) ?_; rintro e w' ⟨rfl, rfl⟩))
            go_roundw
            case rel => exact ⟨k + 1, va, mW, by omega, by go_num, (ST.out.alloc _).skip hlt (by rw [HC.out]; exact HR.out)⟩
            case measure => simp [intOf]; omega
          · clear hr
            obtain ⟨its, hits⟩ : ∃ its, itemsOf (l.take k) = its := ⟨_, rfl⟩
            have HITS := hid hits
            have hitl : its.length ≤ k := by rw [← hits]; exact Nat.le_trans (itemsOf_length_le _) (by simp; omega)
            have hal := accN_length_le tx l k
            obtain ⟨wv, hwv⟩ : ∃ wv, wrOf (l.take (k + 1)) c.t c.it = wv := ⟨_, rfl⟩
            have HWV := hid hwv
            have hwv2 : wv = (wrOf (l.take k) c.t c.it || isW c.k) := by
              rw [← hwv, List.take_succ_eq_append_getElem hlt, wrOf_snoc, HC.out]; simp
            clear hwv
            by_cases hm : c.it ∈ itemsOf (l.take k)
            · obtain ⟨i, hi⟩ : ∃ i, ix (itemsOf (l.take (k + 1))) c.it = i := ⟨_, rfl⟩
              have hold : itemsOf (l.take (k + 1)) = itemsOf (l.take k) := CfSt.old hlt (by rw [HC.out]; exact hm)
              have hi2 : ix its c.it = i := by rw [← hits, ← hold]; exact hi
              have hmi : c.it ∈ its := by rw [← hits]; exact hm
              have hl3 : (loc its c.it).getD 0 = (i : Int) := by rw [loc_mem hmi, hi2]; rfl
              have hl4 : (loc its c.it).isSome = true := by rw [loc_mem hmi]; rfl
              have hil : i < its.length := by rw [← hi2]; exact ix_lt hmi
              have MID := hid ((ST.out.alloc (.cells #[.string c.k, .int .i64 c.t, .string c.it] 34)).mid_old hlt (by rw [HC.out]; exact hm))
              have HI' := hid hi
              have hg : (mW (i, x)).getD false = wrOf (l.take k) c.t c.it := by
                have hil2 : i < (itemsOf (l.take (k + 1))).length := by rw [hold, hits]; exact hil
                rw [MID.out.hw i x hil2 hxl]
                have e1 : tx[x] = c.t := by have := ix_get HCT.out; simp only [HX'.out] at this; exact this
                have e2 : (itemsOf (l.take (k + 1)))[i] = c.it := by
                  have hmn : c.it ∈ itemsOf (l.take (k + 1)) := by rw [hold]; exact hm
                  have := ix_get hmn; simp only [hi] at this; exact this
                rw [e1, e2]
              clear hi hi2 hm hmi hold hits
              obtain ⟨szw, hwB⟩ := (MID.out.alloc (.cells #[.int .i64 (i : Int), .int .i64 (x : Int)] 98)).wrt
              have hLk : (Instr.lookup 97 (.map (some (w.heap.size + 2 + 1))) (.agg #[.int .i64 (i : Int), .int .i64 (x : Int)]) false).run Ybad.prog ((wr.alloc (.cells #[.string c.k, .int .i64 c.t, .string c.it] 34)).alloc (.cells #[.int .i64 (i : Int), .int .i64 (x : Int)] 98)) = .ok (.bool ((mW (i, x)).getD false)) ((wr.alloc (.cells #[.string c.k, .int .i64 c.t, .string c.it] 34)).alloc (.cells #[.int .i64 (i : Int), .int .i64 (x : Int)] 98)) := mapGetB keyed98 Ybad.underlying97 hwB (i, x) ⟨by omega, by omega⟩
              have HWB := hid hwB
              clear hwB
              by_cases hw : c.k.toList = [119]
              · obtain rfl : wv = true := by rw [hwv2]; unfold isW; rw [hw]; simp
                clear hwv2 hg
                go_wp2_with (first
                  | ((with_reducible refine mapGetI (F := F32) keyed32' Ybad.underlying95 (tm := 54) (tk := 56) (w.heap.size + 1) tx.length tx.length (loc tx) ?_ ?_ c.t ?_ ?_ ?_); (exact rfl); (exact (ST.out.alloc _).plc); (exact HV32.out); (exact rfl))
                  | (go_at_call 38; refine Calls.mono (HTc.out _) ?_; rintro e w' ⟨rfl, rfl⟩)
                  | ((with_reducible refine mapGetI (F := F9) keyed9 Ybad.underlying96 (tm := 69) (tk := 71) (w.heap.size + 2) k its.length (loc its) ?_ ?_ c.it ?_ ?_ ?_); (exact rfl); (exact (by rw [← HITS.out]; exact (ST.out.alloc _).itm)); (exact HV9.out); (exact rfl))
                  | ((with_reducible refine mapPutB (F := F98) keyed98 Ybad.underlying97 (tm := 96) (tk := 97) (tv := 98) (w.heap.size + 3) k szw mW ?_ ?_ ?_ (i, x) ?_ ?_ true ?_ ?_); (exact rfl); (exact HWB.out); omega; (exact ⟨by omega, by omega⟩); (exact rfl); (exact rfl); (intro wC hmapC hgC); (have dC := MID.out.cellC hgC); (have MC := hid hmapC); (have GC := hid hgC); clear hmapC hgC)
                  | ((with_reducible refine bs100 (t := 108) ⟨x, i, k, true⟩ ?_ ?_); (exact rfl))
                  | ((with_reducible refine apK Ybad.E61 (t := 103) (u := 109) w.heap.size va (accN tx l k).length (rowX (accN tx l k)) (Acc.cells ⟨x, i, k, true⟩) wC.heap.size ?_ ?_ ?_ ?_ ?_ ?_ ?_ ?_ ?_); (exact rfl); (exact rfl); (exact (MID.out.ownC GC.out).1.alloc _); (exact heap_alloc_new _ _); (exact rfl); (exact Acc.one _); omega; (have := (MID.out.ownC GC.out).2; simp; omega); (intro g1 cap1 wE hownE hgE _ _); (obtain ⟨d2, q2, H9⟩ := MID.out.done (sz := if (mW (i, x)).isSome then szw else szw + 1) hlt (by rw [HC.out]; exact HR.out) HND.out (by rw [HC.out]; exact HCT.out) (by rw [HC.out, HX'.out, HI'.out, HWV.out]; exact MC.out) GC.out (by rw [HC.out, HX'.out, HI'.out, HWV.out]; exact hownE) hgE); clear hownE hgE dC))
                obtain ⟨mW', hst'⟩ := H9.out
                go_roundw
                case rel => exact ⟨k + 1, _, mW', by omega, by go_num, hst'⟩
                case measure => simp [intOf]; omega
              · have hw' : (c.k.toList == [119]) = false := by simpa using hw
                have hgw : (mW (i, x)).getD false = wv := by rw [hg, hwv2]; unfold isW; rw [hw']; simp
                rw [hgw] at hLk
                clear hwv2 hg hgw
                go_wp2_with (first
                  | ((with_reducible refine mapGetI (F := F32) keyed32' Ybad.underlying95 (tm := 54) (tk := 56) (w.heap.size + 1) tx.length tx.length (loc tx) ?_ ?_ c.t ?_ ?_ ?_); (exact rfl); (exact (ST.out.alloc _).plc); (exact HV32.out); (exact rfl))
                  | (go_at_call 38; refine Calls.mono (HTc.out _) ?_; rintro e w' ⟨rfl, rfl⟩)
                  | ((with_reducible refine mapGetI (F := F9) keyed9 Ybad.underlying96 (tm := 69) (tk := 71) (w.heap.size + 2) k its.length (loc its) ?_ ?_ c.it ?_ ?_ ?_); (exact rfl); (exact (by rw [← HITS.out]; exact (ST.out.alloc _).itm)); (exact HV9.out); (exact rfl))
                  | ((with_reducible refine mapPutB (F := F98) keyed98 Ybad.underlying97 (tm := 96) (tk := 97) (tv := 98) (w.heap.size + 3) k szw mW ?_ ?_ ?_ (i, x) ?_ ?_ wv ?_ ?_); (exact rfl); (exact HWB.out); omega; (exact ⟨by omega, by omega⟩); (exact rfl); (exact rfl); (intro wC hmapC hgC); (have dC := MID.out.cellC hgC); (have MC := hid hmapC); (have GC := hid hgC); clear hmapC hgC)
                  | ((with_reducible refine bs100 (t := 108) ⟨x, i, k, wv⟩ ?_ ?_); (exact rfl))
                  | ((with_reducible refine apK Ybad.E61 (t := 103) (u := 109) w.heap.size va (accN tx l k).length (rowX (accN tx l k)) (Acc.cells ⟨x, i, k, wv⟩) wC.heap.size ?_ ?_ ?_ ?_ ?_ ?_ ?_ ?_ ?_); (exact rfl); (exact rfl); (exact (MID.out.ownC GC.out).1.alloc _); (exact heap_alloc_new _ _); (exact rfl); (exact Acc.one _); omega; (have := (MID.out.ownC GC.out).2; simp; omega); (intro g1 cap1 wE hownE hgE _ _); (obtain ⟨d2, q2, H9⟩ := MID.out.done (sz := if (mW (i, x)).isSome then szw else szw + 1) hlt (by rw [HC.out]; exact HR.out) HND.out (by rw [HC.out]; exact HCT.out) (by rw [HC.out, HX'.out, HI'.out, HWV.out]; exact MC.out) GC.out (by rw [HC.out, HX'.out, HI'.out, HWV.out]; exact hownE) hgE); clear hownE hgE dC))
                obtain ⟨mW', hst'⟩ := H9.out
                go_roundw
                case rel => exact ⟨k + 1, _, mW', by omega, by go_num, hst'⟩
                case measure => simp [intOf]; omega
            · have hnew : itemsOf (l.take (k + 1)) = itemsOf (l.take k) ++ [c.it] := by have := CfSt.new hlt (by rw [HC.out]; exact HR.out) (by rw [HC.out]; exact hm); rw [HC.out] at this; exact this
              have hi : ix (itemsOf (l.take (k + 1))) c.it = its.length := by rw [hnew, ix_new hm, hits]
              have HI' := hid hi
              have hmi : c.it ∉ its := by rw [← hits]; exact hm
              have hl3 : (loc its c.it).getD 0 = (0 : Int) := by rw [loc_not hmi]; rfl
              have hl4 : (loc its c.it).isSome = false := by rw [loc_not hmi]; rfl
              have MIDF := hid (show ∀ w1, MapI F9 w1 (w.heap.size + 2) (k + 1) (if (loc its c.it).isSome then its.length else its.length + 1) (fun j => if j = c.it then some (its.length : Int) else loc its j) → (wr.alloc (.cells #[.string c.k, .int .i64 c.t, .string c.it] 34)).grownBy w1 (some (w.heap.size + 2)) → CfMid w w1 (.slice at' tx.length capt) tx l k va mW from fun w1 h1 h2 => by
                refine (ST.out.alloc _).mid_new hlt (by rw [HC.out]; exact HR.out) (by rw [HC.out]; exact hm) ?_ h2
                rw [hl4] at h1
                rw [HC.out, hits]
                exact h1)
              have hg : (mW (its.length, x)).getD false = false := by rw [ST.out.hn its.length x (by rw [hits]; exact Nat.le_refl _)]; rfl
              have hwn : wrOf (l.take k) c.t c.it = false := by
                cases hv : wrOf (l.take k) c.t c.it
                · rfl
                · exact absurd (wrOf_mem hv) hm
              rw [hwn, Bool.false_or] at hwv2
              clear hi hm hmi hnew hits hwn
              by_cases hw : c.k.toList = [119]
              · obtain rfl : wv = true := by rw [hwv2]; unfold isW; rw [hw]; simp
                clear hwv2
                go_wp2_with (first
                  | ((with_reducible refine mapGetI (F := F32) keyed32' Ybad.underlying95 (tm := 54) (tk := 56) (w.heap.size + 1) tx.length tx.length (loc tx) ?_ ?_ c.t ?_ ?_ ?_); (exact rfl); (exact (ST.out.alloc _).plc); (exact HV32.out); (exact rfl))
                  | (go_at_call 38; refine Calls.mono (HTc.out _) ?_; rintro e w' ⟨rfl, rfl⟩)
                  | ((with_reducible refine mapGetI (F := F9) keyed9 Ybad.underlying96 (tm := 69) (tk := 71) (w.heap.size + 2) k its.length (loc its) ?_ ?_ c.it ?_ ?_ ?_); (exact rfl); (exact (by rw [← HITS.out]; exact (ST.out.alloc _).itm)); (exact HV9.out); (exact rfl))
                  | ((with_reducible refine mapLenI (F := F9) (e := 3) Ybad.underlying96 (tm := 77) (plainElem Ybad.prog 3) (w.heap.size + 2) k its.length (fun i => ((loc its i).map fun c => .lit (.int .i64 c))) ?_ ?_ ?_); (exact rfl); (exact (by rw [← HITS.out]; exact (ST.out.alloc _).itm)))
                  | ((with_reducible refine mapPutI (F := F9) keyed9 Ybad.underlying96 (tm := 79) (tk := 81) (tv := 82) (w.heap.size + 2) k its.length (loc its) ?_ ?_ ?_ c.it ?_ ?_ (its.length : Int) ?_ ?_ ?_); (exact rfl); (exact (by rw [← HITS.out]; exact (ST.out.alloc _).itm)); omega; (exact HV9.out); (exact rfl); (exact ⟨by omega, by omega⟩); (exact rfl); (intro w1 hmap1 hgrow1 hsz1); (have e0 : w1.cell? ⟨wr.heap.size, 0, none⟩ = some (.string c.k) := by rw [cell_of_row _ _ _ _ _ _ ((hgrow1.block wr.heap.size (by simp) (by simp; omega)).trans (heap_alloc_new wr _))]; rfl); (have MID := hid (MIDF.out w1 hmap1 hgrow1)); clear hmap1 hgrow1; (obtain ⟨szw, hwB⟩ := (MID.out.alloc (.cells #[.int .i64 (its.length : Int), .int .i64 (x : Int)] 98)).wrt); (have hLk : (Instr.lookup 97 (.map (some (w.heap.size + 2 + 1))) (.agg #[.int .i64 (its.length : Int), .int .i64 (x : Int)]) false).run Ybad.prog (w1.alloc (.cells #[.int .i64 (its.length : Int), .int .i64 (x : Int)] 98)) = .ok (.bool ((mW (its.length, x)).getD false)) (w1.alloc (.cells #[.int .i64 (its.length : Int), .int .i64 (x : Int)] 98)) := mapGetB keyed98 Ybad.underlying97 hwB (its.length, x) ⟨by omega, by omega⟩); (have HWB := hid hwB); clear hwB)
                  | ((with_reducible refine mapPutB (F := F98) keyed98 Ybad.underlying97 (tm := 96) (tk := 97) (tv := 98) (w.heap.size + 3) k szw mW ?_ ?_ ?_ (its.length, x) ?_ ?_ true ?_ ?_); (exact rfl); (exact HWB.out); omega; (exact ⟨by omega, by omega⟩); (exact rfl); (exact rfl); (intro wC hmapC hgC); (have dC := MID.out.cellC hgC); (have MC := hid hmapC); (have GC := hid hgC); clear hmapC hgC)
                  | ((with_reducible refine bs100 (t := 108) ⟨x, its.length, k, true⟩ ?_ ?_); (exact rfl))
                  | ((with_reducible refine apK Ybad.E61 (t := 103) (u := 109) w.heap.size va (accN tx l k).length (rowX (accN tx l k)) (Acc.cells ⟨x, its.length, k, true⟩) wC.heap.size ?_ ?_ ?_ ?_ ?_ ?_ ?_ ?_ ?_); (exact rfl); (exact rfl); (exact (MID.out.ownC GC.out).1.alloc _); (exact heap_alloc_new _ _); (exact rfl); (exact Acc.one _); omega; (have := (MID.out.ownC GC.out).2; simp; omega); (intro g1 cap1 wE hownE hgE _ _); (obtain ⟨d2, q2, H9⟩ := MID.out.done (sz := if (mW (its.length, x)).isSome then szw else szw + 1) hlt (by rw [HC.out]; exact HR.out) HND.out (by rw [HC.out]; exact HCT.out) (by rw [HC.out, HX'.out, HI'.out, HWV.out]; exact MC.out) GC.out (by rw [HC.out, HX'.out, HI'.out, HWV.out]; exact hownE) hgE); clear hownE hgE dC))
                obtain ⟨mW', hst'⟩ := H9.out
                go_roundw
                case rel => exact ⟨k + 1, _, mW', by omega, by go_num, hst'⟩
                case measure => simp [intOf]; omega
              · have hw' : (c.k.toList == [119]) = false := by simpa using hw
                obtain rfl : wv = false := by rw [hwv2]; unfold isW; rw [hw']
                clear hwv2
                go_wp2_with (first
                  | ((with_reducible refine mapGetI (F := F32) keyed32' Ybad.underlying95 (tm := 54) (tk := 56) (w.heap.size + 1) tx.length tx.length (loc tx) ?_ ?_ c.t ?_ ?_ ?_); (exact rfl); (exact (ST.out.alloc _).plc); (exact HV32.out); (exact rfl))
                  | (go_at_call 38; refine Calls.mono (HTc.out _) ?_; rintro e w' ⟨rfl, rfl⟩)
                  | ((with_reducible refine mapGetI (F := F9) keyed9 Ybad.underlying96 (tm := 69) (tk := 71) (w.heap.size + 2) k its.length (loc its) ?_ ?_ c.it ?_ ?_ ?_); (exact rfl); (exact (by rw [← HITS.out]; exact (ST.out.alloc _).itm)); (exact HV9.out); (exact rfl))
                  | ((with_reducible refine mapLenI (F := F9) (e := 3) Ybad.underlying96 (tm := 77) (plainElem Ybad.prog 3) (w.heap.size + 2) k its.length (fun i => ((loc its i).map fun c => .lit (.int .i64 c))) ?_ ?_ ?_); (exact rfl); (exact (by rw [← HITS.out]; exact (ST.out.alloc _).itm)))
                  | ((with_reducible refine mapPutI (F := F9) keyed9 Ybad.underlying96 (tm := 79) (tk := 81) (tv := 82) (w.heap.size + 2) k its.length (loc its) ?_ ?_ ?_ c.it ?_ ?_ (its.length : Int) ?_ ?_ ?_); (exact rfl); (exact (by rw [← HITS.out]; exact (ST.out.alloc _).itm)); omega; (exact HV9.out); (exact rfl); (exact ⟨by omega, by omega⟩); (exact rfl); (intro w1 hmap1 hgrow1 hsz1); (have e0 : w1.cell? ⟨wr.heap.size, 0, none⟩ = some (.string c.k) := by rw [cell_of_row _ _ _ _ _ _ ((hgrow1.block wr.heap.size (by simp) (by simp; omega)).trans (heap_alloc_new wr _))]; rfl); (have MID := hid (MIDF.out w1 hmap1 hgrow1)); clear hmap1 hgrow1; (obtain ⟨szw, hwB⟩ := (MID.out.alloc (.cells #[.int .i64 (its.length : Int), .int .i64 (x : Int)] 98)).wrt); (have hLk : (Instr.lookup 97 (.map (some (w.heap.size + 2 + 1))) (.agg #[.int .i64 (its.length : Int), .int .i64 (x : Int)]) false).run Ybad.prog (w1.alloc (.cells #[.int .i64 (its.length : Int), .int .i64 (x : Int)] 98)) = .ok (.bool ((mW (its.length, x)).getD false)) (w1.alloc (.cells #[.int .i64 (its.length : Int), .int .i64 (x : Int)] 98)) := mapGetB keyed98 Ybad.underlying97 hwB (its.length, x) ⟨by omega, by omega⟩); (have HWB := hid hwB); clear hwB)
                  | ((with_reducible refine mapPutB (F := F98) keyed98 Ybad.underlying97 (tm := 96) (tk := 97) (tv := 98) (w.heap.size + 3) k szw mW ?_ ?_ ?_ (its.length, x) ?_ ?_ false ?_ ?_); (exact rfl); (exact HWB.out); omega; (exact ⟨by omega, by omega⟩); (exact rfl); (exact rfl); (intro wC hmapC hgC); (have dC := MID.out.cellC hgC); (have MC := hid hmapC); (have GC := hid hgC); clear hmapC hgC)
                  | ((with_reducible refine bs100 (t := 108) ⟨x, its.length, k, false⟩ ?_ ?_); (exact rfl))
                  | ((with_reducible refine apK Ybad.E61 (t := 103) (u := 109) w.heap.size va (accN tx l k).length (rowX (accN tx l k)) (Acc.cells ⟨x, its.length, k, false⟩) wC.heap.size ?_ ?_ ?_ ?_ ?_ ?_ ?_ ?_ ?_); (exact rfl); (exact rfl); (exact (MID.out.ownC GC.out).1.alloc _); (exact heap_alloc_new _ _); (exact rfl); (exact Acc.one _); omega; (have := (MID.out.ownC GC.out).2; simp; omega); (intro g1 cap1 wE hownE hgE _ _); (obtain ⟨d2, q2, H9⟩ := MID.out.done (sz := if (mW (its.length, x)).isSome then szw else szw + 1) hlt (by rw [HC.out]; exact HR.out) HND.out (by rw [HC.out]; exact HCT.out) (by rw [HC.out, HX'.out, HI'.out, HWV.out]; exact MC.out) GC.out (by rw [HC.out, HX'.out, HI'.out, HWV.out]; exact hownE) hgE); clear hownE hgE dC))
                obtain ⟨mW', hst'⟩ := H9.out
                go_roundw
                case rel => exact ⟨k + 1, _, mW', by omega, by go_num, hst'⟩
                case measure => simp [intOf]; omega
        · obtain rfl : k = l.length := by omega
          have cc1 : wr.cell? ⟨w.heap.size, 1, none⟩ = some (.int .i64 0) := by rw [cell_of_row _ _ _ _ _ _ ST.out.box]; rfl
          have cf1 := ST.out.f2 1
          have HLn := hid (show (itemsOf (l.take l.length)).length = (itemsOf l).length from by rw [List.take_length])
          go_wp2_with ((with_reducible refine mapLenI (F := F9) (e := 3) Ybad.underlying96 (tm := 115) (plainElem Ybad.prog 3) (w.heap.size + 2) l.length (itemsOf (l.take l.length)).length (fun i => ((loc (itemsOf (l.take l.length)) i).map fun c => .lit (.int .i64 c))) ?_ ?_ ?_); (exact rfl); (exact ST.out.itm))
          go_ret
          have hbx := ST.out.box
          refine ⟨va, rfl, ?_, ?_, ST.out.bel.setCell (p := ⟨w.heap.size, 1, none⟩) (Nat.le_refl _) _⟩
          · rw [heap_setCell_same _ _ _ _ _ _ hbx]; simp
          · exact SlX.of_own (ST.out.own.kept (grownBy_setCell'' wr w.heap.size 1 _) (.inr (own_apart ST.out.own hbx (by decide))))

end Go.Proofs.YbulkbgasDoor
