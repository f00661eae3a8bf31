import Derived.Test.YbulkbgaeBuild
namespace Go.Proofs.Ybulkbgae
open Go.RowKit
set_option linter.unusedVariables false
set_option linter.unusedSimpArgs false

/-- What an append onto the parts leaves. -/
theorem parts_facts {B : Nat} {ca na : Option Addr} {clen ccap nlen ncap j : Nat} {xs : List ByteArray} {w w6 w7 : World} {cs : List Co} {c : Co} {p6 : Nat} {wv6 v : Value} {o : Obj}
    (h1 : Gen B ca na clen ccap nlen ncap w6 p6 xs wv6) (h2 : Fr B w w6) (h3 : w6.heap[w.heap.size]? = some Z53) (h4 : w6.ownsRow (w.heap.size + 1) 53 27 v j (rowC cs)) (h5 : ∀ c' ∈ cs, 3 ≤ c'.op ∧ Sides (w.heap.size + 1) w6 c') (h6 : 3 ≤ c.op) (h7 : Sides (w.heap.size + 1) w6 c)
    (hB : B < w.heap.size) (hg : (w6.alloc o).grownBy w7 v.ownBlock) :
    Gen B ca na clen ccap nlen ncap w7 p6 xs wv6 ∧ Fr B w w7 ∧ w7.heap[w.heap.size]? = some Z53 ∧ (∀ c' ∈ cs ++ [c], 3 ≤ c'.op ∧ Sides (w.heap.size + 1) w7 c') := by
  have hlo := h4.lt
  have htag : ∀ k, v.ownBlock = some k → ∃ cur, w6.heap[k]? = some (.cells cur 53 (0, 0)) := fun k e => by
    rcases h4.2 with ⟨rfl, _⟩ | ⟨g, cap, cur, rfl, _, hh, _⟩
    · simp [Value.ownBlock] at e
    · simp [Value.ownBlock] at e
      subst e
      exact ⟨cur, hh⟩
  have hold : ∀ k ob, w6.heap[k]? = some ob → some k ≠ v.ownBlock → w7.heap[k]? = some ob := fun k ob hk hne => by
    have hl := (Array.getElem?_eq_some_iff.1 hk).1
    rw [hg.block k (by simp; omega) hne, Below.heap_alloc _ _ _ hl]
    exact hk
  have hkeep : ∀ c', Sides (w.heap.size + 1) w6 c' → Sides (w.heap.size + 1) w7 c' := fun c' hc' =>
    hc'.keep (Nat.le_refl _) fun g cur _ hh => hold g _ hh (fun e => by
      obtain ⟨cur', h'⟩ := htag g e.symm
      rw [hh] at h'
      simp at h')
  refine ⟨?_, (h2.alloc _).grownNew hg (fun k e => by have := hlo k e; omega), hold _ _ h3 (fun e => by have := hlo _ e.symm; omega), fun c' hc => ?_⟩
  · refine (h1.alloc _).grown hg (fun e => by have := hlo _ e.symm; omega) ?_
    cases hvb : v.ownBlock with
    | none => cases wv6.ownBlock <;> simp
    | some k =>
      obtain ⟨cur, hk⟩ := htag k hvb
      exact .inr (own_apart h1.own hk (by decide))
  · rcases List.mem_append.1 hc with hc | hc
    · exact ⟨(h5 c' hc).1, hkeep c' (h5 c' hc).2⟩
    · simp at hc
      subst hc
      exact ⟨h6, hkeep _ h7⟩

theorem own_fr53 {B base n : Nat} {w w' : World} {v : Value} {xs : List Value} (h : w.ownsRow base 53 27 v n xs) (hB : B < base) (hf : Fr B w w') : w'.ownsRow base 53 27 v n xs := by
  refine ⟨h.1, ?_⟩
  rcases h.2 with h2 | ⟨g, cap, cur, h3, h4, h5, h6⟩
  · exact .inl h2
  · exact .inr ⟨g, cap, cur, h3, h4, hf.keeps (by decide) (by omega) h5, h6⟩

theorem Sides.fr {B lo : Nat} {w w' : World} {c : Co} (h : Sides lo w c) (hB : B < lo) (hf : Fr B w w') : Sides lo w' c := ⟨h.1.fr hB hf, h.2.fr hB hf⟩

theorem Sides.drew {lo : Nat} {w : World} {c : Co} (h : Sides lo w c) (k : Nat) : Sides lo (w.drewN k) c := h.keep (Nat.le_refl _) fun _ _ _ hh => hh

theorem names_comb {op : Int} {a : Option Addr} {len cap : Nat} {c1 c2 : Ch} {L : List Nd} {ns : List ByteArray} (h : names L = ns) (ho : op < 3) : (Co.mk op a len cap c1 c2 L).names = ns := by
  have : ¬ 3 ≤ op := by omega
  simp [Co.names, this, h]

theorem names_not {a a' : Option Addr} {g len cap len' cap' : Nat} {c1 c2 : Ch} {L : List Nd} {ns : List ByteArray} (h : names L = ns) : (Co.mk 2 a' len' cap' c1 c2 (nodesC g 0 [⟨1, a, len, cap, c1, c2, L⟩])).names = ns := by
  refine names_comb ?_ (by decide)
  rw [names_nodesC]
  simp only [List.flatMap_cons, List.flatMap_nil, List.append_nil]
  exact names_comb h (by decide)

theorem Par.single {m lo : Nat} {W : World} {a : Option Addr} {len cap : Nat} {L : List Nd} (h : Par m lo W a len L) (hl : lo ≤ W.heap.size) :
    Par (m + 1) lo (W.alloc (.cells (rowC [⟨1, a, len, cap, ch0, ch0, L⟩]).toArray 53)) (some ⟨W.heap.size, 0, none⟩) 1 (nodesC W.heap.size 0 [⟨1, a, len, cap, ch0, ch0, L⟩]) := by
  refine .inr ⟨W.heap.size, (rowC [⟨1, a, len, cap, ch0, ch0, L⟩]).toArray, [⟨1, a, len, cap, ch0, ch0, L⟩], rfl, hl, heap_alloc_new W _, ⟨rfl, by decide⟩, ?_, ?_, rfl⟩
  · rw [show 1 * 27 = (rowC [(⟨1, a, len, cap, ch0, ch0, L⟩ : Co)]).length from (rowC_length [⟨1, a, len, cap, ch0, ch0, L⟩]).symm]; exact List.take_length
  · intro c hc
    simp only [List.mem_cons, List.not_mem_nil, or_false] at hc
    subst hc
    exact .inr ⟨(by show (0 : Int) ≤ 1; decide), (by show (1 : Int) < 3; decide), h.keep (Nat.le_refl _) fun g cur t _ _ hh => (Below.heap_alloc W _ g (Array.getElem?_eq_some_iff.1 hh).1).trans hh⟩

set_option maxRecDepth 100000 in
set_option maxHeartbeats 2000000 in
theorem build_comb (B : Nat) (ca na : Option Addr) (clen ccap nlen ncap pos : Nat) (xs : List ByteArray) (wv : Value) (w : World) (sh : Int) (hs0 : 0 ≤ sh) (hs1 : sh ≤ 255) (hs3 : sh % 3 = 1)
    (hC : Codes B w ca clen) (hN : Names B w na nlen) (hG : Gen B ca na clen ccap nlen ncap w pos xs wv) :
    Calls Yba.prog 9 #[.pointer (some ⟨B, 0, none⟩), .int .u8 sh] w (BuildSaid B ca na clen ccap nlen ncap w xs) := by
  have hB := hG.lt
  have hc := hG.hc
  have HG := hid (hG.alloc Z53)
  have HC := hid hC
  have HN := hid hN
  clear hC hN hG
  go_enter Yba.func9, Yba.ntmps9
  go_wp2_with fail
  rw [hs3]
  go_loopw [5, 6] (fun v i wr => ∃ (j : Nat) (cs : List Co) (a : Option Addr) (cap p : Nat) (wv' : Value), j ≤ 8 ∧ i = .int .i64 j ∧ v = .slice a j cap ∧ cs.length = j ∧ Gen B ca na clen ccap nlen ncap wr p (xs ++ cs.flatMap Co.names) wv' ∧ Fr B w wr ∧ wr.heap[w.heap.size]? = some Z53 ∧
      wr.ownsRow (w.heap.size + 1) 53 27 (.slice a j cap) j (rowC cs) ∧ (∀ c ∈ cs, 3 ≤ c.op ∧ Sides (w.heap.size + 1) wr c)) (fun _ i _ => 8 - (intOf i).toNat)
  case atStart => exact ⟨0, [], none, 0, pos, wv, by omega, rfl, rfl, rfl, by rw [List.flatMap_nil, List.append_nil]; exact HG.out, (Fr.refl B w).alloc _, heap_alloc_new w Z53, World.ownsRow_nil _ _ _ _, fun c hc => by cases hc⟩
  case round =>
    obtain ⟨j, cs, a, cap, p, wv', hj, rfl, rfl, rfl, hGr, hFr, hbx, hor, hkr⟩ := hrel
    have r0 := hGr.c0
    have r2 := hGr.c2
    have hpp := hGr.hp
    have HGr := hid hGr
    have HFr := hid hFr
    have HBx := hid hbx
    have HOr := hid hor
    have HKr := hid hkr
    clear hGr hFr hbx hor hkr HG
    by_cases hj8 : cs.length < 8
    · have hji : (cs.length : Int) < 8 := by omega
      by_cases hp : p < clen
      · have hpi : (p : Int) < (clen : Int) := by omega
        go_wp2
        go_quiet (fail)
        go_wp2_with fail
        refine Calls.mono (atom_any B ca na clen ccap nlen ncap p _ wv' (wr.drewN _) (HC.out.below ((HFr.out.drewN _).below (Nat.le_of_lt hB))) (HN.out.below ((HFr.out.drewN _).below (Nat.le_of_lt hB))) (HGr.out.drewN _)) ?_
        rintro e w6 ⟨c, p6, wv6, rfl, hf6, hG6, hop, hk6, hp6⟩
        obtain ⟨H6, hs6⟩ := atom_facts (HFr.out.drewN _) HBx.out (by decide) hB hf6 hG6 hk6
        have O6 := hid (own_fr53 HOr.out (by omega) (((Fr.refl B wr).drewN _).trans hf6))
        have K6 := hid (fun c' hc' => ⟨(HKr.out c' hc').1, (HKr.out c' hc').2.fr (by omega) (((Fr.refl B wr).drewN _).trans hf6)⟩ : ∀ c' ∈ cs, 3 ≤ c'.op ∧ Sides (w.heap.size + 1) w6 c')
        have HOP : Hid (3 ≤ c.op) := hop
        clear hf6 hG6 hk6 hop r0 r2
        go_wp2_with (first
          | ((with_reducible refine bs53 (t := 30) c ?_ ?_); (exact rfl))
          | ((with_reducible refine ap53 (t := 28) (u := 31) (w.heap.size + 1) (.slice a cs.length cap) cs c w6.heap.size ?_ ?_ ?_ ?_ ?_ ?_ ?_); (exact rfl); (exact rfl); (exact O6.out.alloc _); (exact heap_alloc_new _ _); omega; (simp; omega); (intro g cap' w7 hown7 hgrow7); (have H7 := hid hown7); (have J7 := hid hgrow7); clear hown7 hgrow7))
        go_roundw
        case rel =>
          have H8 := parts_facts H6.out.2.2.1 H6.out.1 H6.out.2.1 O6.out K6.out HOP.out H6.out.2.2.2 hB J7.out
          have H9 : Gen B ca na clen ccap nlen ncap w7 p6 (xs ++ (cs ++ [c]).flatMap Co.names) wv6 := by
            have := H8.1
            simpa [List.append_assoc] using this
          exact ⟨cs.length + 1, cs ++ [c], _, cap', p6, wv6, by omega, by go_num, rfl, by simp, H9, H8.2.1, H8.2.2.1, H7.out, H8.2.2.2⟩
        case measure => simp [intOf]; omega
      · have hpi : ¬ (p : Int) < (clen : Int) := by omega
        obtain ⟨L, hKL, hnL⟩ := Par.of_own (m := 0) (lo := w.heap.size + 1) HOr.out (Nat.le_refl _) (by omega) (fun c hc => .inl (HKr.out c hc))
        have HKL := hid hKL
        have HnL := hid hnL
        clear hKL hnL
        go_wp2
        go_quiet (fail)
        go_wp2_with ((with_reducible refine st53r (t := 4) (u := 37) w.heap.size ⟨0, a, cs.length, cap, ch0, ch0, L⟩ ?_ ?_ ?_ ?_); (exact rfl); (exact rfl); (exact HBx.out))
        exact build_close (pos' := p) (wv := wv') (c := ⟨0, a, cs.length, cap, ch0, ch0, L⟩) (HFr.out.drewN _) (by rw [names_comb HnL.out (by decide)]; exact HGr.out.drewN _) HBx.out hB rfl rfl (.inr ⟨(by show (0 : Int) ≤ 0; decide), (by show (0 : Int) < 3; decide), (HKL.out.keep (Nat.le_refl _) fun _ _ _ _ _ hh => hh).more⟩)
    · have hji : decide ((cs.length : Int) < 8) = false := by simp; omega
      obtain ⟨L, hKL, hnL⟩ := Par.of_own (m := 0) (lo := w.heap.size + 1) HOr.out (Nat.le_refl _) (by omega) (fun c hc => .inl (HKr.out c hc))
      have HKL := hid hKL
      have HnL := hid hnL
      clear hKL hnL
      go_wp2
      go_quiet (fail)
      go_wp2_with ((with_reducible refine st53r (t := 4) (u := 37) w.heap.size ⟨0, a, cs.length, cap, ch0, ch0, L⟩ ?_ ?_ ?_ ?_); (exact rfl); (exact rfl); (exact HBx.out))
      exact build_close (pos' := p) (wv := wv') (c := ⟨0, a, cs.length, cap, ch0, ch0, L⟩) (HFr.out.drewN _) (by rw [names_comb HnL.out (by decide)]; exact HGr.out.drewN _) HBx.out hB rfl rfl (.inr ⟨(by show (0 : Int) ≤ 0; decide), (by show (0 : Int) < 3; decide), (HKL.out.keep (Nat.le_refl _) fun _ _ _ _ _ hh => hh).more⟩)

set_option maxRecDepth 100000 in
set_option maxHeartbeats 2000000 in
theorem build_not (B : Nat) (ca na : Option Addr) (clen ccap nlen ncap pos : Nat) (xs : List ByteArray) (wv : Value) (w : World) (sh : Int) (hs0 : 0 ≤ sh) (hs1 : sh ≤ 255) (hs3 : sh % 3 = 2)
    (hC : Codes B w ca clen) (hN : Names B w na nlen) (hG : Gen B ca na clen ccap nlen ncap w pos xs wv) :
    Calls Yba.prog 9 #[.pointer (some ⟨B, 0, none⟩), .int .u8 sh] w (BuildSaid B ca na clen ccap nlen ncap w xs) := by
  have hB := hG.lt
  have hc := hG.hc
  have HG := hid (hG.alloc Z53)
  have HC := hid hC
  have HN := hid hN
  clear hC hN hG
  go_enter Yba.func9, Yba.ntmps9
  go_wp2_with fail
  rw [hs3]
  go_loopw [5, 6] (fun v i wr => ∃ (j : Nat) (cs : List Co) (a : Option Addr) (cap p : Nat) (wv' : Value), j ≤ 8 ∧ i = .int .i64 j ∧ v = .slice a j cap ∧ cs.length = j ∧ Gen B ca na clen ccap nlen ncap wr p (xs ++ cs.flatMap Co.names) wv' ∧ Fr B w wr ∧ wr.heap[w.heap.size]? = some Z53 ∧
      wr.ownsRow (w.heap.size + 1) 53 27 (.slice a j cap) j (rowC cs) ∧ (∀ c ∈ cs, 3 ≤ c.op ∧ Sides (w.heap.size + 1) wr c)) (fun _ i _ => 8 - (intOf i).toNat)
  case atStart => exact ⟨0, [], none, 0, pos, wv, by omega, rfl, rfl, rfl, by rw [List.flatMap_nil, List.append_nil]; exact HG.out, (Fr.refl B w).alloc _, heap_alloc_new w Z53, World.ownsRow_nil _ _ _ _, fun c hc => by cases hc⟩
  case round =>
    obtain ⟨j, cs, a, cap, p, wv', hj, rfl, rfl, rfl, hGr, hFr, hbx, hor, hkr⟩ := hrel
    have r0 := hGr.c0
    have r2 := hGr.c2
    have hpp := hGr.hp
    have HGr := hid hGr
    have HFr := hid hFr
    have HBx := hid hbx
    have HOr := hid hor
    have HKr := hid hkr
    clear hGr hFr hbx hor hkr HG
    by_cases hj8 : cs.length < 8
    · have hji : (cs.length : Int) < 8 := by omega
      by_cases hp : p < clen
      · have hpi : (p : Int) < (clen : Int) := by omega
        go_wp2
        go_quiet (fail)
        go_wp2_with fail
        refine Calls.mono (atom_any B ca na clen ccap nlen ncap p _ wv' (wr.drewN _) (HC.out.below ((HFr.out.drewN _).below (Nat.le_of_lt hB))) (HN.out.below ((HFr.out.drewN _).below (Nat.le_of_lt hB))) (HGr.out.drewN _)) ?_
        rintro e w6 ⟨c, p6, wv6, rfl, hf6, hG6, hop, hk6, hp6⟩
        obtain ⟨H6, hs6⟩ := atom_facts (HFr.out.drewN _) HBx.out (by decide) hB hf6 hG6 hk6
        have O6 := hid (own_fr53 HOr.out (by omega) (((Fr.refl B wr).drewN _).trans hf6))
        have K6 := hid (fun c' hc' => ⟨(HKr.out c' hc').1, (HKr.out c' hc').2.fr (by omega) (((Fr.refl B wr).drewN _).trans hf6)⟩ : ∀ c' ∈ cs, 3 ≤ c'.op ∧ Sides (w.heap.size + 1) w6 c')
        have HOP : Hid (3 ≤ c.op) := hop
        clear hf6 hG6 hk6 hop r0 r2
        go_wp2_with (first
          | ((with_reducible refine bs53 (t := 30) c ?_ ?_); (exact rfl))
          | ((with_reducible refine ap53 (t := 28) (u := 31) (w.heap.size + 1) (.slice a cs.length cap) cs c w6.heap.size ?_ ?_ ?_ ?_ ?_ ?_ ?_); (exact rfl); (exact rfl); (exact O6.out.alloc _); (exact heap_alloc_new _ _); omega; (simp; omega); (intro g cap' w7 hown7 hgrow7); (have H7 := hid hown7); (have J7 := hid hgrow7); clear hown7 hgrow7))
        go_roundw
        case rel =>
          have H8 := parts_facts H6.out.2.2.1 H6.out.1 H6.out.2.1 O6.out K6.out HOP.out H6.out.2.2.2 hB J7.out
          have H9 : Gen B ca na clen ccap nlen ncap w7 p6 (xs ++ (cs ++ [c]).flatMap Co.names) wv6 := by
            have := H8.1
            simpa [List.append_assoc] using this
          exact ⟨cs.length + 1, cs ++ [c], _, cap', p6, wv6, by omega, by go_num, rfl, by simp, H9, H8.2.1, H8.2.2.1, H7.out, H8.2.2.2⟩
        case measure => simp [intOf]; omega
      · have hpi : ¬ (p : Int) < (clen : Int) := by omega
        obtain ⟨L, hKL, hnL⟩ := Par.of_own (m := 0) (lo := w.heap.size + 1) HOr.out (Nat.le_refl _) (by omega) (fun c hc => .inl (HKr.out c hc))
        have HKL := hid hKL
        have HnL := hid hnL
        have hsr : w.heap.size < wr.heap.size := (Array.getElem?_eq_some_iff.1 HBx.out).1
        clear hKL hnL
        go_wp2
        go_quiet (fail)
        go_wp2_with (first
          | ((with_reducible refine bs53 (t := 39) ⟨1, a, cs.length, cap, ch0, ch0, L⟩ ?_ ?_); (exact rfl))
          | ((with_reducible refine st53r (t := 4) (u := 41) w.heap.size ⟨2, some ⟨wr.heap.size, 0, none⟩, 1, 1, ch0, ch0, nodesC wr.heap.size 0 [⟨1, a, cs.length, cap, ch0, ch0, L⟩]⟩ ?_ ?_ ?_ ?_); (exact rfl); (exact rfl); (exact (Below.heap_alloc _ _ _ hsr).trans HBx.out)))
        exact build_close (pos' := p) (wv := wv') (c := ⟨2, some ⟨wr.heap.size, 0, none⟩, 1, 1, ch0, ch0, nodesC wr.heap.size 0 [⟨1, a, cs.length, cap, ch0, ch0, L⟩]⟩) ((HFr.out.drewN _).alloc _) (by rw [names_not HnL.out]; exact (HGr.out.drewN _).alloc _) ((Below.heap_alloc _ _ _ hsr).trans HBx.out) hB rfl rfl (.inr ⟨(by show (0 : Int) ≤ 2; decide), (by show (2 : Int) < 3; decide), Par.single (W := wr.drewN nq) (HKL.out.keep (Nat.le_refl _) fun _ _ _ _ _ hh => hh) (Nat.succ_le_of_lt hsr)⟩)
    · have hji : decide ((cs.length : Int) < 8) = false := by simp; omega
      obtain ⟨L, hKL, hnL⟩ := Par.of_own (m := 0) (lo := w.heap.size + 1) HOr.out (Nat.le_refl _) (by omega) (fun c hc => .inl (HKr.out c hc))
      have HKL := hid hKL
      have HnL := hid hnL
      have hsr : w.heap.size < wr.heap.size := (Array.getElem?_eq_some_iff.1 HBx.out).1
      clear hKL hnL
      go_wp2
      go_quiet (fail)
      go_wp2_with (first
        | ((with_reducible refine bs53 (t := 39) ⟨1, a, cs.length, cap, ch0, ch0, L⟩ ?_ ?_); (exact rfl))
        | ((with_reducible refine st53r (t := 4) (u := 41) w.heap.size ⟨2, some ⟨wr.heap.size, 0, none⟩, 1, 1, ch0, ch0, nodesC wr.heap.size 0 [⟨1, a, cs.length, cap, ch0, ch0, L⟩]⟩ ?_ ?_ ?_ ?_); (exact rfl); (exact rfl); (exact (Below.heap_alloc _ _ _ hsr).trans HBx.out)))
      exact build_close (pos' := p) (wv := wv') (c := ⟨2, some ⟨wr.heap.size, 0, none⟩, 1, 1, ch0, ch0, nodesC wr.heap.size 0 [⟨1, a, cs.length, cap, ch0, ch0, L⟩]⟩) ((HFr.out.drewN _).alloc _) (by rw [names_not HnL.out]; exact (HGr.out.drewN _).alloc _) ((Below.heap_alloc _ _ _ hsr).trans HBx.out) hB rfl rfl (.inr ⟨(by show (0 : Int) ≤ 2; decide), (by show (2 : Int) < 3; decide), Par.single (W := wr.drewN nq) (HKL.out.keep (Nat.le_refl _) fun _ _ _ _ _ hh => hh) (Nat.succ_le_of_lt hsr)⟩)

/-- build, whole. -/
theorem build_any (B : Nat) (ca na : Option Addr) (clen ccap nlen ncap pos : Nat) (xs : List ByteArray) (wv : Value) (w : World) (sh : Int) (hs0 : 0 ≤ sh) (hs1 : sh ≤ 255)
    (hC : Codes B w ca clen) (hN : Names B w na nlen) (hG : Gen B ca na clen ccap nlen ncap w pos xs wv) :
    Calls Yba.prog 9 #[.pointer (some ⟨B, 0, none⟩), .int .u8 sh] w (BuildSaid B ca na clen ccap nlen ncap w xs) := by
  rcases (show sh % 3 = 0 ∨ sh % 3 = 1 ∨ sh % 3 = 2 from by omega) with e | e | e
  · exact build_atom B ca na clen ccap nlen ncap pos xs wv w sh hs0 hs1 e hC hN hG
  · exact build_comb B ca na clen ccap nlen ncap pos xs wv w sh hs0 hs1 e hC hN hG
  · exact build_not B ca na clen ccap nlen ncap pos xs wv w sh hs0 hs1 e hC hN hG

end Go.Proofs.Ybulkbgae
