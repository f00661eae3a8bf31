import Derived.Test.YbulkbgasDoorHp3
namespace Go.Proofs.YbulkbgasDoor
open Go.RowKit Go.Maps
set_option linter.unusedVariables false
attribute [local go_sem ↓] Go.wp_at_zero Go.wp_at_succ

set_option maxRecDepth 100000 in
set_option maxHeartbeats 1000000 in
theorem up_any {w : World} {b base : Nat} {l : List Nat} {v : Value} (h : Hp w b base l v) (hlen : l.length ≤ 1000) (j0 : Nat) (hj0 : j0 < l.length) :
    Calls Ybad.prog 65 #[.iface 118 (.pointer (some ⟨b, 0, none⟩)), .int .i64 (j0 : Int)] w fun e w' => e = .returned (.tuple #[]) ∧ ∃ l', l'.Perm l ∧ HpTo b base w v w' l' v := by
  have H0 := hid (HpTo.refl h)
  obtain ⟨g, cap, hv⟩ := h.form (by omega)
  subst hv
  obtain ⟨n, hn⟩ : ∃ n, l.length = n := ⟨_, rfl⟩
  rw [hn] at H0 hlen hj0 ⊢
  have HN := hid hn
  clear h hn
  go_enter Ybad.func65, Ybad.ntmps65
  go_wp2_with fail
  go_loopg [1] (j0 + 1) (fun g0 i wr => ∃ (k : Nat) (l' : List Nat), k < n ∧ g0 = k + 1 ∧ i = .int .i64 (k : Int) ∧ l'.Perm l ∧ HpTo b base w (.slice (some ⟨g, 0, none⟩) n cap) wr l' (.slice (some ⟨g, 0, none⟩) n cap))
  case atStart => exact ⟨j0, l, hj0, rfl, rfl, List.Perm.refl _, H0.out⟩
  case round =>
    obtain ⟨k, l', hk, rfl, rfl, hp, hto⟩ := hrel
    have HT := hid hto
    have HP := hid hp
    have hll : l'.length = n := by rw [← HN.out]; exact hp.length_eq
    have HLL := hid hll
    clear hto hp hll H0
    go_upto_region 0 with fail
    go_cut [4] (fun t wd => ∃ i : Nat, t = .int .i64 (i : Int) ∧ (k = 0 → i = 0) ∧ (k ≠ 0 → i < k) ∧ HpTo b base w (.slice (some ⟨g, 0, none⟩) n cap) wd l' (.slice (some ⟨g, 0, none⟩) n cap))
    case first =>
      go_wp2_with fail
      go_meet
      refine ⟨(k - 1) / 2, ?_, by omega, by omega, HT.out⟩
      congr 1
      rcases k with _ | m
      · rfl
      · rw [show ((m + 1 : Nat) : Int) - 1 = (m : Int) by omega]
        exact (Int.ofNat_tdiv m 2).symm
    case rest =>
      obtain ⟨i, rfl, hi0, hi1, hto⟩ := hcut
      have HT1 := hid hto
      clear hto HT
      by_cases h0 : k = 0
      · subst h0
        obtain rfl := hi0 rfl
        go_wp2_with fail
        go_end0
        exact ⟨rfl, l', HP.out, HT1.out⟩
      · have hik := hi1 h0
        have hb1 : ((i : Int) == (k : Int)) = false := by simp; omega
        have hb2 : ¬ (i : Int) = (k : Int) := by omega
        have mL := m_less HT1.out.hp.cell
        have hk' : k < l'.length := by rw [HLL.out]; omega
        have hi' : i < l'.length := by rw [HLL.out]; omega
        have HL := hid (less_any (cap := cap) (g := g) (w := wc) (base := base) (by have := HT1.out.hp.own; rw [← HLL.out] at this; exact this) hk' hi')
        rw [HLL.out] at HL
        go_upto_region 1 with fail
        go_cut [17] (fun t wd => ∃ r, t = .bool r ∧ HpTo b base w (.slice (some ⟨g, 0, none⟩) n cap) wd l' (.slice (some ⟨g, 0, none⟩) n cap))
        case first =>
          go_wp2_with (go_at_call 112; refine Calls.mono HL.out ?_; rintro e w' ⟨⟨r, rfl⟩, kk, rfl⟩)
          go_meet
          exact ⟨_, rfl, HT1.out.drewN _⟩
        case rest =>
          obtain ⟨r, rfl, hto⟩ := hcut
          have HT4 := hid hto
          clear hto HT1 mL
          cases r with
          | true =>
            go_wp2_with fail
            go_end0
            exact ⟨rfl, l', HP.out, HT4.out⟩
          | false =>
            have mS := m_swap HT4.out.hp.cell
            have HS := hid (swap_any (cap := cap) (g := g) (w := wc) (base := base) (b := b) (by have := HT4.out.hp; rw [← HLL.out] at this; exact this) hi' hk')
            rw [HLL.out] at HS
            go_wp2_with (go_at_call 113; refine Calls.mono HS.out ?_; rintro e w' ⟨rfl, l2, hp2, hto2⟩)
            go_roundg (i + 1)
            case measure => omega
            case rel => exact ⟨i, l2, by omega, rfl, rfl, hp2.trans HP.out, HT4.out.trans hto2⟩

set_option maxRecDepth 100000 in
theorem hpop_any {w : World} {b base : Nat} {l : List Nat} {v : Value} (h : Hp w b base l v) (hl : 0 < l.length) (hlen : l.length ≤ 1000) :
    Calls Ybad.prog 40 #[.iface 118 (.pointer (some ⟨b, 0, none⟩))] w fun e w' => ∃ (x : Nat) (l' : List Nat) (v' : Value), e = .returned (.iface 3 (.int .i64 (x : Int))) ∧ (x :: l').Perm l ∧ HpTo b base w v w' l' v' := by
  obtain ⟨g, cap, hv⟩ := h.form hl
  subst hv
  have HH := hid h
  obtain ⟨n, hn⟩ : ∃ n, l.length = n + 1 := ⟨l.length - 1, by omega⟩
  have mn := m_len h.cell
  have ms := m_swap h.cell
  have HS := hid (swap_any h (i := 0) (j := n) (by omega) (by omega))
  rw [hn] at mn ms HS
  have HL := hid hn
  have hln : n + 1 ≤ 1000 := by omega
  clear h hn
  go_enter Ybad.func40, Ybad.ntmps40
  go_wp2_with (first
    | (go_at_call 39; refine Calls.mono (len_any _ _ _ _) ?_; rintro e w' ⟨rfl, rfl⟩)
    | (go_at_call 113; refine Calls.mono HS.out ?_; rintro e w1 ⟨rfl, l1, hp1, hto1⟩; have HP1 := hid hp1; have HT1 := hid hto1; clear hp1 hto1)
    | (go_at_call 64; refine Calls.mono (down_any HT1.out.hp (by rw [HP1.out.length_eq, HL.out]; omega) n (by rw [HP1.out.length_eq, HL.out]; omega) 0 (by omega)) ?_; rintro e w2 ⟨⟨r, rfl⟩, l2, hp2, hto2⟩; have HP2 := hid hp2; have HT2 := hid hto2; have mp := m_pop hto2.hp.cell; clear hp2 hto2)
    | (go_at_call 114; refine Calls.mono (pop_any HT2.out.hp (by intro e; have := HP2.out.length_eq; rw [HP1.out.length_eq, HL.out, e] at this; simp at this) (by rw [HP2.out.length_eq, HP1.out.length_eq, HL.out]; omega)) ?_; rintro e w3 ⟨x, l3, v3, rfl, hp3, hto3⟩; have HP3 := hid hp3; have HT3 := hid hto3; clear hp3 hto3))
  go_ret
  exact ⟨x, l3, v3, rfl, HP3.out.trans (HP2.out.trans HP1.out), by rw [HL.out]; exact HT1.out.trans (HT2.out.trans HT3.out)⟩

set_option maxRecDepth 100000 in
theorem hpush_any {w : World} {b base : Nat} {l : List Nat} {v : Value} (h : Hp w b base l v) (hlen : l.length < 1000) (hb : base ≤ w.heap.size) (x : Nat) :
    Calls Ybad.prog 41 #[.iface 118 (.pointer (some ⟨b, 0, none⟩)), .iface 3 (.int .i64 (x : Int))] w fun e w' => e = .returned (.tuple #[]) ∧ ∃ (l' : List Nat) (v' : Value), l'.Perm (l ++ [x]) ∧ HpTo b base w v w' l' v' := by
  have HP := hid (push_any h (by omega) hb x)
  have mp := m_push h.cell
  clear h
  go_enter Ybad.func41, Ybad.ntmps41
  go_wp2_with (first
    | (go_at_call 115; refine Calls.mono HP.out ?_; rintro e w1 ⟨rfl, v1, hto1⟩; obtain ⟨g1, cap1, rfl⟩ := hto1.hp.form (by simp); have mn := m_len hto1.hp.cell; have HT1 := hid hto1; rw [List.length_append, List.length_singleton] at mn; clear hto1)
    | (go_at_call 39; refine Calls.mono (len_any _ _ _ _) ?_; rintro e w' ⟨rfl, rfl⟩)
    | (go_at_call 65; refine Calls.mono (up_any HT1.out.hp (by simp; omega) l.length (by simp)) ?_; rintro e w2 ⟨rfl, l2, hp2, hto2⟩))
  go_end0
  exact ⟨rfl, l2, _, hp2, HT1.out.trans hto2⟩
end Go.Proofs.YbulkbgasDoor
