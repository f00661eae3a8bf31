import Derived.Test.YbulkbgasDoorHp2
namespace Go.Proofs.YbulkbgasDoor
open Go.RowKit Go.Maps
set_option linter.unusedVariables false
attribute [local go_sem ↓] Go.wp_at_zero Go.wp_at_succ

theorem Hp.form {w : World} {b base : Nat} {l : List Nat} {v : Value} (h : Hp w b base l v) (hl : 0 < l.length) : ∃ g cap, v = .slice (some ⟨g, 0, none⟩) l.length cap := by
  obtain ⟨g, cap, h1, _⟩ := ownI_cell h.own hl
  exact ⟨g, cap, h1⟩

set_option maxRecDepth 100000 in
set_option maxHeartbeats 1000000 in
theorem down_any {w : World} {b base : Nat} {l : List Nat} {v : Value} (h : Hp w b base l v) (hlen : l.length ≤ 1000) (n : Nat) (hn : n ≤ l.length) (i0 : Nat) (hi0 : i0 ≤ 1000) :
    Calls Ybad.prog 64 #[.iface 118 (.pointer (some ⟨b, 0, none⟩)), .int .i64 (i0 : Int), .int .i64 (n : Int)] w fun e w' => RetB e ∧ ∃ l', l'.Perm l ∧ HpTo b base w v w' l' v := by
  have H0 := hid (HpTo.refl h)
  clear h
  go_enter Ybad.func64, Ybad.ntmps64
  go_wp2_with fail
  go_loopg [7] (1001 - i0) (fun g i wr => ∃ (k : Nat) (l' : List Nat), k ≤ 1000 ∧ g = 1001 - k ∧ i = .int .i64 (k : Int) ∧ l'.Perm l ∧ HpTo b base w v wr l' v)
  case atStart => exact ⟨i0, l, hi0, rfl, rfl, List.Perm.refl _, H0.out⟩
  case round =>
    obtain ⟨k, l', hk, rfl, rfl, hp, hto⟩ := hrel
    have HT := hid hto
    have HP := hid hp
    have hll : l'.length = l.length := hp.length_eq
    have HLL := hid hll
    clear hto hp hll H0
    by_cases hj : n ≤ 2 * k + 1
    · have hj1 : (n : Int) ≤ 2 * (k : Int) + 1 := by omega
      go_wp2_with fail
      go_ret
      exact ⟨⟨_, rfl⟩, l', HP.out, HT.out⟩
    · have hj1 : ¬ (n : Int) ≤ 2 * (k : Int) + 1 := by omega
      have hj2 : ¬ (2 * (k : Int) + 1 < 0) := by omega
      obtain ⟨g, cap, hv⟩ := HT.out.hp.form (by rw [HLL.out]; omega)
      subst hv
      go_upto_region 6 with fail
      go_cut [33] (fun t wd => ∃ r, t = .bool r ∧ (r = true → 2 * k + 1 + 1 < n) ∧ HpTo b base w (.slice (some ⟨g, 0, none⟩) l'.length cap) wd l' (.slice (some ⟨g, 0, none⟩) l'.length cap))
      case first =>
        by_cases hj3 : 2 * k + 1 + 1 < n
        · have hj4 : 2 * (k : Int) + 1 + 1 < (n : Int) := by omega
          have mL := m_less HT.out.hp.cell
          have HL := hid (show Calls Ybad.prog 112 #[.slice (some ⟨g, 0, none⟩) l'.length cap, .int .i64 (2 * (k : Int) + 1 + 1), .int .i64 (2 * (k : Int) + 1)] wr fun e w' => RetB e ∧ ∃ k, w' = wr.drewN k from by
            have := less_any HT.out.hp.own (i := 2 * k + 1 + 1) (j := 2 * k + 1) (by rw [HLL.out]; omega) (by rw [HLL.out]; omega)
            rw [show ((2 * k + 1 + 1 : Nat) : Int) = 2 * (k : Int) + 1 + 1 by omega, show ((2 * k + 1 : Nat) : Int) = 2 * (k : Int) + 1 by omega] at this
            exact this)
          go_wp2_with (go_at_call 112; refine Calls.mono HL.out ?_; rintro e w' ⟨⟨r, rfl⟩, kk, rfl⟩)
          go_meet
          exact ⟨_, rfl, fun _ => hj3, HT.out.drewN _⟩
        · have hj4 : ¬ 2 * (k : Int) + 1 + 1 < (n : Int) := by omega
          go_wp2_with fail
          go_meet
          exact ⟨false, rfl, fun h => by simp at h, HT.out⟩
      case rest =>
        obtain ⟨r, rfl, hr, hto⟩ := hcut
        have HT2 := hid hto
        have HR := hid hr
        clear hto hr HT
        go_upto_if 33 with fail
        go_cut [9, 33] (fun t _ wd => ∃ j : Nat, t = .int .i64 (j : Int) ∧ k < j ∧ j < n ∧ HpTo b base w (.slice (some ⟨g, 0, none⟩) l'.length cap) wd l' (.slice (some ⟨g, 0, none⟩) l'.length cap))
        case first =>
          cases r with
          | true =>
            have := HR.out rfl
            go_wp2_with fail
            go_meet
            exact ⟨2 * k + 1 + 1, by go_num, by omega, by omega, HT2.out⟩
          | false =>
            go_wp2_with fail
            go_meet
            exact ⟨2 * k + 1, by go_num, by omega, by omega, HT2.out⟩
        case rest =>
          obtain ⟨j, rfl, hkj, hjn, hto⟩ := hcut
          have HT3 := hid hto
          clear hto HT2
          have mL := m_less HT3.out.hp.cell
          have hj' : j < l'.length := by rw [HLL.out]; omega
          have hk' : k < l'.length := by rw [HLL.out]; omega
          go_upto_region 8 with fail
          go_cut [39] (fun t wd => ∃ r, t = .bool r ∧ HpTo b base w (.slice (some ⟨g, 0, none⟩) l'.length cap) wd l' (.slice (some ⟨g, 0, none⟩) l'.length cap))
          case first =>
            go_wp2_with (go_at_call 112; refine Calls.mono (less_any HT3.out.hp.own hj' hk') ?_; rintro e w' ⟨⟨r, rfl⟩, kk, rfl⟩)
            go_meet
            exact ⟨_, rfl, HT3.out.drewN _⟩
          case rest =>
            obtain ⟨r, rfl, hto⟩ := hcut
            have HT4 := hid hto
            clear hto HT3 mL
            cases r with
            | true =>
              go_wp2_with fail
              go_ret
              exact ⟨⟨_, rfl⟩, l', HP.out, HT4.out⟩
            | false =>
              have mS := m_swap HT4.out.hp.cell
              go_wp2_with (go_at_call 113; refine Calls.mono (swap_any HT4.out.hp hk' hj') ?_; rintro e w' ⟨rfl, l2, hp2, hto2⟩)
              go_roundg (1001 - j)
              case measure => omega
              case rel => exact ⟨j, l2, by omega, rfl, rfl, hp2.trans HP.out, HT4.out.trans hto2⟩
end Go.Proofs.YbulkbgasDoor
