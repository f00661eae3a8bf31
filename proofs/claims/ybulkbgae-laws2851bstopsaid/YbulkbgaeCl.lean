import Derived.RangeFuncBox
import Derived.Test.YbulkbgaeWalkC
namespace Go.Proofs.Ybulkbgae
open Go.RowKit Go.Shelf
set_option linter.unusedVariables false
set_option linter.unusedSimpArgs false

/-- What a function that is handed a name does: it goes on, or says 'no more'. -/
def ClOk (kf : Nat) (lb : Array Value) (n₀ N : Nat) (G Gx : List ByteArray → World → Prop) : Prop :=
  ∀ ys s W, G ys W → ys.length < N → n₀ ≤ W.heap.size → Calls Yba.prog kf (#[.string s] ++ lb) W fun e W' =>
    ((e = .returned (.bool true) ∧ G (ys ++ [s]) W') ∨ (e = .returned (.bool false) ∧ Gx (ys ++ [s]) W')) ∧ Below n₀ W W' ∧ KeepsOthers W W' ∧ ∀ B v, Boxed W B 58 v → Boxed W' B 58 v

theorem names_le (L : List Nd) : (names L).length ≤ L.length := by
  unfold names
  rw [List.length_map]
  exact List.length_filter_le _ _

theorem names_snoc (L : List Nd) (x : Nd) : names (L ++ [x]) = names L ++ (if x.op = 2 then [x.fn] else []) := by
  rw [names_append, names_cons, names_nil, List.append_nil]

theorem names_prefix {a b : List Nd} (h : a <+: b) : names a <+: names b := by
  obtain ⟨r, rfl⟩ := h
  rw [names_append]
  exact List.prefix_append _ _

set_option maxHeartbeats 1000000 in
theorem equal_true (a1 a2 : Option Addr) (n c1 c2 : Nat) (w : World) (hn : n ≤ 100000)
    (h : ∀ i, i < n → ∃ b1 o1 b2 o2 s, a1 = some ⟨b1, o1, none⟩ ∧ a2 = some ⟨b2, o2, none⟩ ∧ w.cell? ⟨b1, o1 + i, none⟩ = some (.string s) ∧ w.cell? ⟨b2, o2 + i, none⟩ = some (.string s)) :
    Calls Yba.prog 12 #[.slice a1 n c1, .slice a2 n c2] w fun e w' => e = .returned (.bool true) ∧ ∃ q, w' = w.drewN q := by
  go_enter Yba.func12, Yba.ntmps12
  go_wp2
  go_loopw [13] (fun i wr => ∃ k q, k ≤ n ∧ i = .int .i64 k ∧ wr = w.drewN q) (fun i _ => n - (intOf i).toNat)
  case atStart => exact ⟨0, 0, Nat.zero_le _, rfl, rfl⟩
  case round =>
    obtain ⟨k, q, hk, rfl, rfl⟩ := hrel
    by_cases hlt : k < n
    · have hki : (k : Int) < (n : Int) := by omega
      obtain ⟨b1, o1, b2, o2, s, rfl, rfl, e1, e2⟩ := h k hlt
      have e1' : (w.drewN q).cell? ⟨b1, o1 + k, none⟩ = some (.string s) := e1
      have e2' : (w.drewN q).cell? ⟨b2, o2 + k, none⟩ = some (.string s) := e2
      clear h
      go_wp2
      go_quiet (fail)
      go_wp2
      go_roundw
      case rel => exact ⟨k + 1, _, by omega, by go_num, rfl⟩
      case measure => simp [intOf]; omega
    · obtain rfl : k = n := by omega
      go_wp2
      go_ret
      exact ⟨rfl, q, rfl⟩

/-- got, as it stands. -/
def GotAt (p Bg : Nat) (ys : List ByteArray) (W : World) : Prop := ∃ v, Boxed W Bg 34 v ∧ W.ownsRow (p + 1) 9 1 v ys.length (ys.map Value.string)

theorem got_append {p Bg : Nat} {W w1 : World} {v v' : Value} {tmp : Obj} {ys : List ByteArray} {s : ByteArray} (hv : Boxed W Bg 34 v) (hr : W.ownsRow (p + 1) 9 1 v ys.length (ys.map Value.string)) (hs : p + 1 ≤ W.heap.size) (hB : p + 1 ≤ Bg)
    (hown : w1.ownsRow (p + 1) 9 1 v' (ys.length + 1) (ys.map Value.string ++ [.string s])) (hg : (W.alloc tmp).grownBy w1 v.ownBlock) :
    w1.cell? ⟨Bg, 0, none⟩ = some v ∧ w1.frozen? ⟨Bg, 0, none⟩ = false ∧ Hid (Boxed (w1.setCell ⟨Bg, 0, none⟩ v') Bg 34 v' ∧ (w1.setCell ⟨Bg, 0, none⟩ v').ownsRow (p + 1) 9 1 v' (ys ++ [s]).length ((ys ++ [s]).map Value.string) ∧ Below (p + 1) W (w1.setCell ⟨Bg, 0, none⟩ v') ∧ KeepsOthers W (w1.setCell ⟨Bg, 0, none⟩ v') ∧
      ∀ B t u, B ≠ Bg → t ≠ 9 → Boxed W B t u → Boxed (w1.setCell ⟨Bg, 0, none⟩ v') B t u) := by
  obtain ⟨h1, h2, h3, h4, h5⟩ := hv.appended (by decide) hr hs hB hown hg
  refine ⟨h1.cell, h1.frozen, hid ⟨h2, by simpa using h3, h5, h4, fun B t u hne ht hb => ?_⟩⟩
  exact ((hb.alloc tmp).kept hg (hb.not_row ht hr)).other hne _

set_option maxRecDepth 100000 in
set_option maxHeartbeats 1000000 in
theorem order1 (p Bg : Nat) (hp : p + 1 ≤ Bg) : ClOk 11 #[.pointer (some ⟨Bg, 0, none⟩)] (p + 1) 100000 (GotAt p Bg) (fun _ _ => False) := by
  rintro ys s W ⟨v, hv, hr⟩ hlen hsz
  have hc := hv.cell
  have HV := hid hv
  have HR := hid hr
  clear hv hr
  show Calls Yba.prog 11 #[.string s, .pointer (some ⟨Bg, 0, none⟩)] W _
  go_enter Yba.func11, Yba.ntmps11
  go_wp2_with ((with_reducible refine ap9 (t := 4) (u := 6) p v ys s W.heap.size ?_ ?_ ?_ ?_ ?_ ?_ ?_); (exact rfl); (exact rfl); (exact HR.out.alloc _); (exact heap_alloc_new _ _); omega; (simp; omega); (intro g cap w1 hown1 hgrow); (obtain ⟨c1, f1, H1⟩ := got_append HV.out HR.out hsz hp hown1 hgrow); clear hown1 hgrow hc)
  go_ret
  obtain ⟨h1, h2, h3, h4, h5⟩ := H1.out
  exact ⟨.inl ⟨rfl, _, h1, h2⟩, h3, h4, fun B u hb => h5 B 58 u (fun e => by subst e; have := hb.symm.trans HV.out; simp at this) (by decide) hb⟩

/-- What Stop's function keeps between two names. -/
def StopG (p Bg Bd Ba Bs st : Nat) (ys : List ByteArray) (W : World) : Prop := Boxed W Bs 3 (.int .i64 st) ∧ Boxed W Ba 4 (.bool false) ∧ Boxed W Bd 4 (.bool false) ∧ GotAt p Bg ys W ∧ (ys = [] ∨ ys.length < st)
/-- .. and behind its 'no more'. -/
def StopX (p Bg Bd Ba Bs st : Nat) (ys : List ByteArray) (W : World) : Prop := Boxed W Bs 3 (.int .i64 st) ∧ Boxed W Ba 4 (.bool false) ∧ GotAt p Bg ys W ∧ (ys.length = st ∨ st = 0 ∧ ys.length = 1)

set_option maxRecDepth 100000 in
set_option maxHeartbeats 1000000 in
theorem stop1 (p Bg Bd Ba Bs st : Nat) (hg : p + 1 ≤ Bg) (hd : p + 1 ≤ Bd) (n1 : Bs ≠ Bg) (n2 : Ba ≠ Bg) (n3 : Bd ≠ Bg) (n4 : Bs ≠ Bd) (n5 : Ba ≠ Bd) (hst : st ≤ 100000) :
    ClOk 13 #[.pointer (some ⟨Bd, 0, none⟩), .pointer (some ⟨Ba, 0, none⟩), .pointer (some ⟨Bg, 0, none⟩), .pointer (some ⟨Bs, 0, none⟩)] (p + 1) 100000 (StopG p Bg Bd Ba Bs st) (StopX p Bg Bd Ba Bs st) := by
  rintro ys s W ⟨hS, hA, hD, ⟨v, hv, hr⟩, hcase⟩ hlen hsz
  have hc := hv.cell
  have hcd := hD.cell
  have HS := hid hS
  have HA := hid hA
  have HD := hid hD
  have HV := hid hv
  have HR := hid hr
  have HX := hid hcase
  clear hS hA hD hv hr hcase
  show Calls Yba.prog 13 #[.string s, .pointer (some ⟨Bd, 0, none⟩), .pointer (some ⟨Ba, 0, none⟩), .pointer (some ⟨Bg, 0, none⟩), .pointer (some ⟨Bs, 0, none⟩)] W _
  by_cases hge : st ≤ ys.length + 1
  · have hgi : (st : Int) ≤ (ys.length : Int) + 1 := by omega
    go_enter Yba.func13, Yba.ntmps13
    go_wp2_with ((with_reducible refine ap9 (t := 8) (u := 10) p v ys s W.heap.size ?_ ?_ ?_ ?_ ?_ ?_ ?_); (exact rfl); (exact rfl); (exact HR.out.alloc _); (exact heap_alloc_new _ _); omega; (simp; omega); (intro g cap w1 hown1 hgrow); (obtain ⟨c1, f1, H1⟩ := got_append HV.out HR.out hsz hg hown1 hgrow); (have cS2 := (H1.out.2.2.2.2 Bs 3 _ n1 (by decide) HS.out).cell); (have cD2 := (H1.out.2.2.2.2 Bd 4 _ n3 (by decide) HD.out).cell); (have fD2 := (H1.out.2.2.2.2 Bd 4 _ n3 (by decide) HD.out).frozen); (have cG2 := H1.out.1.cell); clear hown1 hgrow hc hcd)
    go_ret
    obtain ⟨h1, h2, h3, h4, h5⟩ := H1.out
    have hX := HX.out
    refine ⟨.inr ⟨rfl, (h5 Bs 3 _ n1 (by decide) HS.out).other n4 _, (h5 Ba 4 _ n2 (by decide) HA.out).other n5 _, ⟨_, h1.other n3.symm _, h2.kept (grownBy_setCell' _ Bd _) (.inr ((h5 Bd 4 _ n3 (by decide) HD.out).not_row (by decide) h2).symm)⟩, ?_⟩, h3.setCell (p := ⟨Bd, 0, none⟩) hd _, h4.trans (KeepsOthers.setCell _ _ _), fun B u hb => (h5 B 58 u (fun e => by subst e; have := hb.symm.trans HV.out; simp at this) (by decide) hb).other (fun e => by subst e; have := hb.symm.trans HD.out; simp at this) _⟩
    rcases hX with rfl | hX
    · simp at hge ⊢; omega
    · simp; omega
  · have hgi : ¬ (st : Int) ≤ (ys.length : Int) + 1 := by omega
    go_enter Yba.func13, Yba.ntmps13
    go_wp2_with ((with_reducible refine ap9 (t := 8) (u := 10) p v ys s W.heap.size ?_ ?_ ?_ ?_ ?_ ?_ ?_); (exact rfl); (exact rfl); (exact HR.out.alloc _); (exact heap_alloc_new _ _); omega; (simp; omega); (intro g cap w1 hown1 hgrow); (obtain ⟨c1, f1, H1⟩ := got_append HV.out HR.out hsz hg hown1 hgrow); (have cS2 := (H1.out.2.2.2.2 Bs 3 _ n1 (by decide) HS.out).cell); (have cG2 := H1.out.1.cell); clear hown1 hgrow hc hcd)
    go_ret
    obtain ⟨h1, h2, h3, h4, h5⟩ := H1.out
    exact ⟨.inl ⟨rfl, h5 Bs 3 _ n1 (by decide) HS.out, h5 Ba 4 _ n2 (by decide) HA.out, h5 Bd 4 _ n3 (by decide) HD.out, ⟨_, h1, h2⟩, .inr (by simp; omega)⟩, h3, h4, fun B u hb => h5 B 58 u (fun e => by subst e; have := hb.symm.trans HV.out; simp at this) (by decide) hb⟩

theorem got_own (p Bg : Nat) : Own (GotAt p Bg) := fun s X Y row h hg hr => by
  obtain ⟨v, h1, h2, _⟩ := holdsRow_own (p + 1) Bg 34 9 1 (fun ys : List ByteArray => ys.length) (fun ys => ys.map Value.string) (fun _ _ => True) s X Y row (by obtain ⟨v, h1, h2⟩ := h; exact ⟨v, h1, h2, trivial⟩) hg hr
  exact ⟨v, h1, h2⟩

theorem stopG_own (p Bg Bd Ba Bs st : Nat) : Own (StopG p Bg Bd Ba Bs st) := fun s X Y row h hg hr =>
  ⟨boxed_own (β := List ByteArray) Bs 3 (fun _ => .int .i64 st) s X Y row h.1 hg hr, boxed_own (β := List ByteArray) Ba 4 (fun _ => .bool false) s X Y row h.2.1 hg hr, boxed_own (β := List ByteArray) Bd 4 (fun _ => .bool false) s X Y row h.2.2.1 hg hr, got_own p Bg s X Y row h.2.2.2.1 hg hr, h.2.2.2.2⟩

theorem stopX_own (p Bg Bd Ba Bs st : Nat) : Own (StopX p Bg Bd Ba Bs st) := fun s X Y row h hg hr =>
  ⟨boxed_own (β := List ByteArray) Bs 3 (fun _ => .int .i64 st) s X Y row h.1 hg hr, boxed_own (β := List ByteArray) Ba 4 (fun _ => .bool false) s X Y row h.2.1 hg hr, got_own p Bg s X Y row h.2.2.1 hg hr, h.2.2.2⟩

end Go.Proofs.Ybulkbgae
