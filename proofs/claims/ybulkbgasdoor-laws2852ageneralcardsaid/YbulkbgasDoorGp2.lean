import Derived.Test.YbulkbgasDoorTk3
import Derived.Test.YbulkbgasDoorPl2
namespace Go.Proofs.YbulkbgasDoor
set_option linter.unusedVariables false

/-! ### Paths -/
inductive Star (R : Nat → Nat → Prop) : Nat → Nat → Prop where
  | refl (a : Nat) : Star R a a
  | step {a b c : Nat} (h : R a b) (t : Star R b c) : Star R a c
theorem Star.trans {R : Nat → Nat → Prop} {a b c : Nat} (h : Star R a b) (g : Star R b c) : Star R a c := by
  induction h with
  | refl => exact g
  | step h t ih => exact .step h (ih g)
theorem Star.one {R : Nat → Nat → Prop} {a b : Nat} (h : R a b) : Star R a b := .step h (.refl b)
theorem Star.mono {R R' : Nat → Nat → Prop} (hm : ∀ a b, R a b → R' a b) {a b : Nat} (h : Star R a b) : Star R' a b := by
  induction h with
  | refl => exact .refl _
  | step h t ih => exact .step (hm _ _ h) ih
def Ea (n : Nat) (X : Nat → List Nat) (a b : Nat) : Prop := a < n ∧ b ∈ X a

/-! ### nearestArcs: its arcs are conflicts, and every conflict is a path of them -/
theorem fold_grow {x : Nat} : ∀ (l : List Nat) (X : Nat → List Nat) {r y : Nat}, y ∈ X r → y ∈ (l.foldl (naOne x) X) r
  | [], X, r, y, h => h
  | k :: l, X, r, y, h => by
    rw [List.foldl_cons]
    refine fold_grow l _ ?_
    unfold naOne; split
    · exact h
    · exact updL_app h
theorem fold_inv {x : Nat} : ∀ (l : List Nat) (X : Nat → List Nat) {r y : Nat}, y ∈ (l.foldl (naOne x) X) r → y ∈ X r ∨ (y = x ∧ r ∈ l ∧ r ≠ x)
  | [], X, r, y, h => .inl h
  | k :: l, X, r, y, h => by
    rw [List.foldl_cons] at h
    rcases fold_inv l _ h with h | ⟨h1, h2, h3⟩
    · unfold naOne at h
      split at h
      · exact .inl h
      · rename_i hk
        rcases updL_app_inv h with h | ⟨h1, h2⟩
        · exact .inl h
        · subst h1; exact .inr ⟨h2, List.mem_cons_self, hk⟩
    · exact .inr ⟨h1, List.mem_cons_of_mem _ h2, h3⟩
theorem fold_add {x : Nat} : ∀ (l : List Nat) (X : Nat → List Nat) {r : Nat}, r ∈ l → r ≠ x → x ∈ (l.foldl (naOne x) X) r
  | [], X, r, h, _ => by simp at h
  | k :: l, X, r, h, hx => by
    rw [List.foldl_cons]
    by_cases e : r = k
    · subst e
      refine fold_grow l _ ?_
      unfold naOne
      rw [if_neg hx, updL_same]; simp
    · exact fold_add l _ ((List.mem_cons.1 h).resolve_left e) hx

theorem Succ.left {A : List Acc} {u x : Nat} (h : Succ A u x) (c : Acc) : Succ (A ++ [c]) u x := by
  obtain ⟨h0, p, q, h1, h2, h3⟩ := h
  refine ⟨h0, p, q, h1, by simp; omega, ?_⟩
  rw [aA_left (by omega), aA_left h2]
  exact h3

structure NaG (n : Nat) (A : List Acc) (s : Na) : Prop where
  ok : NaOk n 0 s
  wr : ∀ i, 0 ≤ s.wt i → ∃ p, p < A.length ∧ (aA A p).i = i ∧ (aA A p).w = true ∧ ((aA A p).x : Int) = s.wt i
  rd : ∀ i r, r ∈ s.X (n + i) → ∃ p, p < A.length ∧ (aA A p).i = i ∧ (aA A p).x = r
  so : ∀ i j, i < n → j ∈ s.X i → Succ A i j
  c1 : ∀ p, p < A.length → (0 ≤ s.wt (aA A p).i ∧ Star (Ea n s.X) (aA A p).x (s.wt (aA A p).i).toNat) ∨ ((aA A p).w = false ∧ (aA A p).x ∈ s.X (n + (aA A p).i))
  c2 : ∀ p q, p < q → q < A.length → (aA A p).i = (aA A q).i → ((aA A p).w = true ∨ (aA A q).w = true) → Star (Ea n s.X) (aA A p).x (aA A q).x

theorem NaG.start (n : Nat) : NaG n [] ⟨fun _ => -1, fun _ => []⟩ :=
  ⟨⟨fun i => by simp; omega, fun i => by simp, fun i x h => by simp at h⟩, fun i h => by simp at h, fun i r h => by simp at h, fun i j _ h => by simp at h, fun p h => by simp at h, fun p q _ h => by simp at h⟩

theorem NaG.step {n : Nat} {A : List Acc} {s : Na} (h : NaG n A s) {a : Acc} (hx : a.x < n) : NaG n (A ++ [a]) (naStep n s a) := by
  have hlen : (A ++ [a]).length = A.length + 1 := by simp
  -- the arc from the last writer
  have ok1 := naArc_ok (m := 0) h.ok hx
  have w1 : (naArc s a).wt = s.wt := by unfold naArc; split <;> rfl
  have gr1 : ∀ r y, y ∈ s.X r → y ∈ (naArc s a).X r := fun r y hy => by
    unfold naArc; split
    · exact updL_app hy
    · exact hy
  have in1 : ∀ r y, y ∈ (naArc s a).X r → y ∈ s.X r ∨ (0 ≤ s.wt a.i ∧ s.wt a.i ≠ (a.x : Int) ∧ r = (s.wt a.i).toNat ∧ y = a.x) := fun r y hy => by
    unfold naArc at hy
    split at hy
    · rename_i hc
      rcases updL_app_inv hy with h1 | ⟨h1, h2⟩
      · exact .inl h1
      · exact .inr ⟨hc.1, hc.2, h1, h2⟩
    · exact .inl hy
  have wtn := h.ok.wt a.i
  have rd1 : ∀ i r, r ∈ (naArc s a).X (n + i) → r ∈ s.X (n + i) := fun i r hr => by
    rcases in1 _ _ hr with h1 | ⟨h1, _, h2, _⟩
    · exact h1
    · omega
  have st1 : ∀ u v, Star (Ea n s.X) u v → Star (Ea n (naArc s a).X) u v := fun u v hs => hs.mono fun p q hpq => ⟨hpq.1, gr1 _ _ hpq.2⟩
  have toA : 0 ≤ s.wt a.i → Star (Ea n (naArc s a).X) (s.wt a.i).toNat a.x := fun h0 => by
    by_cases e : s.wt a.i = (a.x : Int)
    · rw [e, Int.toNat_natCast]; exact .refl _
    · refine .one ⟨by omega, ?_⟩
      unfold naArc
      rw [if_pos ⟨h0, e⟩]; dsimp only; rw [updL_same]; simp
  have so1 : ∀ i j, i < n → j ∈ (naArc s a).X i → Succ (A ++ [a]) i j := fun i j hi hj => by
    rcases in1 _ _ hj with h1 | ⟨h1, h2, h3, h4⟩
    · exact (h.so i j hi h1).left a
    · obtain ⟨p, p1, p2, p3, p4⟩ := h.wr a.i h1
      subst h4
      refine ⟨by omega, p, A.length, p1, by omega, ?_⟩
      rw [aA_left p1, aA_last]
      exact ⟨by omega, rfl, p2, .inl p3⟩
  have split : ∀ q, q < (A ++ [a]).length → (q < A.length ∧ aA (A ++ [a]) q = aA A q) ∨ (q = A.length ∧ aA (A ++ [a]) q = a) := fun q hq => by
    by_cases e : q < A.length
    · exact .inl ⟨e, aA_left e⟩
    · obtain rfl : q = A.length := by omega
      exact .inr ⟨rfl, aA_last⟩
  generalize hs1 : naArc s a = s1 at ok1 w1 gr1 in1 rd1 st1 toA so1
  by_cases hw : a.w = true
  · -- a write
    have e : naStep n s a = ⟨updL s1.wt a.i (a.x : Int), updL ((s1.X (n + a.i)).foldl (naOne a.x) s1.X) (n + a.i) []⟩ := by
      unfold naStep; rw [if_pos hw, hs1]; rfl
    have okF : NaOk n 0 (naStep n s a) := naStep_ok h.ok hx
    rw [e] at okF ⊢
    obtain ⟨Y, hY⟩ : ∃ Y, Y = (s1.X (n + a.i)).foldl (naOne a.x) s1.X := ⟨_, rfl⟩
    rw [← hY] at okF ⊢
    have grY : ∀ r y, r < n → y ∈ s1.X r → y ∈ updL Y (n + a.i) [] r := fun r y hr hy => by
      rw [updL_other _ (by omega), hY]; exact fold_grow _ _ hy
    have inY : ∀ r y, y ∈ updL Y (n + a.i) [] r → y ∈ s1.X r ∨ (y = a.x ∧ r ∈ s1.X (n + a.i) ∧ r ≠ a.x) := fun r y hy => by
      unfold updL at hy
      split at hy
      · simp at hy
      · rw [hY] at hy; exact fold_inv _ _ hy
    have stY : ∀ u v, Star (Ea n s1.X) u v → Star (Ea n (updL Y (n + a.i) [])) u v := fun u v hs => hs.mono fun p q hpq => ⟨hpq.1, grY _ _ hpq.1 hpq.2⟩
    have ad : ∀ r, r ∈ s1.X (n + a.i) → Star (Ea n (updL Y (n + a.i) [])) r a.x := fun r hr => by
      by_cases e : r = a.x
      · subst e; exact .refl _
      · have hrn := ok1.X _ r hr
        refine .one ⟨hrn, ?_⟩
        rw [updL_other _ (by omega), hY]
        exact fold_add _ _ hr e
    -- whoever has touched the item has a path to the new writer
    have all : ∀ p, p < A.length → (aA A p).i = a.i → Star (Ea n (updL Y (n + a.i) [])) (aA A p).x a.x := fun p hp hi => by
      rcases h.c1 p hp with ⟨h1, h2⟩ | ⟨h1, h2⟩
      · rw [hi] at h1 h2
        exact (stY _ _ (st1 _ _ h2)).trans (stY _ _ (toA h1))
      · rw [hi] at h2
        exact ad _ (by
          have := gr1 _ _ h2
          exact this)
    refine ⟨okF, fun i hi => ?_, fun i r hr => ?_, fun i j hi hj => ?_, fun p hp => ?_, fun p q hpq hq hii hc => ?_⟩
    · dsimp only at hi ⊢
      by_cases e2 : i = a.i
      · subst e2
        exact ⟨A.length, by omega, by rw [aA_last], by rw [aA_last]; exact hw, by rw [aA_last, updL_same]⟩
      · rw [updL_other _ e2, w1] at hi ⊢
        obtain ⟨p, p1, p2⟩ := h.wr i hi
        exact ⟨p, by omega, by rw [aA_left p1]; exact p2⟩
    · dsimp only at hr
      rcases inY _ _ hr with h1 | ⟨_, h1, _⟩
      · obtain ⟨p, p1, p2⟩ := h.rd i r (rd1 _ _ h1)
        exact ⟨p, by omega, by rw [aA_left p1]; exact p2⟩
      · have := ok1.X _ _ h1; omega
    · dsimp only at hj
      rcases inY _ _ hj with h1 | ⟨h1, h2, h3⟩
      · exact so1 i j hi h1
      · subst h1
        obtain ⟨p, p1, p2, p3⟩ := h.rd a.i i (rd1 _ _ h2)
        refine ⟨h3, p, A.length, p1, by omega, ?_⟩
        rw [aA_left p1, aA_last]
        exact ⟨p3, rfl, p2, .inr hw⟩
    · dsimp only
      rcases split p hp with ⟨p1, p2⟩ | ⟨p1, p2⟩
      · rw [p2]
        by_cases e2 : (aA A p).i = a.i
        · left
          rw [e2, updL_same]
          exact ⟨by omega, by rw [Int.toNat_natCast]; exact all p p1 e2⟩
        · rw [updL_other _ e2, updL_other _ (by omega), w1]
          rcases h.c1 p p1 with ⟨h1, h2⟩ | ⟨h1, h2⟩
          · exact .inl ⟨h1, stY _ _ (st1 _ _ h2)⟩
          · right
            refine ⟨h1, ?_⟩
            rw [hY]
            exact fold_grow _ _ (gr1 _ _ h2)
      · rw [p2, updL_same]
        exact .inl ⟨by omega, by rw [Int.toNat_natCast]; exact .refl _⟩
    · dsimp only
      rcases split q hq with ⟨q1, q2⟩ | ⟨q1, q2⟩
      · rw [q2] at hii hc ⊢
        rw [aA_left (by omega)] at hii hc ⊢
        exact stY _ _ (st1 _ _ (h.c2 p q hpq q1 hii hc))
      · rw [q2] at hii ⊢
        rw [aA_left (by omega)] at hii ⊢
        exact all p (by omega) hii
  · -- a read
    have hw' : a.w = false := by cases e : a.w <;> simp_all
    have e : naStep n s a = naRead n s1 a := by unfold naStep; rw [if_neg hw, hs1]
    have okF : NaOk n 0 (naStep n s a) := naStep_ok h.ok hx
    rw [e] at okF ⊢
    have wt2 : (naRead n s1 a).wt = s.wt := by unfold naRead; split <;> first | exact w1 | rfl
    have gr2 : ∀ r y, y ∈ s1.X r → y ∈ (naRead n s1 a).X r := fun r y hy => by
      unfold naRead; split
      · exact hy
      · exact updL_app hy
    have in2 : ∀ r y, y ∈ (naRead n s1 a).X r → y ∈ s1.X r ∨ (r = n + a.i ∧ y = a.x) := fun r y hy => by
      unfold naRead at hy; split at hy
      · exact .inl hy
      · exact updL_app_inv hy
    have st2 : ∀ u v, Star (Ea n s1.X) u v → Star (Ea n (naRead n s1 a).X) u v := fun u v hs => hs.mono fun p q hpq => ⟨hpq.1, gr2 _ _ hpq.2⟩
    have self : a.x ∈ (naRead n s1 a).X (n + a.i) := by
      unfold naRead; split
      · rename_i hl; exact List.mem_of_getLast? hl
      · dsimp only; rw [updL_same]; simp
    refine ⟨okF, fun i hi => ?_, fun i r hr => ?_, fun i j hi hj => ?_, fun p hp => ?_, fun p q hpq hq hii hc => ?_⟩
    · rw [wt2] at hi ⊢
      obtain ⟨p, p1, p2⟩ := h.wr i hi
      exact ⟨p, by omega, by rw [aA_left p1]; exact p2⟩
    · rcases in2 _ _ hr with h1 | ⟨h1, h2⟩
      · obtain ⟨p, p1, p2⟩ := h.rd i r (rd1 _ _ h1)
        exact ⟨p, by omega, by rw [aA_left p1]; exact p2⟩
      · obtain rfl : i = a.i := by omega
        exact ⟨A.length, by omega, by rw [aA_last], by rw [aA_last]; exact h2.symm⟩
    · rcases in2 _ _ hj with h1 | ⟨h1, _⟩
      · exact so1 i j hi h1
      · omega
    · rw [wt2]
      rcases split p hp with ⟨p1, p2⟩ | ⟨p1, p2⟩
      · rw [p2]
        rcases h.c1 p p1 with ⟨h1, h2⟩ | ⟨h1, h2⟩
        · exact .inl ⟨h1, st2 _ _ (st1 _ _ h2)⟩
        · exact .inr ⟨h1, gr2 _ _ (gr1 _ _ h2)⟩
      · rw [p2]
        exact .inr ⟨hw', self⟩
    · rcases split q hq with ⟨q1, q2⟩ | ⟨q1, q2⟩
      · rw [q2] at hii hc ⊢
        rw [aA_left (by omega)] at hii hc ⊢
        exact st2 _ _ (st1 _ _ (h.c2 p q hpq q1 hii hc))
      · rw [q2] at hii hc ⊢
        rw [aA_left (by omega)] at hii hc ⊢
        have hpw : (aA A p).w = true := hc.resolve_right hw
        rcases h.c1 p (by omega) with ⟨h1, h2⟩ | ⟨h1, _⟩
        · rw [hii] at h1 h2
          exact (st2 _ _ (st1 _ _ h2)).trans (st2 _ _ (toA h1))
        · rw [hpw] at h1; cases h1

theorem naF_g (n : Nat) : ∀ (A : List Acc), (∀ a ∈ A, a.x < n) → NaG n A (naF n A) := by
  refine snoc_ind (fun _ => NaG.start n) (fun A c ih hx => ?_)
  rw [naF_snoc]
  exact (ih fun a ha => hx a (List.mem_append_left _ ha)).step (hx c (by simp))

theorem Succ.path {n : Nat} {A : List Acc} (hx : ∀ a ∈ A, a.x < n) {u v : Nat} (h : Succ A u v) : Star (Ea n (naF n A).X) u v := by
  obtain ⟨_, p, q, h1, h2, h3, h4, h5, h6⟩ := h
  have := (naF_g n A hx).c2 p q h1 h2 h5 h6
  rw [h3, h4] at this
  exact this

/-! ### Kahn against Tarjan -/
theorem fin_not_stuck {X : Nat → List Nat} {n : Nat} {fin O : List Nat} (hf : FinOk X fin) (hall : ∀ v, v < n → v ∈ fin) (hO : O.length < n) (hOn : ∀ j ∈ O, j < n) (hs : ∀ j, j < n → j ∉ O → ∃ i, i < n ∧ i ∉ O ∧ j ∈ X i) : False := by
  have key : ∀ d j, j < n → fin.length - ix fin j ≤ d → j ∈ O := by
    intro d
    induction d with
    | zero => intro j hj hd; have := ix_lt (hall j hj); omega
    | succ d ih =>
      intro j hj hd
      apply Classical.byContradiction
      intro hno
      obtain ⟨i, h1, h2, h3⟩ := hs j hj hno
      have hi := hall i h1
      have hm := hf (ix fin i) (ix_lt hi) j (by rw [ix_get hi]; exact h3)
      have hlt := ix_lt hm
      rw [List.length_take] at hlt
      have e : ix fin j = ix (fin.take (ix fin i)) j := by
        conv => lhs; rw [← List.take_append_drop (ix fin i) fin]
        exact ix_append hm
      have := ix_lt hi
      exact h2 (ih i h1 (by omega))
  have hsub : ∀ j, j < n → j ∈ O := fun j hj => key _ j hj (Nat.le_refl _)
  have := nodup_lenN' O (List.range n) List.nodup_range (fun t ht => hsub t (List.mem_range.1 ht))
  rw [List.length_range] at this
  omega

end Go.Proofs.YbulkbgasDoor
