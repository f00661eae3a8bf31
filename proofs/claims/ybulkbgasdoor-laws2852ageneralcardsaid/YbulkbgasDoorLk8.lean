import Derived.Test.YbulkbgasDoorLk1
import Derived.Test.YbulkbgasDoorLk7
namespace Go.Proofs.YbulkbgasDoor
open Go.RowKit Go.Maps
set_option linter.unusedVariables false
attribute [local go_sem ↓] Go.wp_at_zero Go.wp_at_succ

theorem mk136 (m : Nat) (hm : m ≤ 100000) (W : World) : (Instr.makeSlice 136 (.int .i64 (m : Int)) (.int .i64 (m : Int))).run Ybad.prog W = .ok (.slice (some ⟨W.heap.size, 0, none⟩) m m) (W.alloc (.cells (rowF m fun _ => .slice none 0 0) 53)) := mkRow1 Ybad.E136 rfl m hm W
theorem mk137 (m : Nat) (hm : m ≤ 100000) (W : World) : (Instr.makeSlice 137 (.int .i64 (m : Int)) (.int .i64 (m : Int))).run Ybad.prog W = .ok (.slice (some ⟨W.heap.size, 0, none⟩) m m) (W.alloc (.cells (rowF m fun _ => .string ⟨#[]⟩) 31)) := mkRow1 Ybad.E137 rfl m hm W
theorem mk121 (m : Nat) (hm : m ≤ 100000) (W : World) : (Instr.makeSlice 121 (.int .i64 (m : Int)) (.int .i64 (m : Int))).run Ybad.prog W = .ok (.slice (some ⟨W.heap.size, 0, none⟩) m m) (W.alloc (.cells (rowF m fun _ => .bool false) 4)) := mkRow1 Ybad.E121 rfl m hm W
theorem mk69 (m : Nat) (hm : m ≤ 100000) (W : World) : (Instr.makeSlice 69 (.int .i64 (m : Int)) (.int .i64 (m : Int))).run Ybad.prog W = .ok (.slice (some ⟨W.heap.size, 0, none⟩) m m) (W.alloc (.cells (rowF m fun _ => .slice none 0 0) 54)) := mkRow1 Ybad.E69 rfl m hm W

/-- What stands where the second loop begins. -/
theorem lkC_begin (w2 : World) (n : Nat) : LkC w2 (((w2.alloc (.cells (rowF n fun _ => .string ⟨#[]⟩) 31)).alloc (.cells (rowF n fun _ => .bool false) 4)).alloc (.cells (rowF (n + 1) fun _ => .slice none 0 0) 54)) n (fun _ => ⟨#[]⟩) (fun _ => .slice none 0 0) (fun _ => []) := by
  refine ⟨(Below.heap_alloc _ _ _ (by simp only [World.size_alloc]; omega)).trans ((Below.heap_alloc _ _ _ (by simp)).trans (heap_alloc_new w2 _)), (Below.heap_alloc _ _ _ (by simp)).trans (alloc_at (by simp)), alloc_at (by simp only [World.size_alloc]), Fam.nil _ rfl _ _ _ _ _, (((Below.refl _ w2).alloc (Nat.le_refl _) _).alloc (by simp) _).alloc (by simp only [World.size_alloc]; omega) _⟩

theorem LkB.by {w wr : World} {bx : Array Value} {nT : Nat} {v : Nat → Value} {G : Nat → List Sp} (h : LkB w wr bx nT v G) (hl : ∀ i, (G i).length ≤ 300) : By wr (w.heap.size + 1) nT G := by
  refine ⟨h.lt, fun i hi => ?_⟩
  obtain ⟨a, cap, h1, h2, h3⟩ := SlS.of_own (h.fam.own i hi)
  exact ⟨a, cap, by rw [h.by_.cell hi, h1], hl i, h3⟩
theorem By.below {W W' : World} {Bt nT : Nat} {G : Nat → List Sp} (h : By W Bt nT G) (hb : Below W.heap.size W W') : By W' Bt nT G := by
  refine ⟨Nat.lt_of_lt_of_le h.1 hb.size, fun i hi => ?_⟩
  obtain ⟨a, cap, h1, h2, h3⟩ := h.2 i hi
  exact ⟨a, cap, (hb.cell (p := ⟨Bt, i, none⟩) h.1).trans h1, h2, h3.below hb⟩

/-- The bounds that the lock points meet. -/
structure LkOk (l : List Ac) (S : List Sp) (nT : Nat) (L : Nat → Nat) (pl : List Nat) : Prop where
  ln : l.length ≤ 300
  lS : S.length ≤ 300
  lT : nT ≤ 10
  lp : pl.length = nT
  mem : ∀ i ∈ pl, i < nT
  nd : pl.Nodup
  lL : ∀ i, i < nT → L i ≤ l.length
  sp : ∀ s ∈ S, s.x < nT ∧ s.f < L s.x ∧ s.w < (L s.x : Int) ∧ s.la < L s.x ∧ s.f < l.length

theorem ptF_mem {L : Nat → Nat} {n : Nat} : ∀ (pl : List Nat) (Pt : Nat → List Nat) (j : Nat), pl.foldl (ptIn L) Pt j = Pt j ++ pl.filter fun i => L i == j
  | [], Pt, j => by simp
  | p :: pl, Pt, j => by
    rw [List.foldl_cons, ptF_mem (n := n) pl]
    unfold ptIn updL
    by_cases e : j = L p
    · subst e; simp
    · have : (L p == j) = false := by simpa using fun h => e h.symm
      simp [this, e]
theorem bfF_three {S : List Sp} : ∀ (pl : List Nat) (bf : Nat → ByteArray), (∀ j, bf j = ⟨#[]⟩ ∨ bf j = kRl ∨ bf j = kWl) → ∀ j, pl.foldl (bfIn S) bf j = ⟨#[]⟩ ∨ pl.foldl (bfIn S) bf j = kRl ∨ pl.foldl (bfIn S) bf j = kWl := by
  have hu : ∀ (bf : Nat → ByteArray) (k : Nat) (x : ByteArray), (x = kRl ∨ x = kWl) → (∀ j, bf j = ⟨#[]⟩ ∨ bf j = kRl ∨ bf j = kWl) → ∀ j, updL bf k x j = ⟨#[]⟩ ∨ updL bf k x j = kRl ∨ updL bf k x j = kWl := fun bf k x hx h j => by
    unfold updL; split
    · exact .inr hx
    · exact h j
  have h1 : ∀ (bf : Nat → ByteArray) (s : Sp), (∀ j, bf j = ⟨#[]⟩ ∨ bf j = kRl ∨ bf j = kWl) → ∀ j, bfOne bf s j = ⟨#[]⟩ ∨ bfOne bf s j = kRl ∨ bfOne bf s j = kWl := fun bf s h => by
    have h2 := hu bf s.f (if s.w = (s.f : Int) then kWl else kRl) (by split <;> simp) h
    unfold bfOne; split
    · exact hu _ _ _ (.inr rfl) h2
    · exact h2
  have h3 : ∀ (g : List Sp) (bf : Nat → ByteArray), (∀ j, bf j = ⟨#[]⟩ ∨ bf j = kRl ∨ bf j = kWl) → ∀ j, g.foldl bfOne bf j = ⟨#[]⟩ ∨ g.foldl bfOne bf j = kRl ∨ g.foldl bfOne bf j = kWl := by
    intro g
    induction g with
    | nil => intro bf h; exact h
    | cons s g ih => intro bf h; exact ih _ (h1 bf s h)
  intro pl
  induction pl with
  | nil => intro bf h; exact h
  | cons i pl ih => intro bf h; exact ih _ (h3 _ bf h)
theorem byT_mem {S : List Sp} {i : Nat} {s : Sp} (h : s ∈ byT S i) : s ∈ S ∧ s.x = i := by
  unfold byT at h
  obtain ⟨h1, h2⟩ := List.mem_filter.1 h
  exact ⟨h1, by simpa using h2⟩
theorem split_filter {f : Nat → List Ac} (L : Nat → Nat) (k : Nat) : ∀ pl : List Nat, ((pl.filter fun i => decide (L i < k + 1)).flatMap f).length = ((pl.filter fun i => decide (L i < k)).flatMap f).length + ((pl.filter fun i => L i == k).flatMap f).length
  | [] => by simp
  | p :: pl => by
    have ih := split_filter (f := f) L k pl
    by_cases h1 : L p < k
    · have h2 : L p < k + 1 := by omega
      have h3 : (L p == k) = false := by simp; omega
      rw [List.filter_cons_of_pos (by simp [h2]), List.filter_cons_of_pos (by simp [h1]), List.filter_cons_of_neg (by simp [h3]), List.flatMap_cons, List.flatMap_cons, List.length_append, List.length_append]; omega
    · by_cases h4 : L p = k
      · have h2 : L p < k + 1 := by omega
        rw [List.filter_cons_of_pos (by simp [h2]), List.filter_cons_of_neg (by simp [h1]), List.filter_cons_of_pos (by simp [h4]), List.flatMap_cons, List.flatMap_cons, List.length_append, List.length_append]; omega
      · have h2 : ¬ L p < k + 1 := by omega
        rw [List.filter_cons_of_neg (by simp [h2]), List.filter_cons_of_neg (by simp [h1]), List.filter_cons_of_neg (by simp [h4])]; exact ih
theorem flat_le {f : Nat → List Ac} {c : Nat} : ∀ pl : List Nat, (∀ i ∈ pl, (f i).length ≤ c) → (pl.flatMap f).length ≤ pl.length * c
  | [], _ => by simp
  | p :: pl, h => by
    rw [List.flatMap_cons, List.length_append, List.length_cons, Nat.succ_mul]
    have h1 := h p List.mem_cons_self
    have h2 := flat_le pl (fun i hi => h i (List.mem_cons_of_mem _ hi))
    omega
theorem ptAll_eq (L : Nat → Nat) (pl : List Nat) (j : Nat) : ptAll L pl j = pl.filter fun i => L i == j := by
  unfold ptAll; rw [ptF_mem (n := 0)]; simp
theorem lkF_len (l : List Ac) (S : List Sp) (tx : List Int) (bf : Nat → ByteArray) (L : Nat → Nat) (pl : List Nat) : ∀ k, (lkF l S tx bf (ptAll L pl) k).length ≤ 2 * k + ((pl.filter fun i => decide (L i < k)).flatMap fun i => (byT S i).map (lkU l tx i)).length
  | 0 => by simp [lkF]
  | k + 1 => by
    have ih := lkF_len l S tx bf L pl k
    have h2 := split_filter (f := fun i => (byT S i).map (lkU l tx i)) L k pl
    rw [lkF_succ, List.length_append]
    have h3 : (lkAt l S tx bf (ptAll L pl) k).length ≤ ((pl.filter fun i => L i == k).flatMap fun i => (byT S i).map (lkU l tx i)).length + 2 := by
      unfold lkAt
      rw [ptAll_eq, List.length_append]
      split
      · split <;> simp
      · simp
    omega
theorem lk_room {l : List Ac} {S : List Sp} {nT : Nat} {L : Nat → Nat} {pl : List Nat} (ok : LkOk l S nT L pl) (tx : List Int) (bf : Nat → ByteArray) {k : Nat} (hk : k ≤ l.length) : (lkF l S tx bf (ptAll L pl) k).length + ((ptAll L pl k).flatMap fun i => (byT S i).map (lkU l tx i)).length + 2 ≤ 20000 := by
  have h1 := lkF_len l S tx bf L pl k
  have h2 := split_filter (f := fun i => (byT S i).map (lkU l tx i)) L k pl
  rw [ptAll_eq]
  have h3 := flat_le (f := fun i => (byT S i).map (lkU l tx i)) (c := 300) (pl.filter fun i => decide (L i < k + 1)) (fun i _ => by rw [List.length_map]; exact Nat.le_trans (List.length_filter_le _ _) ok.lS)
  have h4 : (pl.filter fun i => decide (L i < k + 1)).length ≤ 10 := Nat.le_trans (List.length_filter_le _ _) (by rw [ok.lp]; exact ok.lT)
  have h5 : (pl.filter fun i => decide (L i < k + 1)).length * 300 ≤ 10 * 300 := Nat.mul_le_mul_right _ h4
  have := ok.ln
  omega
theorem byT_length (S : List Sp) (i : Nat) : (byT S i).length ≤ S.length := List.length_filter_le _ _
end Go.Proofs.YbulkbgasDoor
