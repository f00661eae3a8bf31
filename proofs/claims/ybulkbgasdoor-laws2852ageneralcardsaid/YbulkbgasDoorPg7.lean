import Derived.Test.YbulkbgasDoorPg6
namespace Go.Proofs.YbulkbgasDoor
set_option linter.unusedVariables false

theorem filter_lk {xs : List Ac} (h : ∀ a ∈ xs, isLk a.k = true) : xs.filter (fun x => !isLk x.k) = [] := List.filter_eq_nil_iff.2 fun a ha => by rw [h a ha]; decide
theorem glOne_lk {l : List Ac} {tx : List Int} {x q : Nat} {s : Sp} {a : Ac} (h : a ∈ glOne l tx x q s) : isLk a.k = true := by
  unfold glOne at h
  split at h
  · simp at h; subst h
    dsimp only
    split
    · exact isLk_kWl
    · exact isLk_kRl
  · split at h
    · simp at h; subst h; exact isLk_kWl
    · simp at h
theorem guOne_lk {l : List Ac} {tx : List Int} {x q : Nat} {s : Sp} {a : Ac} (h : a ∈ guOne l tx x q s) : isLk a.k = true := by
  unfold guOne at h
  split at h
  · simp at h; subst h; exact isLk_kU
  · simp at h
theorem gPt_lk {l : List Ac} {Ss : List Sp} {tx : List Int} {x q : Nat} {a : Ac} (h : a ∈ gPt l Ss tx q x) : isLk a.k = true := by
  unfold gPt at h
  rcases List.mem_append.1 h with h | h
  · obtain ⟨s, _, h⟩ := List.mem_flatMap.1 h; exact glOne_lk h
  · obtain ⟨s, _, h⟩ := List.mem_flatMap.1 h; exact guOne_lk h
theorem gHd_lk {l : List Ac} {af : Nat → Bool} {q : Nat} {a : Ac} (h : a ∈ gHd l af q) : isLk a.k = true := by
  unfold gHd at h
  split at h
  · simp at h; subst h; exact isLk_kU
  · simp at h
theorem flat_len {α β : Type} {f : α → List β} {c : Nat} (h : ∀ a, (f a).length ≤ c) : ∀ xs : List α, (xs.flatMap f).length ≤ xs.length * c
  | [] => by simp
  | x :: xs => by
    rw [List.flatMap_cons, List.length_append, List.length_cons, Nat.add_mul]
    have := flat_len h xs
    have := h x
    omega

section
variable {l : List Ac} (S : Sch l) {L : Nat → Nat} {O : List Nat} (P : LkS l L O)
include S P
theorem gAt_filter (p : Nat) : (gAt l (spL l) (txL l) (gbAll (spL l) L O) (gaAll (spL l) L O) (ptAll L O) p).filter (fun x => !isLk x.k) = if p < l.length then [l.getD p ac0] else [] := by
  unfold gAt
  rw [List.filter_append, List.filter_append, filter_lk fun a ha => gHd_lk ha, filter_lk fun a ha => by obtain ⟨x, _, h⟩ := List.mem_flatMap.1 ha; exact gPt_lk h, List.nil_append, List.nil_append]
  unfold gTl
  by_cases hp : p < l.length
  · rw [if_pos hp, if_pos hp, List.filter_append]
    have hl : [l.getD p ac0].filter (fun x => !isLk x.k) = [l.getD p ac0] := by
      have : isLk (l.getD p ac0).k = false := by
        rcases S.kd _ (getD_mem hp) with (e | e) | ⟨e | e, _⟩ <;> rw [e] <;> first | exact isLk_kC | exact isLk_kA | exact isLk_kR | exact isLk_kW
      rw [List.filter_cons, this]; rfl
    rw [hl, filter_lk, List.nil_append]
    intro a ha
    rcases gb_at S P p with ⟨c, _, _, s, _, _, _, e⟩ | ⟨_, e⟩
    · rcases bfv_or s p with h | h
      · rw [e, h, if_pos kRl_ne] at ha; simp at ha; subst ha; exact isLk_kRl
      · rw [e, h, if_pos kWl_ne] at ha; simp at ha; subst ha; exact isLk_kWl
    · rw [e] at ha; simp at ha
  · rw [if_neg hp, if_neg hp]; rfl
theorem gF_filter : ∀ k, k ≤ l.length → (gF l (spL l) (txL l) (gbAll (spL l) L O) (gaAll (spL l) L O) (ptAll L O) k).filter (fun x => !isLk x.k) = l.take k
  | 0, _ => by simp [gF]
  | k + 1, hk => by
    rw [gF_succ, List.filter_append, gF_filter k (by omega), gAt_filter S P, if_pos (by omega), List.take_succ_eq_append_getElem (by omega : k < l.length), getD_get (by omega : k < l.length)]
theorem lkG_filter : (lkG l L O).filter (fun x => !isLk x.k) = l := by
  show (gF l (spL l) (txL l) (gbAll (spL l) L O) (gaAll (spL l) L O) (ptAll L O) (l.length + 1)).filter _ = l
  rw [gF_succ, List.filter_append, gF_filter S P _ (Nat.le_refl _), gAt_filter S P, if_neg (by omega), List.take_length, List.append_nil]
omit P in
theorem gPt_l600 (q x : Nat) : (gPt l (spL l) (txL l) q x).length ≤ 600 := by
  have hS : (spL l).length ≤ 300 := Nat.le_trans (spF_length_le _) S.alen
  have hb : (byT (spL l) x).length ≤ (spL l).length := List.length_filter_le _ _
  have h1 : ((byT (spL l) x).flatMap (glOne l (txL l) x q)).length ≤ (byT (spL l) x).length * 1 := flat_len (fun s => by
    unfold glOne; split
    · simp
    · split <;> simp) _
  have h2 : ((byT (spL l) x).flatMap (guOne l (txL l) x q)).length ≤ (byT (spL l) x).length * 1 := flat_len (fun s => by
    unfold guOne; split <;> simp) _
  unfold gPt
  rw [List.length_append]
  omega
omit P in
theorem gF_l600 (bf : Nat → ByteArray) (af : Nat → Bool) : ∀ k, (gF l (spL l) (txL l) bf af (ptAll L O) k).length ≤ k * 3 + (O.countP fun i => decide (L i < k)) * 600
  | 0 => by simp [gF]
  | k + 1 => by
    rw [gF_succ, List.length_append, countP_lt]
    have h1 := gF_l600 bf af k
    have h2 : (gAt l (spL l) (txL l) bf af (ptAll L O) k).length ≤ 3 + (O.countP fun i => L i == k) * 600 := by
      unfold gAt
      rw [List.length_append, List.length_append]
      have a1 : (gHd l af k).length ≤ 1 := by unfold gHd; split <;> simp
      have a2 : ((ptAll L O k).flatMap (gPt l (spL l) (txL l) k)).length ≤ (ptAll L O k).length * 600 := flat_len (fun x => gPt_l600 S k x) _
      have a3 : (gTl l bf k).length ≤ 2 := by
        unfold gTl; split
        · rw [List.length_append]; split <;> simp
        · simp
      rw [ptAll_at] at a2
      rw [List.countP_eq_length_filter, ptAll_at]
      omega
    rw [Nat.add_mul]
    omega
theorem lkG_len : (lkG l L O).length ≤ 10000 := by
  have h1 := gF_l600 S (L := L) (O := O) (gbAll (spL l) L O) (gaAll (spL l) L O) (l.length + 1)
  have h2 := S.len
  have h3 : (O.countP fun i => decide (L i < l.length + 1)) ≤ O.length := List.countP_le_length
  have h4 := txL_length l
  have h5 := P.ol
  show (gF l (spL l) (txL l) (gbAll (spL l) L O) (gaAll (spL l) L O) (ptAll L O) (l.length + 1)).length ≤ 10000
  omega
end

/-- THE PLAIN LAW, in general. -/
theorem finG (sts : List St) (hn : sts.length ≤ 300) (hok : ∀ s ∈ sts, s.Ok) : FinG (sts.map acOf) := by
  have S := sch_of sts hn hok
  exact ⟨S.gen7, fun L O P _ => ⟨lkG_filter S P, lkG_len S P, lkG_all S P⟩⟩

/-- LawS2852AGeneral, any input: it answers true and leaves what lies in memory as it was. -/
theorem general_any (w : World) (a : Option Addr) (cap : Nat) (sts : List St) (hb : sts.length ≤ 9223372036854775807) (hs : Els w 3 a sts.length fun i => (sts.getD i ⟨0, 0, 0⟩).cells) (hok : ∀ s ∈ sts, s.Ok) (hld : Laid w) :
    Calls Ybad.prog 3 #[.slice a sts.length cap] w fun e w' => e = .returned (.bool true) ∧ RowKit.Below w.heap.size w w' := by
  by_cases hn : sts.length ≤ 300
  · exact general_walk w a cap sts hn hs hok hld (finG sts hn hok)
  · exact general_long w a sts.length cap (by omega) hb
end Go.Proofs.YbulkbgasDoor
