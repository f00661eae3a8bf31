import Derived.Test.YbulkbgasDoorPl5
namespace Go.Proofs.YbulkbgasDoor
set_option linter.unusedVariables false

theorem srlN_le {all : List Ac} : ∀ {k : Nat} {a : Ac}, a ∈ srlN all k → a.t ≤ (k : Int)
  | 0, a, h => by rw [srlN_zero] at h; simp at h
  | k + 1, a, h => by
    rw [srlN_succ, List.mem_append] at h
    rcases h with h | h
    · have := srlN_le h; omega
    · have := (List.mem_filter.1 h).2
      simp at this; omega
theorem srlN_sorted (all : List Ac) : ∀ k, (srlN all k).Pairwise (fun a b => a.t ≤ b.t)
  | 0 => by rw [srlN_zero]; exact List.Pairwise.nil
  | k + 1 => by
    rw [srlN_succ, List.pairwise_append]
    refine ⟨srlN_sorted all k, ?_, fun a ha b hb => ?_⟩
    · rw [List.pairwise_iff_getElem]
      intro i j hi hj hij
      have h1 := (List.mem_filter.1 (List.getElem_mem hi)).2
      have h2 := (List.mem_filter.1 (List.getElem_mem hj)).2
      simp at h1 h2; omega
    · have h1 := srlN_le ha
      have h2 := (List.mem_filter.1 hb).2
      simp at h2; omega
theorem itemS_ix (z : Int) : ∃ i, itIx (itemS z) = some i := by
  unfold itemS
  split
  · exact ⟨0, by decide⟩
  · split
    · exact ⟨1, by decide⟩
    · exact ⟨2, by decide⟩
theorem isLk_acOf {s : St} (h : isLk (acOf s).k = false) : ((acOf s).k = kC ∨ (acOf s).k = kA) ∨ (((acOf s).k = kR ∨ (acOf s).k = kW) ∧ ∃ i, itIx (acOf s).it = some i) := by
  unfold acOf at h ⊢
  split at h
  · rename_i e; rw [if_pos e]; exact .inr ⟨.inl rfl, itemS_ix _⟩
  · rename_i e0; rw [if_neg e0]
    split at h
    · rename_i e; rw [if_pos e]; exact .inr ⟨.inr rfl, itemS_ix _⟩
    · rename_i e1; rw [if_neg e1]
      split at h
      · rename_i e; rw [if_pos e]; exact .inl (.inl rfl)
      · rename_i e2; rw [if_neg e2]
        split at h
        · rename_i e; rw [if_pos e]; exact .inl (.inr rfl)
        · rename_i e3; rw [if_neg e3]
          split at h
          · have h' : isLk kRl = false := h
            rw [isLk_kRl] at h'; cases h'
          · have h' : isLk kU = false := h
            rw [isLk_kU] at h'; cases h'

theorem ser_of (sts : List St) (hn : sts.length ≤ 300) (hok : ∀ s ∈ sts, s.Ok) : Ser (keptA (srlN (sts.map acOf) 4)) := by
  have hl : (keptA (srlN (sts.map acOf) 4)).length ≤ 300 := by
    have h1 : (keptA (srlN (sts.map acOf) 4)).length ≤ (srlN (sts.map acOf) 4).length := List.length_filter_le _ _
    have h2 := srlN_length 4 (sts.map acOf)
    rw [List.length_map] at h2
    omega
  have hsrc : ∀ a ∈ keptA (srlN (sts.map acOf) 4), ∃ s ∈ sts, acOf s = a ∧ isLk a.k = false := fun a ha => by
    obtain ⟨h1, h2⟩ := List.mem_filter.1 ha
    obtain ⟨s, hs, e⟩ := List.mem_map.1 (srlN_mem h1)
    exact ⟨s, hs, e, by simpa using h2⟩
  have hp : (keptA (srlN (sts.map acOf) 4)).Pairwise (fun a b => a.t ≤ b.t) := List.Pairwise.filter _ (srlN_sorted _ 4)
  refine ⟨hl, fun a ha => ?_, fun p q hpq hq => ?_, fun a ha => ?_⟩
  · obtain ⟨s, hs, rfl, _⟩ := hsrc a ha
    exact acOf_t (hok s hs)
  · rw [getD_get hq, getD_get (by omega : p < _)]
    rcases Nat.eq_or_lt_of_le hpq with e | e
    · subst e; exact Int.le_refl _
    · exact List.pairwise_iff_getElem.1 hp p q (by omega) hq e
  · obtain ⟨s, hs, rfl, hk⟩ := hsrc a ha
    exact isLk_acOf hk

/-- THE PLAIN LAW: a serial schedule's lock points can be placed, and the locked schedule checks out. -/
theorem fin7 (sts : List St) (hn : sts.length ≤ 300) (hok : ∀ s ∈ sts, s.Ok) : ∃ L, Fin7 (srlN (sts.map acOf) 4) L := by
  have S := ser_of sts hn hok
  obtain ⟨L, h1, h2, h3⟩ := plain7 S
  refine ⟨L, h1, fun O o1 o2 o3 => ⟨lkF_filter_all S o1 o2 o3, ?_, lk_cks_all S h2 h3 o1 o2 o3⟩⟩
  have h4 := lkF_length S (bfAll (spF (acL (keptA (srlN (sts.map acOf) 4)))) O) L O ((keptA (srlN (sts.map acOf) 4)).length + 1)
  have h5 := S.len
  have h6 : (O.countP fun i => decide (L i < (keptA (srlN (sts.map acOf) 4)).length + 1)) ≤ O.length := List.countP_le_length
  have h7 := txL_length (keptA (srlN (sts.map acOf) 4))
  omega

/-- LawS2852ASerial, any input: it answers true and leaves what lies in memory as it was. -/
theorem serial_any (w : World) (a : Option Addr) (cap : Nat) (sts : List St) (hb : sts.length ≤ 9223372036854775807) (hs : Els w 3 a sts.length fun i => (sts.getD i ⟨0, 0, 0⟩).cells) (hok : ∀ s ∈ sts, s.Ok) (hld : Laid w) :
    Calls Ybad.prog 4 #[.slice a sts.length cap] w fun e w' => e = .returned (.bool true) ∧ RowKit.Below w.heap.size w w' := by
  by_cases hn : sts.length ≤ 300
  · obtain ⟨L, h⟩ := fin7 sts hn hok
    exact serial_walk w a cap sts L hn hs hok hld h
  · exact serial_long w a sts.length cap (by omega) hb

end Go.Proofs.YbulkbgasDoor
