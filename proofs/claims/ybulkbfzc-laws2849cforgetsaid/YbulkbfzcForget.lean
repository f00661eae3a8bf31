import Derived.Test.YbulkbfzcRows
import Derived.Test.YbulkbfzcPlain
import Derived.WalkKit
import Derived.WalkSpells
import Derived.WalkLawsBesides
import Derived.Lib.SliceRun
namespace Go.Proofs.Ybulkbfzc
open Go.RowKit
set_option linter.unusedVariables false

/-- The one block that may have turned. -/
structure Only (G : Nat) (w w' : World) : Prop where
  os : w'.os = w.os
  tape : w'.tape = w.tape
  output : w'.output = w.output
  size : w'.heap.size = w.heap.size
  block : ∀ k, k ≠ G → w'.heap[k]? = w.heap[k]?

theorem Only.refl (G : Nat) (w : World) : Only G w w := ⟨rfl, rfl, rfl, rfl, fun _ _ => rfl⟩
theorem Only.trans {G : Nat} {a b c : World} (h : Only G a b) (k : Only G b c) : Only G a c :=
  ⟨k.os.trans h.os, k.tape.trans h.tape, k.output.trans h.output, k.size.trans h.size, fun i hi => (k.block i hi).trans (h.block i hi)⟩
theorem Only.set (G j : Nat) (w : World) (v : Value) : Only G w (w.setCell ⟨G, j, none⟩ v) :=
  ⟨rfl, rfl, rfl, by simp [World.setCell], fun k hk => heap_setCell_other w _ k v hk⟩
theorem Only.sets (G : Nat) : ∀ (vs : List Value) (o : Nat) (w : World), Only G w (w.setCells G o vs)
  | [], _, w => Only.refl G w
  | v :: vs, o, w => (Only.set G o w v).trans (Only.sets G vs (o + 1) _)
theorem Only.below {G B : Nat} {w w' : World} (h : Only G w w') (hB : B ≤ G) : Below B w w' :=
  ⟨h.os, h.tape, h.output, Nat.le_of_eq h.size.symm, fun k hk => h.block k (by omega)⟩

theorem sets_row {G : Nat} : ∀ (ys xs : List Int) (o : Nat) (w : World), w.heap[G]? = some (row xs) → o + ys.length = xs.length → (w.setCells G o (ys.map (Value.int .u64))).heap[G]? = some (row (xs.take o ++ ys))
  | [], xs, o, w, h, hl => by
    have e : xs.take o = xs := List.take_of_length_le (by simp at hl; omega)
    simpa [World.setCells, e] using h
  | y :: ys, xs, o, w, h, hl => by
    have h2 := sets_row ys (xs.set o y) (o + 1) (w.setCell ⟨G, o, none⟩ (.int .u64 y)) (row_set h o y) (by simp at hl ⊢; omega)
    have hlt : o < xs.length := by simp at hl; omega
    simp only [List.map_cons, World.setCells]
    rw [h2]
    congr 2
    rw [List.take_succ_eq_append_getElem (by simpa using hlt), List.take_set_of_le (Nat.le_refl _)]
    simp

theorem Yba.zero24 (w : World) : (zeroValue 24).run Yba.prog w = .ok (.int .u64 0) w := by kernel_rfl

set_option maxHeartbeats 400000 in
theorem slot_any (B G m i : Nat) (n : Int) (w : World) (h0 : 0 ≤ n) (h1 : n < 4294967296) (hm0 : 1 ≤ m) (hm1 : m ≤ 32)
    (hc : w.cell? ⟨B, 2, none⟩ = some (.slice (some ⟨G, 0, none⟩) m m)) (hi : bits .and .u32 n (64 * (m : Int) - 1) = (i : Int)) (hi2 : i < 2048) :
    Calls Yba.prog 5 #[.pointer (some ⟨B, 0, none⟩), .int .u32 n] w fun e w' => e = .returned (.tuple #[.int .i64 ((i / 64 : Nat) : Int), .int .u64 (bit64 i)]) ∧ w' = w := by
  go_enter Yba.func5, Yba.ntmps5
  go_wp2
  go_ret2
  exact ⟨by simp [bit64], rfl⟩

/-- d is 'last - first', taken as Go does. -/
def gone (m : Nat) (f l : Int) (p : Nat) : Bool := decide (64 * (m : Int) ≤ (l - f) % 4294967296) || (decide (f ≤ l) && decide (((p : Int) - f) % 4294967296 % (64 * (m : Int)) ≤ (l - f) % 4294967296))

set_option maxHeartbeats 400000 in
theorem forget_all (B G k m : Nat) (f l : Int) (xs : List Int) (w : World) (hf0 : 0 ≤ f) (hf1 : f < 4294967296) (hl0 : 0 ≤ l) (hl1 : l < 4294967296) (hm0 : 1 ≤ m) (hm1 : m ≤ 32) (hlen : xs.length = m)
    (hc : w.cell? ⟨B, 2, none⟩ = some (.slice (some ⟨G, 0, none⟩) m m)) (hG : w.heap[G]? = some (row xs)) (hd : 64 * (m : Int) ≤ (l - f) % 4294967296) :
    Calls Yba.prog 4 #[.pointer (some ⟨B, 0, none⟩), .int .u32 f, .int .u32 l] w fun e w' => e = .returned (.tuple #[]) ∧ Only G w w' ∧ w'.heap[G]? = some (row (List.replicate m 0)) := by
  have hcl := fun ty => Lib.run_clear_slice (P := Yba.prog) w 23 24 ty (.int .u64 0) Yba.underlying23 Yba.zero24 rfl rfl G 0 m m hm0 (fun j hj => by rw [Nat.zero_add, row_cell hG (by omega)]; rfl) (fun j hj => by rw [Nat.zero_add]; exact row_free hG j)
  have hrow := sets_row (List.replicate m 0) xs 0 w hG (by simp [hlen])
  rw [List.map_replicate] at hrow
  simp only [List.take_zero, List.nil_append] at hrow
  go_enter Yba.func4, Yba.ntmps4
  go_wp2
  exact bodyPost_ret (v := .tuple #[]) (results_none rfl _ _ _) rfl ⟨rfl, Only.sets _ _ _ _, hrow⟩

/-- What the loop has cleared when it comes to t. -/
def Cleared (m : Nat) (f t : Nat) (xs ys : List Int) : Prop := ys.length = m ∧ U64 ys ∧ ∀ p, p < 64 * m → (bitAt ys p = true ↔ bitAt xs p = true ∧ ∀ n, f ≤ n → n < t → n % (64 * m) ≠ p)

theorem Cleared.step {m f t : Nat} {xs ys : List Int} (h : Cleared m f t xs ys) (hm : 0 < m) : Cleared m f (t + 1) xs (clr ys (t % (64 * m))) ∨ t < f := by
  by_cases hft : f ≤ t
  · left
    obtain ⟨h1, h2, h3⟩ := h
    have hlt : t % (64 * m) < 64 * m := Nat.mod_lt _ (by omega)
    refine ⟨by rw [clr_length, h1], clr_u64 h2 _, fun p hp => ?_⟩
    rw [bitAt_clr h2 _ _ (by omega), Bool.and_eq_true, h3 p hp]
    constructor
    · rintro ⟨⟨a, b⟩, c⟩
      refine ⟨a, fun n h1 h2 e => ?_⟩
      by_cases hn : n = t
      · subst hn; simp [e] at c
      · exact b n h1 (by omega) e
    · rintro ⟨a, b⟩
      refine ⟨⟨a, fun n h1 h2 => b n h1 (by omega)⟩, ?_⟩
      have := b t hft (by omega)
      simp [Ne.symm this]
  · right; omega

set_option maxHeartbeats 1000000 in
theorem forget_some (B G k m : Nat) (f l : Nat) (xs : List Int) (w : World) (hf1 : f < 4294967296) (hl1 : l < 4294967296) (hk : k < 6) (hmk : Hid (m = 2 ^ k)) (hm0 : 1 ≤ m) (hm1 : m ≤ 32) (hlen : xs.length = m) (hu : U64 xs)
    (hBG : B ≠ G) (hc : w.cell? ⟨B, 2, none⟩ = some (.slice (some ⟨G, 0, none⟩) m m)) (hG : w.heap[G]? = some (row xs)) (hd : ¬ 64 * (m : Int) ≤ ((l : Int) - (f : Int)) % 4294967296) :
    Calls Yba.prog 4 #[.pointer (some ⟨B, 0, none⟩), .int .u32 f, .int .u32 l] w fun e w' => e = .returned (.tuple #[]) ∧ Only G w w' ∧ ∃ ys, Cleared m f (max f (l + 1)) xs ys ∧ w'.heap[G]? = some (row ys) := by
  have hstart : Cleared m f f xs xs := ⟨hlen, hu, fun p hp => ⟨fun h => ⟨h, fun n a b => by omega⟩, fun h => h.1⟩⟩
  clear hlen
  go_enter Yba.func4, Yba.ntmps4
  go_wp2
  go_loopw [6] (fun n wr => ∃ t : Nat, f ≤ t ∧ t ≤ max f (l + 1) ∧ n = .int .u64 t ∧ Only G w wr ∧ ∃ ys, Cleared m f t xs ys ∧ wr.heap[G]? = some (row ys)) (fun n _ => l + 1 - (intOf n).toNat)
  case atStart => exact ⟨f, Nat.le_refl _, by omega, rfl, Only.refl _ _, xs, hstart, hG⟩
  case round =>
    obtain ⟨t, ht1, ht2, rfl, hon, ys, hcl, hGr⟩ := hrel
    clear hstart
    have hcr : wr.cell? ⟨B, 2, none⟩ = some (.slice (some ⟨G, 0, none⟩) m m) := by rw [World.cell?_of_block (w := w) (hon.block B hBG)]; exact hc
    have hp : 2 ^ k < 2 ^ 6 := Nat.pow_lt_pow_right (by omega) hk
    by_cases hlt : t ≤ l
    · have hmm := mask_mod t k (by omega) hk
      rw [← hmk.out] at hmm
      obtain ⟨i, hi⟩ : ∃ i, i = t % (64 * m) := ⟨_, rfl⟩
      rw [← hi] at hmm
      have hilt : i < 64 * m := by rw [hi]; exact Nat.mod_lt _ (by omega)
      have hst := (hcl.step hm0).resolve_right (by omega)
      rw [← hi] at hst
      have hcell := row_cell hGr (j := i / 64) (by have := hcl.1; omega)
      have hfree := row_free hGr (i / 64)
      have hset := row_set hGr (i / 64) (bits .andNot .u64 (ys.getD (i / 64) 0) (bit64 i))
      have HS : Hid (Cleared m f (t + 1) xs (clr ys i)) := hst
      have HI : Hid (i = t % (64 * m)) := hi
      have HR : Hid ((wr.setCell ⟨G, i / 64, none⟩ (.int .u64 (bits .andNot .u64 (ys.getD (i / 64) 0) (bit64 i)))).heap[G]? = some (row (clr ys i))) := hset
      have hmi : ((i / 64 : Nat) : Int) < (m : Int) := by omega
      clear hst hi hset hd hp hcl hc hG
      generalize ys.getD (i / 64) 0 = y at *
      go_wp2_with fail
      refine (slot_any B G m i _ _ (by omega) (by omega) hm0 hm1 hcr hmm (by omega)).mono ?_
      rintro e w' ⟨rfl, rfl⟩
      go_wp2
      go_roundw
      case rel => exact ⟨t + 1, by omega, by omega, by go_num, hon.trans (Only.set _ _ _ _), clr ys i, HS.out, HR.out⟩
      case measure => simp [intOf]; omega
    · go_wp2
      go_end0
      have e : max f (l + 1) = t := by omega
      exact ⟨rfl, hon, ys, by rw [e]; exact hcl, hGr⟩

theorem bitAt_zero (m p : Nat) : bitAt (List.replicate m 0) p = false := by
  have : (List.replicate m (0 : Int)).getD (p / 64) 0 = 0 := by
    simp only [List.getD_eq_getElem?_getD, List.getElem?_replicate]
    split <;> rfl
  unfold bitAt
  rw [this]
  simp

theorem gone_iff (m f l p : Nat) (hm0 : 1 ≤ m) (hm1 : m ≤ 32) (hpow : 4294967296 % (64 * m) = 0) (hf1 : f < 4294967296) (hl1 : l < 4294967296) (hd : ¬ 64 * (m : Int) ≤ ((l : Int) - (f : Int)) % 4294967296) (hp : p < 64 * m) :
    gone m f l p = true ↔ ∃ n, f ≤ n ∧ n < max f (l + 1) ∧ n % (64 * m) = p := by
  obtain ⟨q, hq⟩ : ∃ q, 4294967296 = (64 * m) * q := ⟨4294967296 / (64 * m), (Nat.mul_div_cancel' (Nat.dvd_of_mod_eq_zero hpow)).symm⟩
  have hmod : ((p : Int) - f) % 4294967296 % (64 * (m : Int)) = ((p : Int) - f) % (64 * (m : Int)) := by
    refine Int.emod_emod_of_dvd _ ⟨(q : Int), ?_⟩
    have := congrArg (fun x : Nat => (x : Int)) hq
    simpa using this
  unfold gone
  rw [hmod]
  simp only [hd, decide_false, Bool.false_or, Bool.and_eq_true, decide_eq_true_eq]
  have hM : (0 : Int) < 64 * (m : Int) := by omega
  constructor
  · rintro ⟨hfl, hle⟩
    have e : ((l : Int) - f) % 4294967296 = (l : Int) - f := by omega
    rw [e] at hle hd
    have h0 := Int.emod_nonneg ((p : Int) - f) (by omega : 64 * (m : Int) ≠ 0)
    refine ⟨f + (((p : Int) - f) % (64 * (m : Int))).toNat, by omega, by omega, ?_⟩
    have h1 : ((f + (((p : Int) - f) % (64 * (m : Int))).toNat : Nat) : Int) % (64 * (m : Int)) = (p : Int) := by
      have : ((f + (((p : Int) - f) % (64 * (m : Int))).toNat : Nat) : Int) = (f : Int) + ((p : Int) - f) % (64 * (m : Int)) := by omega
      rw [this, Int.add_emod_emod, show (f : Int) + (p - f) = p from by omega]
      exact Int.emod_eq_of_lt (by omega) (by omega)
    have h2 : ((f + (((p : Int) - f) % (64 * (m : Int))).toNat : Nat) : Int) % (64 * (m : Int)) = (((f + (((p : Int) - f) % (64 * (m : Int))).toNat) % (64 * m) : Nat) : Int) := by simp
    rw [h2] at h1
    omega
  · rintro ⟨n, h1, h2, h3⟩
    have hfl : f ≤ l := by omega
    have e : ((l : Int) - f) % 4294967296 = (l : Int) - f := by omega
    rw [e] at hd ⊢
    refine ⟨by omega, ?_⟩
    have h4 : ((p : Int) - f) % (64 * (m : Int)) = ((n : Int) - f) % (64 * (m : Int)) := by
      have : (p : Int) = (n : Int) % (64 * (m : Int)) := by rw [← h3]; simp
      rw [this, Int.emod_sub_emod]
    rw [h4, Int.emod_eq_of_lt (by omega) (by omega)]
    omega

/-- forget, whole. -/
theorem forget_any (B G k m : Nat) (f l : Nat) (xs : List Int) (w : World) (hf1 : f < 4294967296) (hl1 : l < 4294967296) (hk : k < 6) (hmk : m = 2 ^ k) (hlen : xs.length = m) (hu : U64 xs)
    (hBG : B ≠ G) (hc : w.cell? ⟨B, 2, none⟩ = some (.slice (some ⟨G, 0, none⟩) m m)) (hG : w.heap[G]? = some (row xs)) :
    Calls Yba.prog 4 #[.pointer (some ⟨B, 0, none⟩), .int .u32 f, .int .u32 l] w fun e w' => e = .returned (.tuple #[]) ∧ Only G w w' ∧ ∃ ys, ys.length = m ∧ U64 ys ∧ (∀ p, p < 64 * m → bitAt ys p = (bitAt xs p && !gone m f l p)) ∧ w'.heap[G]? = some (row ys) := by
  have hp : 2 ^ k ≤ 2 ^ 5 := Nat.pow_le_pow_right (by omega) (by omega)
  have hm0 : 1 ≤ m := by rw [hmk]; exact Nat.one_le_two_pow
  have hm1 : m ≤ 32 := by omega
  by_cases hd : 64 * (m : Int) ≤ ((l : Int) - (f : Int)) % 4294967296
  · refine (forget_all B G k m f l xs w (by omega) (by omega) (by omega) (by omega) hm0 hm1 hlen hc hG hd).mono ?_
    rintro e w' ⟨h1, h2, h3⟩
    refine ⟨h1, h2, List.replicate m 0, by simp, fun x hx => by rw [List.eq_of_mem_replicate hx]; omega, fun p _ => ?_, h3⟩
    rw [bitAt_zero]
    simp [gone, hd]
  · have hpow : 4294967296 % (64 * m) = 0 := by
      have : 4294967296 = (64 * m) * 2 ^ (26 - k) := by
        rw [hmk, Nat.mul_assoc, ← Nat.pow_add, show k + (26 - k) = 26 from by omega]
      rw [this, Nat.mul_mod_right]
    refine (forget_some B G k m f l xs w hf1 hl1 hk hmk hm0 hm1 hlen hu hBG hc hG hd).mono ?_
    rintro e w' ⟨h1, h2, ys, ⟨h3, h4, h5⟩, h6⟩
    refine ⟨h1, h2, ys, h3, h4, fun p hp => ?_, h6⟩
    have hg := gone_iff m f l p hm0 hm1 hpow hf1 hl1 hd hp
    have h7 := h5 p hp
    rw [Bool.eq_iff_iff, h7, Bool.and_eq_true, Bool.not_eq_true', ← Bool.not_eq_true, hg]
    constructor
    · rintro ⟨a, b⟩
      exact ⟨a, fun ⟨n, c1, c2, c3⟩ => b n c1 c2 c3⟩
    · rintro ⟨a, b⟩
      exact ⟨a, fun n c1 c2 c3 => b ⟨n, c1, c2, c3⟩⟩

end Go.Proofs.Ybulkbfzc
