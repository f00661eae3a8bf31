import Derived.Maps.OwnSet
import Derived.Maps.OwnOps
import Derived.Maps.RangeWalk
import Derived.Maps.Views
import Derived.DeepKeys4
import Derived.Test.YbulkbgasDoorBase
namespace Go.Proofs.YbulkbgasDoor
open Go.RowKit Go.Maps
set_option linter.unusedVariables false

/-- Block b is a map; at each key that a key can be it holds m. -/
def MapV (W : World) (k : TypeId) (R : Value → Option (DataW Unit × List MemPlace)) (b n : Nat) (m : Value → Option (DataW Unit)) : Prop :=
  ∃ D, W.ownsMap Ybad.prog k R b n D ∧ ∀ key kl, keyOf Ybad.prog k key = some kl → Maps.has D kl = (m key).isSome ∧ ∀ zd, D.atKey kl zd = (m key).getD zd

theorem MapV.made (w : World) (k : TypeId) (R : Value → Option (DataW Unit × List MemPlace)) : MapV (w.alloc (.map #[] 0)) k R w.heap.size 0 (fun _ => none) :=
  ⟨.map [], World.ownsMap_made w _ _ _, fun _ _ _ => ⟨rfl, fun _ => rfl⟩⟩

theorem MapV.lt {W : World} {k : TypeId} {R : Value → Option (DataW Unit × List MemPlace)} {b n : Nat} {m : Value → Option (DataW Unit)} (h : MapV W k R b n m) : b < W.heap.size := by
  obtain ⟨D, h1, _⟩ := h; exact h1.lt
theorem MapV.kept {W W' : World} {row : Option Nat} {k : TypeId} {R : Value → Option (DataW Unit × List MemPlace)} {b n : Nat} {m : Value → Option (DataW Unit)} (h : MapV W k R b n m) (hg : W.grownBy W' row) (hne : some b ≠ row) : MapV W' k R b n m := by
  obtain ⟨D, h1, h2⟩ := h; exact ⟨D, h1.kept hg hne, h2⟩
theorem MapV.alloc {W : World} {k : TypeId} {R : Value → Option (DataW Unit × List MemPlace)} {b n : Nat} {m : Value → Option (DataW Unit)} (h : MapV W k R b n m) (o : Obj) : MapV (W.alloc o) k R b n m := h.kept (World.grownBy_alloc W o none) (by simp)
theorem MapV.drewN {W : World} {k : TypeId} {R : Value → Option (DataW Unit × List MemPlace)} {b n : Nat} {m : Value → Option (DataW Unit)} (h : MapV W k R b n m) (q : Nat) : MapV (W.drewN q) k R b n m := h.kept (row := none) ⟨rfl, rfl, rfl, Nat.le_refl _, fun _ _ _ => rfl⟩ (by simp)
theorem MapV.setCell {W : World} {k : TypeId} {R : Value → Option (DataW Unit × List MemPlace)} {b n : Nat} {m : Value → Option (DataW Unit)} (h : MapV W k R b n m) {a : Addr} (ha : b ≠ a.block) (u : Value) : MapV (W.setCell a u) k R b n m := by
  obtain ⟨D, h1, h2⟩ := h; exact ⟨D, h1.setCell ha u, h2⟩
theorem MapV.congr {W : World} {k : TypeId} {R : Value → Option (DataW Unit × List MemPlace)} {b n : Nat} {m m' : Value → Option (DataW Unit)} (h : MapV W k R b n m) (he : ∀ key kl, keyOf Ybad.prog k key = some kl → m key = m' key) : MapV W k R b n m' := by
  obtain ⟨D, h1, h2⟩ := h
  exact ⟨D, h1, fun key kl hk => by rw [← he key kl hk]; exact h2 key kl hk⟩

open Classical in
/-- m, but for d at key. -/
noncomputable def mset (m : Value → Option (DataW Unit)) (key : Value) (d : DataW Unit) : Value → Option (DataW Unit) := fun y => if y = key then some d else m y

section
variable {ops : Array Oper} {rest : List Oper} {Q : Exit → Act → World → Prop} {a : Act} {w : World} {tt : TypeId} {ps : String} {dst : Option Tmp} {aft : Array Edge}

/-- 'm[k] = v' -/
theorem mapPut {t : TypeId} {k e : TypeId} (K : Keyed Ybad.prog k) (ht : Ybad.prog.underlying t = some (.map k e)) {tm tk tv : Tmp} (R : Value → Option (DataW Unit × List MemPlace)) (b n : Nat) (m : Value → Option (DataW Unit))
    (hm : a.eval (.tmp tm) = .map (some b)) (hown : MapV w k R b n m) (hn : n < 1000000) (key val : Value) (kl : Lit) (hx : a.eval (.tmp tk) = key) (hv : a.eval (.tmp tv) = val) (hkey : keyOf Ybad.prog k key = some kl) (d : DataW Unit) (pl : List MemPlace) (hval : R val = some (d, pl))
    (hK : ∀ w', MapV w' k R b (n + 1) (mset m key d) → w.grownBy w' (some b) → wpList Ybad.prog ops Q rest (a.put dst undef) w') :
    wpList Ybad.prog ops Q ({ dst := dst, op := .mapUpdate t (.tmp tm) (.tmp tk) (.tmp tv), type := tt, pos := ps, after := aft, guard := none } :: rest) a w := by
  obtain ⟨D, hD, hs⟩ := hown
  refine wpList_mapUpdate_own w rfl (.tmp tm) (.tmp tk) (.tmp tv) t rfl k e K ht R b n D hm hD (by unfold maxLen; omega) key val kl hx hv hkey d pl hval ?_
  intro w' h1 h2
  refine hK w' ⟨_, h1, fun y yl hy => ?_⟩ h2
  unfold mset
  by_cases e : y = key
  · subst e
    rw [hkey] at hy
    cases hy
    rw [if_pos rfl]
    exact ⟨has_put_same hD.isMap (K.key hkey) d, fun zd => atKey_put_same hD.isMap (K.key hkey) d zd⟩
  · rw [if_neg e]
    have hne : yl ≠ kl := fun h => e (K.inj hy (by rw [h]; exact hkey))
    rw [has_put_other hne]
    exact ⟨(hs y yl hy).1, fun zd => by rw [atKey_put_other hne]; exact (hs y yl hy).2 zd⟩

/-- 'v, ok := m[k]' -/
theorem mapGet {t : TypeId} {k e : TypeId} (K : Keyed Ybad.prog k) (ht : Ybad.prog.underlying t = some (.map k e)) {tm tk : Tmp} (R : Value → Option (DataW Unit × List MemPlace)) {z : Value} (hz : ∀ w, (zeroValue e).run Ybad.prog w = .ok z w) (zd : DataW Unit) (zp : List MemPlace) (hzd : R z = some (zd, zp)) (b n : Nat) (m : Value → Option (DataW Unit))
    (hm : a.eval (.tmp tm) = .map (some b)) (hown : MapV w k R b n m) (key : Value) (kl : Lit) (hx : a.eval (.tmp tk) = key) (hkey : keyOf Ybad.prog k key = some kl)
    (hK : ∀ v pl, R v = some ((m key).getD zd, pl) → wpList Ybad.prog ops Q rest (a.put dst (.tuple #[v, .bool (m key).isSome])) w) :
    wpList Ybad.prog ops Q ({ dst := dst, op := .lookup t (.tmp tm) (.tmp tk) true, type := tt, pos := ps, after := aft, guard := none } :: rest) a w := by
  obtain ⟨D, hD, hs⟩ := hown
  refine wpList_lookup_own_ok w rfl (.tmp tm) (.tmp tk) t rfl k e K ht R (hz w) zd zp hzd b n D hm hD key kl hx hkey ?_
  intro v pl hv
  rw [(hs key kl hkey).1]
  rw [(hs key kl hkey).2] at hv
  exact hK v pl hv
end

end Go.Proofs.YbulkbgasDoor
