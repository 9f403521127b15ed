/- WHAT THE WALKS ARE TOLD OF A SLICE OF CKEntry: its entries. -/
import Derived.Test.Qxb6628365aRows
import Derived.WalkKit
import Derived.WalkSpells
import Derived.WalkLawsBesides
namespace Go.Proofs.Qxb6628365a
open Go.RowKit

/-- one entry: the cursor and the key -/
abbrev Ent := Int × ByteArray
abbrev eDef : Ent := (0, ByteArray.empty)

/-- the slice (a, len) leads to the entries es -/
def IsEnts (w : World) (a : Option Addr) (len : Nat) (es : List Ent) : Prop :=
  es.length = len ∧ (∀ e ∈ es, (Lit.int .u64 e.1).wf = true ∧ e.2.size ≤ maxLen) ∧
  (0 < len → ∃ b off, a = some ⟨b, off, none⟩ ∧ ∀ i, i < len → w.cell? ⟨b, off + i * 2, none⟩ = some (.int .u64 (es.getD i eDef).1) ∧ w.cell? ⟨b, off + i * 2 + 1, none⟩ = some (.string (es.getD i eDef).2))

theorem IsEnts.nil (w : World) (a : Option Addr) : IsEnts w a 0 [] := ⟨rfl, by simp, fun h => absurd h (Nat.lt_irrefl _)⟩

theorem IsEnts.of_cells {w w' : World} {a : Option Addr} {len : Nat} {es : List Ent} (h : IsEnts w a len es) (hc : ∀ b off, a = some ⟨b, off, none⟩ → ∀ o, w'.cell? ⟨b, o, none⟩ = w.cell? ⟨b, o, none⟩) : IsEnts w' a len es := by
  obtain ⟨h1, h2, h3⟩ := h
  refine ⟨h1, h2, fun hp => ?_⟩
  obtain ⟨b, off, ha, hcell⟩ := h3 hp
  refine ⟨b, off, ha, fun i hi => ?_⟩
  rw [hc b off ha, hc b off ha]
  exact hcell i hi

theorem IsEnts.lt {w : World} {a : Option Addr} {len : Nat} {es : List Ent} (h : IsEnts w a len es) (hp : 0 < len) {b off : Nat} (ha : a = some ⟨b, off, none⟩) : b < w.heap.size := by
  obtain ⟨_, _, h3⟩ := h
  obtain ⟨b', off', ha', hc⟩ := h3 hp
  rw [ha] at ha'
  simp at ha'
  obtain ⟨rfl, rfl⟩ := ha'
  have := (hc 0 hp).1
  unfold World.cell? at this
  cases hb : w.heap[b]? with
  | none => rw [hb] at this; simp at this
  | some o => exact (Array.getElem?_eq_some_iff.1 hb).1

theorem IsEnts.below {w w' : World} {a : Option Addr} {len : Nat} {es : List Ent} (h : IsEnts w a len es) (hb : Below w.heap.size w w') : IsEnts w' a len es := by
  by_cases hp : 0 < len
  · exact h.of_cells fun b off ha o => hb.cell (p := ⟨b, o, none⟩) (h.lt hp ha)
  · obtain ⟨h1, h2, _⟩ := h
    exact ⟨h1, h2, fun h => absurd h hp⟩

/-- entry k of them, its two cells -/
theorem IsEnts.at {w : World} {a : Option Addr} {len : Nat} {es : List Ent} (h : IsEnts w a len es) {k : Nat} (hk : k < len) :
    ∃ b off x s, a = some ⟨b, off, none⟩ ∧ b < w.heap.size ∧ es[k]? = some (x, s) ∧ w.cell? ⟨b, off + k * 2, none⟩ = some (.int .u64 x) ∧ w.cell? ⟨b, off + k * 2 + 1, none⟩ = some (.string s) ∧ (Lit.int .u64 x).wf = true ∧ s.size ≤ maxLen := by
  have hlt : ∀ b off, a = some ⟨b, off, none⟩ → b < w.heap.size := fun b off => h.lt (by omega)
  obtain ⟨h1, h2, h3⟩ := h
  obtain ⟨b, off, ha, hc⟩ := h3 (by omega)
  have he : es[k]? = some (es.getD k eDef) := by
    rw [List.getD_eq_getElem?_getD, List.getElem?_eq_getElem (by omega)]
    rfl
  have hm : es.getD k eDef ∈ es := List.mem_of_getElem? he
  exact ⟨b, off, _, _, ha, hlt b off ha, he, (hc k hk).1, (hc k hk).2, (h2 _ hm).1, (h2 _ hm).2⟩

/-- the call ended with SOME bool -/
def SomeBool (e : Ending) : Prop := ∃ r, e = .returned (.bool r)
theorem SomeBool.mk (r : Bool) : SomeBool (.returned (.bool r)) := ⟨r, rfl⟩

end Go.Proofs.Qxb6628365a
