/- A slice of CKEntry that came in, opened: its entries. -/
import Derived.Test.Qxb6628365aView
import Derived.ProofKit
import Derived.Deep.SlicePairs
namespace Go.Proofs.Qxb6628365a
open Go.ChangeShapes Go.WideShapes Go.ChangeAt Go.RowKit

theorem cells35 : Try.prog.cellsOf 35 = 2 := by kernel_rfl

theorem open_ents {H : Type} {enc : TypeId × Value → H} {W : World} {a : Option Addr} {len cap fuel : Nat} {x : DataW H × List MemPlace}
    (hf : DataW.trod enc Try.prog W 0 (fun _ => true) true fuel 22 [.slice a len cap] = some x) : len ≤ cap ∧ (a = none → cap = 0) ∧ cap ≤ maxLen ∧ ∃ es, IsEnts W a len es := by
  rcases Go.Deep.open_slice_pairs Try.underlying22 Try.underlying35 cells35 rfl rfl (by kernel_rfl) (by kernel_rfl) hf with ⟨hcs, _⟩ | ⟨ad, len', cap', m, n, V0, V1, D0, D1, P0, P1, hcs, _, hl, hml, hm, _, hx⟩
  · simp only [List.cons.injEq, Value.slice.injEq, and_true] at hcs
    obtain ⟨rfl, rfl, rfl⟩ := hcs
    exact ⟨Nat.le_refl _, fun _ => rfl, Nat.zero_le _, [], IsEnts.nil _ _⟩
  · simp only [List.cons.injEq, Value.slice.injEq, and_true] at hcs
    obtain ⟨rfl, rfl, rfl⟩ := hcs
    rw [if_pos rfl] at hm
    subst hm
    obtain ⟨X, hX⟩ := Go.Deep.choose_lt (α := Int) (p := fun i z => V0 i = .int .u64 z ∧ (Lit.int .u64 z).wf = true) (fun i hi => by
      obtain ⟨z, h1, _, h2⟩ := DataW.trod_int Try.underlying23 (hx i hi).2.2.1
      exact ⟨z, by simpa using h1, h2⟩)
    have hS0 : ∀ i, i < m → ∃ l : List UInt8, V1 i = .string ⟨l.toArray⟩ ∧ l.length ≤ maxLen := fun i hi => by
      obtain ⟨s, h1, _, h2⟩ := DataW.trod_string Try.underlying9 (hx i hi).2.2.2
      refine ⟨s.data.toList, by simpa using h1, ?_⟩
      rw [Array.length_toList]
      exact h2
    obtain ⟨S, hS⟩ := Go.Deep.choose_lt (α := List UInt8) hS0
    refine ⟨hl, fun h => (by cases h), hml, (List.range len).map (fun i => (X i, ⟨(S i).toArray⟩)), by simp, fun e he => ?_, fun hp => ?_⟩
    · obtain ⟨i, hi, rfl⟩ := List.mem_map.1 he
      have hi' := List.mem_range.1 hi
      exact ⟨(hX i (by omega)).2, (hS i (by omega)).2⟩
    · obtain ⟨b, off, spot⟩ := ad
      have hspot : spot = none := by simpa [Addr.add] using World.cell?_spot (hx 0 (by omega)).1
      subst hspot
      refine ⟨b, off, rfl, fun i hi => ?_⟩
      have h1 := (hx i (by omega)).1
      have h2 := (hx i (by omega)).2.1
      rw [add_plain] at h1 h2
      rw [(hX i (by omega)).1] at h1
      rw [(hS i (by omega)).1] at h2
      simp only [List.getD_eq_getElem?_getD, List.getElem?_map, List.getElem?_range hi, Option.map_some, Option.getD_some]
      exact ⟨h1, by rw [Nat.add_assoc]; exact h2⟩

end Go.Proofs.Qxb6628365a
