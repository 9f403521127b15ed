/- From what the shell hands over to what the laws ask. -/
import Derived.Test.Qxb6628440aFacts
namespace Go.Proofs.Qxb6628440a
open Go.RowKit Go.WideShapes

theorem isB_row {w : World} {a : Option Addr} {len cap : Nat} {zs : List Int} (h : (a = none ∧ len = 0 ∧ cap = 0 ∧ zs = []) ∨
    ∃ x, a = some x ∧ len ≤ cap ∧ cap ≤ maxLen ∧ zs.length = cap ∧ (∀ i, i < zs.length → w.cell? (x.add i) = some (.int .u8 (zs.getD i 0))) ∧ ∀ n ∈ zs, (Lit.int .u8 n).wf = true) :
    ∃ L : List Int, L.length = len ∧ IsB w (.slice a len cap) L := by
  rcases h with ⟨rfl, rfl, rfl, _⟩ | ⟨x, rfl, hl, _, hz, hc, _⟩
  · exact ⟨[], rfl, .inl ⟨rfl, rfl⟩⟩
  · have e : (zs.take len).length = len := by rw [List.length_take]; omega
    refine ⟨zs.take len, e, .inr ⟨x, cap, by rw [e], fun i y hy => ?_⟩⟩
    have hi : i < (zs.take len).length := (List.getElem?_eq_some_iff.1 hy).1
    rw [List.getElem?_take, if_pos (by omega)] at hy
    have := hc i (by omega)
    rw [List.getD_eq_getElem?_getD, hy] at this
    exact this

theorem nat_of_wf {a : Int} (h : (Lit.int .u64 a).wf = true) : ∃ n : Nat, a = n ∧ n < 18446744073709551616 := by
  simp [Lit.wf, IntKind.min, IntKind.max, IntKind.signed, IntKind.bits] at h
  exact ⟨a.toNat, by omega, by omega⟩

end Go.Proofs.Qxb6628440a
