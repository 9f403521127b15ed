/- THE PLAIN MATHEMATICS AND THE SMALL FUNCTIONS' CONTRACTS. -/
import Derived.Test.Qxb6628417aRows
import Derived.WalkKit
import Derived.WalkSpells
import Derived.WalkLawsBesides
namespace Go.Proofs.Qxb6628417a
open Go.RowKit

/-- the slice (a, len) leads to the numbers zs -/
def IsNums (w : World) (a : Option Addr) (len : Nat) (zs : List Int) : Prop :=
  zs.length = len ∧ (0 < len → ∃ b off, a = some ⟨b, off, none⟩ ∧ ∀ (i : Nat) (z : Int), zs[i]? = some z → w.cell? ⟨b, off + i, none⟩ = some (.int .u64 z))

theorem IsNums.at {w : World} {a : Option Addr} {len : Nat} {zs : List Int} (h : IsNums w a len zs) {k : Nat} (hk : k < len) :
    ∃ b off z, a = some ⟨b, off, none⟩ ∧ b < w.heap.size ∧ zs[k]? = some z ∧ w.cell? ⟨b, off + k, none⟩ = some (.int .u64 z) := by
  obtain ⟨h1, h2⟩ := h
  obtain ⟨b, off, ha, hc⟩ := h2 (by omega)
  have he : zs[k]? = some zs[k] := List.getElem?_eq_getElem (by omega)
  have hcell := hc k _ he
  exact ⟨b, off, _, ha, World.block_lt_of_cell? w _ hcell, he, hcell⟩

theorem IsNums.below {w w' : World} {a : Option Addr} {len : Nat} {zs : List Int} (h : IsNums w a len zs) (hb : Below w.heap.size w w') : IsNums w' a len zs := by
  obtain ⟨h1, h2⟩ := h
  refine ⟨h1, fun hp => ?_⟩
  obtain ⟨b, off, ha, hc⟩ := h2 hp
  refine ⟨b, off, ha, fun i z hz => ?_⟩
  have := hc i z hz
  rw [hb.cell (p := ⟨b, off + i, none⟩) (World.block_lt_of_cell? w _ this)]
  exact this

/-- the call ended with SOME bool -/
def SomeBool (e : Ending) : Prop := ∃ r, e = .returned (.bool r)
theorem SomeBool.mk (r : Bool) : SomeBool (.returned (.bool r)) := ⟨r, rfl⟩

/-- strictly ascending, up to place k -/
def AscTo (zs : List Int) (k : Nat) : Prop := ∀ (i j : Nat) (a b : Int), i < j → j < k → zs[i]? = some a → zs[j]? = some b → a < b
def Asc (zs : List Int) : Prop := AscTo zs zs.length

theorem AscTo.step {zs : List Int} {k : Nat} {a b : Int} (h : AscTo zs (k + 1)) (ha : zs[k]? = some a) (hb : zs[k + 1]? = some b) (hab : a < b) : AscTo zs (k + 2) := by
  intro i j x y hij hj hx hy
  by_cases hjk : j = k + 1
  · subst hjk
    rw [hb] at hy
    cases hy
    by_cases hik : i = k
    · subst hik
      rw [ha] at hx
      cases hx
      exact hab
    · have := h i k x a (by omega) (by omega) hx ha
      omega
  · exact h i j x y hij (by omega) hx hy
theorem AscTo.one (zs : List Int) : AscTo zs 1 := fun i j _ _ hij hj _ _ => by omega

/-- is x among zs? -/
def hasB (zs : List Int) (x : Int) : Bool := zs.any (fun z => z == x)
theorem hasB_iff {zs : List Int} {x : Int} : hasB zs x = true ↔ x ∈ zs := by
  unfold hasB
  rw [List.any_eq_true]
  constructor
  · rintro ⟨z, hz, h⟩
    have : z = x := by simpa using h
    exact this ▸ hz
  · intro h; exact ⟨x, h, by simp⟩
theorem hasB_false {zs : List Int} {x : Int} : hasB zs x = false ↔ x ∉ zs := by
  rw [← hasB_iff]; simp

theorem take_snoc {α : Type} {l : List α} {k : Nat} {x : α} (h : l[k]? = some x) : l.take (k + 1) = l.take k ++ [x] := by
  rw [List.take_add_one, h]; rfl

set_option maxHeartbeats 400000 in
theorem bytes5_any (a0 : Option Addr) (l0 c0 : Nat) (x1 x2 x3 x4 x5 : Int) (w : World) (hl0 : l0 ≤ 9223372036854775807) :
    Calls Try.prog 5 #[.slice a0 l0 c0, .int .u64 x1, .int .u64 x2, .int .u64 x3, .int .u64 x4, .int .u64 x5] w fun e w' => SomeBool e ∧ w' = w := by
  go_enter Try.func5, Try.ntmps5
  go_wp2
  all_goals
    go_ret
    exact ⟨SomeBool.mk _, rfl⟩

set_option maxHeartbeats 400000 in
theorem bytes10_any (a0 : Option Addr) (l0 c0 : Nat) (x1 x2 x3 x4 x5 : Int) (w : World) (hl0 : l0 ≤ 9223372036854775807) :
    Calls Try.prog 10 #[.slice a0 l0 c0, .int .u64 x1, .int .u64 x2, .int .u64 x3, .int .u64 x4, .int .u64 x5] w fun e w' => SomeBool e ∧ w' = w := by
  go_enter Try.func10, Try.ntmps10
  go_wp2
  all_goals
    go_ret
    exact ⟨SomeBool.mk _, rfl⟩

set_option maxHeartbeats 400000 in
theorem has_any (a0 : Option Addr) (l0 c0 : Nat) (zs : List Int) (x : Int) (w : World) (h0 : IsNums w a0 l0 zs) (hl0 : l0 ≤ 9223372036854775807) :
    Calls Try.prog 7 #[.slice a0 l0 c0, .int .u64 x] w fun e w' => e = .returned (.bool (hasB zs x)) ∧ w' = w := by
  go_enter Try.func7, Try.ntmps7
  go_wp2
  go_loop [5] (fun i => ∃ k : Nat, k ≤ l0 ∧ i = .int .i64 k ∧ hasB (zs.take k) x = false) (fun i => l0 - (intOf i).toNat)
  case atStart => exact ⟨0, Nat.zero_le _, rfl, by simp [hasB]⟩
  case round =>
    obtain ⟨k, hk, rfl, hno⟩ := hrel
    have HNO : Hid (hasB (zs.take k) x = false) := hno
    clear hno
    by_cases hlt : k < l0
    · obtain ⟨b, off, z, rfl, hle, hz, hc⟩ := h0.at hlt
      have HZ : Hid (zs[k]? = some z) := hz
      clear hz
      by_cases hx : z = x
      · subst hx
        have HB : Hid (hasB zs z = true) := hasB_iff.2 (List.mem_of_getElem? HZ.out)
        go_wp2
        go_ret
        exact ⟨by rw [HB.out]; rfl, rfl⟩
      · have hx' : (z == x) = false := by simpa using hx
        have HN : Hid (hasB (zs.take (k + 1)) x = false) := by
          unfold Hid
          rw [take_snoc HZ.out]
          have := HNO.out
          simp only [hasB, List.any_append, List.any_cons, List.any_nil, hx', Bool.or_false] at this ⊢
          exact this
        go_wp2
        go_round
        case rel => exact ⟨k + 1, by omega, by go_num, HN.out⟩
        case measure => simp [intOf]; omega
    · have HB : Hid (hasB zs x = false) := by
        have := HNO.out
        rw [List.take_of_length_le (by have := h0.1; omega)] at this
        exact this
      go_wp2
      go_ret
      exact ⟨by rw [HB.out]; rfl, rfl⟩

set_option maxHeartbeats 400000 in
theorem less_any (x y : Int) (w : World) : Calls Try.prog 13 #[.int .u64 x, .int .u64 y] w fun e w' => e = .returned (.bool (decide (x < y))) ∧ w' = w := by
  go_enter Try.func13, Try.ntmps13
  go_wp2
  go_ret
  exact ⟨rfl, rfl⟩

end Go.Proofs.Qxb6628417a
