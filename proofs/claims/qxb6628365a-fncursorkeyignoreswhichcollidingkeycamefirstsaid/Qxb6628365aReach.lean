/- ckReachable: it returns SOME bool and leaves old memory alone. -/
import Derived.Test.Qxb6628365aMap
namespace Go.Proofs.Qxb6628365a
open Go.RowKit Go.Maps

/-- each value is a bool -/
def BoolFn (F : Int → Value) : Prop := ∀ x, ∃ r, F x = .bool r
theorem BoolFn.upd {F : Int → Value} (h : BoolFn F) (x : Int) (r : Bool) : BoolFn (upd F x (.bool r)) := fun y => by
  unfold Qxb6628365a.upd
  split
  · exact ⟨_, rfl⟩
  · exact h y

set_option maxHeartbeats 400000 in
theorem reach_any (a0 a1 : Option Addr) (l0 c0 l1 c1 : Nat) (e0 e1 : List Ent) (w : World) (h0 : IsEnts w a0 l0 e0) (h1 : IsEnts w a1 l1 e1) (hl0 : l0 ≤ 9223372036854775807) (hl1 : l1 ≤ 9223372036854775807) :
    Calls Try.prog 7 #[.slice a0 l0 c0, .slice a1 l1 c1] w fun e w' => SomeBool e ∧ Below w.heap.size w w' := by
  have hmm := fun (n : Int) (w : World) => run_makeMap_hint Try.underlying37 .i64 n w
  go_enter Try.func7, Try.ntmps7
  go_wp2
  go_loopw [6] (fun i wr => ∃ (k : Nat) (F : Int → Value), k ≤ l0 ∧ i = .int .i64 k ∧ MapFn wr w.heap.size k (.bool false) F ∧ BoolFn F ∧ Below w.heap.size w wr) (fun i _ => l0 - (intOf i).toNat)
  case atStart => exact ⟨0, _, Nat.zero_le _, rfl, MapFn.made _ _, fun _ => ⟨_, rfl⟩, (Below.refl _ _).alloc (Nat.le_refl _) _⟩
  case round =>
    obtain ⟨k, F, hk, rfl, hm, hF, hb⟩ := hrel
    by_cases hlt : k < l0
    · obtain ⟨b, off, x, s, rfl, hle, hes, hc0, hc1, hwf, hsz⟩ := h0.at hlt
      have hck := (hb.cell (p := ⟨b, off + k * 2, none⟩) hle).trans hc0
      clear hc0 hc1 hes
      go_wp2_with (first | (at_mapUpdate; refine wpList_store _ rfl _ _ _ 37 rfl 4 Try.underlying37 (.bool false) w.heap.size k F hm (by unfold maxLen; omega) rfl _ rfl ?hw _ rfl ?_))
      case hw => exact hwf
      intro w2 hm2 hg2
      go_wp2
      go_roundw
      case rel => exact ⟨k + 1, _, by omega, by go_num, hm2, hF.upd _ _, hb.grown hg2 hb.size (fun j hj => by cases hj; exact Nat.le_refl _)⟩
      case measure => simp [intOf]; omega
    · go_wp2
      go_loop [7] (fun i => ∃ k : Nat, k ≤ l1 ∧ i = .int .i64 k) (fun i => l1 - (intOf i).toNat)
      case atStart => exact ⟨0, Nat.zero_le _, rfl⟩
      case round =>
        obtain ⟨j, hj, rfl⟩ := hrel
        by_cases hlt1 : j < l1
        · obtain ⟨b, off, x, s, rfl, hle, hes, hc0, hc1, hwf, hsz⟩ := h1.at hlt1
          have hck := (hb.cell (p := ⟨b, off + j * 2, none⟩) hle).trans hc0
          obtain ⟨r, hr⟩ := hF x
          have hlk := hm.look Try.underlying37 (zero4 _) hwf
          rw [hr] at hlk
          clear hc0 hc1 hr hes
          cases r
          · go_wp2
            go_ret
            exact ⟨SomeBool.mk _, hb⟩
          · go_wp2
            go_round
            case rel => exact ⟨j + 1, by omega, by go_num⟩
            case measure => simp [intOf]; omega
        · go_wp2
          go_ret
          exact ⟨SomeBool.mk _, hb⟩

end Go.Proofs.Qxb6628365a
