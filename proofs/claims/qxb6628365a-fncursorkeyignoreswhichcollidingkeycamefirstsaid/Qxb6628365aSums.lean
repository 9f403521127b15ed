/- THE FUNCTIONS THAT ONLY SUM LENGTHS: they return SOME bool and turn nothing: no more is needed of them. -/
import Derived.Test.Qxb6628365aView
namespace Go.Proofs.Qxb6628365a
open Go.RowKit

set_option maxHeartbeats 400000 in
theorem fit_any (a0 a1 : Option Addr) (l0 c0 l1 c1 : Nat) (e0 e1 : List Ent) (x : Int) (w : World) (h0 : IsEnts w a0 l0 e0) (h1 : IsEnts w a1 l1 e1) (hl0 : l0 ≤ 9223372036854775807) (hl1 : l1 ≤ 9223372036854775807) :
    Calls Try.prog 6 #[.slice a0 l0 c0, .slice a1 l1 c1, .int .i64 x] w fun e w' => SomeBool e ∧ w' = w := by
  go_enter Try.func6, Try.ntmps6
  go_wp2
  · go_ret
    exact ⟨SomeBool.mk _, rfl⟩
  · go_loop [7, 8] (fun t i => ∃ (k : Nat) (n : Int), k ≤ l0 ∧ i = .int .i64 k ∧ t = .int .i64 n) (fun _ i => l0 - (intOf i).toNat)
    case atStart => exact ⟨0, _, Nat.zero_le _, rfl, rfl⟩
    case round =>
      obtain ⟨k, n, hk, rfl, rfl⟩ := hrel
      by_cases hlt : k < l0
      · obtain ⟨b, off, rfl, hc⟩ := h0.2.2 (by omega)
        have hck := (hc k hlt).2
        clear hc
        go_wp2
        · go_ret
          exact ⟨SomeBool.mk _, rfl⟩
        · go_round
          case rel => exact ⟨k + 1, _, by omega, by go_num, rfl⟩
          case measure => simp [intOf]; omega
      · go_wp2
        go_loop [7, 9] (fun t i => ∃ (k : Nat) (n : Int), k ≤ l1 ∧ i = .int .i64 k ∧ t = .int .i64 n) (fun _ i => l1 - (intOf i).toNat)
        case atStart => exact ⟨0, _, Nat.zero_le _, rfl, rfl⟩
        case round =>
          obtain ⟨k, n, hk, rfl, rfl⟩ := hrel
          by_cases hlt : k < l1
          · obtain ⟨b, off, rfl, hc⟩ := h1.2.2 (by omega)
            have hck := (hc k hlt).2
            clear hc
            go_wp2
            · go_ret
              exact ⟨SomeBool.mk _, rfl⟩
            · go_round
              case rel => exact ⟨k + 1, _, by omega, by go_num, rfl⟩
              case measure => simp [intOf]; omega
          · go_wp2
            go_ret
            exact ⟨SomeBool.mk _, rfl⟩

set_option maxHeartbeats 400000 in
theorem bytes5_any (a0 a1 : Option Addr) (l0 c0 l1 c1 : Nat) (e0 e1 : List Ent) (c : Int) (s : ByteArray) (x : Int) (w : World) (h0 : IsEnts w a0 l0 e0) (h1 : IsEnts w a1 l1 e1) (hl0 : l0 ≤ 9223372036854775807) (hl1 : l1 ≤ 9223372036854775807) :
    Calls Try.prog 5 #[.slice a0 l0 c0, .slice a1 l1 c1, .int .u64 c, .string s, .int .i64 x] w fun e w' => SomeBool e ∧ w' = w := by
  by_cases b0 : l0 ≤ 1048576
  case neg =>
    go_enter Try.func5, Try.ntmps5
    go_wp2
    go_ret
    exact ⟨SomeBool.mk _, rfl⟩
  case pos =>
    go_enter Try.func5, Try.ntmps5
    go_wp2
    go_loop [11, 12] (fun t i => ∃ (k : Nat) (n : Int), k ≤ l0 ∧ i = .int .i64 k ∧ t = .int .i64 n) (fun _ i => l0 - (intOf i).toNat)
    case atStart => exact ⟨0, _, Nat.zero_le _, rfl, rfl⟩
    case round =>
      obtain ⟨k, n, hk, rfl, rfl⟩ := hrel
      by_cases hlt : k < l0
      · obtain ⟨b, off, rfl, hc⟩ := h0.2.2 (by omega)
        have hck := (hc k hlt).2
        clear hc
        go_wp2
        · go_ret
          exact ⟨SomeBool.mk _, rfl⟩
        · go_ret
          exact ⟨SomeBool.mk _, rfl⟩
        · go_round
          case rel => exact ⟨k + 1, _, by omega, by go_num, rfl⟩
          case measure => simp [intOf]; omega
      · by_cases b1 : l1 ≤ 1048576
        case neg =>
          go_wp2
          go_ret
          exact ⟨SomeBool.mk _, rfl⟩
        case pos =>
          go_wp2
          · go_ret
            exact ⟨SomeBool.mk _, rfl⟩
          · go_loop [11, 13] (fun t i => ∃ (k : Nat) (n : Int), k ≤ l1 ∧ i = .int .i64 k ∧ t = .int .i64 n) (fun _ i => l1 - (intOf i).toNat)
            case atStart => exact ⟨0, _, Nat.zero_le _, rfl, rfl⟩
            case round =>
              obtain ⟨k, n, hk, rfl, rfl⟩ := hrel
              by_cases hlt : k < l1
              · obtain ⟨b, off, rfl, hc⟩ := h1.2.2 (by omega)
                have hck := (hc k hlt).2
                clear hc
                go_wp2
                · go_ret
                  exact ⟨SomeBool.mk _, rfl⟩
                · go_ret
                  exact ⟨SomeBool.mk _, rfl⟩
                · go_round
                  case rel => exact ⟨k + 1, _, by omega, by go_num, rfl⟩
                  case measure => simp [intOf]; omega
              · go_wp2
                all_goals
                  go_ret
                  exact ⟨SomeBool.mk _, rfl⟩

set_option maxHeartbeats 400000 in
theorem bytes11_any (a0 a1 : Option Addr) (l0 c0 l1 c1 : Nat) (e0 e1 : List Ent) (c : Int) (w : World) (h0 : IsEnts w a0 l0 e0) (h1 : IsEnts w a1 l1 e1) (hl0 : l0 ≤ 9223372036854775807) (hl1 : l1 ≤ 9223372036854775807) :
    Calls Try.prog 11 #[.slice a0 l0 c0, .slice a1 l1 c1, .int .u64 c] w fun e w' => SomeBool e ∧ w' = w := by
  by_cases b0 : l0 ≤ 1048576
  case neg =>
    go_enter Try.func11, Try.ntmps11
    go_wp2
    go_ret
    exact ⟨SomeBool.mk _, rfl⟩
  case pos =>
    go_enter Try.func11, Try.ntmps11
    go_wp2
    go_loop [7, 8] (fun t i => ∃ (k : Nat) (n : Int), k ≤ l0 ∧ i = .int .i64 k ∧ t = .int .i64 n) (fun _ i => l0 - (intOf i).toNat)
    case atStart => exact ⟨0, _, Nat.zero_le _, rfl, rfl⟩
    case round =>
      obtain ⟨k, n, hk, rfl, rfl⟩ := hrel
      by_cases hlt : k < l0
      · obtain ⟨b, off, rfl, hc⟩ := h0.2.2 (by omega)
        have hck := (hc k hlt).2
        clear hc
        go_wp2
        · go_ret
          exact ⟨SomeBool.mk _, rfl⟩
        · go_ret
          exact ⟨SomeBool.mk _, rfl⟩
        · go_round
          case rel => exact ⟨k + 1, _, by omega, by go_num, rfl⟩
          case measure => simp [intOf]; omega
      · by_cases b1 : l1 ≤ 1048576
        case neg =>
          go_wp2
          go_ret
          exact ⟨SomeBool.mk _, rfl⟩
        case pos =>
          go_wp2
          · go_ret
            exact ⟨SomeBool.mk _, rfl⟩
          · go_loop [7, 9] (fun t i => ∃ (k : Nat) (n : Int), k ≤ l1 ∧ i = .int .i64 k ∧ t = .int .i64 n) (fun _ i => l1 - (intOf i).toNat)
            case atStart => exact ⟨0, _, Nat.zero_le _, rfl, rfl⟩
            case round =>
              obtain ⟨k, n, hk, rfl, rfl⟩ := hrel
              by_cases hlt : k < l1
              · obtain ⟨b, off, rfl, hc⟩ := h1.2.2 (by omega)
                have hck := (hc k hlt).2
                clear hc
                go_wp2
                · go_ret
                  exact ⟨SomeBool.mk _, rfl⟩
                · go_ret
                  exact ⟨SomeBool.mk _, rfl⟩
                · go_round
                  case rel => exact ⟨k + 1, _, by omega, by go_num, rfl⟩
                  case measure => simp [intOf]; omega
              · go_wp2
                all_goals
                  go_ret
                  exact ⟨SomeBool.mk _, rfl⟩

end Go.Proofs.Qxb6628365a
