/- zzUvarint at a varint. -/
import Derived.Test.Qxb6628440aCalls
namespace Go.Proofs.Qxb6628440a
open Go.RowKit Go.WideShapes

/-- the next seven bits -/
theorem mod_step (x k : Nat) : x % 2 ^ (7 * (k + 1)) = x % 2 ^ (7 * k) + 2 ^ (7 * k) * (x / 2 ^ (7 * k) % 128) := by
  have e : 2 ^ (7 * (k + 1)) = 2 ^ (7 * k) * 128 := by rw [show 7 * (k + 1) = 7 * k + 7 by omega, Nat.pow_add]
  rw [e, Nat.mod_mul]
theorem div_step (x k : Nat) : x / 2 ^ (7 * (k + 1)) = x / 2 ^ (7 * k) / 128 := by
  have e : 2 ^ (7 * (k + 1)) = 2 ^ (7 * k) * 128 := by rw [show 7 * (k + 1) = 7 * k + 7 by omega, Nat.pow_add]
  rw [e, Nat.div_div_eq_div_mul]

/-- the low bits, and a digit above them -/
theorem or_digit (x k c : Nat) (hx : x < 18446744073709551616) (hc : c ≤ x / 2 ^ (7 * k)) :
    bits .or .u64 ((x % 2 ^ (7 * k) : Nat) : Int) (IntKind.u64.wrap ((c : Int) * 2 ^ (7 * k))) = ((x % 2 ^ (7 * k) + 2 ^ (7 * k) * c : Nat) : Int) := by
  have hp : 0 < 2 ^ (7 * k) := Nat.pos_of_ne_zero (by simp)
  have h1 : 2 ^ (7 * k) * c ≤ x := Nat.le_trans (Nat.mul_le_mul_left _ hc) (Nat.mul_div_le x _)
  have h2 : x % 2 ^ (7 * k) < 2 ^ (7 * k) := Nat.mod_lt _ hp
  have h3 : x % 2 ^ (7 * k) ≤ x := Nat.mod_le _ _
  have e : (c : Int) * 2 ^ (7 * k) = ((2 ^ (7 * k) * c : Nat) : Int) := by rw [Int.mul_comm]; simp
  rw [e]
  have hw : IntKind.u64.wrap ((2 ^ (7 * k) * c : Nat) : Int) = ((2 ^ (7 * k) * c : Nat) : Int) := IntWalk.u64_in _ ⟨by omega, by omega⟩
  have hm : ((2 ^ (7 * k) * c : Nat) : Int) % 2 ^ (7 * k) = 0 := by simp
  have hl : ((x % 2 ^ (7 * k) : Nat) : Int) < 2 ^ (7 * k) := by
    have : ((x % 2 ^ (7 * k) : Nat) : Int) < ((2 ^ (7 * k) : Nat) : Int) := by omega
    simpa using this
  rw [hw, bits_join_low .u64 64 (by decide) wraps_u64 (7 * k) _ _ (by omega) hl (by omega) (by omega) hm (by omega)]
  omega

set_option maxRecDepth 100000 in
set_option maxHeartbeats 2000000 in
/-- zzUvarint at a varint -/
theorem dec_any (v : Value) (L : List Int) (A Z : List Int) (x : Nat) (w : World) (hx : x < 18446744073709551616) (hv : IsB w v L) (hL : L = A ++ (uv x ++ Z)) (hlim : L.length ≤ 140737488355328) :
    Calls Try.prog 8 #[v, .int .i64 A.length] w fun e w' => e = .returned (.tuple #[.int .u64 x, .int .i64 (uv x).length]) ∧ w' = w := by
  have hup := uv_pos x
  have hne : L ≠ [] := by
    intro h
    have := congrArg List.length h
    rw [hL] at this
    simp only [List.length_append, List.length_nil] at this
    omega
  obtain ⟨b, off, cap, rfl, _, hc⟩ := hv.at hne
  have hat0 : ∀ (j : Nat) (y : Int), (uv x)[j]? = some y → L[A.length + j]? = some y := by
    intro j y hy
    have hj : j < (uv x).length := (List.getElem?_eq_some_iff.1 hy).1
    rw [hL, List.getElem?_append_right (by omega), show A.length + j - A.length = j by omega, List.getElem?_append_left hj, hy]
  generalize A.length = pos at hat0 ⊢
  clear hL hne hv
  go_enter Try.func8, Try.ntmps8
  go_wp2
  go_loop [6, 7, 8] (fun vx vs vi => ∃ k : Nat, vi = .int .i64 k ∧ vs = .int .u64 ((7 * k : Nat) : Int) ∧ vx = .int .u64 ((x % 2 ^ (7 * k) : Nat) : Int) ∧ k ≤ 9 ∧ (uv x).length = k + (uv (x / 2 ^ (7 * k))).length ∧ (∀ (j : Nat) (y : Int), (uv (x / 2 ^ (7 * k)))[j]? = some y → L[pos + (k + j)]? = some y))
    (fun _ _ vi => 10 - (intOf vi).toNat)
  case atStart => exact ⟨0, rfl, rfl, by simp [Nat.mod_one], by omega, by simp, by simpa using hat0⟩
  case round =>
    obtain ⟨k, rfl, rfl, rfl, hk, hlen, hat⟩ := hrel
    obtain ⟨u, hu⟩ : ∃ u : Nat, u = x / 2 ^ (7 * k) := ⟨_, rfl⟩
    have HM : Hid (u = x / 2 ^ (7 * k)) := hu
    rw [← hu] at hlen hat
    have hu9 : k = 9 → u < 2 := by
      rintro rfl
      rw [hu]
      omega
    obtain ⟨m, hm⟩ : ∃ m : Nat, m = x % 2 ^ (7 * k) := ⟨_, rfl⟩
    have HMM : Hid (m = x % 2 ^ (7 * k)) := hm
    rw [← hm]
    clear hu hm hat0
    by_cases h128 : 128 ≤ u
    · have e := uv_big h128
      have hl := hat 0 _ (by rw [e]; rfl)
      have hlt : pos + (k + 0) < L.length := (List.getElem?_eq_some_iff.1 hl).1
      have hcell : w.cell? ⟨b, off + (pos + k), none⟩ = some (.int .u8 ((u % 128 + 128 : Nat) : Int)) := hc _ _ (by simpa using hl)
      have hk9 : k ≠ 9 := by intro h; have := hu9 h; omega
      have hat' : Hid (∀ (j : Nat) (y : Int), (uv (u / 128))[j]? = some y → L[pos + (k + 1 + j)]? = some y) := fun j y hy => by
        have := hat (j + 1) y (by rw [e]; simpa using hy)
        rwa [show k + (j + 1) = k + 1 + j by omega] at this
      have hlen' : Hid ((uv x).length = k + 1 + (uv (u / 128)).length) := by
        show _ = _
        rw [hlen, e, List.length_cons]; omega
      have HV : Hid (bits .or .u64 (m : Int) (IntKind.u64.wrap (IntKind.u64.wrap (bits .and .u8 ((u : Int) % 128 + 128) 127) * 2 ^ (7 * k))) = ((x % 2 ^ (7 * (k + 1)) : Nat) : Int)) := by
        show _ = _
        rw [u8_and127 _ (by omega) (by omega), show IntKind.u64.wrap (((u : Int) % 128 + 128) % 128) = ((u % 128 : Nat) : Int) by rw [IntWalk.u64_in _ ⟨by omega, by omega⟩]; omega]
        rw [HMM.out, or_digit x k (u % 128) hx (by rw [← HM.out]; omega), mod_step, ← HM.out]
      clear hat hlen hl hc
      go_wp2
      go_round
      case rel => exact ⟨k + 1, by go_num, by go_num, by rw [HV.out], by omega, by rw [div_step, ← HM.out]; exact hlen'.out, by rw [div_step, ← HM.out]; exact hat'.out⟩
      case measure => simp [intOf]; omega
    · have e : uv u = [(u : Int)] := uv_small (by omega)
      have hl := hat 0 u (by rw [e]; rfl)
      have hlt : pos + (k + 0) < L.length := (List.getElem?_eq_some_iff.1 hl).1
      have hcell : w.cell? ⟨b, off + (pos + k), none⟩ = some (.int .u8 (u : Int)) := hc _ _ (by simpa using hl)
      have hlen' : Hid ((uv x).length = k + 1) := by
        show _ = _
        rw [hlen, e]; rfl
      clear hat hlen hl hc
      by_cases h9 : k = 9
      · have hu2 := hu9 h9
        subst h9
        have HV : Hid (bits .or .u64 (m : Int) ((u : Int) * 9223372036854775808) = (x : Int)) := by
          show _ = _
          have h := or_digit x 9 u hx (by rw [← HM.out]; omega)
          rw [← HMM.out, show ((u : Int) * 2 ^ (7 * 9)) = (u : Int) * 9223372036854775808 by rfl, IntWalk.u64_in _ ⟨by omega, by omega⟩] at h
          rw [h, HMM.out, HM.out, Nat.mod_add_div]
        clear hu9
        go_wp2
        go_ret2
        refine ⟨?_, rfl⟩
        show Ending.returned (.tuple #[.int .u64 (bits .or .u64 (m : Int) ((u : Int) * 9223372036854775808)), .int .i64 10]) = _
        rw [HV.out, hlen'.out]
        rfl
      · have HV : Hid (bits .or .u64 (m : Int) (IntKind.u64.wrap ((u : Int) * 2 ^ (7 * k))) = (x : Int)) := by
          show _ = _
          rw [HMM.out, or_digit x k u hx (by rw [← HM.out]; omega), HM.out, Nat.mod_add_div]
        clear hu9
        go_wp2
        go_ret2
        refine ⟨?_, rfl⟩
        show Ending.returned (.tuple #[.int .u64 (bits .or .u64 (m : Int) (IntKind.u64.wrap ((u : Int) * 2 ^ (7 * k)))), .int .i64 ((k : Int) + 1)]) = _
        rw [HV.out, hlen'.out]
        rfl
end Go.Proofs.Qxb6628440a
