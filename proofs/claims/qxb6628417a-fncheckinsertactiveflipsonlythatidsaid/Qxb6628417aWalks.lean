/- zzB1engAscending, slices.BinarySearch, Check, zzB1engWindowVerdict, zzB1engVisible. -/
import Derived.Test.Qxb6628417aLeaf
namespace Go.Proofs.Qxb6628417a
open Go.RowKit

/-- the call ended with a bool that is true only if P -/
def BoolOnlyIf (p : Prop) (e : Ending) : Prop := ∃ r, e = .returned (.bool r) ∧ (r = true → p)

set_option maxHeartbeats 400000 in
theorem asc_any (a0 : Option Addr) (l0 c0 : Nat) (zs : List Int) (w : World) (h0 : IsNums w a0 l0 zs) (hl0 : l0 ≤ 1048576) :
    Calls Try.prog 6 #[.slice a0 l0 c0] w fun e w' => BoolOnlyIf (Asc zs) e ∧ Below w.heap.size w w' := by
  go_enter Try.func6, Try.ntmps6
  go_wp2
  go_loopw [3] (fun i wr => ∃ k : Nat, k ≤ l0 + 1 ∧ i = .int .i64 ((k : Int) + 1) ∧ AscTo zs (k + 1) ∧ Below w.heap.size w wr) (fun i _ => l0 + 1 - (intOf i).toNat)
  case atStart => exact ⟨0, Nat.zero_le _, rfl, AscTo.one zs, Below.refl _ _⟩
  case round =>
    obtain ⟨k, hk, rfl, ha, hb⟩ := hrel
    by_cases hlt : k + 1 < l0
    · have k0 := h0.below hb
      obtain ⟨b, off, z, rfl, hle, hz, hc⟩ := k0.at (show k < l0 by omega)
      obtain ⟨b', off', y, hq, hle', hy, hc'⟩ := k0.at hlt
      simp only [Option.some.injEq, Addr.mk.injEq, and_true] at hq
      obtain ⟨rfl, rfl⟩ := hq
      have HZ : Hid (zs[k]? = some z) := hz
      have HY : Hid (zs[k + 1]? = some y) := hy
      clear hz hy
      by_cases hzy : y ≤ z
      · go_wp2
        go_region
        go_wp2
        go_ret
        exact ⟨⟨_, rfl, fun h => by cases h⟩, hb.drew⟩
      · have ha2 : AscTo zs (k + 2) := ha.step HZ.out HY.out (by omega)
        go_wp2
        go_region
        go_wp2
        go_roundw
        case rel => exact ⟨k + 1, by omega, by go_num, ha2, hb.drew⟩
        case measure => simp [intOf]; omega
    · have HA : Hid (Asc zs) := fun i j a b hij hj hx hy => ha i j a b hij (by have := h0.1; omega) hx hy
      go_wp2
      go_ret
      exact ⟨⟨_, rfl, fun _ => HA.out⟩, hb⟩

set_option maxHeartbeats 400000 in
theorem bs_any (a0 : Option Addr) (l0 c0 : Nat) (zs : List Int) (x : Int) (w : World) (h0 : IsNums w a0 l0 zs) (hl0 : l0 ≤ 1048576) (hasc : Asc zs) :
    Calls Try.prog 12 #[.slice a0 l0 c0, .int .u64 x] w fun e w' => (∃ i, e = .returned (.tuple #[i, .bool (hasB zs x)])) ∧ w' = w := by
  go_enter Try.func12, Try.ntmps12
  go_wp2
  go_loop [7, 8] (fun i j => ∃ lo hi : Nat, lo ≤ hi ∧ hi ≤ l0 ∧ i = .int .i64 lo ∧ j = .int .i64 hi ∧ Hid ((∀ (t : Nat) (z : Int), t < lo → zs[t]? = some z → z < x) ∧ (∀ (t : Nat) (z : Int), hi ≤ t → zs[t]? = some z → x ≤ z))) (fun i j => (intOf j - intOf i).toNat)
  case atStart => exact ⟨0, l0, Nat.zero_le _, Nat.le_refl _, rfl, rfl, fun t z ht _ => by omega, fun t z ht hz => by have := (List.getElem?_eq_some_iff.1 hz).1; have := h0.1; omega⟩
  case round =>
    obtain ⟨lo, hi, h1, h2, rfl, rfl, hH⟩ := hrel
    by_cases hlt : lo < hi
    · obtain ⟨b, off, z, rfl, hle, hz, hc⟩ := h0.at (show (lo + hi) / 2 < l0 by omega)
      have HZ : Hid (zs[(lo + hi) / 2]? = some z) := hz
      clear hz
      by_cases hzx : z < x
      · have HN : Hid ((∀ (t : Nat) (y : Int), t < (lo + hi) / 2 + 1 → zs[t]? = some y → y < x) ∧ (∀ (t : Nat) (y : Int), hi ≤ t → zs[t]? = some y → x ≤ y)) := by
          refine ⟨fun t y ht hy => ?_, hH.out.2⟩
          by_cases hq : t = (lo + hi) / 2
          · subst hq
            have := HZ.out
            rw [hy] at this
            cases this
            exact hzx
          · have := hasc t ((lo + hi) / 2) y z (by omega) (by have := h0.1; omega) hy HZ.out
            omega
        go_wp2_with (go_at_call 13; refine (less_any _ _ _).mono ?_; rintro e w' ⟨rfl, rfl⟩)
        go_round
        case rel => exact ⟨(lo + hi) / 2 + 1, hi, by omega, h2, by go_num, rfl, HN⟩
        case measure => simp [intOf]; omega
      · have HN : Hid ((∀ (t : Nat) (y : Int), t < lo → zs[t]? = some y → y < x) ∧ (∀ (t : Nat) (y : Int), (lo + hi) / 2 ≤ t → zs[t]? = some y → x ≤ y)) := by
          refine ⟨hH.out.1, fun t y ht hy => ?_⟩
          by_cases hq : t = (lo + hi) / 2
          · subst hq
            have := HZ.out
            rw [hy] at this
            cases this
            omega
          · have := hasc ((lo + hi) / 2) t z y (by omega) (List.getElem?_eq_some_iff.1 hy).1 HZ.out hy
            omega
        go_wp2_with (go_at_call 13; refine (less_any _ _ _).mono ?_; rintro e w' ⟨rfl, rfl⟩)
        go_round
        case rel => exact ⟨lo, (lo + hi) / 2, by omega, by omega, rfl, by go_num, HN⟩
        case measure => simp [intOf]; omega
    · obtain rfl : lo = hi := by omega
      by_cases hl : lo < l0
      · obtain ⟨b, off, z, rfl, hle, hz, hc⟩ := h0.at hl
        have HZ : Hid (zs[lo]? = some z) := hz
        clear hz
        by_cases hzx : z = x
        · subst hzx
          have HB : Hid (hasB zs z = true) := hasB_iff.2 (List.mem_of_getElem? HZ.out)
          go_wp2
          go_ret2
          exact ⟨⟨_, by rw [HB.out]; rfl⟩, rfl⟩
        · have hzx' : (z == x) = false := by simpa using hzx
          have HB : Hid (hasB zs x = false) := by
            refine hasB_false.2 fun hm => ?_
            obtain ⟨t, ht⟩ := List.mem_iff_getElem?.1 hm
            rcases Nat.lt_trichotomy t lo with h | h | h
            · have := hH.out.1 t x h ht
              omega
            · subst h
              have := HZ.out
              rw [ht] at this
              cases this
              exact hzx rfl
            · have q1 := hasc lo t z x h (List.getElem?_eq_some_iff.1 ht).1 HZ.out ht
              have q2 := hH.out.2 lo z (Nat.le_refl _) HZ.out
              omega
          go_wp2
          go_ret2
          exact ⟨⟨_, by rw [HB.out]; rfl⟩, rfl⟩
      · have HB : Hid (hasB zs x = false) := by
          refine hasB_false.2 fun hm => ?_
          obtain ⟨t, ht⟩ := List.mem_iff_getElem?.1 hm
          have := hH.out.1 t x (by have := (List.getElem?_eq_some_iff.1 ht).1; have := h0.1; omega) ht
          omega
        go_wp2
        go_ret2
        exact ⟨⟨_, by rw [HB.out]; rfl⟩, rfl⟩

/-- Check's verdict -/
def verdict (zs : List Int) (mn mx cr q : Int) : Int := if q = cr then 0 else if q < mn then 1 else if mx ≤ q then 2 else if hasB zs q then 3 else 4
def winV (zs : List Int) (q : Int) : Int := if hasB zs q then 3 else 4
def visB (r : Int) : Bool := r == 0 || r == 1 || r == 4 || r == 5

set_option maxHeartbeats 400000 in
theorem win_any (a0 : Option Addr) (l0 c0 : Nat) (zs : List Int) (q : Int) (w : World) (h0 : IsNums w a0 l0 zs) (hl0 : l0 ≤ 1048576) :
    Calls Try.prog 9 #[.slice a0 l0 c0, .int .u64 q] w fun e w' => e = .returned (.int .i64 (winV zs q)) ∧ w' = w := by
  by_cases hh : hasB zs q = true
  · have HV : Hid (winV zs q = 3) := by simp [Hid, winV, hh]
    go_enter Try.func9, Try.ntmps9
    go_wp2_with (go_at_call 7; refine (has_any _ _ _ zs _ _ h0 (by omega)).mono ?_; rintro e w' ⟨rfl, rfl⟩)
    go_ret
    exact ⟨by rw [HV.out]; rfl, rfl⟩
  · have hh' : hasB zs q = false := by simpa using hh
    have HV : Hid (winV zs q = 4) := by simp [Hid, winV, hh']
    go_enter Try.func9, Try.ntmps9
    go_wp2_with (go_at_call 7; refine (has_any _ _ _ zs _ _ h0 (by omega)).mono ?_; rintro e w' ⟨rfl, rfl⟩)
    go_ret
    exact ⟨by rw [HV.out]; rfl, rfl⟩

set_option maxHeartbeats 400000 in
theorem vis_any (r : Int) (w : World) : Calls Try.prog 11 #[.int .i64 r] w fun e w' => e = .returned (.bool (visB r)) ∧ w' = w := by
  go_enter Try.func11, Try.ntmps11
  go_wp2
  all_goals
    go_ret
    exact ⟨by simp [visB, *], rfl⟩

set_option maxHeartbeats 400000 in
theorem check_any (vb : Nat) (a0 : Option Addr) (l0 c0 : Nat) (zs : List Int) (mn mx cr q : Int) (w : World) (h0 : IsNums w a0 l0 zs) (hl0 : l0 ≤ 1048576) (hasc : Asc zs)
    (d0 : w.cell? ⟨vb, 0, none⟩ = some (.slice a0 l0 c0)) (d1 : w.cell? ⟨vb, 1, none⟩ = some (.int .u64 mn)) (d2 : w.cell? ⟨vb, 2, none⟩ = some (.int .u64 mx)) (d3 : w.cell? ⟨vb, 3, none⟩ = some (.int .u64 cr)) :
    Calls Try.prog 8 #[.pointer (some ⟨vb, 0, none⟩), .int .u64 q] w fun e w' => e = .returned (.int .i64 (verdict zs mn mx cr q)) ∧ w' = w := by
  by_cases h1 : q = cr
  · subst h1
    have HV : Hid (verdict zs mn mx q q = 0) := by simp [Hid, verdict]
    go_enter Try.func8, Try.ntmps8
    go_wp2
    go_ret
    exact ⟨by rw [HV.out]; rfl, rfl⟩
  · have h1' : (q == cr) = false := by simpa using h1
    by_cases h2 : q < mn
    · have HV : Hid (verdict zs mn mx cr q = 1) := by simp [Hid, verdict, h1, h2]
      go_enter Try.func8, Try.ntmps8
      go_wp2
      go_ret
      exact ⟨by rw [HV.out]; rfl, rfl⟩
    · by_cases h3 : mx ≤ q
      · have HV : Hid (verdict zs mn mx cr q = 2) := by simp [Hid, verdict, h1, h2, h3]
        go_enter Try.func8, Try.ntmps8
        go_wp2
        go_ret
        exact ⟨by rw [HV.out]; rfl, rfl⟩
      · by_cases h4 : hasB zs q = true
        · have HV : Hid (verdict zs mn mx cr q = 3) := by simp [Hid, verdict, h1, h2, h3, h4]
          go_enter Try.func8, Try.ntmps8
          go_wp2_with (go_at_call 12; refine (bs_any _ _ _ zs _ _ h0 hl0 hasc).mono ?_; rintro e w' ⟨⟨i, rfl⟩, rfl⟩)
          go_ret
          exact ⟨by rw [HV.out]; rfl, rfl⟩
        · have h4' : hasB zs q = false := by simpa using h4
          have HV : Hid (verdict zs mn mx cr q = 4) := by simp [Hid, verdict, h1, h2, h3, h4']
          go_enter Try.func8, Try.ntmps8
          go_wp2_with (go_at_call 12; refine (bs_any _ _ _ zs _ _ h0 hl0 hasc).mono ?_; rintro e w' ⟨⟨i, rfl⟩, rfl⟩)
          go_ret
          exact ⟨by rw [HV.out]; rfl, rfl⟩

end Go.Proofs.Qxb6628417a
