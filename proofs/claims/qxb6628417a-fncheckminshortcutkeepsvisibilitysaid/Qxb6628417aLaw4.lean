/- FnCheckMinShortcutKeepsVisibility: the walk out of the contracts. -/
import Derived.Test.Qxb6628417aWalks
namespace Go.Proofs.Qxb6628417a
open Go.RowKit

/-- a view's block -/
def viewB (a : Option Addr) (l c : Nat) (mn mx cr : Int) : Obj := .cells #[.slice a l c, .int .u64 mn, .int .u64 mx, .int .u64 cr, .int .u64 0] 30

theorem all_ge {zs : List Int} (h : Asc zs) {m : Int} (h0 : ∀ z, zs[0]? = some z → m ≤ z) {x : Int} (hx : x ∈ zs) : m ≤ x := by
  obtain ⟨t, ht⟩ := List.mem_iff_getElem?.1 hx
  have hlt := (List.getElem?_eq_some_iff.1 ht).1
  by_cases h' : t = 0
  · subst h'; exact h0 x ht
  · have he : zs[0]? = some zs[0] := List.getElem?_eq_getElem (by omega)
    have := h 0 t _ x (by omega) hlt he ht
    have := h0 _ he
    omega

set_option maxHeartbeats 1000000 in
theorem law4_core (a0 : Option Addr) (l0 c0 : Nat) (zs : List Int) (mn mx cr lo q : Int) (w : World) (h0 : IsNums w a0 l0 zs) (b0 : l0 ≤ 65536) (hmm : mn ≤ mx) (hlo : lo ≤ mn) (hz : ∀ z, zs[0]? = some z → mn ≤ z) :
    Calls Try.prog 4 #[.slice a0 l0 c0, .int .u64 mn, .int .u64 mx, .int .u64 cr, .int .u64 lo, .int .u64 q] w fun e w' => e = .returned (.bool true) ∧ Below w.heap.size w w' := by
  go_enter Try.func4, Try.ntmps4
  go_wp2_with fail
  refine (bytes10_any _ _ _ _ _ _ _ _ _ (by omega)).mono ?_
  rintro e w' ⟨⟨r, rfl⟩, hw⟩
  obtain rfl : w = w' := hw.symm
  cases r
  · go_wp2
    go_ret
    exact ⟨rfl, Below.refl _ _⟩
  go_wp2_with fail
  refine (asc_any _ _ _ zs _ h0 (by omega)).mono ?_
  rintro e w1 ⟨⟨r, rfl, hr⟩, hb1⟩
  cases r
  · go_wp2
    go_ret
    exact ⟨rfl, hb1⟩
  have hasc := hr rfl
  clear hr
  have k1 := h0.below hb1
  have HZ : Hid (∀ x ∈ zs, mn ≤ x) := fun x hx => all_ge hasc hz hx
  have hcases : ((q == cr) = true ∧ verdict zs mn mx cr q = 0 ∧ verdict zs lo mx cr q = 0) ∨
      ((q == cr) = false ∧ q < lo ∧ q < mx ∧ hasB zs q = false ∧ verdict zs mn mx cr q = 1 ∧ verdict zs lo mx cr q = 1) ∨
      ((q == cr) = false ∧ lo ≤ q ∧ q < mn ∧ q < mx ∧ hasB zs q = false ∧ verdict zs mn mx cr q = 1 ∧ verdict zs lo mx cr q = 4) ∨
      ((q == cr) = false ∧ mx ≤ q ∧ verdict zs mn mx cr q = 2 ∧ verdict zs lo mx cr q = 2) ∨
      ((q == cr) = false ∧ q < mx ∧ hasB zs q = true ∧ verdict zs mn mx cr q = 3 ∧ verdict zs lo mx cr q = 3) ∨
      ((q == cr) = false ∧ q < mx ∧ hasB zs q = false ∧ verdict zs mn mx cr q = 4 ∧ verdict zs lo mx cr q = 4) := by
    by_cases e1 : q = cr
    · exact .inl ⟨by simpa using e1, by simp [verdict, e1], by simp [verdict, e1]⟩
    · have e1' : (q == cr) = false := by simpa using e1
      by_cases e2 : q < lo
      · refine .inr (.inl ⟨e1', e2, by omega, hasB_false.2 fun hm => ?_, ?_, ?_⟩)
        · have := HZ.out q hm; omega
        · rw [verdict, if_neg e1, if_pos (by omega)]
        · rw [verdict, if_neg e1, if_pos e2]
      · by_cases e3 : q < mn
        · have hf : hasB zs q = false := hasB_false.2 fun hm => by have := HZ.out q hm; omega
          refine .inr (.inr (.inl ⟨e1', by omega, e3, by omega, hf, ?_, ?_⟩))
          · rw [verdict, if_neg e1, if_pos e3]
          · rw [verdict, if_neg e1, if_neg e2, if_neg (by omega), hf]; rfl
        · by_cases e4 : mx ≤ q
          · exact .inr (.inr (.inr (.inl ⟨e1', e4, by rw [verdict, if_neg e1, if_neg e3, if_pos e4], by rw [verdict, if_neg e1, if_neg e2, if_pos e4]⟩)))
          · cases hf : hasB zs q
            · exact .inr (.inr (.inr (.inr (.inr ⟨e1', by omega, rfl, by rw [verdict, if_neg e1, if_neg e3, if_neg e4, hf]; rfl, by rw [verdict, if_neg e1, if_neg e2, if_neg e4, hf]; rfl⟩))))
            · exact .inr (.inr (.inr (.inr (.inl ⟨e1', by omega, rfl, by rw [verdict, if_neg e1, if_neg e3, if_neg e4, hf]; rfl, by rw [verdict, if_neg e1, if_neg e2, if_neg e4, hf]; rfl⟩))))
  have hb3 : Below w1.heap.size w1 ((w1.alloc (.cells #[.slice a0 l0 c0, .int .u64 mn, .int .u64 mx, .int .u64 cr, .int .u64 0] 30)).alloc (.cells #[.slice a0 l0 c0, .int .u64 lo, .int .u64 mx, .int .u64 cr, .int .u64 0] 30)) :=
    ((Below.refl _ _).alloc (Nat.le_refl _) _).alloc (by simp) _
  have k3 := k1.below hb3
  have hb03 := hb1.trans (hb3.mono hb1.size)
  have HK : Hid (IsNums ((w1.alloc (.cells #[.slice a0 l0 c0, .int .u64 mn, .int .u64 mx, .int .u64 cr, .int .u64 0] 30)).alloc (.cells #[.slice a0 l0 c0, .int .u64 lo, .int .u64 mx, .int .u64 cr, .int .u64 0] 30)) a0 l0 zs) := k3
  have HB : Hid (Below w.heap.size w ((w1.alloc (.cells #[.slice a0 l0 c0, .int .u64 mn, .int .u64 mx, .int .u64 cr, .int .u64 0] 30)).alloc (.cells #[.slice a0 l0 c0, .int .u64 lo, .int .u64 mx, .int .u64 cr, .int .u64 0] 30))) := hb03
  clear k3 hb3 hb03
  have hz0 : 0 < l0 → ∃ b off z, a0 = some ⟨b, off, none⟩ ∧ w1.cell? ⟨b, off, none⟩ = some (.int .u64 z) ∧ mn ≤ z := fun hp => by
    obtain ⟨b, off, z, ha, _, hze, hc⟩ := k1.at hp
    exact ⟨b, off, z, ha, hc, hz z hze⟩
  clear hz
  by_cases hl : l0 = 0
  · subst hl
    clear hz0
    rcases hcases with ⟨e1, v1, v2⟩ | ⟨e1, e2, e3, e4, v1, v2⟩ | ⟨e1, e2, e3, e4, e5, v1, v2⟩ | ⟨e1, e2, v1, v2⟩ | ⟨e1, e2, e3, v1, v2⟩ | ⟨e1, e2, e3, v1, v2⟩
    all_goals
      go_wp2_with fail
      refine (check_any w1.heap.size a0 _ c0 zs mn mx cr q _ HK.out (by omega) hasc (by simp) (by simp) (by simp) (by simp)).mono ?_
      rintro e w4 ⟨rfl, hw⟩
      subst hw
      go_wp2_with fail
      refine (check_any (w1.heap.size + 1) a0 _ c0 zs lo mx cr q _ HK.out (by omega) hasc (by simp) (by simp) (by simp) (by simp)).mono ?_
      rintro e w4 ⟨rfl, hw⟩
      subst hw
      go_wp2_with (first | (go_at_call 7; refine (has_any _ _ _ zs _ _ HK.out (by omega)).mono ?_; rintro e w' ⟨rfl, rfl⟩) | (go_at_call 11; refine (vis_any _ _).mono ?_; rintro e w' ⟨rfl, rfl⟩))
      go_ret
      exact ⟨rfl, HB.out⟩
  · obtain ⟨b, off, z, rfl, hc, hmz⟩ := hz0 (by omega)
    rcases hcases with ⟨e1, v1, v2⟩ | ⟨e1, e2, e3, e4, v1, v2⟩ | ⟨e1, e2, e3, e4, e5, v1, v2⟩ | ⟨e1, e2, v1, v2⟩ | ⟨e1, e2, e3, v1, v2⟩ | ⟨e1, e2, e3, v1, v2⟩
    all_goals
      go_wp2_with fail
      refine (check_any w1.heap.size _ _ c0 zs mn mx cr q _ HK.out (by omega) hasc (by simp) (by simp) (by simp) (by simp)).mono ?_
      rintro e w4 ⟨rfl, hw⟩
      subst hw
      go_wp2_with fail
      refine (check_any (w1.heap.size + 1) _ _ c0 zs lo mx cr q _ HK.out (by omega) hasc (by simp) (by simp) (by simp) (by simp)).mono ?_
      rintro e w4 ⟨rfl, hw⟩
      subst hw
      go_wp2_with (first | (go_at_call 7; refine (has_any _ _ _ zs _ _ HK.out (by omega)).mono ?_; rintro e w' ⟨rfl, rfl⟩) | (go_at_call 11; refine (vis_any _ _).mono ?_; rintro e w' ⟨rfl, rfl⟩))
      go_ret
      exact ⟨rfl, HB.out⟩

end Go.Proofs.Qxb6628417a
