/- FnCheckInsertActiveFlipsOnlyThatID: the walk out of the contracts. -/
import Derived.Test.Qxb6628417aWalks
namespace Go.Proofs.Qxb6628417a
open Go.RowKit

theorem info24 : (Try.prog.info? 24).map (fun i => (i.zero, i.size, i.bytes)) = some (some (.int .u64 0), 1, 8) := by kernel_rfl

abbrev U (zs : List Int) : List Value := zs.map (Value.int .u64)

/-- the grown list, up to place m -/
def ins (zs : List Int) (k : Nat) (x : Int) (m : Nat) : List Int := zs.take k ++ x :: (zs.drop k).take (m - k)

theorem ins_start (zs : List Int) (k : Nat) (x : Int) : ins zs k x k = zs.take k ++ [x] := by simp [ins]
theorem ins_step {zs : List Int} {k m : Nat} {x z : Int} (hk : k ≤ m) (hz : zs[m]? = some z) : ins zs k x (m + 1) = ins zs k x m ++ [z] := by
  unfold ins
  rw [show m + 1 - k = (m - k) + 1 by omega, take_snoc (x := z) (by rw [List.getElem?_drop, show k + (m - k) = m by omega]; exact hz)]
  simp
theorem ins_end {zs : List Int} {k m : Nat} {x : Int} (hm : zs.length ≤ m) : ins zs k x m = zs.take k ++ x :: zs.drop k := by
  have e : (zs.drop k).take (m - k) = zs.drop k := List.take_of_length_le (by simp; omega)
  unfold ins; rw [e]

theorem has_ins (zs : List Int) (k : Nat) (x q : Int) : hasB (zs.take k ++ x :: zs.drop k) q = (x == q || hasB zs q) := by
  have : hasB zs q = (hasB (zs.take k) q || hasB (zs.drop k) q) := by
    unfold hasB
    rw [← List.any_append, List.take_append_drop]
  rw [this]
  unfold hasB
  rw [List.any_append, List.any_cons]
  cases (zs.take k).any (fun z => z == q) <;> cases (x == q) <;> simp

theorem asc_ins {zs : List Int} {k : Nat} {x : Int} (h : Asc zs) (hk : k ≤ zs.length) (hlo : ∀ (t : Nat) (z : Int), t < k → zs[t]? = some z → z < x) (hhi : ∀ z, zs[k]? = some z → x < z) : Asc (zs.take k ++ x :: zs.drop k) := by
  have hhi' : ∀ (t : Nat) (z : Int), k ≤ t → zs[t]? = some z → x < z := fun t z ht hz => by
    by_cases e : t = k
    · subst e; exact hhi z hz
    · have hlt := (List.getElem?_eq_some_iff.1 hz).1
      have he : zs[k]? = some zs[k] := List.getElem?_eq_getElem (by omega)
      have q1 := h k t _ z (by omega) hlt he hz
      have q2 := hhi _ he
      omega
  have get : ∀ (i : Nat) (a : Int), (zs.take k ++ x :: zs.drop k)[i]? = some a → (i < k ∧ zs[i]? = some a) ∨ (i = k ∧ a = x) ∨ (k < i ∧ zs[i - 1]? = some a) := fun i a hi => by
    have hl : (zs.take k).length = k := by simp; omega
    rw [List.getElem?_append, hl] at hi
    split at hi
    · rename_i hlt
      rw [List.getElem?_take, if_pos hlt] at hi
      exact .inl ⟨hlt, hi⟩
    · rename_i hge
      by_cases e : i = k
      · subst e
        simp at hi
        exact .inr (.inl ⟨rfl, hi.symm⟩)
      · rw [show i - k = (i - k - 1) + 1 by omega, List.getElem?_cons_succ, List.getElem?_drop, show k + (i - k - 1) = i - 1 by omega] at hi
        exact .inr (.inr ⟨by omega, hi⟩)
  intro i j a b hij _ ha hb
  rcases get i a ha with ⟨h1, h2⟩ | ⟨h1, rfl⟩ | ⟨h1, h2⟩
  · rcases get j b hb with ⟨h3, h4⟩ | ⟨h3, rfl⟩ | ⟨h3, h4⟩
    · exact h i j a b hij (by omega) h2 h4
    · exact hlo i a h1 h2
    · have q1 := hlo i a h1 h2
      have q2 := hhi' (j - 1) b (by omega) h4
      omega
  · rcases get j b hb with ⟨h3, h4⟩ | ⟨h3, _⟩ | ⟨h3, h4⟩
    · omega
    · omega
    · exact hhi' (j - 1) b (by omega) h4
  · rcases get j b hb with ⟨h3, h4⟩ | ⟨h3, _⟩ | ⟨h3, h4⟩
    · omega
    · omega
    · exact h (i - 1) (j - 1) a b (by omega) (List.getElem?_eq_some_iff.1 h4).1 h2 h4

theorem nums_of_row {w : World} {base g n cap : Nat} {zs : List Int} (h : w.ownsRow base 24 1 (.slice (some ⟨g, 0, none⟩) n cap) n (U zs)) : IsNums w (some ⟨g, 0, none⟩) n zs := by
  have hl : zs.length = n := by have := h.1; simpa using this
  refine ⟨hl, fun _ => ⟨g, 0, rfl, fun i z hz => ?_⟩⟩
  have := h.cells (g := g) rfl i (.int .u64 z) (by simp [hz])
  rwa [Addr.add_lit] at this

/-- the six cases -/
theorem six {zs gr : List Int} {mn mx cr x q : Int} (hg : ∀ q, hasB gr q = (x == q || hasB zs q)) (hx : hasB zs x = false) :
    (((q != cr) = false ∧ verdict zs mn mx cr q = 0 ∧ verdict gr mn mx cr q = 0) ∨
    ((q != cr) = true ∧ q < mn ∧ verdict zs mn mx cr q = 1 ∧ verdict gr mn mx cr q = 1) ∨
    ((q != cr) = true ∧ mn ≤ q ∧ mx ≤ q ∧ verdict zs mn mx cr q = 2 ∧ verdict gr mn mx cr q = 2)) ∨
    (((q != cr) = true ∧ mn ≤ q ∧ q < mx ∧ (q != x) = true ∧ verdict zs mn mx cr q = 3 ∧ verdict gr mn mx cr q = 3 ∧ winV zs q = 3 ∧ winV gr q = 3) ∨
    ((q != cr) = true ∧ mn ≤ q ∧ q < mx ∧ (q != x) = true ∧ verdict zs mn mx cr q = 4 ∧ verdict gr mn mx cr q = 4 ∧ winV zs q = 4 ∧ winV gr q = 4) ∨
    ((q != cr) = true ∧ mn ≤ q ∧ q < mx ∧ (q != x) = false ∧ verdict zs mn mx cr q = 4 ∧ verdict gr mn mx cr q = 3 ∧ winV zs q = 4 ∧ winV gr q = 3)) := by
  by_cases e1 : q = cr
  · exact .inl (.inl ⟨by simpa using e1, by rw [verdict, if_pos e1], by rw [verdict, if_pos e1]⟩)
  · have e1' : (q != cr) = true := by simpa using e1
    by_cases e2 : q < mn
    · exact .inl (.inr (.inl ⟨e1', e2, by rw [verdict, if_neg e1, if_pos e2], by rw [verdict, if_neg e1, if_pos e2]⟩))
    · by_cases e3 : mx ≤ q
      · exact .inl (.inr (.inr ⟨e1', by omega, e3, by rw [verdict, if_neg e1, if_neg e2, if_pos e3], by rw [verdict, if_neg e1, if_neg e2, if_pos e3]⟩))
      · have v : ∀ l, verdict l mn mx cr q = winV l q := fun l => by rw [verdict, if_neg e1, if_neg e2, if_neg e3, winV]
        by_cases e4 : q = x
        · have g1 : hasB gr q = true := by rw [hg, e4]; simp
          have g2 : hasB zs q = false := by rw [e4]; exact hx
          have w1 : winV zs q = 4 := by simp [winV, g2]
          have w2 : winV gr q = 3 := by simp [winV, g1]
          exact .inr (.inr (.inr ⟨e1', by omega, by omega, by simpa using e4, (v zs).trans w1, (v gr).trans w2, w1, w2⟩))
        · have e4' : (q != x) = true := by simpa using e4
          have e5 : (x == q) = false := by simp; exact fun h => e4 h.symm
          have g1 : hasB gr q = hasB zs q := by rw [hg, e5]; rfl
          cases g2 : hasB zs q
          · have w1 : winV zs q = 4 := by simp [winV, g2]
            have w2 : winV gr q = 4 := by simp [winV, g1, g2]
            exact .inr (.inr (.inl ⟨e1', by omega, by omega, e4', (v zs).trans w1, (v gr).trans w2, w1, w2⟩))
          · have w1 : winV zs q = 3 := by simp [winV, g2]
            have w2 : winV gr q = 3 := by simp [winV, g1, g2]
            exact .inr (.inl ⟨e1', by omega, by omega, e4', (v zs).trans w1, (v gr).trans w2, w1, w2⟩)

set_option maxRecDepth 10000 in
set_option maxHeartbeats 4000000 in
theorem law3_core (a0 : Option Addr) (l0 c0 : Nat) (zs : List Int) (mn mx cr x q : Int) (w : World) (h0 : IsNums w a0 l0 zs) (b0 : l0 ≤ 65536) :
    Calls Try.prog 3 #[.slice a0 l0 c0, .int .u64 mn, .int .u64 mx, .int .u64 cr, .int .u64 x, .int .u64 q] w fun e w' => e = .returned (.bool true) ∧ Below w.heap.size w w' := by
  obtain ⟨i0, hi, hz0, hz1, hz2⟩ := info_parts info24
  go_enter Try.func3, Try.ntmps3
  go_wp2_with fail
  refine (bytes5_any _ _ _ _ _ _ _ _ _ (by omega)).mono ?_
  rintro e w' ⟨⟨r, rfl⟩, hw⟩
  obtain rfl : w = w' := hw.symm
  cases r
  · go_wp2
    go_ret
    exact ⟨rfl, Below.refl _ _⟩
  go_wp2_with fail
  refine (asc_any _ _ _ zs _ h0 (by omega)).mono ?_
  rintro e w1 ⟨⟨r, rfl, hr⟩, hb1⟩
  cases r
  · go_wp2
    go_ret
    exact ⟨rfl, hb1⟩
  have hasc := hr rfl
  clear hr
  have k1 := h0.below hb1
  go_wp2_with fail
  refine (has_any _ _ _ zs _ _ k1 (by omega)).mono ?_
  rintro e w' ⟨rfl, hw⟩
  obtain rfl : w1 = w' := hw.symm
  by_cases hx : hasB zs x = true
  · go_wp2
    go_ret
    exact ⟨rfl, hb1⟩
  have hx' : hasB zs x = false := by simpa using hx
  clear hx
  go_wp2_with (first
    | (at_make; refine wpList_make_own _ rfl _ _ 22 rfl w1.heap.size 24 i0 (.int .u64 0) 1 Try.underlying22 hi hz0 hz1 _ _ _ (l0 + 1) rfl rfl (by omega) (by rw [hz2]; omega) (by unfold maxLen; omega) (by exact Nat.le_refl _) ?_))
  intro w2 ho2 hg2
  have hb2 : Below w1.heap.size w1 w2 := (Below.refl _ _).grown hg2 (Nat.le_refl _) (by simp)
  clear hg2
  go_wp2
  go_loopw [13, 14] (fun v i wr => ∃ k : Nat, k ≤ l0 ∧ i = .int .i64 k ∧ v = .slice (some ⟨w1.heap.size, 0, none⟩) k (l0 + 1) ∧ wr.ownsRow w1.heap.size 24 1 (.slice (some ⟨w1.heap.size, 0, none⟩) k (l0 + 1)) k (U (zs.take k)) ∧ Hid (∀ (t : Nat) (z : Int), t < k → zs[t]? = some z → z < x) ∧ Below w1.heap.size w1 wr) (fun _ i _ => l0 - (intOf i).toNat)
  case atStart => exact ⟨0, Nat.zero_le _, rfl, rfl, ho2, fun t z ht _ => by omega, hb2⟩
  case round =>
    obtain ⟨k, hk, rfl, rfl, hown, hlo, hb3⟩ := hrel
    clear hb2 ho2
    have hszr := hb3.size
    have hpart : (k < l0 ∧ ∃ b off z, a0 = some ⟨b, off, none⟩ ∧ wr.cell? ⟨b, off + k, none⟩ = some (.int .u64 z) ∧ z < x ∧ Hid (zs[k]? = some z)) ∨ (k < l0 ∧ ∃ b off z, a0 = some ⟨b, off, none⟩ ∧ wr.cell? ⟨b, off + k, none⟩ = some (.int .u64 z) ∧ x ≤ z ∧ Hid (zs[k]? = some z)) ∨ l0 ≤ k := by
      by_cases hlt : k < l0
      · obtain ⟨b, off, z, ha, _, hz, hc⟩ := (k1.below hb3).at hlt
        by_cases hzx : z < x
        · exact .inl ⟨hlt, b, off, z, ha, hc, hzx, hz⟩
        · exact .inr (.inl ⟨hlt, b, off, z, ha, hc, by omega, hz⟩)
      · exact .inr (.inr (by omega))
    rcases hpart with ⟨hlt, b, off, z, rfl, hc, hzx, HZ⟩ | hout
    · have N5 : Hid (∀ j u, [Value.int .u64 z][j]? = some u → (wr.alloc (.cells #[.int .u64 z] 24)).cell? ((⟨wr.heap.size, 0, none⟩ : Addr).add j) = some u) := cell_one_new wr (.int .u64 z) 24
      have HN : Hid (∀ (t : Nat) (y : Int), t < k + 1 → zs[t]? = some y → y < x) := fun t y ht hy => by
        by_cases e : t = k
        · subst e
          have := HZ.out
          rw [hy] at this
          cases this
          exact hzx
        · exact hlo.out t y (by omega) hy
      go_wp2_with (first
        | (at_builtin; refine wpList_append_fits _ rfl (.tmp 52) (.tmp 57) 22 rfl w1.heap.size 24 i0 1 Try.underlying22 hi hz1 w1.heap.size k (l0 + 1) _ rfl (hown.alloc _) ⟨wr.heap.size, 0, none⟩ 1 1 [.int .u64 z] rfl rfl N5.out (by simp [Value.oneCell']) (by omega) ?_))
      intro w4 ho4 hg4
      have hb4 : Below w1.heap.size w1 w4 := (hb3.alloc hszr _).grown hg4 (by simp; omega) (fun j hj => by cases hj; exact Nat.le_refl _)
      have HO : Hid (w4.ownsRow w1.heap.size 24 1 (.slice (some ⟨w1.heap.size, 0, none⟩) (k + 1) (l0 + 1)) (k + 1) (U (zs.take (k + 1)))) := by
        unfold Hid
        rw [take_snoc HZ.out]
        simpa [U] using ho4
      clear ho4 hg4 hown N5
      go_wp2
      go_roundw
      case rel => exact ⟨k + 1, by omega, by go_num, rfl, HO.out, HN, hb4⟩
      case measure => simp [intOf]; omega
    · obtain ⟨wo, rfl⟩ : ∃ wo : World, wo = wr := ⟨_, rfl⟩
      have HHI : Hid (∀ z, zs[k]? = some z → x < z) := fun z hz => by
        rcases hout with ⟨_, b, off, y, _, _, hxy, HY⟩ | h
        · have := HY.out
          rw [hz] at this
          cases this
          rcases Int.lt_or_eq_of_le hxy with h | h
          · exact h
          · subst h
            exact absurd (List.mem_of_getElem? hz) (hasB_false.1 hx')
        · have := (List.getElem?_eq_some_iff.1 hz).1
          have := h0.1
          omega
      have HASC : Hid (Asc (zs.take k ++ x :: zs.drop k)) := asc_ins hasc (by have := h0.1; omega) hlo.out HHI.out
      have H6 := six (zs := zs) (gr := zs.take k ++ x :: zs.drop k) (mn := mn) (mx := mx) (cr := cr) (x := x) (q := q) (has_ins zs k x) hx'
      have H6' : Hid _ := H6
      clear H6 HHI hlo hx'
      have N5 : Hid (∀ j u, [Value.int .u64 x][j]? = some u → (wo.alloc (.cells #[.int .u64 x] 24)).cell? ((⟨wo.heap.size, 0, none⟩ : Addr).add j) = some u) := cell_one_new wo (.int .u64 x) 24
      rcases hout with ⟨hlt, b, off, z, rfl, hc, hzx, HZ⟩ | hge
      · go_wp2_with (first
          | (at_builtin; refine wpList_append_fits _ rfl (.tmp 61) (.tmp 63) 22 rfl w1.heap.size 24 i0 1 Try.underlying22 hi hz1 w1.heap.size k (l0 + 1) _ rfl (hown.alloc _) ⟨wo.heap.size, 0, none⟩ 1 1 [.int .u64 x] rfl rfl N5.out (by simp [Value.oneCell']) (by omega) ?_))
        intro w5 ho5 hg5
        have hb5 : Below w1.heap.size w1 w5 := (hb3.alloc hszr _).grown hg5 (by simp; omega) (fun j hj => by cases hj; exact Nat.le_refl _)
        have HO : Hid (w5.ownsRow w1.heap.size 24 1 (.slice (some ⟨w1.heap.size, 0, none⟩) (k + 1) (l0 + 1)) (k + 1) (U (ins zs k x k))) := by
          unfold Hid
          rw [ins_start]
          simpa [U] using ho5
        clear ho5 hg5 hown N5 hb3
        go_wp2
        go_loopw [13, 14] (fun v i wr => ∃ m : Nat, k ≤ m ∧ m ≤ l0 ∧ i = .int .i64 m ∧ v = .slice (some ⟨w1.heap.size, 0, none⟩) (m + 1) (l0 + 1) ∧ wr.ownsRow w1.heap.size 24 1 (.slice (some ⟨w1.heap.size, 0, none⟩) (m + 1) (l0 + 1)) (m + 1) (U (ins zs k x m)) ∧ Below w1.heap.size w1 wr) (fun _ i _ => l0 - (intOf i).toNat)
        case atStart => exact ⟨k, Nat.le_refl _, hk, rfl, rfl, HO.out, hb5⟩
        case round =>
          obtain ⟨m, hkm, hml, rfl, rfl, hown, hb6⟩ := hrel
          have hszr6 := hb6.size
          clear HO hb5
          by_cases hm : m < l0
          · obtain ⟨b', off', y, ha', hle', hy, hcy⟩ := (k1.below hb6).at hm
            cases ha'
            have HY : Hid (zs[m]? = some y) := hy
            have N6 : Hid (∀ j u, [Value.int .u64 y][j]? = some u → (wr.alloc (.cells #[.int .u64 y] 24)).cell? ((⟨wr.heap.size, 0, none⟩ : Addr).add j) = some u) := cell_one_new wr (.int .u64 y) 24
            clear hy
            go_wp2_with (first
              | (at_builtin; refine wpList_append_fits _ rfl (.tmp 69) (.tmp 74) 22 rfl w1.heap.size 24 i0 1 Try.underlying22 hi hz1 w1.heap.size (m + 1) (l0 + 1) _ rfl (hown.alloc _) ⟨wr.heap.size, 0, none⟩ 1 1 [.int .u64 y] rfl rfl N6.out (by simp [Value.oneCell']) (by omega) ?_))
            intro w7 ho7 hg7
            have hb7 : Below w1.heap.size w1 w7 := (hb6.alloc hszr6 _).grown hg7 (by simp; omega) (fun j hj => by cases hj; exact Nat.le_refl _)
            have HO7 : Hid (w7.ownsRow w1.heap.size 24 1 (.slice (some ⟨w1.heap.size, 0, none⟩) (m + 1 + 1) (l0 + 1)) (m + 1 + 1) (U (ins zs k x (m + 1)))) := by
              unfold Hid
              rw [ins_step hkm HY.out]
              simpa [U] using ho7
            clear ho7 hg7 hown N6
            go_wp2
            go_roundw
            case rel => exact ⟨m + 1, by omega, by omega, by go_num, rfl, HO7.out, hb7⟩
            case measure => simp [intOf]; omega
          · obtain rfl : m = l0 := by omega
            have hg : IsNums wr (some ⟨w1.heap.size, 0, none⟩) (m + 1) (zs.take k ++ x :: zs.drop k) := by
              have := nums_of_row hown
              rwa [ins_end (by have := h0.1; omega)] at this
            obtain ⟨gr, HGR⟩ : ∃ gr, Hid (zs.take k ++ x :: zs.drop k = gr) := ⟨_, rfl⟩
            have h6 := H6'.out
            have hasc2 := HASC.out
            rw [HGR.out] at hg h6 hasc2
            clear H6' HASC hown HGR
            have hbW : Below wr.heap.size wr ((wr.alloc (.cells #[.slice (some ⟨b, off, none⟩) m c0, .int .u64 mn, .int .u64 mx, .int .u64 cr, .int .u64 0] 30)).alloc (.cells #[.slice (some ⟨w1.heap.size, 0, none⟩) (m + 1) (m + 1), .int .u64 mn, .int .u64 mx, .int .u64 cr, .int .u64 0] 30)) := ((Below.refl _ _).alloc (Nat.le_refl _) _).alloc (by simp) _
            have HKZ : Hid (IsNums ((wr.alloc (.cells #[.slice (some ⟨b, off, none⟩) m c0, .int .u64 mn, .int .u64 mx, .int .u64 cr, .int .u64 0] 30)).alloc (.cells #[.slice (some ⟨w1.heap.size, 0, none⟩) (m + 1) (m + 1), .int .u64 mn, .int .u64 mx, .int .u64 cr, .int .u64 0] 30)) (some ⟨b, off, none⟩) m zs) := (k1.below hb6).below hbW
            have HKG : Hid (IsNums ((wr.alloc (.cells #[.slice (some ⟨b, off, none⟩) m c0, .int .u64 mn, .int .u64 mx, .int .u64 cr, .int .u64 0] 30)).alloc (.cells #[.slice (some ⟨w1.heap.size, 0, none⟩) (m + 1) (m + 1), .int .u64 mn, .int .u64 mx, .int .u64 cr, .int .u64 0] 30)) (some ⟨w1.heap.size, 0, none⟩) (m + 1) gr) := hg.below hbW
            have HBW : Hid (Below w.heap.size w ((wr.alloc (.cells #[.slice (some ⟨b, off, none⟩) m c0, .int .u64 mn, .int .u64 mx, .int .u64 cr, .int .u64 0] 30)).alloc (.cells #[.slice (some ⟨w1.heap.size, 0, none⟩) (m + 1) (m + 1), .int .u64 mn, .int .u64 mx, .int .u64 cr, .int .u64 0] 30))) := hb1.trans ((hb6.mono hb1.size).trans (hbW.mono (Nat.le_trans hb1.size hszr6)))
            clear hbW hg
            rcases h6 with h6 | h6
            · rcases h6 with ⟨e1, v1, v2⟩ | ⟨e1, e2, v1, v2⟩ | ⟨e1, e2, e3, v1, v2⟩
              all_goals
                go_wp2_with fail
                refine (check_any wr.heap.size (some ⟨b, off, none⟩) m c0 zs mn mx cr q _ HKZ.out (by omega) hasc (by simp) (by simp) (by simp) (by simp)).mono ?_
                rintro e w8 ⟨rfl, hw⟩
                subst hw
                go_wp2_with fail
                refine (check_any (wr.heap.size + 1) (some ⟨w1.heap.size, 0, none⟩) (m + 1) (m + 1) gr mn mx cr q _ HKG.out (by omega) hasc2 (by simp) (by simp) (by simp) (by simp)).mono ?_
                rintro e w8 ⟨rfl, hw⟩
                subst hw
                go_wp2
                all_goals
                  go_ret
                  exact ⟨rfl, HBW.out⟩
            · rcases h6 with ⟨e1, e2, e3, e4, v1, v2, v3, v4⟩ | ⟨e1, e2, e3, e4, v1, v2, v3, v4⟩ | ⟨e1, e2, e3, e4, v1, v2, v3, v4⟩
              all_goals
                go_wp2_with fail
                refine (check_any wr.heap.size (some ⟨b, off, none⟩) m c0 zs mn mx cr q _ HKZ.out (by omega) hasc (by simp) (by simp) (by simp) (by simp)).mono ?_
                rintro e w8 ⟨rfl, hw⟩
                subst hw
                go_wp2_with fail
                refine (check_any (wr.heap.size + 1) (some ⟨w1.heap.size, 0, none⟩) (m + 1) (m + 1) gr mn mx cr q _ HKG.out (by omega) hasc2 (by simp) (by simp) (by simp) (by simp)).mono ?_
                rintro e w8 ⟨rfl, hw⟩
                subst hw
                go_wp2_with fail
                refine (win_any (some ⟨b, off, none⟩) m c0 zs q _ HKZ.out (by omega)).mono ?_
                rintro e w8 ⟨rfl, hw⟩
                subst hw
                go_wp2_with fail
                refine (win_any (some ⟨w1.heap.size, 0, none⟩) (m + 1) (m + 1) gr q _ HKG.out (by omega)).mono ?_
                rintro e w8 ⟨rfl, hw⟩
                subst hw
                go_wp2
                go_ret
                exact ⟨rfl, HBW.out⟩
      · go_wp2_with (first
          | (at_builtin; refine wpList_append_fits _ rfl (.tmp 61) (.tmp 63) 22 rfl w1.heap.size 24 i0 1 Try.underlying22 hi hz1 w1.heap.size k (l0 + 1) _ rfl (hown.alloc _) ⟨wo.heap.size, 0, none⟩ 1 1 [.int .u64 x] rfl rfl N5.out (by simp [Value.oneCell']) (by omega) ?_))
        intro w5 ho5 hg5
        have hb5 : Below w1.heap.size w1 w5 := (hb3.alloc hszr _).grown hg5 (by simp; omega) (fun j hj => by cases hj; exact Nat.le_refl _)
        have HO : Hid (w5.ownsRow w1.heap.size 24 1 (.slice (some ⟨w1.heap.size, 0, none⟩) (k + 1) (l0 + 1)) (k + 1) (U (ins zs k x k))) := by
          unfold Hid
          rw [ins_start]
          simpa [U] using ho5
        clear ho5 hg5 hown N5 hb3
        go_wp2
        go_loopw [13, 14] (fun v i wr => ∃ m : Nat, k ≤ m ∧ m ≤ l0 ∧ i = .int .i64 m ∧ v = .slice (some ⟨w1.heap.size, 0, none⟩) (m + 1) (l0 + 1) ∧ wr.ownsRow w1.heap.size 24 1 (.slice (some ⟨w1.heap.size, 0, none⟩) (m + 1) (l0 + 1)) (m + 1) (U (ins zs k x m)) ∧ Below w1.heap.size w1 wr) (fun _ i _ => l0 - (intOf i).toNat)
        case atStart => exact ⟨k, Nat.le_refl _, hk, rfl, rfl, HO.out, hb5⟩
        case round =>
          obtain ⟨m, hkm, hml, rfl, rfl, hown, hb6⟩ := hrel
          have hszr6 := hb6.size
          clear HO hb5
          by_cases hm : m < l0
          · exfalso; omega
          · obtain rfl : m = l0 := by omega
            have hg : IsNums wr (some ⟨w1.heap.size, 0, none⟩) (m + 1) (zs.take k ++ x :: zs.drop k) := by
              have := nums_of_row hown
              rwa [ins_end (by have := h0.1; omega)] at this
            obtain ⟨gr, HGR⟩ : ∃ gr, Hid (zs.take k ++ x :: zs.drop k = gr) := ⟨_, rfl⟩
            have h6 := H6'.out
            have hasc2 := HASC.out
            rw [HGR.out] at hg h6 hasc2
            clear H6' HASC hown HGR
            have hbW : Below wr.heap.size wr ((wr.alloc (.cells #[.slice a0 m c0, .int .u64 mn, .int .u64 mx, .int .u64 cr, .int .u64 0] 30)).alloc (.cells #[.slice (some ⟨w1.heap.size, 0, none⟩) (m + 1) (m + 1), .int .u64 mn, .int .u64 mx, .int .u64 cr, .int .u64 0] 30)) := ((Below.refl _ _).alloc (Nat.le_refl _) _).alloc (by simp) _
            have HKZ : Hid (IsNums ((wr.alloc (.cells #[.slice a0 m c0, .int .u64 mn, .int .u64 mx, .int .u64 cr, .int .u64 0] 30)).alloc (.cells #[.slice (some ⟨w1.heap.size, 0, none⟩) (m + 1) (m + 1), .int .u64 mn, .int .u64 mx, .int .u64 cr, .int .u64 0] 30)) a0 m zs) := (k1.below hb6).below hbW
            have HKG : Hid (IsNums ((wr.alloc (.cells #[.slice a0 m c0, .int .u64 mn, .int .u64 mx, .int .u64 cr, .int .u64 0] 30)).alloc (.cells #[.slice (some ⟨w1.heap.size, 0, none⟩) (m + 1) (m + 1), .int .u64 mn, .int .u64 mx, .int .u64 cr, .int .u64 0] 30)) (some ⟨w1.heap.size, 0, none⟩) (m + 1) gr) := hg.below hbW
            have HBW : Hid (Below w.heap.size w ((wr.alloc (.cells #[.slice a0 m c0, .int .u64 mn, .int .u64 mx, .int .u64 cr, .int .u64 0] 30)).alloc (.cells #[.slice (some ⟨w1.heap.size, 0, none⟩) (m + 1) (m + 1), .int .u64 mn, .int .u64 mx, .int .u64 cr, .int .u64 0] 30))) := hb1.trans ((hb6.mono hb1.size).trans (hbW.mono (Nat.le_trans hb1.size hszr6)))
            clear hbW hg
            rcases h6 with h6 | h6
            · rcases h6 with ⟨e1, v1, v2⟩ | ⟨e1, e2, v1, v2⟩ | ⟨e1, e2, e3, v1, v2⟩
              all_goals
                go_wp2_with fail
                refine (check_any wr.heap.size a0 m c0 zs mn mx cr q _ HKZ.out (by omega) hasc (by simp) (by simp) (by simp) (by simp)).mono ?_
                rintro e w8 ⟨rfl, hw⟩
                subst hw
                go_wp2_with fail
                refine (check_any (wr.heap.size + 1) (some ⟨w1.heap.size, 0, none⟩) (m + 1) (m + 1) gr mn mx cr q _ HKG.out (by omega) hasc2 (by simp) (by simp) (by simp) (by simp)).mono ?_
                rintro e w8 ⟨rfl, hw⟩
                subst hw
                go_wp2
                all_goals
                  go_ret
                  exact ⟨rfl, HBW.out⟩
            · rcases h6 with ⟨e1, e2, e3, e4, v1, v2, v3, v4⟩ | ⟨e1, e2, e3, e4, v1, v2, v3, v4⟩ | ⟨e1, e2, e3, e4, v1, v2, v3, v4⟩
              all_goals
                go_wp2_with fail
                refine (check_any wr.heap.size a0 m c0 zs mn mx cr q _ HKZ.out (by omega) hasc (by simp) (by simp) (by simp) (by simp)).mono ?_
                rintro e w8 ⟨rfl, hw⟩
                subst hw
                go_wp2_with fail
                refine (check_any (wr.heap.size + 1) (some ⟨w1.heap.size, 0, none⟩) (m + 1) (m + 1) gr mn mx cr q _ HKG.out (by omega) hasc2 (by simp) (by simp) (by simp) (by simp)).mono ?_
                rintro e w8 ⟨rfl, hw⟩
                subst hw
                go_wp2_with fail
                refine (win_any a0 m c0 zs q _ HKZ.out (by omega)).mono ?_
                rintro e w8 ⟨rfl, hw⟩
                subst hw
                go_wp2_with fail
                refine (win_any (some ⟨w1.heap.size, 0, none⟩) (m + 1) (m + 1) gr q _ HKG.out (by omega)).mono ?_
                rintro e w8 ⟨rfl, hw⟩
                subst hw
                go_wp2
                go_ret
                exact ⟨rfl, HBW.out⟩

end Go.Proofs.Qxb6628417a
