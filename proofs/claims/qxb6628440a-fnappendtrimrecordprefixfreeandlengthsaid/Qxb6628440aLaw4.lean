/- FnAppendTrimRecordPrefixFreeAndLength: the walk. -/
import Derived.Test.Qxb6628440aFacts
import Derived.Deep.DeepCutAuto
namespace Go.Proofs.Qxb6628440a
open Go.RowKit Go.WideShapes

/-- the record's length -/
theorem recs_sum (T V C J TT : Nat) (K : List Int) (RW : Nat) : (recs [T, V, C, J, 0, TT] K RW).length =
    (uv T).length + (uv V).length + (uv C).length + (uv J).length + 1 + (uv TT).length + (uv K.length).length + K.length + (if 0 < RW then (uv RW).length else 0) := by
  have h0 : (uv 0).length = 1 := by rw [uv_small (by omega)]; rfl
  rw [recs]
  by_cases h : 0 < RW
  · rw [if_pos h, if_pos h]
    simp only [List.flatMap_cons, List.flatMap_nil, List.append_nil, List.length_append]
    omega
  · rw [if_neg h, if_neg h]
    simp only [List.flatMap_cons, List.flatMap_nil, List.append_nil, List.length_append]
    omega

set_option maxRecDepth 100000 in
set_option maxHeartbeats 2000000 in
/-- too long: true at once -/
theorem early4 (a0 a6 : Option Addr) (n0 cap0 n6 cap6 : Nat) (T V C I TT RW : Nat) (w : World) (hbig : 1048576 < n0 + n6) :
    Calls Try.prog 4 #[.slice a0 n0 cap0, .int .u64 T, .int .u64 V, .int .u64 C, .int .u64 I, .int .u64 TT, .slice a6 n6 cap6, .int .u64 RW] w fun e w' => e = .returned (.bool true) ∧ Below w.heap.size w w' := by
  by_cases h1 : 1048576 < n0
  · go_enter Try.func4, Try.ntmps4
    go_wp2_with fail
    refine (bytes_any 9 (.inr rfl) a0 a6 n0 cap0 n6 cap6 T V C I TT RW w).mono ?_
    rintro e w1 ⟨⟨b, rfl⟩, hw⟩
    obtain rfl : w = w1 := hw.symm
    cases b <;> (go_wp2; go_ret; exact ⟨rfl, Below.refl _ _⟩)
  · by_cases h2 : 1048576 < n6
    · go_enter Try.func4, Try.ntmps4
      go_wp2_with fail
      refine (bytes_any 9 (.inr rfl) a0 a6 n0 cap0 n6 cap6 T V C I TT RW w).mono ?_
      rintro e w1 ⟨⟨b, rfl⟩, hw⟩
      obtain rfl : w = w1 := hw.symm
      cases b <;> (go_wp2; go_ret; exact ⟨rfl, Below.refl _ _⟩)
    · go_enter Try.func4, Try.ntmps4
      go_wp2_with fail
      refine (bytes_any 9 (.inr rfl) a0 a6 n0 cap0 n6 cap6 T V C I TT RW w).mono ?_
      rintro e w1 ⟨⟨b, rfl⟩, hw⟩
      obtain rfl : w = w1 := hw.symm
      cases b <;> (go_wp2; go_ret; exact ⟨rfl, Below.refl _ _⟩)

set_option maxRecDepth 100000 in
set_option maxHeartbeats 16000000 in
theorem law4 (a0 a6 : Option Addr) (cap0 cap6 : Nat) (L K : List Int) (T V C I TT RW : Nat) (w : World) (hb : IsB w (.slice a0 L.length cap0) L) (hk : IsB w (.slice a6 K.length cap6) K)
    (hT : T < 18446744073709551616) (hV : V < 18446744073709551616) (hC : C < 18446744073709551616) (hTT : TT < 18446744073709551616) (hRW : RW < 18446744073709551616) (hlim : L.length + K.length ≤ 1048576) :
    Calls Try.prog 4 #[.slice a0 L.length cap0, .int .u64 T, .int .u64 V, .int .u64 C, .int .u64 I, .int .u64 TT, .slice a6 K.length cap6, .int .u64 RW] w fun e w' => e = .returned (.bool true) ∧ Below w.heap.size w w' := by
  obtain ⟨i0, hi, hz0, hz1, hz2⟩ := info_parts info5
  obtain ⟨J, hJ⟩ : ∃ J : Nat, J = (I + 1) % 18446744073709551616 := ⟨_, rfl⟩
  have hJw : ((I : Int) + 1) % 18446744073709551616 = (J : Int) := by omega
  have hJv : IntKind.u64.wrap ((I : Int) + 1) = (J : Int) := by
    rw [hJ]; simp [IntKind.wrap, IntKind.bits, IntKind.signed]
  have hJlt : J < 18446744073709551616 := by omega
  have TR := fun (sv kv : Value) (w : World) (h1 : Own w sv L) (h2 : IsB w kv K) h3 => trim_any sv kv L K T V C I TT RW w h1 h2 h3 hT hV hC hTT hRW (by omega)
  rw [← hJ] at TR
  have TN := fun (kv : Value) (w : World) (h2 : IsB w kv K) => trim_any (.slice none 0 0) kv [] K T V C I TT RW w (Own.nil w) h2 (fun k h => by cases h) hT hV hC hTT hRW (by simp only [List.length_nil]; omega)
  rw [← hJ] at TN
  clear hJ
  obtain ⟨vals, hvals⟩ : ∃ vals : List Nat, vals = [T, V, C, J, 0, TT] := ⟨_, rfl⟩
  have hvl : vals.length = 6 := by rw [hvals]; rfl
  have hvlt : ∀ v ∈ vals, v < 18446744073709551616 := by
    intro v hv
    rw [hvals] at hv
    simp only [List.mem_cons, List.not_mem_nil, or_false] at hv
    omega
  rw [← hvals] at TR TN
  have HVALS : Hid (vals = [T, V, C, J, 0, TT]) := hvals
  clear hvals
  have HB : Hid (IsB w (.slice a0 L.length cap0) L) := hb
  have HK : Hid (IsB w (.slice a6 K.length cap6) K) := hk
  clear hb hk
  go_enter Try.func4, Try.ntmps4
  go_wp2_with fail
  refine (bytes_any 9 (.inr rfl) a0 a6 L.length cap0 K.length cap6 T V C I TT RW w).mono ?_
  rintro e w1 ⟨⟨b, rfl⟩, hw⟩
  obtain rfl : w = w1 := hw.symm
  clear hw
  cases b
  · go_wp2
    go_ret
    exact ⟨rfl, Below.refl _ _⟩
  go_upto_if 51 with fail
  go_cut [6, 17] (fun s6 _ wx => Own wx s6 K ∧ Grew w wx none s6.ownBlock)
  case first =>
    rcases HK.out with ⟨h, hKn⟩ | ⟨ad, cap, h, hc⟩
    · subst hKn
      cases h
      go_wp2_with fail
      go_meet
      exact ⟨Own.nil _, Grew.refl _ _⟩
    · cases h
      clear HK
      go_wp2_with (at_make; refine wpList_make_full _ rfl _ _ 22 rfl 0 5 i0 (.int .u8 0) 1 Try.underlying22 hi hz0 hz1 _ _ _ _ K.length rfl rfl (by omega) (by omega) ?b2 ?b3 ?b4 ?_)
      case b2 => rw [hz2]; omega
      case b3 => unfold maxLen; omega
      case b4 => omega
      intro w1 hown1 hg1
      obtain ⟨w2, hrun, ho, hg⟩ := clone_run (cap := cap6) (by omega) hc hown1 hg1
      have ho : Hid (Own w2 (.slice (some ⟨w.heap.size, 0, none⟩) K.length K.length) K) := ho
      have hg : Hid (Grew w w2 none (some w.heap.size)) := hg
      clear hown1 hg1 hc
      go_wp2_with fail
      go_meet
      exact ⟨ho.out, hg.out⟩
  case rest =>
  obtain ⟨hoK, hgK⟩ := hcut
  obtain ⟨a6', c6', rfl⟩ := hoK.view.len
  have hbK : Below w.heap.size w wc := hgK.below (Nat.le_refl _) (fun k h => by cases h)
  have HKO : Hid (Own wc (.slice a6' K.length c6') K) := hoK
  have HBW : Hid (IsB wc (.slice a0 L.length cap0) L) := HB.out.below hbK
  have HBK : Hid (Below w.heap.size w wc) := hbK
  clear HB HK hoK hgK hbK
  go_wp2_with fail
  refine (clone_any (.slice a0 L.length cap0) L wc HBW.out (by omega)).mono ?_
  rintro e W2 ⟨bc, rfl, hoB, hgB⟩
  have HB2 : Hid (Below wc.heap.size wc W2) := hgB.below (Nat.le_refl _) (fun k h => by cases h)
  have HKO2 : Hid (Own W2 (.slice a6' K.length c6') K) := HKO.out.keep hgB (fun k h => by cases h)
  have HNE : Hid (∀ k, bc.ownBlock = some k → (Value.slice a6' K.length c6').ownBlock = some k → K = []) := by
    intro k h1 h2
    have h3 := HKO.out.lt k h2
    rcases hgB.2 with h | h
    · rw [h] at h1; cases h1
    · have := h k h1; omega
  have HBC : Hid (∀ k, bc.ownBlock = some k → wc.heap.size ≤ k) := by
    intro k h1
    rcases hgB.2 with h | h
    · rw [h] at h1; cases h1
    · exact h k h1
  have HOB : Hid (Own W2 bc L) := hoB
  have HBCL : Hid (∀ k, bc.ownBlock = some k → k < W2.heap.size) := hoB.lt
  clear hgB hoB HKO
  go_wp2_with fail
  refine (TN (.slice a6' K.length c6') _ ((HKO2.out.alloc _).alloc _).view).mono ?_
  rintro e W3 ⟨rv, rfl, hoR, hgR⟩
  have q0 : W3.cell? ⟨W2.heap.size, 0, none⟩ = some (.int .u64 T) := (hgR.cell (by simp; omega) (by simp [Value.ownBlock])).trans (by simp)
  have q1 : W3.cell? ⟨W2.heap.size, 1, none⟩ = some (.int .u64 V) := (hgR.cell (by simp; omega) (by simp [Value.ownBlock])).trans (by simp)
  have q2 : W3.cell? ⟨W2.heap.size, 2, none⟩ = some (.int .u64 C) := (hgR.cell (by simp; omega) (by simp [Value.ownBlock])).trans (by simp)
  have q3 : W3.cell? ⟨W2.heap.size + 1, 0, none⟩ = some (.int .u64 I) := (hgR.cell (by simp) (by simp [Value.ownBlock])).trans (by simp)
  have q4 : W3.cell? ⟨W2.heap.size + 1, 1, none⟩ = some (.int .u64 TT) := (hgR.cell (by simp) (by simp [Value.ownBlock])).trans (by simp)
  have hrv : ∀ k, rv.ownBlock = some k → W2.heap.size + 2 ≤ k := by
    intro k h1
    rcases hgR.2 with h | h
    · rw [h] at h1; cases h1
    · have := h k h1; simpa using this
  have HB3 : Hid (Below wc.heap.size wc W3) := below_two HB2.out HB2.out.size hgR (fun k h => by cases h)
  have HOB3 : Hid (Own W3 bc L) := ((HOB.out.alloc _).alloc _).keep hgR (fun k h => by cases h)
  have HKO3 : Hid (Own W3 (.slice a6' K.length c6') K) := ((HKO2.out.alloc _).alloc _).keep hgR (fun k h => by cases h)
  have HOR3 : Hid (Own W3 rv (recs vals K RW)) := hoR
  have HRV : Hid (∀ k, rv.ownBlock = some k → W2.heap.size + 2 ≤ k) := hrv
  clear hgR hoR hrv HOB HKO2 HB2 TN
  go_wp2_with fail
  refine (TR bc (.slice a6' K.length c6') W3 HOB3.out HKO3.out.view HNE.out).mono ?_
  rintro e W4 ⟨out, rfl, hoO, hgO⟩
  have HOR4 : Hid (Own W4 rv (recs vals K RW)) := HOR3.out.keep hgO (fun k h1 h2 => by have := HRV.out k h2; have := HBCL.out k h1; omega)
  have HB4 : Hid (Below wc.heap.size wc W4) := HB3.out.trans (hgO.below HB3.out.size HBC.out)
  have HBV4 : Hid (IsB W4 (.slice a0 L.length cap0) L) := HBW.out.below HB4.out
  have HBW4 : Hid (Below w.heap.size w W4) := HBK.out.trans (HB4.out.mono HBK.out.size)
  have hrl := recs_len vals K RW hvlt hvl (by omega) hRW
  have hsum := recs_sum T V C J TT K RW
  rw [← HVALS.out] at hsum
  have hRne : recs vals K RW ≠ [] := by
    intro h
    have := congrArg List.length h
    simp only [List.length_nil] at this
    omega
  have hONe : L ++ recs vals K RW ≠ [] := by
    intro h
    exact hRne (List.append_eq_nil_iff.1 h).2
  obtain ⟨bo, oo, co, rfl, _, _⟩ := hoO.view.at hONe
  obtain ⟨br, orr, cr, rfl, _, _⟩ := HOR4.out.view.at hRne
  have HO4 : Hid (IsB W4 (.slice (some ⟨bo, oo, none⟩) (L ++ recs vals K RW).length co) (L ++ recs vals K RW)) := hoO.view
  have HR4 : Hid (IsB W4 (.slice (some ⟨br, orr, none⟩) (recs vals K RW).length cr) (recs vals K RW)) := HOR4.out.view
  rw [List.length_append] at HO4 ⊢
  obtain ⟨Q, hQ⟩ : ∃ Q : Nat, Q = (recs vals K RW).length := ⟨_, rfl⟩
  rw [← hQ] at HO4 HR4 hsum hrl ⊢
  obtain ⟨N, hN⟩ : ∃ N : Nat, N = L.length + Q := ⟨_, rfl⟩
  rw [← hN] at HO4 ⊢
  have HQ : Hid (Q = (recs vals K RW).length) := hQ
  obtain ⟨tT, htT⟩ : ∃ t : Nat, t = (uv T).length := ⟨_, rfl⟩
  obtain ⟨tV, htV⟩ : ∃ t : Nat, t = (uv V).length := ⟨_, rfl⟩
  obtain ⟨tC, htC⟩ : ∃ t : Nat, t = (uv C).length := ⟨_, rfl⟩
  obtain ⟨tJ, htJ⟩ : ∃ t : Nat, t = (uv J).length := ⟨_, rfl⟩
  obtain ⟨tX, htX⟩ : ∃ t : Nat, t = (uv TT).length := ⟨_, rfl⟩
  obtain ⟨tK, htK⟩ : ∃ t : Nat, t = (uv K.length).length := ⟨_, rfl⟩
  obtain ⟨tR, htR⟩ : ∃ t : Nat, t = (uv RW).length := ⟨_, rfl⟩
  have UT := uvLen T hT
  have UV := uvLen V hV
  have UC := uvLen C hC
  have UJ := uvLen J hJlt
  have UX := uvLen TT hTT
  have UK := uvLen K.length (by omega)
  have UR := uvLen RW hRW
  have lT : tT ≤ 10 := by rw [htT]; exact uv_len hT
  have lV : tV ≤ 10 := by rw [htV]; exact uv_len hV
  have lC : tC ≤ 10 := by rw [htC]; exact uv_len hC
  have lJ : tJ ≤ 10 := by rw [htJ]; exact uv_len hJlt
  have lX : tX ≤ 10 := by rw [htX]; exact uv_len hTT
  have lK : tK ≤ 10 := by rw [htK]; exact uv_len (by omega)
  have lR : tR ≤ 10 := by rw [htR]; exact uv_len hRW
  rw [← htT] at UT
  rw [← htV] at UV
  rw [← htC] at UC
  rw [← htJ] at UJ
  rw [← htX] at UX
  rw [← htK] at UK
  rw [← htR] at UR
  rw [← htT, ← htV, ← htC, ← htJ, ← htX, ← htK, ← htR] at hsum
  have hs1 : 0 < RW → Q ≤ tT + tV + tC + tJ + 1 + tX + tK + K.length + tR ∧ tT + tV + tC + tJ + 1 + tX + tK + K.length + tR ≤ Q := fun h => by rw [if_pos h] at hsum; omega
  have hs0 : ¬ 0 < RW → Q ≤ tT + tV + tC + tJ + 1 + tX + tK + K.length ∧ tT + tV + tC + tJ + 1 + tX + tK + K.length ≤ Q := fun h => by rw [if_neg h] at hsum; omega
  have HS1 : Hid (0 < RW → Q ≤ tT + tV + tC + tJ + 1 + tX + tK + K.length + tR ∧ tT + tV + tC + tJ + 1 + tX + tK + K.length + tR ≤ Q) := hs1
  have HS0 : Hid (¬ 0 < RW → Q ≤ tT + tV + tC + tJ + 1 + tX + tK + K.length ∧ tT + tV + tC + tJ + 1 + tX + tK + K.length ≤ Q) := hs0
  have hQ1 : Q ≤ 2097152 := by omega
  have hN1 : N ≤ L.length + Q := by omega
  have hN2 : L.length + Q ≤ N := by omega
  clear hs1 hs0 hsum htT htV htC htJ htX htK htR hQ hN hrl hRne hONe hoO hgO HB3 HB4 HOB3 HKO3 HOR3 HOR4 HRV HNE HBC HBCL HBW HBK TR q0 q1 q2 q3 q4
  go_wp2_with fail
  refine (UT W4).mono ?_
  rintro e w' ⟨rfl, hw⟩
  obtain rfl : W4 = w' := hw.symm
  clear hw
  go_wp2_with fail
  refine (UV W4).mono ?_
  rintro e w' ⟨rfl, hw⟩
  obtain rfl : W4 = w' := hw.symm
  clear hw
  go_wp2_with fail
  refine (UC W4).mono ?_
  rintro e w' ⟨rfl, hw⟩
  obtain rfl : W4 = w' := hw.symm
  clear hw
  go_wp2_with fail
  refine (UJ W4).mono ?_
  rintro e w' ⟨rfl, hw⟩
  obtain rfl : W4 = w' := hw.symm
  clear hw
  go_wp2_with fail
  refine (UX W4).mono ?_
  rintro e w' ⟨rfl, hw⟩
  obtain rfl : W4 = w' := hw.symm
  clear hw
  go_wp2_with fail
  refine (UK W4).mono ?_
  rintro e w' ⟨rfl, hw⟩
  obtain rfl : W4 = w' := hw.symm
  clear hw
  go_upto_if 104 with fail
  go_cut [23] (fun s wx => s = .int .i64 Q ∧ wx = W4)
  case first =>
    by_cases hrw : 0 < RW
    · obtain ⟨h1, h2⟩ := HS1.out hrw
      go_wp2_with fail
      refine (UR W4).mono ?_
      rintro e w' ⟨rfl, hw⟩
      obtain rfl : W4 = w' := hw.symm
      clear hw
      go_wp2_with fail
      go_meet
      exact ⟨congrArg (Value.int .i64) (by omega), rfl⟩
    · obtain ⟨h1, h2⟩ := HS0.out hrw
      go_wp2_with fail
      go_meet
      exact ⟨congrArg (Value.int .i64) (by omega), rfl⟩
  case rest =>
  obtain ⟨rfl, hwc⟩ := hcut
  obtain rfl : W4 = wc := hwc.symm
  clear hwc
  clear UT UV UC UJ UX UK UR HS1 HS0 lT lV lC lJ lX lK lR hJw hJv
  have hQd : ((Q : Int) != (Q : Int)) = false := by simp
  go_wp2
  go_loopw [24] (fun vi wr => ∃ k : Nat, k ≤ L.length ∧ vi = .int .i64 k ∧ Below W4.heap.size W4 wr) (fun vi _ => L.length - (intOf vi).toNat)
  case atStart => exact ⟨0, by omega, rfl, Below.refl _ _⟩
  case round =>
    obtain ⟨k, hk, rfl, hbr⟩ := hrel
    obtain ⟨wo, rfl⟩ : ∃ wo : World, wo = wr := ⟨_, rfl⟩
    by_cases hlt : k < L.length
    · obtain ⟨x, hx⟩ : ∃ x : Int, L[k]? = some x := ⟨_, List.getElem?_eq_getElem hlt⟩
      have hLne : L ≠ [] := by
        intro h
        rw [h] at hlt
        simp at hlt
      obtain ⟨b0, o0, rfl, hc0⟩ := (HBV4.out.below hbr).at' hLne
      have hcell0 : wo.cell? ⟨b0, o0 + k, none⟩ = some (.int .u8 x) := hc0 k x hx
      obtain ⟨b1, o1, h1, hc1⟩ := (HO4.out.below hbr).at' (by intro h; exact hLne (List.append_eq_nil_iff.1 h).1)
      cases h1
      have hcell1 : wo.cell? ⟨bo, oo + k, none⟩ = some (.int .u8 x) := hc1 k x (at_head L _ k x hx)
      have HBR : Hid (Below W4.heap.size W4 wo) := hbr
      have hkN : k < N := by omega
      clear hc0 hc1 hbr hx hLne
      go_wp2
      go_region
      all_goals
        go_wp2
        go_roundw
        case rel =>
          first
            | exact ⟨k + 1, by omega, by go_num, HBR.out.drew⟩
            | ((repeat apply Exists.intro); refine ⟨?_, rfl⟩; exact ⟨k + 1, by omega, by go_num, HBR.out.drew⟩)
        case measure => simp [intOf]; omega
    · obtain rfl : k = L.length := by omega
      have HOa : Hid (IsB wo (.slice (some ⟨bo, oo, none⟩) N co) (L ++ recs vals K RW)) := HO4.out.below hbr
      have HRa : Hid (IsB wo (.slice (some ⟨br, orr, none⟩) Q cr) (recs vals K RW)) := HR4.out.below hbr
      have HBa : Hid (Below w.heap.size w wo) := HBW4.out.trans (hbr.mono HBW4.out.size)
      clear HO4 HR4 HBW4 HBV4 hbr
      go_wp2
      go_loopw [25] (fun vi wr => ∃ k : Nat, k ≤ Q ∧ vi = .int .i64 k ∧ Below wo.heap.size wo wr) (fun vi _ => Q - (intOf vi).toNat)
      case atStart => exact ⟨0, by omega, rfl, Below.refl _ _⟩
      case round =>
        obtain ⟨k, hk, rfl, hbr⟩ := hrel
        by_cases hltQ : k < Q
        · have hlt' : k < (recs vals K RW).length := by rw [← HQ.out]; exact hltQ
          obtain ⟨x, hx⟩ : ∃ x : Int, (recs vals K RW)[k]? = some x := ⟨_, List.getElem?_eq_getElem hlt'⟩
          have hRne : recs vals K RW ≠ [] := by
            intro h
            rw [h] at hlt'
            simp at hlt'
          obtain ⟨b6, o6, h6, hc6⟩ := (HRa.out.below hbr).at' hRne
          cases h6
          have hcell6 : wr.cell? ⟨br, orr + k, none⟩ = some (.int .u8 x) := hc6 k x hx
          obtain ⟨b1, o1, h1, hc1⟩ := (HOa.out.below hbr).at' (by intro h; exact hRne (List.append_eq_nil_iff.1 h).2)
          cases h1
          have hcell1 : wr.cell? ⟨bo, oo + (L.length + k), none⟩ = some (.int .u8 x) := hc1 _ x (by rw [List.getElem?_append_right (by omega), show L.length + k - L.length = k by omega]; exact hx)
          have HBR : Hid (Below wo.heap.size wo wr) := hbr
          have hkN : L.length + k < N := by omega
          clear hc6 hc1 hbr hx hRne hlt'
          go_wp2
          go_region
          all_goals
            go_wp2
            go_roundw
            case rel =>
              first
                | exact ⟨k + 1, by omega, by go_num, HBR.out.drew⟩
                | ((repeat apply Exists.intro); refine ⟨?_, rfl⟩; exact ⟨k + 1, by omega, by go_num, HBR.out.drew⟩)
            case measure => simp [intOf]; omega
        · have HEND : Hid (Below w.heap.size w wr) := HBa.out.trans (hbr.mono HBa.out.size)
          clear hbr
          go_wp2
          go_ret
          exact ⟨rfl, HEND.out⟩
end Go.Proofs.Qxb6628440a
