/- FnAppendTrimRecordDecodesBack: the walk. -/
import Derived.Test.Qxb6628440aFacts
import Derived.Deep.DeepCutAuto
namespace Go.Proofs.Qxb6628440a
open Go.RowKit Go.WideShapes

set_option maxRecDepth 100000 in
set_option maxHeartbeats 2000000 in
/-- too long: true at once -/
theorem early3 (a0 a6 : Option Addr) (n0 cap0 n6 cap6 : Nat) (T V C I TT RW : Nat) (w : World) (hbig : 1048576 < n0 + n6) :
    Calls Try.prog 3 #[.slice a0 n0 cap0, .int .u64 T, .int .u64 V, .int .u64 C, .int .u64 I, .int .u64 TT, .slice a6 n6 cap6, .int .u64 RW] w fun e w' => e = .returned (.bool true) ∧ Below w.heap.size w w' := by
  by_cases h1 : 1048576 < n0
  · go_enter Try.func3, Try.ntmps3
    go_wp2_with fail
    refine (bytes_any 5 (.inl rfl) a0 a6 n0 cap0 n6 cap6 T V C I TT RW w).mono ?_
    rintro e w1 ⟨⟨b, rfl⟩, hw⟩
    obtain rfl : w = w1 := hw.symm
    cases b <;> (go_wp2; go_ret; exact ⟨rfl, Below.refl _ _⟩)
  · by_cases h2 : 1048576 < n6
    · go_enter Try.func3, Try.ntmps3
      go_wp2_with fail
      refine (bytes_any 5 (.inl rfl) a0 a6 n0 cap0 n6 cap6 T V C I TT RW w).mono ?_
      rintro e w1 ⟨⟨b, rfl⟩, hw⟩
      obtain rfl : w = w1 := hw.symm
      cases b <;> (go_wp2; go_ret; exact ⟨rfl, Below.refl _ _⟩)
    · go_enter Try.func3, Try.ntmps3
      go_wp2_with fail
      refine (bytes_any 5 (.inl rfl) a0 a6 n0 cap0 n6 cap6 T V C I TT RW w).mono ?_
      rintro e w1 ⟨⟨b, rfl⟩, hw⟩
      obtain rfl : w = w1 := hw.symm
      cases b <;> (go_wp2; go_ret; exact ⟨rfl, Below.refl _ _⟩)

set_option maxRecDepth 100000 in
set_option maxHeartbeats 16000000 in
theorem law3 (a0 a6 : Option Addr) (cap0 cap6 : Nat) (L K : List Int) (T V C I TT RW : Nat) (w : World) (hb : IsB w (.slice a0 L.length cap0) L) (hk : IsB w (.slice a6 K.length cap6) K)
    (hT : T < 18446744073709551616) (hV : V < 18446744073709551616) (hC : C < 18446744073709551616) (hTT : TT < 18446744073709551616) (hRW : RW < 18446744073709551616) (hlim : L.length + K.length ≤ 1048576) :
    Calls Try.prog 3 #[.slice a0 L.length cap0, .int .u64 T, .int .u64 V, .int .u64 C, .int .u64 I, .int .u64 TT, .slice a6 K.length cap6, .int .u64 RW] w fun e w' => e = .returned (.bool true) ∧ Below w.heap.size w w' := by
  obtain ⟨i0, hi, hz0, hz1, hz2⟩ := info_parts info5
  obtain ⟨J, hJ⟩ : ∃ J : Nat, J = (I + 1) % 18446744073709551616 := ⟨_, rfl⟩
  have hJw : ((I : Int) + 1) % 18446744073709551616 = (J : Int) := by omega
  have hJv : IntKind.u64.wrap ((I : Int) + 1) = (J : Int) := by
    rw [hJ]; simp [IntKind.wrap, IntKind.bits, IntKind.signed]
  have hJlt : J < 18446744073709551616 := by omega
  have TR := fun (sv kv : Value) (w : World) (h1 : Own w sv L) (h2 : IsB w kv K) h3 => trim_any sv kv L K T V C I TT RW w h1 h2 h3 hT hV hC hTT hRW (by omega)
  rw [← hJ] at TR
  clear hJ
  obtain ⟨vals, hvals⟩ : ∃ vals : List Nat, vals = [T, V, C, J, 0, TT] := ⟨_, rfl⟩
  have hvl : vals.length = 6 := by rw [hvals]; rfl
  have hvlt : ∀ v ∈ vals, v < 18446744073709551616 := by
    intro v hv
    rw [hvals] at hv
    simp only [List.mem_cons, List.not_mem_nil, or_false] at hv
    omega
  rw [← hvals] at TR
  have HVALS : Hid (vals = [T, V, C, J, 0, TT]) := hvals
  clear hvals
  have HB : Hid (IsB w (.slice a0 L.length cap0) L) := hb
  have HK : Hid (IsB w (.slice a6 K.length cap6) K) := hk
  clear hb hk
  go_enter Try.func3, Try.ntmps3
  go_wp2_with fail
  refine (bytes_any 5 (.inl rfl) a0 a6 L.length cap0 K.length cap6 T V C I TT RW w).mono ?_
  rintro e w1 ⟨⟨b, rfl⟩, hw⟩
  obtain rfl : w = w1 := hw.symm
  clear hw
  cases b
  · go_wp2
    go_ret
    exact ⟨rfl, Below.refl _ _⟩
  go_upto_if 58 with fail
  go_cut [6, 17] (fun s6 _ wx => Own wx s6 K ∧ Grew w wx none s6.ownBlock)
  case first =>
    rcases HK.out with ⟨h, hKn⟩ | ⟨ad, cap, h, hc⟩
    · subst hKn
      cases h
      go_wp2_with fail
      go_meet
      exact ⟨Own.nil _, Grew.refl _ _⟩
    · cases h
      clear HK
      go_wp2_with (at_make; refine wpList_make_full _ rfl _ _ 22 rfl 0 5 i0 (.int .u8 0) 1 Try.underlying22 hi hz0 hz1 _ _ _ _ K.length rfl rfl (by omega) (by omega) ?b2 ?b3 ?b4 ?_)
      case b2 => rw [hz2]; omega
      case b3 => unfold maxLen; omega
      case b4 => omega
      intro w1 hown1 hg1
      obtain ⟨w2, hrun, ho, hg⟩ := clone_run (cap := cap6) (by omega) hc hown1 hg1
      have ho : Hid (Own w2 (.slice (some ⟨w.heap.size, 0, none⟩) K.length K.length) K) := ho
      have hg : Hid (Grew w w2 none (some w.heap.size)) := hg
      clear hown1 hg1 hc
      go_wp2_with fail
      go_meet
      exact ⟨ho.out, hg.out⟩
  case rest =>
  obtain ⟨hoK, hgK⟩ := hcut
  obtain ⟨a6', c6', rfl⟩ := hoK.view.len
  have hbK : Below w.heap.size w wc := hgK.below (Nat.le_refl _) (fun k h => by cases h)
  have HKO : Hid (Own wc (.slice a6' K.length c6') K) := hoK
  have HBW : Hid (IsB wc (.slice a0 L.length cap0) L) := HB.out.below hbK
  have HBK : Hid (Below w.heap.size w wc) := hbK
  clear HB HK hoK hgK hbK
  go_wp2_with fail
  refine (clone_any (.slice a0 L.length cap0) L wc HBW.out (by omega)).mono ?_
  rintro e W2 ⟨bc, rfl, hoB, hgB⟩
  have HB2 : Hid (Below wc.heap.size wc W2) := hgB.below (Nat.le_refl _) (fun k h => by cases h)
  have HKO2 : Hid (Own W2 (.slice a6' K.length c6') K) := HKO.out.keep hgB (fun k h => by cases h)
  have HNE : Hid (∀ k, bc.ownBlock = some k → (Value.slice a6' K.length c6').ownBlock = some k → K = []) := by
    intro k h1 h2
    have h3 := HKO.out.lt k h2
    rcases hgB.2 with h | h
    · rw [h] at h1; cases h1
    · have := h k h1; omega
  have HBC : Hid (∀ k, bc.ownBlock = some k → wc.heap.size ≤ k) := by
    intro k h1
    rcases hgB.2 with h | h
    · rw [h] at h1; cases h1
    · exact h k h1
  have HOB : Hid (Own W2 bc L) := hoB
  clear hgB hoB
  go_wp2_with fail
  refine (TR bc (.slice a6' K.length c6') _ ((HOB.out.alloc _).alloc _) ((HKO2.out.alloc _).alloc _).view HNE.out).mono ?_
  rintro e W3 ⟨out, rfl, hoO, hgO⟩
  have hs23 : W2.heap.size + 2 ≤ W3.heap.size := by
    have := hgO.1.size
    simpa using this
  have HB3 : Hid (Below wc.heap.size wc W3) := below_two HB2.out HB2.out.size hgO HBC.out
  have HK3 : Hid (IsB W3 (.slice a6' K.length c6') K) := ((HKO2.out.alloc _).alloc _).view.keep hgO HNE.out
  have HBV3 : Hid (IsB W3 (.slice a0 L.length cap0) L) := HBW.out.below HB3.out
  have HBW3 : Hid (Below w.heap.size w W3) := HBK.out.trans (HB3.out.mono HBK.out.size)
  have hrl := recs_len vals K RW hvlt hvl (by omega) hRW
  have hall := len_all L vals K RW
  have hRne : L ++ recs vals K RW ≠ [] := by
    intro h
    have := congrArg List.length h
    simp only [List.length_append, List.length_nil] at this
    omega
  obtain ⟨bo, oo, co, rfl, _, _⟩ := hoO.view.at hRne
  have HO3 : Hid (IsB W3 (.slice (some ⟨bo, oo, none⟩) (L ++ recs vals K RW).length co) (L ++ recs vals K RW)) := hoO.view
  rw [List.length_append] at HO3 ⊢
  obtain ⟨N, hN⟩ : ∃ N : Nat, N = L.length + (recs vals K RW).length := ⟨_, rfl⟩
  rw [← hN] at HO3 hall ⊢
  have hNlim : N ≤ 2097252 := by omega
  have hNL : L.length ≤ N := by omega
  have hNLd : decide (N < L.length) = false := decide_eq_false (by omega)
  have HN : Hid ((L ++ recs vals K RW).length = N) := by
    show _ = _
    rw [List.length_append, hN]
  have HALL : Hid (N = (L ++ vals.flatMap uv).length + (uv K.length).length + K.length + (tailOf RW).length) := hall
  clear hN hrl hall hRne hoO hgO HB3 HKO2 HOB HB2 HNE HBC HKO HBW HBK TR
  go_wp2
  go_loopw [22] (fun vi wr => ∃ k : Nat, k ≤ L.length ∧ vi = .int .i64 k ∧ Below W3.heap.size W3 wr) (fun vi _ => L.length - (intOf vi).toNat)
  case atStart => exact ⟨0, by omega, rfl, Below.refl _ _⟩
  case round =>
    obtain ⟨k, hk, rfl, hbr⟩ := hrel
    obtain ⟨wo, rfl⟩ : ∃ wo : World, wo = wr := ⟨_, rfl⟩
    by_cases hlt : k < L.length
    · have hx := List.getElem?_eq_getElem hlt
      obtain ⟨x, hx⟩ : ∃ x : Int, L[k]? = some x := ⟨_, hx⟩
      have hLne : L ≠ [] := by
        intro h
        rw [h] at hlt
        simp at hlt
      obtain ⟨b0, o0, rfl, hc0⟩ := (HBV3.out.below hbr).at' hLne
      have hcell0 : wo.cell? ⟨b0, o0 + k, none⟩ = some (.int .u8 x) := hc0 k x hx
      obtain ⟨b1, o1, h1, hc1⟩ := (HO3.out.below hbr).at' (by intro h; have := congrArg List.length h; rw [HN.out] at this; simp at this; omega)
      cases h1
      have hcell1 : wo.cell? ⟨bo, oo + k, none⟩ = some (.int .u8 x) := hc1 k x (at_head L _ k x hx)
      have HBR : Hid (Below W3.heap.size W3 wo) := hbr
      have hkN : k < N := by omega
      clear hc0 hc1 hbr hx hLne
      go_wp2
      go_region
      all_goals
        go_wp2
        go_roundw
        case rel => exact ⟨k + 1, by omega, by go_num, HBR.out.drew⟩
        case measure => simp [intOf]; omega
    · obtain rfl : k = L.length := by omega
      have HBR : Hid (Below W3.heap.size W3 wo) := hbr
      clear hbr
      go_wp2
      have CW : Hid (∀ k : Nat, k < 6 → (wo.alloc (Obj.cells #[Value.int IntKind.u64 T, Value.int IntKind.u64 V, Value.int IntKind.u64 C, Value.int IntKind.u64 J, Value.int IntKind.u64 0, Value.int IntKind.u64 TT] 31)).cell? ⟨wo.heap.size, k, none⟩ = some (.int .u64 ((vals.getD k 0 : Nat) : Int))) := by
        intro k hk
        rw [HVALS.out]
        have : k = 0 ∨ k = 1 ∨ k = 2 ∨ k = 3 ∨ k = 4 ∨ k = 5 := by omega
        rcases this with rfl | rfl | rfl | rfl | rfl | rfl <;> (rw [new_cell _ _ _ _ _ rfl]; rfl)
      have BW : Hid (Below W3.heap.size W3 (wo.alloc (Obj.cells #[Value.int IntKind.u64 T, Value.int IntKind.u64 V, Value.int IntKind.u64 C, Value.int IntKind.u64 J, Value.int IntKind.u64 0, Value.int IntKind.u64 TT] 31))) := HBR.out.alloc HBR.out.size _
      generalize (wo.alloc (Obj.cells #[Value.int IntKind.u64 T, Value.int IntKind.u64 V, Value.int IntKind.u64 C, Value.int IntKind.u64 J, Value.int IntKind.u64 0, Value.int IntKind.u64 TT] 31)) = Wa at CW BW ⊢
      clear HBR HBV3 hJw hJv
      have HOa : Hid (IsB Wa (.slice (some ⟨bo, oo, none⟩) N co) (L ++ recs vals K RW)) := HO3.out.below BW.out
      have HKa : Hid (IsB Wa (.slice a6' K.length c6') K) := HK3.out.below BW.out
      have HBa : Hid (Below w.heap.size w Wa) := HBW3.out.trans (BW.out.mono HBW3.out.size)
      clear HO3 HK3 HBW3 BW
      go_loop [23, 25] (fun vp vi => ∃ k P : Nat, k ≤ 6 ∧ vi = .int .i64 k ∧ vp = .int .i64 P ∧ P = (L ++ (vals.take k).flatMap uv).length) (fun _ vi => 6 - (intOf vi).toNat)
      case atStart => exact ⟨0, L.length, by omega, rfl, rfl, by simp⟩
      case round =>
        obtain ⟨k, P, hk6, rfl, rfl, hP⟩ := hrel
        have HP : Hid (P = (L ++ (vals.take k).flatMap uv).length) := hP
        have hPl : P ≤ 2097252 := by
          have h1 := flat_len (vals.take k) fun v hv => hvlt v (List.mem_of_mem_take hv)
          have h2 : (vals.take k).length ≤ 6 := by rw [List.length_take]; omega
          rw [hP, List.length_append]
          omega
        clear hP
        by_cases hlt6 : k < 6
        · obtain ⟨x, hx⟩ : ∃ x : Nat, x = vals.getD k 0 := ⟨_, rfl⟩
          have hcell : Wa.cell? ⟨wo.heap.size, k, none⟩ = some (.int .u64 (x : Int)) := by rw [hx]; exact CW.out k hlt6
          have hxlt : x < 18446744073709551616 := by
            rw [hx, List.getD_eq_getElem?_getD, List.getElem?_eq_getElem (by omega)]
            exact hvlt _ (List.getElem_mem _)
          have HX : Hid (x = vals.getD k 0) := hx
          have D := dec_at (.slice (some ⟨bo, oo, none⟩) N co) (L ++ recs vals K RW) (L ++ (vals.take k).flatMap uv) _ x P Wa hxlt HOa.out (by rw [hx]; exact split_k L vals K RW k (by omega)) HP.out (by rw [HN.out]; omega)
          obtain ⟨m, hm⟩ : ∃ m : Nat, m = (uv x).length := ⟨_, rfl⟩
          have hm1 : 1 ≤ m := by rw [hm]; exact uv_pos x
          have hm10 : m ≤ 10 := by rw [hm]; exact uv_len hxlt
          have HM : Hid (m = (uv x).length) := hm
          have hm0 : ((m : Int) == 0) = false := by simp; omega
          rw [← hm] at D
          clear hx hm
          go_wp2_with fail
          refine D.mono ?_
          rintro e w' ⟨rfl, hw⟩
          obtain rfl : Wa = w' := hw.symm
          clear hw D
          go_wp2
          go_round
          case rel =>
            refine ⟨k + 1, P + m, by omega, by go_num, by go_num, ?_⟩
            rw [HP.out, HM.out, HX.out]
            exact pos_step L vals k (by omega)
          case measure => simp [intOf]; omega
        · obtain rfl : k = 6 := by omega
          have hall6 : vals.take 6 = vals := by rw [List.take_of_length_le (by omega)]
          rw [hall6] at HP
          have D := dec_at (.slice (some ⟨bo, oo, none⟩) N co) (L ++ recs vals K RW) (L ++ vals.flatMap uv) _ K.length P Wa (by omega) HOa.out (split_len L vals K RW) HP.out (by rw [HN.out]; omega)
          have HALL' := HALL.out
          rw [← HP.out] at HALL'
          obtain ⟨m, hm⟩ : ∃ m : Nat, m = (uv K.length).length := ⟨_, rfl⟩
          have hm1 : 1 ≤ m := by rw [hm]; exact uv_pos _
          have hm10 : m ≤ 10 := by rw [hm]; exact uv_len (by omega)
          have HM : Hid (m = (uv K.length).length) := hm
          have hm0 : ((m : Int) == 0) = false := by simp; omega
          rw [← hm] at D HALL'
          obtain ⟨z, hz⟩ : ∃ z : Nat, z = (tailOf RW).length := ⟨_, rfl⟩
          rw [← hz] at HALL'
          have HZ : Hid (z = (tailOf RW).length) := hz
          have hA1 : P + m + K.length + z ≤ N := by omega
          have hA2 : N ≤ P + m + K.length + z := by omega
          have HPM : Hid ((L ++ vals.flatMap uv).length + (uv K.length).length = P + m) := by
            show _ = _
            rw [← HP.out, ← HM.out]
          clear hz hm hall6 CW HALL' HALL
          go_wp2_with fail
          refine D.mono ?_
          rintro e w' ⟨rfl, hw⟩
          obtain rfl : Wa = w' := hw.symm
          clear hw D
          go_wp2
          go_loopw [30] (fun vi wr => ∃ k : Nat, k ≤ K.length ∧ vi = .int .i64 k ∧ Below Wa.heap.size Wa wr) (fun vi _ => K.length - (intOf vi).toNat)
          case atStart => exact ⟨0, by omega, rfl, Below.refl _ _⟩
          case round =>
            obtain ⟨k, hk, rfl, hbr⟩ := hrel
            by_cases hltK : k < K.length
            · obtain ⟨x, hx⟩ : ∃ x : Int, K[k]? = some x := ⟨_, List.getElem?_eq_getElem hltK⟩
              have hKne : K ≠ [] := by
                intro h
                rw [h] at hltK
                simp at hltK
              obtain ⟨b6, o6, rfl, hc6⟩ := (HKa.out.below hbr).at' hKne
              have hcell6 : wr.cell? ⟨b6, o6 + k, none⟩ = some (.int .u8 x) := hc6 k x hx
              obtain ⟨b1, o1, h1, hc1⟩ := (HOa.out.below hbr).at' (by intro h; have := congrArg List.length h; rw [HN.out] at this; simp at this; omega)
              cases h1
              have hcell1 : wr.cell? ⟨bo, oo + (P + m + k), none⟩ = some (.int .u8 x) := hc1 _ x (by rw [← HPM.out]; exact at_kept L vals K RW k x hx)
              have HBR : Hid (Below Wa.heap.size Wa wr) := hbr
              have hkN : P + m + k < N := by omega
              clear hc6 hc1 hbr hx hKne
              go_wp2
              go_region
              all_goals
                go_wp2
                go_roundw
                case rel =>
                  first
                    | exact ⟨k + 1, by omega, by go_num, HBR.out.drew⟩
                    | ((repeat apply Exists.intro); refine ⟨?_, rfl⟩; exact ⟨k + 1, by omega, by go_num, HBR.out.drew⟩)
                case measure => simp [intOf]; omega
            · obtain rfl : k = K.length := by omega
              have HEND : Hid (Below w.heap.size w wr) := HBa.out.trans (hbr.mono HBa.out.size)
              by_cases hrw : 0 < RW
              · have D := dec_at (.slice (some ⟨bo, oo, none⟩) N co) (L ++ recs vals K RW) (L ++ vals.flatMap uv ++ (uv K.length ++ K)) [] RW (P + m + K.length) wr hRW (HOa.out.below hbr) (split_tail L vals K RW hrw)
                  (by rw [List.length_append, ← HP.out, List.length_append, ← HM.out]; omega) (by rw [HN.out]; omega)
                rw [show ((P + m + K.length : Nat) : Int) = (P : Int) + m + K.length by omega] at D
                obtain ⟨n, hn⟩ : ∃ n : Nat, n = (uv RW).length := ⟨_, rfl⟩
                have hzn : z = n := by rw [HZ.out, tailOf, if_pos hrw, hn]
                have hn1 : 1 ≤ n := by rw [hn]; exact uv_pos _
                have hn10 : n ≤ 10 := by rw [hn]; exact uv_len hRW
                have hn0 : ((n : Int) == 0) = false := by simp; omega
                rw [← hn] at D
                have hfin : ((P : Int) + m + K.length + n == (N : Int)) = true := by simp; omega
                clear hn hzn hbr
                go_wp2_with fail
                refine D.mono ?_
                rintro e w' ⟨rfl, hw⟩
                obtain rfl : wr = w' := hw.symm
                clear hw D
                go_wp2
                go_ret
                exact ⟨rfl, HEND.out⟩
              · have hz0' : z = 0 := by rw [HZ.out, tailOf, if_neg hrw]; rfl
                have hfin : ((P : Int) + m + K.length == (N : Int)) = true := by simp; omega
                clear hz0' hbr
                go_wp2
                go_ret
                exact ⟨rfl, HEND.out⟩
end Go.Proofs.Qxb6628440a
