/- encoding/binary.AppendUvarint, codec.AppendBytes, zzUvarintLen. -/
import Derived.Test.Qxb6628440aPlain
namespace Go.Proofs.Qxb6628440a
open Go.RowKit

theorem info5 : (Try.prog.info? 5).map (fun i => (i.zero, i.size, i.bytes)) = some (some (.int .u8 0), 1, 1) := by kernel_rfl

theorem Own.row {w : World} {v : Value} {L pre : List Int} (h : Own w v (L ++ pre)) : w.ownsRow 0 5 1 v (L.length + pre.length) ((L ++ pre).map (Value.int .u8)) := by
  unfold Own at h
  rwa [List.length_append] at h

theorem own_snoc {w : World} {v : Value} {L pre : List Int} {x : Int} (h : w.ownsRow 0 5 1 v (L.length + pre.length + 1) (List.map (Value.int .u8) L ++ (List.map (Value.int .u8) pre ++ [Value.int .u8 x]))) : Own w v (L ++ (pre ++ [x])) := by
  unfold Own
  simpa [Nat.add_assoc] using h

set_option maxRecDepth 100000 in
set_option maxHeartbeats 1000000 in
/-- AppendUvarint onto a row of the call's own -/
theorem appendUv (x : Nat) (hx : x < 18446744073709551616) (sv : Value) (L : List Int) (w : World) (hown : Own w sv L) (hlim : L.length + 10 ≤ 140737488355328) :
    Calls Try.prog 11 #[sv, .int .u64 x] w fun e w' => ∃ v', e = .returned v' ∧ Own w' v' (L ++ uv x) ∧ Grew w w' sv.ownBlock v'.ownBlock := by
  obtain ⟨i0, hi, hz0, hz1, hz2⟩ := info_parts info5
  have hlen := uv_len hx
  go_enter Try.func11, Try.ntmps11
  go_wp2
  go_loopw [0, 1] (fun vb vx wr => ∃ (y : Nat) (pre : List Int), vx = .int .u64 y ∧ y ≤ x ∧ uv x = pre ++ uv y ∧ Own wr vb (L ++ pre) ∧ Grew w wr sv.ownBlock vb.ownBlock)
    (fun _ vx _ => (intOf vx).toNat)
  case atStart => exact ⟨x, [], rfl, Nat.le_refl _, rfl, by simpa using hown, Grew.refl _ _⟩
  case round =>
    obtain ⟨y, pre, rfl, hy, hsplit, hown1, hgr⟩ := hrel
    have hpl : pre.length + (uv y).length ≤ 10 := by
      have h2 := congrArg List.length hsplit
      rw [List.length_append] at h2
      omega
    have hyp := uv_pos y
    have hown2 := hown1.row
    by_cases h128 : 128 ≤ y
    · have hor : bits .or .u8 ((y : Int) % 256) 128 = ((y % 128 + 128 : Nat) : Int) := by
        rw [Lib.u8_or128_any _ (by omega) (by omega)]
        omega
      have HB := uv_big h128
      have HS : Hid (uv x = pre ++ uv y) := hsplit
      have HB : Hid (uv y = ((y % 128 + 128 : Nat) : Int) :: uv (y / 128)) := HB
      clear hsplit
      go_wp2_with (at_builtin; refine wpList_append_own_at _ rfl _ _ 22 rfl 0 5 i0 (.int .u8 0) 1 1 Try.underlying22 hi hz0 hz1 hz2 rfl (by decide) _ _ _ rfl (hown2.alloc _) ⟨wr.heap.size, 0, none⟩ 1 1 [Value.int .u8 ((y % 128 + 128 : Nat) : Int)] rfl rfl ?c1 ?c2 ?c3 ?c4 ?c5 ?_)
      case c1 =>
        intro j u hj
        match j, hj with
        | 0, hj => simp at hj; subst hj; simp [Addr.add]
      case c2 => intro u hu; simp at hu; subst hu; rfl
      case c3 => unfold maxLen; omega
      case c4 => omega
      case c5 => omega
      intro v' w1 hown' hgrow _ hat
      have hgr1 : Hid (Grew w w1 sv.ownBlock v'.ownBlock) := (hgr.alloc _).trans (Grew.step hgrow (hat.imp id fun h => h.trans (by simp)))
      have hown' : Hid (Own w1 v' (L ++ (pre ++ [(y : Int) % 128 + 128]))) := own_snoc hown'
      clear hgrow hat hgr hown1 hown2
      go_wp2
      go_roundw
      case rel =>
        exact ⟨y / 128, pre ++ [(y : Int) % 128 + 128], by go_num, by omega, by rw [HS.out, HB.out, show ((y % 128 + 128 : Nat) : Int) = (y : Int) % 128 + 128 by omega]; simp, hown'.out, hgr1.out⟩
      case measure => simp [intOf]; omega
    · have hsm : uv y = [(y : Int)] := uv_small (by omega)
      have HS : Hid (uv x = pre ++ [(y : Int)]) := hsplit.trans (by rw [hsm])
      clear hsplit hsm
      go_wp2_with (at_builtin; refine wpList_append_own_at _ rfl _ _ 22 rfl 0 5 i0 (.int .u8 0) 1 1 Try.underlying22 hi hz0 hz1 hz2 rfl (by decide) _ _ _ rfl (hown2.alloc _) ⟨wr.heap.size, 0, none⟩ 1 1 [Value.int .u8 (y : Int)] rfl rfl ?c1 ?c2 ?c3 ?c4 ?c5 ?_)
      case c1 =>
        intro j u hj
        match j, hj with
        | 0, hj => simp at hj; subst hj; simp [Addr.add]
      case c2 => intro u hu; simp at hu; subst hu; rfl
      case c3 => unfold maxLen; omega
      case c4 => omega
      case c5 => omega
      intro v' w1 hown' hgrow _ hat
      have hgr1 : Hid (Grew w w1 sv.ownBlock v'.ownBlock) := (hgr.alloc _).trans (Grew.step hgrow (hat.imp id fun h => h.trans (by simp)))
      have hown' : Hid (Own w1 v' (L ++ uv x)) := by
        show Own w1 v' (L ++ uv x)
        rw [HS.out]
        exact own_snoc hown'
      clear hgrow hat hgr hown1 hown2
      go_wp2
      go_ret
      exact ⟨v', rfl, hown'.out, hgr1.out⟩

set_option maxRecDepth 100000 in
/-- zzUvarintLen -/
theorem uvLen (x : Nat) (hx : x < 18446744073709551616) (w : World) : Calls Try.prog 10 #[.int .u64 x] w fun e w' => e = .returned (.int .i64 (uv x).length) ∧ w' = w := by
  have hlen := uv_len hx
  go_enter Try.func10, Try.ntmps10
  go_wp2
  go_loop [0, 3] (fun vx vn => ∃ y n : Nat, vx = .int .u64 y ∧ vn = .int .i64 n ∧ y ≤ x ∧ 1 ≤ n ∧ (uv x).length + 1 = n + (uv y).length) (fun vx _ => (intOf vx).toNat)
  case atStart => exact ⟨x, 1, rfl, rfl, Nat.le_refl _, by omega, by omega⟩
  case round =>
    obtain ⟨y, n, rfl, rfl, hy, hn, hs⟩ := hrel
    have hyp := uv_pos y
    by_cases h128 : 128 ≤ y
    · have e := congrArg List.length (uv_big h128)
      rw [List.length_cons] at e
      go_wp2
      go_round
      case rel => exact ⟨y / 128, n + 1, by go_num, by go_num, by omega, by omega, by omega⟩
      case measure => simp [intOf]; omega
    · have e : (uv y).length = 1 := by rw [uv_small (by omega)]; rfl
      have HS : Hid ((uv x).length = n) := by show (uv x).length = n; omega
      clear hs e hyp
      go_wp2
      go_ret
      exact ⟨by rw [HS.out]; rfl, rfl⟩

end Go.Proofs.Qxb6628440a
