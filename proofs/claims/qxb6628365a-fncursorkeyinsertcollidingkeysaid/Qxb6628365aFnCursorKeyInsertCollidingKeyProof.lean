/- FnCursorKeyInsertCollidingKey: whatever the input; the row. -/
import Derived.Test.Qxb6628365aLaw3
import Derived.Test.Qxb6628365aOpen
import Derived.ProofKit
import Derived.OpenShut
import Derived.ShutString
import Derived.ChangeOld
import Derived.Deep.SlicePairs
namespace Go.Proofs.Qxb6628365a.fnCursorKeyInsertCollidingKey
open Go.ChangeShapes Go.WideShapes Go.ChangeAt Go.RowKit
open Go.ChangeMaps (open_string shut_string)

set_option maxHeartbeats 1000000 in
theorem big_any (a0 a1 : Option Addr) (l0 c0 l1 c1 : Nat) (e0 e1 : List Ent) (c : Int) (k : ByteArray) (p : Int) (w : World) (h0 : IsEnts w a0 l0 e0) (h1 : IsEnts w a1 l1 e1) (hl0 : l0 ≤ 9223372036854775807) (hl1 : l1 ≤ 9223372036854775807) (hks : k.size ≤ maxLen)
    (hbig : 65536 < l0 ∨ 65536 < l1 ∨ 1048576 < k.size) :
    Calls Try.prog 3 #[.slice a0 l0 c0, .slice a1 l1 c1, .int .u64 c, .string k, .int .i64 p] w fun e w' => e = .returned (.bool true) ∧ Below w.heap.size w w' := by
  unfold maxLen at hks
  rcases hbig with h | h | h
  all_goals
    go_enter Try.func3, Try.ntmps3
    go_wp2_with fail
    refine (bytes5_any _ _ _ _ _ _ e0 e1 _ _ _ w h0 h1 (by omega) (by omega)).mono ?_
    rintro e w' ⟨⟨r, rfl⟩, hw⟩
    obtain rfl : w = w' := hw.symm
    cases r
    all_goals
      go_wp2
      all_goals
        go_ret
        exact ⟨rfl, Below.refl _ _⟩

set_option maxHeartbeats 1000000 in
theorem out_any (a0 a1 : Option Addr) (l0 c0 l1 c1 : Nat) (e0 e1 : List Ent) (c : Int) (k : ByteArray) (p : Int) (w : World) (h0 : IsEnts w a0 l0 e0) (h1 : IsEnts w a1 l1 e1)
    (b0 : l0 ≤ 65536) (b1 : l1 ≤ 65536) (bk : k.size ≤ 1048576) (hp : p < 0 ∨ (l1 : Int) < p) :
    Calls Try.prog 3 #[.slice a0 l0 c0, .slice a1 l1 c1, .int .u64 c, .string k, .int .i64 p] w fun e w' => e = .returned (.bool true) ∧ Below w.heap.size w w' := by
  rcases hp with h | h
  all_goals
    go_enter Try.func3, Try.ntmps3
    go_wp2_with fail
    refine (bytes5_any _ _ _ _ _ _ e0 e1 _ _ _ w h0 h1 (by omega) (by omega)).mono ?_
    rintro e w' ⟨⟨r, rfl⟩, hw⟩
    obtain rfl : w = w' := hw.symm
    cases r
    case false =>
      go_wp2
      go_ret
      exact ⟨rfl, Below.refl _ _⟩
    case true =>
      go_wp2_with fail
      refine (fit_any _ _ _ _ _ _ e0 e1 _ _ h0 h1 (by omega) (by omega)).mono ?_
      rintro e w' ⟨⟨r, rfl⟩, hw⟩
      obtain rfl : w = w' := hw.symm
      cases r
      all_goals
        go_wp2
        all_goals
          go_ret
          exact ⟨rfl, Below.refl _ _⟩

theorem walk (a0 a1 : Option Addr) (l0 c0 l1 c1 : Nat) (e0 e1 : List Ent) (c : Int) (k : ByteArray) (p : Int) (w : World) (h0 : IsEnts w a0 l0 e0) (h1 : IsEnts w a1 l1 e1) (hl0 : l0 ≤ 9223372036854775807) (hl1 : l1 ≤ 9223372036854775807)
    (hcap : l1 ≤ c1) (hnil : a1 = none → c1 = 0) (hc : (Lit.int .u64 c).wf = true) (hks : k.size ≤ maxLen) :
    Calls Try.prog 3 #[.slice a0 l0 c0, .slice a1 l1 c1, .int .u64 c, .string k, .int .i64 p] w fun e w' => e = .returned (.bool true) ∧ Below w.heap.size w w' := by
  by_cases hbig : 65536 < l0 ∨ 65536 < l1 ∨ 1048576 < k.size
  · exact big_any a0 a1 l0 c0 l1 c1 e0 e1 c k p w h0 h1 hl0 hl1 hks hbig
  · by_cases hp : p < 0 ∨ (l1 : Int) < p
    · exact out_any a0 a1 l0 c0 l1 c1 e0 e1 c k p w h0 h1 (by omega) (by omega) (by omega) hp
    · obtain ⟨n, rfl⟩ : ∃ n : Nat, p = n := ⟨p.toNat, by omega⟩
      exact law3_core a0 a1 l0 c0 l1 c1 e0 e1 c k n w h0 h1 hcap hnil hc hks (by omega) (by omega) (by omega) (by omega)

theorem own : ownKnob Try.prog.godebug = none := by kernel_rfl
theorem laidOut : laidOutB Try.prog = true := by kernel_rfl


set_option maxRecDepth 100000 in
theorem lifted (os : Os) (started : os.Started) (H : Type) (enc : TypeId × Value → H) :
    ReturnsInHanded {} Try.checked os 3 .any (Rows.fnCursorKeyInsertCollidingKeySpec.pre6 enc Try.prog Try.f3 Rows.fnCursorKeyInsertCollidingKeyRow.domain false) (Rows.fnCursorKeyInsertCollidingKeySpec.post enc Try.prog Try.f3 false true false false) := by
  refine returnsInHanded_of_change (C := Try.checked) own started (by kernel_rfl) Try.func3
    (ChangeSpec.witness6 (enc := enc) (C := Try.checked) false ⟨#[], #[.slice none 0 0, .slice none 0 0, .int .u64 0, .string ByteArray.empty, .int .i64 0], []⟩ 8 (by kernel_rfl) (by kernel_rfl) (by kernel_rfl) (by kernel_rfl)) ?_
  intro W base args ds gs before hval0 hW hcnd _
  have hval : ∀ (j : Nat) t v, Try.f3.params[j]? = some t → args[j]? = some v → Value.okWide Try.prog W .any base t v := hval0
  have hW' := hW
  obtain ⟨p, q, hA0, hV, rfl, hfz, hnd⟩ := hW
  have hA : DataW.TrodAll enc Try.prog W 0 (fun _ => true) true Try.f3.params.toList args.toList ds p := hA0
  rw [Try.params3] at hA hval
  obtain ⟨v0, vs0, d0, ds0, p0, q0, hargs, rfl, rfl, h0, r0⟩ := trodAll_cons hA
  obtain ⟨v1, vs1, d1, ds1, p1, q1, rfl, rfl, rfl, h1, r1⟩ := trodAll_cons r0
  obtain ⟨v2, vs2, d2, ds2, p2, q2, rfl, rfl, rfl, h2, r2⟩ := trodAll_cons r1
  obtain ⟨v3, vs3, d3, ds3, p3, q3, rfl, rfl, rfl, h3, r3⟩ := trodAll_cons r2
  obtain ⟨v4, vs4, d4, ds4, p4, q4, rfl, rfl, rfl, h4, r4⟩ := trodAll_cons r3
  obtain ⟨rfl, rfl, rfl⟩ := trodAll_nil r4
  obtain rfl : args = #[v0, v1, v2, v3, v4] := by cases args; simp_all
  obtain ⟨rfl, rfl⟩ := trodVars_none hV
  obtain ⟨a0, len0, cap0, rfl⟩ := okWide_slice Try.underlying22 (hval 0 22 v0 rfl rfl)
  have k0 := h0
  have lt0 : ∀ x ∈ p0, x.block < W.heap.size := by obtain ⟨m, hm⟩ := k0; exact DataW.trod_lt m _ _ _ hm
  obtain ⟨hc0, _, hm0, e0, w0⟩ : len0 ≤ cap0 ∧ (a0 = none → cap0 = 0) ∧ cap0 ≤ maxLen ∧ ∃ es, IsEnts W a0 len0 es := by
    obtain ⟨fuel, hf⟩ := h0
    exact open_ents (by simpa [Value.cells] using hf)
  obtain ⟨a1, len1, cap1, rfl⟩ := okWide_slice Try.underlying22 (hval 1 22 v1 rfl rfl)
  have k1 := h1
  have lt1 : ∀ x ∈ p1, x.block < W.heap.size := by obtain ⟨m, hm⟩ := k1; exact DataW.trod_lt m _ _ _ hm
  obtain ⟨hc1, hn1, hm1, e1, w1⟩ : len1 ≤ cap1 ∧ (a1 = none → cap1 = 0) ∧ cap1 ≤ maxLen ∧ ∃ es, IsEnts W a1 len1 es := by
    obtain ⟨fuel, hf⟩ := h1
    exact open_ents (by simpa [Value.cells] using hf)
  obtain ⟨c, rfl, rfl, rfl, w2⟩ := open_int Try.underlying23 (hval 2 23 v2 rfl rfl) h2
  obtain ⟨k, rfl, rfl, rfl, w3⟩ := open_string Try.underlying9 (hval 3 9 v3 rfl rfl) h3
  obtain ⟨n, rfl, rfl, rfl, w4⟩ := open_int Try.underlying3 (hval 4 3 v4 rfl rfl) h4
  clear hA0 hval0
  have big0 : len0 ≤ 9223372036854775807 := by simp only [maxLen] at hm0; omega
  have big1 : len1 ≤ 9223372036854775807 := by simp only [maxLen] at hm1; omega
  refine (walk a0 a1 len0 cap0 len1 cap1 e0 e1 c k n W w0 w1 big0 big1 hc1 hn1 w2 w3).mono fun e W' ⟨he, bel⟩ => ?_
  subst he
  exact ⟨_, rfl, _, _, _, [], _, [], hW', trodAll_mk1 (shut_bool Try.underlying4 _), (trodAll_cons_mk (Below.trod laidOut (by kernel_rfl) (of_decide_eq_true (by kernel_rfl)) k0 bel lt0) (trodAll_cons_mk (Below.trod laidOut (by kernel_rfl) (of_decide_eq_true (by kernel_rfl)) k1 bel lt1) (trodAll_cons_mk (shut_int Try.underlying23 w2) (trodAll_cons_mk (shut_string Try.underlying9 w3) (trodAll_cons_mk (shut_int Try.underlying3 w4) trodAll_mk0))))), rfl, bel.frame _, fun h => by cases h⟩

theorem over : Rows.fnCursorKeyInsertCollidingKeyRow.holds Try.pinned (OpenSpec.ofChange Rows.fnCursorKeyInsertCollidingKeySpec) :=
  OpenClaim.holds_of_wide 3 Try.f3 rfl rfl rfl rfl rfl rfl rfl ⟨rfl, rfl, rfl, rfl, rfl⟩ rfl rfl rfl rfl rfl (by kernel_rfl) Try.func3 (by kernel_rfl)
    (of_decide_eq_true (by kernel_rfl)) (by unfold Func.isWrapper; first | (rw [if_pos (by decide +kernel)]; kernel_rfl) | (rw [if_neg (by decide +kernel)]; exact ⟨rfl, rfl⟩))
    (fun os started H enc _ => lifted os started H enc)

/-- THE STATEMENT -/
theorem proved : Rows.FnCursorKeyInsertCollidingKeySaid := over

end Go.Proofs.Qxb6628365a.fnCursorKeyInsertCollidingKey
