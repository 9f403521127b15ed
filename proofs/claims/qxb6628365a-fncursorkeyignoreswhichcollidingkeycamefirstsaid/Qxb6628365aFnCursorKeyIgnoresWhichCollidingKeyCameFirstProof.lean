/- FnCursorKeyIgnoresWhichCollidingKeyCameFirst: whatever the input; the row. -/
import Derived.Test.Qxb6628365aLaw4
import Derived.Test.Qxb6628365aOpen
import Derived.ProofKit
import Derived.OpenShut
import Derived.ChangeOld
namespace Go.Proofs.Qxb6628365a.fnCursorKeyIgnoresWhichCollidingKeyCameFirst
open Go.ChangeShapes Go.WideShapes Go.ChangeAt Go.RowKit

set_option maxHeartbeats 1000000 in
theorem big_any (a0 a1 : Option Addr) (l0 c0 l1 c1 : Nat) (e0 e1 : List Ent) (c : Int) (w : World) (h0 : IsEnts w a0 l0 e0) (h1 : IsEnts w a1 l1 e1) (hl0 : l0 ≤ 9223372036854775807) (hl1 : l1 ≤ 9223372036854775807)
    (hbig : 65536 < l0 ∨ 65536 < l1) :
    Calls Try.prog 4 #[.slice a0 l0 c0, .slice a1 l1 c1, .int .u64 c] w fun e w' => e = .returned (.bool true) ∧ Below w.heap.size w w' := by
  rcases hbig with h | h
  all_goals
    go_enter Try.func4, Try.ntmps4
    go_wp2_with fail
    refine (bytes11_any _ _ _ _ _ _ e0 e1 _ w h0 h1 (by omega) (by omega)).mono ?_
    rintro e w' ⟨⟨r, rfl⟩, hw⟩
    obtain rfl : w = w' := hw.symm
    cases r
    all_goals
      go_wp2
      all_goals
        go_ret
        exact ⟨rfl, Below.refl _ _⟩

theorem walk (a0 a1 : Option Addr) (l0 c0 l1 c1 : Nat) (e0 e1 : List Ent) (c : Int) (w : World) (h0 : IsEnts w a0 l0 e0) (h1 : IsEnts w a1 l1 e1) (hl0 : l0 ≤ 9223372036854775807) (hl1 : l1 ≤ 9223372036854775807) (hc : (Lit.int .u64 c).wf = true) :
    Calls Try.prog 4 #[.slice a0 l0 c0, .slice a1 l1 c1, .int .u64 c] w fun e w' => e = .returned (.bool true) ∧ Below w.heap.size w w' := by
  by_cases hbig : 65536 < l0 ∨ 65536 < l1
  · exact big_any a0 a1 l0 c0 l1 c1 e0 e1 c w h0 h1 hl0 hl1 hbig
  · exact law4_core a0 a1 l0 c0 l1 c1 e0 e1 c w h0 h1 hc (by omega) (by omega)

theorem own : ownKnob Try.prog.godebug = none := by kernel_rfl
theorem laidOut : laidOutB Try.prog = true := by kernel_rfl

set_option maxRecDepth 100000 in
theorem lifted (os : Os) (started : os.Started) (H : Type) (enc : TypeId × Value → H) :
    ReturnsInHanded {} Try.checked os 4 .any (Rows.fnCursorKeyIgnoresWhichCollidingKeyCameFirstSpec.pre6 enc Try.prog Try.f4 Rows.fnCursorKeyIgnoresWhichCollidingKeyCameFirstRow.domain false) (Rows.fnCursorKeyIgnoresWhichCollidingKeyCameFirstSpec.post enc Try.prog Try.f4 false true false false) := by
  refine returnsInHanded_of_change (C := Try.checked) own started (by kernel_rfl) Try.func4
    (ChangeSpec.witness6 (enc := enc) (C := Try.checked) false ⟨#[], #[.slice none 0 0, .slice none 0 0, .int .u64 0], []⟩ 8 (by kernel_rfl) (by kernel_rfl) (by kernel_rfl) (by kernel_rfl)) ?_
  intro W base args ds gs before hval0 hW hcnd _
  have hval : ∀ (j : Nat) t v, Try.f4.params[j]? = some t → args[j]? = some v → Value.okWide Try.prog W .any base t v := hval0
  have hW' := hW
  obtain ⟨p, q, hA0, hV, rfl, hfz, hnd⟩ := hW
  have hA : DataW.TrodAll enc Try.prog W 0 (fun _ => true) true Try.f4.params.toList args.toList ds p := hA0
  rw [Try.params4] at hA hval
  obtain ⟨v0, vs0, d0, ds0, p0, q0, hargs, rfl, rfl, h0, r0⟩ := trodAll_cons hA
  obtain ⟨v1, vs1, d1, ds1, p1, q1, rfl, rfl, rfl, h1, r1⟩ := trodAll_cons r0
  obtain ⟨v2, vs2, d2, ds2, p2, q2, rfl, rfl, rfl, h2, r2⟩ := trodAll_cons r1
  obtain ⟨rfl, rfl, rfl⟩ := trodAll_nil r2
  obtain rfl : args = #[v0, v1, v2] := by cases args; simp_all
  obtain ⟨rfl, rfl⟩ := trodVars_none hV
  obtain ⟨a0, len0, cap0, rfl⟩ := okWide_slice Try.underlying22 (hval 0 22 v0 rfl rfl)
  have k0 := h0
  have lt0 : ∀ x ∈ p0, x.block < W.heap.size := by obtain ⟨m, hm⟩ := k0; exact DataW.trod_lt m _ _ _ hm
  obtain ⟨hc0, _, hm0, e0, w0⟩ : len0 ≤ cap0 ∧ (a0 = none → cap0 = 0) ∧ cap0 ≤ maxLen ∧ ∃ es, IsEnts W a0 len0 es := by
    obtain ⟨fuel, hf⟩ := h0
    exact open_ents (by simpa [Value.cells] using hf)
  obtain ⟨a1, len1, cap1, rfl⟩ := okWide_slice Try.underlying22 (hval 1 22 v1 rfl rfl)
  have k1 := h1
  have lt1 : ∀ x ∈ p1, x.block < W.heap.size := by obtain ⟨m, hm⟩ := k1; exact DataW.trod_lt m _ _ _ hm
  obtain ⟨hc1, _, hm1, e1, w1⟩ : len1 ≤ cap1 ∧ (a1 = none → cap1 = 0) ∧ cap1 ≤ maxLen ∧ ∃ es, IsEnts W a1 len1 es := by
    obtain ⟨fuel, hf⟩ := h1
    exact open_ents (by simpa [Value.cells] using hf)
  obtain ⟨c, rfl, rfl, rfl, w2⟩ := open_int Try.underlying23 (hval 2 23 v2 rfl rfl) h2
  clear hA0 hval0
  have big0 : len0 ≤ 9223372036854775807 := by simp only [maxLen] at hm0; omega
  have big1 : len1 ≤ 9223372036854775807 := by simp only [maxLen] at hm1; omega
  refine (walk a0 a1 len0 cap0 len1 cap1 e0 e1 c W w0 w1 big0 big1 w2).mono fun e W' ⟨he, bel⟩ => ?_
  subst he
  exact ⟨_, rfl, _, _, _, [], _, [], hW', trodAll_mk1 (shut_bool Try.underlying4 _), (trodAll_cons_mk (Below.trod laidOut (by kernel_rfl) (of_decide_eq_true (by kernel_rfl)) k0 bel lt0) (trodAll_cons_mk (Below.trod laidOut (by kernel_rfl) (of_decide_eq_true (by kernel_rfl)) k1 bel lt1) (trodAll_cons_mk (shut_int Try.underlying23 w2) trodAll_mk0))), rfl, bel.frame _, fun h => by cases h⟩

theorem over : Rows.fnCursorKeyIgnoresWhichCollidingKeyCameFirstRow.holds Try.pinned (OpenSpec.ofChange Rows.fnCursorKeyIgnoresWhichCollidingKeyCameFirstSpec) :=
  OpenClaim.holds_of_wide 4 Try.f4 rfl rfl rfl rfl rfl rfl rfl ⟨rfl, rfl, rfl, rfl, rfl⟩ rfl rfl rfl rfl rfl (by kernel_rfl) Try.func4 (by kernel_rfl)
    (of_decide_eq_true (by kernel_rfl)) (by unfold Func.isWrapper; first | (rw [if_pos (by decide +kernel)]; kernel_rfl) | (rw [if_neg (by decide +kernel)]; exact ⟨rfl, rfl⟩))
    (fun os started H enc _ => lifted os started H enc)

/-- THE STATEMENT -/
theorem proved : Rows.FnCursorKeyIgnoresWhichCollidingKeyCameFirstSaid := over

end Go.Proofs.Qxb6628365a.fnCursorKeyIgnoresWhichCollidingKeyCameFirst
