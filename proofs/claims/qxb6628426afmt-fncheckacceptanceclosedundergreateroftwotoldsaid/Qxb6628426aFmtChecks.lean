/- (measure.Rounds).Check, (testnet.Testnet).Check, zzOwnOK, zzRoundsOK. -/
import Derived.Test.Qxb6628426aFmtErrorf
namespace Go.Proofs.Qxb6628426aFmt
open Go.RowKit Go.Extern.Stop Go.Stop Go.Extern

/-- the bounds of an int64 -/
def I64 (x : Int) : Prop := -9223372036854775808 ≤ x ∧ x ≤ 9223372036854775807

/-- measurable rounds -/
def rOk (d r k a : Int) : Bool := decide (1 ≤ k) && decide (1 ≤ a) && decide (0 < r) && decide (r ≤ d)
/-- the testnet's own settings -/
def oOk (n p wu sm : Int) : Bool := decide (1 ≤ n) && decide (0 ≤ wu) && decide (0 < sm) && decide (1 ≤ p) && decide (p ≤ 65535)

/-- nil just if ok -/
def ErrOf (ok : Bool) (e : Ending) : Prop := (ok = true ∧ e = .returned .nilIface) ∨ (ok = false ∧ NonNil e)

theorem NonNil.mk (t : TypeId) (v : Value) : NonNil (.returned (.iface t v)) := ⟨t, v, rfl⟩

set_option maxHeartbeats 1000000 in
theorem rounds_any (d r k a : Int) (w : World) (hd : I64 d) (hr : I64 r) :
    Calls Tryf.prog 8 #[.agg #[.int .i64 d, .int .i64 r, .int .i64 k, .int .i64 a]] w fun e w' => ErrOf (rOk d r k a) e ∧ Below w.heap.size w w' := by
  obtain ⟨hd0, hd1⟩ := hd
  obtain ⟨hr0, hr1⟩ := hr
  have B1 : ∀ o : Obj, Below w.heap.size w (w.alloc o) := fun o => (Below.refl _ _).alloc (Nat.le_refl _) o
  by_cases h1 : k < 1 ∨ a < 1
  · have HR : Hid (rOk d r k a = false) := by
      simp [Hid, rOk]; omega
    have h1' : k < 1 ∨ (¬ k < 1 ∧ a < 1) := by omega
    clear h1
    rcases h1' with h1 | ⟨h1, h2⟩
    all_goals
      go_enter Tryf.func8, Tryf.ntmps8
      go_wp2_with fail
      refine (errorf_ints _ (fun _ => by kernel_rfl) k a _ _ (by simp) (by simp)).mono ?_
      rintro e w1 ⟨⟨t, v, rfl⟩, hb⟩
      have hbw : Below w.heap.size w w1 := ((B1 _).alloc (by simp) _).trans (hb.mono (by simp; omega))
      clear hb
      go_wp2
      go_ret
      exact ⟨.inr ⟨HR.out, NonNil.mk _ _⟩, hbw⟩
  · by_cases h2 : r ≤ 0
    · have HR : Hid (rOk d r k a = false) := by
        simp [Hid, rOk]; omega
      have hk : ¬ k < 1 := by omega
      have ha : ¬ a < 1 := by omega
      clear h1
      go_enter Tryf.func8, Tryf.ntmps8
      go_wp2_with fail
      refine (errorf_dur _ (fun _ => by kernel_rfl) r _ _ (by simp) hr0 hr1).mono ?_
      rintro e w1 ⟨⟨t, v, rfl⟩, hb⟩
      have hbw : Below w.heap.size w w1 := ((B1 _).alloc (by simp) _).trans (hb.mono (by simp; omega))
      clear hb
      go_wp2
      go_ret
      exact ⟨.inr ⟨HR.out, NonNil.mk _ _⟩, hbw⟩
    · have hk : ¬ k < 1 := by omega
      have ha : ¬ a < 1 := by omega
      clear h1
      by_cases h3 : d < r
      · have HR : Hid (rOk d r k a = false) := by
          simp [Hid, rOk]; omega
        go_enter Tryf.func8, Tryf.ntmps8
        go_wp2_with fail
        refine (errorf_durs _ (fun _ => by kernel_rfl) d r _ _ (by simp) (by simp) hd0 hd1 hr0 hr1).mono ?_
        rintro e w1 ⟨⟨t, v, rfl⟩, hb⟩
        have hbw : Below w.heap.size w w1 := ((B1 _).alloc (by simp) _).trans (hb.mono (by simp; omega))
        clear hb
        go_wp2
        go_ret
        exact ⟨.inr ⟨HR.out, NonNil.mk _ _⟩, hbw⟩
      · have HR : Hid (rOk d r k a = true) := by
          simp [Hid, rOk]; omega
        go_enter Tryf.func8, Tryf.ntmps8
        go_wp2
        go_ret
        exact ⟨.inl ⟨HR.out, rfl⟩, B1 _⟩

set_option maxHeartbeats 1000000 in
theorem check_any (d r k a : Int) (pr co : ByteArray) (n p se wu sm : Int) (w : World) (hd : I64 d) (hr : I64 r) (hwu : I64 wu) (hsm : I64 sm) :
    Calls Tryf.prog 4 #[.agg #[.int .i64 d, .int .i64 r, .int .i64 k, .int .i64 a, .string pr, .string co, .int .i64 n, .int .i64 p, .int .u64 se, .int .i64 wu, .int .i64 sm]] w fun e w' => ErrOf (oOk n p wu sm && rOk d r k a) e ∧ Below w.heap.size w w' := by
  have B1 : ∀ o : Obj, Below w.heap.size w (w.alloc o) := fun o => (Below.refl _ _).alloc (Nat.le_refl _) o
  by_cases h1 : n < 1
  · have HR : Hid ((oOk n p wu sm && rOk d r k a) = false) := by
      have : oOk n p wu sm = false := by simp [oOk]; omega
      rw [this]; rfl
    go_enter Tryf.func4, Tryf.ntmps4
    go_wp2_with fail
    refine (errorf_int _ (fun _ => by kernel_rfl) n _ _ (by simp)).mono ?_
    rintro e w1 ⟨⟨t, v, rfl⟩, hb⟩
    have hbw : Below w.heap.size w w1 := ((B1 _).alloc (by simp) _).trans (hb.mono (by simp; omega))
    clear hb
    go_wp2
    go_ret
    exact ⟨.inr ⟨HR.out, NonNil.mk _ _⟩, hbw⟩
  · by_cases h2 : wu < 0
    · have HR : Hid ((oOk n p wu sm && rOk d r k a) = false) := by
        have : oOk n p wu sm = false := by simp [oOk]; omega
        rw [this]; rfl
      obtain ⟨q0, q1⟩ := hwu
      go_enter Tryf.func4, Tryf.ntmps4
      go_wp2_with fail
      refine (errorf_dur _ (fun _ => by kernel_rfl) wu _ _ (by simp) q0 q1).mono ?_
      rintro e w1 ⟨⟨t, v, rfl⟩, hb⟩
      have hbw : Below w.heap.size w w1 := ((B1 _).alloc (by simp) _).trans (hb.mono (by simp; omega))
      clear hb
      go_wp2
      go_ret
      exact ⟨.inr ⟨HR.out, NonNil.mk _ _⟩, hbw⟩
    · go_enter Tryf.func4, Tryf.ntmps4
      go_wp2_with fail
      refine (rounds_any d r k a _ hd hr).mono ?_
      rintro e w1 ⟨he, hb⟩
      have hbw : Below w.heap.size w w1 := (B1 _).trans (hb.mono (by simp))
      have c7 := hb.cell (p := ⟨w.heap.size, 7, none⟩) (by simp)
      have c10 := hb.cell (p := ⟨w.heap.size, 10, none⟩) (by simp)
      simp at c7 c10
      rcases he with ⟨hok, rfl⟩ | ⟨hbad, t, v, rfl⟩
      · have HOK : Hid (rOk d r k a = true) := hok
        clear hok
        have hsz : w.heap.size + 1 ≤ w1.heap.size := by have := hb.size; simpa using this
        clear hb
        by_cases h3 : sm ≤ 0
        · have HR : Hid ((oOk n p wu sm && rOk d r k a) = false) := by
            have : oOk n p wu sm = false := by simp [oOk]; omega
            rw [this]; rfl
          obtain ⟨q0, q1⟩ := hsm
          go_wp2_with fail
          refine (errorf_dur _ (fun _ => by kernel_rfl) sm _ _ (by simp) q0 q1).mono ?_
          rintro e w2 ⟨⟨t, v, rfl⟩, hb⟩
          have hbw2 : Below w.heap.size w w2 := (hbw.alloc hbw.size _).trans (hb.mono (by simp; omega))
          clear hb
          go_wp2
          go_ret
          exact ⟨.inr ⟨HR.out, NonNil.mk _ _⟩, hbw2⟩
        · by_cases h4 : p < 1 ∨ 65535 < p
          · have HR : Hid ((oOk n p wu sm && rOk d r k a) = false) := by
              have : oOk n p wu sm = false := by simp [oOk]; omega
              rw [this]; rfl
            have h4' : p < 1 ∨ (¬ p < 1 ∧ 65535 < p) := by omega
            clear h4
            rcases h4' with h4 | ⟨h4, h5⟩
            all_goals
              go_wp2_with fail
              refine (errorf_int _ (fun _ => by kernel_rfl) p _ _ (by simp)).mono ?_
              rintro e w2 ⟨⟨t, v, rfl⟩, hb⟩
              have hbw2 : Below w.heap.size w w2 := (hbw.alloc hbw.size _).trans (hb.mono (by simp; omega))
              clear hb
              go_wp2
              go_ret
              exact ⟨.inr ⟨HR.out, NonNil.mk _ _⟩, hbw2⟩
          · have HR : Hid ((oOk n p wu sm && rOk d r k a) = true) := by
              have : oOk n p wu sm = true := by simp [oOk]; omega
              rw [this]; exact HOK.out
            have h5 : ¬ p < 1 := by omega
            have h6 : ¬ 65535 < p := by omega
            clear h4
            go_wp2
            go_ret
            exact ⟨.inl ⟨HR.out, rfl⟩, hbw⟩
      · have HR : Hid ((oOk n p wu sm && rOk d r k a) = false) := by
          rw [hbad]; simp [Hid]
        clear hbad hb
        go_wp2
        go_ret
        exact ⟨.inr ⟨HR.out, NonNil.mk _ _⟩, hbw⟩

set_option maxHeartbeats 400000 in
theorem own_any (d r k a : Int) (pr co : ByteArray) (n p se wu sm : Int) (w : World) :
    Calls Tryf.prog 5 #[.agg #[.int .i64 d, .int .i64 r, .int .i64 k, .int .i64 a, .string pr, .string co, .int .i64 n, .int .i64 p, .int .u64 se, .int .i64 wu, .int .i64 sm]] w fun e w' => e = .returned (.bool (oOk n p wu sm)) ∧ Below w.heap.size w w' := by
  go_enter Tryf.func5, Tryf.ntmps5
  go_wp2
  all_goals
    go_ret
    exact ⟨by first | (simp [oOk, *]; done) | (simp [oOk, *]; omega), (Below.refl _ _).alloc (Nat.le_refl _) _⟩

set_option maxHeartbeats 400000 in
theorem rok_any (d r k a : Int) (pr co : ByteArray) (n p se wu sm : Int) (w : World) :
    Calls Tryf.prog 6 #[.agg #[.int .i64 d, .int .i64 r, .int .i64 k, .int .i64 a, .string pr, .string co, .int .i64 n, .int .i64 p, .int .u64 se, .int .i64 wu, .int .i64 sm]] w fun e w' => e = .returned (.bool (rOk d r k a)) ∧ Below w.heap.size w w' := by
  go_enter Tryf.func6, Tryf.ntmps6
  go_wp2
  all_goals
    go_ret
    exact ⟨by first | (simp [rOk, *]; done) | (simp [rOk, *]; omega), (Below.refl _ _).alloc (Nat.le_refl _) _⟩

end Go.Proofs.Qxb6628426aFmt
