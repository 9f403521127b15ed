/- FnCheckAcceptanceClosedUnderGreaterOfTwo: the walk. -/
import Derived.Test.Qxb6628426aFmtChecks
import Derived.Deep.DeepCutAuto
namespace Go.Proofs.Qxb6628426aFmt
open Go.RowKit Go.Extern.Stop Go.Stop Go.Extern

/-- a testnet's value -/
abbrev tn (d r k a : Int) (pr co : ByteArray) (n p se wu sm : Int) : Value :=
  .agg #[.int .i64 d, .int .i64 r, .int .i64 k, .int .i64 a, .string pr, .string co, .int .i64 n, .int .i64 p, .int .u64 se, .int .i64 wu, .int .i64 sm]

/-- its cells -/
abbrev tc (d r k a : Int) (pr co : ByteArray) (n p se wu sm : Int) : Obj :=
  .cells #[.int .i64 d, .int .i64 r, .int .i64 k, .int .i64 a, .string pr, .string co, .int .i64 n, .int .i64 p, .int .u64 se, .int .i64 wu, .int .i64 sm] 27

/-- the block's cells -/
theorem tcell {w : World} {b : Nat} {d r k a : Int} {pr co : ByteArray} {n p se wu sm : Int} (h : w.heap[b]? = some (tc d r k a pr co n p se wu sm)) :
    w.cell? ⟨b, 0, none⟩ = some (.int .i64 d) ∧ w.cell? ⟨b, 1, none⟩ = some (.int .i64 r) ∧ w.cell? ⟨b, 2, none⟩ = some (.int .i64 k) ∧ w.cell? ⟨b, 3, none⟩ = some (.int .i64 a)
    ∧ w.cell? ⟨b, 4, none⟩ = some (.string pr) ∧ w.cell? ⟨b, 5, none⟩ = some (.string co) ∧ w.cell? ⟨b, 6, none⟩ = some (.int .i64 n) ∧ w.cell? ⟨b, 7, none⟩ = some (.int .i64 p)
    ∧ w.cell? ⟨b, 8, none⟩ = some (.int .u64 se) ∧ w.cell? ⟨b, 9, none⟩ = some (.int .i64 wu) ∧ w.cell? ⟨b, 10, none⟩ = some (.int .i64 sm) := by
  simp [World.cell?, h, tc]

theorem heap_last (w : World) (o : Obj) : (w.alloc o).heap[w.heap.size]? = some o := by
  show (w.heap.push o)[w.heap.size]? = some o
  simp

/-- an error's value: nil just if ok -/
def VOf (ok : Bool) (v : Value) : Prop := (ok = true ∧ v = .nilIface) ∨ (ok = false ∧ ∃ t x, v = .iface t x)

theorem ErrOf.val {ok : Bool} {e : Ending} (h : ErrOf ok e) : ∃ v, e = .returned v ∧ Hid (VOf ok v) := by
  rcases h with ⟨h, rfl⟩ | ⟨h, t, x, rfl⟩
  · exact ⟨_, rfl, .inl ⟨h, rfl⟩⟩
  · exact ⟨_, rfl, .inr ⟨h, t, x, rfl⟩⟩

theorem mx_i64 {x y X : Int} (h : X = if x < y then y else x) (hx : I64 x) (hy : I64 y) : I64 X := by
  rw [h]; split
  · exact hy
  · exact hx

/-- the plain law: the greater of two that pass passes -/
theorem great_law {d1 r1 k1 a1 n1 p1 wu1 sm1 d2 r2 k2 a2 n2 p2 wu2 sm2 D K A N P WU SM : Int}
    (hD : D = if d1 < d2 then d2 else d1) (hK : K = if k1 < k2 then k2 else k1) (hA : A = if a1 < a2 then a2 else a1) (hN : N = if n1 < n2 then n2 else n1)
    (hP : P = if p1 < p2 then p2 else p1) (hWU : WU = if wu1 < wu2 then wu2 else wu1) (hSM : SM = if sm1 < sm2 then sm2 else sm1)
    (h1 : (oOk n1 p1 wu1 sm1 && rOk d1 r1 k1 a1) = true) (h2 : (oOk n2 p2 wu2 sm2 && rOk d2 r2 k2 a2) = true) : (oOk N P WU SM && rOk D r1 K A) = true := by
  simp only [oOk, rOk, Bool.and_eq_true, decide_eq_true_eq] at *
  refine ⟨⟨⟨⟨⟨?_, ?_⟩, ?_⟩, ?_⟩, ?_⟩, ⟨⟨?_, ?_⟩, ?_⟩, ?_⟩ <;> omega

set_option maxRecDepth 10000 in
set_option maxHeartbeats 2000000 in
theorem early1 (d1 r1 k1 a1 : Int) (pr1 co1 : ByteArray) (n1 p1 se1 wu1 sm1 : Int) (d2 r2 k2 a2 : Int) (pr2 co2 : ByteArray) (n2 p2 se2 wu2 sm2 : Int) (w : World)
     (c1 : 1048576 < (pr1.size : Int)) :
    Calls Tryf.prog 3 #[tn d1 r1 k1 a1 pr1 co1 n1 p1 se1 wu1 sm1, tn d2 r2 k2 a2 pr2 co2 n2 p2 se2 wu2 sm2] w fun e w' => e = .returned (.bool true) ∧ Below w.heap.size w w' := by
  have B1 : ∀ o : Obj, Below w.heap.size w (w.alloc o) := fun o => (Below.refl _ _).alloc (Nat.le_refl _) o
  go_enter Tryf.func3, Tryf.ntmps3
  go_wp2
  go_ret
  exact ⟨rfl, (B1 _).alloc (by simp) _⟩

set_option maxRecDepth 10000 in
set_option maxHeartbeats 2000000 in
theorem early2 (d1 r1 k1 a1 : Int) (pr1 co1 : ByteArray) (n1 p1 se1 wu1 sm1 : Int) (d2 r2 k2 a2 : Int) (pr2 co2 : ByteArray) (n2 p2 se2 wu2 sm2 : Int) (w : World)
    (c1 : ¬ 1048576 < (pr1.size : Int)) (c2 : 1048576 - (pr1.size : Int) < (co1.size : Int)) :
    Calls Tryf.prog 3 #[tn d1 r1 k1 a1 pr1 co1 n1 p1 se1 wu1 sm1, tn d2 r2 k2 a2 pr2 co2 n2 p2 se2 wu2 sm2] w fun e w' => e = .returned (.bool true) ∧ Below w.heap.size w w' := by
  have B1 : ∀ o : Obj, Below w.heap.size w (w.alloc o) := fun o => (Below.refl _ _).alloc (Nat.le_refl _) o
  go_enter Tryf.func3, Tryf.ntmps3
  go_wp2
  go_ret
  exact ⟨rfl, (B1 _).alloc (by simp) _⟩

set_option maxRecDepth 10000 in
set_option maxHeartbeats 2000000 in
theorem early3 (d1 r1 k1 a1 : Int) (pr1 co1 : ByteArray) (n1 p1 se1 wu1 sm1 : Int) (d2 r2 k2 a2 : Int) (pr2 co2 : ByteArray) (n2 p2 se2 wu2 sm2 : Int) (w : World)
    (c1 : ¬ 1048576 < (pr1.size : Int)) (c2 : ¬ 1048576 - (pr1.size : Int) < (co1.size : Int)) (c3 : 1048576 - ((pr1.size : Int) + (co1.size : Int)) < (pr2.size : Int)) :
    Calls Tryf.prog 3 #[tn d1 r1 k1 a1 pr1 co1 n1 p1 se1 wu1 sm1, tn d2 r2 k2 a2 pr2 co2 n2 p2 se2 wu2 sm2] w fun e w' => e = .returned (.bool true) ∧ Below w.heap.size w w' := by
  have B1 : ∀ o : Obj, Below w.heap.size w (w.alloc o) := fun o => (Below.refl _ _).alloc (Nat.le_refl _) o
  go_enter Tryf.func3, Tryf.ntmps3
  go_wp2
  go_ret
  exact ⟨rfl, (B1 _).alloc (by simp) _⟩

set_option maxRecDepth 10000 in
set_option maxHeartbeats 2000000 in
theorem early4 (d1 r1 k1 a1 : Int) (pr1 co1 : ByteArray) (n1 p1 se1 wu1 sm1 : Int) (d2 r2 k2 a2 : Int) (pr2 co2 : ByteArray) (n2 p2 se2 wu2 sm2 : Int) (w : World)
    (c1 : ¬ 1048576 < (pr1.size : Int)) (c2 : ¬ 1048576 - (pr1.size : Int) < (co1.size : Int)) (c3 : ¬ 1048576 - ((pr1.size : Int) + (co1.size : Int)) < (pr2.size : Int)) (c4 : 1048576 - ((pr1.size : Int) + (co1.size : Int) + (pr2.size : Int)) < (co2.size : Int)) :
    Calls Tryf.prog 3 #[tn d1 r1 k1 a1 pr1 co1 n1 p1 se1 wu1 sm1, tn d2 r2 k2 a2 pr2 co2 n2 p2 se2 wu2 sm2] w fun e w' => e = .returned (.bool true) ∧ Below w.heap.size w w' := by
  have B1 : ∀ o : Obj, Below w.heap.size w (w.alloc o) := fun o => (Below.refl _ _).alloc (Nat.le_refl _) o
  go_enter Tryf.func3, Tryf.ntmps3
  go_wp2
  go_ret
  exact ⟨rfl, (B1 _).alloc (by simp) _⟩

set_option maxRecDepth 10000 in
set_option maxHeartbeats 2000000 in
theorem great_any (d1 r1 k1 a1 : Int) (pr1 co1 : ByteArray) (n1 p1 se1 wu1 sm1 : Int) (d2 r2 k2 a2 : Int) (pr2 co2 : ByteArray) (n2 p2 se2 wu2 sm2 : Int) (w : World)
    (hd1 : I64 d1) (hr1 : I64 r1) (hwu1 : I64 wu1) (hsm1 : I64 sm1) (hd2 : I64 d2) (hr2 : I64 r2) (hwu2 : I64 wu2) (hsm2 : I64 sm2) :
    Calls Tryf.prog 3 #[tn d1 r1 k1 a1 pr1 co1 n1 p1 se1 wu1 sm1, tn d2 r2 k2 a2 pr2 co2 n2 p2 se2 wu2 sm2] w fun e w' => e = .returned (.bool true) ∧ Below w.heap.size w w' := by
  have B1 : ∀ o : Obj, Below w.heap.size w (w.alloc o) := fun o => (Below.refl _ _).alloc (Nat.le_refl _) o
  by_cases c1 : 1048576 < (pr1.size : Int)
  · exact early1 d1 r1 k1 a1 pr1 co1 n1 p1 se1 wu1 sm1 d2 r2 k2 a2 pr2 co2 n2 p2 se2 wu2 sm2 w c1
  by_cases c2 : 1048576 - (pr1.size : Int) < (co1.size : Int)
  · exact early2 d1 r1 k1 a1 pr1 co1 n1 p1 se1 wu1 sm1 d2 r2 k2 a2 pr2 co2 n2 p2 se2 wu2 sm2 w c1 c2
  by_cases c3 : 1048576 - ((pr1.size : Int) + (co1.size : Int)) < (pr2.size : Int)
  · exact early3 d1 r1 k1 a1 pr1 co1 n1 p1 se1 wu1 sm1 d2 r2 k2 a2 pr2 co2 n2 p2 se2 wu2 sm2 w c1 c2 c3
  by_cases c4 : 1048576 - ((pr1.size : Int) + (co1.size : Int) + (pr2.size : Int)) < (co2.size : Int)
  · exact early4 d1 r1 k1 a1 pr1 co1 n1 p1 se1 wu1 sm1 d2 r2 k2 a2 pr2 co2 n2 p2 se2 wu2 sm2 w c1 c2 c3 c4
  obtain ⟨N, hN⟩ : ∃ N : Int, Hid (N = if n1 < n2 then n2 else n1) := ⟨_, rfl⟩
  obtain ⟨K, hK⟩ : ∃ K : Int, Hid (K = if k1 < k2 then k2 else k1) := ⟨_, rfl⟩
  obtain ⟨A, hA⟩ : ∃ A : Int, Hid (A = if a1 < a2 then a2 else a1) := ⟨_, rfl⟩
  obtain ⟨P, hP⟩ : ∃ P : Int, Hid (P = if p1 < p2 then p2 else p1) := ⟨_, rfl⟩
  obtain ⟨WU, hWU⟩ : ∃ WU : Int, Hid (WU = if wu1 < wu2 then wu2 else wu1) := ⟨_, rfl⟩
  obtain ⟨SM, hSM⟩ : ∃ SM : Int, Hid (SM = if sm1 < sm2 then sm2 else sm1) := ⟨_, rfl⟩
  obtain ⟨D, hD⟩ : ∃ D : Int, Hid (D = if d1 < d2 then d2 else d1) := ⟨_, rfl⟩
  go_enter Tryf.func3, Tryf.ntmps3
  go_upto_if 62 with fail
  go_cut [5] (fun _ wx => wx = ((w.alloc (tc d1 r1 k1 a1 pr1 co1 n1 p1 se1 wu1 sm1)).alloc (tc d2 r2 k2 a2 pr2 co2 n2 p2 se2 wu2 sm2)).alloc (tc d1 r1 k1 a1 pr2 co2 N p1 se2 wu1 sm1))
  case first =>
    as_aux_lemma =>
      by_cases hx : n1 < n2
      · have hy : N = n2 := hN.out.trans (if_pos hx)
        go_wp2_with fail
        go_meet
        rw [hy]
      · have hy : N = n1 := hN.out.trans (if_neg hx)
        go_wp2_with fail
        go_meet
        rw [hy]
  case rest =>
  obtain rfl := hcut
  go_upto_if 72 with fail
  go_cut [5] (fun _ wx => wx = ((w.alloc (tc d1 r1 k1 a1 pr1 co1 n1 p1 se1 wu1 sm1)).alloc (tc d2 r2 k2 a2 pr2 co2 n2 p2 se2 wu2 sm2)).alloc (tc d1 r1 K a1 pr2 co2 N p1 se2 wu1 sm1))
  case first =>
    as_aux_lemma =>
      by_cases hx : k1 < k2
      · have hy : K = k2 := hK.out.trans (if_pos hx)
        go_wp2_with fail
        go_meet
        rw [hy]
      · have hy : K = k1 := hK.out.trans (if_neg hx)
        go_wp2_with fail
        go_meet
        rw [hy]
  case rest =>
  obtain rfl := hcut
  go_upto_if 84 with fail
  go_cut [5] (fun _ wx => wx = ((w.alloc (tc d1 r1 k1 a1 pr1 co1 n1 p1 se1 wu1 sm1)).alloc (tc d2 r2 k2 a2 pr2 co2 n2 p2 se2 wu2 sm2)).alloc (tc d1 r1 K A pr2 co2 N p1 se2 wu1 sm1))
  case first =>
    as_aux_lemma =>
      by_cases hx : a1 < a2
      · have hy : A = a2 := hA.out.trans (if_pos hx)
        go_wp2_with fail
        go_meet
        rw [hy]
      · have hy : A = a1 := hA.out.trans (if_neg hx)
        go_wp2_with fail
        go_meet
        rw [hy]
  case rest =>
  obtain rfl := hcut
  go_upto_if 94 with fail
  go_cut [5] (fun _ wx => wx = ((w.alloc (tc d1 r1 k1 a1 pr1 co1 n1 p1 se1 wu1 sm1)).alloc (tc d2 r2 k2 a2 pr2 co2 n2 p2 se2 wu2 sm2)).alloc (tc d1 r1 K A pr2 co2 N P se2 wu1 sm1))
  case first =>
    as_aux_lemma =>
      by_cases hx : p1 < p2
      · have hy : P = p2 := hP.out.trans (if_pos hx)
        go_wp2_with fail
        go_meet
        rw [hy]
      · have hy : P = p1 := hP.out.trans (if_neg hx)
        go_wp2_with fail
        go_meet
        rw [hy]
  case rest =>
  obtain rfl := hcut
  go_upto_if 102 with fail
  go_cut [5] (fun _ wx => wx = ((w.alloc (tc d1 r1 k1 a1 pr1 co1 n1 p1 se1 wu1 sm1)).alloc (tc d2 r2 k2 a2 pr2 co2 n2 p2 se2 wu2 sm2)).alloc (tc d1 r1 K A pr2 co2 N P se2 WU sm1))
  case first =>
    as_aux_lemma =>
      by_cases hx : wu1 < wu2
      · have hy : WU = wu2 := hWU.out.trans (if_pos hx)
        go_wp2_with fail
        go_meet
        rw [hy]
      · have hy : WU = wu1 := hWU.out.trans (if_neg hx)
        go_wp2_with fail
        go_meet
        rw [hy]
  case rest =>
  obtain rfl := hcut
  go_upto_if 110 with fail
  go_cut [5] (fun _ wx => wx = ((w.alloc (tc d1 r1 k1 a1 pr1 co1 n1 p1 se1 wu1 sm1)).alloc (tc d2 r2 k2 a2 pr2 co2 n2 p2 se2 wu2 sm2)).alloc (tc d1 r1 K A pr2 co2 N P se2 WU SM))
  case first =>
    as_aux_lemma =>
      by_cases hx : sm1 < sm2
      · have hy : SM = sm2 := hSM.out.trans (if_pos hx)
        go_wp2_with fail
        go_meet
        rw [hy]
      · have hy : SM = sm1 := hSM.out.trans (if_neg hx)
        go_wp2_with fail
        go_meet
        rw [hy]
  case rest =>
  obtain rfl := hcut
  go_upto_if 120 with fail
  go_cut [5] (fun _ wx => wx = ((w.alloc (tc d1 r1 k1 a1 pr1 co1 n1 p1 se1 wu1 sm1)).alloc (tc d2 r2 k2 a2 pr2 co2 n2 p2 se2 wu2 sm2)).alloc (tc D r1 K A pr2 co2 N P se2 WU SM))
  case first =>
    as_aux_lemma =>
      by_cases hx : d1 < d2
      · have hy : D = d2 := hD.out.trans (if_pos hx)
        go_wp2_with fail
        go_meet
        rw [hy]
      · have hy : D = d1 := hD.out.trans (if_neg hx)
        go_wp2_with fail
        go_meet
        rw [hy]
  case rest =>
  obtain rfl := hcut
  have hD' : I64 D := mx_i64 hD.out hd1 hd2
  have hWU' : I64 WU := mx_i64 hWU.out hwu1 hwu2
  have hSM' : I64 SM := mx_i64 hSM.out hsm1 hsm2
  obtain ⟨W, hW⟩ : ∃ W : World, Hid (W = ((w.alloc (tc d1 r1 k1 a1 pr1 co1 n1 p1 se1 wu1 sm1)).alloc (tc d2 r2 k2 a2 pr2 co2 n2 p2 se2 wu2 sm2)).alloc (tc D r1 K A pr2 co2 N P se2 WU SM)) := ⟨_, rfl⟩
  have hWA : W.heap[w.heap.size]? = some (tc d1 r1 k1 a1 pr1 co1 n1 p1 se1 wu1 sm1) := by
    rw [hW.out]; exact (Below.heap_alloc _ _ _ (by simp; omega)).trans ((Below.heap_alloc _ _ _ (by simp)).trans (heap_last _ _))
  have hWB : W.heap[w.heap.size + 1]? = some (tc d2 r2 k2 a2 pr2 co2 n2 p2 se2 wu2 sm2) := by
    rw [hW.out]; exact (Below.heap_alloc _ _ _ (by simp)).trans (by simpa using heap_last (w.alloc (tc d1 r1 k1 a1 pr1 co1 n1 p1 se1 wu1 sm1)) (tc d2 r2 k2 a2 pr2 co2 n2 p2 se2 wu2 sm2))
  have hWC : W.heap[w.heap.size + 1 + 1]? = some (tc D r1 K A pr2 co2 N P se2 WU SM) := by
    rw [hW.out]; simpa using heap_last ((w.alloc (tc d1 r1 k1 a1 pr1 co1 n1 p1 se1 wu1 sm1)).alloc (tc d2 r2 k2 a2 pr2 co2 n2 p2 se2 wu2 sm2)) (tc D r1 K A pr2 co2 N P se2 WU SM)
  have hWb : Hid (Below w.heap.size w W) := by
    show Below w.heap.size w W
    rw [hW.out]; exact ((B1 _).alloc (by simp) _).alloc (by simp; omega) _
  have hWs : W.heap.size = w.heap.size + 1 + 1 + 1 := by
    rw [hW.out]; simp
  have G : ∀ w1 : World, Below W.heap.size W w1 → w1.heap[w.heap.size]? = some (tc d1 r1 k1 a1 pr1 co1 n1 p1 se1 wu1 sm1) ∧ w1.heap[w.heap.size + 1]? = some (tc d2 r2 k2 a2 pr2 co2 n2 p2 se2 wu2 sm2) ∧ w1.heap[w.heap.size + 1 + 1]? = some (tc D r1 K A pr2 co2 N P se2 WU SM) := by
    intro w1 hb
    exact ⟨(hb.block _ (by omega)).trans hWA, (hb.block _ (by omega)).trans hWB, (hb.block _ (by omega)).trans hWC⟩
  rw [← hW.out]
  have hb0 : Hid (Below W.heap.size W W) := Below.refl _ _
  have Q1 := tcell (G W hb0.out).1
  obtain ⟨q0, q1, q2, q3, q4, q5, q6, q7, q8, q9, q10⟩ := Q1
  go_wp2_with fail
  refine (check_any d1 r1 k1 a1 pr1 co1 n1 p1 se1 wu1 sm1 _ hd1 hr1 hwu1 hsm1).mono ?_
  rintro e w1 ⟨he, hb⟩
  obtain ⟨v1, rfl, hv1⟩ := he.val
  have hb1 : Hid (Below W.heap.size W w1) := hb0.out.trans (hb.mono hb0.out.size)
  clear hb he q0 q1 q2 q3 q4 q5 q6 q7 q8 q9 q10
  have Q2 := tcell (G w1 hb1.out).2.1
  obtain ⟨q0, q1, q2, q3, q4, q5, q6, q7, q8, q9, q10⟩ := Q2
  go_wp2_with fail
  refine (check_any d2 r2 k2 a2 pr2 co2 n2 p2 se2 wu2 sm2 _ hd2 hr2 hwu2 hsm2).mono ?_
  rintro e w2 ⟨he, hb⟩
  obtain ⟨v2, rfl, hv2⟩ := he.val
  have hb2 : Hid (Below W.heap.size W w2) := hb1.out.trans (hb.mono hb1.out.size)
  clear hb he q0 q1 q2 q3 q4 q5 q6 q7 q8 q9 q10
  have Q3 := tcell (G w2 hb2.out).2.2
  obtain ⟨q0, q1, q2, q3, q4, q5, q6, q7, q8, q9, q10⟩ := Q3
  go_wp2_with fail
  refine (check_any D r1 K A pr2 co2 N P se2 WU SM _ hD' hr1 hWU' hSM').mono ?_
  rintro e w3 ⟨he, hb⟩
  obtain ⟨v3, rfl, hv3⟩ := he.val
  have hb3 : Hid (Below W.heap.size W w3) := hb2.out.trans (hb.mono hb2.out.size)
  clear hb he q0 q1 q2 q3 q4 q5 q6 q7 q8 q9 q10
  go_upto_region 33 with fail
  go_cut [10] (fun s wx => s = .bool (oOk n1 p1 wu1 sm1 && rOk d1 r1 k1 a1) ∧ Below W.heap.size W wx)
  case first =>
    as_aux_lemma =>
      have Q := tcell (G w3 hb3.out).1
      obtain ⟨q0, q1, q2, q3, q4, q5, q6, q7, q8, q9, q10⟩ := Q
      rcases hq : oOk n1 p1 wu1 sm1 with _ | _
      · go_wp2_with fail
        refine (own_any d1 r1 k1 a1 pr1 co1 n1 p1 se1 wu1 sm1 _).mono ?_
        rw [hq]
        rintro e wi ⟨rfl, hb⟩
        have hbi : Below W.heap.size W wi := hb3.out.trans (hb.mono hb3.out.size)
        clear hb q0 q1 q2 q3 q4 q5 q6 q7 q8 q9 q10
        go_wp2_with fail
        go_meet
        exact ⟨by rw [hq, Bool.false_and], hbi⟩
      · go_wp2_with fail
        refine (own_any d1 r1 k1 a1 pr1 co1 n1 p1 se1 wu1 sm1 _).mono ?_
        rw [hq]
        rintro e wi ⟨rfl, hb⟩
        have hbi : Hid (Below W.heap.size W wi) := hb3.out.trans (hb.mono hb3.out.size)
        clear hb q0 q1 q2 q3 q4 q5 q6 q7 q8 q9 q10
        have Q := tcell (G wi hbi.out).1
        obtain ⟨q0, q1, q2, q3, q4, q5, q6, q7, q8, q9, q10⟩ := Q
        go_wp2_with fail
        refine (rok_any d1 r1 k1 a1 pr1 co1 n1 p1 se1 wu1 sm1 _).mono ?_
        rintro e wj ⟨rfl, hb⟩
        have hbj : Below W.heap.size W wj := hbi.out.trans (hb.mono hbi.out.size)
        clear hb q0 q1 q2 q3 q4 q5 q6 q7 q8 q9 q10
        go_wp2_with fail
        go_meet
        exact ⟨by rw [hq, Bool.true_and], hbj⟩
  case rest =>
  obtain ⟨rfl, hcut⟩ := hcut
  obtain ⟨w4, hw4⟩ : ∃ wy : World, wy = wc := ⟨_, rfl⟩
  rw [← hw4] at hcut ⊢
  have hb4 : Hid (Below W.heap.size W w4) := hcut
  clear hcut hw4 wc
  go_upto_region 34 with fail
  go_cut [11] (fun s wx => s = .bool (oOk n2 p2 wu2 sm2 && rOk d2 r2 k2 a2) ∧ Below W.heap.size W wx)
  case first =>
    as_aux_lemma =>
      have Q := tcell (G w4 hb4.out).2.1
      obtain ⟨q0, q1, q2, q3, q4, q5, q6, q7, q8, q9, q10⟩ := Q
      rcases hq : oOk n2 p2 wu2 sm2 with _ | _
      · go_wp2_with fail
        refine (own_any d2 r2 k2 a2 pr2 co2 n2 p2 se2 wu2 sm2 _).mono ?_
        rw [hq]
        rintro e wi ⟨rfl, hb⟩
        have hbi : Below W.heap.size W wi := hb4.out.trans (hb.mono hb4.out.size)
        clear hb q0 q1 q2 q3 q4 q5 q6 q7 q8 q9 q10
        go_wp2_with fail
        go_meet
        exact ⟨by rw [hq, Bool.false_and], hbi⟩
      · go_wp2_with fail
        refine (own_any d2 r2 k2 a2 pr2 co2 n2 p2 se2 wu2 sm2 _).mono ?_
        rw [hq]
        rintro e wi ⟨rfl, hb⟩
        have hbi : Hid (Below W.heap.size W wi) := hb4.out.trans (hb.mono hb4.out.size)
        clear hb q0 q1 q2 q3 q4 q5 q6 q7 q8 q9 q10
        have Q := tcell (G wi hbi.out).2.1
        obtain ⟨q0, q1, q2, q3, q4, q5, q6, q7, q8, q9, q10⟩ := Q
        go_wp2_with fail
        refine (rok_any d2 r2 k2 a2 pr2 co2 n2 p2 se2 wu2 sm2 _).mono ?_
        rintro e wj ⟨rfl, hb⟩
        have hbj : Below W.heap.size W wj := hbi.out.trans (hb.mono hbi.out.size)
        clear hb q0 q1 q2 q3 q4 q5 q6 q7 q8 q9 q10
        go_wp2_with fail
        go_meet
        exact ⟨by rw [hq, Bool.true_and], hbj⟩
  case rest =>
  obtain ⟨rfl, hcut⟩ := hcut
  obtain ⟨w5, hw5⟩ : ∃ wy : World, wy = wc := ⟨_, rfl⟩
  rw [← hw5] at hcut ⊢
  have hb5 : Hid (Below W.heap.size W w5) := hcut
  clear hcut hw5 wc
  go_upto_region 35 with fail
  go_cut [12] (fun s wx => s = .bool (oOk N P WU SM && rOk D r1 K A) ∧ Below W.heap.size W wx)
  case first =>
    as_aux_lemma =>
      have Q := tcell (G w5 hb5.out).2.2
      obtain ⟨q0, q1, q2, q3, q4, q5, q6, q7, q8, q9, q10⟩ := Q
      rcases hq : oOk N P WU SM with _ | _
      · go_wp2_with fail
        refine (own_any D r1 K A pr2 co2 N P se2 WU SM _).mono ?_
        rw [hq]
        rintro e wi ⟨rfl, hb⟩
        have hbi : Below W.heap.size W wi := hb5.out.trans (hb.mono hb5.out.size)
        clear hb q0 q1 q2 q3 q4 q5 q6 q7 q8 q9 q10
        go_wp2_with fail
        go_meet
        exact ⟨by rw [hq, Bool.false_and], hbi⟩
      · go_wp2_with fail
        refine (own_any D r1 K A pr2 co2 N P se2 WU SM _).mono ?_
        rw [hq]
        rintro e wi ⟨rfl, hb⟩
        have hbi : Hid (Below W.heap.size W wi) := hb5.out.trans (hb.mono hb5.out.size)
        clear hb q0 q1 q2 q3 q4 q5 q6 q7 q8 q9 q10
        have Q := tcell (G wi hbi.out).2.2
        obtain ⟨q0, q1, q2, q3, q4, q5, q6, q7, q8, q9, q10⟩ := Q
        go_wp2_with fail
        refine (rok_any D r1 K A pr2 co2 N P se2 WU SM _).mono ?_
        rintro e wj ⟨rfl, hb⟩
        have hbj : Below W.heap.size W wj := hbi.out.trans (hb.mono hbi.out.size)
        clear hb q0 q1 q2 q3 q4 q5 q6 q7 q8 q9 q10
        go_wp2_with fail
        go_meet
        exact ⟨by rw [hq, Bool.true_and], hbj⟩
  case rest =>
  obtain ⟨rfl, hcut⟩ := hcut
  obtain ⟨w6, hw6⟩ : ∃ wy : World, wy = wc := ⟨_, rfl⟩
  rw [← hw6] at hcut ⊢
  have hb6 : Hid (Below W.heap.size W w6) := hcut
  clear hcut hw6 wc
  have L : Hid ((oOk n1 p1 wu1 sm1 && rOk d1 r1 k1 a1) = true → (oOk n2 p2 wu2 sm2 && rOk d2 r2 k2 a2) = true → (oOk N P WU SM && rOk D r1 K A) = true) := great_law hD.out hK.out hA.out hN.out hP.out hWU.out hSM.out
  have hend : Hid (Below w.heap.size w w6) := hWb.out.trans (hb6.out.mono hWb.out.size)
  have hv1 := hv1.out
  have hv2 := hv2.out
  have hv3 := hv3.out
  generalize (oOk n1 p1 wu1 sm1 && rOk d1 r1 k1 a1) = o1 at *
  generalize (oOk n2 p2 wu2 sm2 && rOk d2 r2 k2 a2) = o2 at *
  generalize (oOk N P WU SM && rOk D r1 K A) = o3 at *
  clear G
  rcases hv1 with ⟨rfl, rfl⟩ | ⟨rfl, t1, x1, rfl⟩ <;> rcases hv2 with ⟨rfl, rfl⟩ | ⟨rfl, t2, x2, rfl⟩ <;> rcases hv3 with ⟨rfl, rfl⟩ | ⟨rfl, t3, x3, rfl⟩
  all_goals first
    | (exact absurd (L.out rfl rfl) (by decide))
    | (as_aux_lemma =>
        go_wp2
        go_ret
        exact ⟨rfl, hend.out⟩)
end Go.Proofs.Qxb6628426aFmt
