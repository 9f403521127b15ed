/- (time.Duration).format and String. -/
import Derived.Test.Qxb6628426aFmtDur
import Derived.Laws.IdiomCopy
namespace Go.Proofs.Qxb6628426aFmt
open Go.RowKit

theorem size5 (w : World) : (sizeOf 5).run Tryf.prog w = .ok 1 w := by kernel_rfl

theorem run_copy_micro (b : Nat) (ty : TypeId) (w : World) (h : IsBuf w b) :
    (Builtin.copy_ #[43, 9] ty #[.slice (some ⟨b, 29, none⟩) 3 3, .string { data := #[194, 181] }]).run Tryf.prog w = .ok (.int .i64 2) ((w.setCell ⟨b, 29, none⟩ (.int .u8 194)).setCell ⟨b, 30, none⟩ (.int .u8 181)) := by
  have hst := run_storeCells_cells (P := Tryf.prog) b 29 [Value.int .u8 194, .int .u8 181] 0 w (fun j hj => by
    simp only [List.length_cons, List.length_nil] at hj
    obtain ⟨⟨m, hm⟩, _⟩ := h (29 + 0 + j) (by omega)
    rw [hm]; rfl) (fun j hj => by
    simp only [List.length_cons, List.length_nil] at hj
    exact (h (29 + 0 + j) (by omega)).2) (by simp [Value.oneCell'])
  simp [Builtin.copy_, run_underlying Tryf.underlying43, Builtin.lenOf, Builtin.firstCells]
  rw [show (ByteArray.mk #[194, 181]).size.min 3 = 2 from rfl, show List.take 2 [Value.int .u8 194, Value.int .u8 181] = [Value.int .u8 194, Value.int .u8 181] from rfl, hst]
  rfl

theorem u_neg (d : Int) (h0 : d < 0) (h1 : -9223372036854775808 ≤ d) : IntKind.u64.wrap (-IntKind.u64.wrap d) = -d := by
  simp [IntKind.wrap, IntKind.signed, IntKind.bits]
  omega
theorem u_pos (d : Int) (h0 : 0 ≤ d) (h1 : d ≤ 9223372036854775807) : IntKind.u64.wrap d = d := by
  simp [IntKind.wrap, IntKind.signed, IntKind.bits]
  omega

theorem slice_hi (b n : Nat) (h : Int) (hn : n ≤ 32) (hh : h = (n : Int)) (W : World) : (Instr.sliceAt 40 (.pointer (some ⟨b, 0, none⟩)) none (some (.int .i64 h)) none).run Tryf.prog W = .ok (.slice (some ⟨b, 0, none⟩) n 32) W := by
  have h1 : (sizeOf (Tryf.prog.elem 40)).run Tryf.prog W = .ok 1 W := by kernel_rfl
  have h2 : Tryf.prog.arrayLen 40 = 32 := by kernel_rfl
  have h3 : Tryf.prog.underlying 40 = some (.array (Tryf.prog.arrayLen 40) (Tryf.prog.elem 40)) := by kernel_rfl
  subst hh
  rw [run_sliceAt_array_h (P := Tryf.prog) (w := W) 40 ⟨b, 0, none⟩ h3 .i64 n (by omega) (by rw [h2]; omega), h1, h2]
  simp [slicedAt, Result.andThen, Addr.add]

theorem frac_int (b L c : Nat) (v : Int) (p : Nat) (q : Int) (w : World) (hq : q = (p : Int)) (hb : IsBuf w b) (hL : L ≤ 32) (hp : p ≤ 9) (hpL : p + 1 ≤ L) (hv0 : 0 ≤ v) (hv : v ≤ 18446744073709551615) :
    Calls Tryf.prog 14 #[.slice (some ⟨b, 0, none⟩) L c, .int .u64 v, .int .i64 q] w fun e w' => (∃ (n : Nat) (u : Int), e = .returned (.tuple #[.int .i64 n, .int .u64 u]) ∧ L - (p + 1) ≤ n ∧ n ≤ L ∧ u = v / 10 ^ p) ∧ IsBuf w' b ∧ Below b w w' := by
  subst hq
  exact frac_any b L c v p w hb hL hp hpL hv0 hv

theorem Below.two {b : Nat} {w : World} (x y : Value) (i j : Nat) : Below b w ((w.setCell ⟨b, i, none⟩ x).setCell ⟨b, j, none⟩ y) :=
  ((Below.refl b w).setCell (p := ⟨b, i, none⟩) (Nat.le_refl _) _).setCell (p := ⟨b, j, none⟩) (Nat.le_refl _) _

set_option maxHeartbeats 1000000 in
theorem format_neg (b : Nat) (d : Int) (w : World) (hb : IsBuf w b) (h0 : d < 0) (h1 : -9223372036854775808 ≤ d) :
    Calls Tryf.prog 13 #[.int .i64 d, .pointer (some ⟨b, 0, none⟩)] w fun e w' => IntIn 7 31 e ∧ IsBuf w' b ∧ Below b w w' := by
  obtain ⟨⟨m1, hm1⟩, hf1⟩ := hb 31 (by omega)
  obtain ⟨⟨m0, hm0⟩, hf0⟩ := hb 30 (by omega)
  have HB : Hid (IsBuf w b) := hb
  clear hb
  obtain ⟨u, hu, hu0, hu1⟩ : ∃ u, IntKind.u64.wrap (-IntKind.u64.wrap d) = u ∧ 0 < u ∧ u ≤ 9223372036854775808 := ⟨_, u_neg d h0 h1, by omega, by omega⟩
  have hne : (u == 0) = false := by simp; omega
  by_cases c1 : u < 1000
  · have c3 : u < 1000000000 := by omega
    go_enter Tryf.func13, Tryf.ntmps13
    go_wp2_with fail
    refine (frac_int b 30 32 u 0 _ _ rfl ((HB.out.set 31 (by omega) _).set 30 (by omega) _) (by omega) (by omega) (by omega) (by omega) (by omega)).mono ?_
    rintro e w1 ⟨⟨n, x, rfl, hn1, hn2, hx⟩, hb1, hbel1⟩
    have hx0 : 0 ≤ x := by rw [hx]; simp; omega
    have hx1 : x < 1000 := by rw [hx]; simp; omega
    clear hx
    have hsl := fun W => slice_hi b n n (by omega) rfl W
    go_wp2_with fail
    refine (int_any b n 32 x 3 _ hb1 (by omega) (by omega) (by omega) hx0 (by omega) (by simpa using hx1)).mono ?_
    rintro e w2 ⟨⟨n2, rfl, hn3, hn4⟩, hb2, hbel2⟩
    have hbel : Below b w w2 := (Below.two _ _ 31 30).trans (hbel1.trans hbel2)
    clear hb1 hbel1 hbel2
    obtain ⟨⟨m9, hm9⟩, hf9⟩ := hb2 (n2 - 1) (by omega)
    have HB9 : Hid (IsBuf w2 b) := hb2
    clear hb2
    go_wp2
    go_ret
    exact ⟨IntIn.mk (n := n2 - 1) (by omega) (by omega) (by omega), HB9.out.set (n2 - 1) (by omega) _, (hbel).setCell (p := ⟨b, n2 - 1, none⟩) (Nat.le_refl _) _⟩
  · by_cases c2 : u < 1000000
    · have c3 : u < 1000000000 := by omega
      have hcp := run_copy_micro b 3 (w.setCell ⟨b, 31, none⟩ (.int .u8 115)) (HB.out.set 31 (by omega) _)
      go_enter Tryf.func13, Tryf.ntmps13
      go_wp2_with fail
      refine (frac_int b 29 32 u 3 _ _ rfl (((HB.out.set 31 (by omega) _).set 29 (by omega) _).set 30 (by omega) _) (by omega) (by omega) (by omega) (by omega) (by omega)).mono ?_
      rintro e w1 ⟨⟨n, x, rfl, hn1, hn2, hx⟩, hb1, hbel1⟩
      have hx0 : 0 ≤ x := by rw [hx]; simp; omega
      have hx1 : x < 1000 := by rw [hx]; simp; omega
      clear hx
      have hsl := fun W => slice_hi b n n (by omega) rfl W
      go_wp2_with fail
      refine (int_any b n 32 x 3 _ hb1 (by omega) (by omega) (by omega) hx0 (by omega) (by simpa using hx1)).mono ?_
      rintro e w2 ⟨⟨n2, rfl, hn3, hn4⟩, hb2, hbel2⟩
      have hbel : Below b w w2 := (((Below.refl b w).setCell (p := ⟨b, 31, none⟩) (Nat.le_refl _) _).trans (Below.two _ _ 29 30)).trans (hbel1.trans hbel2)
      clear hb1 hbel1 hbel2
      obtain ⟨⟨m9, hm9⟩, hf9⟩ := hb2 (n2 - 1) (by omega)
      have HB9 : Hid (IsBuf w2 b) := hb2
      clear hb2
      go_wp2
      go_ret
      exact ⟨IntIn.mk (n := n2 - 1) (by omega) (by omega) (by omega), HB9.out.set (n2 - 1) (by omega) _, (hbel).setCell (p := ⟨b, n2 - 1, none⟩) (Nat.le_refl _) _⟩
    · by_cases c3 : u < 1000000000
      · go_enter Tryf.func13, Tryf.ntmps13
        go_wp2_with fail
        refine (frac_int b 30 32 u 6 _ _ rfl ((HB.out.set 31 (by omega) _).set 30 (by omega) _) (by omega) (by omega) (by omega) (by omega) (by omega)).mono ?_
        rintro e w1 ⟨⟨n, x, rfl, hn1, hn2, hx⟩, hb1, hbel1⟩
        have hx0 : 0 ≤ x := by rw [hx]; simp; omega
        have hx1 : x < 1000 := by rw [hx]; simp; omega
        clear hx
        have hsl := fun W => slice_hi b n n (by omega) rfl W
        go_wp2_with fail
        refine (int_any b n 32 x 3 _ hb1 (by omega) (by omega) (by omega) hx0 (by omega) (by simpa using hx1)).mono ?_
        rintro e w2 ⟨⟨n2, rfl, hn3, hn4⟩, hb2, hbel2⟩
        have hbel : Below b w w2 := (Below.two _ _ 31 30).trans (hbel1.trans hbel2)
        clear hb1 hbel1 hbel2
        obtain ⟨⟨m9, hm9⟩, hf9⟩ := hb2 (n2 - 1) (by omega)
        have HB9 : Hid (IsBuf w2 b) := hb2
        clear hb2
        go_wp2
        go_ret
        exact ⟨IntIn.mk (n := n2 - 1) (by omega) (by omega) (by omega), HB9.out.set (n2 - 1) (by omega) _, (hbel).setCell (p := ⟨b, n2 - 1, none⟩) (Nat.le_refl _) _⟩
      · have hg1 : 1000000000 ≤ u := by omega
        go_enter Tryf.func13, Tryf.ntmps13
        go_wp2_with fail
        refine (frac_int b 31 32 u 9 _ _ rfl (HB.out.set 31 (by omega) _) (by omega) (by omega) (by omega) (by omega) (by omega)).mono ?_
        rintro e w1 ⟨⟨n, x, rfl, hn1, hn2, hx⟩, hb1, hbel1⟩
        have hx0 : 0 ≤ x := by rw [hx]; simp; omega
        have hx1 : x ≤ 9223372036 := by rw [hx]; simp; omega
        clear hx
        have hsl := fun W => slice_hi b n n (by omega) rfl W
        go_wp2_with fail
        refine (int_any b n 32 (x % 60) 2 _ hb1 (by omega) (by omega) (by omega) (by omega) (by omega) (by simp; omega)).mono ?_
        rintro e w2 ⟨⟨n2, rfl, hn3, hn4⟩, hb2, hbel2⟩
        have hbel : Below b w w2 := ((Below.refl b w).setCell (p := ⟨b, 31, none⟩) (Nat.le_refl _) _).trans (hbel1.trans hbel2)
        clear hb1 hbel1 hbel2
        by_cases d1 : x / 60 = 0
        · have d1' : ¬ 0 < x / 60 := by omega
          clear d1
          obtain ⟨⟨m9, hm9⟩, hf9⟩ := hb2 (n2 - 1) (by omega)
          have HB9 : Hid (IsBuf w2 b) := hb2
          clear hb2
          go_wp2
          go_ret
          exact ⟨IntIn.mk (n := n2 - 1) (by omega) (by omega) (by omega), HB9.out.set (n2 - 1) (by omega) _, (hbel).setCell (p := ⟨b, n2 - 1, none⟩) (Nat.le_refl _) _⟩
        · have d1' : 0 < x / 60 := by omega
          clear d1
          obtain ⟨⟨m2, hm2⟩, hf2⟩ := hb2 (n2 - 1) (by omega)
          have HB2 : Hid (IsBuf w2 b) := hb2
          clear hb2
          have hsl2 := fun W => slice_hi b (n2 - 1) ((n2 : Int) - 1) (by omega) (by omega) W
          go_wp2_with fail
          refine (int_any b (n2 - 1) 32 (x / 60 % 60) 2 _ (HB2.out.set (n2 - 1) (by omega) _) (by omega) (by omega) (by omega) (by omega) (by omega) (by simp; omega)).mono ?_
          rintro e w3 ⟨⟨n3, rfl, hn5, hn6⟩, hb3, hbel3⟩
          have hbel4 : Below b w w3 := (hbel.setCell (p := ⟨b, n2 - 1, none⟩) (Nat.le_refl _) _).trans hbel3
          clear hbel3 hbel
          by_cases d2 : x / 60 / 60 = 0
          · have d2' : ¬ 0 < x / 60 / 60 := by omega
            clear d2
            obtain ⟨⟨m9, hm9⟩, hf9⟩ := hb3 (n3 - 1) (by omega)
            have HB9 : Hid (IsBuf w3 b) := hb3
            clear hb3
            go_wp2
            go_ret
            exact ⟨IntIn.mk (n := n3 - 1) (by omega) (by omega) (by omega), HB9.out.set (n3 - 1) (by omega) _, (hbel4).setCell (p := ⟨b, n3 - 1, none⟩) (Nat.le_refl _) _⟩
          · have d2' : 0 < x / 60 / 60 := by omega
            clear d2
            obtain ⟨⟨m3, hm3⟩, hf3⟩ := hb3 (n3 - 1) (by omega)
            have HB3 : Hid (IsBuf w3 b) := hb3
            clear hb3
            have hsl3 := fun W => slice_hi b (n3 - 1) ((n3 : Int) - 1) (by omega) (by omega) W
            go_wp2_with fail
            refine (int_any b (n3 - 1) 32 (x / 60 / 60) 7 _ (HB3.out.set (n3 - 1) (by omega) _) (by omega) (by omega) (by omega) (by omega) (by omega) (by simp; omega)).mono ?_
            rintro e w4 ⟨⟨n4, rfl, hn7, hn8⟩, hb4, hbel5⟩
            have hbel6 : Below b w w4 := (hbel4.setCell (p := ⟨b, n3 - 1, none⟩) (Nat.le_refl _) _).trans hbel5
            clear hbel5 hbel4
            obtain ⟨⟨m9, hm9⟩, hf9⟩ := hb4 (n4 - 1) (by omega)
            have HB9 : Hid (IsBuf w4 b) := hb4
            clear hb4
            go_wp2
            go_ret
            exact ⟨IntIn.mk (n := n4 - 1) (by omega) (by omega) (by omega), HB9.out.set (n4 - 1) (by omega) _, (hbel6).setCell (p := ⟨b, n4 - 1, none⟩) (Nat.le_refl _) _⟩

set_option maxHeartbeats 1000000 in
theorem format_pos (b : Nat) (d : Int) (w : World) (hb : IsBuf w b) (h0 : 0 < d) (h1 : d ≤ 9223372036854775807) :
    Calls Tryf.prog 13 #[.int .i64 d, .pointer (some ⟨b, 0, none⟩)] w fun e w' => IntIn 7 31 e ∧ IsBuf w' b ∧ Below b w w' := by
  obtain ⟨⟨m1, hm1⟩, hf1⟩ := hb 31 (by omega)
  obtain ⟨⟨m0, hm0⟩, hf0⟩ := hb 30 (by omega)
  have HB : Hid (IsBuf w b) := hb
  clear hb
  have hu := u_pos d (by omega) h1
  obtain ⟨u, rfl⟩ : ∃ u, u = d := ⟨_, rfl⟩
  have hu0 := h0
  have hu1 : u ≤ 9223372036854775808 := by omega
  have hne : (u == 0) = false := by simp; omega
  by_cases c1 : u < 1000
  · have c3 : u < 1000000000 := by omega
    go_enter Tryf.func13, Tryf.ntmps13
    go_wp2_with fail
    refine (frac_int b 30 32 u 0 _ _ rfl ((HB.out.set 31 (by omega) _).set 30 (by omega) _) (by omega) (by omega) (by omega) (by omega) (by omega)).mono ?_
    rintro e w1 ⟨⟨n, x, rfl, hn1, hn2, hx⟩, hb1, hbel1⟩
    have hx0 : 0 ≤ x := by rw [hx]; simp; omega
    have hx1 : x < 1000 := by rw [hx]; simp; omega
    clear hx
    have hsl := fun W => slice_hi b n n (by omega) rfl W
    go_wp2_with fail
    refine (int_any b n 32 x 3 _ hb1 (by omega) (by omega) (by omega) hx0 (by omega) (by simpa using hx1)).mono ?_
    rintro e w2 ⟨⟨n2, rfl, hn3, hn4⟩, hb2, hbel2⟩
    have hbel : Below b w w2 := (Below.two _ _ 31 30).trans (hbel1.trans hbel2)
    clear hb1 hbel1 hbel2
    go_wp2
    go_ret
    exact ⟨IntIn.mk (n := n2) rfl (by omega) (by omega), hb2, hbel⟩
  · by_cases c2 : u < 1000000
    · have c3 : u < 1000000000 := by omega
      have hcp := run_copy_micro b 3 (w.setCell ⟨b, 31, none⟩ (.int .u8 115)) (HB.out.set 31 (by omega) _)
      go_enter Tryf.func13, Tryf.ntmps13
      go_wp2_with fail
      refine (frac_int b 29 32 u 3 _ _ rfl (((HB.out.set 31 (by omega) _).set 29 (by omega) _).set 30 (by omega) _) (by omega) (by omega) (by omega) (by omega) (by omega)).mono ?_
      rintro e w1 ⟨⟨n, x, rfl, hn1, hn2, hx⟩, hb1, hbel1⟩
      have hx0 : 0 ≤ x := by rw [hx]; simp; omega
      have hx1 : x < 1000 := by rw [hx]; simp; omega
      clear hx
      have hsl := fun W => slice_hi b n n (by omega) rfl W
      go_wp2_with fail
      refine (int_any b n 32 x 3 _ hb1 (by omega) (by omega) (by omega) hx0 (by omega) (by simpa using hx1)).mono ?_
      rintro e w2 ⟨⟨n2, rfl, hn3, hn4⟩, hb2, hbel2⟩
      have hbel : Below b w w2 := (((Below.refl b w).setCell (p := ⟨b, 31, none⟩) (Nat.le_refl _) _).trans (Below.two _ _ 29 30)).trans (hbel1.trans hbel2)
      clear hb1 hbel1 hbel2
      go_wp2
      go_ret
      exact ⟨IntIn.mk (n := n2) rfl (by omega) (by omega), hb2, hbel⟩
    · by_cases c3 : u < 1000000000
      · go_enter Tryf.func13, Tryf.ntmps13
        go_wp2_with fail
        refine (frac_int b 30 32 u 6 _ _ rfl ((HB.out.set 31 (by omega) _).set 30 (by omega) _) (by omega) (by omega) (by omega) (by omega) (by omega)).mono ?_
        rintro e w1 ⟨⟨n, x, rfl, hn1, hn2, hx⟩, hb1, hbel1⟩
        have hx0 : 0 ≤ x := by rw [hx]; simp; omega
        have hx1 : x < 1000 := by rw [hx]; simp; omega
        clear hx
        have hsl := fun W => slice_hi b n n (by omega) rfl W
        go_wp2_with fail
        refine (int_any b n 32 x 3 _ hb1 (by omega) (by omega) (by omega) hx0 (by omega) (by simpa using hx1)).mono ?_
        rintro e w2 ⟨⟨n2, rfl, hn3, hn4⟩, hb2, hbel2⟩
        have hbel : Below b w w2 := (Below.two _ _ 31 30).trans (hbel1.trans hbel2)
        clear hb1 hbel1 hbel2
        go_wp2
        go_ret
        exact ⟨IntIn.mk (n := n2) rfl (by omega) (by omega), hb2, hbel⟩
      · have hg1 : 1000000000 ≤ u := by omega
        go_enter Tryf.func13, Tryf.ntmps13
        go_wp2_with fail
        refine (frac_int b 31 32 u 9 _ _ rfl (HB.out.set 31 (by omega) _) (by omega) (by omega) (by omega) (by omega) (by omega)).mono ?_
        rintro e w1 ⟨⟨n, x, rfl, hn1, hn2, hx⟩, hb1, hbel1⟩
        have hx0 : 0 ≤ x := by rw [hx]; simp; omega
        have hx1 : x ≤ 9223372036 := by rw [hx]; simp; omega
        clear hx
        have hsl := fun W => slice_hi b n n (by omega) rfl W
        go_wp2_with fail
        refine (int_any b n 32 (x % 60) 2 _ hb1 (by omega) (by omega) (by omega) (by omega) (by omega) (by simp; omega)).mono ?_
        rintro e w2 ⟨⟨n2, rfl, hn3, hn4⟩, hb2, hbel2⟩
        have hbel : Below b w w2 := ((Below.refl b w).setCell (p := ⟨b, 31, none⟩) (Nat.le_refl _) _).trans (hbel1.trans hbel2)
        clear hb1 hbel1 hbel2
        by_cases d1 : x / 60 = 0
        · have d1' : ¬ 0 < x / 60 := by omega
          clear d1
          go_wp2
          go_ret
          exact ⟨IntIn.mk (n := n2) rfl (by omega) (by omega), hb2, hbel⟩
        · have d1' : 0 < x / 60 := by omega
          clear d1
          obtain ⟨⟨m2, hm2⟩, hf2⟩ := hb2 (n2 - 1) (by omega)
          have HB2 : Hid (IsBuf w2 b) := hb2
          clear hb2
          have hsl2 := fun W => slice_hi b (n2 - 1) ((n2 : Int) - 1) (by omega) (by omega) W
          go_wp2_with fail
          refine (int_any b (n2 - 1) 32 (x / 60 % 60) 2 _ (HB2.out.set (n2 - 1) (by omega) _) (by omega) (by omega) (by omega) (by omega) (by omega) (by simp; omega)).mono ?_
          rintro e w3 ⟨⟨n3, rfl, hn5, hn6⟩, hb3, hbel3⟩
          have hbel4 : Below b w w3 := (hbel.setCell (p := ⟨b, n2 - 1, none⟩) (Nat.le_refl _) _).trans hbel3
          clear hbel3 hbel
          by_cases d2 : x / 60 / 60 = 0
          · have d2' : ¬ 0 < x / 60 / 60 := by omega
            clear d2
            go_wp2
            go_ret
            exact ⟨IntIn.mk (n := n3) rfl (by omega) (by omega), hb3, hbel4⟩
          · have d2' : 0 < x / 60 / 60 := by omega
            clear d2
            obtain ⟨⟨m3, hm3⟩, hf3⟩ := hb3 (n3 - 1) (by omega)
            have HB3 : Hid (IsBuf w3 b) := hb3
            clear hb3
            have hsl3 := fun W => slice_hi b (n3 - 1) ((n3 : Int) - 1) (by omega) (by omega) W
            go_wp2_with fail
            refine (int_any b (n3 - 1) 32 (x / 60 / 60) 7 _ (HB3.out.set (n3 - 1) (by omega) _) (by omega) (by omega) (by omega) (by omega) (by omega) (by simp; omega)).mono ?_
            rintro e w4 ⟨⟨n4, rfl, hn7, hn8⟩, hb4, hbel5⟩
            have hbel6 : Below b w w4 := (hbel4.setCell (p := ⟨b, n3 - 1, none⟩) (Nat.le_refl _) _).trans hbel5
            clear hbel5 hbel4
            go_wp2
            go_ret
            exact ⟨IntIn.mk (n := n4) rfl (by omega) (by omega), hb4, hbel6⟩

set_option maxHeartbeats 400000 in
theorem format_zero (b : Nat) (w : World) (hb : IsBuf w b) :
    Calls Tryf.prog 13 #[.int .i64 0, .pointer (some ⟨b, 0, none⟩)] w fun e w' => IntIn 7 31 e ∧ IsBuf w' b ∧ Below b w w' := by
  obtain ⟨⟨m1, hm1⟩, hf1⟩ := hb 31 (by omega)
  obtain ⟨⟨m0, hm0⟩, hf0⟩ := hb 30 (by omega)
  have HB : Hid (IsBuf w b) := hb
  clear hb
  go_enter Tryf.func13, Tryf.ntmps13
  go_wp2
  go_ret
  exact ⟨IntIn.mk (n := 30) rfl (by omega) (by omega), (HB.out.set 31 (by omega) _).set 30 (by omega) _, Below.two _ _ 31 30⟩

theorem format_any (b : Nat) (d : Int) (w : World) (hb : IsBuf w b) (h0 : -9223372036854775808 ≤ d) (h1 : d ≤ 9223372036854775807) :
    Calls Tryf.prog 13 #[.int .i64 d, .pointer (some ⟨b, 0, none⟩)] w fun e w' => IntIn 7 31 e ∧ IsBuf w' b ∧ Below b w w' := by
  rcases Int.lt_trichotomy d 0 with h | h | h
  · exact format_neg b d w hb h h0
  · subst h; exact format_zero b w hb
  · exact format_pos b d w hb h h1

theorem slice_lo (b n : Nat) (hn : n ≤ 31) (W : World) : (Instr.sliceAt 40 (.pointer (some ⟨b, 0, none⟩)) (some (.int .i64 n)) none none).run Tryf.prog W = .ok (.slice (some ⟨b, n, none⟩) (32 - n) (32 - n)) W := by
  have h1 : (sizeOf (Tryf.prog.elem 40)).run Tryf.prog W = .ok 1 W := by kernel_rfl
  have h2 : Tryf.prog.arrayLen 40 = 32 := by kernel_rfl
  have h3 : Tryf.prog.underlying 40 = some (.array (Tryf.prog.arrayLen 40) (Tryf.prog.elem 40)) := by kernel_rfl
  rw [run_sliceAt_array_l (P := Tryf.prog) (w := W) 40 ⟨b, 0, none⟩ h3 .i64 n (by omega) (by rw [h2]; omega), h1, h2]
  have e : ¬ 32 = n := by omega
  simp [slicedAt, Result.andThen, e, Addr.add_lit]

theorem buf_text {b n : Nat} {w : World} (hb : IsBuf w b) (hn : n ≤ 31) : ∃ s : ByteArray, (convert 43 9 (.slice (some ⟨b, n, none⟩) (32 - n) (32 - n))).run Tryf.prog w = .ok (.string s) w ∧ s.size ≤ 32 := by
  obtain ⟨f, hf⟩ : ∃ f : Nat → Int, ∀ i, i < 32 → w.cell? ⟨b, i, none⟩ = some (.int .u8 (f i)) := by
    refine ⟨fun i => if h : i < 32 then Classical.choose (hb i h).1 else 0, fun i hi => ?_⟩
    simp only [dif_pos hi]
    exact Classical.choose_spec (hb i hi).1
  refine ⟨strOfNums ((List.range (32 - n)).map fun i => f (n + i)), run_convert_bytes_arg w 43 5 Tryf.underlying43 Tryf.underlying5 b n (32 - n) (32 - n) _ (by simp) (fun i hi => ?_) 9 Tryf.underlying9, ?_⟩
  · have hi' : i < 32 - n := by simpa using hi
    rw [hf (n + i) (by omega)]
    simp [hi']
  · rw [strOfNums_size]; simp

theorem buf_new (w : World) : IsBuf (w.alloc (.cells (Array.replicate 32 (.int .u8 0)) 40)) w.heap.size := by
  intro i hi
  have hh : (w.alloc (.cells (Array.replicate 32 (.int .u8 0)) 40)).heap[w.heap.size]? = some (.cells (Array.replicate 32 (.int .u8 0)) 40 (0, 0)) := by
    show (w.heap.push _)[w.heap.size]? = _
    simp
  refine ⟨⟨0, ?_⟩, ?_⟩
  · rw [cell_of_row _ _ _ _ _ _ hh]
    simp [hi]
  · rw [frozen_of_row _ _ _ _ _ hh]

/-- the call ended with some string of at most 32 bytes -/
def ShortString (e : Ending) : Prop := ∃ s : ByteArray, e = .returned (.string s) ∧ s.size ≤ 32

set_option maxHeartbeats 400000 in
theorem string_any (d : Int) (w : World) (h0 : -9223372036854775808 ≤ d) (h1 : d ≤ 9223372036854775807) :
    Calls Tryf.prog 11 #[.int .i64 d] w fun e w' => ShortString e ∧ Below w.heap.size w w' := by
  go_enter Tryf.func11, Tryf.ntmps11
  go_wp2_with fail
  refine (format_any w.heap.size d _ (by exact buf_new w) h0 h1).mono ?_
  rintro e w1 ⟨⟨n, rfl, hn1, hn2⟩, hb, hbel⟩
  obtain ⟨s, hs, hsz⟩ := buf_text hb hn2
  have hsl := fun W => slice_lo w.heap.size n hn2 W
  have hbw : Below w.heap.size w w1 := ((Below.refl _ _).alloc (Nat.le_refl _) _).trans hbel
  clear hb hbel
  go_wp2
  go_ret
  exact ⟨⟨s, rfl, hsz⟩, hbw⟩

end Go.Proofs.Qxb6628426aFmt
