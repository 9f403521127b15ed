/- (time.Duration).String BY ITS CONTRACT: it returns some string of at most 32 bytes; old memory stays as it was. Walked from its own Go text. -/
import Derived.Test.Qxb6628426aFmtRows
import Derived.WalkKit
import Derived.WalkSpells
import Derived.WalkLawsBesides
import Derived.Laws.BytesArg
namespace Go.Proofs.Qxb6628426aFmt
open Go.RowKit

/-- block b holds (at least) 32 bytes, none frozen -/
def IsBuf (w : World) (b : Nat) : Prop := ∀ i, i < 32 → (∃ n : Int, w.cell? ⟨b, i, none⟩ = some (.int .u8 n)) ∧ w.frozen? ⟨b, i, none⟩ = false

theorem IsBuf.set {w : World} {b : Nat} (h : IsBuf w b) (i : Nat) (hi : i < 32) (n : Int) : IsBuf (w.setCell ⟨b, i, none⟩ (.int .u8 n)) b := by
  intro j hj
  refine ⟨?_, ?_⟩
  · by_cases e : j = i
    · subst e
      obtain ⟨m, hm⟩ := (h j hi).1
      exact ⟨n, World.cell?_setCell_same _ _ _ hm⟩
    · obtain ⟨m, hm⟩ := (h j hj).1
      refine ⟨m, ?_⟩
      rw [World.cell?_setCell_other _ _ _ _ (fun e' => e (by cases e'; rfl))]
      exact hm
  · rw [World.frozen?_setCell]
    exact (h j hj).2

/-- the call ended with an int from lo to hi -/
def IntIn (lo hi : Nat) (e : Ending) : Prop := ∃ n : Nat, e = .returned (.int .i64 n) ∧ lo ≤ n ∧ n ≤ hi
theorem IntIn.mk {lo hi n : Nat} {x : Int} (hx : x = n) (h1 : lo ≤ n) (h2 : n ≤ hi) : IntIn lo hi (.returned (.int .i64 x)) := ⟨n, by rw [hx], h1, h2⟩

theorem pow_step {u : Int} {j : Nat} (h : u < 10 ^ j) (h0 : 0 < u) : ∃ i, j = i + 1 ∧ u / 10 < 10 ^ i := by
  cases j with
  | zero => simp at h; omega
  | succ i =>
    refine ⟨i, rfl, ?_⟩
    have : (10 : Int) ^ (i + 1) = 10 ^ i * 10 := Int.pow_succ ..
    omega

set_option maxHeartbeats 400000 in
theorem int_any (b L c : Nat) (v : Int) (k : Nat) (w : World) (hb : IsBuf w b) (hL : L ≤ 32) (hk : 1 ≤ k) (hkL : k ≤ L) (hv0 : 0 ≤ v) (hv1 : v ≤ 18446744073709551615) (hv : v < 10 ^ k) :
    Calls Tryf.prog 15 #[.slice (some ⟨b, 0, none⟩) L c, .int .u64 v] w fun e w' => IntIn (L - k) L e ∧ IsBuf w' b ∧ Below b w w' := by
  have HV : Hid (v < 10 ^ k) := hv
  clear hv
  by_cases h0 : v = 0
  · subst h0
    obtain ⟨⟨m, hm⟩, hf⟩ := hb (L - 1) (by omega)
    have HB : Hid (IsBuf w b) := hb
    clear hb
    go_enter Tryf.func15, Tryf.ntmps15
    go_wp2
    go_ret
    exact ⟨IntIn.mk (n := L - 1) (by omega) (by omega) (by omega), HB.out.set (L - 1) (by omega) _, (Below.refl _ _).setCell (p := ⟨b, L - 1, none⟩) (Nat.le_refl _) _⟩
  · have h0' : (v == 0) = false := by simpa using h0
    go_enter Tryf.func15, Tryf.ntmps15
    go_wp2
    go_loopw [1, 5] (fun x i wr => ∃ (u : Int) (n j : Nat), 0 ≤ u ∧ u ≤ 18446744073709551615 ∧ x = .int .u64 u ∧ i = .int .i64 n ∧ n ≤ L ∧ L - k + j ≤ n ∧ Hid (u < 10 ^ j) ∧ IsBuf wr b ∧ Below b w wr) (fun x _ _ => (intOf x).toNat)
    case atStart => exact ⟨v, L, k, hv0, hv1, rfl, rfl, Nat.le_refl _, by omega, HV, hb, Below.refl _ _⟩
    case round =>
      obtain ⟨u, n, j, hu0, hu1, rfl, rfl, hn, hj, hu, hbr, hbel⟩ := hrel
      by_cases hpos : 0 < u
      · obtain ⟨i, hi, hq⟩ := pow_step hu.out hpos
        have HQ : Hid (u / 10 < 10 ^ i) := hq
        have hn1 : 1 ≤ n := by omega
        obtain ⟨⟨m, hm⟩, hf⟩ := hbr (n - 1) (by omega)
        have HB : Hid (IsBuf wr b) := hbr
        have hji : L - k + i ≤ n - 1 := by omega
        clear hbr hq hi hu hj
        go_wp2
        go_roundw
        case rel => exact ⟨u / 10, n - 1, i, by omega, by omega, rfl, by go_num, by omega, hji, HQ, HB.out.set (n - 1) (by omega) _, hbel.setCell (p := ⟨b, n - 1, none⟩) (Nat.le_refl _) _⟩
        case measure => simp [intOf]; omega
      · go_wp2
        go_ret
        exact ⟨IntIn.mk (n := n) rfl (by omega) hn, hbr, hbel⟩

set_option maxHeartbeats 400000 in
theorem frac_any (b L c : Nat) (v : Int) (p : Nat) (w : World) (hb : IsBuf w b) (hL : L ≤ 32) (hp : p ≤ 9) (hpL : p + 1 ≤ L) (hv0 : 0 ≤ v) (hv : v ≤ 18446744073709551615) :
    Calls Tryf.prog 14 #[.slice (some ⟨b, 0, none⟩) L c, .int .u64 v, .int .i64 p] w fun e w' => (∃ (n : Nat) (u : Int), e = .returned (.tuple #[.int .i64 n, .int .u64 u]) ∧ L - (p + 1) ≤ n ∧ n ≤ L ∧ u = v / 10 ^ p) ∧ IsBuf w' b ∧ Below b w w' := by
  go_enter Tryf.func14, Tryf.ntmps14
  go_wp2
  go_loopw [1, 8, 9, 10] (fun x wv pr i wr => ∃ (u : Int) (n j : Nat) (q : Bool), 0 ≤ u ∧ u ≤ 18446744073709551615 ∧ x = .int .u64 u ∧ wv = .int .i64 n ∧ pr = .bool q ∧ i = .int .i64 j ∧ j ≤ p ∧ n ≤ L ∧ L - j ≤ n ∧ Hid (u = v / 10 ^ j) ∧ IsBuf wr b ∧ Below b w wr) (fun _ _ _ i _ => p - (intOf i).toNat)
  case atStart => exact ⟨v, L, 0, false, hv0, hv, rfl, rfl, rfl, rfl, Nat.zero_le _, Nat.le_refl _, by omega, by simp [Hid], hb, Below.refl _ _⟩
  case round =>
    obtain ⟨u, n, j, q, hu0, hu1, rfl, rfl, rfl, rfl, hj, hn, hnj, hu, hbr, hbel⟩ := hrel
    by_cases hlt : j < p
    · have hn1 : 1 ≤ n := by omega
      obtain ⟨⟨m, hm⟩, hf⟩ := hbr (n - 1) (by omega)
      have HB : Hid (IsBuf wr b) := hbr
      have HU : Hid (u / 10 = v / 10 ^ (j + 1)) := by
        unfold Hid
        rw [hu.out, Int.pow_succ, Int.ediv_ediv_of_nonneg (by exact Int.pow_nonneg (by decide))]
      clear hbr
      by_cases hd : u % 10 = 0
      · have hd' : (u % 10 != 0) = false := by simpa using hd
        cases q
        · go_wp2
          go_roundw
          case rel => exact ⟨u / 10, n, j + 1, false, by omega, by omega, rfl, rfl, rfl, by go_num, by omega, hn, by omega, HU, HB.out, hbel⟩
          case measure => simp [intOf]; omega
        · go_wp2
          go_roundw
          case rel => exact ⟨u / 10, n - 1, j + 1, true, by omega, by omega, rfl, by go_num, rfl, by go_num, by omega, by omega, by omega, HU, HB.out.set (n - 1) (by omega) _, hbel.setCell (p := ⟨b, n - 1, none⟩) (Nat.le_refl _) _⟩
          case measure => simp [intOf]; omega
      · have hd' : (u % 10 != 0) = true := by simpa using hd
        cases q
        all_goals
          go_wp2
          go_roundw
          case rel => exact ⟨u / 10, n - 1, j + 1, true, by omega, by omega, rfl, by go_num, rfl, by go_num, by omega, by omega, by omega, HU, HB.out.set (n - 1) (by omega) _, hbel.setCell (p := ⟨b, n - 1, none⟩) (Nat.le_refl _) _⟩
          case measure => simp [intOf]; omega
    · obtain rfl : j = p := by omega
      have HU := hu
      clear hu
      cases q
      · go_wp2
        go_ret2
        exact ⟨⟨n, u, rfl, by omega, hn, HU.out⟩, hbr, hbel⟩
      · have hn1 : 1 ≤ n := by omega
        obtain ⟨⟨m, hm⟩, hf⟩ := hbr (n - 1) (by omega)
        have HB : Hid (IsBuf wr b) := hbr
        clear hbr
        go_wp2
        go_ret2
        exact ⟨⟨n - 1, u, by go_num, by omega, by omega, HU.out⟩, HB.out.set (n - 1) (by omega) _, hbel.setCell (p := ⟨b, n - 1, none⟩) (Nat.le_refl _) _⟩

end Go.Proofs.Qxb6628426aFmt
