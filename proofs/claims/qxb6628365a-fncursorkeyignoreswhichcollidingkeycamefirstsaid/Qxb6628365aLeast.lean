/- ckIsLeast: handed CursorKey's answer, it says true. -/
import Derived.Test.Qxb6628365aPlain
namespace Go.Proofs.Qxb6628365a
open Go.RowKit

/-- has r been met among the first j of a, or is it s? -/
def met (a : List Ent) (c : Int) (s r : ByteArray) (j : Nat) : Bool := (r.toList == s.toList) || (filed (a.take j) c).any (fun x => x.toList == r.toList)

theorem met_zero (a : List Ent) (c : Int) (s r : ByteArray) : met a c s r 0 = (r.toList == s.toList) := by simp [met, filed]
theorem met_skip {a : List Ent} {c x : Int} {s r t : ByteArray} {j : Nat} (h : a[j]? = some (x, t)) (hx : x ≠ c) : met a c s r (j + 1) = met a c s r j := by
  simp [met, take_snoc h, filed_append, filed_miss hx]
theorem met_hit {a : List Ent} {c : Int} {s r t : ByteArray} {j : Nat} (h : a[j]? = some (c, t)) (ht : (t.toList == r.toList) = true) : met a c s r (j + 1) = true := by
  simp [met, take_snoc h, filed_append, filed_hit, ht]
theorem met_pass {a : List Ent} {c : Int} {s r t : ByteArray} {j : Nat} (h : a[j]? = some (c, t)) (ht : (t.toList == r.toList) = false) : met a c s r (j + 1) = met a c s r j := by
  simp [met, take_snoc h, filed_append, filed_hit, ht]
theorem met_all {a : List Ent} {c : Int} {s : ByteArray} : met a c s (mn s (filed a c)) a.length = true := by
  unfold met
  rw [List.take_length, Bool.or_eq_true, beq_iff_eq]
  rcases List.mem_cons.1 (mn_mem (filed a c) s) with h | h
  · rw [h]; exact .inl rfl
  · exact .inr (List.any_eq_true.2 ⟨_, h, by simp⟩)

/-- from place m on none is filed under c -/
def Above (e : List Ent) (c : Int) (m : Nat) : Prop := ∀ (t : Nat) (x : Int) (s : ByteArray), m ≤ t → e[t]? = some (x, s) → x ≠ c
theorem Above.top (e : List Ent) (c : Int) : Above e c e.length := fun t x s ht he => by have := (List.getElem?_eq_some_iff.1 he).1; omega
theorem Above.down {e : List Ent} {c : Int} {m : Nat} {x : Int} {s : ByteArray} (h : Above e c (m + 1)) (he : e[m]? = some (x, s)) (hx : x ≠ c) : Above e c m := fun t y u ht hy => by
  by_cases hm : t = m
  · subst hm
    rw [he] at hy
    simp only [Option.some.injEq, Prod.mk.injEq] at hy
    rw [← hy.1]; exact hx
  · exact h t y u (by omega) hy

theorem none_below {e : List Ent} {c : Int} (h : Above e c 0) : filed e c = [] := by
  unfold filed
  rw [List.map_eq_nil_iff, List.filter_eq_nil_iff]
  intro p hp
  obtain ⟨t, ht⟩ := List.mem_iff_getElem?.1 hp
  simpa using h t p.1 p.2 (Nat.zero_le _) ht
theorem last_at {e : List Ent} {c : Int} {s : ByteArray} {m : Nat} (hm : e[m]? = some (c, s)) (h : Above e c (m + 1)) : (filed e c).getLast? = some s := by
  have e1 : e = e.take m ++ (c, s) :: e.drop (m + 1) := by
    have hlt : m < e.length := (List.getElem?_eq_some_iff.1 hm).1
    rw [List.getElem?_eq_getElem hlt, Option.some.injEq] at hm
    rw [← hm, ← List.drop_eq_getElem_cons hlt, List.take_append_drop]
  have e2 : filed (e.drop (m + 1)) c = [] := none_below fun t x s' _ ht => h (m + 1 + t) x s' (by omega) (by rw [← List.getElem?_drop]; exact ht)
  rw [e1, filed_append, show (c, s) :: e.drop (m + 1) = [(c, s)] ++ e.drop (m + 1) from rfl, filed_append, e2, filed_hit]
  simp

set_option maxHeartbeats 800000 in
theorem least_any (a0 a1 : Option Addr) (l0 c0 l1 c1 : Nat) (e0 e1 : List Ent) (c : Int) (w : World) (h0 : IsEnts w a0 l0 e0) (h1 : IsEnts w a1 l1 e1) (hl0 : l0 ≤ 9223372036854775807) (hl1 : l1 ≤ 9223372036854775807) :
    Calls Try.prog 10 #[.slice a0 l0 c0, .slice a1 l1 c1, .int .u64 c, .string (ansR e0 e1 c), .bool (ansOk e0 c)] w fun e w' => e = .returned (.bool true) ∧ w' = w := by
  obtain ⟨r, HR⟩ : ∃ r, Hid (ansR e0 e1 c = r) := ⟨_, rfl⟩
  obtain ⟨ok, HO⟩ : ∃ ok, Hid (ansOk e0 c = ok) := ⟨_, rfl⟩
  rw [HR.out, HO.out]
  go_enter Try.func10, Try.ntmps10
  go_wp2
  go_loop [11, 12] (fun l i => ∃ m : Nat, m ≤ l0 ∧ i = .int .i64 ((m : Int) - 1) ∧ l = .int .i64 (-1) ∧ Above e0 c m) (fun _ i => (intOf i + 1).toNat)
  case atStart => exact ⟨l0, Nat.le_refl _, rfl, rfl, h0.1 ▸ Above.top e0 c⟩
  case round =>
    obtain ⟨m, hm, rfl, rfl, hno⟩ := hrel
    by_cases hz : m = 0
    · subst hz
      have hf : filed e0 c = [] := none_below hno
      have hok : ok = false := by rw [← HO.out]; simp [ansOk, hf]
      have hr : r = ByteArray.empty := by rw [← HR.out]; simp [ansR, hf]
      subst hok hr
      clear hf
      go_wp2
      go_ret
      exact ⟨rfl, rfl⟩
    · obtain ⟨n, rfl⟩ : ∃ n, m = n + 1 := ⟨m - 1, by omega⟩
      obtain ⟨b, off, x, s, rfl, hle, hes, hc0, hc1, hwf, hsz⟩ := h0.at (show n < l0 by omega)
      have HE : Hid (e0[n]? = some (x, s)) := hes
      clear hes
      by_cases hx : x = c
      · subst hx
        have hlast := last_at HE.out hno
        have hok : ok = true := by rw [← HO.out]; simp [ansOk, hlast]
        have hr : r = mn s (filed e1 x) := by rw [← HR.out]; simp [ansR, hlast]
        subst hok
        have hgt : (Op.bytesLess r.toList s.toList || r.toList == s.toList) = true := by rw [hr]; exact leq_iff.2 (mn_le _ _ _ List.mem_cons_self)
        have HR2 : Hid (r = mn s (filed e1 x)) := hr
        clear hr hlast
        go_wp2
        go_loop [13, 14] (fun v i => ∃ j : Nat, j ≤ l1 ∧ i = .int .i64 j ∧ v = .bool (met e1 x s r j)) (fun _ i => l1 - (intOf i).toNat)
        case atStart => exact ⟨0, Nat.zero_le _, rfl, by rw [met_zero]⟩
        case round =>
          obtain ⟨j, hj, rfl, rfl⟩ := hrel
          by_cases hlt : j < l1
          · obtain ⟨b', off', y, t, rfl, hle', hes', hd0, hd1, hwf', hsz'⟩ := h1.at hlt
            have HE' : Hid (e1[j]? = some (y, t)) := hes'
            clear hes'
            by_cases hy : y = x
            · subst hy
              have hnl : Op.bytesLess t.toList r.toList = false := by rw [HR2.out]; exact mn_le _ _ _ (List.mem_cons_of_mem _ (mem_filed.2 (List.mem_of_getElem? HE'.out)))
              by_cases ht : (t.toList == r.toList) = true
              · have HM := met_hit (s := s) HE'.out ht
                have HM' : Hid (met e1 y s r (j + 1) = true) := HM
                clear HM
                go_wp2
                go_round
                case rel => exact ⟨j + 1, by omega, by go_num, by rw [HM'.out]⟩
                case measure => simp [intOf]; omega
              · have ht' : (t.toList == r.toList) = false := by simpa using ht
                clear ht
                have HM' : Hid (met e1 y s r (j + 1) = met e1 y s r j) := met_pass HE'.out ht'
                go_wp2
                go_round
                case rel => exact ⟨j + 1, by omega, by go_num, by rw [HM'.out]⟩
                case measure => simp [intOf]; omega
            · have hy' : (y == x) = false := by simpa using hy
              have HM' : Hid (met e1 x s r (j + 1) = met e1 x s r j) := met_skip HE'.out hy
              go_wp2
              go_round
              case rel => exact ⟨j + 1, by omega, by go_num, by rw [HM'.out]⟩
              case measure => simp [intOf]; omega
          · have HM' : Hid (met e1 x s r j = true) := by
              have := h1.1
              have e : j = e1.length := by omega
              rw [HR2.out, e]; exact met_all
            go_wp2
            go_ret
            exact ⟨by rw [HM'.out]; rfl, rfl⟩
      · have hx' : (x == c) = false := by simpa using hx
        go_wp2
        go_round
        case rel => exact ⟨n, by omega, by go_num, rfl, hno.down HE.out hx⟩
        case measure => simp [intOf]

end Go.Proofs.Qxb6628365a
