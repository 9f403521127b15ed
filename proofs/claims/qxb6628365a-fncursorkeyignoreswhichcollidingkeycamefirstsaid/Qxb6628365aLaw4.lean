/- FnCursorKeyIgnoresWhichCollidingKeyCameFirst: the walk out of the contracts. -/
import Derived.Test.Qxb6628365aLaw3
namespace Go.Proofs.Qxb6628365a
open Go.RowKit

/-- those of e from place m on that are filed under c, the last first -/
def sel (e : List Ent) (c : Int) (m : Nat) : List Ent := ((e.drop m).filter fun x => x.1 == c).reverse

theorem sel_top (e : List Ent) (c : Int) : sel e c e.length = [] := by simp [sel]
theorem sel_hit {e : List Ent} {c : Int} {m : Nat} {s : ByteArray} (h : e[m]? = some (c, s)) : sel e c m = sel e c (m + 1) ++ [(c, s)] := by
  have hlt : m < e.length := (List.getElem?_eq_some_iff.1 h).1
  rw [List.getElem?_eq_getElem hlt, Option.some.injEq] at h
  unfold sel
  rw [List.drop_eq_getElem_cons hlt, h]
  simp
theorem sel_miss {e : List Ent} {c x : Int} {m : Nat} {s : ByteArray} (h : e[m]? = some (x, s)) (hx : x ≠ c) : sel e c m = sel e c (m + 1) := by
  have hlt : m < e.length := (List.getElem?_eq_some_iff.1 h).1
  rw [List.getElem?_eq_getElem hlt, Option.some.injEq] at h
  unfold sel
  rw [List.drop_eq_getElem_cons hlt, h]
  simp [hx]
theorem sel_le (e : List Ent) (c : Int) (m : Nat) : (sel e c m).length ≤ e.length := by
  unfold sel
  rw [List.length_reverse]
  exact Nat.le_trans (List.length_filter_le _ _) (by simp)
theorem mem_sel {e : List Ent} {c : Int} {p : Ent} (h : p ∈ sel e c 0) : p ∈ e ∧ p.1 = c := by
  unfold sel at h
  have := List.mem_filter.1 (List.mem_reverse.1 h)
  exact ⟨by simpa using this.1, by simpa using this.2⟩
theorem filed_sel (e : List Ent) (c : Int) : filed e c = ((sel e c 0).map (·.2)).reverse := by
  unfold sel filed
  simp
theorem filed_all {l : List Ent} {c : Int} (h : ∀ p ∈ l, p.1 = c) : filed l c = l.map (·.2) := by
  unfold filed
  rw [List.filter_eq_self.2 (fun p hp => by simp [h p hp])]

/-- THE PLAIN LAW -/
theorem swap_none {e0 e1 : List Ent} {c : Int} {s : ByteArray} (hs : (filed e0 c).getLast? = some s) (h : sel e1 c 0 = []) : ansR [(c, s)] [] c = ansR e0 e1 c ∧ ansOk [(c, s)] c = ansOk e0 c := by
  have : filed e1 c = [] := by rw [filed_sel, h]; rfl
  constructor
  · unfold ansR; rw [hs, this, filed_hit]; rfl
  · unfold ansOk; rw [hs, filed_hit]; rfl
theorem swap_some {e0 e1 : List Ent} {c x : Int} {s f : ByteArray} {rest : List Ent} (hs : (filed e0 c).getLast? = some s) (h : sel e1 c 0 = (x, f) :: rest) : ansR [(c, f)] ((c, s) :: rest) c = ansR e0 e1 c ∧ ansOk [(c, f)] c = ansOk e0 c := by
  have e1 : filed e1 c = ((f :: rest.map (·.2))).reverse := by rw [filed_sel, h]; rfl
  have e2 : filed ((c, s) :: rest) c = s :: rest.map (·.2) := by
    rw [filed_all (fun p hp => ?_)]
    · rfl
    · rcases List.mem_cons.1 hp with rfl | hp
      · rfl
      · exact (mem_sel (h ▸ List.mem_cons_of_mem _ hp)).2
  constructor
  · unfold ansR
    rw [hs, filed_hit, e1, e2]
    simp only [List.getLast?_singleton]
    apply mn_same
    intro y
    simp only [List.mem_cons, List.mem_reverse]
    constructor
    · rintro (h | h | h) <;> simp [h]
    · rintro (h | h | h) <;> simp [h]
  · unfold ansOk; rw [hs, filed_hit]; rfl

theorem ans_empty (c : Int) : ansR [] [] c = ByteArray.empty ∧ ansOk [] c = false := ⟨rfl, rfl⟩

theorem one_ents (w : World) {x : Int} {s : ByteArray} (hx : (Lit.int .u64 x).wf = true) (hs : s.size ≤ maxLen) : IsEnts (w.alloc (.cells #[.int .u64 x, .string s] 35)) (some ⟨w.heap.size, 0, none⟩) 1 [(x, s)] := by
  refine ⟨rfl, fun e he => by simp at he; subst he; exact ⟨hx, hs⟩, fun _ => ⟨_, _, rfl, fun i hi => ?_⟩⟩
  obtain rfl : i = 0 := by omega
  simp

theorem row_head {w : World} {base g n cap : Nat} {y : Int} {f : ByteArray} {rest : List Ent} (h : w.ownsRow base 35 2 (.slice (some ⟨g, 0, none⟩) n cap) n (cellsOf ((y, f) :: rest))) :
    w.cell? ⟨g, 0, none⟩ = some (.int .u64 y) ∧ w.cell? ⟨g, 1, none⟩ = some (.string f) ∧ w.frozen? ⟨g, 0, none⟩ = false ∧ w.frozen? ⟨g, 1, none⟩ = false := by
  have hl := h.1
  rw [cellsOf_length] at hl
  simp only [List.length_cons] at hl
  exact ⟨h.cellAt 0 (by omega), h.cellAt 1 (by omega), h.frozenAt 0, h.frozenAt 1⟩

theorem row_put {w : World} {base g n cap : Nat} {x y : Int} {s f : ByteArray} {rest : List Ent} (h : w.ownsRow base 35 2 (.slice (some ⟨g, 0, none⟩) n cap) n (cellsOf ((y, f) :: rest))) (hx : (Lit.int .u64 x).wf = true) (hs : s.size ≤ maxLen)
    (hm : ∀ p ∈ (y, f) :: rest, (Lit.int .u64 p.1).wf = true ∧ p.2.size ≤ maxLen) :
    IsEnts ((w.setCell ⟨g, 0, none⟩ (.int .u64 x)).setCell ⟨g, 1, none⟩ (.string s)) (some ⟨g, 0, none⟩) (rest.length + 1) ((x, s) :: rest) ∧ Below base w ((w.setCell ⟨g, 0, none⟩ (.int .u64 x)).setCell ⟨g, 1, none⟩ (.string s)) := by
  have hl := h.1
  rw [cellsOf_length] at hl
  simp only [List.length_cons] at hl
  have hn : n = rest.length + 1 := by omega
  subst hn
  have h1 := (h.stored 0 (.int .u64 x)).1
  have h2 := (h1.stored 1 (.string s)).1
  have hb : base ≤ g := (h.lt g rfl).1
  refine ⟨ents_of_row (base := base) (cap := cap) h2 (fun p hp => ?_), ((Below.refl _ _).setCell hb _).setCell hb _⟩
  rcases List.mem_cons.1 hp with rfl | hp
  · exact ⟨hx, hs⟩
  · exact hm p (List.mem_cons_of_mem _ hp)

set_option maxHeartbeats 1000000 in
theorem law4_core (a0 a1 : Option Addr) (l0 c0 l1 c1 : Nat) (e0 e1 : List Ent) (c : Int) (w : World) (h0 : IsEnts w a0 l0 e0) (h1 : IsEnts w a1 l1 e1) (hc : (Lit.int .u64 c).wf = true)
    (b0 : l0 ≤ 65536) (b1 : l1 ≤ 65536) :
    Calls Try.prog 4 #[.slice a0 l0 c0, .slice a1 l1 c1, .int .u64 c] w fun e w' => e = .returned (.bool true) ∧ Below w.heap.size w w' := by
  obtain ⟨i0, hi, hz0, hz1, hz2⟩ := info_parts info35
  go_enter Try.func4, Try.ntmps4
  go_wp2_with fail
  refine (bytes11_any _ _ _ _ _ _ e0 e1 _ w h0 h1 (by omega) (by omega)).mono ?_
  rintro e w' ⟨⟨r, rfl⟩, hw⟩
  obtain rfl : w = w' := hw.symm
  cases r
  · go_wp2
    go_ret
    exact ⟨rfl, Below.refl _ _⟩
  go_wp2_with fail
  refine (fit_any _ _ _ _ _ _ e0 e1 _ _ h0 h1 (by omega) (by omega)).mono ?_
  rintro e w' ⟨⟨r, rfl⟩, hw⟩
  obtain rfl : w = w' := hw.symm
  cases r
  · go_wp2
    go_ret
    exact ⟨rfl, Below.refl _ _⟩
  go_wp2_with fail
  refine (reach_any _ _ _ _ _ _ e0 e1 _ h0 h1 (by omega) (by omega)).mono ?_
  rintro e w1 ⟨⟨r, rfl⟩, hb1⟩
  cases r
  · go_wp2
    go_ret
    exact ⟨rfl, hb1⟩
  go_wp2_with fail
  refine (build_any _ _ _ _ _ _ e0 e1 _ (h0.below hb1) (h1.below hb1) (by omega) (by omega)).mono ?_
  rintro e w2 ⟨sb, rfl, hB, hb2⟩
  go_wp2_with fail
  refine (cursor_any _ e0 e1 _ _ hB hc (by have := h1.1; omega)).mono ?_
  rintro e w3 ⟨rfl, hb3⟩
  have hb13 : Below w.heap.size w w3 := hb1.trans ((hb2.mono hb1.size).trans (hb3.mono (Nat.le_trans hb1.size hb2.size)))
  clear hB hb2 hb3 hb1
  go_wp2_with fail
  refine (least_any _ _ _ _ _ _ e0 e1 _ _ (h0.below hb13) (h1.below hb13) (by omega) (by omega)).mono ?_
  rintro e w3' ⟨rfl, hw⟩
  obtain rfl : w3 = w3' := hw.symm
  have k0 := h0.below hb13
  have k1 := h1.below hb13
  have hs3 : w.heap.size ≤ w3.heap.size := hb13.size
  go_wp2
  go_loop [9, 10] (fun l i => ∃ m : Nat, m ≤ l0 ∧ i = .int .i64 ((m : Int) - 1) ∧ l = .int .i64 (-1) ∧ Above e0 c m) (fun _ i => (intOf i + 1).toNat)
  case atStart => exact ⟨l0, Nat.le_refl _, rfl, rfl, h0.1 ▸ Above.top e0 c⟩
  case round =>
    obtain ⟨m, hm, rfl, rfl, hno⟩ := hrel
    by_cases hz : m = 0
    · subst hz
      have hf : filed e0 c = [] := none_below hno
      have hok : ansOk e0 c = false := by simp [ansOk, hf]
      have hok2 : ansOk [] c = false := rfl
      have hr : ((ansR [] [] c).toList == (ansR e0 e1 c).toList) = true := by
        have e : ansR e0 e1 c = ByteArray.empty := by unfold ansR; rw [hf]; rfl
        have e' : ansR [] [] c = ByteArray.empty := rfl
        rw [e, e']
        simp
      clear hf hno
      go_wp2_with fail
      refine (build_any _ _ _ _ _ _ [] [] _ (IsEnts.nil _ _) (IsEnts.nil _ _) (by omega) (by omega)).mono ?_
      rintro e w8 ⟨sb', rfl, hB', hb8⟩
      go_wp2_with fail
      refine (cursor_any _ [] [] _ _ hB' hc (by simp)).mono ?_
      rintro e w9 ⟨rfl, hb9⟩
      have hb09 : Below w.heap.size w w9 := hb13.trans ((hb8.mono hs3).trans (hb9.mono (Nat.le_trans hs3 hb8.size)))
      clear hB' hb8 hb9
      go_wp2
      go_ret
      exact ⟨rfl, hb09⟩
    · obtain ⟨n, rfl⟩ : ∃ n, m = n + 1 := ⟨m - 1, by omega⟩
      obtain ⟨b, off, x, s, rfl, hle, hes, hc0, hc1, hwf, hsz⟩ := k0.at (show n < l0 by omega)
      have HE : Hid (e0[n]? = some (x, s)) := hes
      clear hes
      by_cases hx : x = c
      · subst hx
        have HL : Hid ((filed e0 x).getLast? = some s) := last_at HE.out hno
        clear hno
        have HST : Hid (∀ v : Value, v = .slice none 0 0 → w3.ownsRow w3.heap.size 35 2 v (sel e1 x l1).length (cellsOf (sel e1 x l1))) := fun v hv => by
          have e : sel e1 x l1 = [] := by rw [← h1.1]; exact sel_top e1 x
          rw [e, hv]
          exact World.ownsRow_nil _ _ _ _
        go_wp2
        go_loopw [14, 15] (fun v i wr => ∃ m : Nat, m ≤ l1 ∧ i = .int .i64 ((m : Int) - 1) ∧ wr.ownsRow w3.heap.size 35 2 v (sel e1 x m).length (cellsOf (sel e1 x m)) ∧ Below w3.heap.size w3 wr) (fun _ i _ => (intOf i + 1).toNat)
        case atStart => exact ⟨l1, Nat.le_refl _, rfl, HST.out _ rfl, Below.refl _ _⟩
        case round =>
          obtain ⟨m, hm1, rfl, hown, hbr⟩ := hrel
          have hszr : w.heap.size ≤ wr.heap.size := Nat.le_trans hs3 hbr.size
          have hbw : Below w.heap.size w wr := hb13.trans (hbr.mono hs3)
          by_cases hz : m = 0
          · subst hz
            rcases hown.2 with ⟨rfl, hn0⟩ | ⟨g, cap, cur, rfl, hg1, hg2, hg3, hg4, hg5, hg6⟩
            · have he : sel e1 x 0 = [] := List.length_eq_zero_iff.1 hn0
              obtain ⟨hr1, hr2⟩ := swap_none HL.out he
              have hr : ((ansR [(x, s)] [] x).toList == (ansR e0 e1 x).toList) = true := by rw [hr1]; simp
              have hpr : IsEnts (wr.alloc (.cells #[.int .u64 x, .string s] 35)) (some ⟨wr.heap.size, 0, none⟩) 1 [(x, s)] := one_ents _ hwf hsz
              have hk2 : ansOk e0 x = true := by unfold ansOk; rw [HL.out]; rfl
              have hk1 : ansOk [(x, s)] x = true := by rw [hr2]; exact hk2
              clear hr1 hr2 he hown hn0 HST
              go_wp2_with fail
              refine (build_any _ _ _ _ _ _ [(x, s)] [] _ hpr (IsEnts.nil _ _) (by omega) (by omega)).mono ?_
              rintro e w8 ⟨sb', rfl, hB', hb8⟩
              go_wp2_with fail
              refine (cursor_any _ [(x, s)] [] _ _ hB' hc (by simp)).mono ?_
              rintro e w9 ⟨rfl, hb9⟩
              have hb09 : Below w.heap.size w w9 := (hbw.alloc hszr _).trans ((hb8.mono (by simp; omega)).trans (hb9.mono (by have := hb8.size; simp at this; omega)))
              clear hB' hb8 hb9
              go_wp2
              go_ret
              exact ⟨rfl, hb09⟩
            · have hk2 : ansOk e0 x = true := by unfold ansOk; rw [HL.out]; rfl
              cases he : sel e1 x 0 with
              | nil =>
                obtain ⟨hr1, hr2⟩ := swap_none HL.out he
                have hr : ((ansR [(x, s)] [] x).toList == (ansR e0 e1 x).toList) = true := by rw [hr1]; simp
                have hpr : IsEnts (wr.alloc (.cells #[.int .u64 x, .string s] 35)) (some ⟨wr.heap.size, 0, none⟩) 1 [(x, s)] := one_ents _ hwf hsz
                have hk1 : ansOk [(x, s)] x = true := by rw [hr2]; exact hk2
                clear hr1 hr2 hown HST hg2 hg3 hg4 hg5 hg6
                go_wp2_with fail
                refine (build_any _ _ _ _ _ _ [(x, s)] [] _ hpr (IsEnts.nil _ _) (by omega) (by omega)).mono ?_
                rintro e w8 ⟨sb', rfl, hB', hb8⟩
                go_wp2_with fail
                refine (cursor_any _ [(x, s)] [] _ _ hB' hc (by simp)).mono ?_
                rintro e w9 ⟨rfl, hb9⟩
                have hb09 : Below w.heap.size w w9 := (hbw.alloc hszr _).trans ((hb8.mono (by simp; omega)).trans (hb9.mono (by have := hb8.size; simp at this; omega)))
                clear hB' hb8 hb9
                go_wp2
                go_ret
                exact ⟨rfl, hb09⟩
              | cons ef rest =>
                obtain ⟨y, f⟩ := ef
                obtain ⟨hr1, hr2⟩ := swap_some HL.out he
                have hr : ((ansR [(x, f)] ((x, s) :: rest) x).toList == (ansR e0 e1 x).toList) = true := by rw [hr1]; simp
                have hk1 : ansOk [(x, f)] x = true := by rw [hr2]; exact hk2
                have hmem : ∀ p ∈ (y, f) :: rest, (Lit.int .u64 p.1).wf = true ∧ p.2.size ≤ maxLen := fun p hp => h1.2.1 p (mem_sel (he ▸ hp)).1
                have hsl := sel_le e1 x 0
                rw [he] at hown hsl
                obtain ⟨d0, d1, d2, d3⟩ := row_head hown
                obtain ⟨D0, hst⟩ := row_put hown hwf hsz hmem
                have HD0 : Hid (IsEnts ((wr.setCell ⟨g, 0, none⟩ (.int .u64 x)).setCell ⟨g, 1, none⟩ (.string s)) (some ⟨g, 0, none⟩) (rest.length + 1) ((x, s) :: rest)) := D0
                have HST2 : Hid (Below w3.heap.size wr ((wr.setCell ⟨g, 0, none⟩ (.int .u64 x)).setCell ⟨g, 1, none⟩ (.string s))) := hst
                have hfs : f.size ≤ maxLen := (hmem (y, f) List.mem_cons_self).2
                have hl1 : e1.length = l1 := h1.1
                have hrl : rest.length + 1 ≤ 65536 := by simp at hsl; omega
                clear hr1 hr2 hown HST hg2 hg3 hg4 hg5 hg6 hmem D0 hst hsl hl1
                go_wp2_with fail
                have hpr : IsEnts (((wr.setCell ⟨g, 0, none⟩ (.int .u64 x)).setCell ⟨g, 1, none⟩ (.string s)).alloc (.cells #[.int .u64 x, .string f] 35)) (some ⟨wr.heap.size, 0, none⟩) 1 [(x, f)] := by
                  have := one_ents ((wr.setCell ⟨g, 0, none⟩ (.int .u64 x)).setCell ⟨g, 1, none⟩ (.string s)) hwf hfs
                  simpa using this
                have hal := HD0.out.below ((Below.refl _ _).alloc (Nat.le_refl _) (.cells #[.int .u64 x, .string f] 35))
                have hbx : Below w.heap.size w (((wr.setCell ⟨g, 0, none⟩ (.int .u64 x)).setCell ⟨g, 1, none⟩ (.string s)).alloc (.cells #[.int .u64 x, .string f] 35)) := (hbw.trans (HST2.out.mono hs3)).alloc (by simp; omega) _
                refine (build_any _ _ _ _ _ _ [(x, f)] ((x, s) :: rest) _ hpr hal (by omega) (by omega)).mono ?_
                rintro e w8 ⟨sb', rfl, hB', hb8⟩
                go_wp2_with fail
                refine (cursor_any _ [(x, f)] ((x, s) :: rest) _ _ hB' hc (by simp; omega)).mono ?_
                rintro e w9 ⟨rfl, hb9⟩
                have hb09 : Below w.heap.size w w9 := hbx.trans ((hb8.mono hbx.size).trans (hb9.mono (Nat.le_trans hbx.size hb8.size)))
                clear hB' hb8 hb9 hpr hal hbx
                go_wp2
                go_ret
                exact ⟨rfl, hb09⟩
          · obtain ⟨j, rfl⟩ : ∃ j, m = j + 1 := ⟨m - 1, by omega⟩
            obtain ⟨b', off', y, t, rfl, hle', hes', hd0, hd1, hwf', hsz'⟩ := k1.at (show j < l1 by omega)
            have q0 := (hbr.cell (p := ⟨b', off' + j * 2, none⟩) hle').trans hd0
            have q1 := (hbr.cell (p := ⟨b', off' + j * 2 + 1, none⟩) hle').trans hd1
            have HE' : Hid (e1[j]? = some (y, t)) := hes'
            have hsl := sel_le e1 x (j + 1)
            have hl1 := h1.1
            clear hes' hd0 hd1
            by_cases hy : y = x
            · subst hy
              have n5 : ∀ j u, [Value.int .u64 y, .string t][j]? = some u → (wr.alloc (.cells #[.int .u64 y, .string t] 35)).cell? ((⟨wr.heap.size, 0, none⟩ : Addr).add j) = some u := new_pair _ _ _ _
              have N5 : Hid (∀ j u, [Value.int .u64 y, .string t][j]? = some u → (wr.alloc (.cells #[.int .u64 y, .string t] 35)).cell? ((⟨wr.heap.size, 0, none⟩ : Addr).add j) = some u) := n5
              clear n5
              obtain ⟨n', HN⟩ : ∃ n', Hid ((sel e1 y (j + 1)).length = n') := ⟨_, rfl⟩
              rw [HN.out] at hown hsl
              have HL1 : Hid (e1.length = l1) := hl1
              have hsl' : n' ≤ l1 := by rw [← hl1]; exact hsl
              clear hl1 hsl
              go_wp2_with (first
                | (at_builtin; refine wpList_append_own _ rfl (.tmp 106) (.tmp 111) 22 rfl w3.heap.size 35 i0 (.agg #[.int .u64 0, .string { data := #[] }]) 2 24 Try.underlying22 hi hz0 hz1 hz2 rfl (by decide) _ n' _ rfl (hown.alloc _) ⟨wr.heap.size, 0, none⟩ 1 1 [.int .u64 y, .string t] rfl rfl N5.out (by simp [Value.oneCell']) (by unfold maxLen; omega) (by omega) (by have := hbr.size; simp; omega) ?_))
              intro v' w4 hown' hgrow hnil
              have hb4 : Below w3.heap.size w3 w4 := (hbr.alloc hbr.size _).grown hgrow (by have := hbr.size; simp; omega) (fun i hi' => (hown.lt i hi').1)
              have HS : Hid (sel e1 y j = sel e1 y (j + 1) ++ [(y, t)]) := sel_hit HE'.out
              have HO4 : Hid (w4.ownsRow w3.heap.size 35 2 v' (sel e1 y j).length (cellsOf (sel e1 y j))) := by
                unfold Hid
                rw [HS.out, List.length_append, HN.out, cellsOf_append]
                exact hown'
              clear hown' hgrow hown hnil
              go_wp2
              go_roundw
              case rel => exact ⟨j, by omega, by go_num, HO4.out, hb4⟩
              case measure => simp [intOf]
            · have hy' : (y == x) = false := by simpa using hy
              have HS : Hid (sel e1 x j = sel e1 x (j + 1)) := sel_miss HE'.out hy
              go_wp2
              go_roundw
              case rel => exact ⟨j, by omega, by go_num, by rw [HS.out]; exact hown, hbr⟩
              case measure => simp [intOf]
      · have hx' : (x == c) = false := by simpa using hx
        go_wp2
        go_round
        case rel => exact ⟨n, by omega, by go_num, rfl, hno.down HE.out hx⟩
        case measure => simp [intOf]

end Go.Proofs.Qxb6628365a
