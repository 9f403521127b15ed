/- FnCursorKeyInsertCollidingKey: the walk out of the contracts. -/
import Derived.Test.Qxb6628365aSums
import Derived.Test.Qxb6628365aReach
import Derived.Test.Qxb6628365aLeast
import Derived.Test.Qxb6628365aBuildW
namespace Go.Proofs.Qxb6628365a
open Go.RowKit

/-- the cells of a row of entries -/
def cellsOf (es : List Ent) : List Value := es.flatMap fun e => [.int .u64 e.1, .string e.2]

theorem cellsOf_append (a b : List Ent) : cellsOf (a ++ b) = cellsOf a ++ cellsOf b := by simp [cellsOf]
theorem cellsOf_length : ∀ es : List Ent, (cellsOf es).length = es.length * 2
  | [] => rfl
  | e :: es => by
    have := cellsOf_length es
    simp only [cellsOf, List.flatMap_cons, List.length_append, List.length_cons, List.length_nil] at *
    omega
theorem cellsOf_one (es : List Ent) : ∀ u ∈ cellsOf es, u.oneCell' = true := by
  intro u hu
  obtain ⟨e, _, he⟩ := List.mem_flatMap.1 hu
  simp at he
  rcases he with rfl | rfl <;> rfl
theorem cellsOf_at : ∀ (es : List Ent) (i : Nat) (x : Int) (s : ByteArray), es[i]? = some (x, s) → (cellsOf es)[i * 2]? = some (.int .u64 x) ∧ (cellsOf es)[i * 2 + 1]? = some (.string s)
  | [], i, x, s, h => by simp at h
  | e :: es, 0, x, s, h => by simp at h; subst h; exact ⟨rfl, rfl⟩
  | e :: es, i + 1, x, s, h => by
    have := cellsOf_at es i x s (by simpa using h)
    rw [show (i + 1) * 2 = i * 2 + 1 + 1 by omega]
    exact this
theorem cellsOf_inv : ∀ (es : List Ent) (j : Nat) (u : Value), (cellsOf es)[j]? = some u → ∃ i x s, es[i]? = some (x, s) ∧ ((j = i * 2 ∧ u = .int .u64 x) ∨ (j = i * 2 + 1 ∧ u = .string s))
  | [], j, u, h => by simp [cellsOf] at h
  | e :: es, 0, u, h => ⟨0, e.1, e.2, rfl, .inl ⟨rfl, by have : (Value.int .u64 e.1) = u := by simpa [cellsOf] using h
                                                         exact this.symm⟩⟩
  | e :: es, 1, u, h => ⟨0, e.1, e.2, rfl, .inr ⟨rfl, by have : (Value.string e.2) = u := by simpa [cellsOf] using h
                                                         exact this.symm⟩⟩
  | e :: es, j + 2, u, h => by
    obtain ⟨i, x, s, h1, h2⟩ := cellsOf_inv es j u h
    refine ⟨i + 1, x, s, h1, ?_⟩
    rcases h2 with ⟨h, h'⟩ | ⟨h, h'⟩
    · exact .inl ⟨by omega, h'⟩
    · exact .inr ⟨by omega, h'⟩

/-- a row of the call's own reads as entries -/
theorem ents_of_row {w : World} {base g n cap : Nat} {es : List Ent} (h : w.ownsRow base 35 2 (.slice (some ⟨g, 0, none⟩) n cap) n (cellsOf es)) (hwf : ∀ e ∈ es, (Lit.int .u64 e.1).wf = true ∧ e.2.size ≤ maxLen) : IsEnts w (some ⟨g, 0, none⟩) n es := by
  have hl : es.length = n := by have := h.1; rw [cellsOf_length] at this; omega
  refine ⟨hl, hwf, fun hp => ⟨g, 0, rfl, fun i hi => ?_⟩⟩
  have he : es[i]? = some (es.getD i eDef) := by
    rw [List.getD_eq_getElem?_getD, List.getElem?_eq_getElem (by omega)]; rfl
  obtain ⟨q0, q1⟩ := cellsOf_at es i _ _ he
  have r0 := h.cells (g := g) rfl _ _ q0
  have r1 := h.cells (g := g) rfl _ _ q1
  rw [Addr.add_lit] at r0 r1
  exact ⟨r0, by rw [Nat.add_assoc]; exact r1⟩

/-- the cells that 'append(grown, alike[:p]...)' and 'append(grown, alike[p:]...)' take -/
theorem cells_part {w : World} {a : Option Addr} {len lo n : Nat} {es : List Ent} (h : IsEnts w a len es) {ao : Option Addr} (hao : ∀ b off, a = some ⟨b, off, none⟩ → 0 < n → lo < len → ao = some ⟨b, off + lo * 2, none⟩) :
    ∀ ad, ao = some ad → ∀ j u, (cellsOf ((es.drop lo).take n))[j]? = some u → w.cell? (ad.add j) = some u := by
  intro ad had j u hu
  obtain ⟨i, x, s, h1, h2⟩ := cellsOf_inv _ _ _ hu
  have hin : i < n := by
    have := (List.getElem?_eq_some_iff.1 h1).1
    rw [List.length_take] at this
    omega
  rw [List.getElem?_take, if_pos hin, List.getElem?_drop] at h1
  have hlt : lo + i < len := by
    have := (List.getElem?_eq_some_iff.1 h1).1
    have := h.1
    omega
  obtain ⟨b, off, x', s', ha, _, he, hc0, hc1, _⟩ := h.at hlt
  rw [h1] at he
  simp only [Option.some.injEq, Prod.mk.injEq] at he
  obtain ⟨rfl, rfl⟩ := he
  rw [hao b off ha (by omega) (by omega)] at had
  obtain rfl := Option.some.inj had
  rw [Addr.add_lit]
  rcases h2 with ⟨rfl, rfl⟩ | ⟨rfl, rfl⟩
  · rw [show off + lo * 2 + i * 2 = off + (lo + i) * 2 by omega]; exact hc0
  · rw [show off + lo * 2 + (i * 2 + 1) = off + (lo + i) * 2 + 1 by omega]; exact hc1

/-- THE PLAIN LAW -/
theorem insert_law (e0 e1 : List Ent) (c : Int) (k : ByteArray) (p : Nat) (hok : ansOk e0 c = true) :
    ansR e0 (e1.take p ++ (c, k) :: e1.drop p) c = if Op.bytesLess k.toList (ansR e0 e1 c).toList then k else ansR e0 e1 c := by
  unfold ansOk at hok
  obtain ⟨s, hs⟩ := Option.isSome_iff_exists.1 hok
  unfold ansR
  rw [hs]
  simp only
  have ef : filed (e1.take p ++ (c, k) :: e1.drop p) c = filed (e1.take p) c ++ (k :: filed (e1.drop p) c) := by
    rw [filed_append, show (c, k) :: e1.drop p = [(c, k)] ++ e1.drop p from rfl, filed_append, filed_hit]; rfl
  have eo : filed e1 c = filed (e1.take p) c ++ filed (e1.drop p) c := by rw [← filed_append, List.take_append_drop]
  have hmem : ∀ x, x ∈ s :: filed (e1.take p ++ (c, k) :: e1.drop p) c ↔ x = k ∨ x ∈ s :: filed e1 c := by
    intro x
    rw [ef, eo]
    simp only [List.mem_cons, List.mem_append]
    constructor
    · rintro (h | h | h | h) <;> simp [h]
    · rintro (h | h | h | h) <;> simp [h]
  apply mn_unique
  · rw [hmem]
    split
    · exact .inl rfl
    · exact .inr (mn_mem _ _)
  · intro x hx
    rcases (hmem x).1 hx with rfl | h
    · split
      · exact le_refl _
      · rename_i h; simpa [le] using h
    · split
      · rename_i hlt
        refine le_trans ?_ (mn_le _ _ _ h)
        unfold le
        cases h3 : Op.bytesLess (mn s (filed e1 c)).toList k.toList
        · rfl
        · have := bl_trans _ _ _ hlt h3
          rw [bl_irrefl] at this
          cases this
      · exact mn_le _ _ _ h

theorem info35 : (Try.prog.info? 35).map (fun i => (i.zero, i.size, i.bytes)) = some (some (.agg #[.int .u64 0, .string { data := #[] }]), 2, 24) := by kernel_rfl

theorem new_pair (w : World) (x y : Value) (t : TypeId) : ∀ j u, [x, y][j]? = some u → (w.alloc (.cells #[x, y] t)).cell? ((⟨w.heap.size, 0, none⟩ : Addr).add j) = some u := by
  intro j u hj
  match j, hj with
  | 0, hj => simp at hj; subst hj; simp [Addr.add]
  | 1, hj => simp at hj; subst hj; simp [Addr.add]

theorem grown_wf {e1 : List Ent} {c : Int} {k : ByteArray} {p : Nat} (h : ∀ e ∈ e1, (Lit.int .u64 e.1).wf = true ∧ e.2.size ≤ maxLen) (hc : (Lit.int .u64 c).wf = true) (hk : k.size ≤ maxLen) :
    ∀ e ∈ e1.take p ++ (c, k) :: e1.drop p, (Lit.int .u64 e.1).wf = true ∧ e.2.size ≤ maxLen := by
  intro e he
  rcases List.mem_append.1 he with he | he
  · exact h e (List.mem_of_mem_take he)
  · rcases List.mem_cons.1 he with rfl | he
    · exact ⟨hc, hk⟩
    · exact h e (List.mem_of_mem_drop he)

theorem slice_tail (a1 : Option Addr) (l1 c1 p : Nat) (hcap : l1 ≤ c1) (hnil : a1 = none → c1 = 0) (bp : p ≤ l1) :
    ∃ s1, (∀ W, (Instr.slice 22 (.slice a1 l1 c1) (some (.int .i64 p)) none none).run Try.prog W = .ok (.slice s1 (l1 - p) (c1 - p)) W) ∧ (s1 = none → l1 - p = 0 ∧ c1 - p = 0) ∧
      ∀ b off, a1 = some ⟨b, off, none⟩ → 0 < l1 - p → p < l1 → s1 = some ⟨b, off + p * 2, none⟩ := by
  refine ⟨if c1 = p then a1 else a1.map (·.add (p * 2)), fun W => ?_, fun h => ?_, fun b off ha h0 h1 => ?_⟩
  · have h2 : ((sizeOf (Try.prog.elem 22)).run Try.prog W) = .ok 2 W := by kernel_rfl
    have h3 : Try.prog.underlying 22 = some (.slice (Try.prog.elem 22)) := Try.underlying22
    rw [run_slice_l (P := Try.prog) (w := W) 22 a1 l1 c1 h3 .i64 p (by omega) (by omega), h2]
    simp [sliced, Result.andThen]
  · split at h
    · omega
    · rw [Option.map_eq_none_iff] at h
      have := hnil h
      omega
  · rw [if_neg (by omega), ha]
    simp [Addr.add_lit]

set_option maxHeartbeats 1000000 in
theorem law3_core (a0 a1 : Option Addr) (l0 c0 l1 c1 : Nat) (e0 e1 : List Ent) (c : Int) (k : ByteArray) (p : Nat) (w : World) (h0 : IsEnts w a0 l0 e0) (h1 : IsEnts w a1 l1 e1) (hcap : l1 ≤ c1) (hnil : a1 = none → c1 = 0) (hc : (Lit.int .u64 c).wf = true) (hks : k.size ≤ maxLen)
    (b0 : l0 ≤ 65536) (b1 : l1 ≤ 65536) (bk : k.size ≤ 1048576) (bp : p ≤ l1) :
    Calls Try.prog 3 #[.slice a0 l0 c0, .slice a1 l1 c1, .int .u64 c, .string k, .int .i64 p] w fun e w' => e = .returned (.bool true) ∧ Below w.heap.size w w' := by
  obtain ⟨i0, hi, hz0, hz1, hz2⟩ := info_parts info35
  go_enter Try.func3, Try.ntmps3
  go_wp2_with fail
  refine (bytes5_any _ _ _ _ _ _ e0 e1 _ _ _ w h0 h1 (by omega) (by omega)).mono ?_
  rintro e w' ⟨⟨r, rfl⟩, hw⟩
  obtain rfl : w = w' := hw.symm
  cases r
  · go_wp2
    go_ret
    exact ⟨rfl, Below.refl _ _⟩
  go_wp2_with fail
  refine (fit_any _ _ _ _ _ _ e0 e1 _ _ h0 h1 (by omega) (by omega)).mono ?_
  rintro e w' ⟨⟨r, rfl⟩, hw⟩
  obtain rfl : w = w' := hw.symm
  cases r
  · go_wp2
    go_ret
    exact ⟨rfl, Below.refl _ _⟩
  go_wp2_with fail
  refine (reach_any _ _ _ _ _ _ e0 e1 _ h0 h1 (by omega) (by omega)).mono ?_
  rintro e w1 ⟨⟨r, rfl⟩, hb1⟩
  cases r
  · go_wp2
    go_ret
    exact ⟨rfl, hb1⟩
  go_wp2_with fail
  refine (build_any _ _ _ _ _ _ e0 e1 _ (h0.below hb1) (h1.below hb1) (by omega) (by omega)).mono ?_
  rintro e w2 ⟨sb, rfl, hB, hb2⟩
  go_wp2_with fail
  refine (cursor_any _ e0 e1 _ _ hB hc (by have := h1.1; omega)).mono ?_
  rintro e w3 ⟨rfl, hb3⟩
  have hb13 : Below w.heap.size w w3 := hb1.trans ((hb2.mono hb1.size).trans (hb3.mono (Nat.le_trans hb1.size hb2.size)))
  clear hB hb2 hb3 hb1
  go_wp2_with fail
  refine (least_any _ _ _ _ _ _ e0 e1 _ _ (h0.below hb13) (h1.below hb13) (by omega) (by omega)).mono ?_
  rintro e w3' ⟨rfl, hw⟩
  obtain rfl : w3 = w3' := hw.symm
  by_cases hok : ansOk e0 c = true
  case neg =>
    have hok' : ansOk e0 c = false := by simpa using hok
    go_wp2
    go_ret
    exact ⟨rfl, hb13⟩
  have h1' := h1.below hb13
  go_wp2_with (first
    | (at_make; refine wpList_make_own _ rfl _ _ 22 rfl w.heap.size 35 i0 (.agg #[.int .u64 0, .string { data := #[] }]) 2 Try.underlying22 hi hz0 hz1 _ _ _ (l1 + 1) rfl rfl (by omega) (by rw [hz2]; omega) (by unfold maxLen; omega) hb13.size ?_))
  intro w4 ho4 hg4
  have hs3 : w.heap.size ≤ w3.heap.size := hb13.size
  have hb34 : Below w3.heap.size w3 w4 := (Below.refl _ _).grown hg4 (Nat.le_refl _) (by simp)
  have h4 := h1'.below hb34
  have n4 : ∀ ad, a1 = some ad → ∀ j u, (cellsOf ((e1.drop 0).take p))[j]? = some u → w4.cell? (ad.add j) = some u := cells_part h4 (fun b off ha _ _ => by rw [ha]; simp)
  have m4 : (cellsOf ((e1.drop 0).take p)).length = p * 2 := by rw [cellsOf_length]; have := h1.1; simp; omega
  have z4 : a1 = none → p = 0 ∧ c1 = 0 := fun h => by have := hnil h; omega
  go_wp2_with (first
    | (at_builtin; refine wpList_append_fits_any _ rfl (.tmp 76) (.tmp 79) 22 rfl w.heap.size 35 i0 2 Try.underlying22 hi hz1 w3.heap.size 0 (l1 + 1) [] rfl ho4 a1 p c1 (cellsOf ((e1.drop 0).take p)) rfl m4 z4 n4 (cellsOf_one _) (by omega) ?_))
  intro w5 ho5 hg5
  clear n4 m4 z4
  have hb45 : Below w3.heap.size w4 w5 := (Below.refl _ _).grown hg5 hb34.size (fun j hj => by cases hj; exact Nat.le_refl _)
  have n5 : ∀ j u, [Value.int .u64 c, .string k][j]? = some u → (w5.alloc (.cells #[.int .u64 c, .string k] 35)).cell? ((⟨w5.heap.size, 0, none⟩ : Addr).add j) = some u := new_pair _ _ _ _
  go_wp2_with (first
    | (at_builtin; refine wpList_append_fits_any _ rfl (.tmp 81) (.tmp 85) 22 rfl w.heap.size 35 i0 2 Try.underlying22 hi hz1 w3.heap.size p (l1 + 1) _ rfl (ho5.alloc _) (some ⟨w5.heap.size, 0, none⟩) 1 1 [.int .u64 c, .string k] rfl rfl (fun h => by cases h) (fun ad h => by cases h; exact n5) (by simp [Value.oneCell']) (by omega) ?_))
  intro w6 ho6 hg6
  clear n5
  have hb56 : Below w3.heap.size w5 w6 := ((Below.refl w3.heap.size w5).alloc (Nat.le_trans hb34.size hb45.size) _).grown hg6 (by have := hb34.size; have := hb45.size; simp; omega) (fun j hj => by cases hj; exact Nat.le_refl _)
  have hb36 : Below w3.heap.size w3 w6 := hb34.trans (hb45.trans hb56)
  have h6 := h1'.below hb36
  clear hb34 hb45 hb56 h4
  have m6 : (cellsOf ((e1.drop p).take (l1 - p))).length = (l1 - p) * 2 := by rw [cellsOf_length]; have := h1.1; simp; omega
  obtain ⟨s1, hsl, hs1n, hs1⟩ := slice_tail a1 l1 c1 p hcap hnil bp
  have n6 := cells_part (n := l1 - p) (lo := p) (ao := s1) h6 hs1
  have N6 : Hid (∀ ad, s1 = some ad → ∀ j u, (cellsOf ((e1.drop p).take (l1 - p)))[j]? = some u → w6.cell? (ad.add j) = some u) := n6
  have Z6 : Hid (s1 = none → l1 - p = 0 ∧ c1 - p = 0) := hs1n
  clear n6 hs1n hs1
  go_wp2_with (first
    | (at_builtin; refine wpList_append_fits_any _ rfl (.tmp 87) (.tmp 90) 22 rfl w.heap.size 35 i0 2 Try.underlying22 hi hz1 w3.heap.size (p + 1) (l1 + 1) _ rfl ho6 s1 (l1 - p) (c1 - p) (cellsOf ((e1.drop p).take (l1 - p))) rfl m6 Z6.out N6.out (cellsOf_one _) (by omega) ?_))
  intro w7 ho7 hg7
  have hb37 : Below w3.heap.size w3 w7 := hb36.grown hg7 (Nat.le_trans hb36.size (Nat.le_refl _)) (fun j hj => by cases hj; exact Nat.le_refl _)
  have hb07 : Below w.heap.size w w7 := hb13.trans (hb37.mono hs3)
  have hg : IsEnts w7 (some ⟨w3.heap.size, 0, none⟩) (p + 1 + (l1 - p)) (e1.take p ++ (c, k) :: e1.drop p) := by
    refine ents_of_row (base := w.heap.size) (cap := l1 + 1) ?_ (grown_wf h1.2.1 hc hks)
    have e : cellsOf (e1.take p ++ (c, k) :: e1.drop p) = cellsOf (e1.take p) ++ [Value.int .u64 c, .string k] ++ cellsOf ((e1.drop p).take (l1 - p)) := by
      have e2 : (e1.drop p).take (l1 - p) = e1.drop p := List.take_of_length_le (by have := h1.1; simp; omega)
      rw [e2, cellsOf_append, List.append_assoc]; rfl
    rw [e]
    simpa using ho7
  have hlaw := insert_law e0 e1 c k p hok
  have hlen : (e1.take p ++ (c, k) :: e1.drop p).length ≤ 9223372036854775807 := by have := h1.1; simp; omega
  obtain ⟨gr, HGR⟩ : ∃ gr, Hid (e1.take p ++ (c, k) :: e1.drop p = gr) := ⟨_, rfl⟩
  rw [HGR.out] at hg hlaw hlen
  clear ho7 hg7 N6 Z6 hsl m6 hb36 h6 ho6 hg6 ho5 hg5 ho4 hg4
  go_wp2_with fail
  refine (build_any _ _ _ _ _ _ e0 gr _ (h0.below hb07) hg (by omega) (by omega)).mono ?_
  rintro e w8 ⟨sb', rfl, hB', hb8⟩
  go_wp2_with fail
  refine (cursor_any _ e0 gr _ _ hB' hc hlen).mono ?_
  rintro e w9 ⟨rfl, hb9⟩
  have hb09 : Below w.heap.size w w9 := hb07.trans ((hb8.mono hb07.size).trans (hb9.mono (Nat.le_trans hb07.size hb8.size)))
  have HL : Hid (ansR e0 gr c = if Op.bytesLess k.toList (ansR e0 e1 c).toList then k else ansR e0 e1 c) := hlaw
  clear hB' hb8 hb9 hg hlaw HGR hlen
  by_cases hlt : Op.bytesLess k.toList (ansR e0 e1 c).toList = true
  · have hr : (ansR e0 gr c).toList == k.toList := by rw [HL.out, if_pos hlt]; simp
    go_wp2
    go_ret
    exact ⟨rfl, hb09⟩
  · have hlt' : Op.bytesLess k.toList (ansR e0 e1 c).toList = false := by simpa using hlt
    have hr : ((ansR e0 gr c).toList == (ansR e0 e1 c).toList) = true := by rw [HL.out, if_neg hlt]; simp
    go_wp2
    go_ret
    exact ⟨rfl, hb09⟩

end Go.Proofs.Qxb6628365a
