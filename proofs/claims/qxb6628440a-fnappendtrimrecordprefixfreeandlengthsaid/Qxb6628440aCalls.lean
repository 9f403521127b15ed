/- codec.AppendBytes, zzCloneBytes, the two zzBytes. -/
import Derived.Test.Qxb6628440aAppend
namespace Go.Proofs.Qxb6628440a
open Go.RowKit Go.WideShapes

/-- cells of another row stay -/
theorem cells_keep {w w' : World} {r r' : Option Nat} {a : Addr} {L : List Int} (hg : Grew w w' r r') (hne : r = some a.block → L = []) (hc : ∀ (i : Nat) (x : Int), L[i]? = some x → w.cell? (a.add i) = some (.int .u8 x)) :
    ∀ (i : Nat) (x : Int), L[i]? = some x → w'.cell? (a.add i) = some (.int .u8 x) := by
  intro i x hx
  have hlt := World.block_lt_of_cell? w _ (hc i x hx)
  refine (hg.cell hlt fun e => ?_).trans (hc i x hx)
  have := hne (e.trans (by rw [add_block]))
  simp [this] at hx

theorem own_app {w : World} {v : Value} {L K : List Int} {n : Nat} {xs : List Value} (h : w.ownsRow 0 5 1 v n xs) (hn : n = L.length + K.length) (hx : xs = L.map (Value.int .u8) ++ K.map (Value.int .u8)) : Own w v (L ++ K) := by
  unfold Own
  rw [List.length_append, List.map_append, ← hn, ← hx]
  exact h

set_option maxRecDepth 100000 in
set_option maxHeartbeats 1000000 in
/-- AppendBytes onto a row of the call's own -/
theorem appendBytes (sv pv : Value) (L K : List Int) (w : World) (hown : Own w sv L) (hp : IsB w pv K) (hne : ∀ k, sv.ownBlock = some k → pv.ownBlock = some k → K = []) (hlim : L.length + K.length + 20 ≤ 140737488355328) :
    Calls Try.prog 12 #[sv, pv] w fun e w' => ∃ v', e = .returned v' ∧ Own w' v' (L ++ (uv K.length ++ K)) ∧ Grew w w' sv.ownBlock v'.ownBlock := by
  obtain ⟨i0, hi, hz0, hz1, hz2⟩ := info_parts info5
  have hul : (uv K.length).length ≤ 10 := uv_len (by omega)
  rcases hp with ⟨rfl, rfl⟩ | ⟨ad, cap, rfl, hc⟩
  · go_enter Try.func12, Try.ntmps12
    go_wp2_with fail
    refine (appendUv 0 (by omega) sv L w hown (by omega)).mono ?_
    rintro e w1 ⟨v1, rfl, ho1, hg1⟩
    have ho1 : Hid (Own w1 v1 (L ++ uv 0)) := ho1
    have hg1 : Hid (Grew w w1 sv.ownBlock v1.ownBlock) := hg1
    go_wp2_with (at_builtin; refine wpList_append_own_none rfl _ _ 22 rfl 0 5 i0 1 Try.underlying22 hi _ _ _ rfl ho1.out rfl ?_)
    go_wp2
    go_ret
    exact ⟨v1, rfl, by simpa using ho1.out, hg1.out⟩
  · go_enter Try.func12, Try.ntmps12
    go_wp2_with fail
    refine (appendUv K.length (by omega) sv L w hown (by omega)).mono ?_
    rintro e w1 ⟨v1, rfl, ho1, hg1⟩
    have hc1 := cells_keep hg1 (fun e => hne _ e rfl) hc
    have ho1 : Hid (Own w1 v1 (L ++ uv K.length)) := ho1
    have hg1 : Hid (Grew w w1 sv.ownBlock v1.ownBlock) := hg1
    go_wp2_with (at_builtin; refine wpList_append_own_at _ rfl _ _ 22 rfl 0 5 i0 (.int .u8 0) 1 1 Try.underlying22 hi hz0 hz1 hz2 rfl (by decide) _ _ _ rfl ho1.out ad K.length cap (K.map (Value.int .u8)) rfl ?c0 ?c1 ?c2 ?c3 ?c4 ?c5 ?_)
    case c0 => simp
    case c1 =>
      intro j u hj
      simp only [List.getElem?_map, Option.map_eq_some_iff] at hj
      obtain ⟨x, hx, rfl⟩ := hj
      exact hc1 j x hx
    case c2 => intro u hu; simp at hu; obtain ⟨x, _, rfl⟩ := hu; rfl
    case c3 => simp only [List.length_append]; unfold maxLen; omega
    case c4 => simp only [List.length_append]; omega
    case c5 => omega
    intro v2 w2 hown' hgrow _ hat
    have hg2 : Hid (Grew w w2 sv.ownBlock v2.ownBlock) := hg1.out.trans (Grew.step hgrow hat)
    have ho2 : Hid (Own w2 v2 (L ++ (uv K.length ++ K))) := by
      show Own w2 v2 (L ++ (uv K.length ++ K))
      rw [← List.append_assoc]
      exact own_app hown' (by simp) (by simp)
    clear hgrow hat hown'
    go_wp2
    go_ret
    exact ⟨v2, rfl, ho2.out, hg2.out⟩

/-- a clone is a row of its own -/
theorem clone_own {w w1 : World} {K : List Int} {cur A : Array Value} (hg : w.grownBy w1 none) (hm : K.length ≤ maxLen) (hh : w1.heap[w.heap.size]? = some (.cells cur 5 (0, 0))) (hA : A = (K.map (Value.int .u8)).toArray) :
    Own (w1.setRow w.heap.size A) (.slice (some ⟨w.heap.size, 0, none⟩) K.length K.length) K ∧ Grew w (w1.setRow w.heap.size A) none (some w.heap.size) := by
  subst hA
  refine ⟨⟨by simp, .inr ⟨w.heap.size, K.length, _, rfl, Nat.zero_le _, setRow_heap _ _ _ _ _ _ hh, Nat.le_refl _, hm, by simp, by rw [List.take_of_length_le] <;> simp⟩⟩, ⟨⟨hg.os, hg.tape, hg.output, by simpa using hg.size, fun k hk hne => ?_⟩, .inr fun k hk => by cases hk; exact Nat.le_refl _⟩⟩
  exact (setRow_other _ _ _ _ (by omega)).trans (hg.block k hk hne)

/-- the copy into a row just made -/
theorem clone_run {w w1 : World} {ad : Addr} {cap : Nat} {K : List Int} {xs : List Value} (hlim : K.length ≤ 1048576) (hc : ∀ (i : Nat) (x : Int), K[i]? = some x → w.cell? (ad.add i) = some (.int .u8 x))
    (hown1 : w1.ownsRow 0 5 1 (.slice (some ⟨w.heap.size, 0, none⟩) K.length K.length) K.length xs) (hg1 : w.grownBy w1 none) :
    ∃ w2 : World, (Builtin.copy_ #[22, 22] 3 #[.slice (some ⟨w.heap.size, 0, none⟩) K.length K.length, .slice (some ad) K.length cap]).run Try.prog w1 = .ok (.int .i64 K.length) w2 ∧
      Own w2 (.slice (some ⟨w.heap.size, 0, none⟩) K.length K.length) K ∧ Grew w w2 none (some w.heap.size) := by
  obtain ⟨cur, hh, hcs⟩ : ∃ cur : Array Value, w1.heap[w.heap.size]? = some (.cells cur 5 (0, 0)) ∧ cur.size = K.length := by
    rcases hown1.2 with ⟨h, _⟩ | ⟨g, c, cur, h, _, hh, _, _, hs, _⟩
    · cases h
    · cases h
      exact ⟨cur, hh, by simpa using hs⟩
  have hc1 : ∀ (i : Nat) (x : Int), K[i]? = some x → w1.cell? (ad.add i) = some (.int .u8 x) := fun i x hx => hg1.cell (hc i x hx) (by simp)
  have hrun := run_copy_row (P := Try.prog) w1 22 22 3 5 w.heap.size 0 K.length K.length ad K.length cap cur 5 (K.map (Value.int .u8)) Try.underlying22 (by kernel_rfl) hh (by simp)
    (fun j u hj => by
      simp only [List.getElem?_map, Option.map_eq_some_iff] at hj
      obtain ⟨x, hx, rfl⟩ := hj
      exact hc1 j x hx) (by simp [hcs]) (fun u hu => by simp at hu; obtain ⟨x, _, rfl⟩ := hu; rfl)
  refine ⟨_, hrun.trans (by simp [goInt]; rfl), clone_own (K := K) hg1 (by unfold maxLen; omega) hh (by simp [hcs])⟩

theorem eqlIn (w : World) (d : Nat) (a : Option Addr) (l c : Nat) : (Op.equalIn (d + 1) 22 (.slice a l c) (.slice none 0 0)).run Try.prog w = .ok a.isNone w := by
  cases a <;> simp [Op.equalIn, run_underlying Try.underlying22]
theorem eqlNil (w : World) (a : Option Addr) (l c : Nat) : (binOp .eql 22 (.slice a l c) (.slice none 0 0)).run Try.prog w = .ok (.bool a.isNone) w := by
  have h : (Op.equal 22 (.slice a l c) (.slice none 0 0)).run Try.prog w = .ok a.isNone w := eqlIn w 9999 a l c
  simp [binOp, h]

set_option maxHeartbeats 1000000 in
/-- zzCloneBytes -/
theorem clone_any (pv : Value) (K : List Int) (w : World) (hp : IsB w pv K) (hlim : K.length ≤ 1048576) :
    Calls Try.prog 6 #[pv] w fun e w' => ∃ v', e = .returned v' ∧ Own w' v' K ∧ Grew w w' none v'.ownBlock := by
  have E1 := eqlNil
  obtain ⟨i0, hi, hz0, hz1, hz2⟩ := info_parts info5
  rcases hp with ⟨rfl, rfl⟩ | ⟨ad, cap, rfl, hc⟩
  · go_enter Try.func6, Try.ntmps6
    go_wp2
    go_ret
    exact ⟨_, rfl, Own.nil _, Grew.refl _ _⟩
  · go_enter Try.func6, Try.ntmps6
    go_wp2_with (at_make; refine wpList_make_full _ rfl _ _ 22 rfl 0 5 i0 (.int .u8 0) 1 Try.underlying22 hi hz0 hz1 _ _ _ _ K.length rfl rfl (by omega) (by omega) ?b2 ?b3 ?b4 ?_)
    case b2 => rw [hz2]; omega
    case b3 => unfold maxLen; omega
    case b4 => omega
    intro w1 hown1 hg1
    obtain ⟨w2, hrun, ho, hg⟩ := clone_run (cap := cap) hlim hc hown1 hg1
    have ho : Hid (Own w2 (.slice (some ⟨w.heap.size, 0, none⟩) K.length K.length) K) := ho
    have hg : Hid (Grew w w2 none (some w.heap.size)) := hg
    clear hown1 hg1 hc
    go_wp2
    go_ret
    exact ⟨_, rfl, ho.out, hg.out⟩

/-- some bool -/
def SomeBool (e : Ending) : Prop := ∃ b : Bool, e = .returned (.bool b)

theorem bytes_any (n : Nat) (hn : n = 5 ∨ n = 9) (a0 a6 : Option Addr) (len0 cap0 len6 cap6 : Nat) (a1 a2 a3 a4 a5 a7 : Int) (w : World) :
    Calls Try.prog n #[.slice a0 len0 cap0, .int .u64 a1, .int .u64 a2, .int .u64 a3, .int .u64 a4, .int .u64 a5, .slice a6 len6 cap6, .int .u64 a7] w fun e w' => SomeBool e ∧ w' = w := by
  rcases hn with rfl | rfl
  · go_enter Try.func5, Try.ntmps5
    go_wp2
    all_goals (go_ret; exact ⟨⟨_, rfl⟩, rfl⟩)
  · go_enter Try.func9, Try.ntmps9
    go_wp2
    all_goals (go_ret; exact ⟨⟨_, rfl⟩, rfl⟩)

end Go.Proofs.Qxb6628440a
