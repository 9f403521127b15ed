/- ZZnewObject, ZZnewPoint, CursorKey. -/
import Derived.Test.Qxb6628365aMap
import Derived.Test.Qxb6628365aPlain
namespace Go.Proofs.Qxb6628365a
open Go.RowKit

/-- an object's block -/
def objB (s : ByteArray) : Obj := .cells #[.string s, .slice none 0 0, .int .u64 0, .bool false, .int .u32 0, .int .i64 0, .int .u64 0, .slice none 0 0, .bool false, .int .i64 0] 73
/-- the Store's block -/
def storeB (m1 m2 : Nat) : Obj := .cells #[.int .i32 0, .int .u32 0, .int .u32 0, .int .u32 0, .int .i32 0, .int .i32 0, .int .u64 0, .map (some m1), .map (some m2), .pointer none, .string { data := #[] }, .string { data := #[] }, .int .i64 0, .slice none 0 0, .pointer none, .bool false] 64
/-- a Point's block -/
def pointB (b : Nat) : Obj := .cells #[.pointer (some ⟨b, 0, none⟩)] 30

set_option maxHeartbeats 400000 in
theorem new_any (s : ByteArray) (w : World) :
    Calls Try.prog 12 #[.string s] w fun e w' => e = .returned (.pointer (some ⟨w.heap.size, 0, none⟩)) ∧ w.alloc (objB s) = w' := by
  go_enter Try.func12, Try.ntmps12
  go_wp2
  go_ret
  exact ⟨rfl, rfl⟩

set_option maxHeartbeats 400000 in
theorem point_any (m1 m2 : Nat) (w : World) :
    Calls Try.prog 13 #[.map (some m1), .map (some m2)] w fun e w' => e = .returned (.agg #[.pointer (some ⟨w.heap.size + 1, 0, none⟩)]) ∧ (w.alloc (pointB (w.heap.size + 1))).alloc (storeB m1 m2) = w' := by
  go_enter Try.func13, Try.ntmps13
  go_wp2
  exact bodyPost_ret (v := .agg #[.pointer (some ⟨w.heap.size + 1, 0, none⟩)]) (by simp [results, Try.results13, go_sem]) rfl ⟨rfl, rfl⟩

/-- the pointer v leads to an object of key o (none: it is nil) -/
def ObjAt (w : World) (v : Value) (o : Option ByteArray) : Prop :=
  (v = .pointer none ∧ o = none) ∨ ∃ pb s, v = .pointer (some ⟨pb, 0, none⟩) ∧ w.cell? ⟨pb, 0, none⟩ = some (.string s) ∧ o = some s

/-- the slice v leads to objects of the keys l -/
def Objs (w : World) (v : Value) (l : List ByteArray) : Prop :=
  (v = .slice none 0 0 ∧ l = []) ∨ ∃ g cap, v = .slice (some ⟨g, 0, none⟩) l.length cap ∧ ∀ (i : Nat) (s : ByteArray), l[i]? = some s → ∃ pb, w.cell? ⟨g, i, none⟩ = some (.pointer (some ⟨pb, 0, none⟩)) ∧ w.cell? ⟨pb, 0, none⟩ = some (.string s)

/-- block sb is a Store that files p and, colliding, a -/
def Built (w : World) (sb : Nat) (p a : List Ent) : Prop :=
  ∃ mo ma n1 n2 F1 F2, w.cell? ⟨sb, 7, none⟩ = some (.map (some mo)) ∧ w.cell? ⟨sb, 8, none⟩ = some (.map (some ma)) ∧ MapFn w mo n1 (.pointer none) F1 ∧ MapFn w ma n2 (.slice none 0 0) F2 ∧
    ∀ x, (Lit.int .u64 x).wf = true → ObjAt w (F1 x) (filed p x).getLast? ∧ Objs w (F2 x) (filed a x)

theorem Objs.form {w : World} {v : Value} {l : List ByteArray} (h : Objs w v l) : ∃ sa n cap, v = .slice sa n cap ∧ n = l.length ∧
    ∀ (i : Nat) (s : ByteArray), l[i]? = some s → ∃ g pb, sa = some ⟨g, 0, none⟩ ∧ w.cell? ⟨g, i, none⟩ = some (.pointer (some ⟨pb, 0, none⟩)) ∧ w.cell? ⟨pb, 0, none⟩ = some (.string s) := by
  rcases h with ⟨rfl, rfl⟩ | ⟨g, cap, rfl, h⟩
  · exact ⟨_, _, _, rfl, rfl, fun i s hi => by simp at hi⟩
  · exact ⟨_, _, _, rfl, rfl, fun i s hi => by obtain ⟨pb, h1, h2⟩ := h i s hi; exact ⟨g, pb, rfl, h1, h2⟩⟩

theorem filed_le (a : List Ent) (c : Int) : (filed a c).length ≤ a.length := by
  unfold filed; rw [List.length_map]; exact List.length_filter_le _ _

theorem run_min_string2 (ts : Array TypeId) (t : TypeId) (x y : ByteArray) (w : World) : (Builtin.min_ ts t #[.string x, .string y]).run Try.prog w = .ok (.string (smin x y)) w := by
  simp [Builtin.min_, Builtin.min2, Op.stringOp, smin, asBool]

theorem mn_snoc (k : ByteArray) (l : List ByteArray) (j : Nat) (s : ByteArray) (h : l[j]? = some s) : mn k (l.take (j + 1)) = smin (mn k (l.take j)) s := by
  rw [take_snoc h]; simp [mn]

theorem cell_box {w : World} {o : Obj} {a : Addr} {v : Value} (h : w.cell? a = some v) : (w.alloc o).cell? a = some v := by
  rw [World.cell?_alloc_lt _ _ _ (World.block_lt_of_cell? w a h)]; exact h

set_option maxHeartbeats 800000 in
theorem cursor_any (sb : Nat) (p a : List Ent) (c : Int) (w : World) (hB : Built w sb p a) (hc : (Lit.int .u64 c).wf = true) (hl : a.length ≤ 9223372036854775807) :
    Calls Try.prog 9 #[.agg #[.pointer (some ⟨sb, 0, none⟩)], .int .u64 c] w fun e w' => e = .returned (.tuple #[.string (ansR p a c), .bool (ansOk p c)]) ∧ Below w.heap.size w w' := by
  obtain ⟨mo, ma, n1, n2, F1, F2, hc7, hc8, hm1, hm2, hF⟩ := hB
  obtain ⟨hO, hA⟩ := hF c hc
  clear hF
  have k7 := cell_box (o := .cells #[.pointer (some ⟨sb, 0, none⟩)] 30) hc7
  have k8 := cell_box (o := .cells #[.pointer (some ⟨sb, 0, none⟩)] 30) hc8
  have q1 := (hm1.alloc (.cells #[.pointer (some ⟨sb, 0, none⟩)] 30)).look Try.underlying38 (zero39 _) hc
  have q2 := (hm2.alloc (.cells #[.pointer (some ⟨sb, 0, none⟩)] 30)).look Try.underlying41 (zero42 _) hc
  have hmin := run_min_string2
  rcases hO with ⟨e1, e2⟩ | ⟨pb, s, e1, hs, e2⟩
  · have HR : Hid (ansR p a c = ByteArray.empty ∧ ansOk p c = false) := by simp [Hid, ansR, ansOk, e2]
    rw [e1] at q1
    clear q2 e1 e2 hm1 hm2 hc7 hc8 hA
    rw [HR.out.1, HR.out.2]
    go_enter Try.func9, Try.ntmps9
    go_wp2
    go_ret2
    exact ⟨rfl, (Below.refl _ _).alloc (Nat.le_refl _) _⟩
  · have HR : Hid (ansR p a c = mn s (filed a c) ∧ ansOk p c = true) := by simp [Hid, ansR, ansOk, e2]
    rw [e1] at q1
    have ks := cell_box (o := .cells #[.pointer (some ⟨sb, 0, none⟩)] 30) hs
    clear e1 e2 hm1 hm2 hc7 hc8 hs
    obtain ⟨sa, n, cap, hv, hn, hget⟩ := hA.form
    rw [hv] at q2
    have hnl : n ≤ 9223372036854775807 := by rw [hn]; exact Nat.le_trans (filed_le _ _) hl
    have HN : Hid (n = (filed a c).length) := hn
    have HG : Hid (∀ (i : Nat) (s : ByteArray), (filed a c)[i]? = some s → ∃ g pb, sa = some ⟨g, 0, none⟩ ∧ w.cell? ⟨g, i, none⟩ = some (.pointer (some ⟨pb, 0, none⟩)) ∧ w.cell? ⟨pb, 0, none⟩ = some (.string s)) := hget
    clear hv hn hget hA
    obtain ⟨l, hL⟩ : ∃ l, Hid (filed a c = l) := ⟨_, rfl⟩
    have HG2 := HG.out
    rw [hL.out] at HG2
    have HN2 := HN.out
    rw [hL.out] at HN2
    have HR1 := HR.out.1
    rw [hL.out] at HR1
    rw [HR1, HR.out.2]
    have HG3 : Hid (∀ (i : Nat) (s : ByteArray), l[i]? = some s → ∃ g pb, sa = some ⟨g, 0, none⟩ ∧ w.cell? ⟨g, i, none⟩ = some (.pointer (some ⟨pb, 0, none⟩)) ∧ w.cell? ⟨pb, 0, none⟩ = some (.string s)) := HG2
    have HN3 : Hid (n = l.length) := HN2
    clear HG2 HN2 HR1 HR HG HN hL
    go_enter Try.func9, Try.ntmps9
    go_wp2
    go_loop [7, 31] (fun v i => ∃ j : Nat, j ≤ n ∧ i = .int .i64 j ∧ v = .string (mn s (l.take j))) (fun _ i => n - (intOf i).toNat)
    case atStart => exact ⟨0, Nat.zero_le _, rfl, rfl⟩
    case round =>
      obtain ⟨j, hj, rfl, rfl⟩ := hrel
      by_cases hlt : j < n
      · obtain ⟨t, ht⟩ : ∃ t, l[j]? = some t := ⟨_, List.getElem?_eq_getElem (by have := HN3.out; omega)⟩
        obtain ⟨g, qb, rfl, hp, hq⟩ := HG3.out j t ht
        have hp' := cell_box (o := .cells #[.pointer (some ⟨sb, 0, none⟩)] 30) hp
        have hq' := cell_box (o := .cells #[.pointer (some ⟨sb, 0, none⟩)] 30) hq
        have HM : Hid (mn s (l.take (j + 1)) = smin (mn s (l.take j)) t) := mn_snoc _ _ _ _ ht
        clear hp hq ht
        go_wp2
        go_round
        case rel => exact ⟨j + 1, by omega, by go_num, by rw [HM.out]⟩
        case measure => simp [intOf]; omega
      · have HM : Hid (mn s (l.take j) = mn s l) := by unfold Hid; rw [List.take_of_length_le (by have := HN3.out; omega)]
        go_wp2
        go_ret2
        exact ⟨by rw [HM.out]; rfl, (Below.refl _ _).alloc (Nat.le_refl _) _⟩

end Go.Proofs.Qxb6628365a
