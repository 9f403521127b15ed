/- The record's parts, as lists; the worlds of the laws' heads. -/
import Derived.Test.Qxb6628440aTrim
namespace Go.Proofs.Qxb6628440a
open Go.RowKit Go.WideShapes

theorem IsB.at' {w : World} {a : Option Addr} {n cap : Nat} {L : List Int} (h : IsB w (.slice a n cap) L) (hne : L ≠ []) :
    ∃ b off, a = some ⟨b, off, none⟩ ∧ ∀ (i : Nat) (x : Int), L[i]? = some x → w.cell? ⟨b, off + i, none⟩ = some (.int .u8 x) := by
  obtain ⟨b, off, cap', he, _, hc⟩ := h.at hne
  cases he
  exact ⟨b, off, rfl, hc⟩

/-- what may follow the kept bytes -/
def tailOf (RW : Nat) : List Int := if 0 < RW then uv RW else []

theorem split_k (L : List Int) (vals : List Nat) (K : List Int) (RW k : Nat) (h : k < vals.length) :
    L ++ recs vals K RW = (L ++ (vals.take k).flatMap uv) ++ (uv (vals.getD k 0) ++ ((vals.drop (k + 1)).flatMap uv ++ (uv K.length ++ K) ++ tailOf RW)) := by
  have e : vals = vals.take k ++ vals.getD k 0 :: vals.drop (k + 1) := by
    rw [List.getD_eq_getElem?_getD, List.getElem?_eq_getElem h, Option.getD_some, ← List.drop_eq_getElem_cons h, List.take_append_drop]
  have e2 : vals.flatMap uv = (vals.take k).flatMap uv ++ (uv (vals.getD k 0) ++ (vals.drop (k + 1)).flatMap uv) := by
    rw [← List.flatMap_cons, ← List.flatMap_append, ← e]
  rw [recs, e2, tailOf]
  simp only [List.append_assoc]

theorem pos_step (L : List Int) (vals : List Nat) (k : Nat) (h : k < vals.length) :
    (L ++ (vals.take k).flatMap uv).length + (uv (vals.getD k 0)).length = (L ++ (vals.take (k + 1)).flatMap uv).length := by
  have e : vals.take (k + 1) = vals.take k ++ [vals.getD k 0] := by
    rw [List.take_add_one, List.getD_eq_getElem?_getD, List.getElem?_eq_getElem h]
    rfl
  rw [e, List.flatMap_append]
  simp only [List.flatMap_cons, List.flatMap_nil, List.append_nil, List.length_append]
  omega

theorem split_len (L : List Int) (vals : List Nat) (K : List Int) (RW : Nat) :
    L ++ recs vals K RW = (L ++ vals.flatMap uv) ++ (uv K.length ++ (K ++ tailOf RW)) := by
  rw [recs, tailOf]
  simp only [List.append_assoc]

theorem split_tail (L : List Int) (vals : List Nat) (K : List Int) (RW : Nat) (h : 0 < RW) :
    L ++ recs vals K RW = (L ++ vals.flatMap uv ++ (uv K.length ++ K)) ++ (uv RW ++ []) := by
  rw [recs, if_pos h]
  simp only [List.append_assoc, List.append_nil]

theorem at_kept (L : List Int) (vals : List Nat) (K : List Int) (RW : Nat) (k : Nat) (x : Int) (h : K[k]? = some x) :
    (L ++ recs vals K RW)[(L ++ vals.flatMap uv).length + (uv K.length).length + k]? = some x := by
  have hk : k < K.length := (List.getElem?_eq_some_iff.1 h).1
  rw [split_len, List.getElem?_append_right (by omega), List.getElem?_append_right (by omega), List.getElem?_append_left (by omega)]
  rw [← h]
  congr 1
  omega

theorem at_head (L R : List Int) (k : Nat) (x : Int) (h : L[k]? = some x) : (L ++ R)[k]? = some x := by
  rw [List.getElem?_append_left (List.getElem?_eq_some_iff.1 h).1, h]

theorem len_all (L : List Int) (vals : List Nat) (K : List Int) (RW : Nat) :
    L.length + (recs vals K RW).length = (L ++ vals.flatMap uv).length + (uv K.length).length + K.length + (tailOf RW).length := by
  rw [← List.length_append, split_len]
  simp only [List.length_append]
  omega

theorem recs_len (vals : List Nat) (K : List Int) (RW : Nat) (hv : ∀ v ∈ vals, v < 18446744073709551616) (hl : vals.length = 6) (hK : K.length < 18446744073709551616) (hR : RW < 18446744073709551616) :
    (recs vals K RW).length ≤ 100 + K.length ∧ 1 ≤ (recs vals K RW).length := by
  have h1 := flat_len vals hv
  have h2 := uv_len hK
  have h3 := uv_len hR
  have h4 := uv_pos K.length
  have h5 := len_all [] vals K RW
  have h6 : (tailOf RW).length ≤ 10 := by
    rw [tailOf]
    split
    · exact h3
    · simp
  simp only [List.nil_append, List.length_nil] at h5
  omega

/-- two boxes, then an appender -/
theorem below_two {B : Nat} {w0 W2 W3 : World} {o1 o2 : Obj} {r r' : Option Nat} (hb : Below B w0 W2) (hB : B ≤ W2.heap.size) (hg : Grew ((W2.alloc o1).alloc o2) W3 r r') (hr : ∀ k, r = some k → B ≤ k) : Below B w0 W3 :=
  ((hb.alloc hB _).alloc (by simp; omega) _).trans (hg.below (by simp; omega) hr)

/-- zzUvarint at a place -/
theorem dec_at (v : Value) (M A Z : List Int) (x pos : Nat) (w : World) (hx : x < 18446744073709551616) (hv : IsB w v M) (hM : M = A ++ (uv x ++ Z)) (hpos : pos = A.length) (hlim : M.length ≤ 140737488355328) :
    Calls Try.prog 8 #[v, .int .i64 pos] w fun e w' => e = .returned (.tuple #[.int .u64 x, .int .i64 (uv x).length]) ∧ w' = w := by
  subst hpos
  exact dec_any v M A Z x w hx hv hM hlim

end Go.Proofs.Qxb6628440a
