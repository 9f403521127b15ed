/- raft.AppendTrimRecord. -/
import Derived.Test.Qxb6628440aDec
namespace Go.Proofs.Qxb6628440a
open Go.RowKit Go.WideShapes

theorem new_cell (w : World) (cs : Array Value) (t : TypeId) (n k : Nat) (h : n = w.heap.size) : (w.alloc (.cells cs t)).cell? ⟨n, k, none⟩ = cs[k]? := by
  subst h
  have e := heap_alloc_new w (.cells cs t)
  unfold World.cell?
  simp only [e]
  rfl

theorem flat_len : ∀ vs : List Nat, (∀ v ∈ vs, v < 18446744073709551616) → (vs.flatMap uv).length ≤ 10 * vs.length
  | [], _ => by simp
  | v :: vs, h => by
    have h1 := flat_len vs fun x hx => h x (List.mem_cons_of_mem _ hx)
    have h2 := uv_len (h v (by simp))
    rw [List.flatMap_cons, List.length_append, List.length_cons]
    omega

/-- the row that is read stays another one -/
theorem ne_keep {w w' : World} {r r' : Option Nat} {v : Value} {K : List Int} (hg : Grew w w' r r') (hv : IsB w v K) (hne : ∀ k, r = some k → v.ownBlock = some k → K = []) :
    ∀ k, r' = some k → v.ownBlock = some k → K = [] := by
  intro k hr hk
  rcases hg.2 with rfl | h
  · exact hne k hr hk
  · by_cases hK : K = []
    · exact hK
    · obtain ⟨b, off, cap, rfl, hb, _⟩ := hv.at hK
      have h1 := h k hr
      have h2 : b = k := by simpa [Value.ownBlock] using hk
      omega

set_option maxRecDepth 100000 in
set_option maxHeartbeats 2000000 in
theorem trim_any (sv kv : Value) (L K : List Int) (T V C I TT RW : Nat) (w : World) (hown : Own w sv L) (hk : IsB w kv K) (hne : ∀ k, sv.ownBlock = some k → kv.ownBlock = some k → K = [])
    (hT : T < 18446744073709551616) (hV : V < 18446744073709551616) (hC : C < 18446744073709551616) (hTT : TT < 18446744073709551616) (hRW : RW < 18446744073709551616)
    (hlim : L.length + K.length ≤ 2097152) :
    Calls Try.prog 7 #[sv, .agg #[.int .u64 T, .int .u64 V, .int .u64 C], .agg #[.int .u64 I, .int .u64 TT], kv, .int .u64 RW] w fun e w' =>
      ∃ v', e = .returned v' ∧ Own w' v' (L ++ recs [T, V, C, (I + 1) % 18446744073709551616, 0, TT] K RW) ∧ Grew w w' sv.ownBlock v'.ownBlock := by
  obtain ⟨J, hJ⟩ : ∃ J : Nat, J = (I + 1) % 18446744073709551616 := ⟨_, rfl⟩
  have hJw : ((I : Int) + 1) % 18446744073709551616 = (J : Int) := by omega
  have hJv : IntKind.u64.wrap ((I : Int) + 1) = (J : Int) := by
    rw [hJ]; simp [IntKind.wrap, IntKind.bits, IntKind.signed]
  rw [← hJ]
  have hJlt : J < 18446744073709551616 := by omega
  clear hJ
  obtain ⟨vals, hvals⟩ : ∃ vals : List Nat, vals = [T, V, C, J, 0, TT] := ⟨_, rfl⟩
  have hvl : vals.length = 6 := by rw [hvals]; rfl
  have hvlt : ∀ v ∈ vals, v < 18446744073709551616 := by
    intro v hv
    rw [hvals] at hv
    simp only [List.mem_cons, List.not_mem_nil, or_false] at hv
    omega
  rw [← hvals]
  have G0 : Hid (Grew w (((w.alloc (Obj.cells #[Value.int IntKind.u64 T, Value.int IntKind.u64 V, Value.int IntKind.u64 C] 27)).alloc (Obj.cells #[Value.int IntKind.u64 I, Value.int IntKind.u64 TT] 29)).alloc
      (Obj.cells #[Value.int IntKind.u64 T, Value.int IntKind.u64 V, Value.int IntKind.u64 C, Value.int IntKind.u64 J, Value.int IntKind.u64 0, Value.int IntKind.u64 TT] 23)) sv.ownBlock sv.ownBlock) :=
    (((Grew.refl w _).alloc _).alloc _).alloc _
  have O0 : Hid (Own (((w.alloc (Obj.cells #[Value.int IntKind.u64 T, Value.int IntKind.u64 V, Value.int IntKind.u64 C] 27)).alloc (Obj.cells #[Value.int IntKind.u64 I, Value.int IntKind.u64 TT] 29)).alloc
      (Obj.cells #[Value.int IntKind.u64 T, Value.int IntKind.u64 V, Value.int IntKind.u64 C, Value.int IntKind.u64 J, Value.int IntKind.u64 0, Value.int IntKind.u64 TT] 23)) sv L) :=
    ((hown.alloc _).alloc _).alloc _
  have C0 : Hid (∀ k : Nat, k < 6 → (((w.alloc (Obj.cells #[Value.int IntKind.u64 T, Value.int IntKind.u64 V, Value.int IntKind.u64 C] 27)).alloc (Obj.cells #[Value.int IntKind.u64 I, Value.int IntKind.u64 TT] 29)).alloc
      (Obj.cells #[Value.int IntKind.u64 T, Value.int IntKind.u64 V, Value.int IntKind.u64 C, Value.int IntKind.u64 J, Value.int IntKind.u64 0, Value.int IntKind.u64 TT] 23)).cell? ⟨w.heap.size + 1 + 1, k, none⟩ = some (.int .u64 ((vals.getD k 0 : Nat) : Int))) := by
    intro k hk
    rw [hvals]
    have : k = 0 ∨ k = 1 ∨ k = 2 ∨ k = 3 ∨ k = 4 ∨ k = 5 := by omega
    rcases this with rfl | rfl | rfl | rfl | rfl | rfl <;> (rw [new_cell _ _ _ _ _ (by simp)]; rfl)
  have S0 : (((w.alloc (Obj.cells #[Value.int IntKind.u64 T, Value.int IntKind.u64 V, Value.int IntKind.u64 C] 27)).alloc (Obj.cells #[Value.int IntKind.u64 I, Value.int IntKind.u64 TT] 29)).alloc
      (Obj.cells #[Value.int IntKind.u64 T, Value.int IntKind.u64 V, Value.int IntKind.u64 C, Value.int IntKind.u64 J, Value.int IntKind.u64 0, Value.int IntKind.u64 TT] 23)).heap.size = w.heap.size + 1 + 1 + 1 := by simp
  have hsv : ∀ k, sv.ownBlock = some k → k < w.heap.size := hown.lt
  have HK : Hid (IsB w kv K) := hk
  have HO : Hid (Own w sv L) := hown
  have HNE : Hid (∀ k, sv.ownBlock = some k → kv.ownBlock = some k → K = []) := hne
  clear hk hown hne hvals
  go_enter Try.func7, Try.ntmps7
  go_wp2
  generalize hW1 : (((w.alloc (Obj.cells #[Value.int IntKind.u64 T, Value.int IntKind.u64 V, Value.int IntKind.u64 C] 27)).alloc (Obj.cells #[Value.int IntKind.u64 I, Value.int IntKind.u64 TT] 29)).alloc
      (Obj.cells #[Value.int IntKind.u64 T, Value.int IntKind.u64 V, Value.int IntKind.u64 C, Value.int IntKind.u64 J, Value.int IntKind.u64 0, Value.int IntKind.u64 TT] 23)) = W1 at G0 O0 C0 S0 ⊢
  clear hW1
  go_loopw [0, 26] (fun vb vi wr => ∃ k : Nat, k ≤ 6 ∧ vi = .int .i64 k ∧ Own wr vb (L ++ (vals.take k).flatMap uv) ∧ Grew W1 wr sv.ownBlock vb.ownBlock) (fun _ vi _ => 6 - (intOf vi).toNat)
  case atStart => exact ⟨0, by omega, rfl, by simpa using O0.out, Grew.refl _ _⟩
  case round =>
    obtain ⟨k, hk6, rfl, ho, hg⟩ := hrel
    have hfl : ((vals.take k).flatMap uv).length ≤ 60 := by
      have h1 := flat_len (vals.take k) fun v hv => hvlt v (List.mem_of_mem_take hv)
      have h2 : (vals.take k).length ≤ 6 := by rw [List.length_take]; omega
      omega
    have ho : Hid (Own wr _ (L ++ (vals.take k).flatMap uv)) := ho
    have hg : Hid (Grew W1 wr sv.ownBlock _) := hg
    by_cases hlt : k < 6
    · have hcell : wr.cell? ⟨w.heap.size + 1 + 1, k, none⟩ = some (.int .u64 ((vals.getD k 0 : Nat) : Int)) :=
        (hg.out.cell (by show w.heap.size + 1 + 1 < W1.heap.size; omega) (fun e => by have := hsv _ e; simp only at this; omega)).trans (C0.out k hlt)
      have hvk : vals.getD k 0 < 18446744073709551616 := by
        rw [List.getD_eq_getElem?_getD, List.getElem?_eq_getElem (by omega)]
        exact hvlt _ (List.getElem_mem _)
      have htk : Hid (vals.take (k + 1) = vals.take k ++ [vals.getD k 0]) := by
        show _ = _
        rw [List.take_add_one, List.getD_eq_getElem?_getD, List.getElem?_eq_getElem (by omega)]
        rfl
      obtain ⟨x, hx⟩ : ∃ x : Nat, x = vals.getD k 0 := ⟨_, rfl⟩
      rw [← hx] at hcell hvk htk
      clear hx
      go_wp2_with fail
      refine (appendUv x hvk _ _ wr ho.out (by rw [List.length_append]; omega)).mono ?_
      rintro e w1 ⟨v1, rfl, ho1, hg1⟩
      have ho1 : Hid (Own w1 v1 (L ++ (vals.take (k + 1)).flatMap uv)) := by
        show Own _ _ _
        rw [htk.out, List.flatMap_append, ← List.append_assoc]
        simpa using ho1
      have hg1 : Hid (Grew W1 w1 sv.ownBlock v1.ownBlock) := hg.out.trans hg1
      clear hg ho hcell
      go_wp2
      go_roundw
      case rel => exact ⟨k + 1, by omega, by go_num, ho1.out, hg1.out⟩
      case measure => simp [intOf]; omega
    · obtain rfl : k = 6 := by omega
      have hall : vals.take 6 = vals := by rw [List.take_of_length_le (by omega)]
      rw [hall] at ho hfl
      have hkr : Hid (IsB wr kv K) := (HK.out.keep G0.out HNE.out).keep hg.out (ne_keep G0.out HK.out HNE.out)
      have hnr := ne_keep hg.out (HK.out.keep G0.out HNE.out) (ne_keep G0.out HK.out HNE.out)
      have hnr : Hid (∀ k, _ = some k → kv.ownBlock = some k → K = []) := hnr
      go_wp2_with fail
      refine (appendBytes _ kv (L ++ vals.flatMap uv) K wr ho.out hkr.out hnr.out (by rw [List.length_append]; omega)).mono ?_
      rintro e w1 ⟨v1, rfl, ho1, hg1⟩
      have hul : (uv K.length).length ≤ 10 := uv_len (by omega)
      have hg1 : Hid (Grew w w1 sv.ownBlock v1.ownBlock) := (G0.out.trans hg.out).trans hg1
      have ho1 : Hid (Own w1 v1 (L ++ vals.flatMap uv ++ (uv K.length ++ K))) := ho1
      clear hg ho hkr hnr
      by_cases hrw : 0 < RW
      · go_wp2_with fail
        refine (appendUv RW hRW _ _ w1 ho1.out (by rw [List.length_append, List.length_append, List.length_append]; omega)).mono ?_
        rintro e w2 ⟨v2, rfl, ho2, hg2⟩
        have hg2 : Hid (Grew w w2 sv.ownBlock v2.ownBlock) := hg1.out.trans hg2
        have ho2 : Hid (Own w2 v2 (L ++ recs vals K RW)) := by
          show Own _ _ _
          rw [recs, if_pos hrw]
          simpa using ho2
        clear hg1 ho1
        go_wp2
        go_ret
        exact ⟨_, rfl, ho2.out, hg2.out⟩
      · have ho2 : Hid (Own w1 v1 (L ++ recs vals K RW)) := by
          show Own _ _ _
          rw [recs, if_neg hrw]
          simpa using ho1.out
        clear ho1
        go_wp2
        go_ret
        exact ⟨_, rfl, ho2.out, hg1.out⟩
end Go.Proofs.Qxb6628440a
