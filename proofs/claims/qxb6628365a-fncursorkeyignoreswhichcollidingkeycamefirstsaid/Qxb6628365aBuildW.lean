/- ckBuild: the walk. -/
import Derived.Test.Qxb6628365aBuild
import Derived.Deep.RegionLaw
namespace Go.Proofs.Qxb6628365a
open Go.RowKit

theorem info39 : (Try.prog.info? 39).map (fun i => (i.zero, i.size, i.bytes)) = some (some (.pointer none), 1, 8) := by kernel_rfl

theorem call12 (s : ByteArray) (w : World) : (callFunc 12 #[.string s]).run Try.prog w = .ok (.enter 12 #[.string s]) w := by kernel_rfl

/-- ZZnewObject, as one step of a region that draws -/
theorem step_new {ops : Array Oper} {o : Oper} {a : Act} {w : World} {K : Act → World → Prop} {Q : Exit → Act → World → Prop} {E : Prop}
    (hg : o.guard = none) (x : Operand) (t : TypeId) (hop : o.op = Op.call { callee := Callee.value (Operand.func 12), args := #[x], argTypes := #[t] }) (s : ByteArray) (hx : a.eval x = .string s)
    (hK : K (a.put o.dst (.pointer (some ⟨w.heap.size, 0, none⟩))) (w.alloc (objB s))) :
    if Region.wanted o (yielded ops a.tmps) = true then Oper.wp Try.prog o a w K Q else E := by
  have hw : Region.wanted o (yielded ops a.tmps) = true := by simp [Region.wanted, hg]
  rw [if_pos hw]
  unfold Oper.wp
  have hf : a.eval (.func 12) = .func (.func 12) #[] #[] := rfl
  have hcall := call12 s w
  simp [execOp, hop, resolve, invoke, hx, hf, Deferred.ofValue, hcall]
  refine (new_any s w).mono ?_
  rintro e w' ⟨rfl, rfl⟩
  exact hK

/-- 'append' onto a slice of the call's own, as one step of a region that draws -/
theorem step_append_at {ops : Array Oper} {o : Oper} {a : Act} {w : World} {K : Act → World → Prop} {Q : Exit → Act → World → Prop} {E : Prop}
    (hg : o.guard = none) (s x : Operand) (t : TypeId) (hop : o.op = Op.call { callee := Callee.builtin Builtin.append, args := #[s, x], argTypes := #[t, t] })
    (base : Nat) (e : TypeId) (i : TypeInfo) (z : Value) (size bytes : Nat) (ht : Try.prog.underlying t = some (.slice e)) (hi : Try.prog.info? e = some i) (hz : i.zero = some z)
    (hsize : i.size = size) (hby : i.bytes = bytes) (hzs : z.cells.size = size) (hsz : 0 < size)
    (v : Value) (n : Nat) (xs : List Value) (hs : a.eval s = v) (hown : w.ownsRow base e size v n xs)
    (ad : Addr) (m c : Nat) (news : List Value) (hx : a.eval x = .slice (some ad) m c) (hl : news.length = m * size) (hnews : ∀ j u, news[j]? = some u → w.cell? (ad.add j) = some u) (h1 : ∀ u ∈ news, u.oneCell' = true)
    (h63 : n + m ≤ maxLen) (hbytes : (n + m) * bytes ≤ 140737488355328) (hbase : base ≤ w.heap.size)
    (hK : ∀ v' w', w'.ownsRow base e size v' (n + m) (xs ++ news) → w.grownBy w' v.ownBlock → (v'.ownBlock = v.ownBlock ∨ v'.ownBlock = some w.heap.size) → K (a.put o.dst v') w') :
    if Region.wanted o (yielded ops a.tmps) = true then Oper.wp Try.prog o a w K Q else E := by
  have hw : Region.wanted o (yielded ops a.tmps) = true := by simp [Region.wanted, hg]
  rw [if_pos hw]
  obtain ⟨v', w', hrun, h2, h3, _, h5⟩ := run_append_own_at (P := Try.prog) w base t o.type e i z size bytes ht hi hz hsize hby hzs hsz v n xs hown ad m c news hl hnews h1 h63 hbytes hbase
  unfold Oper.wp
  simp [execOp, hop, resolve, invoke, builtin, hs, hx, hrun, Result.andThen]
  exact hK v' w' h2 h3 h5

theorem Inv2.start (wo : World) (e : List Ent) : Inv2 (wo.alloc (.map #[] 0)) (wo.heap.size + 1) wo.heap.size 0 e (fun _ => .slice none 0 0) :=
  ⟨MapFn.made _ _, fun x => ⟨[], by simp [filed], by simp [filed]; exact World.ownsRow_nil _ _ _ _, fun i s hi => by simp [filed] at hi⟩, fun _ _ _ => .inl rfl, by simp, by omega⟩

theorem new_cell (w : World) (x : Value) (t : TypeId) : ∀ j u, [x][j]? = some u → (w.alloc (.cells #[x] t)).drew.cell? ((⟨w.heap.size, 0, none⟩ : Addr).add j) = some u := cell_one_new w x t

/-- the round's end: the store, and what is kept -/
theorem Inv2.finish {wr w3 : World} {base m k n : Nat} {e : List Ent} {F : Int → Value} {x : Int} {s : ByteArray} {v' : Value} {pbs : List Nat} (h : Inv2 wr base m k e F) (he : e[k]? = some (x, s)) (hwf : (Lit.int .u64 x).wf = true) (hk : k < maxLen)
    (hN : (filed (e.take k) x).length = n) (hpl : pbs.length = n) (hobj : ∀ (i : Nat) (t : ByteArray), (filed (e.take k) x)[i]? = some t → ∃ pb, pbs[i]? = some pb ∧ wr.heap[pb]? = some (objB t))
    (hrow : wr.ownsRow base 39 1 (F x) n (pbs.map fun b => Value.pointer (some ⟨b, 0, none⟩)))
    (hrow3 : w3.ownsRow base 39 1 v' (n + 1) ((pbs.map fun b => Value.pointer (some ⟨b, 0, none⟩)) ++ [.pointer (some ⟨wr.heap.size, 0, none⟩)]))
    (hg3 : ((wr.alloc (objB s)).alloc (.cells #[.pointer (some ⟨wr.heap.size, 0, none⟩)] 39)).drew.grownBy w3 (F x).ownBlock)
    (hat : v'.ownBlock = (F x).ownBlock ∨ v'.ownBlock = some ((wr.alloc (objB s)).alloc (.cells #[.pointer (some ⟨wr.heap.size, 0, none⟩)] 39)).drew.heap.size) :
    ∃ w4, (Instr.mapUpdate 41 (.map (some m)) (.int .u64 x) v').run Try.prog w3 = .ok () w4 ∧ Hid (Inv2 w4 base m (k + 1) e (upd F x v') ∧ Below m wr w4) := by
  subst hN
  have hmP : MapFn ((wr.alloc (objB s)).alloc (.cells #[.pointer (some ⟨wr.heap.size, 0, none⟩)] 39)).drew m k (.slice none 0 0) F := ((h.1.alloc _).alloc _).drew
  have hne : some m ≠ (F x).ownBlock := fun e1 => by
    have := (hrow.lt m e1.symm).1
    have := h.2.2.2.2
    omega
  have hbs := h.2.2.2.1
  have hmb := h.2.2.2.2
  obtain ⟨w4, hrun, hm4, hg4⟩ := (hmP.kept hg3 hne).store Try.underlying41 hk hwf v'
  refine ⟨w4, hrun, h.step he hpl hobj hrow hrow3 hg3 (by simpa using hat) hm4 hg4, ?_⟩
  have b1 : Below m wr ((wr.alloc (objB s)).alloc (.cells #[.pointer (some ⟨wr.heap.size, 0, none⟩)] 39)).drew := (((Below.refl m wr).alloc (by omega) _).alloc (by simp; omega) _).drew
  have b3 := b1.grown hg3 (by simp; omega) (fun j hj => by have := (hrow.lt j hj).1; omega)
  exact b3.grown hg4 (by have := hg3.size; simp at this; omega) (fun j hj => by cases hj; exact Nat.le_refl _)

theorem Built.of {wo wr W : World} {B k j sb : Nat} {F G : Int → Value} {e0 e1 : List Ent} (hI : Inv1 wo (B + 1) k e0 F) (hB : B < wo.heap.size) (hb : Below wo.heap.size wo wr) (hJ : Inv2 wr (wo.heap.size + 1) wo.heap.size j e1 G)
    (hk : e0.length ≤ k) (hj : e1.length ≤ j)
    (hW : ∀ b, b < wr.heap.size → b ≠ B → W.heap[b]? = wr.heap[b]?) (hBo : ∀ s, wr.heap[B]? ≠ some (objB s)) (hBr : ∀ (cur : Array Value) r, wr.heap[B]? ≠ some (.cells cur 39 r))
    (h7 : W.cell? ⟨sb, 7, none⟩ = some (.map (some (B + 1)))) (h8 : W.cell? ⟨sb, 8, none⟩ = some (.map (some wo.heap.size))) : Built W sb e0 e1 := by
  have o1 : ∀ (b : Nat) (s : ByteArray), wr.heap[b]? = some (objB s) → W.heap[b]? = some (objB s) := fun b s h => by
    rw [hW b (Array.getElem?_eq_some_iff.1 h).1 (fun e => hBo s (e ▸ h))]; exact h
  have o0 : ∀ (b : Nat) (s : ByteArray), wo.heap[b]? = some (objB s) → W.heap[b]? = some (objB s) := fun b s h => o1 b s (by rw [hb.block b (Array.getElem?_eq_some_iff.1 h).1]; exact h)
  refine ⟨B + 1, wo.heap.size, k, j, F, G, h7, h8, ?_, ?_, fun x _ => ⟨?_, ?_⟩⟩
  · refine hI.1.same ?_
    rw [hW (B + 1) (by have := hI.1.lt; have := hb.size; omega) (by omega), hb.block _ hI.1.lt]
  · exact hJ.1.same (hW _ (by have := hJ.1.lt; omega) (by omega))
  · have := (hI.2 x).kept o0
    rw [List.take_of_length_le hk] at this
    exact this.objAt
  · obtain ⟨q, ql, qr, qo⟩ := hJ.2.1 x
    rw [List.take_of_length_le hj] at ql qr qo
    refine Row.objs (base := wo.heap.size + 1) ⟨q, ql, ⟨qr.1, ?_⟩, fun i s hi => by obtain ⟨pb, p1, p2⟩ := qo i s hi; exact ⟨pb, p1, o1 pb s p2⟩⟩
    rcases qr.2 with h | ⟨g, cap, cur, r1, r2, r3, r4⟩
    · exact .inl h
    · exact .inr ⟨g, cap, cur, r1, r2, by rw [hW g (Array.getElem?_eq_some_iff.1 r3).1 (fun e => hBr _ _ (e ▸ r3))]; exact r3, r4⟩

theorem build_end {w wo wr : World} {k j : Nat} {F G : Int → Value} {e0 e1 : List Ent} (v : Value) (hI : Inv1 wo (w.heap.size + 1) k e0 F) (hB : wo.heap[w.heap.size]? = some (.cells #[.pointer none] 30 (0, 0))) (hb : Below w.heap.size w wo) (hb2 : Below wo.heap.size wo wr)
    (hJ : Inv2 wr (wo.heap.size + 1) wo.heap.size j e1 G) (hBr : wr.heap[w.heap.size]? = some (.cells #[.pointer none] 30 (0, 0))) (hk : e0.length ≤ k) (hj : e1.length ≤ j) :
    Built (((wr.alloc (pointB (wr.heap.size + 1))).alloc (storeB (w.heap.size + 1) wo.heap.size)).setCell ⟨w.heap.size, 0, none⟩ v) (wr.heap.size + 1) e0 e1 ∧
    Below w.heap.size w (((wr.alloc (pointB (wr.heap.size + 1))).alloc (storeB (w.heap.size + 1) wo.heap.size)).setCell ⟨w.heap.size, 0, none⟩ v) := by
  have hlt : w.heap.size < wo.heap.size := (Array.getElem?_eq_some_iff.1 hB).1
  have hsz := hb2.size
  have hs : (((wr.alloc (pointB (wr.heap.size + 1))).alloc (storeB (w.heap.size + 1) wo.heap.size)).setCell ⟨w.heap.size, 0, none⟩ v).heap[wr.heap.size + 1]? = some (storeB (w.heap.size + 1) wo.heap.size) := by
    rw [Below.heap_setCell _ _ _ _ (by show wr.heap.size + 1 ≠ w.heap.size; omega)]
    have := heap_alloc_top (wr.alloc (pointB (wr.heap.size + 1))) (storeB (w.heap.size + 1) wo.heap.size)
    simpa using this
  refine ⟨Built.of hI hlt hb2 hJ hk hj (fun b hb hne => ?_) (fun s h => ?_) (fun cur r h => ?_) ?_ ?_, ?_⟩
  · rw [Below.heap_setCell _ _ _ _ hne, Below.heap_alloc _ _ _ (by simp; omega), Below.heap_alloc _ _ _ hb]
  · rw [hBr] at h; simp [objB] at h
  · rw [hBr] at h; simp at h
  · unfold World.cell?
    simp only
    rw [hs]
    rfl
  · unfold World.cell?
    simp only
    rw [hs]
    rfl
  · exact (((hb.trans (hb2.mono hb.size)).alloc (by have := hb.size; omega) _).alloc (by have := hb.size; simp; omega) _).setCell (Nat.le_refl _) _

set_option maxHeartbeats 2000000 in
theorem build_any (a0 a1 : Option Addr) (l0 c0 l1 c1 : Nat) (e0 e1 : List Ent) (w : World) (h0 : IsEnts w a0 l0 e0) (h1 : IsEnts w a1 l1 e1) (hl0 : l0 ≤ 4294967296) (hl1 : l1 ≤ 4294967296) :
    Calls Try.prog 8 #[.slice a0 l0 c0, .slice a1 l1 c1] w fun e w' => ∃ sb, e = .returned (.agg #[.pointer (some ⟨sb, 0, none⟩)]) ∧ Built w' sb e0 e1 ∧ Below w.heap.size w w' := by
  have hmm := fun (n : Int) (w : World) => run_makeMap_hint Try.underlying38 .i64 n w
  have hmm2 := @run_makeMap Try.prog
  obtain ⟨i0, hi, hz0, hz1, hz2⟩ := info_parts info39
  go_enter Try.func8, Try.ntmps8
  go_wp2
  go_loopw [6] (fun i wr => ∃ (k : Nat) (F : Int → Value), k ≤ l0 ∧ i = .int .i64 k ∧ Inv1 wr (w.heap.size + 1) k e0 F ∧ wr.heap[w.heap.size]? = some (.cells #[.pointer none] 30 (0, 0)) ∧ Below w.heap.size w wr) (fun i _ => l0 - (intOf i).toNat)
  case atStart => exact ⟨0, _, Nat.zero_le _, rfl, ⟨by have := MapFn.made (w.alloc (.cells #[.pointer none] 30)) (.pointer none); simpa using this, fun x => .inl ⟨rfl, by simp [filed]⟩⟩, heap_alloc_obj (heap_alloc_top _ _), ((Below.refl _ _).alloc (Nat.le_refl _) _).alloc (by simp) _⟩
  case round =>
    obtain ⟨k, F, hk, rfl, hI, hB, hb⟩ := hrel
    by_cases hlt : k < l0
    · obtain ⟨b, off, x, s, rfl, hle, hes, hc0, hc1, hwf, hsz⟩ := h0.at hlt
      have q0 := (hb.cell (p := ⟨b, off + k * 2, none⟩) hle).trans hc0
      have q1 := (hb.cell (p := ⟨b, off + k * 2 + 1, none⟩) hle).trans hc1
      have r0 := cell_box (o := objB s) q0
      obtain ⟨w2, hrun, hm2, hg2⟩ := (hI.1.alloc (objB s)).drew.store Try.underlying38 (show k < maxLen by unfold maxLen; omega) hwf (.pointer (some ⟨wr.heap.size, 0, none⟩))
      have HI : Hid (Inv1 w2 (w.heap.size + 1) (k + 1) e0 (upd F x (.pointer (some ⟨wr.heap.size, 0, none⟩)))) := hI.step hes hm2 hg2
      have HB : Hid (w2.heap[w.heap.size]? = some (.cells #[.pointer none] 30 (0, 0))) := by
        unfold Hid
        have hlt' : w.heap.size < wr.heap.size := (Array.getElem?_eq_some_iff.1 hB).1
        rw [hg2.block w.heap.size (by simp; omega) (by simp)]
        exact heap_alloc_obj hB
      have hb2 : Below w.heap.size w w2 := ((hb.alloc hb.size (objB s)).drew).grown hg2 (by have := hb.size; simp; omega) (fun j hj => by cases hj; omega)
      have HB2 : Hid (Below w.heap.size w w2) := hb2
      clear hc0 hc1 hes hm2 hb2
      go_wp2
      go_region_with (first | (go_at_call 12; refine (new_any _ _).mono ?_; rintro e w' ⟨rfl, rfl⟩))
      all_goals
        go_wp2
        go_roundw
        case rel => exact ⟨k + 1, _, by omega, by go_num, HI.out, HB.out, HB2.out⟩
        case measure => simp [intOf]; omega
    · obtain ⟨wo, rfl⟩ : ∃ wo : World, wo = wr := ⟨_, rfl⟩
      go_wp2
      go_loopw [8] (fun i wr => ∃ (j : Nat) (G : Int → Value), j ≤ l1 ∧ i = .int .i64 j ∧ Inv2 wr (wo.heap.size + 1) wo.heap.size j e1 G ∧ Below wo.heap.size wo wr) (fun i _ => l1 - (intOf i).toNat)
      case atStart => exact ⟨0, _, Nat.zero_le _, rfl, Inv2.start wo e1, (Below.refl _ _).alloc (Nat.le_refl _) _⟩
      case round =>
        obtain ⟨j, G, hj, rfl, hJ, hb2⟩ := hrel
        by_cases hlt1 : j < l1
        · obtain ⟨b, off, x, s, rfl, hle, hes, hc0, hc1, hwf, hsz⟩ := h1.at hlt1
          have hbw : Below w.heap.size w wr := hb.trans (hb2.mono hb.size)
          have q0 := (hbw.cell (p := ⟨b, off + j * 2, none⟩) hle).trans hc0
          have q1 := (hbw.cell (p := ⟨b, off + j * 2 + 1, none⟩) hle).trans hc1
          obtain ⟨pbs, hpl, hrow, hobj⟩ := hJ.2.1 x
          have hfl : (filed (e1.take j) x).length ≤ j := Nat.le_trans (filed_le _ _) (by simp; omega)
          obtain ⟨n, HN⟩ : ∃ n, Hid ((filed (e1.take j) x).length = n) := ⟨_, rfl⟩
          rw [HN.out] at hpl hrow hfl
          have L0 := hJ.1.drew.look Try.underlying41 (zero42 _) hwf
          have L1 := (hJ.1.alloc (objB s)).drew.look Try.underlying41 (zero42 _) hwf
          have L2 := ((hJ.1.alloc (objB s)).alloc (.cells #[.pointer (some ⟨wr.heap.size, 0, none⟩)] 39)).drew.look Try.underlying41 (zero42 _) hwf
          have HROW : Hid (((wr.alloc (objB s)).alloc (.cells #[.pointer (some ⟨wr.heap.size, 0, none⟩)] 39)).drew.ownsRow (wo.heap.size + 1) 39 1 (G x) n (pbs.map fun b => Value.pointer (some ⟨b, 0, none⟩))) := (hrow.alloc _).alloc _
          have HNEW := new_cell (wr.alloc (objB s)) (.pointer (some ⟨wr.heap.size, 0, none⟩)) 39
          have hmw : MapFn ((wr.alloc (objB s)).alloc (.cells #[.pointer (some ⟨wr.heap.size, 0, none⟩)] 39)).drew wo.heap.size j (.slice none 0 0) G := ((hJ.1.alloc _).alloc _).drew
          have hbase : wo.heap.size + 1 ≤ wr.heap.size := hJ.2.2.2.1
          have HE : Hid (e1[j]? = some (x, s)) := hes
          have r1 := cell_box (o := objB s) q1
          clear hc0 hc1 hes
          go_wp2
          go_region_law (first
            | (refine step_new rfl (.tmp 52) 9 rfl s rfl ?_)
            | (refine step_append_at rfl (.tmp 47) (.tmp 54) 42 rfl (wo.heap.size + 1) 39 i0 (.pointer none) 1 8 Try.underlying42 hi hz0 hz1 hz2 rfl (by decide) (G x) n _ rfl HROW.out ⟨wr.heap.size + 1, 0, none⟩ 1 1 [.pointer (some ⟨wr.heap.size, 0, none⟩)] rfl rfl (by simpa using HNEW) (by simp [Value.oneCell']) (by unfold maxLen; omega) (by omega) (by simp; omega) ?_; intro v' w3 hr3 hg3 hat; obtain ⟨w4, hrun4, HI4⟩ := hJ.finish HE.out hwf (by unfold maxLen; omega) HN.out hpl hobj hrow hr3 hg3 hat; clear hr3 hg3 hat))
          all_goals
            go_wp2
            go_roundw
            case rel => exact ⟨j + 1, _, by omega, by go_num, HI4.out.1, hb2.trans HI4.out.2⟩
            case measure => simp [intOf]; omega
        · have hBr : wr.heap[w.heap.size]? = some (.cells #[.pointer none] 30 (0, 0)) := (hb2.block _ (Array.getElem?_eq_some_iff.1 hB).1).trans hB
          have hBr2 : ((wr.alloc (pointB (wr.heap.size + 1))).alloc (storeB (w.heap.size + 1) wo.heap.size)).heap[w.heap.size]? = some (.cells #[.pointer none] 30 (0, 0)) := heap_alloc_obj (heap_alloc_obj hBr)
          have hcr := cell_of_one hBr2
          have hfr := free_of_one hBr2
          have HBr : Hid (wr.heap[w.heap.size]? = some (.cells #[.pointer none] 30 (0, 0))) := hBr
          clear hBr hBr2
          go_wp2_with (first | (go_at_call 13; refine (point_any _ _ _).mono ?_; rintro e w' ⟨rfl, rfl⟩))
          have hend := build_end (.pointer (some ⟨wr.heap.size + 1, 0, none⟩)) hI hB hb hb2 hJ HBr.out (by have := h0.1; omega) (by have := h1.1; omega)
          exact bodyPost_ret (v := .agg #[.pointer (some ⟨wr.heap.size + 1, 0, none⟩)]) (by simp [results, Try.results8, go_sem, hcr]) rfl ⟨_, rfl, hend.1, hend.2⟩


end Go.Proofs.Qxb6628365a
