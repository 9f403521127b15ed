/- ckBuild. -/
import Derived.Test.Qxb6628365aNew
import Derived.Deep.RegionWith
import Derived.Maps.AppendAt
namespace Go.Proofs.Qxb6628365a
open Go.RowKit

/-- the pointer v leads to an object of key o (none: it is nil): the whole block -/
def OA (w : World) (v : Value) (o : Option ByteArray) : Prop :=
  (v = .pointer none ∧ o = none) ∨ ∃ pb s, v = .pointer (some ⟨pb, 0, none⟩) ∧ w.heap[pb]? = some (objB s) ∧ o = some s

theorem obj_cell {w : World} {pb : Nat} {s : ByteArray} (h : w.heap[pb]? = some (objB s)) : w.cell? ⟨pb, 0, none⟩ = some (.string s) := by
  unfold World.cell?
  simp only
  rw [h]
  rfl

theorem OA.objAt {w : World} {v : Value} {o : Option ByteArray} (h : OA w v o) : ObjAt w v o := by
  rcases h with h | ⟨pb, s, h1, h2, h3⟩
  · exact .inl h
  · exact .inr ⟨pb, s, h1, obj_cell h2, h3⟩

theorem OA.kept {w w' : World} {v : Value} {o : Option ByteArray} (h : OA w v o) (hk : ∀ (b : Nat) (s : ByteArray), w.heap[b]? = some (objB s) → w'.heap[b]? = some (objB s)) : OA w' v o := by
  rcases h with h | ⟨pb, s, h1, h2, h3⟩
  · exact .inl h
  · exact .inr ⟨pb, s, h1, hk pb s h2, h3⟩

/-- what loop 1 keeps: the first k of e are filed in the map m -/
def Inv1 (wr : World) (m k : Nat) (e : List Ent) (F : Int → Value) : Prop :=
  MapFn wr m k (.pointer none) F ∧ ∀ x, OA wr (F x) (filed (e.take k) x).getLast?

theorem objs_kept {w w' : World} {m n : Nat} {z : Value} {F : Int → Value} (hm : MapFn w m n z F) (hg : w.grownBy w' (some m)) : ∀ (b : Nat) (s : ByteArray), w.heap[b]? = some (objB s) → w'.heap[b]? = some (objB s) := by
  intro b s hb
  obtain ⟨es, cl, hes⟩ := hm.block
  rw [hg.block b (Array.getElem?_eq_some_iff.1 hb).1 (fun e => ?_)]
  · exact hb
  · cases e
    rw [hb] at hes
    cases hes

theorem heap_alloc_obj {w : World} {o : Obj} {b : Nat} {o' : Obj} (h : w.heap[b]? = some o') : (w.alloc o).heap[b]? = some o' := by
  rw [Below.heap_alloc w o b (Array.getElem?_eq_some_iff.1 h).1]; exact h
theorem heap_alloc_top (w : World) (o : Obj) : (w.alloc o).heap[w.heap.size]? = some o := by
  show (w.heap.push o)[w.heap.size]? = _
  simp

/-- one round of loop 1 -/
theorem Inv1.step {wr w2 : World} {m k : Nat} {e : List Ent} {F : Int → Value} {x : Int} {s : ByteArray} (h : Inv1 wr m k e F) (he : e[k]? = some (x, s))
    (hm : MapFn w2 m (k + 1) (.pointer none) (upd F x (.pointer (some ⟨wr.heap.size, 0, none⟩)))) (hg : (wr.alloc (objB s)).drew.grownBy w2 (some m)) : Inv1 w2 m (k + 1) e (upd F x (.pointer (some ⟨wr.heap.size, 0, none⟩))) := by
  refine ⟨hm, fun y => ?_⟩
  have hk : ∀ (b : Nat) (s' : ByteArray), (wr.alloc (objB s)).drew.heap[b]? = some (objB s') → w2.heap[b]? = some (objB s') := objs_kept (h.1.alloc (objB s)).drew hg
  rw [take_snoc he, filed_append]
  unfold upd
  by_cases hy : y = x
  · subst hy
    rw [if_pos rfl, filed_hit]
    exact .inr ⟨wr.heap.size, s, rfl, hk _ _ (heap_alloc_top _ _), by simp⟩
  · rw [if_neg hy, filed_miss (fun e => hy e.symm), List.append_nil]
    exact (h.2 y).kept (fun b s' hb => hk b s' (heap_alloc_obj hb))

/-- the slice v owns a row of pointers to objects of the keys l -/
def Row (w : World) (base : Nat) (v : Value) (l : List ByteArray) : Prop :=
  ∃ pbs : List Nat, pbs.length = l.length ∧ w.ownsRow base 39 1 v l.length (pbs.map fun b => Value.pointer (some ⟨b, 0, none⟩)) ∧ ∀ (i : Nat) (s : ByteArray), l[i]? = some s → ∃ pb, pbs[i]? = some pb ∧ w.heap[pb]? = some (objB s)

theorem Row.objs {w : World} {base : Nat} {v : Value} {l : List ByteArray} (h : Row w base v l) : Objs w v l := by
  obtain ⟨pbs, hl, hrow, hobj⟩ := h
  rcases hrow.2 with ⟨rfl, h0⟩ | ⟨g, cap, cur, rfl, _⟩
  · exact .inl ⟨rfl, List.length_eq_zero_iff.1 h0⟩
  · refine .inr ⟨g, cap, rfl, fun i s hi => ?_⟩
    obtain ⟨pb, h1, h2⟩ := hobj i s hi
    refine ⟨pb, ?_, obj_cell h2⟩
    have := hrow.cells (g := g) rfl i (.pointer (some ⟨pb, 0, none⟩)) (by simp [h1])
    rwa [show (⟨g, 0, none⟩ : Addr).add i = ⟨g, i, none⟩ by unfold Addr.add; split <;> simp_all] at this

/-- what loop 2 keeps -/
def Inv2 (wr : World) (base m k : Nat) (e : List Ent) (F : Int → Value) : Prop :=
  MapFn wr m k (.slice none 0 0) F ∧ (∀ x, Row wr base (F x) (filed (e.take k) x)) ∧ (∀ x y, x ≠ y → (F x).ownBlock = none ∨ (F x).ownBlock ≠ (F y).ownBlock) ∧ base ≤ wr.heap.size ∧ m < base

/-- the one-cell block of an append -/
def oneB (b : Nat) : Obj := .cells #[.pointer (some ⟨b, 0, none⟩)] 39

theorem Row.kept {w w' : World} {base : Nat} {v : Value} {l : List ByteArray} {row : Option Nat} (h : Row w base v l) (hg : w.grownBy w' row) (hv : v.ownBlock = none ∨ v.ownBlock ≠ row) (ho : ∀ (b : Nat) (s : ByteArray), w.heap[b]? = some (objB s) → w'.heap[b]? = some (objB s)) : Row w' base v l := by
  obtain ⟨pbs, hl, hrow, hobj⟩ := h
  exact ⟨pbs, hl, hrow.kept hg hv, fun i s hi => by obtain ⟨pb, h1, h2⟩ := hobj i s hi; exact ⟨pb, h1, ho pb s h2⟩⟩

theorem objs_row {w w' : World} {base : Nat} {v : Value} {n : Nat} {xs : List Value} (hrow : w.ownsRow base 39 1 v n xs) (hg : w.grownBy w' v.ownBlock) : ∀ (b : Nat) (s : ByteArray), w.heap[b]? = some (objB s) → w'.heap[b]? = some (objB s) := by
  intro b s hb
  rw [hg.block b (Array.getElem?_eq_some_iff.1 hb).1 (fun e => ?_)]
  · exact hb
  · rcases hrow.2 with ⟨rfl, _⟩ | ⟨g, cap, cur, rfl, _, hh, _⟩
    · cases e
    · cases e
      rw [hb] at hh
      simp [objB] at hh

theorem grown_pre (wr : World) (s : ByteArray) (row : Option Nat) : wr.grownBy ((wr.alloc (objB s)).alloc (oneB wr.heap.size)).drew row :=
  ((World.grownBy_alloc wr (objB s) row).trans (World.grownBy_alloc _ (oneB wr.heap.size) row)).trans ⟨rfl, rfl, rfl, Nat.le_refl _, fun _ _ _ => rfl⟩

/-- one round of loop 2 -/
theorem Inv2.step {wr w3 w4 : World} {base m k : Nat} {e : List Ent} {F : Int → Value} {x : Int} {s : ByteArray} {v' : Value} {pbs : List Nat} (h : Inv2 wr base m k e F) (he : e[k]? = some (x, s))
    (hpl : pbs.length = (filed (e.take k) x).length) (hobj : ∀ (i : Nat) (t : ByteArray), (filed (e.take k) x)[i]? = some t → ∃ pb, pbs[i]? = some pb ∧ wr.heap[pb]? = some (objB t))
    (hrow : wr.ownsRow base 39 1 (F x) (filed (e.take k) x).length (pbs.map fun b => Value.pointer (some ⟨b, 0, none⟩)))
    (hrow3 : w3.ownsRow base 39 1 v' ((filed (e.take k) x).length + 1) ((pbs.map fun b => Value.pointer (some ⟨b, 0, none⟩)) ++ [.pointer (some ⟨wr.heap.size, 0, none⟩)]))
    (hg3 : ((wr.alloc (objB s)).alloc (oneB wr.heap.size)).drew.grownBy w3 (F x).ownBlock) (hat : v'.ownBlock = (F x).ownBlock ∨ v'.ownBlock = some (wr.heap.size + 2))
    (hm4 : MapFn w4 m (k + 1) (.slice none 0 0) (upd F x v')) (hg4 : w3.grownBy w4 (some m)) : Inv2 w4 base m (k + 1) e (upd F x v') := by
  obtain ⟨hm, hR, hap, hbs, hmb⟩ := h
  have hpre := grown_pre wr s none
  have hrowP := hrow.kept hpre (by cases hv : (F x).ownBlock <;> simp)
  have o2 : ∀ (b : Nat) (t : ByteArray), wr.heap[b]? = some (objB t) → ((wr.alloc (objB s)).alloc (oneB wr.heap.size)).drew.heap[b]? = some (objB t) := fun b t hb => heap_alloc_obj (heap_alloc_obj hb)
  have o3 := objs_row hrowP hg3
  have hmP : MapFn ((wr.alloc (objB s)).alloc (oneB wr.heap.size)).drew m k (.slice none 0 0) F := ((hm.alloc _).alloc _).drew
  have hm3 : MapFn w3 m k (.slice none 0 0) F := hmP.kept hg3 (fun e1 => by
    have := (hrow.lt m e1.symm).1
    omega)
  have o4 := objs_kept hm3 hg4
  have ho : ∀ (b : Nat) (t : ByteArray), wr.heap[b]? = some (objB t) → w4.heap[b]? = some (objB t) := fun b t hb => o4 b t (o3 b t (o2 b t hb))
  have hN : w4.heap[wr.heap.size]? = some (objB s) := o4 _ _ (o3 _ _ (heap_alloc_obj (heap_alloc_top wr (objB s))))
  have offm : ∀ {u : Value} {n : Nat} {xs : List Value} {W : World}, W.ownsRow base 39 1 u n xs → u.ownBlock = none ∨ u.ownBlock ≠ some m := fun {u n xs W} hu => by
    cases hb : u.ownBlock with
    | none => exact .inl rfl
    | some g =>
      refine .inr (fun e1 => ?_)
      have := (hu.lt g hb).1
      cases e1
      omega
  refine ⟨hm4, fun y => ?_, fun y z hyz => ?_, ?_, hmb⟩
  · rw [take_snoc he, filed_append]
    unfold upd
    by_cases hy : y = x
    · subst hy
      rw [if_pos rfl, filed_hit]
      refine ⟨pbs ++ [wr.heap.size], by simp [hpl], ?_, fun i t hi => ?_⟩
      · have := hrow3.kept hg4 (offm hrow3)
        simpa using this
      · rw [List.getElem?_append] at hi ⊢
        split at hi
        · rename_i hlt
          rw [if_pos (by omega)]
          obtain ⟨pb, q1, q2⟩ := hobj i t hi
          exact ⟨pb, q1, ho pb t q2⟩
        · rename_i hge
          rw [if_neg (by omega)]
          have e1 : i - (filed (e.take k) y).length = 0 := by
            rcases Nat.eq_zero_or_pos (i - (filed (e.take k) y).length) with h | h
            · exact h
            · rw [List.getElem?_eq_none (by simp; omega)] at hi; cases hi
          rw [e1] at hi
          rw [hpl, e1]
          simp at hi
          subst hi
          exact ⟨_, rfl, hN⟩
    · rw [if_neg hy, filed_miss (fun e => hy e.symm), List.append_nil]
      have r0 := hR y
      have r1 := r0.kept hpre (by cases hv : (F y).ownBlock <;> simp) o2
      have r2 := r1.kept hg3 (hap y x hy) o3
      obtain ⟨q, ql, qr, qo⟩ := r2
      exact Row.kept ⟨q, ql, qr, qo⟩ hg4 (offm qr) o4
  · unfold upd
    have old_new : ∀ y, y ≠ x → (F y).ownBlock = none ∨ (F y).ownBlock ≠ v'.ownBlock := fun y hy => by
      rcases hat with h | h
      · rw [h]; exact hap y x hy
      · cases hb : (F y).ownBlock with
        | none => exact .inl rfl
        | some g =>
          obtain ⟨q, ql, qr, qo⟩ := hR y
          have := (qr.lt g hb).2
          refine .inr (fun e1 => ?_)
          rw [h] at e1
          cases e1
          omega
    by_cases hy : y = x
    · have hz : z ≠ x := fun e1 => hyz (hy.trans e1.symm)
      rw [if_pos hy, if_neg hz]
      rcases old_new z hz with h | h
      · rw [h]
        cases v'.ownBlock with
        | none => exact .inl rfl
        | some g => exact .inr (by simp)
      · exact .inr (fun e1 => h e1.symm)
    · rw [if_neg hy]
      by_cases hz : z = x
      · rw [if_pos hz]; exact old_new y hy
      · rw [if_neg hz]; exact hap y z hyz
  · have := hg3.size
    have := hg4.size
    simp at *
    omega

end Go.Proofs.Qxb6628365a
