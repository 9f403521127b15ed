/- A MAP KEYED BY uint64 THAT THE CALL ITSELF HAS MADE, SAID AS A FUNCTION: 'MapFn w b n z F': block b of w is a map of at most n entries; the look-up at x gives 'F x' (z: the element's zero value). Over the kit's 'World.ownsMap', the elements read as themselves ('.held v'). -/
import Derived.Test.Qxb6628365aView
import Derived.Maps.OwnSet
import Derived.Maps.Views
namespace Go.Proofs.Qxb6628365a
open Go.RowKit Go.Maps

/-- an element reads as itself -/
def selfElem (v : Value) : Option (DataW Value × List MemPlace) := some (.held v, [])

def MapFn (w : World) (b n : Nat) (z : Value) (F : Int → Value) : Prop :=
  ∃ D, w.ownsMap Try.prog 23 selfElem b n D ∧ ∀ x, (Lit.int .u64 x).wf = true → D.atKey (.int .u64 x) (.held z) = .held (F x)

theorem keyed : Keyed Try.prog 23 := int_keyed Try.underlying23

/-- F turned at one place -/
def upd (F : Int → Value) (x : Int) (v : Value) : Int → Value := fun y => if y = x then v else F y

theorem MapFn.made (w : World) (z : Value) : MapFn (w.alloc (.map #[] 0)) w.heap.size 0 z (fun _ => z) :=
  ⟨.map [], World.ownsMap_made w _ _ _, fun _ _ => rfl⟩

theorem MapFn.lt {w : World} {b n : Nat} {z : Value} {F : Int → Value} (h : MapFn w b n z F) : b < w.heap.size := by
  obtain ⟨D, h, _⟩ := h; exact h.lt

theorem MapFn.block {w : World} {b n : Nat} {z : Value} {F : Int → Value} (h : MapFn w b n z F) : ∃ es clock, w.heap[b]? = some (.map es clock) := by
  obtain ⟨D, ⟨es, clock, h, _⟩, _⟩ := h; exact ⟨es, clock, h⟩

theorem MapFn.kept {w w' : World} {b n : Nat} {z : Value} {F : Int → Value} {row : Option Nat} (h : MapFn w b n z F) (hg : w.grownBy w' row) (hne : some b ≠ row) : MapFn w' b n z F := by
  obtain ⟨D, h, hF⟩ := h; exact ⟨D, h.kept hg hne, hF⟩

theorem MapFn.alloc {w : World} {b n : Nat} {z : Value} {F : Int → Value} (h : MapFn w b n z F) (o : Obj) : MapFn (w.alloc o) b n z F := by
  obtain ⟨D, h, hF⟩ := h; exact ⟨D, h.alloc o, hF⟩

theorem MapFn.drew {w : World} {b n : Nat} {z : Value} {F : Int → Value} (h : MapFn w b n z F) : MapFn w.drew b n z F := by
  obtain ⟨D, h, hF⟩ := h; exact ⟨D, h.drew, hF⟩

theorem MapFn.same {w w' : World} {b n : Nat} {z : Value} {F : Int → Value} (h : MapFn w b n z F) (hb : w'.heap[b]? = w.heap[b]?) : MapFn w' b n z F := by
  obtain ⟨D, ⟨es, clock, h, r⟩, hF⟩ := h; exact ⟨D, ⟨es, clock, hb.trans h, r⟩, hF⟩

theorem MapFn.look {w : World} {b n : Nat} {z : Value} {F : Int → Value} (h : MapFn w b n z F) {t e : TypeId} (ht : Try.prog.underlying t = some (.map 23 e)) (hz : (zeroValue e).run Try.prog w = .ok z w) {x : Int} (hx : (Lit.int .u64 x).wf = true) :
    (Instr.lookup t (.map (some b)) (.int .u64 x) false).run Try.prog w = .ok (F x) w := by
  obtain ⟨D, h, hF⟩ := h
  obtain ⟨v, ps, hrun, hv⟩ := h.lookup keyed ht hz (zd := .held z) (zp := []) rfl (keyOf_int_mk Try.underlying23 hx)
  rw [hF x hx] at hv
  simp only [selfElem, Option.some.injEq, Prod.mk.injEq, DataW.held.injEq] at hv
  rw [hrun, hv.1]

theorem MapFn.store {w : World} {b n : Nat} {z : Value} {F : Int → Value} (h : MapFn w b n z F) {t e : TypeId} (ht : Try.prog.underlying t = some (.map 23 e)) (hn : n < maxLen) {x : Int} (hx : (Lit.int .u64 x).wf = true) (v : Value) :
    ∃ w', (Instr.mapUpdate t (.map (some b)) (.int .u64 x) v).run Try.prog w = .ok () w' ∧ MapFn w' b (n + 1) z (upd F x v) ∧ w.grownBy w' (some b) := by
  obtain ⟨D, h, hF⟩ := h
  have hD := h.isMap
  obtain ⟨w', hrun, hown, hg⟩ := h.update keyed ht hn (val := v) (d := .held v) (ps := []) (keyOf_int_mk Try.underlying23 hx) rfl
  refine ⟨w', hrun, ⟨_, hown, fun y hy => ?_⟩, hg⟩
  unfold upd
  by_cases e : y = x
  · subst e
    rw [if_pos rfl]
    exact atKey_put_same (k := .int .u64 y) hD (by simp [WideAt.IsKeyLit]) _ _
  · rw [if_neg e, atKey_put_other (by simpa using e)]
    exact hF y hy

theorem zero4 (w : World) : (zeroValue 4).run Try.prog w = .ok (.bool false) w := by kernel_rfl
theorem zero39 (w : World) : (zeroValue 39).run Try.prog w = .ok (.pointer none) w := by kernel_rfl
theorem zero42 (w : World) : (zeroValue 42).run Try.prog w = .ok (.slice none 0 0) w := by kernel_rfl

theorem run_makeMap_hint {t k e : TypeId} (ht : Try.prog.underlying t = some (.map k e)) (q : IntKind) (n : Int) (w : World) :
    (Instr.makeMap t (some (.int q n))).run Try.prog w = .ok (.map (some w.heap.size)) (w.alloc (.map #[] 0)) := by
  simp [Instr.makeMap, run_underlying ht, asInt]
  rfl

/-- AT THE OPERATION 'm[k]' -/
theorem wpList_look {ops : Array Oper} {rest : List Oper} {o : Oper} {a : Act} {Q : Exit → Act → World → Prop} (w : World)
    (hg : o.guard = none) (m x : Operand) (t : TypeId) (hop : o.op = Op.lookup t m x false) (e : TypeId) (ht : Try.prog.underlying t = some (.map 23 e)) (z : Value) (hz : (zeroValue e).run Try.prog w = .ok z w)
    (b n : Nat) (F : Int → Value) (hown : MapFn w b n z F) (hm : a.eval m = .map (some b)) (y : Int) (hx : a.eval x = .int .u64 y) (hw : (Lit.int .u64 y).wf = true)
    (hK : wpList Try.prog ops Q rest (a.put o.dst (F y)) w) : wpList Try.prog ops Q (o :: rest) a w := by
  refine wpList_plain hg fun K' hK' => ?_
  have hrun := hown.look ht hz hw
  unfold Oper.wp
  simp [execOp, hop, hm, hx, hrun, Result.andThen]
  exact hK' _ _ hK

/-- AT THE OPERATION 'm[k] = v' -/
theorem wpList_store {ops : Array Oper} {rest : List Oper} {o : Oper} {a : Act} {Q : Exit → Act → World → Prop} (w : World)
    (hg : o.guard = none) (m x v : Operand) (t : TypeId) (hop : o.op = Op.mapUpdate t m x v) (e : TypeId) (ht : Try.prog.underlying t = some (.map 23 e)) (z : Value)
    (b n : Nat) (F : Int → Value) (hown : MapFn w b n z F) (hn : n < maxLen) (hm : a.eval m = .map (some b)) (y : Int) (hx : a.eval x = .int .u64 y) (hw : (Lit.int .u64 y).wf = true) (u : Value) (hv : a.eval v = u)
    (hK : ∀ w', MapFn w' b (n + 1) z (upd F y u) → w.grownBy w' (some b) → wpList Try.prog ops Q rest (a.put o.dst undef) w') : wpList Try.prog ops Q (o :: rest) a w := by
  refine wpList_plain hg fun K' hK' => ?_
  obtain ⟨w', hrun, r1, r2⟩ := hown.store ht hn hw u
  unfold Oper.wp
  simp [execOp, hop, hm, hx, hv, hrun, Result.andThen]
  exact hK' _ _ (hK w' r1 r2)

end Go.Proofs.Qxb6628365a
