/- Plain: the bytes of a varint, of a record; the views of a row of bytes; the frame of an appender. -/
import Derived.Test.Qxb6628440aRows
import Derived.WalkKit
import Derived.WalkSpells
import Derived.WalkLawsBesides
import Derived.OwnWalk
import Derived.Below
import Derived.WideShapes
import Derived.Maps.AppendAt
import Derived.Laws.AppendOwnNone
import Derived.Laws.CopyOwn
import Derived.Lib.VarintMem
import Derived.Lib.Varint
import Derived.Lib.VarintBits
namespace Go.Proofs.Qxb6628440a
open Go.RowKit Go.WideShapes

def intOf : Value → Int | .int _ q => q | _ => 0

/-- a varint's bytes -/
def uv (x : Nat) : List Int := (Lib.uvarint x).map fun b => (b.toNat : Int)

theorem uv_small {x : Nat} (h : x < 128) : uv x = [(x : Int)] := by
  simp [uv, Lib.uvarint_small h]; omega
theorem uv_big {x : Nat} (h : 128 ≤ x) : uv x = ((x % 128 + 128 : Nat) : Int) :: uv (x / 128) := by
  have e : ((x % 128 + 128).toUInt8).toNat = x % 128 + 128 := Lib.toUInt8_toNat (by omega)
  rw [uv, Lib.uvarint_big h, List.map_cons, e]
  rfl
theorem uv_len {x : Nat} (h : x < 18446744073709551616) : (uv x).length ≤ 10 := by
  simpa [uv] using Lib.uvarint_length64 h
theorem uv_pos (x : Nat) : 1 ≤ (uv x).length := by
  simpa [uv] using Lib.uvarint_pos x

/-- the record's bytes -/
def recs (vals : List Nat) (K : List Int) (rw : Nat) : List Int := vals.flatMap uv ++ (uv K.length ++ K) ++ (if 0 < rw then uv rw else [])

/-- a row of bytes, to be read -/
def IsB (w : World) (v : Value) (L : List Int) : Prop :=
  (v = .slice none 0 0 ∧ L = []) ∨ ∃ (a : Addr) (cap : Nat), v = .slice (some a) L.length cap ∧ ∀ (i : Nat) (x : Int), L[i]? = some x → w.cell? (a.add i) = some (.int .u8 x)

theorem add_block (a : Addr) (i : Nat) : (a.add i).block = a.block := by
  unfold Addr.add
  split <;> rfl

/-- a row of bytes of the call's own -/
def Own (w : World) (v : Value) (L : List Int) : Prop := w.ownsRow 0 5 1 v L.length (L.map (Value.int .u8))

theorem Own.nil (w : World) : Own w (.slice none 0 0) [] := World.ownsRow_nil _ _ _ _

theorem Own.view {w : World} {v : Value} {L : List Int} (h : Own w v L) : IsB w v L := by
  obtain ⟨h1, h2⟩ := h
  rcases h2 with ⟨rfl, hn⟩ | ⟨g, cap, cur, rfl, _, hg, hc, hm, hs, ht⟩
  · exact .inl ⟨rfl, List.length_eq_zero_iff.1 hn⟩
  · refine .inr ⟨⟨g, 0, none⟩, cap, rfl, fun i x hx => ?_⟩
    rw [add_plain]
    have hi : i < L.length := (List.getElem?_eq_some_iff.1 hx).1
    have e : (cur.toList.take (L.length * 1))[i]? = some (.int .u8 x) := by rw [ht]; simp [hx]
    rw [List.getElem?_take, if_pos (by omega)] at e
    simp [World.cell?, hg]
    simpa using e

theorem IsB.len {w : World} {v : Value} {L : List Int} (h : IsB w v L) : ∃ a cap, v = .slice a L.length cap := by
  rcases h with ⟨rfl, rfl⟩ | ⟨a, cap, rfl, _⟩
  · exact ⟨none, 0, rfl⟩
  · exact ⟨_, cap, rfl⟩

/-- where an element is -/
theorem IsB.at {w : World} {v : Value} {L : List Int} (h : IsB w v L) (hne : L ≠ []) :
    ∃ b off cap, v = .slice (some ⟨b, off, none⟩) L.length cap ∧ b < w.heap.size ∧ ∀ (i : Nat) (x : Int), L[i]? = some x → w.cell? ⟨b, off + i, none⟩ = some (.int .u8 x) := by
  rcases h with ⟨rfl, rfl⟩ | ⟨⟨b, off, spot⟩, cap, rfl, hc⟩
  · exact absurd rfl hne
  · obtain ⟨x, xs, rfl⟩ := List.exists_cons_of_ne_nil hne
    have hspot : spot = none := by simpa [Addr.add] using World.cell?_spot (hc 0 x rfl)
    subst hspot
    refine ⟨b, off, cap, rfl, ?_, fun i y hy => by rw [← add_plain]; exact hc i y hy⟩
    have := World.block_lt_of_cell? w _ (hc 0 x rfl)
    rwa [add_block] at this

/-- the frame of an appender: of what was there only the row r may have turned; the new row is r, or new -/
def Grew (w w' : World) (r r' : Option Nat) : Prop := w.grownBy w' r ∧ (r' = r ∨ ∀ k, r' = some k → w.heap.size ≤ k)

theorem Grew.refl (w : World) (r : Option Nat) : Grew w w r r := ⟨World.grownBy.refl _ _, .inl rfl⟩

theorem Grew.alloc {w w' : World} {r r' : Option Nat} (h : Grew w w' r r') (o : Obj) : Grew w (w'.alloc o) r r' := by
  refine ⟨⟨h.1.os, h.1.tape, h.1.output, Nat.le_trans h.1.size (by simp), fun k hk hne => ?_⟩, h.2⟩
  exact (Below.heap_alloc _ _ _ (Nat.lt_of_lt_of_le hk h.1.size)).trans (h.1.block k hk hne)

theorem Grew.trans {a b c : World} {r s t : Option Nat} (h : Grew a b r s) (k : Grew b c s t) : Grew a c r t := by
  refine ⟨⟨k.1.os.trans h.1.os, k.1.tape.trans h.1.tape, k.1.output.trans h.1.output, Nat.le_trans h.1.size k.1.size, fun i hi hne => ?_⟩, ?_⟩
  · refine (k.1.block i (Nat.lt_of_lt_of_le hi h.1.size) ?_).trans (h.1.block i hi hne)
    rcases h.2 with rfl | hs
    · exact hne
    · intro e
      have := hs i e.symm
      omega
  · rcases k.2 with rfl | ht
    · exact h.2
    · exact .inr fun i hi => Nat.le_trans h.1.size (ht i hi)

/-- a step behind which the new row lies where the law says -/
theorem Grew.step {w w' : World} {v v' : Value} (hg : w.grownBy w' v.ownBlock) (h : v'.ownBlock = v.ownBlock ∨ v'.ownBlock = some w.heap.size) : Grew w w' v.ownBlock v'.ownBlock :=
  ⟨hg, h.imp id fun e k hk => by rw [e] at hk; cases hk; exact Nat.le_refl _⟩

theorem Grew.block {w w' : World} {r r' : Option Nat} (h : Grew w w' r r') {k : Nat} (hk : k < w.heap.size) (hne : r ≠ some k) : w'.heap[k]? = w.heap[k]? := h.1.block k hk fun e => hne e.symm

theorem Grew.cell {w w' : World} {r r' : Option Nat} (h : Grew w w' r r') {a : Addr} (hk : a.block < w.heap.size) (hne : r ≠ some a.block) : w'.cell? a = w.cell? a := World.cell?_of_block (h.block hk hne)

theorem Grew.below {w w' : World} {r r' : Option Nat} (h : Grew w w' r r') {B : Nat} (hB : B ≤ w.heap.size) (hr : ∀ k, r = some k → B ≤ k) : Below B w w' := (Below.refl B w).grown h.1 hB hr

/-- a row that is read stays, if it is another one -/
theorem IsB.keep {w w' : World} {v : Value} {L : List Int} {r r' : Option Nat} (h : IsB w v L) (hg : Grew w w' r r') (hne : ∀ k, r = some k → v.ownBlock = some k → L = []) : IsB w' v L := by
  rcases h with h | ⟨a, cap, rfl, hc⟩
  · exact .inl h
  · refine .inr ⟨a, cap, rfl, fun i x hx => ?_⟩
    have hlt := World.block_lt_of_cell? w _ (hc i x hx)
    refine (hg.cell hlt fun e => ?_).trans (hc i x hx)
    have := hne a.block (e.trans (by rw [add_block])) rfl
    simp [this] at hx

theorem IsB.below {w w' : World} {v : Value} {L : List Int} (h : IsB w v L) (hb : Below w.heap.size w w') : IsB w' v L := by
  rcases h with h | ⟨a, cap, rfl, hc⟩
  · exact .inl h
  · refine .inr ⟨a, cap, rfl, fun i x hx => ?_⟩
    exact (hb.cell (World.block_lt_of_cell? w _ (hc i x hx))).trans (hc i x hx)

theorem Own.alloc {w : World} {v : Value} {L : List Int} (h : Own w v L) (o : Obj) : Own (w.alloc o) v L := World.ownsRow.alloc h o
theorem Own.lt {w : World} {v : Value} {L : List Int} (h : Own w v L) : ∀ k, v.ownBlock = some k → k < w.heap.size := fun k hk => (World.ownsRow.lt h k hk).2

/-- an owned row stays, if another one turned -/
theorem Own.keep {w w' : World} {v : Value} {L : List Int} {r r' : Option Nat} (h : Own w v L) (hg : Grew w w' r r') (hne : ∀ k, r = some k → v.ownBlock ≠ some k) : Own w' v L := by
  refine ⟨h.1, ?_⟩
  rcases h.2 with h2 | ⟨g, cap, cur, rfl, hb, hh, hrest⟩
  · exact .inl h2
  · have hlt : g < w.heap.size := h.lt g rfl
    exact .inr ⟨g, cap, cur, rfl, hb, (hg.block hlt fun e => hne g e rfl).trans hh, hrest⟩

end Go.Proofs.Qxb6628440a
