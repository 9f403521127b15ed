/- THE PLAIN MATHEMATICS: the order of byte strings, the least of a list, what is filed under a cursor. No Go in sight but the model's own comparison of two strings. -/
import Derived.Test.Qxb6628365aView
namespace Go.Proofs.Qxb6628365a

theorem bl_irrefl : ∀ x : List UInt8, Op.bytesLess x x = false
  | [] => rfl
  | a :: x => by simp [Op.bytesLess, bl_irrefl x]

theorem bl_trans : ∀ x y z : List UInt8, Op.bytesLess x y = true → Op.bytesLess y z = true → Op.bytesLess x z = true
  | _, [], _, h, _ => by simp [Op.bytesLess] at h
  | _, _ :: _, [], _, h => by simp [Op.bytesLess] at h
  | [], _ :: _, _ :: _, _, _ => rfl
  | a :: x, b :: y, c :: z, h1, h2 => by
    simp only [Op.bytesLess, Bool.or_eq_true, decide_eq_true_eq, Bool.and_eq_true, beq_iff_eq] at h1 h2 ⊢
    rcases h1 with h1 | ⟨rfl, h1⟩
    · rcases h2 with h2 | ⟨rfl, _⟩
      · exact .inl (UInt8.lt_trans h1 h2)
      · exact .inl h1
    · rcases h2 with h2 | ⟨rfl, h2⟩
      · exact .inl h2
      · exact .inr ⟨rfl, bl_trans x y z h1 h2⟩

theorem bl_total : ∀ x y : List UInt8, Op.bytesLess x y = true ∨ x = y ∨ Op.bytesLess y x = true
  | [], [] => .inr (.inl rfl)
  | [], _ :: _ => .inl rfl
  | _ :: _, [] => .inr (.inr rfl)
  | a :: x, b :: y => by
    simp only [Op.bytesLess, Bool.or_eq_true, decide_eq_true_eq, Bool.and_eq_true, beq_iff_eq, List.cons.injEq]
    rcases Nat.lt_trichotomy a.toNat b.toNat with h | h | h
    · exact .inl (.inl (UInt8.lt_iff_toNat_lt.2 h))
    · have e : a = b := UInt8.toNat_inj.1 h
      subst e
      rcases bl_total x y with h | h | h
      · exact .inl (.inr ⟨rfl, h⟩)
      · exact .inr (.inl ⟨rfl, h⟩)
      · exact .inr (.inr (.inr ⟨rfl, h⟩))
    · exact .inr (.inr (.inl (UInt8.lt_iff_toNat_lt.2 h)))

theorem toList_inj {a b : ByteArray} (h : a.toList = b.toList) : a = b := by
  rw [ByteArray.toList_eq, ByteArray.toList_eq] at h
  exact ByteArray.ext (Array.toList_inj.1 h)

/-- a is no greater than b -/
def le (a b : ByteArray) : Prop := Op.bytesLess b.toList a.toList = false

theorem le_refl (a : ByteArray) : le a a := bl_irrefl _
theorem le_trans {a b c : ByteArray} (h1 : le a b) (h2 : le b c) : le a c := by
  unfold le at *
  cases h : Op.bytesLess c.toList a.toList
  · rfl
  · rcases bl_total b.toList c.toList with h3 | h3 | h3
    · rw [bl_trans _ _ _ h3 h] at h1; cases h1
    · rw [h3, h] at h1; cases h1
    · rw [h3] at h2; cases h2
theorem le_antisymm {a b : ByteArray} (h1 : le a b) (h2 : le b a) : a = b := by
  unfold le at *
  rcases bl_total a.toList b.toList with h | h | h
  · rw [h] at h2; cases h2
  · exact toList_inj h
  · rw [h] at h1; cases h1
theorem le_of_not {a b : ByteArray} (h : ¬ le a b) : le b a := by
  unfold le at *
  cases h3 : Op.bytesLess a.toList b.toList
  · rfl
  · have h4 : Op.bytesLess b.toList a.toList = true := by simpa using h
    have h5 := bl_trans _ _ _ h3 h4
    rw [bl_irrefl] at h5
    cases h5

/-- Go's min of two strings, as the model has it -/
def smin (a b : ByteArray) : ByteArray := if Op.bytesLess a.toList b.toList || a.toList == b.toList then a else b

theorem leq_iff {a b : ByteArray} : (Op.bytesLess a.toList b.toList || a.toList == b.toList) = true ↔ le a b := by
  unfold le
  rw [Bool.or_eq_true, beq_iff_eq]
  constructor
  · rintro (h | h)
    · cases h3 : Op.bytesLess b.toList a.toList
      · rfl
      · have := bl_trans _ _ _ h h3
        rw [bl_irrefl] at this
        cases this
    · rw [h]; exact bl_irrefl _
  · intro h
    rcases bl_total a.toList b.toList with h1 | h1 | h1
    · exact .inl h1
    · exact .inr h1
    · rw [h1] at h; cases h

theorem smin_le_left (a b : ByteArray) : le (smin a b) a := by
  unfold smin
  split
  · exact le_refl _
  · rename_i h; exact le_of_not (fun h' => h (leq_iff.2 h'))
theorem smin_le_right (a b : ByteArray) : le (smin a b) b := by
  unfold smin
  split
  · rename_i h; exact leq_iff.1 h
  · exact le_refl _
theorem smin_mem (a b : ByteArray) : smin a b = a ∨ smin a b = b := by
  unfold smin; split <;> simp

/-- the least of k and all of l, from the left -/
def mn (k : ByteArray) (l : List ByteArray) : ByteArray := l.foldl smin k

theorem mn_mem : ∀ (l : List ByteArray) (k : ByteArray), mn k l ∈ k :: l
  | [], k => by simp [mn]
  | a :: l, k => by
    have := mn_mem l (smin k a)
    show mn (smin k a) l ∈ _
    rcases List.mem_cons.1 this with h | h
    · rw [h]; rcases smin_mem k a with h | h <;> simp [h]
    · simp [h]
theorem mn_le : ∀ (l : List ByteArray) (k x : ByteArray), x ∈ k :: l → le (mn k l) x
  | [], k, x, h => by simp at h; subst h; exact le_refl _
  | a :: l, k, x, h => by
    show le (mn (smin k a) l) x
    rcases List.mem_cons.1 h with rfl | h
    · exact le_trans (mn_le l _ _ List.mem_cons_self) (smin_le_left _ _)
    · rcases List.mem_cons.1 h with rfl | h
      · exact le_trans (mn_le l _ _ List.mem_cons_self) (smin_le_right _ _)
      · exact mn_le l _ _ (List.mem_cons_of_mem _ h)
/-- WHAT IS LEAST IS ONE -/
theorem mn_unique {r k : ByteArray} {l : List ByteArray} (hm : r ∈ k :: l) (hl : ∀ x ∈ k :: l, le r x) : mn k l = r :=
  le_antisymm (mn_le l k r hm) (hl _ (mn_mem l k))
theorem mn_same {k k' : ByteArray} {l l' : List ByteArray} (h : ∀ x, x ∈ k :: l ↔ x ∈ k' :: l') : mn k l = mn k' l' :=
  mn_unique ((h _).2 (mn_mem l' k')) (fun x hx => mn_le l' k' x ((h x).1 hx))

/-- the keys filed under c, in order -/
def filed (es : List Ent) (c : Int) : List ByteArray := (es.filter fun e => e.1 == c).map (·.2)

theorem filed_append (a b : List Ent) (c : Int) : filed (a ++ b) c = filed a c ++ filed b c := by simp [filed]
theorem filed_hit (c : Int) (s : ByteArray) : filed [(c, s)] c = [s] := by simp [filed]
theorem filed_miss {x c : Int} (h : x ≠ c) (s : ByteArray) : filed [(x, s)] c = [] := by simp [filed, h]
theorem mem_filed {es : List Ent} {c : Int} {s : ByteArray} : s ∈ filed es c ↔ (c, s) ∈ es := by
  unfold filed
  rw [List.mem_map]
  constructor
  · rintro ⟨⟨x, y⟩, h, rfl⟩
    have h2 := List.mem_filter.1 h
    have h3 : x = c := by simpa using h2.2
    subst h3
    exact h2.1
  · intro h
    exact ⟨(c, s), List.mem_filter.2 ⟨h, by simp⟩, rfl⟩

/-- CursorKey's answer -/
def ansOk (p : List Ent) (c : Int) : Bool := (filed p c).getLast?.isSome
def ansR (p a : List Ent) (c : Int) : ByteArray := match (filed p c).getLast? with | none => ByteArray.empty | some k => mn k (filed a c)

theorem take_snoc {α : Type} {l : List α} {k : Nat} {x : α} (h : l[k]? = some x) : l.take (k + 1) = l.take k ++ [x] := by
  rw [List.take_add_one, h]; rfl

end Go.Proofs.Qxb6628365a
