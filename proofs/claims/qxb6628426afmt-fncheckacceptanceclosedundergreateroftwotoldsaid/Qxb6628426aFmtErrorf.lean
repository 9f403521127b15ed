/- fmt.Errorf BY ITS CONTRACT, at the operands of this program: it hands back an error that is not nil. -/
import Derived.Test.Qxb6628426aFmtFormat
import Derived.Stop.CallBack
import Derived.Stop.IfaceNil
import GoSem.ClaimData
namespace Go.Proofs.Qxb6628426aFmt
open Go.RowKit Go.Extern.Stop Go.Stop Go.Extern

theorem call9 (args : Array Value) (w : World) : (callFunc 9 args).run Tryf.prog w = (FmtCalls.errorf #[9, 34] #[29] args).run Tryf.prog w :=
  run_callFunc_next Tryf.func9 (by kernel_rfl) (by kernel_rfl) (by kernel_rfl) args w
theorem guard (name : String) (w : World) : (FmtStop.guard name).run Tryf.prog w = .ok () w := by kernel_rfl
theorem nextTurns : Extern.next FmtCalls.turnsRow = some (FmtCalls.begun #[] #[]) := by kernel_rfl
theorem nextReturned : Extern.next FmtCalls.returnedRow = some (FmtCalls.returned #[] #[]) := by kernel_rfl
theorem act3 (name : String) (x : Value) (w : World) : (FmtCalls.act name true 100 false (.iface 3 x)).run Tryf.prog w = .ok (.closed true) w := by kernel_rfl
def shape3 : List UInt8 := [5, 3, 0, 0, 0, 0, 0, 0, 0, 105, 110, 116]
theorem op3 (name : String) (x : Int) (w : World) : (FmtStop.operand name true 100 false (.iface 3 (.int .i64 x))).run Tryf.prog w = .ok (shape3, Go.Extern.Stop.digits 8 (x % 2 ^ 64).toNat) w := by kernel_rfl
theorem act22 (name : String) (x : Value) (w : World) : (FmtCalls.act name true 118 false (.iface 22 x)).run Tryf.prog w = .ok (.call false) w := by kernel_rfl
theorem isString22 (w : World) : (FmtDoors.textMethod 22 "String").run Tryf.prog w = .ok true w := by kernel_rfl
theorem invokeString22 (x : Value) (w : World) : (invoke (.fn (.method "String") #[]) #[.iface 22 x]).run Tryf.prog w = .ok (.enter 11 #[x]) w := by kernel_rfl
theorem str22 (w : World) : (typeStr 22).run Tryf.prog w = .ok "time.Duration" w := by kernel_rfl
theorem ptr37 (w : World) : (FmtStop.ptrTo "errors.errorString").run Tryf.prog w = .ok 37 w := by kernel_rfl
theorem elem37 (w : World) : (elemOf 37).run Tryf.prog w = .ok 39 w := by kernel_rfl

attribute [local go_sem] call9 guard act3 op3 act22 isString22 str22 ptr37 elem37

/-- the call ended with an error that is not nil -/
def NonNil (e : Ending) : Prop := ∃ t v, e = .returned (.iface t v)

set_option maxHeartbeats 400000 in
theorem errorf_int (f : ByteArray) (hp : ∀ w, (FmtDoors.printed f 1).run Tryf.prog w = .ok [(0, 100, false)] w) (x : Int) (b : Nat) (w : World) (hc : w.cell? ⟨b, 0, none⟩ = some (.iface 3 (.int .i64 x))) :
    Calls Tryf.prog 7 #[.string f, .slice (some ⟨b, 0, none⟩) 1 1] w fun e w' => NonNil e ∧ Below w.heap.size w w' := by
  go_enter Tryf.func7, Tryf.ntmps7
  go_wp2
  apply rows_value nextTurns
  case hr =>
    go_simp
    exact ⟨rfl, rfl⟩
  case h =>
    go_wp2
    go_ret
    exact ⟨⟨_, _, rfl⟩, ((Below.refl _ _).alloc (Nat.le_refl _) _).drew⟩

set_option maxHeartbeats 400000 in
theorem errorf_ints (f : ByteArray) (hp : ∀ w, (FmtDoors.printed f 2).run Tryf.prog w = .ok [(0, 100, false), (1, 100, false)] w) (x y : Int) (b : Nat) (w : World) (hc : w.cell? ⟨b, 0, none⟩ = some (.iface 3 (.int .i64 x))) (hc1 : w.cell? ⟨b, 1, none⟩ = some (.iface 3 (.int .i64 y))) :
    Calls Tryf.prog 7 #[.string f, .slice (some ⟨b, 0, none⟩) 2 2] w fun e w' => NonNil e ∧ Below w.heap.size w w' := by
  go_enter Tryf.func7, Tryf.ntmps7
  go_wp2
  apply rows_value nextTurns
  case hr =>
    go_simp
    exact ⟨rfl, rfl⟩
  case h =>
    go_wp2
    go_ret
    exact ⟨⟨_, _, rfl⟩, ((Below.refl _ _).alloc (Nat.le_refl _) _).drew⟩

set_option maxHeartbeats 400000 in
theorem errorf_dur (f : ByteArray) (hp : ∀ w, (FmtDoors.printed f 1).run Tryf.prog w = .ok [(0, 118, false)] w) (x : Int) (b : Nat) (w : World) (hc : w.cell? ⟨b, 0, none⟩ = some (.iface 22 (.int .i64 x))) (h0 : -9223372036854775808 ≤ x) (h1 : x ≤ 9223372036854775807) :
    Calls Tryf.prog 7 #[.string f, .slice (some ⟨b, 0, none⟩) 1 1] w fun e w' => NonNil e ∧ Below w.heap.size w w' := by
  have hbl := World.block_lt_of_cell? w _ hc
  go_enter Tryf.func7, Tryf.ntmps7
  go_wp2
  apply rows_call nextTurns
  case hr =>
    go_simp
    exact ⟨⟨rfl, rfl, rfl⟩, rfl⟩
  case hi => exact invokeString22 _ _
  case hc =>
    refine (string_any x _ h0 h1).mono fun e w3 ⟨he, hx⟩ => ?_
    obtain ⟨s, rfl, hs⟩ := he
    apply rows_value nextReturned
    case hr =>
      go_simp
      exact ⟨rfl, rfl⟩
    case h =>
      go_wp2
      go_ret
      exact ⟨⟨_, _, rfl⟩, (hx.alloc hx.size _).drew⟩

set_option maxHeartbeats 400000 in
theorem errorf_durs (f : ByteArray) (hp : ∀ w, (FmtDoors.printed f 2).run Tryf.prog w = .ok [(0, 118, false), (1, 118, false)] w) (x y : Int) (b : Nat) (w : World) (hc : w.cell? ⟨b, 0, none⟩ = some (.iface 22 (.int .i64 x))) (hc1 : w.cell? ⟨b, 1, none⟩ = some (.iface 22 (.int .i64 y)))
    (h0 : -9223372036854775808 ≤ x) (h1 : x ≤ 9223372036854775807) (h2 : -9223372036854775808 ≤ y) (h3 : y ≤ 9223372036854775807) :
    Calls Tryf.prog 7 #[.string f, .slice (some ⟨b, 0, none⟩) 2 2] w fun e w' => NonNil e ∧ Below w.heap.size w w' := by
  have hbl := World.block_lt_of_cell? w _ hc
  go_enter Tryf.func7, Tryf.ntmps7
  go_wp2
  apply rows_call nextTurns
  case hr =>
    go_simp
    exact ⟨⟨rfl, rfl, rfl⟩, rfl⟩
  case hi => exact invokeString22 _ _
  case hc =>
    refine (string_any x _ h0 h1).mono fun e w3 ⟨he, hx⟩ => ?_
    obtain ⟨s, rfl, hs⟩ := he
    have hd := (hx.cell (p := ⟨b, 0, none⟩) hbl).trans hc
    have hd1 := (hx.cell (p := ⟨b, 1, none⟩) hbl).trans hc1
    apply rows_call nextReturned
    case hr =>
      go_simp
      exact ⟨⟨rfl, rfl, rfl⟩, rfl⟩
    case hi => exact invokeString22 _ _
    case hc =>
      refine (string_any y _ h2 h3).mono fun e w4 ⟨he, hy⟩ => ?_
      obtain ⟨t, rfl, ht⟩ := he
      have hxy : Below w.heap.size w w4 := hx.trans (hy.mono hx.size)
      apply rows_value nextReturned
      case hr =>
        go_simp
        exact ⟨rfl, rfl⟩
      case h =>
        go_wp2
        go_ret
        exact ⟨⟨_, _, rfl⟩, (hxy.alloc hxy.size _).drew⟩

end Go.Proofs.Qxb6628426aFmt
