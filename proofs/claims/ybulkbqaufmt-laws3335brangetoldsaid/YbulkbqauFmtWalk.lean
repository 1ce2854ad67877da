import Derived.Test.YbulkbqauFmtRows
import Derived.WalkKit
import Derived.WalkSpells
import Derived.WalkLawsBesides
import Derived.Stop.CallBack
import Derived.Stop.IfaceNil
namespace Go.Proofs.YbulkbqauFmt
open Go.RowKit Go.Extern.Stop Go.Stop Go.Extern

theorem call14 (args : Array Value) (w : World) : (callFunc 14 args).run Ybaf.prog w = (FmtCalls.errorf #[9, 42] #[23] args).run Ybaf.prog w :=
  run_callFunc_next Ybaf.func14 (by kernel_rfl) (by kernel_rfl) (by kernel_rfl) args w
theorem call11 (args : Array Value) (w : World) : (callFunc 11 args).run Ybaf.prog w = (FmtCalls.sprintf #[9, 42] #[9] args).run Ybaf.prog w :=
  run_callFunc_next Ybaf.func11 (by kernel_rfl) (by kernel_rfl) (by kernel_rfl) args w
theorem guardf (name : String) (w : World) : (FmtStop.guard name).run Ybaf.prog w = .ok () w := by kernel_rfl
theorem nextTurns : Extern.next FmtCalls.turnsRow = some (FmtCalls.begun #[] #[]) := by kernel_rfl
theorem nextReturned : Extern.next FmtCalls.returnedRow = some (FmtCalls.returned #[] #[]) := by kernel_rfl
-- "Agent(%d)", 1 operand
theorem fmtA (w : World) : (FmtDoors.printed ⟨#[65, 103, 101, 110, 116, 40, 37, 100, 41]⟩ 1).run Ybaf.prog w = .ok [(0, 100, false)] w := by kernel_rfl
theorem fmtA0 : FmtStop.printed? ⟨#[65, 103, 101, 110, 116, 40, 37, 100, 41]⟩ 1 = some [(0, 100, false)] := by kernel_rfl
-- "no agent %s among the %d agents a to %s", 3 operands
theorem fmtN (w : World) : (FmtDoors.printed ⟨#[110, 111, 32, 97, 103, 101, 110, 116, 32, 37, 115, 32, 97, 109, 111, 110, 103, 32, 116, 104, 101, 32, 37, 100, 32, 97, 103, 101, 110, 116, 115, 32, 97, 32, 116, 111, 32, 37, 115]⟩ 3).run Ybaf.prog w = .ok [(0, 115, false), (1, 100, false), (2, 115, false)] w := by kernel_rfl
theorem fmtN0 : FmtStop.printed? ⟨#[110, 111, 32, 97, 103, 101, 110, 116, 32, 37, 115, 32, 97, 109, 111, 110, 103, 32, 116, 104, 101, 32, 37, 100, 32, 97, 103, 101, 110, 116, 115, 32, 97, 32, 116, 111, 32, 37, 115]⟩ 3 = some [(0, 115, false), (1, 100, false), (2, 115, false)] := by kernel_rfl
def shape3 : List UInt8 := [5, 3, 0, 0, 0, 0, 0, 0, 0, 105, 110, 116]
theorem act25 (name : String) (x : Value) (w : World) : (FmtCalls.act name true 115 false (.iface 25 x)).run Ybaf.prog w = .ok (.call false) w := by kernel_rfl
theorem act3w (name : String) (x : Value) (w : World) : (FmtCalls.act name true 100 false (.iface 3 x)).run Ybaf.prog w = .ok (.closed true) w := by kernel_rfl
theorem act3 (name : String) (x : Value) (w : World) : (FmtCalls.act name false 100 false (.iface 3 x)).run Ybaf.prog w = .ok (.closed false) w := by kernel_rfl
theorem op3w (name : String) (x : Int) (w : World) : (FmtStop.operand name true 100 false (.iface 3 (.int .i64 x))).run Ybaf.prog w = .ok (shape3, Go.Extern.Stop.digits 8 (x % 2 ^ 64).toNat) w := by kernel_rfl
theorem op3 (name : String) (x : Int) (w : World) : (FmtStop.operand name false 100 false (.iface 3 (.int .i64 x))).run Ybaf.prog w = .ok (shape3, Go.Extern.Stop.digits 8 (x % 2 ^ 64).toNat) w := by kernel_rfl
theorem invokeString25 (x : Value) (w : World) : (invoke (.fn (.method "String") #[]) #[.iface 25 x]).run Ybaf.prog w = .ok (.enter 16 #[x]) w := by kernel_rfl
theorem str25 (w : World) : (typeStr 25).run Ybaf.prog w = .ok "gossip.Agent" w := by kernel_rfl
theorem ptrErr (w : World) : (FmtStop.ptrTo "errors.errorString").run Ybaf.prog w = .ok 50 w := by kernel_rfl
theorem elemErr (w : World) : (elemOf 50).run Ybaf.prog w = .ok 52 w := by kernel_rfl

-- (Agent).String: some text; nothing that was there is written
def SomeText (e : Ending) : Prop := ∃ s : ByteArray, e = .returned (.string s)

set_option maxHeartbeats 800000 in
theorem string_in (x : Int) (w : World) (h0 : 0 ≤ x) (h1 : x < 26) :
    Calls Ybaf.prog 16 #[.int .i64 x] w fun e w' => SomeText e ∧ Below w.heap.size w w' := by
  go_enter Ybaf.func16, Ybaf.ntmps16
  go_wp2
  go_ret
  exact ⟨⟨_, rfl⟩, Below.refl _ _⟩

set_option maxHeartbeats 800000 in
theorem string_out (F : Interp) (x : Int) (w : World) (hF : F.answers w.tape) (h : x < 0 ∨ 26 ≤ x) :
    Calls Ybaf.prog 16 #[.int .i64 x] w fun e w' => SomeText e ∧ Below w.heap.size w w' := by
  have hF' := answers_open hF
  have hc := call11
  have hg := guardf
  have hf := fmtA
  have hf0 := fmtA0
  have ha := act3
  have ho := op3
  rcases h with h | h
  all_goals
    go_enter Ybaf.func16, Ybaf.ntmps16
    go_wp2
    apply rows_value nextTurns
    case hr =>
      go_simp
      exact ⟨rfl, rfl⟩
    case h =>
      go_wp2
      go_ret
      exact ⟨⟨_, rfl⟩, ((Below.refl _ _).alloc (Nat.le_refl _) _).drew⟩

theorem string_any (F : Interp) (x : Int) (w : World) (hF : F.answers w.tape) :
    Calls Ybaf.prog 16 #[.int .i64 x] w fun e w' => SomeText e ∧ Below w.heap.size w w' := by
  by_cases h : 0 ≤ x ∧ x < 26
  · exact string_in x w h.1 h.2
  · exact string_out F x w hF (by omega)

set_option maxHeartbeats 800000 in
theorem errorf_any (F : Interp) (x n : Int) (b : Nat) (w : World) (hF : F.answers w.tape)
    (h0 : w.cell? ⟨b, 0, none⟩ = some (.iface 25 (.int .i64 x))) (h1 : w.cell? ⟨b, 1, none⟩ = some (.iface 3 (.int .i64 n))) (hex : ∃ y : Int, w.cell? ⟨b, 2, none⟩ = some (.iface 25 (.int .i64 y))) :
    Calls Ybaf.prog 9 #[.string ⟨#[110, 111, 32, 97, 103, 101, 110, 116, 32, 37, 115, 32, 97, 109, 111, 110, 103, 32, 116, 104, 101, 32, 37, 100, 32, 97, 103, 101, 110, 116, 115, 32, 97, 32, 116, 111, 32, 37, 115]⟩, .slice (some ⟨b, 0, none⟩) 3 3] w
      fun e w' => (∃ a, e = .returned (.iface 50 (.pointer (some a)))) ∧ Below w.heap.size w w' := by
  have hF' := answers_open hF
  obtain ⟨y, h2⟩ := hex
  have hc := call14
  have hg := guardf
  have hf := fmtN
  have hf0 := fmtN0
  have ha := act3w
  have ha2 := act25
  have ho := op3w
  have hs := str25
  have hpe := ptrErr
  have hee := elemErr
  have hlt := World.block_lt_of_cell? _ _ h0
  go_enter Ybaf.func9, Ybaf.ntmps9
  go_wp2
  apply rows_call nextTurns
  case hr =>
    go_simp
    exact ⟨⟨rfl, rfl, rfl⟩, rfl⟩
  case hi => exact invokeString25 _ _
  case hc =>
    refine (string_any F x _ ?_).mono fun e w3 ⟨he, hx⟩ => ?_
    · exact hF
    obtain ⟨s1, rfl⟩ := he
    have hF3 := answers_open (show F.answers w3.tape by rw [hx.tape]; exact hF)
    have c0 := (hx.cell (p := ⟨b, 0, none⟩) hlt).trans h0
    have c1 := (hx.cell (p := ⟨b, 1, none⟩) hlt).trans h1
    have c2 := (hx.cell (p := ⟨b, 2, none⟩) hlt).trans h2
    apply rows_call nextReturned
    case hr =>
      go_simp
      exact ⟨⟨rfl, rfl, rfl⟩, rfl⟩
    case hi => exact invokeString25 _ _
    case hc =>
      refine (string_any F y _ ?_).mono fun e w4 ⟨he, hy⟩ => ?_
      · rw [hx.tape]; exact hF
      obtain ⟨s2, rfl⟩ := he
      have hlt3 : b < w3.heap.size := Nat.lt_of_lt_of_le hlt hx.size
      have hF4 := answers_open (show F.answers w4.tape by rw [hy.tape, hx.tape]; exact hF)
      have d0 := (hy.cell (p := ⟨b, 0, none⟩) hlt3).trans c0
      have d1 := (hy.cell (p := ⟨b, 1, none⟩) hlt3).trans c1
      have d2 := (hy.cell (p := ⟨b, 2, none⟩) hlt3).trans c2
      apply rows_value nextReturned
      case hr =>
        go_simp
        exact ⟨rfl, rfl⟩
      case h =>
        go_wp2
        go_ret
        exact ⟨⟨_, rfl⟩, (((hx.trans (hy.mono hx.size))).alloc (by have := hx.size; have := hy.size; omega) _).drew⟩
end Go.Proofs.YbulkbqauFmt
