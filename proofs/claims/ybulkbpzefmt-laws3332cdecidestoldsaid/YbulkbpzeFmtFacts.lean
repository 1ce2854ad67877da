import Derived.Test.YbulkbpzeFmtRows
import Derived.WalkKit
import Derived.WalkSpells
import Derived.WalkLawsBesides
import Derived.Stop.CallBack
import Derived.Stop.IfaceNil
namespace Go.Proofs.YbulkbpzeFmt
open Go.RowKit Go.Extern.Stop Go.Stop Go.Extern

theorem call8 (args : Array Value) (w : World) : (callFunc 8 args).run Ybaf.prog w = ((FmtStop.errorf #[9, 95] #[59] args).run Ybaf.prog w).andThen fun v w' => .ok (.value v) w' :=
  run_callFunc_extern Ybaf.func8 (by kernel_rfl) (by kernel_rfl) (by kernel_rfl) (by kernel_rfl) args w
theorem guardf (name : String) (w : World) : (FmtStop.guard name).run Ybaf.prog w = .ok () w := by kernel_rfl
def shape9 : List UInt8 := [12, 6, 0, 0, 0, 0, 0, 0, 0, 115, 116, 114, 105, 110, 103]
theorem op9w (name : String) (x : ByteArray) (w : World) : (FmtStop.operand name true 115 false (.iface 9 (.string x))).run Ybaf.prog w = .ok (shape9, FmtStop.pack x.data.toList) w := by kernel_rfl
theorem strict9 (name : String) (x : ByteArray) (w : World) : (FmtStop.strict name (.iface 9 (.string x))).run Ybaf.prog w = .ok (shape9, FmtStop.pack x.data.toList) w := by kernel_rfl
theorem ptrErr (w : World) : (FmtStop.ptrTo "errors.errorString").run Ybaf.prog w = .ok 98 w := by kernel_rfl
theorem elemErr (w : World) : (elemOf 98).run Ybaf.prog w = .ok 100 w := by kernel_rfl

def SomeBool (e : Ending) : Prop := ∃ b : Bool, e = .returned (.bool b)

/-- Terminal: whatever it answers; it writes nothing -/
theorem terminal_any (s : Int) (w : World) : Calls Ybaf.prog 7 #[.int .u8 s] w fun e w' => SomeBool e ∧ w' = w := by
  go_enter Ybaf.func7, Ybaf.ntmps7
  go_wp2
  all_goals
    go_ret
    exact ⟨⟨_, rfl⟩, rfl⟩

/-- a name: some text of at most one byte; nothing is written -/
theorem name_any (s : Int) (w : World) (h0 : 0 ≤ s) (h1 : s ≤ 255) : Calls Ybaf.prog 4 #[.int .u8 s] w fun e w' => ∃ nm : ByteArray, e = .returned (.string nm) ∧ nm.size ≤ maxLen ∧ w' = w := by
  go_enter Ybaf.func4, Ybaf.ntmps4
  go_wp2
  all_goals
    go_ret
    exact ⟨_, rfl, by decide, rfl⟩

set_option maxRecDepth 20000 in
set_option maxHeartbeats 400000 in
theorem errorf2 (F : Interp) (f x0 x1 : ByteArray) (b : Nat) (w : World) (hF : F.answers w.tape)
    (hpr : ∀ w : World, (FmtDoors.printed f 2).run Ybaf.prog w = .ok [(0, 115, false), (1, 115, false)] w)
    (h0 : w.cell? ⟨b, 0, none⟩ = some (.iface 9 (.string x0))) (h1 : w.cell? ⟨b, 1, none⟩ = some (.iface 9 (.string x1))) :
    Calls Ybaf.prog 6 #[.string f, .slice (some ⟨b, 0, none⟩) 2 2] w fun e w' => e = .returned (.iface 98 (.pointer (some ⟨w.heap.size, 0, none⟩))) ∧ Below w.heap.size w w' := by
  have hF' : ∀ i name reading k range, w.tape i (.extern (word name reading k) range) = F name reading k := hF
  have hc8 := call8
  have hg := guardf
  have ho := op9w
  have hs := strict9
  have hpe := ptrErr
  have hee := elemErr
  go_enter Ybaf.func6, Ybaf.ntmps6
  go_wp2
  go_ret
  exact ⟨rfl, ((Below.refl _ _).alloc (Nat.le_refl _) _).drew⟩

set_option maxRecDepth 20000 in
set_option maxHeartbeats 400000 in
theorem errorf3 (F : Interp) (f x0 x1 : ByteArray) (b : Nat) (w : World) (hF : F.answers w.tape)
    (hpr : ∀ w : World, (FmtDoors.printed f 3).run Ybaf.prog w = .ok [(0, 115, false), (1, 115, false), (2, 115, false)] w)
    (h0 : w.cell? ⟨b, 0, none⟩ = some (.iface 9 (.string x0))) (h1 : w.cell? ⟨b, 1, none⟩ = some (.iface 9 (.string x1))) (hx : ∃ x2 : ByteArray, w.cell? ⟨b, 2, none⟩ = some (.iface 9 (.string x2))) :
    Calls Ybaf.prog 6 #[.string f, .slice (some ⟨b, 0, none⟩) 3 3] w fun e w' => e = .returned (.iface 98 (.pointer (some ⟨w.heap.size, 0, none⟩))) ∧ Below w.heap.size w w' := by
  obtain ⟨x2, h2⟩ := hx
  have hF' : ∀ i name reading k range, w.tape i (.extern (word name reading k) range) = F name reading k := hF
  have hc8 := call8
  have hg := guardf
  have ho := op9w
  have hs := strict9
  have hpe := ptrErr
  have hee := elemErr
  go_enter Ybaf.func6, Ybaf.ntmps6
  go_wp2
  go_ret
  exact ⟨rfl, ((Below.refl _ _).alloc (Nat.le_refl _) _).drew⟩
end Go.Proofs.YbulkbpzeFmt
