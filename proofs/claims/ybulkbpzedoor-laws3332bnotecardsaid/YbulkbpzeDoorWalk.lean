import Derived.Test.YbulkbpzeDoorRows
import Derived.WalkKit
import Derived.WalkSpells
import Derived.WalkLawsBesides
namespace Go.Proofs.YbulkbpzeDoor
open Go.RowKit

abbrev sT : List UInt8 := [115, 97, 103, 97, 95, 116, 101, 114, 109, 105, 110, 97, 116, 101, 100]
abbrev sR : List UInt8 := [114, 101, 116, 114, 121, 95, 114, 101, 113, 117, 101, 115, 116, 101, 100]
abbrev sC : List UInt8 := [115, 97, 103, 97, 95, 99, 111, 109, 112, 108, 101, 116, 101, 100]
abbrev sK : List UInt8 := [115, 97, 103, 97, 95, 99, 111, 109, 112, 101, 110, 115, 97, 116, 101, 100]
abbrev sF : List UInt8 := [115, 97, 103, 97, 95, 102, 97, 105, 108, 101, 100]
abbrev sX : List UInt8 := [115, 97, 103, 97, 95, 99, 111, 109, 112, 101, 110, 115, 97, 116, 105, 111, 110, 95, 102, 97, 105, 108, 101, 100]

def endOf (l : List UInt8) : Int := if (l == sC) = true then 2 else if (l == sK) = true then 3 else if (l == sF) = true then 4 else if (l == sX) = true then 5 else 0
def mdl (l : List UInt8) (c : Bool) : Int := if (l == sT) = true then (if c = true then 5 else 4) else if (l == sR) = true then 1 else endOf l

theorem ret_int {k : IntKind} {a b : Int} (h : a = b) : Ending.returned (.int k a) = .returned (.int k b) := by rw [h]

-- the event, whichever it is: some string no longer than a string can be; nothing is written
set_option maxHeartbeats 400000 in
theorem event_any (s : Int) (raw : ByteArray) (w : World) (h0 : 0 ≤ s) (h1 : s ≤ 255) (hr : raw.size ≤ maxLen) :
    Calls Ybad.prog 5 #[.int .u8 s, .string raw] w fun e w' => ∃ ev : ByteArray, e = .returned (.string ev) ∧ ev.size ≤ maxLen ∧ w' = w := by
  go_enter Ybad.func5, Ybad.ntmps5
  go_wp2
  all_goals
    go_ret
    first | exact ⟨_, rfl, hr, rfl⟩ | exact ⟨_, rfl, by decide, rfl⟩

set_option maxHeartbeats 400000 in
theorem model_any (ev : ByteArray) (c : Bool) (w : World) :
    Calls Ybad.prog 7 #[.string ev, .bool c] w fun e w' => e = .returned (.int .u8 (mdl ev.toList c)) ∧ w' = w := by
  go_enter Ybad.func7, Ybad.ntmps7
  go_wp2
  all_goals
    go_ret
    exact ⟨ret_int (by simp_all [mdl, endOf]), rfl⟩

/-- what the walks ask of the map 'endings': its variable's cell, and every look-up in every later world -/
structure Ends (W : World) (bm : Nat) : Prop where
  cell : W.cell? ⟨0, 0, none⟩ = some (.map (some bm))
  look : ∀ wx, Below W.heap.size W wx → ∀ s : ByteArray, s.size ≤ maxLen → (Instr.lookup 49 (.map (some bm)) (.string s) false).run Ybad.prog wx = .ok (.int .u8 (endOf s.toList)) wx

theorem Ends.later {W wx : World} {bm : Nat} (h : Ends W bm) (hb : Below W.heap.size W wx) : Ends wx bm :=
  ⟨(hb.cell (p := ⟨0, 0, none⟩) (World.block_lt_of_cell? _ _ h.cell)).trans h.cell, fun wy hy => h.look wy (hb.trans (hy.mono hb.size))⟩

-- the state behind an entry, whatever its other fields
set_option maxRecDepth 20000 in
set_option maxHeartbeats 400000 in
theorem after_any (ev : ByteArray) (c : Bool) (bm : Nat) (w : World) (hE : Ends w bm) (hs : ev.size ≤ maxLen)
    (c0 c1 c2 c3 c4 c6 c7 c8 c9 c10 c11 c12 c13 c14 c15 c16 c17 c18 c20 c21 : Value) :
    Calls Ybad.prog 6 #[.agg #[c0, c1, c2, c3, c4, .string ev, c6, c7, c8, c9, c10, c11, c12, c13, c14, c15, c16, c17, c18, .bool c, c20, c21]] w
      fun e w' => e = .returned (.int .u8 (mdl ev.toList c)) ∧ Below w.heap.size w w' := by
  have hg := hE.cell
  have h0 : 0 < w.heap.size := World.block_lt_of_cell? _ _ hE.cell
  have hl := fun (o : Obj) => hE.look (w.alloc o) ((Below.refl _ _).alloc (Nat.le_refl _) o) ev hs
  go_enter Ybad.func6, Ybad.ntmps6
  go_wp2
  all_goals
    go_ret
    exact ⟨ret_int (by clear hl hE; simp_all [mdl]), (Below.refl _ _).alloc (Nat.le_refl _) _⟩

end Go.Proofs.YbulkbpzeDoor
