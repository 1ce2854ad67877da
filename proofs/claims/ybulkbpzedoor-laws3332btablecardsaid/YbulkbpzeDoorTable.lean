import Derived.Test.YbulkbpzeDoorWalk
import Derived.Deep.Cut
namespace Go.Proofs.YbulkbpzeDoor
open Go.RowKit

set_option maxRecDepth 20000 in
set_option maxHeartbeats 1000000 in
theorem table_walk (s : Int) (raw : ByteArray) (c f : Bool) (saga : ByteArray) (num : Int) (detail : ByteArray) (bm : Nat) (w : World) (hE : Ends w bm) (h0 : 0 ≤ s) (h1 : s ≤ 255) (hr : raw.size ≤ maxLen) :
    Calls Ybad.prog 3 #[.int .u8 s, .string raw, .bool c, .bool f, .string saga, .int .i64 num, .string detail] w fun e w' => e = .returned (.bool true) ∧ Below w.heap.size w w' := by
  go_enter Ybad.func3, Ybad.ntmps3
  go_wp2_with fail
  refine (event_any s raw w h0 h1 hr).mono ?_
  rintro e w1 ⟨ev, rfl, hev, rfl⟩
  go_upto_region 9 with fail
  go_wp2_with (refine wpList_load_row rfl 36 _ rfl w1.heap.size rfl 36 _ (0, 0) _ (heap_alloc_new _ _) Ybad.underlying36 rfl (by kernel_rfl) ?_)
  refine (after_any ev c bm _ (hE.later ((Below.refl _ _).alloc (Nat.le_refl _) _)) hev _ _ _ _ _ _ _ _ _ _ _ _ _ _ _ _ _ _ _ _).mono ?_
  rintro e w2 ⟨rfl, hb2⟩
  go_wp2_with fail
  refine (model_any ev c w2).mono ?_
  rintro e w3 ⟨rfl, rfl⟩
  go_wp2
  go_ret
  exact ⟨rfl, ((Below.refl _ _).alloc (Nat.le_refl _) _).trans (hb2.mono (by simp))⟩
end Go.Proofs.YbulkbpzeDoor
