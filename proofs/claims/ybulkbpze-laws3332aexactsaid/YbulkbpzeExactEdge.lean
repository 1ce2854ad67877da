import Derived.Test.YbulkbpzeExactWalk
namespace Go.Proofs.Ybulkbpze
open Go.RowKit

set_option maxHeartbeats 400000 in
theorem refs_none (w : World) :
    Calls Yba.prog 5 #[.slice none 0 0] w fun e w' => e = .returned (.slice (some ⟨w.heap.size, 0, none⟩) 0 0) ∧ Below w.heap.size w w' := by
  have hmk := make52 0 (by omega)
  simp only [Int.ofNat_zero, Nat.zero_mul] at hmk
  go_enter Yba.func5, Yba.ntmps5
  go_wp2
  refine wp_loop_rounds 1 ?_
  rw [rounds_succ]
  go_wp2
  exact bodyPost_ret (v := .slice (some ⟨w.heap.size, 0, none⟩) 0 0) (by simp [results, Yba.results5, go_sem]) rfl ⟨rfl, (Below.refl _ _).alloc (Nat.le_refl _) _⟩

set_option maxHeartbeats 400000 in
theorem exact_big (a : Option Addr) (n cap : Nat) (hn : 1024 < n) (w : World) :
    Calls Yba.prog 3 #[.slice a n cap] w fun e w' => e = .returned (.bool true) ∧ Below w.heap.size w w' := by
  have hnd : (1024 : Int) < (n : Int) := by omega
  go_enter Yba.func3, Yba.ntmps3
  go_wp2
  go_ret
  exact ⟨rfl, Below.refl _ _⟩

set_option maxRecDepth 20000 in
set_option maxHeartbeats 400000 in
theorem exact_nil (w : World) :
    Calls Yba.prog 3 #[.slice none 0 0] w fun e w' => e = .returned (.bool true) ∧ Below w.heap.size w w' := by
  have hnn := fun (w : World) (a : Option Addr) (n c : Nat) => run_neq_slice_nil_any (P := Yba.prog) w 22 26 a n c 0 0 Yba.underlying22
  have hne := fun (w : World) (a : Option Addr) (n c : Nat) => Lib.run_eql_slice_nil (P := Yba.prog) w 49 52 a n c 0 0 Yba.underlying49
  go_enter Yba.func3, Yba.ntmps3
  go_wp2_with fail
  refine (refs_none w).mono ?_
  rintro e w1 ⟨rfl, hb1⟩
  go_wp2
  refine wp_loop_rounds 1 ?_
  rw [rounds_succ]
  go_wp2
  go_ret
  exact ⟨rfl, hb1⟩

set_option maxRecDepth 20000 in
set_option maxHeartbeats 400000 in
theorem exact_empty (a : Addr) (cap : Nat) (w : World) :
    Calls Yba.prog 3 #[.slice (some a) 0 cap] w fun e w' => e = .returned (.bool true) ∧ Below w.heap.size w w' := by
  have hmk := make24 0 (by omega)
  simp only [Int.ofNat_zero] at hmk
  have hnn := fun (w : World) (a : Option Addr) (n c : Nat) => run_neq_slice_nil_any (P := Yba.prog) w 22 26 a n c 0 0 Yba.underlying22
  have hne := fun (w : World) (a : Option Addr) (n c : Nat) => Lib.run_eql_slice_nil (P := Yba.prog) w 49 52 a n c 0 0 Yba.underlying49
  go_enter Yba.func3, Yba.ntmps3
  go_wp2_with fail
  refine wp_loop_rounds 1 ?_
  rw [rounds_succ]
  go_wp2_with fail
  refine (refs_any w.heap.size 0 0 (fun _ => 0) (fun _ => 0) (fun _ => 0) (fun _ => 0) _ (by omega) (fun j hj => by omega) (fun j hj => by omega) (fun j hj => by omega) (fun j hj => by omega)).mono ?_
  rintro e w1 ⟨rfl, hb1, _⟩
  go_wp2
  refine wp_loop_rounds 1 ?_
  rw [rounds_succ]
  go_wp2
  go_ret
  exact ⟨rfl, ((Below.refl _ _).alloc (Nat.le_refl _) _).trans (hb1.mono (by simp))⟩

end Go.Proofs.Ybulkbpze
