import Derived.Test.YbulkbpzeRows
import Derived.WalkKit
import Derived.WalkSpells
import Derived.WalkLawsBesides
import Derived.RegionTactic
import Derived.BigRegion
import Derived.Deep.LoopGhost
import Derived.Deep.OwnRows
namespace Go.Proofs.Ybulkbpze
open Go.RowKit

theorem info52 : (Yba.prog.info? 52).map (fun i => (i.zero, i.size, i.bytes)) = some (some (.agg #[.int .i64 0, .int .i64 0, .int .i64 0]), 3, 24) := by kernel_rfl

theorem make52 (n : Nat) (hn : n ≤ 1024) (w : World) :
    (Instr.makeSlice 49 (.int .i64 (n : Int)) (.int .i64 (n : Int))).run Yba.prog w = .ok (.slice (some ⟨w.heap.size, 0, none⟩) n n) (w.alloc (.cells (madeCells #[.int .i64 0, .int .i64 0, .int .i64 0] (n * 3)) 52)) := by
  obtain ⟨i0, hi, hz0, hz1, hz2⟩ := info_parts info52
  have := run_make (P := Yba.prog) w 49 52 i0 _ Yba.underlying49 hi hz0 .i64 .i64 (n : Int) (n : Int) (by omega) (by omega) (by rw [hz2]; omega) (by omega)
  rw [this, hz1]
  simp [Value.cells]


def RefRow (X Y Z : Nat → Int) (m : Nat) (f : Nat → Value) : Prop :=
  ∀ j, j < m → f (j * 3) = .int .i64 (X j) ∧ f (j * 3 + 1) = .int .i64 (Y j) ∧ f (j * 3 + 2) = .int .i64 (Z j)

theorem refRow_step {X Y Z : Nat → Int} {m : Nat} {f : Nat → Value} (hf : RefRow X Y Z m f) :
    RefRow X Y Z (m + 1) (fun j => if j = m * 3 + 2 then .int .i64 (Z m) else if j = m * 3 + 1 then .int .i64 (Y m) else if j = m * 3 then .int .i64 (X m) else f j) := by
  intro j hj
  by_cases e : j = m
  · subst e
    simp
  · obtain ⟨h1, h2, h3⟩ := hf j (by omega)
    refine ⟨?_, ?_, ?_⟩
    · dsimp only; rw [if_neg (by omega), if_neg (by omega), if_neg (by omega)]; exact h1
    · dsimp only; rw [if_neg (by omega), if_neg (by omega), if_neg (by omega)]; exact h2
    · dsimp only; rw [if_neg (by omega), if_neg (by omega), if_neg (by omega)]; exact h3

theorem lt_of_cell {w : World} {b o : Nat} {v : Value} (h : w.cell? ⟨b, o, none⟩ = some v) : b < w.heap.size := by
  by_cases hb : b < w.heap.size
  · exact hb
  · simp [World.cell?, Array.getElem?_eq_none (Nat.le_of_not_lt hb)] at h

set_option maxHeartbeats 400000 in
theorem refs_any (R n cap : Nat) (A : Nat → Nat) (X Y Z : Nat → Int) (w : World) (hn : n ≤ 1024)
    (hR : ∀ j, j < n → w.cell? ⟨R, j, none⟩ = some (.pointer (some ⟨A j, 0, none⟩)))
    (hX : ∀ j, j < n → w.cell? ⟨A j, 0, none⟩ = some (.int .i64 (X j)))
    (hY : ∀ j, j < n → w.cell? ⟨A j, 1, none⟩ = some (.int .i64 (Y j)))
    (hZ : ∀ j, j < n → w.cell? ⟨A j, 2, none⟩ = some (.int .i64 (Z j))) :
    Calls Yba.prog 5 #[.slice (some ⟨R, 0, none⟩) n cap] w fun e w' => e = .returned (.slice (some ⟨w.heap.size, 0, none⟩) n n) ∧ Below w.heap.size w w' ∧
      ∃ f, w'.rowIs w.heap.size 52 (n * 3) f ∧ RefRow X Y Z n f := by
  have hmk := make52 n hn
  go_enter Yba.func5, Yba.ntmps5
  go_wp2
  go_loopg [11] n (fun k i wr => ∃ m : Nat, m ≤ n ∧ k + m = n ∧ i = .int .i64 m ∧ Below w.heap.size w wr ∧ ∃ f, wr.rowIs w.heap.size 52 (n * 3) f ∧ RefRow X Y Z m f)
  case atStart =>
    refine ⟨0, by omega, rfl, rfl, (Below.refl _ _).alloc (Nat.le_refl _) _, fun i => (madeCells #[.int .i64 0, .int .i64 0, .int .i64 0] (n * 3))[i]!, ?_, fun j hj => by omega⟩
    refine ⟨_, Deep.blk_alloc_new _ _, size_madeCells _ _, fun i hi => ?_⟩
    simp [size_madeCells, hi]
  case round =>
    obtain ⟨m, hm, hkm, rfl, hb, f, hrow, hf⟩ := hrel
    by_cases hlt : m < n
    · have hc := (hb.cell (p := ⟨R, m, none⟩) (lt_of_cell (hR m hlt))).trans (hR m hlt)
      have hx := (hb.cell (p := ⟨A m, 0, none⟩) (lt_of_cell (hX m hlt))).trans (hX m hlt)
      have hy := (hb.cell (p := ⟨A m, 1, none⟩) (lt_of_cell (hY m hlt))).trans (hY m hlt)
      have hz := (hb.cell (p := ⟨A m, 2, none⟩) (lt_of_cell (hZ m hlt))).trans (hZ m hlt)
      have c0 := hrow.cell (i := m * 3) (by omega)
      have c1 := hrow.cell (i := m * 3 + 1) (by omega)
      have c2 := hrow.cell (i := m * 3 + 2) (by omega)
      have f0 := hrow.frozen (m * 3)
      have f1 := hrow.frozen (m * 3 + 1)
      have f2 := hrow.frozen (m * 3 + 2)
      go_wp2
      go_region
      go_wp2
      go_roundg (gk - 1)
      case measure => omega
      case rel =>
        exact ⟨m + 1, by omega, by omega, by go_num, (((hb.setCell (Nat.le_refl _) _).setCell (Nat.le_refl _) _).setCell (Nat.le_refl _) _).drew, _, (((hrow.set _ _).set _ _).set _ _).drew, refRow_step hf⟩
    · go_wp2
      exact bodyPost_ret (v := .slice (some ⟨w.heap.size, 0, none⟩) n n) (by simp [results, Yba.results5, go_sem]) rfl ⟨rfl, hb, f, hrow, by rw [show n = m by omega]; exact hf⟩

end Go.Proofs.Ybulkbpze
