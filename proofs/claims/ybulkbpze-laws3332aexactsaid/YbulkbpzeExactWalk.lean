import Derived.Test.YbulkbpzeRefs
import Derived.Deep.QuietTactic
import Derived.BigQuiet
namespace Go.Proofs.Ybulkbpze
open Go.RowKit

theorem info24 : (Yba.prog.info? 24).map (fun i => (i.zero, i.size, i.bytes)) = some (some (.pointer none), 1, 8) := by kernel_rfl

theorem make24 (n : Nat) (hn : n ≤ 1024) (w : World) :
    (Instr.makeSlice 23 (.int .i64 (n : Int)) (.int .i64 (n : Int))).run Yba.prog w = .ok (.slice (some ⟨w.heap.size, 0, none⟩) n n) (w.alloc (.cells (madeCells #[.pointer none] n) 24)) := by
  obtain ⟨i0, hi, hz0, hz1, hz2⟩ := info_parts info24
  have := run_make (P := Yba.prog) w 23 24 i0 _ Yba.underlying23 hi hz0 .i64 .i64 (n : Int) (n : Int) (by omega) (by omega) (by rw [hz2]; omega) (by omega)
  rw [this, hz1]
  simp [Value.cells]

/-- What the first loop has made behind m rounds: the row of pointers, and m runs, one block each. -/
structure Made (s : Value) (w wr : World) (n m : Nat) (X Y Z : Nat → Int) : Prop where
  below : Below w.heap.size w wr
  size : wr.heap.size = w.heap.size + 1 + m
  row : wr.rowIs w.heap.size 24 n (fun j => if j < m then .pointer (some ⟨w.heap.size + 1 + j, 0, none⟩) else .pointer none)
  runs : ∀ j, j < m → ∃ c : Array Value, wr.heap[w.heap.size + 1 + j]? = some (.cells c 48 (0, 0)) ∧ c[0]? = some (.int .i64 (X j)) ∧ c[1]? = some (.int .i64 (Y j)) ∧ c[2]? = some (.int .i64 (Z j)) ∧ c[3]? = some s

theorem made_start (s : Value) (w : World) (n : Nat) (X Y Z : Nat → Int) : Made s w (w.alloc (.cells (madeCells #[.pointer none] n) 24)) n 0 X Y Z where
  below := (Below.refl _ _).alloc (Nat.le_refl _) _
  size := by simp
  row := (World.rowIs_made w (.pointer none) n 24).congr fun i _ => by simp
  runs := fun j hj => by omega

theorem made_step {s : Value} {w wr : World} {n m : Nat} {X Y Z : Nat → Int} (h : Made s w wr n m X Y Z) (c : Array Value)
    (h0 : c[0]? = some (.int .i64 (X m))) (h1 : c[1]? = some (.int .i64 (Y m))) (h2 : c[2]? = some (.int .i64 (Z m))) (h3 : c[3]? = some s) :
    Made s w ((wr.alloc (.cells c 48)).setCell ⟨w.heap.size, m, none⟩ (.pointer (some ⟨wr.heap.size, 0, none⟩))).drew n (m + 1) X Y Z where
  below := ((h.below.alloc h.below.size _).setCell (Nat.le_refl _) _).drew
  size := by have := h.size; simp [World.drew, World.setCell]; omega
  row := by
    refine (((h.row.alloc _).set m _).drew).congr fun i _ => ?_
    by_cases e : i = m
    · subst e; simp [h.size]
    · by_cases e2 : i < m
      · simp [e, e2, Nat.lt_succ_of_lt e2]
      · simp [e, e2, show ¬ i < m + 1 by omega]
  runs := by
    intro j hj
    show ∃ c', ((wr.alloc (.cells c 48)).setCell ⟨w.heap.size, m, none⟩ _).heap[w.heap.size + 1 + j]? = _ ∧ _
    rw [Deep.blk_setCell_other _ _ _ _ (by show w.heap.size + 1 + j ≠ w.heap.size; omega)]
    by_cases e : j = m
    · subst e
      refine ⟨c, ?_, h0, h1, h2, h3⟩
      rw [← h.size]
      exact Deep.blk_alloc_new _ _
    · obtain ⟨c', hc', r⟩ := h.runs j (by omega)
      exact ⟨c', (Deep.blk_alloc_lt _ _ _ (by rw [h.size]; omega)).trans hc', r⟩

theorem Made.cell {s : Value} {w wr : World} {n m : Nat} {X Y Z : Nat → Int} (h : Made s w wr n m X Y Z) {j : Nat} (hj : j < m) :
    wr.cell? ⟨w.heap.size + 1 + j, 0, none⟩ = some (.int .i64 (X j)) ∧ wr.cell? ⟨w.heap.size + 1 + j, 1, none⟩ = some (.int .i64 (Y j)) ∧
    wr.cell? ⟨w.heap.size + 1 + j, 2, none⟩ = some (.int .i64 (Z j)) ∧ wr.cell? ⟨w.heap.size + 1 + j, 3, none⟩ = some s := by
  obtain ⟨c, hc, h0, h1, h2, h3⟩ := h.runs j hj
  exact ⟨by simp [World.cell?, hc, h0], by simp [World.cell?, hc, h1], by simp [World.cell?, hc, h2], by simp [World.cell?, hc, h3]⟩

theorem Made.ptr {s : Value} {w wr : World} {n m : Nat} {X Y Z : Nat → Int} (h : Made s w wr n m X Y Z) {j : Nat} (hj : j < m) (hm : m ≤ n) :
    wr.cell? ⟨w.heap.size, j, none⟩ = some (.pointer (some ⟨w.heap.size + 1 + j, 0, none⟩)) := by
  have := h.row.cell (i := j) (by omega)
  simpa [hj] using this

set_option maxRecDepth 20000 in
set_option maxHeartbeats 1000000 in
theorem exact_walk (b off n cap : Nat) (X Y Z : Nat → Int) (w : World) (hn : n ≤ 1024)
    (hX : ∀ j, j < n → w.cell? ⟨b, off + j * 3, none⟩ = some (.int .i64 (X j)))
    (hY : ∀ j, j < n → w.cell? ⟨b, off + j * 3 + 1, none⟩ = some (.int .i64 (Y j)))
    (hZ : ∀ j, j < n → w.cell? ⟨b, off + j * 3 + 2, none⟩ = some (.int .i64 (Z j))) :
    Calls Yba.prog 3 #[.slice (some ⟨b, off, none⟩) n cap] w fun e w' => e = .returned (.bool true) ∧ Below w.heap.size w w' := by
  have hmk := make24 n hn
  have hnn := fun (w : World) (a : Option Addr) (n c : Nat) => run_neq_slice_nil_any (P := Yba.prog) w 22 26 a n c 0 0 Yba.underlying22
  have hne := fun (w : World) (a : Option Addr) (n c : Nat) => Lib.run_eql_slice_nil (P := Yba.prog) w 49 52 a n c 0 0 Yba.underlying49
  have hnd : ¬ (1024 : Int) < (n : Int) := by omega
  go_enter Yba.func3, Yba.ntmps3
  go_wp2
  go_loopg [4] n (fun k i wr => ∃ m : Nat, m ≤ n ∧ k + m = n ∧ i = .int .i64 m ∧ Made (.string { data := #[112] }) w wr n m X Y Z)
  case atStart => exact ⟨0, by omega, rfl, rfl, made_start _ _ _ _ _ _⟩
  case round =>
    obtain ⟨m, hm, hkm, rfl, hM⟩ := hrel
    by_cases hlt : m < n
    · have hx := (hM.below.cell (p := ⟨b, off + m * 3, none⟩) (lt_of_cell (hX m hlt))).trans (hX m hlt)
      have hy := (hM.below.cell (p := ⟨b, off + m * 3 + 1, none⟩) (lt_of_cell (hY m hlt))).trans (hY m hlt)
      have hz := (hM.below.cell (p := ⟨b, off + m * 3 + 2, none⟩) (lt_of_cell (hZ m hlt))).trans (hZ m hlt)
      have c0 : ∀ o, (wr.alloc o).cell? ⟨w.heap.size, m, none⟩ = some (.pointer none) := fun o => by simpa using (hM.row.alloc o).cell hlt
      have f0 : ∀ o, (wr.alloc o).frozen? ⟨w.heap.size, m, none⟩ = false := fun o => (hM.row.alloc o).frozen m
      go_wp2
      go_region
      go_wp2
      go_roundg (gk - 1)
      case measure => omega
      case rel => exact ⟨m + 1, by omega, by omega, by go_num, made_step hM _ rfl rfl rfl rfl⟩
    · obtain rfl : m = n := by omega
      go_wp2_with fail
      refine (refs_any w.heap.size m m (fun j => w.heap.size + 1 + j) X Y Z wr hn (fun j hj => hM.ptr hj (Nat.le_refl _)) (fun j hj => (hM.cell hj).1) (fun j hj => (hM.cell hj).2.1) (fun j hj => (hM.cell hj).2.2.1)).mono ?_
      rintro e w1 ⟨rfl, hb1, f, hrow, hf⟩
      clear hkm hlt hm hmk hnn
      go_wp2
      go_loopg [6] m (fun k i wr2 => ∃ q nq : Nat, q ≤ m ∧ k + q = m ∧ i = .int .i64 q ∧ wr2 = w1.drewN nq)
      case atStart => exact ⟨0, 0, by omega, rfl, rfl, rfl⟩
      case round =>
        obtain ⟨q, nq, hq, hkq, rfl, rfl⟩ := hrel
        by_cases hlq : q < m
        · have hbb := hM.below.trans (hb1.mono (by rw [hM.size]; omega))
          have hx := (hbb.cell (p := ⟨b, off + q * 3, none⟩) (lt_of_cell (hX q hlq))).trans (hX q hlq)
          have hy := (hbb.cell (p := ⟨b, off + q * 3 + 1, none⟩) (lt_of_cell (hY q hlq))).trans (hY q hlq)
          have hz := (hbb.cell (p := ⟨b, off + q * 3 + 2, none⟩) (lt_of_cell (hZ q hlq))).trans (hZ q hlq)
          have hp := (hb1.cell (p := ⟨w.heap.size, q, none⟩) (lt_of_cell (hM.ptr hlq (Nat.le_refl _)))).trans (hM.ptr hlq (Nat.le_refl _))
          obtain ⟨k0, k1, k2, k3⟩ := hM.cell hlq
          have r0 := (hb1.cell (p := ⟨w.heap.size + 1 + q, 0, none⟩) (lt_of_cell k0)).trans k0
          have r1 := (hb1.cell (p := ⟨w.heap.size + 1 + q, 1, none⟩) (lt_of_cell k0)).trans k1
          have r2 := (hb1.cell (p := ⟨w.heap.size + 1 + q, 2, none⟩) (lt_of_cell k0)).trans k2
          have r3 := (hb1.cell (p := ⟨w.heap.size + 1 + q, 3, none⟩) (lt_of_cell k0)).trans k3
          obtain ⟨g0, g1, g2⟩ := hf q hlq
          have d0 := hrow.cell (i := q * 3) (by omega)
          have d1 := hrow.cell (i := q * 3 + 1) (by omega)
          have d2 := hrow.cell (i := q * 3 + 2) (by omega)
          rw [g0] at d0
          rw [g1] at d1
          rw [g2] at d2
          clear k0 k1 k2 k3 g0 g1 g2
          go_wp2
          go_quiet (fail)
          go_wp2
          go_quiet (fail)
          go_wp2
          go_roundg (gk - 1)
          case measure => omega
          case rel => exact ⟨q + 1, _, by omega, by omega, by go_num, rfl⟩
        · go_wp2
          go_ret
          exact ⟨rfl, below_drewN (hM.below.trans (hb1.mono (by rw [hM.size]; omega))) _⟩

end Go.Proofs.Ybulkbpze
