import Derived.Test.YbulkbpzeRefs
import Derived.Test.YbulkbpzeAppend
import Derived.Laws.CopyOwn
import Derived.LaidEqlPtr
namespace Go.Proofs.Ybulkbpze
open Go.RowKit

theorem infoPtr : (Yba.prog.info? 24).map (fun i => (i.zero, i.size, i.bytes)) = some (some (.pointer none), 1, 8) := by kernel_rfl
theorem infoInt : (Yba.prog.info? 3).map (fun i => (i.zero, i.size, i.bytes)) = some (some (.int .i64 0), 1, 8) := by kernel_rfl

theorem makePtrs (n : Nat) (hn : n ≤ 1024) (w : World) :
    (Instr.makeSlice 23 (.int .i64 (n : Int)) (.int .i64 (n : Int))).run Yba.prog w = .ok (.slice (some ⟨w.heap.size, 0, none⟩) n n) (w.alloc (.cells (madeCells #[.pointer none] n) 24)) := by
  obtain ⟨i0, hi, hz0, hz1, hz2⟩ := info_parts infoPtr
  have := run_make (P := Yba.prog) w 23 24 i0 _ Yba.underlying23 hi hz0 .i64 .i64 (n : Int) (n : Int) (by omega) (by omega) (by rw [hz2]; omega) (by omega)
  rw [this, hz1]
  simp [Value.cells]

/-- What the pool's loop has made behind m rounds: the row of pointers in block B, and m runs, one block each, behind it. -/
structure Pool (w wr : World) (B n m : Nat) (X Y Z : Nat → Int) : Prop where
  below : Below w.heap.size w wr
  size : wr.heap.size = B + 1 + m
  row : wr.rowIs B 24 n (fun j => if j < m then .pointer (some ⟨B + 1 + j, 0, none⟩) else .pointer none)
  runs : ∀ j, j < m → ∃ c : Array Value, wr.heap[B + 1 + j]? = some (.cells c 48 (0, 0)) ∧ c[0]? = some (.int .i64 (X j)) ∧ c[1]? = some (.int .i64 (Y j)) ∧ c[2]? = some (.int .i64 (Z j))

theorem pool_start {w w1 : World} {B : Nat} (n : Nat) (X Y Z : Nat → Int) (hb : Below w.heap.size w w1) (hB : w1.heap.size = B) : Pool w (w1.alloc (.cells (madeCells #[.pointer none] n) 24)) B n 0 X Y Z where
  below := hb.alloc hb.size _
  size := by simp [hB]
  row := by subst hB; exact (World.rowIs_made w1 (.pointer none) n 24).congr fun i _ => by simp
  runs := fun j hj => by omega

theorem pool_step {w wr : World} {B n m : Nat} {X Y Z : Nat → Int} (h : Pool w wr B n m X Y Z) (hB : w.heap.size ≤ B) (c : Array Value)
    (h0 : c[0]? = some (.int .i64 (X m))) (h1 : c[1]? = some (.int .i64 (Y m))) (h2 : c[2]? = some (.int .i64 (Z m))) :
    Pool w ((wr.alloc (.cells c 48)).setCell ⟨B, m, none⟩ (.pointer (some ⟨wr.heap.size, 0, none⟩))).drew B n (m + 1) X Y Z where
  below := ((h.below.alloc h.below.size _).setCell hB _).drew
  size := by have := h.size; simp [World.drew, World.setCell]; omega
  row := by
    refine (((h.row.alloc _).set m _).drew).congr fun i _ => ?_
    by_cases e : i = m
    · subst e; simp [h.size]
    · by_cases e2 : i < m
      · simp [e, e2, Nat.lt_succ_of_lt e2]
      · simp [e, e2, show ¬ i < m + 1 by omega]
  runs := by
    intro j hj
    show ∃ c', ((wr.alloc (.cells c 48)).setCell ⟨B, m, none⟩ _).heap[B + 1 + j]? = _ ∧ _
    rw [Deep.blk_setCell_other _ _ _ _ (by show B + 1 + j ≠ B; omega)]
    by_cases e : j = m
    · subst e
      refine ⟨c, ?_, h0, h1, h2⟩
      rw [← h.size]
      exact Deep.blk_alloc_new _ _
    · obtain ⟨c', hc', r⟩ := h.runs j (by omega)
      exact ⟨c', (Deep.blk_alloc_lt _ _ _ (by rw [h.size]; omega)).trans hc', r⟩

/-- What the picks' loop has made behind q rounds. 'w3': the world behind the pool's loop. -/
structure Picked (w w3 wr : World) (B q : Nat) (K : Nat → Nat) (g5 c5 g6 c6 : Nat) : Prop where
  below : Below w.heap.size w wr
  keep : ∀ k, B ≤ k → k < w3.heap.size → wr.heap[k]? = w3.heap[k]?
  size : w3.heap.size ≤ wr.heap.size
  own5 : wr.ownsRow w.heap.size 24 1 (.slice (some ⟨g5, 0, none⟩) q c5) q ((List.range q).map fun j => .pointer (some ⟨B + 1 + K j, 0, none⟩))
  own6 : wr.ownsRow w.heap.size 3 1 (.slice (some ⟨g6, 0, none⟩) q c6) q ((List.range q).map fun j => .int .i64 ((K j : Nat) : Int))
  far5 : g5 < B ∨ w3.heap.size ≤ g5
  far6 : g6 < B ∨ w3.heap.size ≤ g6

theorem owns_block {w : World} {base e g n cap : Nat} {xs : List Value} (h : w.ownsRow base e 1 (.slice (some ⟨g, 0, none⟩) n cap) n xs) : base ≤ g ∧ ∃ cur, w.heap[g]? = some (.cells cur e (0, 0)) := by
  rcases h.2 with ⟨h', _⟩ | ⟨g', cap', cur, h', hb, hg, _⟩
  · simp at h'
  · simp only [Value.slice.injEq, Option.some.injEq, Addr.mk.injEq, and_true, true_and] at h'
    obtain ⟨rfl, rfl⟩ := h'
    exact ⟨hb, cur, hg⟩

theorem Picked.parts {w w3 wr : World} {B q : Nat} {K : Nat → Nat} {g5 c5 g6 c6 : Nat} (h : Picked w w3 wr B q K g5 c5 g6 c6) : g5 ≠ g6 := by
  intro e
  subst e
  obtain ⟨_, c1, h1⟩ := owns_block h.own5
  obtain ⟨_, c2, h2⟩ := owns_block h.own6
  rw [h1] at h2
  simp at h2

/-- behind 'ks = append(ks, k)' -/
theorem picked_ks {w w3 wr w' : World} {B q : Nat} {K : Nat → Nat} {g5 c5 g6 c6 : Nat} (h : Picked w w3 wr B q K g5 c5 g6 c6) {o : Obj} {g' c' : Nat} {xs : List Value}
    (_hown : w'.ownsRow w.heap.size 3 1 (.slice (some ⟨g', 0, none⟩) (q + 1) c') (q + 1) xs)
    (hg : (wr.alloc o).grownBy w' (some g6)) (hf : g' = g6 ∨ ((wr.alloc o).heap.size ≤ g' ∧ (wr.alloc o).grownBy w' none)) :
    Below w.heap.size w w' ∧ (∀ k, B ≤ k → k < w3.heap.size → w'.heap[k]? = w3.heap[k]?) ∧ w3.heap.size ≤ w'.heap.size ∧
    w'.ownsRow w.heap.size 24 1 (.slice (some ⟨g5, 0, none⟩) q c5) q ((List.range q).map fun j => .pointer (some ⟨B + 1 + K j, 0, none⟩)) ∧ (g' < B ∨ w3.heap.size ≤ g') := by
  have hsz := h.size
  have hb6 := (owns_block h.own6).1
  have hs2 : (wr.alloc o).heap.size = wr.heap.size + 1 := by simp
  have := hg.size
  refine ⟨(h.below.alloc h.below.size o).grown hg (by have := h.below.size; omega) (fun k hk => by simp at hk; omega), fun k h1 h2 => ?_, by omega, ?_, ?_⟩
  · rw [hg.block k (by omega) (by intro e; simp at e; have := h.far6; omega), Deep.blk_alloc_lt _ _ _ (by omega)]
    exact h.keep k h1 h2
  · exact (h.own5.alloc o).kept hg (.inr (by simp [Value.ownBlock]; exact h.parts))
  · rcases hf with rfl | ⟨h1, _⟩
    · exact h.far6
    · right; omega

/-- behind 'runs = append(runs, ps[k])' -/
theorem picked_runs {w w3 wr w1 w' : World} {B q : Nat} {K : Nat → Nat} {g5 c5 g6 c6 g6' c6' : Nat} (h : Picked w w3 wr B q K g5 c5 g6 c6)
    (hbel : Below w.heap.size w w1) (hkeep : ∀ k, B ≤ k → k < w3.heap.size → w1.heap[k]? = w3.heap[k]?) (hsize : w3.heap.size ≤ w1.heap.size)
    (hown6 : w1.ownsRow w.heap.size 3 1 (.slice (some ⟨g6', 0, none⟩) (q + 1) c6') (q + 1) (((List.range q).map fun j => .int .i64 ((K j : Nat) : Int)) ++ [.int .i64 ((K q : Nat) : Int)]))
    (hown5 : w1.ownsRow w.heap.size 24 1 (.slice (some ⟨g5, 0, none⟩) q c5) q ((List.range q).map fun j => .pointer (some ⟨B + 1 + K j, 0, none⟩)))
    (hfar6 : g6' < B ∨ w3.heap.size ≤ g6') {o : Obj} {g' c' : Nat}
    (hown : w'.ownsRow w.heap.size 24 1 (.slice (some ⟨g', 0, none⟩) (q + 1) c') (q + 1) (((List.range q).map fun j => .pointer (some ⟨B + 1 + K j, 0, none⟩)) ++ [.pointer (some ⟨B + 1 + K q, 0, none⟩)]))
    (hg : (w1.alloc o).grownBy w' (some g5)) (hf : g' = g5 ∨ ((w1.alloc o).heap.size ≤ g' ∧ (w1.alloc o).grownBy w' none)) :
    Picked w w3 w' B (q + 1) K g' c' g6' c6' := by
  have hs2 : (w1.alloc o).heap.size = w1.heap.size + 1 := by simp
  have := hg.size
  have hb5 := (owns_block hown5).1
  have hne : g6' ≠ g5 := by
    intro e
    subst e
    obtain ⟨_, c1, h1⟩ := owns_block hown5
    obtain ⟨_, c2, h2⟩ := owns_block hown6
    rw [h1] at h2
    simp at h2
  refine ⟨(hbel.alloc hbel.size o).grown hg (by have := hbel.size; omega) (fun k hk => by simp at hk; omega), fun k h1 h2 => ?_, by omega, ?_, ?_, ?_, hfar6⟩
  · rw [hg.block k (by omega) (by intro e; simp at e; have := h.far5; omega), Deep.blk_alloc_lt _ _ _ (by omega)]
    exact hkeep k h1 h2
  · rw [List.range_succ, List.map_append]; exact hown
  · rw [List.range_succ, List.map_append]; exact (hown6.alloc o).kept hg (.inr (by simp [Value.ownBlock]; exact hne))
  · rcases hf with rfl | ⟨h1, _⟩
    · exact h.far5
    · right; omega

theorem Picked.cell5 {w w3 wr : World} {B q : Nat} {K : Nat → Nat} {g5 c5 g6 c6 : Nat} (h : Picked w w3 wr B q K g5 c5 g6 c6) {j : Nat} (hj : j < q) : wr.cell? ⟨g5, j, none⟩ = some (.pointer (some ⟨B + 1 + K j, 0, none⟩)) := by
  rw [h.own5.cellAt j (by omega)]; simp [hj]

theorem Picked.cell6 {w w3 wr : World} {B q : Nat} {K : Nat → Nat} {g5 c5 g6 c6 : Nat} (h : Picked w w3 wr B q K g5 c5 g6 c6) {j : Nat} (hj : j < q) : wr.cell? ⟨g6, j, none⟩ = some (.int .i64 ((K j : Nat) : Int)) := by
  rw [h.own6.cellAt j (by omega)]; simp [hj]

theorem Pool.ptr {w wr : World} {B n m : Nat} {X Y Z : Nat → Int} (h : Pool w wr B n m X Y Z) {j : Nat} (hj : j < m) (hm : m ≤ n) :
    wr.cell? ⟨B, j, none⟩ = some (.pointer (some ⟨B + 1 + j, 0, none⟩)) := by
  have := h.row.cell (i := j) (by omega)
  simpa [hj] using this

theorem pool_in {w w3 wr : World} {B n : Nat} {X Y Z : Nat → Int} (h : Pool w w3 B n n X Y Z) (hk : ∀ k, B ≤ k → k < w3.heap.size → wr.heap[k]? = w3.heap[k]?) {j : Nat} (hj : j < n) :
    wr.cell? ⟨B, j, none⟩ = some (.pointer (some ⟨B + 1 + j, 0, none⟩)) ∧ wr.cell? ⟨B + 1 + j, 0, none⟩ = some (.int .i64 (X j)) ∧ wr.cell? ⟨B + 1 + j, 1, none⟩ = some (.int .i64 (Y j)) ∧ wr.cell? ⟨B + 1 + j, 2, none⟩ = some (.int .i64 (Z j)) := by
  have hs := h.size
  obtain ⟨c, hc, h0, h1, h2⟩ := h.runs j hj
  have e := (hk (B + 1 + j) (by omega) (by omega)).trans hc
  refine ⟨(World.cell?_of_block (w := w3) (hk B (Nat.le_refl _) (by omega))).trans (h.ptr hj (Nat.le_refl _)), ?_, ?_, ?_⟩
  · simp [World.cell?, e, h0]
  · simp [World.cell?, e, h1]
  · simp [World.cell?, e, h2]

/-- 'copy(before, runs)', before a row of the call's own, as long as runs. -/
theorem wpList_copy_full {w : World} {ops : Array Oper} {rest : List Oper} {o : Oper} {a : Act} {Q : Exit → Act → World → Prop} (hgd : o.guard = none) (d s : Operand)
    (ho : o.op = .call { callee := .builtin .copy, args := #[d, s], argTypes := #[23, 23] })
    (g g5 q c5 : Nat) (hd : a.eval d = .slice (some ⟨g, 0, none⟩) q q) (hs : a.eval s = .slice (some ⟨g5, 0, none⟩) q c5)
    (w0 : World) (hw : w = w0.alloc (.cells (madeCells #[.pointer none] q) 24)) (hg : g = w0.heap.size)
    (A : Nat → Nat) (hsrc : ∀ j, j < q → w0.cell? ⟨g5, j, none⟩ = some (.pointer (some ⟨A j, 0, none⟩)))
    (h : ∀ w', w'.rowIs g 24 q (fun j => .pointer (some ⟨A j, 0, none⟩)) → Below w0.heap.size w0 w' → wpList Yba.prog ops Q rest (a.put o.dst (goInt q)) w') :
    wpList Yba.prog ops Q (o :: rest) a w := by
  subst hw hg
  refine wpList_copy_splice hgd d s 23 23 ho 24 Yba.underlying23 (by kernel_rfl) _ _ q q q c5 hd hs w0.heap.size 0 (madeCells #[.pointer none] q).toList 24 (by simpa using Deep.blk_alloc_new w0 _)
    ((List.range q).map fun j => .pointer (some ⟨A j, 0, none⟩)) (by simp) (fun _ => ⟨rfl, _, rfl, fun j v hj => ?_⟩) (by simp [size_madeCells]) (fun v hv => ?_) w0.heap.size w0 ((Below.refl _ _).alloc (Nat.le_refl _) _) (Nat.le_refl _) ?_
  · have hjq : j < q := by
      by_cases e : j < q
      · exact e
      · simp [List.getElem?_eq_none (show ((List.range q).map fun j => Value.pointer (some ⟨A j, 0, none⟩)).length ≤ j by simp; omega)] at hj
    simp [hjq] at hj
    subst hj
    have := (((Below.refl w0.heap.size w0).alloc (Nat.le_refl _) (.cells (madeCells #[.pointer none] q) 24)).cell (p := ⟨g5, j, none⟩) (lt_of_cell (hsrc j hjq))).trans (hsrc j hjq)
    simpa [Addr.add_lit] using this
  · simp at hv
    obtain ⟨j, _, rfl⟩ := hv
    rfl
  · intro w' hw' hb'
    have hh := hw'.out
    have hrow : w'.rowIs w0.heap.size 24 q (fun j => .pointer (some ⟨A j, 0, none⟩)) := by
      refine ⟨_, hh, ?_, fun i hi => ?_⟩
      · simp [splice, size_madeCells]
      · simp only [splice, List.take_zero, List.nil_append, List.getElem?_toArray]
        rw [List.getElem?_append_left (by simpa using hi)]
        simp [hi]
    have := h w' hrow hb'
    simpa using this

theorem info48 : ∃ j, Yba.prog.info? 48 = some j := by
  have h : (Yba.prog.info? 48).isSome = true := by kernel_rfl
  exact Option.isSome_iff_exists.1 h

/-- a pointer against itself, by '!=' -/
theorem neq24 (a : Addr) (w : World) : (binOp .neq 24 (.pointer (some a)) (.pointer (some a))).run Yba.prog w = .ok (.bool false) w := by
  obtain ⟨j, hj⟩ := info48
  have h : ∀ d : Nat, (Op.equalIn (d + 1) 24 (.pointer (some a)) (.pointer (some a))).run Yba.prog w = .ok true w := fun d => by
    simp [Op.equalIn, run_underlying Yba.underlying24, sizeOf, typeInfo, hj, run_sameAddr_same]
  simp only [binOp]
  simp [Op.equal, Op.maxDepth, h 9999]

end Go.Proofs.Ybulkbpze
