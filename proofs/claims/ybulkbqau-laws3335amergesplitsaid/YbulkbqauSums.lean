import Derived.Test.YbulkbqauBase
set_option linter.unusedVariables false
set_option linter.unusedSimpArgs false
namespace Go.Proofs.Ybulkbqau
open Go.RowKit

/-! ### What a step may have written: the blocks R, and new ones -/
structure Only (w w' : World) (R : Nat → Prop) : Prop where
  os : w'.os = w.os
  tape : w'.tape = w.tape
  output : w'.output = w.output
  size : w.heap.size ≤ w'.heap.size
  block : ∀ k, k < w.heap.size → ¬ R k → w'.heap[k]? = w.heap[k]?

namespace Only
variable {w w' w'' : World} {R R' : Nat → Prop}
theorem refl (w : World) (R : Nat → Prop) : Only w w R := ⟨rfl, rfl, rfl, Nat.le_refl _, fun _ _ _ => rfl⟩
theorem mono (h : Only w w' R) (hr : ∀ k, k < w.heap.size → R k → R' k) : Only w w' R' := ⟨h.os, h.tape, h.output, h.size, fun k hk hn => h.block k hk (fun e => hn (hr k hk e))⟩
theorem trans (h : Only w w' R) (h' : Only w' w'' R') (hr : ∀ k, k < w.heap.size → R' k → R k) : Only w w'' R :=
  ⟨h'.os.trans h.os, h'.tape.trans h.tape, h'.output.trans h.output, Nat.le_trans h.size h'.size,
    fun k hk hn => (h'.block k (Nat.lt_of_lt_of_le hk h.size) (fun e => hn (hr k hk e))).trans (h.block k hk hn)⟩
theorem drew (h : Only w w' R) : Only w w'.drew R := ⟨h.os, h.tape, h.output, h.size, h.block⟩
theorem alloc (h : Only w w' R) (o : Obj) : Only w (w'.alloc o) R :=
  ⟨h.os, h.tape, h.output, by have := h.size; simp; omega, fun k hk hn => (Deep.blk_alloc_lt _ _ _ (Nat.lt_of_lt_of_le hk h.size)).trans (h.block k hk hn)⟩
theorem setCell (h : Only w w' R) {a : Addr} (ha : R a.block ∨ w.heap.size ≤ a.block) (v : Value) : Only w (w'.setCell a v) R :=
  ⟨h.os, h.tape, h.output, by simpa using h.size, fun k hk hn => by
    rw [Deep.blk_setCell_other _ _ _ _ (by intro e; subst e; rcases ha with ha | ha; exact hn ha; omega)]
    exact h.block k hk hn⟩
theorem grown (h : Only w w' R) {row : Option Nat} (hg : w'.grownBy w'' row) (hr : ∀ k, row = some k → R k ∨ w.heap.size ≤ k) : Only w w'' R :=
  ⟨hg.os.trans h.os, hg.tape.trans h.tape, hg.output.trans h.output, Nat.le_trans h.size hg.size, fun k hk hn => by
    rw [hg.block k (Nat.lt_of_lt_of_le hk h.size) (by intro e; rcases hr k e.symm with h1 | h1; exact hn h1; omega)]
    exact h.block k hk hn⟩
theorem of_below (h : Below w.heap.size w w') (R : Nat → Prop) : Only w w' R := ⟨h.os, h.tape, h.output, h.size, fun k hk _ => h.block k hk⟩
theorem below {B : Nat} (h : Only w w' R) (hr : ∀ k, R k → B ≤ k) (hB : B ≤ w.heap.size) : Below B w w' :=
  ⟨h.os, h.tape, h.output, h.size, fun k hk => h.block k (by omega) (fun e => by have := hr k e; omega)⟩
theorem ch {b : Nat} {c : Nat → Int} (h : Only w w' R) (hc : Ch w b c) (hn : ¬ R b) : Ch w' b c := hc.of_block (h.block b hc.lt hn)
theorem cell (h : Only w w' R) {a : Addr} {v : Value} (hc : w.cell? a = some v) (hn : ¬ R a.block) : w'.cell? a = some v :=
  (World.cell?_of_block (w := w) (h.block a.block (World.block_lt_of_cell? _ _ hc) hn)).trans hc
end Only

/-! ### append of one element onto a slice that is nil or the call's own -/
theorem run_append_vec {P : Program} (w : World) (base : Nat) (t ty e : TypeId) (i : TypeInfo) (z : Value) (bytes : Nat) (ht : P.underlying t = some (.slice e)) (hi : P.info? e = some i) (hz : i.zero = some z)
    (hsize : i.size = 1) (hby : i.bytes = bytes) (hzs : z.cells.size = 1)
    (ao : Option Addr) (n cap : Nat) (xs : List Value) (hown : w.ownsRow base e 1 (.slice ao n cap) n xs)
    (a : Addr) (x : Value) (hnews : w.cell? a = some x) (h1 : x.oneCell' = true)
    (h63 : n + 1 ≤ maxLen) (hbytes : (n + 1) * bytes ≤ 140737488355328) (hbase : base ≤ w.heap.size) :
    ∃ g' cap' w', (Builtin.append_ #[t, t] ty #[.slice ao n cap, .slice (some a) 1 1]).run P w = .ok (.slice (some ⟨g', 0, none⟩) (n + 1) cap') w' ∧
      w'.ownsRow base e 1 (.slice (some ⟨g', 0, none⟩) (n + 1) cap') (n + 1) (xs ++ [x]) ∧ w.grownBy w' (ao.map (·.block)) ∧ (ao = some ⟨g', 0, none⟩ ∨ (w.heap.size ≤ g' ∧ w.grownBy w' none)) := by
  have hn : ∀ j u, [x][j]? = some u → w.cell? (a.add j) = some u := by
    intro j u hj
    match j, hj with
    | 0, hj => simp at hj; subst hj; simpa [Addr.add] using hnews
  have ho : ∀ u ∈ [x], u.oneCell' = true := fun u hu => by simp at hu; subst hu; exact h1
  rcases hown.2 with ⟨hv, h0⟩ | ⟨g, cap2, cur, hv, hb, r⟩
  · simp only [Value.slice.injEq] at hv
    obtain ⟨rfl, rfl, rfl⟩ := hv
    have hx : xs = [] := List.eq_nil_of_length_eq_zero (by simpa using hown.1)
    subst hx
    obtain ⟨v', w', hr, h2, h3, h4⟩ := run_append_own (P := P) w w.heap.size t ty e i z 1 bytes ht hi hz hsize hby hzs (by decide) (.slice none 0 0) 0 [] (World.ownsRow_nil _ _ _ _) a 1 1 [x] rfl hn ho h63 hbytes (Nat.le_refl _)
    rcases h2.2 with ⟨hv, h0⟩ | ⟨g', cap', cur, rfl, hb', r⟩
    · omega
    · exact ⟨g', cap', w', hr, ⟨h2.1, .inr ⟨g', cap', cur, rfl, Nat.le_trans hbase hb', r⟩⟩, h3, .inr ⟨hb', h3⟩⟩
  · simp only [Value.slice.injEq] at hv
    obtain ⟨rfl, _, rfl⟩ := hv
    by_cases hroom : n + 1 ≤ cap
    · obtain ⟨w', hr, h2, h3⟩ := run_append_fits (P := P) w base t ty e i 1 ht hi hsize g n cap xs hown a 1 1 [x] rfl hn ho hroom
      exact ⟨g, cap, w', hr, h2, h3, .inl rfl⟩
    · obtain ⟨v', w', hr, h2, h3⟩ := run_append_arg_grows (P := P) w t ty e i z 1 bytes ht hi hz hsize hby hzs (by decide) ⟨g, 0, none⟩ n cap xs hown.1 (hown.cells (g := g) rfl) a 1 1 [x] rfl hn (by omega) h63 hbytes
      rcases h2.2 with ⟨_, h0⟩ | ⟨g', cap', cur, rfl, hb', r⟩
      · omega
      · exact ⟨g', cap', w', hr, ⟨h2.1, .inr ⟨g', cap', cur, rfl, Nat.le_trans hbase hb', r⟩⟩, ⟨h3.os, h3.tape, h3.output, h3.size, fun k hk _ => h3.block k hk (by simp)⟩, .inr ⟨hb', h3⟩⟩

theorem wpList_append_vec {P : Program} (w : World) {ops : Array Oper} {rest : List Oper} {o : Oper} {a : Act} {Q : Exit → Act → World → Prop} (hgd : o.guard = none) (s x : Operand) (t : TypeId)
    (ho : o.op = .call { callee := .builtin .append, args := #[s, x], argTypes := #[t, t] })
    (base : Nat) (e : TypeId) (i : TypeInfo) (z : Value) (bytes : Nat) (ht : P.underlying t = some (.slice e)) (hi : P.info? e = some i) (hz : i.zero = some z)
    (hsize : i.size = 1) (hby : i.bytes = bytes) (hzs : z.cells.size = 1)
    (ao : Option Addr) (n cap : Nat) (xs : List Value) (hs : a.eval s = .slice ao n cap) (hown : w.ownsRow base e 1 (.slice ao n cap) n xs)
    (ad : Addr) (x' : Value) (hx : a.eval x = .slice (some ad) 1 1) (hnews : w.cell? ad = some x') (h1 : x'.oneCell' = true)
    (h63 : n + 1 ≤ maxLen) (hbytes : (n + 1) * bytes ≤ 140737488355328) (hbase : base ≤ w.heap.size)
    (h : ∀ g' cap' w', w'.ownsRow base e 1 (.slice (some ⟨g', 0, none⟩) (n + 1) cap') (n + 1) (xs ++ [x']) → w.grownBy w' (ao.map (·.block)) → (ao = some ⟨g', 0, none⟩ ∨ (w.heap.size ≤ g' ∧ w.grownBy w' none)) →
      wpList P ops Q rest (a.put o.dst (.slice (some ⟨g', 0, none⟩) (n + 1) cap')) w') : wpList P ops Q (o :: rest) a w := by
  refine wpList_plain hgd fun K hK => ?_
  obtain ⟨g', cap', w', hr, h2, h3, h4⟩ := run_append_vec (P := P) w base t o.type e i z bytes ht hi hz hsize hby hzs ao n cap xs hown ad x' hnews h1 h63 hbytes hbase
  unfold Oper.wp execOp
  simp only [ho, resolve, invoke, builtin, Sem.run_bind, Sem.run_pure, Result.andThen_ok, List.map_toArray, List.map_cons, List.map_nil, hs, hx, hr]
  exact hK _ _ (h g' cap' w' h2 h3 h4)

/-! ### A lawSums in memory -/
structure Sums (w : World) (base S : Nat) (ao : Option Addr) (n cap : Nat) (B : Nat → Nat) (C : Nat → Nat → Int) (rounds inf : Int) (left : Bool) : Prop where
  obj : w.heap[S]? = some (.cells #[.slice ao n cap, .int .i64 rounds, .int .i64 inf, .bool left] 28 (0, 0))
  own : w.ownsRow base 30 1 (.slice ao n cap) n ((List.range n).map fun j => .pointer (some ⟨B j, 0, none⟩))
  chunks : ∀ j, j < n → Ch w (B j) (C j)
  inj : ∀ i j, i < n → j < n → B i = B j → i = j
  hS : base ≤ S
  hB : ∀ j, j < n → base ≤ B j

/-- the blocks of a lawSums -/
def FP (S : Nat) (ao : Option Addr) (n : Nat) (B : Nat → Nat) (k : Nat) : Prop := k = S ∨ ao.map (·.block) = some k ∨ ∃ j, j < n ∧ k = B j

theorem owns_some {w : World} {base e n cap : Nat} {ao : Option Addr} {xs : List Value} (h : w.ownsRow base e 1 (.slice ao n cap) n xs) (hn : 0 < n) : ∃ g, ao = some ⟨g, 0, none⟩ := by
  rcases h.2 with ⟨_, h0⟩ | ⟨g, cap2, cur, hv, _⟩
  · omega
  · simp only [Value.slice.injEq] at hv
    exact ⟨g, hv.1⟩

theorem owns_block {w : World} {base e n cap : Nat} {ao : Option Addr} {xs : List Value} (h : w.ownsRow base e 1 (.slice ao n cap) n xs) {k : Nat} (hk : ao.map (·.block) = some k) : base ≤ k ∧ ∃ cur, w.heap[k]? = some (.cells cur e (0, 0)) := by
  rcases h.2 with ⟨hv, h0⟩ | ⟨g, cap2, cur, hv, hb, hg, _⟩
  · simp only [Value.slice.injEq] at hv
    rw [hv.1] at hk
    simp at hk
  · simp only [Value.slice.injEq] at hv
    rw [hv.1] at hk
    simp at hk
    subst hk
    exact ⟨hb, cur, hg⟩

namespace Sums
variable {w w' : World} {base S : Nat} {ao : Option Addr} {n cap : Nat} {B : Nat → Nat} {C : Nat → Nat → Int} {rounds inf : Int} {left : Bool}

theorem lt (h : Sums w base S ao n cap B C rounds inf left) {k : Nat} (hk : FP S ao n B k) : k < w.heap.size := by
  rcases hk with rfl | hk | ⟨j, hj, rfl⟩
  · exact lt_of_block h.obj
  · obtain ⟨_, cur, hc⟩ := owns_block h.own hk
    exact lt_of_block hc
  · exact (h.chunks j hj).lt

theorem ge (h : Sums w base S ao n cap B C rounds inf left) {k : Nat} (hk : FP S ao n B k) : base ≤ k := by
  rcases hk with rfl | hk | ⟨j, hj, rfl⟩
  · exact h.hS
  · exact (owns_block h.own hk).1
  · exact h.hB j hj

/-- what turns none of its blocks leaves it -/
theorem kept (h : Sums w base S ao n cap B C rounds inf left) {R : Nat → Prop} (ho : Only w w' R) (hd : ∀ k, FP S ao n B k → ¬ R k) : Sums w' base S ao n cap B C rounds inf left where
  obj := (ho.block S (h.lt (.inl rfl)) (hd S (.inl rfl))).trans h.obj
  own := by
    obtain ⟨h1, h2⟩ := h.own
    refine ⟨h1, ?_⟩
    rcases h2 with h2 | ⟨g, cap2, cur, hv, hb, hg, r⟩
    · exact .inl h2
    · refine .inr ⟨g, cap2, cur, hv, hb, ?_, r⟩
      have hk : FP S ao n B g := .inr (.inl (by simp only [Value.slice.injEq] at hv; rw [hv.1]; rfl))
      rw [ho.block g (h.lt hk) (hd g hk)]
      exact hg
  chunks := fun j hj => ho.ch (h.chunks j hj) (hd _ (.inr (.inr ⟨j, hj, rfl⟩)))
  inj := h.inj
  hS := h.hS
  hB := h.hB

theorem cell (h : Sums w base S ao n cap B C rounds inf left) : w.cell? ⟨S, 0, none⟩ = some (.slice ao n cap) ∧ w.cell? ⟨S, 1, none⟩ = some (.int .i64 rounds) ∧ w.cell? ⟨S, 2, none⟩ = some (.int .i64 inf) ∧ w.cell? ⟨S, 3, none⟩ = some (.bool left) := by
  refine ⟨?_, ?_, ?_, ?_⟩ <;> simp [World.cell?, h.obj]
theorem frozen (h : Sums w base S ao n cap B C rounds inf left) (i : Nat) : w.frozen? ⟨S, i, none⟩ = false := by simp [World.frozen?, h.obj]
theorem ptr (h : Sums w base S ao n cap B C rounds inf left) {g : Nat} (hg : ao = some ⟨g, 0, none⟩) {j : Nat} (hj : j < n) : w.cell? ⟨g, j, none⟩ = some (.pointer (some ⟨B j, 0, none⟩)) := by
  subst hg
  rw [h.own.cellAt j (by omega)]
  simp [hj]
/-- the object's block is none of the chunks', nor the row's -/
theorem apart_S (h : Sums w base S ao n cap B C rounds inf left) : (∀ j, j < n → B j ≠ S) ∧ ao.map (·.block) ≠ some S := by
  refine ⟨fun j hj e => ?_, fun e => ?_⟩
  · obtain ⟨z, hz, _⟩ := h.chunks j hj
    rw [e, h.obj] at hz
    simp at hz
  · obtain ⟨_, cur, hc⟩ := owns_block h.own e
    rw [h.obj] at hc
    simp at hc
theorem apart_row (h : Sums w base S ao n cap B C rounds inf left) {j : Nat} (hj : j < n) : ao.map (·.block) ≠ some (B j) := fun e => by
  obtain ⟨z, hz, _⟩ := h.chunks j hj
  obtain ⟨_, cur, hc⟩ := owns_block h.own e
  rw [hz] at hc
  simp at hc
end Sums

end Go.Proofs.Ybulkbqau
