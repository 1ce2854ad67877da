import Derived.Test.YbulkbpzeRows
import Derived.WalkKit
import Derived.ProofKit
import Derived.Deep.Slices
namespace Go.Proofs.Ybulkbpze
open Go.ChangeShapes Go.WideShapes Go.ChangeAt Go.RowKit Go.Deep

theorem cells26 : Yba.prog.cellsOf 26 = 3 := by kernel_rfl
theorem cells3 : Yba.prog.cellsOf 3 = 1 := by kernel_rfl

/-- WHAT A WALK IS TOLD OF A SLICE OF RUNS THAT CAME IN: it is nil; or each of its elements is three cells, three ints. -/
def IsRuns (w : World) (a : Option Addr) (len cap : Nat) (X Y Z : Nat → Int) : Prop :=
  (a = none ∧ len = 0 ∧ cap = 0) ∨
  ∃ x, a = some x ∧ ∀ i, i < len → w.cell? (x.add (i * 3)) = some (.int .i64 (X i)) ∧ w.cell? (x.add (i * 3 + 1)) = some (.int .i64 (Y i)) ∧ w.cell? (x.add (i * 3 + 2)) = some (.int .i64 (Z i))

theorem open_runs {H : Type} {enc : TypeId × Value → H} {W : World} {fuel : Nat} {a : Option Addr} {len cap : Nat} {x : DataW H × List MemPlace}
    (h : DataW.trod enc Yba.prog W 0 (fun _ => true) true fuel 22 [.slice a len cap] = some x) : ∃ X Y Z, IsRuns W a len cap X Y Z := by
  rcases open_slice Yba.underlying22 h with ⟨hcs, _⟩ | ⟨ad, len', cap', m, n, D, Pl, hcs, hb, hl, hm, hmm, rfl, hx⟩
  · simp at hcs
    exact ⟨fun _ => 0, fun _ => 0, fun _ => 0, .inl hcs⟩
  simp at hcs
  obtain ⟨rfl, rfl, rfl⟩ := hcs
  have hlm : len ≤ m := by rw [hmm]; simpa using hl
  have each : ∀ i, i < len → ∃ q : Int × Int × Int, W.cell? (ad.add (i * 3)) = some (.int .i64 q.1) ∧ W.cell? (ad.add (i * 3 + 1)) = some (.int .i64 q.2.1) ∧ W.cell? (ad.add (i * 3 + 2)) = some (.int .i64 q.2.2) := by
    intro i hi
    obtain ⟨cs', h1, h2⟩ := hx i (by omega)
    rw [cells26] at h1
    obtain ⟨_, hlen, hcell⟩ := World.cells?_some h1
    obtain ⟨xs, k, hk, hxy, _, hxl, hf⟩ := DataW.trod_struct Yba.underlying26 h2
    match xs, hxl, cs', hlen with
    | [y0, y1, y2], _, [v0, v1, v2], _ =>
      have g0 := hf 0 _ rfl
      have g1 := hf 1 _ rfl
      have g2 := hf 2 _ rfl
      simp [cells3] at g0 g1 g2
      obtain ⟨x0, e0, _, _⟩ := DataW.trod_int Yba.underlying3 g0
      obtain ⟨x1, e1, _, _⟩ := DataW.trod_int Yba.underlying3 g1
      obtain ⟨x2, e2, _, _⟩ := DataW.trod_int Yba.underlying3 g2
      simp at e0 e1 e2
      subst e0 e1 e2
      have c0 := hcell 0 (by omega)
      have c1 := hcell 1 (by omega)
      have c2 := hcell 2 (by omega)
      rw [add_add] at c0 c1 c2
      exact ⟨(x0, x1, x2), by simpa using c0, by simpa using c1, by simpa using c2⟩
  obtain ⟨q, hq⟩ := choose_lt each
  exact ⟨fun i => (q i).1, fun i => (q i).2.1, fun i => (q i).2.2, .inr ⟨_, rfl, hq⟩⟩

end Go.Proofs.Ybulkbpze
