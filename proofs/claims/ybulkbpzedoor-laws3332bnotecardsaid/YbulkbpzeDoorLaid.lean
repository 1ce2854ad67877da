import Derived.Test.YbulkbpzeDoorWalk
import Derived.ProofKit
import Derived.LaidMore
import Derived.OpenShut
import Derived.Stop.Joined
namespace Go.Proofs.YbulkbpzeDoor
open Go.ChangeShapes Go.WideShapes Go.ChangeAt Go.WideMaps Go.WideElems Go.RowKit

theorem own : ownKnob Ybad.prog.godebug = none := by kernel_rfl
theorem laidOut : laidOutB Ybad.prog = true := by kernel_rfl
theorem gEnd : Ybad.prog.globalNamed "example.com/countermarch/countermarch.endings" = some 0 := by kernel_rfl
theorem tEnd : (Ybad.prog.globals[0]?).map (·.type) = some 49 := by kernel_rfl
theorem law : KeyLaw Ybad.prog 22 := string_law Ybad.underlying22

abbrev laid1 : List (String × DataW Unit) := [("example.com/countermarch/countermarch.endings", Rows.laid_example_com_countermarch_countermarch_endings)]

/-- what the listed datum gives at a key -/
theorem at_key (l : List UInt8) (zd : DataW Unit) : (Rows.laid_example_com_countermarch_countermarch_endings : DataW Unit).atKey (.string l) zd =
    if (l == sC) = true then .lit (.int .u8 2) else if (l == sK) = true then .lit (.int .u8 3) else if (l == sF) = true then .lit (.int .u8 4) else if (l == sX) = true then .lit (.int .u8 5) else zd := by
  have e : ∀ k : List UInt8, (Lit.string k).sameKey (.string l) = (l == k) := fun k => by
    simp [Lit.sameKey, Bool.beq_comm]
  simp only [Rows.laid_example_com_countermarch_countermarch_endings, DataW.atKey, List.find?, e]
  by_cases h1 : l = sC
  · subst h1; rfl
  by_cases h2 : l = sK
  · subst h2; rfl
  by_cases h3 : l = sF
  · subst h3; rfl
  by_cases h4 : l = sX
  · subst h4; rfl
  have g1 : (l == sC) = false := by simpa using h1
  have g2 : (l == sK) = false := by simpa using h2
  have g3 : (l == sF) = false := by simpa using h3
  have g4 : (l == sX) = false := by simpa using h4
  simp only [g1, g2, g3, g4]
  rfl

/-- WHAT THE CONDITION GIVES THE WALKS. -/
theorem of_laid {W : World} (h : laidMetH Ybad.prog laid1 W) : ∃ bm, Ends W bm := by
  rw [MakeChecks.laidMetH_plain _ _ _ (by kernel_rfl)] at h
  obtain ⟨ps, ⟨g0, t0, cs0, f0, p0, q0, hg0, ht0, hv0, hd0, _, _⟩, _, _⟩ := h
  obtain rfl := Option.some.inj (gEnd.symm.trans hg0)
  obtain rfl := Option.some.inj (tEnd.symm.trans ht0)
  rcases open_map Ybad.underlying49 hd0 with ⟨_, hx⟩ | ⟨bm, es, clock, m, rfl, hcs, hb, _, F, hx⟩
  · simp [Rows.laid_example_com_countermarch_countermarch_endings] at hx
  simp only [Prod.mk.injEq] at hx
  have hcell : W.cell? ⟨0, 0, none⟩ = some (.map (some bm)) := by
    have := World.var?_cell hg0 hv0 0
    rw [Array.eq_one_of_toList hcs] at this
    simpa using this
  refine ⟨bm, hcell, fun wx hbx s hs => ?_⟩
  have hbm : bm < W.heap.size := lt_of_block hb
  have hb' : wx.heap[bm]? = some (.map es clock) := by rw [hbx.block bm hbm]; exact hb
  have zero : (zeroValue 37).run Ybad.prog wx = .ok (.int .u8 0) wx := by kernel_rfl
  rcases fit_lookup (w := wx) law Ybad.underlying49 zero hb' F (keyOf_string_mk (s := s) Ybad.underlying22 hs) with ⟨hrun, hat⟩ | ⟨v, y, hrun, hRv, hat, _⟩
  · have := hat .nil
    rw [← hx.1, at_key, ← ByteArray.toList_eq] at this
    rw [hrun]
    unfold endOf
    split at this <;> rename_i h1 <;> simp only [h1] <;> try (cases this)
    split at this <;> rename_i h2 <;> simp only [h2] <;> try (cases this)
    split at this <;> rename_i h3 <;> simp only [h3] <;> try (cases this)
    split at this <;> rename_i h4 <;> simp only [h4] <;> try (cases this)
    simp
  · obtain ⟨r, rfl, rfl, _⟩ := elemAt_int Ybad.underlying37 hRv
    have := hat (.lit (.int .u8 0))
    rw [← hx.1, at_key, ← ByteArray.toList_eq] at this
    rw [hrun]
    have e : r = endOf s.toList := by
      unfold endOf
      repeat' split at this
      all_goals (simp at this; simp_all)
    rw [e]

end Go.Proofs.YbulkbpzeDoor
