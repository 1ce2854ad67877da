import Derived.Test.YbulkbpzeFmtLaw
namespace Go.Proofs.YbulkbpzeFmt
open Go.RowKit Go.Extern.Stop Go.Stop Go.Extern

set_option maxRecDepth 20000 in
set_option maxHeartbeats 2000000 in
theorem decides_ff (F : Interp) (s0 s1 s4 : Int) (f3 f6 : Bool) (owes : Int) (st : Int) (w : World) (hF : F.answers w.tape) (h0 : 0 ≤ s0 ∧ s0 ≤ 255) (h1 : 0 ≤ s1 ∧ s1 ≤ 255) (h4 : 0 ≤ s4 ∧ s4 ≤ 255) :
    Calls Ybaf.prog 3 #[.int .u8 s0, .int .u8 s1, .bool false, .bool f3, .int .u8 s4, .bool false, .bool f6, .int .i64 owes, .int .u8 st] w fun e w' => e = .returned (.bool true) ∧ Below w.heap.size w w' := by
  obtain ⟨z, hzs, hz84⟩ := zero84
  obtain ⟨z83, hz83⟩ : ∃ v, z[83]? = some v := ⟨_, Array.getElem?_eq_getElem (by omega)⟩
  go_enter Ybaf.func3, Ybaf.ntmps3
  go_wp2_with fail
  refine (name_any s0 _ h0.1 h0.2).mono ?_
  rintro e w1 ⟨nm, rfl, hnm, rfl⟩
  go_wp2_with fail
  refine (name_any s1 _ h1.1 h1.2).mono ?_
  rintro e w2 ⟨rn, rfl, hrn, rfl⟩
  go_wp2_with fail
  refine (name_any s4 _ h4.1 h4.2).mono ?_
  rintro e w3 ⟨tn, rfl, htn, rfl⟩
  have hbel : Below w3.heap.size w3 w3 := Below.refl _ _
  go_upto_region 16 with fail
  go_wp2_with (refine wpList_load_row rfl 88 _ rfl (w3.heap.size + 1 + 1) rfl 88 _ (0, 0) _ (heap_third w3 _ rfl _ _ _).2.2 Ybaf.underlying88 rfl (by kernel_rfl) ?_)
  refine (hold_any F _ _ _ _ _ nm st false false none owes _ ?_ (told_of w3 _ rfl _ _ nm false false none owes _ _ _ rfl rfl (by simp [hzs]) (ld_nil _ nm) (lr_nil _ nm)) _ _ _ _ _ _ _ _ _ _ _ _).mono ?_
  · exact hF
  rintro e w7 ⟨hH, hb7⟩
  have hball := ((((Below.refl _ w3).alloc (Nat.le_refl _) _).alloc (by simp) _).alloc (by simp; omega) _).trans (hb7.mono (by simp <;> omega))
  have hW7 : Below w3.heap.size w3 w7 := hbel.trans (hball.mono (Nat.le_refl _))
  have hc83 : w7.cell? ⟨w3.heap.size + 1, 83, none⟩ = some (.int .i64 owes) := by
    have := hb7.block (w3.heap.size + 1) (by simp <;> omega)
    have h2 := this.trans (heap_third w3 _ rfl _ _ _).2.1
    unfold World.cell?; dsimp only; rw [h2]; simp [hzs]
  clear hb7 hball hz84 hz83 hbel
  rcases hH with ⟨h2, _, rfl⟩ | ⟨_, h2, rfl⟩ | ⟨_, _, a, rfl⟩
  · cases h2
  · cases h2
  · go_wp2
    all_goals (go_ret; exact ⟨rfl, hW7⟩)
end Go.Proofs.YbulkbpzeFmt
