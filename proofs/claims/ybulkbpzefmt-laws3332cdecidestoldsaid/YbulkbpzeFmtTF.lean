import Derived.Test.YbulkbpzeFmtLaw
namespace Go.Proofs.YbulkbpzeFmt
open Go.RowKit Go.Extern.Stop Go.Stop Go.Extern

/-- the world ahead of the engine, 'declared' filled -/
def wbTF (w : World) (rn : ByteArray) (f3 : Bool) : World := w.alloc (.map #[⟨.string rn, .agg #[.nilIface, .nilIface, .bool f3], 0⟩] 1)

theorem wbTF_facts (w : World) (rn : ByteArray) (f3 : Bool) : (wbTF w rn f3).heap.size = w.heap.size + 1 ∧ Below w.heap.size w (wbTF w rn f3) ∧
    (wbTF w rn f3).heap[w.heap.size]? = some (.map #[⟨.string rn, .agg #[.nilIface, .nilIface, .bool f3], 0⟩] 1) :=
  ⟨by simp [wbTF], (Below.refl _ _).alloc (Nat.le_refl _) _, Deep.blk_alloc_new _ _⟩

set_option maxRecDepth 20000 in
set_option maxHeartbeats 2000000 in
theorem decides_tf (F : Interp) (s0 s1 s4 : Int) (f3 f6 : Bool) (owes : Int) (st : Int) (w : World) (hF : F.answers w.tape) (h0 : 0 ≤ s0 ∧ s0 ≤ 255) (h1 : 0 ≤ s1 ∧ s1 ≤ 255) (h4 : 0 ≤ s4 ∧ s4 ≤ 255) :
    Calls Ybaf.prog 3 #[.int .u8 s0, .int .u8 s1, .bool true, .bool f3, .int .u8 s4, .bool false, .bool f6, .int .i64 owes, .int .u8 st] w fun e w' => e = .returned (.bool true) ∧ Below w.heap.size w w' := by
  have hmm := @run_makeMap Ybaf.prog
  have hi1 := insert_one 23 27 Ybaf.underlying23
  obtain ⟨z, hzs, hz84⟩ := zero84
  obtain ⟨z83, hz83⟩ : ∃ v, z[83]? = some v := ⟨_, Array.getElem?_eq_getElem (by omega)⟩
  go_enter Ybaf.func3, Ybaf.ntmps3
  go_wp2_with fail
  refine (name_any s0 _ h0.1 h0.2).mono ?_
  rintro e w1 ⟨nm, rfl, hnm, rfl⟩
  go_wp2_with fail
  refine (name_any s1 _ h1.1 h1.2).mono ?_
  rintro e w2 ⟨rn, rfl, hrn, rfl⟩
  go_wp2_with fail
  refine (name_any s4 _ h4.1 h4.2).mono ?_
  rintro e w3 ⟨tn, rfl, htn, rfl⟩
  obtain ⟨hsz, hbel, k1⟩ := wbTF_facts w3 rn f3
  have HK : Hid ((wbTF w3 rn f3).heap.size = w3.heap.size + 1 ∧ (wbTF w3 rn f3).heap[w3.heap.size]? = some (.map #[⟨.string rn, .agg #[.nilIface, .nilIface, .bool f3], 0⟩] 1)) := ⟨hsz, k1⟩
  clear hsz k1
  go_upto_region 16 with fail
  go_wp2_with (refine wpList_load_row rfl 88 _ rfl (w3.heap.size + 1 + 1 + 1) rfl 88 _ (0, 0) _ (heap_third (wbTF w3 rn f3) _ HK.out.1 _ _ _).2.2 Ybaf.underlying88 rfl (by kernel_rfl) ?_)
  obtain ⟨ir, rf, hR⟩ : ∃ ir rf, (rn = nm ∧ ir = true ∧ rf = f3) ∨ (rn ≠ nm ∧ ir = false ∧ rf = false) := by
    by_cases h : rn = nm
    · exact ⟨true, f3, .inl ⟨h, rfl, rfl⟩⟩
    · exact ⟨false, false, .inr ⟨h, rfl, rfl⟩⟩
  refine (hold_any F _ _ _ _ _ nm st rf ir none owes _ ?_ (told_of (wbTF w3 rn f3) _ HK.out.1 _ _ nm rf ir none owes _ _ _ rfl rfl (by simp [hzs]) (ld_one _ _ rn nm hrn hnm f3 HK.out.2 ir rf hR) (lr_nil _ nm)) _ _ _ _ _ _ _ _ _ _ _ _).mono ?_
  · exact hF
  rintro e w7 ⟨hH, hb7⟩
  have hball := ((((Below.refl _ (wbTF w3 rn f3)).alloc (Nat.le_refl _) _).alloc (by simp) _).alloc (by simp; omega) _).trans (hb7.mono (by simp [wbTF] <;> omega))
  have hW7 : Below w3.heap.size w3 w7 := hbel.trans (hball.mono (by rw [HK.out.1]; omega))
  have hc83 : w7.cell? ⟨w3.heap.size + 1 + 1, 83, none⟩ = some (.int .i64 owes) := by
    have := hb7.block (w3.heap.size + 1 + 1) (by simp [wbTF] <;> omega)
    have h2 := this.trans (heap_third (wbTF w3 rn f3) _ HK.out.1 _ _ _).2.1
    unfold World.cell?; dsimp only; rw [h2]; simp [hzs]
  clear hb7 hball hmm hi1 hz84 hz83 hbel HK
  rcases hR with ⟨rfl, rfl, rfl⟩ | ⟨hne, rfl, rfl⟩
  · rcases hH with ⟨_, h2, rfl⟩ | ⟨_, h2, rfl⟩ | ⟨h2, _, a, rfl⟩
    · rcases h2 with rfl | rfl
      all_goals
        go_wp2
        all_goals (go_ret; exact ⟨rfl, hW7⟩)
    · cases h2
    · obtain ⟨ho, hr⟩ : ¬ owes = 0 ∧ ¬ rf = true := ⟨fun h => h2 ⟨rfl, .inl h⟩, fun h => h2 ⟨rfl, .inr h⟩⟩
      have ho' : (owes == 0) = false := by simpa using ho
      obtain rfl : rf = false := by simpa using hr
      clear h2 ho hr
      go_wp2
      all_goals (go_ret; exact ⟨rfl, hW7⟩)
  · have hrf := ne_bytes hne
    rcases hH with ⟨h2, _, rfl⟩ | ⟨_, h2, rfl⟩ | ⟨_, _, a, rfl⟩
    · cases h2
    · cases h2
    · go_wp2
      all_goals (go_ret; exact ⟨rfl, hW7⟩)
end Go.Proofs.YbulkbpzeFmt
