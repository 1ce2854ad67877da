import Derived.Test.YbulkbpzeFmtLaw
namespace Go.Proofs.YbulkbpzeFmt
open Go.RowKit Go.Extern.Stop Go.Stop Go.Extern

/-- the world ahead of the engine, 'retired' filled -/
def wbFT (w : World) (tn : ByteArray) (f6 : Bool) : World :=
  (w.alloc (.cells #[.string tn, .bool f6] 31)).alloc (.map #[⟨.string tn, .pointer (some ⟨w.heap.size, 0, none⟩), 0⟩] 1)

theorem wbFT_facts (w : World) (tn : ByteArray) (f6 : Bool) : (wbFT w tn f6).heap.size = w.heap.size + 1 + 1 ∧ Below w.heap.size w (wbFT w tn f6) ∧
    (wbFT w tn f6).heap[w.heap.size]? = some (.cells #[.string tn, .bool f6] 31 (0, 0)) ∧
    (wbFT w tn f6).heap[w.heap.size + 1]? = some (.map #[⟨.string tn, .pointer (some ⟨w.heap.size, 0, none⟩), 0⟩] 1) := by
  refine ⟨by simp [wbFT], ((Below.refl _ _).alloc (Nat.le_refl _) _).alloc (by simp) _, ?_, ?_⟩
  · unfold wbFT
    rw [Deep.blk_alloc_lt _ _ _ (by simp)]
    exact Deep.blk_alloc_new _ _
  · have h := Deep.blk_alloc_new (w.alloc (.cells #[.string tn, .bool f6] 31)) (.map #[⟨.string tn, .pointer (some ⟨w.heap.size, 0, none⟩), 0⟩] 1)
    have e : (w.alloc (.cells #[.string tn, .bool f6] 31)).heap.size = w.heap.size + 1 := by simp
    rw [e] at h
    exact h

set_option maxRecDepth 20000 in
set_option maxHeartbeats 2000000 in
theorem decides_ft (F : Interp) (s0 s1 s4 : Int) (f3 f6 : Bool) (owes : Int) (st : Int) (w : World) (hF : F.answers w.tape) (h0 : 0 ≤ s0 ∧ s0 ≤ 255) (h1 : 0 ≤ s1 ∧ s1 ≤ 255) (h4 : 0 ≤ s4 ∧ s4 ≤ 255) :
    Calls Ybaf.prog 3 #[.int .u8 s0, .int .u8 s1, .bool false, .bool f3, .int .u8 s4, .bool true, .bool f6, .int .i64 owes, .int .u8 st] w fun e w' => e = .returned (.bool true) ∧ Below w.heap.size w w' := by
  have hmm := @run_makeMap Ybaf.prog
  have hi2 := insert_second
  obtain ⟨z, hzs, hz84⟩ := zero84
  obtain ⟨z83, hz83⟩ : ∃ v, z[83]? = some v := ⟨_, Array.getElem?_eq_getElem (by omega)⟩
  go_enter Ybaf.func3, Ybaf.ntmps3
  go_wp2_with fail
  refine (name_any s0 _ h0.1 h0.2).mono ?_
  rintro e w1 ⟨nm, rfl, hnm, rfl⟩
  go_wp2_with fail
  refine (name_any s1 _ h1.1 h1.2).mono ?_
  rintro e w2 ⟨rn, rfl, hrn, rfl⟩
  go_wp2_with fail
  refine (name_any s4 _ h4.1 h4.2).mono ?_
  rintro e w3 ⟨tn, rfl, htn, rfl⟩
  obtain ⟨hsz, hbel, k2, k3⟩ := wbFT_facts w3 tn f6
  have HK : Hid ((wbFT w3 tn f6).heap.size = w3.heap.size + 1 + 1 ∧ (wbFT w3 tn f6).heap[w3.heap.size]? = some (.cells #[.string tn, .bool f6] 31 (0, 0)) ∧
    (wbFT w3 tn f6).heap[w3.heap.size + 1]? = some (.map #[⟨.string tn, .pointer (some ⟨w3.heap.size, 0, none⟩), 0⟩] 1)) := ⟨hsz, k2, k3⟩
  clear hsz k2 k3
  go_upto_region 16 with fail
  go_wp2_with (refine wpList_load_row rfl 88 _ rfl (w3.heap.size + 1 + 1 + 1 + 1) rfl 88 _ (0, 0) _ (heap_third (wbFT w3 tn f6) _ HK.out.1 _ _ _).2.2 Ybaf.underlying88 rfl (by kernel_rfl) ?_)
  obtain ⟨rp, hP⟩ : ∃ rp : Option Addr, (tn = nm ∧ rp = some ⟨w3.heap.size, 0, none⟩) ∨ (tn ≠ nm ∧ rp = none) := by
    by_cases h : tn = nm
    · exact ⟨_, .inl ⟨h, rfl⟩⟩
    · exact ⟨_, .inr ⟨h, rfl⟩⟩
  refine (hold_any F _ _ _ _ _ nm st false false rp owes _ ?_ (told_of (wbFT w3 tn f6) _ HK.out.1 _ _ nm false false rp owes _ _ _ rfl rfl (by simp [hzs]) (ld_nil _ nm) (lr_one _ _ tn nm htn hnm _ HK.out.2.2 rp hP)) _ _ _ _ _ _ _ _ _ _ _ _).mono ?_
  · exact hF
  rintro e w7 ⟨hH, hb7⟩
  have hball := ((((Below.refl _ (wbFT w3 tn f6)).alloc (Nat.le_refl _) _).alloc (by simp) _).alloc (by simp; omega) _).trans (hb7.mono (by simp [wbFT] <;> omega))
  have hW7 : Below w3.heap.size w3 w7 := hbel.trans (hball.mono (by rw [HK.out.1]; omega))
  have hc83 : w7.cell? ⟨w3.heap.size + 1 + 1 + 1, 83, none⟩ = some (.int .i64 owes) := by
    have := hb7.block (w3.heap.size + 1 + 1 + 1) (by simp [wbFT] <;> omega)
    have h2 := this.trans (heap_third (wbFT w3 tn f6) _ HK.out.1 _ _ _).2.1
    unfold World.cell?; dsimp only; rw [h2]; simp [hzs]
  have hn0 : w7.cell? ⟨w3.heap.size, 0, none⟩ = some (.string tn) ∧ w7.cell? ⟨w3.heap.size, 1, none⟩ = some (.bool f6) := by
    have := (hball.block w3.heap.size (by rw [HK.out.1]; omega)).trans HK.out.2.1
    constructor <;> (unfold World.cell?; dsimp only; rw [this]; simp)
  obtain ⟨hn0, hn1⟩ := hn0
  have heq := eq29
  clear hb7 hball hmm hi2 hz84 hz83 hbel HK
  rcases hP with ⟨rfl, rfl⟩ | ⟨hnt, rfl⟩
  · rcases hH with ⟨h2, _, rfl⟩ | ⟨_, _, rfl⟩ | ⟨_, h2, a, rfl⟩
    · cases h2
    · go_wp2
      all_goals (go_ret; exact ⟨rfl, hW7⟩)
    · cases h2
  · have htf := ne_bytes hnt
    rcases hH with ⟨h2, _, rfl⟩ | ⟨_, h2, rfl⟩ | ⟨_, _, a, rfl⟩
    · cases h2
    · cases h2
    · go_wp2
      all_goals (go_ret; exact ⟨rfl, hW7⟩)
end Go.Proofs.YbulkbpzeFmt
