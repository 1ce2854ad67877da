import Derived.Test.YbulkbpzeFmtLaw
namespace Go.Proofs.YbulkbpzeFmt
open Go.RowKit Go.Extern.Stop Go.Stop Go.Extern

/-- the world ahead of the engine, both maps filled -/
def wbTT (w : World) (rn tn : ByteArray) (f3 f6 : Bool) : World :=
  ((w.alloc (.map #[⟨.string rn, .agg #[.nilIface, .nilIface, .bool f3], 0⟩] 1)).alloc (.cells #[.string tn, .bool f6] 31)).alloc (.map #[⟨.string tn, .pointer (some ⟨w.heap.size + 1, 0, none⟩), 0⟩] 1)

theorem wbTT_facts (w : World) (rn tn : ByteArray) (f3 f6 : Bool) : (wbTT w rn tn f3 f6).heap.size = w.heap.size + 1 + 1 + 1 ∧ Below w.heap.size w (wbTT w rn tn f3 f6) ∧
    (wbTT w rn tn f3 f6).heap[w.heap.size]? = some (.map #[⟨.string rn, .agg #[.nilIface, .nilIface, .bool f3], 0⟩] 1) ∧ (wbTT w rn tn f3 f6).heap[w.heap.size + 1]? = some (.cells #[.string tn, .bool f6] 31 (0, 0)) ∧
    (wbTT w rn tn f3 f6).heap[w.heap.size + 1 + 1]? = some (.map #[⟨.string tn, .pointer (some ⟨w.heap.size + 1, 0, none⟩), 0⟩] 1) := by
  obtain ⟨g1, g2, g3⟩ := heap_third w _ rfl (.map #[⟨.string rn, .agg #[.nilIface, .nilIface, .bool f3], 0⟩] 1) (.cells #[.string tn, .bool f6] 31) (.map #[⟨.string tn, .pointer (some ⟨w.heap.size + 1, 0, none⟩), 0⟩] 1)
  exact ⟨by simp [wbTT], (((Below.refl _ _).alloc (Nat.le_refl _) _).alloc (by simp) _).alloc (by simp; omega) _, g1, g2, g3⟩

set_option maxRecDepth 20000 in
set_option maxHeartbeats 2000000 in
theorem decides_tt (F : Interp) (s0 s1 s4 : Int) (f3 f6 : Bool) (owes : Int) (st : Int) (w : World) (hF : F.answers w.tape) (h0 : 0 ≤ s0 ∧ s0 ≤ 255) (h1 : 0 ≤ s1 ∧ s1 ≤ 255) (h4 : 0 ≤ s4 ∧ s4 ≤ 255) :
    Calls Ybaf.prog 3 #[.int .u8 s0, .int .u8 s1, .bool true, .bool f3, .int .u8 s4, .bool true, .bool f6, .int .i64 owes, .int .u8 st] w fun e w' => e = .returned (.bool true) ∧ Below w.heap.size w w' := by
  have hmm := @run_makeMap Ybaf.prog
  have hi1 := insert_one 23 27 Ybaf.underlying23
  have hi2 := insert_third
  obtain ⟨z, hzs, hz84⟩ := zero84
  obtain ⟨z83, hz83⟩ : ∃ v, z[83]? = some v := ⟨_, Array.getElem?_eq_getElem (by omega)⟩
  go_enter Ybaf.func3, Ybaf.ntmps3
  go_wp2_with fail
  refine (name_any s0 _ h0.1 h0.2).mono ?_
  rintro e w1 ⟨nm, rfl, hnm, rfl⟩
  go_wp2_with fail
  refine (name_any s1 _ h1.1 h1.2).mono ?_
  rintro e w2 ⟨rn, rfl, hrn, rfl⟩
  go_wp2_with fail
  refine (name_any s4 _ h4.1 h4.2).mono ?_
  rintro e w3 ⟨tn, rfl, htn, rfl⟩
  obtain ⟨hsz, hbel, k1, k2, k3⟩ := wbTT_facts w3 rn tn f3 f6
  have HK : Hid ((wbTT w3 rn tn f3 f6).heap.size = w3.heap.size + 1 + 1 + 1 ∧ (wbTT w3 rn tn f3 f6).heap[w3.heap.size]? = some (.map #[⟨.string rn, .agg #[.nilIface, .nilIface, .bool f3], 0⟩] 1) ∧ (wbTT w3 rn tn f3 f6).heap[w3.heap.size + 1]? = some (.cells #[.string tn, .bool f6] 31 (0, 0)) ∧
    (wbTT w3 rn tn f3 f6).heap[w3.heap.size + 1 + 1]? = some (.map #[⟨.string tn, .pointer (some ⟨w3.heap.size + 1, 0, none⟩), 0⟩] 1)) := ⟨hsz, k1, k2, k3⟩
  clear hsz k1 k2 k3
  go_upto_region 16 with fail
  go_wp2_with (refine wpList_load_row rfl 88 _ rfl (w3.heap.size + 1 + 1 + 1 + 1 + 1) rfl 88 _ (0, 0) _ (heap_third (wbTT w3 rn tn f3 f6) _ HK.out.1 _ _ _).2.2 Ybaf.underlying88 rfl (by kernel_rfl) ?_)
  obtain ⟨ir, rf, hR⟩ : ∃ ir rf, (rn = nm ∧ ir = true ∧ rf = f3) ∨ (rn ≠ nm ∧ ir = false ∧ rf = false) := by
    by_cases h : rn = nm
    · exact ⟨true, f3, .inl ⟨h, rfl, rfl⟩⟩
    · exact ⟨false, false, .inr ⟨h, rfl, rfl⟩⟩
  obtain ⟨rp, hP⟩ : ∃ rp : Option Addr, (tn = nm ∧ rp = some ⟨w3.heap.size + 1, 0, none⟩) ∨ (tn ≠ nm ∧ rp = none) := by
    by_cases h : tn = nm
    · exact ⟨_, .inl ⟨h, rfl⟩⟩
    · exact ⟨_, .inr ⟨h, rfl⟩⟩
  refine (hold_any F _ _ _ _ _ nm st rf ir rp owes _ ?_ (told_of (wbTT w3 rn tn f3 f6) _ HK.out.1 _ _ nm rf ir rp owes _ _ _ rfl rfl (by simp [hzs]) (ld_one _ _ rn nm hrn hnm f3 HK.out.2.1 ir rf hR) (lr_one _ _ tn nm htn hnm _ HK.out.2.2.2 rp hP)) _ _ _ _ _ _ _ _ _ _ _ _).mono ?_
  · exact hF
  rintro e w7 ⟨hH, hb7⟩
  have hball := ((((Below.refl _ (wbTT w3 rn tn f3 f6)).alloc (Nat.le_refl _) _).alloc (by simp) _).alloc (by simp; omega) _).trans (hb7.mono (by simp [wbTT] <;> omega))
  have hW7 : Below w3.heap.size w3 w7 := hbel.trans (hball.mono (by rw [HK.out.1]; omega))
  have hc83 : w7.cell? ⟨w3.heap.size + 1 + 1 + 1 + 1, 83, none⟩ = some (.int .i64 owes) := by
    have := hb7.block (w3.heap.size + 1 + 1 + 1 + 1) (by simp [wbTT] <;> omega)
    have h2 := this.trans (heap_third (wbTT w3 rn tn f3 f6) _ HK.out.1 _ _ _).2.1
    unfold World.cell?; dsimp only; rw [h2]; simp [hzs]
  have hn0 : w7.cell? ⟨w3.heap.size + 1, 0, none⟩ = some (.string tn) ∧ w7.cell? ⟨w3.heap.size + 1, 1, none⟩ = some (.bool f6) := by
    have := (hball.block (w3.heap.size + 1) (by rw [HK.out.1]; omega)).trans HK.out.2.2.1
    constructor <;> (unfold World.cell?; dsimp only; rw [this]; simp)
  obtain ⟨hn0, hn1⟩ := hn0
  have heq := eq29
  clear hb7 hball hmm hi1 hi2 hz84 hz83 hbel HK
  rcases hR with ⟨rfl, rfl, rfl⟩ | ⟨hne, rfl, rfl⟩
  · rcases hP with ⟨rfl, rfl⟩ | ⟨hnt, rfl⟩
    · rcases hH with ⟨_, h2, rfl⟩ | ⟨h2, _, rfl⟩ | ⟨_, h2, a, rfl⟩
      · rcases h2 with rfl | rfl
        all_goals
          go_wp2
          all_goals (go_ret; exact ⟨rfl, hW7⟩)
      · obtain ⟨ho, hr⟩ : ¬ owes = 0 ∧ ¬ rf = true := ⟨fun h => h2 ⟨rfl, .inl h⟩, fun h => h2 ⟨rfl, .inr h⟩⟩
        have ho' : (owes == 0) = false := by simpa using ho
        obtain rfl : rf = false := by simpa using hr
        clear h2 ho hr
        go_wp2
        all_goals (go_ret; exact ⟨rfl, hW7⟩)
      · cases h2
    · have htf := ne_bytes hnt
      rcases hH with ⟨_, h2, rfl⟩ | ⟨_, h2, rfl⟩ | ⟨h2, _, a, rfl⟩
      · rcases h2 with rfl | rfl
        all_goals
          go_wp2
          all_goals (go_ret; exact ⟨rfl, hW7⟩)
      · cases h2
      · obtain ⟨ho, hr⟩ : ¬ owes = 0 ∧ ¬ rf = true := ⟨fun h => h2 ⟨rfl, .inl h⟩, fun h => h2 ⟨rfl, .inr h⟩⟩
        have ho' : (owes == 0) = false := by simpa using ho
        obtain rfl : rf = false := by simpa using hr
        clear h2 ho hr
        go_wp2
        all_goals (go_ret; exact ⟨rfl, hW7⟩)
  · have hrf := ne_bytes hne
    rcases hP with ⟨rfl, rfl⟩ | ⟨hnt, rfl⟩
    · rcases hH with ⟨h2, _, rfl⟩ | ⟨_, _, rfl⟩ | ⟨_, h2, a, rfl⟩
      · cases h2
      · go_wp2
        all_goals (go_ret; exact ⟨rfl, hW7⟩)
      · cases h2
    · have htf := ne_bytes hnt
      rcases hH with ⟨h2, _, rfl⟩ | ⟨_, h2, rfl⟩ | ⟨_, _, a, rfl⟩
      · cases h2
      · cases h2
      · go_wp2
        all_goals (go_ret; exact ⟨rfl, hW7⟩)
end Go.Proofs.YbulkbpzeFmt
