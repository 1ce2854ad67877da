import Derived.Test.YbulkbqauHas
set_option linter.unusedVariables false
set_option linter.unusedSimpArgs false
namespace Go.Proofs.Ybulkbqau
open Go.RowKit
attribute [local go_sem ↓] ld37

/-- a slice of runs that came in -/
structure RunsAt (w : World) (a : Option Addr) (nr G off : Nat) (aI : Nat → Option Addr) (nI kI : Nat → Nat) (aL : Nat → Option Addr) (nL kL : Nat → Nat) (aM : Nat → Option Addr) (nM kM : Nat → Nat) (gI oI gL oL gM oM : Nat → Nat) (X : Nat → Nat → Int) (L : Nat → Nat → Bool) (M : Nat → Nat → Nat) : Prop where
  ha : 0 < nr → a = some ⟨G, off, none⟩
  c0 : ∀ j, j < nr → w.cell? ⟨G, off + j * 3, none⟩ = some (.slice (aI j) (nI j) (kI j))
  c1 : ∀ j, j < nr → w.cell? ⟨G, off + j * 3 + 1, none⟩ = some (.slice (aL j) (nL j) (kL j))
  c2 : ∀ j, j < nr → w.cell? ⟨G, off + j * 3 + 2, none⟩ = some (.slice (aM j) (nM j) (kM j))
  run : ∀ j, j < nr → RunAt w (aI j) (nI j) (aL j) (nL j) (aM j) (nM j) (gI j) (oI j) (gL j) (oL j) (gM j) (oM j) (X j) (L j) (M j)

theorem tri_new {w w0 : World} (hb : Below w.heap.size w w0) (s : Nat) : TriEx w (((w0.alloc (.cells #[.slice none 0 0, .int .i64 0, .int .i64 0, .bool false] 28)).alloc (.cells #[.slice none 0 0, .int .i64 0, .int .i64 0, .bool false] 28)).alloc (.cells #[.slice none 0 0, .int .i64 0, .int .i64 0, .bool false] 28)) w0.heap.size (w0.heap.size + 1) (w0.heap.size + 1 + 1) s 0 := by
  have hs := hb.size
  refine ⟨_, _, _, 0, 0, 0, _, _, _, Has.new ?_ hs, Has.new ?_ (by omega), Has.new ?_ (by omega), fun k h1 h2 => by omega, fun k h1 h2 => by omega, fun k h1 h2 => by omega, rfl, by omega, fun q o ho => ?_, fun _ => ⟨fun _ _ => rfl, rfl⟩, ((hb.alloc hs _).alloc (by simp; omega) _).alloc (by simp; omega) _⟩
  · rw [Deep.blk_alloc_lt _ _ _ (by simp; omega), Deep.blk_alloc_lt _ _ _ (by simp)]; exact Deep.blk_alloc_new _ _
  · rw [Deep.blk_alloc_lt _ _ _ (by simp)]
    have := Deep.blk_alloc_new (w0.alloc (.cells #[.slice none 0 0, .int .i64 0, .int .i64 0, .bool false] 28)) (.cells #[.slice none 0 0, .int .i64 0, .int .i64 0, .bool false] 28)
    simpa using this
  · have := Deep.blk_alloc_new ((w0.alloc (.cells #[.slice none 0 0, .int .i64 0, .int .i64 0, .bool false] 28)).alloc (.cells #[.slice none 0 0, .int .i64 0, .int .i64 0, .bool false] 28)) (.cells #[.slice none 0 0, .int .i64 0, .int .i64 0, .bool false] 28)
    simpa using this
  · exact (add_zero rng_zero o ho).symm

set_option maxRecDepth 20000 in
set_option maxHeartbeats 4000000 in
theorem split_walk (a : Option Addr) (nr kr G off : Nat) (aI : Nat → Option Addr) (nI kI : Nat → Nat) (aL : Nat → Option Addr) (nL kL : Nat → Nat) (aM : Nat → Option Addr) (nM kM : Nat → Nat) (gI oI gL oL gM oM : Nat → Nat) (X : Nat → Nat → Int) (L : Nat → Nat → Bool) (M : Nat → Nat → Nat)
    (sp : Nat) (hsp : sp < 65536) (w : World) (hw : RunsAt w a nr G off aI nI kI aL nL kL aM nM kM gI oI gL oL gM oM X L M) (hnr : nr ≤ 256) :
    Calls Yba.prog 4 #[.slice a nr kr, .int .u16 sp] w fun e w' => e = .returned (.bool true) ∧ Below w.heap.size w w' := by
  have hn1 : ¬ (256 : Int) < (nr : Int) := by omega
  go_enter Yba.func4, Yba.ntmps4
  go_wp2
  go_loopg [19] nr (fun m x wr => ∃ k : Nat, k ≤ nr ∧ m + k = nr ∧ x = .int .i64 k ∧ Below w.heap.size w wr ∧ ∀ j, j < k → nI j ≤ 3000)
  case atStart => exact ⟨0, by omega, by omega, rfl, Below.refl _ _, fun j hj => by omega⟩
  case round =>
    obtain ⟨k, hk1, hk2, rfl, hbe, hall⟩ := hrel
    by_cases hlt : k < nr
    · obtain rfl := hw.ha (by omega)
      have hGl : G < w.heap.size := World.block_lt_of_cell? _ _ (hw.c0 k hlt)
      have e0 := (hbe.cell (p := ⟨G, off + k * 3, none⟩) hGl).trans (hw.c0 k hlt)
      have e1 := (hbe.cell (p := ⟨G, off + k * 3 + 1, none⟩) hGl).trans (hw.c1 k hlt)
      have e2 := (hbe.cell (p := ⟨G, off + k * 3 + 2, none⟩) hGl).trans (hw.c2 k hlt)
      have HB := (show Hid _ from hbe)
      clear hbe
      by_cases hbig : 3000 < nI k
      · have hbig' : (3000 : Int) < (nI k : Int) := by omega
        go_wp2
        go_ret
        exact ⟨rfl, HB.out.alloc HB.out.size _⟩
      · have hbig' : ¬ (3000 : Int) < (nI k : Int) := by omega
        go_wp2
        go_roundg (gk - 1)
        case measure => omega
        case rel => exact ⟨k + 1, by omega, by omega, by go_num, HB.out.alloc HB.out.size _, fun j hj => by by_cases e : j = k; (subst e; omega); exact hall j (by omega)⟩
    · obtain rfl : nr = k := by omega
      obtain ⟨s, hs⟩ : ∃ s, s = sp % (nr + 1) := ⟨_, rfl⟩
      have hsE : (sp : Int) % ((nr : Int) + 1) = (s : Int) := by rw [hs]; push_cast; rfl
      clear hs
      have HB := (show Hid _ from hbe)
      clear hbe
      obtain ⟨w0, rfl⟩ : ∃ w0, w0 = wr := ⟨wr, rfl⟩
      go_wp2
      simp only [hsE]
      have hT := tri_new HB.out s
      generalize World.alloc (World.alloc (World.alloc w0 _) _) _ = w1 at hT ⊢
      generalize w0.heap.size = S1 at hT ⊢
      clear HB hsE hsp
      go_loopg [42] nr (fun m x wr => ∃ k : Nat, k ≤ nr ∧ m + k = nr ∧ x = .int .i64 k ∧ TriEx w wr S1 (S1 + 1) (S1 + 1 + 1) s k)
      case atStart => exact ⟨0, by omega, by omega, rfl, hT⟩
      case round =>
        obtain ⟨k, hk3, hk4, rfl, hTk⟩ := hrel
        clear hT
        by_cases hlt2 : k < nr
        · obtain ⟨T1, T2, T3, R1, R2, R3, F1, F2, F3, hT⟩ := hTk
          obtain rfl := hw.ha (by omega)
          have hGl : G < w.heap.size := World.block_lt_of_cell? _ _ (hw.c0 k hlt2)
          have e0 := (hT.below.cell (p := ⟨G, off + k * 3, none⟩) hGl).trans (hw.c0 k hlt2)
          have e1 := (hT.below.cell (p := ⟨G, off + k * 3 + 1, none⟩) hGl).trans (hw.c1 k hlt2)
          have e2 := (hT.below.cell (p := ⟨G, off + k * 3 + 2, none⟩) hGl).trans (hw.c2 k hlt2)
          have hrun := hw.run k hlt2
          have hBI : 0 < nI k → gI k < w.heap.size := fun h => World.block_lt_of_cell? _ _ (hrun.cI 0 h).1
          have hBL : 0 < nL k → gL k < w.heap.size := fun h => World.block_lt_of_cell? _ _ (hrun.cL 0 h)
          have hBM : 0 < nM k → gM k < w.heap.size := fun h => World.block_lt_of_cell? _ _ (hrun.cM 0 h).1
          have hn3 := hall k (by omega)
          have HT := (show Hid _ from hT)
          clear hT
          have hTB := HT.out.kept (wx := wr.alloc (.cells #[.slice (aI k) (nI k) (kI k), .slice (aL k) (nL k) (kL k), .slice (aM k) (nM k) (kM k)] 46)) ((Only.refl _ _).alloc _)
          have hvar := Deep.blk_alloc_new wr (.cells #[.slice (aI k) (nI k) (kI k), .slice (aL k) (nL k) (kL k), .slice (aM k) (nM k) (kM k)] 46)
          have hszb : wr.heap.size < (wr.alloc (.cells #[.slice (aI k) (nI k) (kI k), .slice (aL k) (nL k) (kL k), .slice (aM k) (nM k) (kM k)] 46)).heap.size := by simp
          have hF1 : ¬ F1 wr.heap.size := fun h => by have := HT.out.one.lt h; omega
          have HTB := (show Hid _ from hTB)
          clear hTB
          go_wp2_with fail
          refine (has_run w.heap.size S1 T1 R1 F1 (aI k) (nI k) (kI k) (aL k) (nL k) (kL k) (aM k) (nM k) (kM k) (gI k) (oI k) (gL k) (oL k) (gM k) (oM k) (X k) (L k) (M k) _ HTB.out.one (by have := HTB.out.le; omega) HTB.out.below.size (hrun.later HTB.out.below hBI hBL hBM) hBI hBL hBM hn3).mono ?_
          rintro e wx ⟨rfl, FX1, hx, ox, fx⟩
          have hvx := (ox.block _ hszb hF1).trans hvar
          have d0 : wx.cell? ⟨wr.heap.size, 0, none⟩ = some (.slice (aI k) (nI k) (kI k)) := by simp [World.cell?, hvx]
          have d1 : wx.cell? ⟨wr.heap.size, 1, none⟩ = some (.slice (aL k) (nL k) (kL k)) := by simp [World.cell?, hvx]
          have d2 : wx.cell? ⟨wr.heap.size, 2, none⟩ = some (.slice (aM k) (nM k) (kM k)) := by simp [World.cell?, hvx]
          have hbx : Below w.heap.size w wx := HTB.out.below.trans (ox.below (fun b hb => HTB.out.one.ge hb) HTB.out.below.size)
          have HX := (show Hid _ from hx)
          have OX := (show Hid _ from ox)
          have FX := (show Hid _ from fx)
          clear hx ox fx hvx hvar e0 e1 e2
          by_cases hks : k < s
          · have hks' : (k : Int) < (s : Int) := by omega
            go_wp2_with fail
            refine (has_run w.heap.size (S1 + 1) T2 R2 F2 (aI k) (nI k) (kI k) (aL k) (nL k) (kL k) (aM k) (nM k) (kM k) (gI k) (oI k) (gL k) (oL k) (gM k) (oM k) (X k) (L k) (M k) wx (HTB.out.two.kept OX.out (fun b h2 h1 => HTB.out.d12 b h1 h2)) (by have := HTB.out.rounds; have := HTB.out.le; omega) hbx.size (hrun.later hbx hBI hBL hBM) hBI hBL hBM hn3).mono ?_
            rintro e wy ⟨rfl, FY, hy, oy, fy⟩
            have hnew := tri_two HTB.out hks hn3 HX.out OX.out FX.out hy oy fy
            have HN := (show Hid _ from hnew)
            clear hy oy fy hnew
            go_wp2
            go_roundg (gk - 1)
            case measure => omega
            case rel => exact ⟨k + 1, by omega, by omega, by go_num, HN.out⟩
          · have hks' : ¬ (k : Int) < (s : Int) := by omega
            go_wp2_with fail
            refine (has_run w.heap.size (S1 + 1 + 1) T3 R3 F3 (aI k) (nI k) (kI k) (aL k) (nL k) (kL k) (aM k) (nM k) (kM k) (gI k) (oI k) (gL k) (oL k) (gM k) (oM k) (X k) (L k) (M k) wx (HTB.out.three.kept OX.out (fun b h2 h1 => HTB.out.d13 b h1 h2)) (by have := HTB.out.rounds; have := HTB.out.le; omega) hbx.size (hrun.later hbx hBI hBL hBM) hBI hBL hBM hn3).mono ?_
            rintro e wy ⟨rfl, FY, hy, oy, fy⟩
            have hnew := tri_three HTB.out hks hn3 HX.out OX.out FX.out hy oy fy
            have HN := (show Hid _ from hnew)
            clear hy oy fy hnew
            go_wp2
            go_roundg (gk - 1)
            case measure => omega
            case rel => exact ⟨k + 1, by omega, by omega, by go_num, HN.out⟩
        · obtain rfl : nr = k := by omega
          obtain ⟨T1, T2, T3, R1, R2, R3, F1, F2, F3, hT⟩ := hTk
          obtain ⟨aoA, nA, capA, BA, CA, infA, leftA, hA⟩ := hT.one
          obtain ⟨ao2, n2, cap2, B2, C2, inf2, left2, h2⟩ := hT.two
          obtain ⟨ao3, n3, cap3, B3, C3, inf3, left3, h3⟩ := hT.three
          have hlow2 := h2.low
          have htop2 := h2.top
          have hlow3 := h3.low
          have htop3 := h3.top
          have hlowA := hA.low
          have htopA := hA.top
          have hrr := hT.rounds
          have hle1 := hT.le
          have hbT := hT.below
          have hRA : ∀ k, k < nA → ∀ o, o < 7168 → mrgC (padC C2 n2) C3 n3 k o = CA k o := fun k hk o ho => by
            rw [mrg_eq h2.rng o ho, add_congr (fun o ho => h2.eq k o ho) (fun o ho => h3.eq k o ho) o ho, ← hT.eq k o ho, ← hA.eq k o ho]
            simp [padC, hk]
          have d12 : ∀ k, FP S1 aoA nA BA k → ¬ FP (S1 + 1) ao2 n2 B2 k := fun k h1 h2' => hT.d12 k ((hA.fp k).2 h1) ((h2.fp k).2 h2')
          have d23 : ∀ k, FP (S1 + 1) ao2 n2 B2 k → ¬ FP (S1 + 1 + 1) ao3 n3 B3 k := fun k h1 h2' => hT.d23 k ((h2.fp k).2 h1) ((h3.fp k).2 h2')
          have sA := hA.sums
          have s2 := h2.sums
          have s3 := h3.sums
          have g2 := h2.rng
          have g3 := h3.rng
          clear hT hA h2 h3 hall
          go_wp2_with fail
          refine (merge_any w.heap.size (S1 + 1) ao2 n2 cap2 B2 C2 R2 inf2 left2 (S1 + 1 + 1) ao3 n3 cap3 B3 C3 R3 inf3 left3 _ s2 s3 d23 (by omega) (by omega) (by omega) (by omega) hlow3 hbT.size g2 g3).mono ?_
          rintro e w5 ⟨rfl, ao5, n5, cap5, B5, hM, hle, hge, hor, hon, hfp⟩
          obtain rfl : nA = n5 := by omega
          rw [show max (R2 : Int) (R3 : Int) = (R1 : Int) by omega] at hM
          have hA5 := sA.kept hon (fun k h1 h2' => d12 k h1 h2')
          have hb5 : Below w.heap.size w w5 := hbT.trans (hon.below (fun k hk => s2.ge hk) hbT.size)
          obtain ⟨x0, x1, x2, x3⟩ := hA5.cell
          obtain ⟨v0, v1, v2, v3⟩ := hM.cell
          have HA5 := (show Hid _ from hA5)
          have HM := (show Hid _ from hM)
          have HB5 := (show Hid _ from hb5)
          have HRA := (show Hid _ from hRA)
          have hnA : nA ≤ 1000 := by omega
          clear hA5 hM hb5 hRA sA s2 s3 g2 g3 d12 d23 hbT hon hfp hrr hle hge hor hlow2 hlow3 hlowA htop2 htop3 htopA
          go_wp2_with fail
          go_quiet (fail)
          generalize hw6 : World.drewN _ nq = w6
          have hA6 : Sums w6 w.heap.size S1 aoA nA capA BA CA (R1 : Int) infA leftA := HA5.out.kept (R := fun _ => False) (by rw [← hw6]; exact ⟨rfl, rfl, rfl, Nat.le_refl _, fun _ _ _ => rfl⟩) (fun _ _ h => h)
          have hM6 := HM.out.kept (w' := w6) (R := fun _ => False) (by rw [← hw6]; exact ⟨rfl, rfl, rfl, Nat.le_refl _, fun _ _ _ => rfl⟩) (fun _ _ h => h)
          have hb6 : Below w.heap.size w w6 := by rw [← hw6]; exact ⟨HB5.out.os, HB5.out.tape, HB5.out.output, HB5.out.size, HB5.out.block⟩
          clear hw6 x0 x1 x2 x3 v0 v1 v2 v3 HA5 HM HB5
          obtain ⟨x0, x1, x2, x3⟩ := hA6.cell
          obtain ⟨v0, v1, v2, v3⟩ := hM6.cell
          have HA6 := (show Hid _ from hA6)
          have HM6 := (show Hid _ from hM6)
          have HB6 := (show Hid _ from hb6)
          clear hA6 hM6 hb6
          go_wp2
          go_loopg [90] nA (fun m x wr => ∃ k : Nat, k ≤ nA ∧ m + k = nA ∧ x = .int .i64 k ∧ Below w6.heap.size w6 wr)
          case atStart => exact ⟨0, by omega, by omega, rfl, Below.refl _ _⟩
          case round =>
            obtain ⟨k, hk5, hk6, rfl, hbe⟩ := hrel
            by_cases hlt3 : k < nA
            · have hA := HA6.out.below hbe (fun b hb => HA6.out.lt hb) (Nat.le_refl _)
              have hM := HM6.out.below hbe (fun b hb => HM6.out.lt hb) (Nat.le_refl _)
              obtain ⟨gA, rfl⟩ := owns_some hA.own (by omega)
              obtain ⟨gM', rfl⟩ := owns_some hM.own (by omega)
              have q0 := hA.cell.1
              have q1 := hA.ptr rfl hlt3
              have p0 := hM.cell.1
              have p1 := hM.ptr rfl hlt3
              have hra1 : wr.rangeAt (BA k) 0 (lst (CA k)) := by
                intro j v hv
                rw [Nat.zero_add, cell_of_row _ _ _ _ _ _ (hA.chunks k hlt3).blk]
                simpa using hv
              have hra2 : wr.rangeAt (B5 k) 0 (lst (CA k)) := by
                intro j v hv
                rw [Nat.zero_add, cell_of_row _ _ _ _ _ _ (hM.chunks k hlt3).blk, lst_congr (HRA.out k hlt3)]
                simpa using hv
              have hl1 : ∀ q, (loadChunk (.pointer (some ⟨BA k, 0, none⟩))).run Yba.prog (wr.drewN q) = .ok (.agg (lst (CA k)).toArray) (wr.drewN q) := fun q => loadChunk_at (w := wr.drewN q) (by exact hra1)
              have hl2 : ∀ q, (loadChunk (.pointer (some ⟨B5 k, 0, none⟩))).run Yba.prog (wr.drewN q) = .ok (.agg (lst (CA k)).toArray) (wr.drewN q) := fun q => loadChunk_at (w := wr.drewN q) (by exact hra2)
              have HBE := (show Hid _ from hbe)
              have hneq := fun w => neq37 (lst_isArr (CA k)) w
              have hg37 := guard37
              have hk0 : (0 : Int) ≤ (k : Int) := by omega
              have hk7 : (k : Int) < (nA : Int) := by omega
              clear hra1 hra2 hbe hA hM x0 x1 x2 x3 v0 v1 v2 v3
              go_wp2_with fail
              go_quiet (fail)
              go_wp2
              go_roundg (gk - 1)
              case measure => omega
              case rel => exact ⟨k + 1, by omega, by omega, by go_num, ⟨HBE.out.os, HBE.out.tape, HBE.out.output, HBE.out.size, HBE.out.block⟩⟩
            · have HBE := (show Hid _ from hbe)
              clear hbe
              go_wp2
              go_ret
              exact ⟨rfl, HB6.out.trans (HBE.out.mono HB6.out.size)⟩
end Go.Proofs.Ybulkbqau
