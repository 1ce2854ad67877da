import Derived.Test.YbulkbqauLoop3
import Derived.Test.YbulkbqauLoop4
set_option linter.unusedVariables false
set_option linter.unusedSimpArgs false
namespace Go.Proofs.Ybulkbqau
open Go.RowKit
attribute [local go_sem ↓] ld37

set_option maxRecDepth 20000 in
set_option maxHeartbeats 4000000 in
theorem sums_walk (ra rb : Nat) (hra : ra < 65536) (hrb : rb < 65536) (a1 : Option Addr) (l1 c1 : Nat) (G1 o1 : Nat) (P1 F1 V1 H1 : Nat → Nat) (a2 : Option Addr) (l2 c2 : Nat) (G2 o2 : Nat) (P2 F2 V2 H2 : Nat → Nat)
    (inf : Int) (left : Bool) (w : World) (h1 : StepsAt w a1 l1 G1 o1 P1 F1 V1 H1) (h2 : StepsAt w a2 l2 G2 o2 P2 F2 V2 H2) (hl1 : l1 ≤ 4096) (hl2 : l2 ≤ 4096) :
    Calls Yba.prog 3 #[.int .u16 ra, .int .u16 rb, .slice a1 l1 c1, .slice a2 l2 c2, .int .i64 inf, .bool left] w fun e w' => e = .returned (.bool true) ∧ Below w.heap.size w w' := by
  have hn1 : ¬ (4096 : Int) < (l1 : Int) := by omega
  have hn2 : ¬ (4096 : Int) < (l2 : Int) := by omega
  obtain ⟨z, hzc, hz⟩ := zero37
  go_enter Yba.func3, Yba.ntmps3
  go_wp2_with fail
  refine (build_at ra hra a1 l1 c1 h1 hl1).mono ?_
  rintro e w1 ⟨S, ao, n, cap, B, C, rfl, hS1, hC, hnA, hnB, hb1⟩
  have hR1 : ra % 3073 < 3073 := Nat.mod_lt _ (by omega)
  obtain ⟨x0, x1, x2, x3⟩ := hS1.cell
  have y2 := hS1.frozen 2
  have y3 := hS1.frozen 3
  have hs2 := hS1.fields inf left
  have hb2 := (hb1.setCell (p := ⟨S, 2, none⟩) hS1.hS (.int .i64 inf)).setCell (p := ⟨S, 3, none⟩) hS1.hS (.bool left)
  have h22 := h2.later hb2
  have HS1 := (show Hid _ from hS1)
  clear hS1
  go_wp2_with fail
  refine (build_at rb hrb a2 l2 c2 h22 hl2).mono ?_
  rintro e w3 ⟨S2, ao2, n2, cap2, B2, D, rfl, hS2, hD, hmA, hmB, hb3⟩
  have hR2 : rb % 3073 < 3073 := Nat.mod_lt _ (by omega)
  generalize hw2 : World.setCell (World.setCell w1 _ _) _ _ = w2 at *
  clear hw2
  have hSa : Sums w3 w.heap.size S ao n cap B C ((ra % 3073 : Nat) : Int) inf left := hs2.below hb3 (fun k hk => hs2.lt hk) (Nat.le_refl _)
  have hSb : Sums w3 w.heap.size S2 ao2 n2 cap2 B2 D ((rb % 3073 : Nat) : Int) 0 false := hS2.lower hb2.size
  have hdis : ∀ k, FP S ao n B k → ¬ FP S2 ao2 n2 B2 k := fun k hk hk2 => by have := hs2.lt hk; have := hS2.ge hk2; omega
  have hb4 : Below w.heap.size w w3 := hb2.trans (hb3.mono hb2.size)
  generalize hRa : ra % 3073 = Ra at *
  generalize hRb : rb % 3073 = Rb at *
  clear x0 x1 x2 x3 y2 y3 HS1 hs2 hS2 hb1 hb2 hb3 h1 h2 h22 hRa hRb
  obtain ⟨z1, hz1, hmk1⟩ := make37 n (by omega)
  obtain ⟨x0, x1, x2, x3⟩ := hSa.cell
  have hSl := hSa.lt (.inl rfl)
  have HA := (show Hid _ from hSa)
  have HB := (show Hid _ from hSb)
  have H4 := (show Hid _ from hb4)
  clear hSa hSb hb4
  go_wp2
  clear x0 x1 x2 x3 hmk1 hn1 hn2
  go_loopg [61] n (fun m x wr => ∃ k : Nat, k ≤ n ∧ m + k = n ∧ x = .int .i64 k ∧ Snap wr w3.heap.size n k C ∧ Below w3.heap.size w3 wr ∧ w3.heap.size < wr.heap.size)
  case atStart => exact ⟨0, by omega, rfl, rfl, Snap.made _ _ _ hz1 _, (Below.refl _ _).alloc (Nat.le_refl _) _, by simp⟩
  case round =>
    obtain ⟨k, hkn, hmk, rfl, hsn, hbe, hsz3⟩ := hrel
    by_cases hlt : k < n
    · have hA := HA.out.below hbe (fun b hb => HA.out.lt hb) (Nat.le_refl _)
      obtain ⟨g, rfl⟩ := owns_some hA.own (by omega)
      have hp := hA.ptr rfl hlt
      have hck := (hA.chunks k hlt).blk
      have hth := hsn.there k hlt
      have hkn' : (k : Int) < (n : Int) := by omega
      have hil := info_lst (C k)
      have hon := lst_one (C k)
      have hsz : (lst (C k)).toArray.size = 7168 := (lst_isArr (C k)).1
      have hSN := (show Hid _ from hsn)
      have hBE := (show Hid _ from hbe)
      clear hA hsn hbe
      go_wp2_with (first | (refine wpList_load_row rfl 37 _ rfl (B k) rfl 37 _ (0, 0) _ hck Yba.underlying37 rfl hil ?_) | (refine wpList_store_mid rfl 37 _ _ rfl w3.heap.size (k * 7168) (lst (C k)).toArray rfl rfl (by rw [hsz]; exact hth) hil hon ?_; generalize hwx : World.setCells _ _ _ _ = wx))
      go_roundg (gk - 1)
      case measure => omega
      case rel =>
        refine ⟨k + 1, by omega, by omega, by go_num, ?_, ?_, ?_⟩
        · rw [← hwx]; exact hSN.out.step hlt
        · rw [← hwx]; exact below_setCells hBE.out (Nat.le_refl _) _ _
        · rw [← hwx, (same_setCells _ _ _ _).2.2.2]; exact hsz3
    · obtain rfl : n = k := by omega
      obtain ⟨z2, hz2, hmk2⟩ := make37 n2 (by omega)
      obtain ⟨z3, hz3, hmk3⟩ := make30 n2 (by omega)
      have hB := HB.out.below hbe (fun b hb => HB.out.lt hb) (Nat.le_refl _)
      obtain ⟨v0, v1, v2, v3⟩ := hB.cell
      have hSl2 := hB.lt (.inl rfl)
      have HSN := (show Hid _ from hsn)
      have HBE := (show Hid _ from hbe)
      have hB' := (show Hid _ from hB)
      clear hsn hbe hB
      obtain ⟨w4, rfl⟩ : ∃ w4, w4 = wr := ⟨wr, rfl⟩
      go_wp2
      clear v0 v1 v2 v3 hmk2 hmk3
      rename_i K1 J1 K2 aJ1 aK1 K3 aK3 Kc2 aKc2
      clear aJ1 aK1 aK3
      go_loopg [90] n2 (fun m x wr => ∃ k : Nat, k ≤ n2 ∧ m + k = n2 ∧ x = .int .i64 k ∧ Snap wr w4.heap.size n2 k D ∧ PtrRow wr (w4.heap.size + 1) n2 k B2 ∧ Below w4.heap.size w4 wr ∧ w4.heap.size + 1 < wr.heap.size)
      case atStart =>
        refine ⟨0, by omega, rfl, rfl, (Snap.made _ _ _ hz2 _).kept (Deep.blk_alloc_lt _ _ _ (by simp)), ?_, ((Below.refl _ _).alloc (Nat.le_refl _) _).alloc (by simp) _, by simp⟩
        have := PtrRow.made (w4.alloc (.cells z2 37)) z3 n2 hz3 B2
        simpa using this
      case round =>
        obtain ⟨k, hkn2, hmkb, rfl, hsn, hpr, hbe, hsz4⟩ := hrel
        by_cases hlt2 : k < n2
        · have hB := hB'.out.below hbe (fun b hb => hB'.out.lt hb) (Nat.le_refl _)
          obtain ⟨g, rfl⟩ := owns_some hB.own (by omega)
          have hp := hB.ptr rfl hlt2
          have hck := (hB.chunks k hlt2).blk
          have hth := hsn.there k hlt2
          have hkn' : (k : Int) < (n2 : Int) := by omega
          have hil := info_lst (D k)
          have hon := lst_one (D k)
          have hsz : (lst (D k)).toArray.size = 7168 := (lst_isArr (D k)).1
          have hfact : ∀ wx, wr.setCells w4.heap.size (k * 7168) (lst (D k)).toArray.toList = wx → ∃ pv, wx.cell? ⟨w4.heap.size + 1, k, none⟩ = some pv ∧ wx.frozen? ⟨w4.heap.size + 1, k, none⟩ = false := by
            rintro wx rfl
            have h3 := (hpr.kept (w' := wr.setCells w4.heap.size (k * 7168) (lst (D k)).toArray.toList) (blk_setCells _ _ _ _ _ (by omega))).there k hlt2
            obtain ⟨u, hu⟩ := Option.isSome_iff_exists.1 h3.1
            exact ⟨u, hu, h3.2⟩
          have hSN := (show Hid _ from hsn)
          have hPR := (show Hid _ from hpr)
          have hBE := (show Hid _ from hbe)
          clear hB hsn hbe hpr
          go_wp2_with (first | (refine wpList_load_row rfl 37 _ rfl (B2 k) rfl 37 _ (0, 0) _ hck Yba.underlying37 rfl hil ?_) | (refine wpList_store_mid rfl 37 _ _ rfl w4.heap.size (k * 7168) (lst (D k)).toArray rfl rfl (by rw [hsz]; exact hth) hil hon ?_; generalize hwx : World.setCells _ _ _ _ = wx; obtain ⟨pv, hpv, hpf⟩ := hfact wx hwx; clear hfact))
          go_roundg (gk - 1)
          case measure => omega
          case rel =>
            have hX := hSN.out.step hlt2
            refine ⟨k + 1, by omega, by omega, by go_num, ?_, ?_, ?_, ?_⟩
            · exact (hX.kept (w' := wx) (by rw [← hwx])).kept (Deep.blk_setCell_other _ _ _ _ (by show w4.heap.size ≠ w4.heap.size + 1; omega))
            · exact (hPR.out.kept (w' := wx) (by rw [← hwx]; exact blk_setCells _ _ _ _ _ (by omega))).step hlt2
            · rw [← hwx]; exact (below_setCells hBE.out (Nat.le_refl _) _ _).setCell (by show w4.heap.size ≤ w4.heap.size + 1; omega) _
            · have := (same_setCells w4.heap.size (lst (D k)).toArray.toList (k * 7168) wr).2.2.2
              rw [hwx] at this
              simp only [World.setCell, Array.size_modify]
              omega
        · obtain rfl : n2 = k := by omega
          have hA := (HA.out.below HBE.out (fun b hb => HA.out.lt hb) (Nat.le_refl _)).below hbe (fun b hb => Nat.lt_of_lt_of_le (HA.out.lt hb) HBE.out.size) (Nat.le_refl _)
          have hB := hB'.out.below hbe (fun b hb => hB'.out.lt hb) (Nat.le_refl _)
          have hsnA := HSN.out.kept (hbe.block _ hsz3)
          have hsnB := hsn
          have hbe5 : Below w.heap.size w wr := (H4.out.trans (HBE.out.mono H4.out.size)).trans (hbe.mono (Nat.le_trans H4.out.size HBE.out.size))
          have hFA : ∀ b, FP S ao n B b → b < w3.heap.size := fun b hb => HA.out.lt hb
          have hFB : ∀ b, FP S2 ao2 n2 B2 b → b < w3.heap.size := fun b hb => HB.out.lt hb
          have hw4s : w3.heap.size < w4.heap.size := hsz3
          clear HBE HSN hB' HA HB H4 hbe hsn
          obtain ⟨x0, x1, x2, x3⟩ := hA.cell
          obtain ⟨v0, v1, v2, v3⟩ := hB.cell
          go_wp2_with fail
          go_quiet (fail)
          generalize hw6 : World.drewN _ nq = w6
          have hA6 : Sums w6 w.heap.size S ao n cap B C (Ra : Int) inf left := hA.kept (R := fun _ => False) (by rw [← hw6]; exact ⟨rfl, rfl, rfl, Nat.le_refl _, fun _ _ _ => rfl⟩) (fun _ _ h => h)
          have hB6 : Sums w6 w.heap.size S2 ao2 n2 cap2 B2 D (Rb : Int) 0 false := hB.kept (R := fun _ => False) (by rw [← hw6]; exact ⟨rfl, rfl, rfl, Nat.le_refl _, fun _ _ _ => rfl⟩) (fun _ _ h => h)
          have hsnA6 : Snap w6 w3.heap.size n n C := hsnA.kept (by rw [← hw6]; rfl)
          have hsnB6 : Snap w6 w4.heap.size n2 n2 D := hsnB.kept (by rw [← hw6]; rfl)
          have hpr6 : PtrRow w6 (w4.heap.size + 1) n2 n2 B2 := hpr.kept (by rw [← hw6]; rfl)
          have hbe6 : Below w.heap.size w w6 := by rw [← hw6]; exact ⟨hbe5.os, hbe5.tape, hbe5.output, hbe5.size, hbe5.block⟩
          have hsz6 : w4.heap.size + 1 < w6.heap.size := by rw [← hw6]; exact hsz4
          clear hA hB hsnA hsnB hpr hbe5 hw6 x0 x1 x2 x3 v0 v1 v2 v3 hsz4
          go_wp2_with fail
          refine (merge_any w.heap.size S ao n cap B C Ra inf left S2 ao2 n2 cap2 B2 D Rb 0 false w6 hA6 hB6 hdis (by omega) (by omega) (by omega) (by omega) hmB hbe6.size hC hD).mono ?_
          rintro e w7 ⟨rfl, ao', n', cap', B', hM, hle, hge, hor, hon, hfp⟩
          have hn' : n' = max n n2 := by omega
          obtain ⟨MR, hMR⟩ : ∃ MR : Nat, MR = max Ra Rb := ⟨_, rfl⟩
          rw [show max (Ra : Int) (Rb : Int) = (MR : Int) by omega] at hM
          have hsnA : Snap w7 w3.heap.size n n C := hsnA6.kept (hon.block _ (by omega) (fun h => by have := hFA _ h; omega))
          have hsnB : Snap w7 w4.heap.size n2 n2 D := hsnB6.kept (hon.block _ (by omega) (fun h => by have := hFA _ h; omega))
          have hpr : PtrRow w7 (w4.heap.size + 1) n2 n2 B2 := hpr6.kept (hon.block _ (by omega) (fun h => by have := hFA _ h; omega))
          have hB7 : Sums w7 w.heap.size S2 ao2 n2 cap2 B2 D (Rb : Int) 0 false := hB6.kept hon (fun k hk hk2 => hdis k hk2 hk)
          have hbe7 : Below w.heap.size w w7 := hbe6.trans (hon.below (fun k hk => hA6.ge hk) hbe6.size)
          have hsz7 : w4.heap.size + 1 < w7.heap.size := Nat.lt_of_lt_of_le hsz6 hon.size
          have hif1 : (if (Ra : Int) < (Rb : Int) then (Rb : Int) else (Ra : Int)) = (MR : Int) := by split <;> omega
          have hif2 : (if (n : Int) < (n2 : Int) then (n2 : Int) else (n : Int)) = (n' : Int) := by split <;> omega
          have hif3 : (if Ra < Rb then (Rb : Int) else (Ra : Int)) = (MR : Int) := by split <;> omega
          have hif4 : (if n < n2 then (n2 : Int) else (n : Int)) = (n' : Int) := by split <;> omega
          have HN' := (show Hid _ from hn')
          clear hn' hMR
          obtain ⟨x0, x1, x2, x3⟩ := hM.cell
          obtain ⟨v0, v1, v2, v3⟩ := hB7.cell
          clear hA6 hB6 hsnA6 hsnB6 hpr6 hbe6 hsz6 hon
          have HM := (show Hid _ from hM)
          have HB7 := (show Hid _ from hB7)
          clear hM hB7
          go_wp2
          have hn9 : n' ≤ 1000 := by have := HN'.out; omega
          refine loop3 _ _ _ _ _ _ _ _ _ _ _ _ _ _ _ _ _ _ _ _ _ _ _ _ _ _ _ _ _ _ _ _ _ _ _ _ _ _ _ _ _ _ _ _ _ _ _ _ _ _ _ _ _ _ _ _ _ _ _ _ _ _ _ _ _ _ _ _ _ _ _ _ _ _ _ _ _ _ _ _ _ _ _ _ _ _ _ _ _ _ _ _ _ _ _ _ _ _ _ _ _ _ _ _ _ _ _ _ _ _ _ _ _ _ _ _ _ _ _ _ _ _ _ _ _ _ _ _ _ _ _ _ _ _ _ _ _ _ _ _ _ _ _ _ _ _ _ _ _ _ _ _ _ _ _ _ _ _ _ _ _ _ _ _ _ _ _ _ _ _ _ _ _ _ _ _ _ _ _ _ _ _ _ _ _ _ _ _ _ _ _ _ _ _ _ _ _ _ _ _ _ _ _ _ _ _ _ _ _ _ _ _ _ _ _ _ _ _ _ _ _ _ _ _ _ _ _ _ _ _ _ _ _ _ _ _ _ _  w.heap.size S w3.heap.size w4.heap.size n n2 n' cap' ao' B' C D MR inf left w7 HM.out hsnA hsnB hC hD (by omega) (by omega) HN'.out hn9 _ _ ?_
          intro v12 v24 v25 v26 v160 v161 v162 v163 v164 v165 v166 v167 v168 v169 v170 v171 v172 v173 v174 v175 v176 v177 v178 v179 v180 v181 v182 v183 v184 v185 v186 v187 v188 v189 w8 hbe8
          rename_i Kc3 aKc3
          refine aKc3 _ _ ?_
          have hB := HB7.out.below hbe8 (fun b hb => HB7.out.lt hb) (Nat.le_refl _)
          have hlb8 : w4.heap.size + 1 < w8.heap.size := Nat.lt_of_lt_of_le hsz7 hbe8.size
          have hsnB8 := hsnB.kept (hbe8.block _ (by omega))
          have hpr8 := hpr.kept (hbe8.block _ (by omega))
          have hbe9 : Below w.heap.size w w8 := hbe7.trans (hbe8.mono hbe7.size)
          obtain ⟨v0, v1, v2, v3⟩ := hB.cell
          have hBH := (show Hid _ from hB)
          clear hB hbe8 hbe7 HB7 HM hsnA hsnB hpr x0 x1 x2 x3 aKc3
          go_wp2
          refine loop4 _ _ _ _ _ _ _ _ _ _ _ _ _ _ _ _ _ _ _ _ _ _ _ _ _ _ _ _ _ _ _ _ _ _ _ _ _ _ _ _ _ _ _ _ _ _ _ _ _ _ _ _ _ _ _ _ _ _ _ _ _ _ _ _ _ _ _ _ _ _ _ _ _ _ _ _ _ _ _ _ _ _ _ _ _ _ _ _ _ _ _ _ _ _ _ _ _ _ _ _ _ _ _ _ _ _ _ _ _ _ _ _ _ _ _ _ _ _ _ _ _ _ _ _ _ _ _ _ _ _ _ _ _ _ _ _ _ _ _ _ _ _ _ _ _ _ _ _ _ _ _ _ _ _ _ _ _ _ _ _ _ _ _ _ _ _ _ _ _ _ _ _ _ _ _ _ _ _ _ _ _ _ _ _ _ _ _ _ _ _ _ _ _ _ _ _ _ _ _ _ _ _ _ _ _ _ _ _ _ _ _ _ _ _ _ _ _ _ _ _ _ _ _ _ _ _ _ _ _ _ _ _ _ _ _ _ _ _  w.heap.size S2 w4.heap.size n2 cap2 ao2 B2 D Rb w8 hBH.out hsnB8 hpr8 hlb8 (by omega) _ _ ?_
          intro x12 x27 x212 x213 x214 x215 x216 x217 x218 x219 x220 x221 x222 x223 x224 x225 x226 x227 x228 x229 x230 x231 x232 x233 x234 x235 x236 x237 x238 x239 x240 x241 x242 w9 hb9
          rename_i Kc4 aKc4
          refine aKc4 _ _ ?_
          clear aKc4
          go_wp2
          go_ret
          exact ⟨rfl, hbe9.trans (hb9.mono hbe9.size)⟩
end Go.Proofs.Ybulkbqau
