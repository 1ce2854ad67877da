import Derived.Test.YbulkbqauAddC
import Derived.Deep.DeepCutAuto
set_option linter.unusedVariables false
set_option linter.unusedSimpArgs false
namespace Go.Proofs.Ybulkbqau
open Go.RowKit

/-- the chunks behind a merge's first k rounds -/
def mrgC (C D : Nat → Nat → Int) (k : Nat) : Nat → Nat → Int := fun j => if j < k then addC (C j) (D j) else C j

structure MergeInv (w wr : World) (base S : Nat) (ao : Option Addr) (n cap : Nat) (B : Nat → Nat) (C D : Nat → Nat → Int) (rounds inf : Int) (left : Bool) (k : Nat) : Prop where
  sums : Sums wr base S ao n cap B (mrgC C D k) rounds inf left
  only : Only w wr (fun b => ∃ j, j < n ∧ b = B j)

theorem mrg_zero (C D : Nat → Nat → Int) : mrgC C D 0 = C := by funext j; simp [mrgC]
theorem mrg_at (C D : Nat → Nat → Int) (k : Nat) : mrgC C D k k = C k := by simp [mrgC]

theorem merge_start {w : World} {base S : Nat} {ao : Option Addr} {n cap : Nat} {B : Nat → Nat} {C D : Nat → Nat → Int} {rounds inf : Int} {left : Bool}
    (h : Sums w base S ao n cap B C rounds inf left) : MergeInv w w base S ao n cap B C D rounds inf left 0 := ⟨by rw [mrg_zero]; exact h, Only.refl _ _⟩

theorem merge_step {w w2 wr : World} {base S : Nat} {ao : Option Addr} {n cap : Nat} {B : Nat → Nat} {C D : Nat → Nat → Int} {rounds inf : Int} {left : Bool} {k : Nat}
    (h : MergeInv w w2 base S ao n cap B C D rounds inf left k) (hk : k < n) (hc : Ch wr (B k) (mixC 1024 (C k) (D k) (C k))) (ho : Only w2 wr (fun b => b = B k)) :
    MergeInv w wr base S ao n cap B C D rounds inf left (k + 1) where
  sums := by
    have hs := h.sums
    refine ⟨(ho.block S (hs.lt (.inl rfl)) (fun e => hs.apart_S.1 k hk e.symm)).trans hs.obj, ?_, fun j hj => ?_, hs.inj, hs.hS, hs.hB⟩
    · obtain ⟨h1, h2⟩ := hs.own
      refine ⟨h1, ?_⟩
      rcases h2 with h2 | ⟨g, cp, cur, hv, hb, hgg, r⟩
      · exact .inl h2
      · refine .inr ⟨g, cp, cur, hv, hb, ?_, r⟩
        have hne : ao.map (·.block) = some g := by simp only [Value.slice.injEq] at hv; rw [hv.1]; rfl
        rw [ho.block g (hs.lt (.inr (.inl hne))) (fun e => hs.apart_row hk (by rw [hne, e]))]
        exact hgg
    · by_cases e : j = k
      · subst e
        have : mrgC C D (j + 1) j = addC (C j) (D j) := by simp [mrgC]
        rw [this]
        exact hc.congr (mix_full _ _ _)
      · have : mrgC C D (k + 1) j = mrgC C D k j := by
          unfold mrgC
          by_cases h1 : j < k
          · rw [if_pos h1, if_pos (by omega)]
          · rw [if_neg h1, if_neg (by omega)]
        rw [this]
        exact ho.ch (hs.chunks j hj) (fun e' => e (hs.inj j k hj hk e'))
  only := h.only.trans ho (fun b _ e => ⟨k, hk, e⟩)

/-- what merge leaves: the receiver's blocks, its chunks the sums -/
def MergePost (w w' : World) (base S : Nat) (ao : Option Addr) (n : Nat) (B : Nat → Nat) (C : Nat → Nat → Int) (ra : Nat) (inf : Int) (left : Bool) (n2 : Nat) (D : Nat → Nat → Int) (rb : Nat) : Prop :=
  ∃ ao' n' cap' B', Sums w' base S ao' n' cap' B' (mrgC (padC C n) D n2) (max (ra : Int) rb) inf left ∧ n ≤ n' ∧ rb ≤ n' * 1024 ∧ (n' = n ∨ (n' - 1) * 1024 < rb) ∧ Only w w' (FP S ao n B) ∧
    (∀ k, FP S ao' n' B' k → FP S ao n B k ∨ w.heap.size ≤ k)

theorem rng_pad {C : Nat → Nat → Int} {n : Nat} (h : ∀ j, j < n → Rng (C j)) (k : Nat) : Rng (padC C n k) := by
  unfold padC
  by_cases e : k < n
  · rw [if_pos e]; exact h k e
  · rw [if_neg e]; exact rng_zero

set_option maxRecDepth 20000 in
set_option maxHeartbeats 2000000 in
theorem merge_any (base S : Nat) (ao : Option Addr) (n cap : Nat) (B : Nat → Nat) (C : Nat → Nat → Int) (ra : Nat) (inf : Int) (left : Bool)
    (S2 : Nat) (ao2 : Option Addr) (n2 cap2 : Nat) (B2 : Nat → Nat) (D : Nat → Nat → Int) (rb : Nat) (inf2 : Int) (left2 : Bool) (w : World)
    (hA : Sums w base S ao n cap B C ra inf left) (hB : Sums w base S2 ao2 n2 cap2 B2 D rb inf2 left2) (hd : ∀ k, FP S ao n B k → ¬ FP S2 ao2 n2 B2 k)
    (hrb : rb ≤ 1000000) (hra : ra ≤ 1000000) (hn : n ≤ 1000000) (hn2 : n2 ≤ 1000000) (hb1 : n2 = 0 ∨ (n2 - 1) * 1024 < rb) (hbase : base ≤ w.heap.size)
    (hC : ∀ j, j < n → Rng (C j)) (hD : ∀ j, j < n2 → Rng (D j)) :
    Calls Yba.prog 6 #[.pointer (some ⟨S, 0, none⟩), .pointer (some ⟨S2, 0, none⟩)] w fun e w' => e = .returned (.tuple #[]) ∧ MergePost w w' base S ao n B C ra inf left n2 D rb := by
  obtain ⟨c0, c1, c2, c3⟩ := hB.cell
  go_enter Yba.func6, Yba.ntmps6
  go_wp2_with fail
  refine (grow_any base S ao n cap B C ra inf left rb w hA hrb hn (by omega) (by omega) hbase).mono ?_
  rintro e w1 ⟨rfl, ao1, n1, cap1, B1, hG, hg1, hg2⟩
  have hB1 : Sums w1 base S2 ao2 n2 cap2 B2 D rb inf2 left2 := hB.kept hG.only (fun k hk hk' => hd k hk' hk)
  obtain ⟨d0, d1, d2, d3⟩ := hB1.cell
  clear c0 c1 c2 c3
  have hn21 : n2 ≤ n1 := by omega
  have hdis : ∀ k, FP S2 ao2 n2 B2 k → ¬ ∃ j, j < n1 ∧ k = B1 j := fun k hk ⟨j, hj, e⟩ => by
    rcases hG.fp (.inr (.inr ⟨j, hj, e⟩)) with h | h
    · exact hd k h hk
    · have := hB.lt hk; omega
  go_wp2
  go_loopg [19] n2 (fun m i wr => ∃ k : Nat, k ≤ n2 ∧ m + k = n2 ∧ i = .int .i64 k ∧ MergeInv w1 wr base S ao1 n1 cap1 B1 (padC C n) D (max (ra : Int) rb) inf left k)
  case atStart => exact ⟨0, by omega, rfl, rfl, merge_start hG.sums⟩
  case round =>
    obtain ⟨k, hk, hmk, rfl, hI⟩ := hrel
    by_cases hlt : k < n2
    · obtain ⟨g, rfl⟩ := owns_some hI.sums.own (by omega)
      obtain ⟨g2, rfl⟩ := owns_some hB1.own (by omega)
      have hB2 : Sums wr base S2 (some ⟨g2, 0, none⟩) n2 cap2 B2 D rb inf2 left2 := hB1.kept hI.only hdis
      obtain ⟨c0, c1, c2, c3⟩ := hI.sums.cell
      obtain ⟨d0, d1, d2, d3⟩ := hB2.cell
      have hp2 := hB2.ptr rfl hlt
      have hp := hI.sums.ptr rfl (j := k) (by omega)
      have hk1 : (k : Int) < (n1 : Int) := by omega
      go_wp2
      have hT : Ch wr (B1 k) (padC C n k) := by have := hI.sums.chunks k (by omega); rwa [mrg_at] at this
      have hF := hB2.chunks k hlt
      have hTF : B1 k ≠ B2 k := fun e => hdis (B2 k) (.inr (.inr ⟨k, hlt, rfl⟩)) ⟨k, by omega, e.symm⟩
      obtain ⟨w2, rfl⟩ : ∃ w2, w2 = wr := ⟨wr, rfl⟩
      go_loopg [31] 1024 (fun m x wr => ∃ i : Nat, i ≤ 1024 ∧ m + i = 1024 ∧ x = .int .i64 i ∧ Ch wr (B1 k) (mixC i (padC C n k) (D k) (padC C n k)) ∧ Only w2 wr (fun b => b = B1 k))
      case atStart => exact ⟨0, by omega, rfl, rfl, hT.congr (fun o ho => (mix_zero _ _ _ o ho).symm), Only.refl _ _⟩
      case round =>
        obtain ⟨i, hi, hmi, rfl, hCi, hOi⟩ := hrel
        have hFi : Ch wr (B2 k) (D k) := hOi.ch hF (fun e => hTF e.symm)
        by_cases hil : i < 1024
        · have hRc : Rng (padC C n k) := rng_pad hC k
          have hRd : Rng (D k) := hD k hlt
          have q0 : mixC i (padC C n k) (D k) (padC C n k) i = padC C n k i := by simpa using mixC_at (e := padC C n k) hil 0
          have q1 : mixC i (padC C n k) (D k) (padC C n k) (1024 + i) = padC C n k (1024 + i) := by simpa using mixC_at (e := padC C n k) hil 1
          have q2 : mixC i (padC C n k) (D k) (padC C n k) (2048 + i) = padC C n k (2048 + i) := by simpa using mixC_at (e := padC C n k) hil 2
          have q3 : mixC i (padC C n k) (D k) (padC C n k) (3072 + i) = padC C n k (3072 + i) := by simpa using mixC_at (e := padC C n k) hil 3
          have q4 : mixC i (padC C n k) (D k) (padC C n k) (4096 + i) = padC C n k (4096 + i) := by simpa using mixC_at (e := padC C n k) hil 4
          have q5 : mixC i (padC C n k) (D k) (padC C n k) (5120 + i) = padC C n k (5120 + i) := by simpa using mixC_at (e := padC C n k) hil 5
          have q6 : mixC i (padC C n k) (D k) (padC C n k) (6144 + i) = padC C n k (6144 + i) := by simpa using mixC_at (e := padC C n k) hil 6
          have Q : Hid (_ ∧ _ ∧ _ ∧ _ ∧ _ ∧ _ ∧ _) := ⟨q0, q1, q2, q3, q4, q5, q6⟩
          clear q0 q1 q2 q3 q4 q5 q6
          generalize hm0 : mixC i (padC C n k) (D k) (padC C n k) = m0 at *
          generalize hcc : padC C n k = c at *
          generalize hdd : D k = d at *
          have HM : Hid (mixC i c d c = m0) := hm0
          clear hm0 hcc hdd
          have t0 := hCi.u64 (o := i) (by omega)
          have s0 := hFi.u64 (o := i) (by omega)
          have z0 := hCi.frozen i
          rw [Q.out.1] at t0
          go_wp2
          go_cut [] (fun wx => Ch wx (B1 k) (upd m0 i (lo64 (c i) (d i))) ∧ Ch wx (B2 k) d ∧ Only w2 wx (fun b => b = B1 k))
          case first =>
            go_region
            go_wp2_with fail
            go_meet
            case rel =>
              rw [wrap_lo]
              exact ⟨hCi.set (by omega) (kd_u64 (by omega)) _, hFi.other (by exact fun e => hTF e.symm) _, (hOi.setCell (.inl rfl) _).drew⟩
          case rest =>
            obtain ⟨hC8, hF8, hO8⟩ := hcut
            clear hCi hFi hOi t0 s0 z0
            have t1 := hC8.u64 (o := 1024 + i) (by omega)
            have t4 := hC8.u32 (o := 4096 + i) (by omega) (by omega)
            have s1 := hF8.u64 (o := 1024 + i) (by omega)
            have s4 := hF8.u32 (o := 4096 + i) (by omega) (by omega)
            have z1 := hC8.frozen (1024 + i)
            have z4 := hC8.frozen (4096 + i)
            rw [show upd m0 i (lo64 (c i) (d i)) (1024 + i) = c (1024 + i) by unfold upd; rw [if_neg (by omega)]; exact Q.out.2.1] at t1
            rw [show upd m0 i (lo64 (c i) (d i)) (4096 + i) = c (4096 + i) by unfold upd; rw [if_neg (by omega)]; exact Q.out.2.2.2.2.1] at t4
            have bc1 := (hRc (1024 + i) (by omega)).1 (by omega)
            have bd1 := (hRd (1024 + i) (by omega)).1 (by omega)
            have bc4 := (hRc (4096 + i) (by omega)).2.1 (by omega) (by omega)
            have bd4 := (hRd (4096 + i) (by omega)).2.1 (by omega) (by omega)
            go_wp2_with fail
            go_cut [] (fun wx => Ch wx (B1 k) (upd (upd (upd m0 i (lo64 (c i) (d i))) (1024 + i) (lo64 (c (1024 + i)) (d (1024 + i)))) (4096 + i) (hi32 (c (4096 + i)) (d (4096 + i)) (cy64 (c (1024 + i)) (d (1024 + i))))) ∧ Ch wx (B2 k) d ∧ Only w2 wx (fun b => b = B1 k))
            case first =>
              go_region_with (go_at_call 10; refine (addWide_any (B1 k) (1024 + i) (4096 + i) (c (1024 + i)) (c (4096 + i)) (d (1024 + i)) (d (4096 + i)) _ bc1.1 bc1.2 bd1.1 bd1.2 bc4.1 bc4.2 bd4.1 bd4.2 (by omega) (by exact t1) (by exact t4) (by exact z1) (by exact z4)).mono ?_; rintro e w' ⟨rfl, rfl⟩)
              all_goals (try go_wp2_with fail)
              all_goals go_meet
              all_goals exact ⟨(hC8.set (by omega) (kd_u64 (by omega)) _).set (by omega) (kd_u32 (by omega) (by omega)) _, (hF8.other (by exact fun e => hTF e.symm) _).other (by exact fun e => hTF e.symm) _, ((hO8.setCell (.inl rfl) _).setCell (.inl rfl) _).drew⟩
            case rest =>
              obtain ⟨hC9, hF9, hO9⟩ := hcut
              clear hC8 hF8 hO8 t1 t4 s1 s4 z1 z4
              generalize hm1 : upd (upd (upd m0 i (lo64 (c i) (d i))) (1024 + i) (lo64 (c (1024 + i)) (d (1024 + i)))) (4096 + i) (hi32 (c (4096 + i)) (d (4096 + i)) (cy64 (c (1024 + i)) (d (1024 + i)))) = m1 at *
              have HM1 : Hid (upd (upd (upd m0 i (lo64 (c i) (d i))) (1024 + i) (lo64 (c (1024 + i)) (d (1024 + i)))) (4096 + i) (hi32 (c (4096 + i)) (d (4096 + i)) (cy64 (c (1024 + i)) (d (1024 + i)))) = m1) := hm1
              clear hm1
              have t6 := hC9.i64 (o := 6144 + i) (by omega) (by omega)
              have s6 := hF9.i64 (o := 6144 + i) (by omega) (by omega)
              have z6 := hC9.frozen (6144 + i)
              rw [show m1 (6144 + i) = c (6144 + i) by rw [← HM1.out]; unfold upd; rw [if_neg (by omega), if_neg (by omega), if_neg (by omega)]; exact Q.out.2.2.2.2.2.2] at t6
              go_wp2_with fail
              go_cut [] (fun wx => Ch wx (B1 k) (upd m1 (6144 + i) (sum64 (c (6144 + i)) (d (6144 + i)))) ∧ Ch wx (B2 k) d ∧ Only w2 wx (fun b => b = B1 k))
              case first =>
                go_region
                go_wp2_with fail
                go_meet
                case rel => exact ⟨hC9.set (by omega) (kd_i64 (by omega)) _, hF9.other (by exact fun e => hTF e.symm) _, (hO9.setCell (.inl rfl) _).drew⟩
              case rest =>
                obtain ⟨hC10, hF10, hO10⟩ := hcut
                clear hC9 hF9 hO9 t6 s6 z6
                have t2 := hC10.u64 (o := 2048 + i) (by omega)
                have s2 := hF10.u64 (o := 2048 + i) (by omega)
                have z2 := hC10.frozen (2048 + i)
                rw [show upd m1 (6144 + i) (sum64 (c (6144 + i)) (d (6144 + i))) (2048 + i) = c (2048 + i) by rw [← HM1.out]; unfold upd; rw [if_neg (by omega), if_neg (by omega), if_neg (by omega), if_neg (by omega)]; exact Q.out.2.2.1] at t2
                go_wp2_with fail
                go_cut [] (fun wx => Ch wx (B1 k) (upd (upd m1 (6144 + i) (sum64 (c (6144 + i)) (d (6144 + i)))) (2048 + i) (lo64 (c (2048 + i)) (d (2048 + i)))) ∧ Ch wx (B2 k) d ∧ Only w2 wx (fun b => b = B1 k))
                case first =>
                  go_region
                  go_wp2_with fail
                  go_meet
                  case rel =>
                    rw [wrap_lo]
                    exact ⟨hC10.set (by omega) (kd_u64 (by omega)) _, hF10.other (by exact fun e => hTF e.symm) _, (hO10.setCell (.inl rfl) _).drew⟩
                case rest =>
                  obtain ⟨hC11, hF11, hO11⟩ := hcut
                  clear hC10 hF10 hO10 t2 s2 z2
                  have t3 := hC11.u64 (o := 3072 + i) (by omega)
                  have t5 := hC11.u32 (o := 5120 + i) (by omega) (by omega)
                  have s3 := hF11.u64 (o := 3072 + i) (by omega)
                  have s5 := hF11.u32 (o := 5120 + i) (by omega) (by omega)
                  have z3 := hC11.frozen (3072 + i)
                  have z5 := hC11.frozen (5120 + i)
                  rw [show upd (upd m1 (6144 + i) (sum64 (c (6144 + i)) (d (6144 + i)))) (2048 + i) (lo64 (c (2048 + i)) (d (2048 + i))) (3072 + i) = c (3072 + i) by rw [← HM1.out]; unfold upd; rw [if_neg (by omega), if_neg (by omega), if_neg (by omega), if_neg (by omega), if_neg (by omega)]; exact Q.out.2.2.2.1] at t3
                  rw [show upd (upd m1 (6144 + i) (sum64 (c (6144 + i)) (d (6144 + i)))) (2048 + i) (lo64 (c (2048 + i)) (d (2048 + i))) (5120 + i) = c (5120 + i) by rw [← HM1.out]; unfold upd; rw [if_neg (by omega), if_neg (by omega), if_neg (by omega), if_neg (by omega), if_neg (by omega)]; exact Q.out.2.2.2.2.2.1] at t5
                  have bc3 := (hRc (3072 + i) (by omega)).1 (by omega)
                  have bd3 := (hRd (3072 + i) (by omega)).1 (by omega)
                  have bc5 := (hRc (5120 + i) (by omega)).2.1 (by omega) (by omega)
                  have bd5 := (hRd (5120 + i) (by omega)).2.1 (by omega) (by omega)
                  generalize hm2 : upd (upd m1 (6144 + i) (sum64 (c (6144 + i)) (d (6144 + i)))) (2048 + i) (lo64 (c (2048 + i)) (d (2048 + i))) = m2 at *
                  have HM2 : Hid (upd (upd m1 (6144 + i) (sum64 (c (6144 + i)) (d (6144 + i)))) (2048 + i) (lo64 (c (2048 + i)) (d (2048 + i))) = m2) := hm2
                  clear hm2
                  go_wp2_with fail
                  have hend : ∀ o, o < 7168 → upd (upd m2 (3072 + i) (lo64 (c (3072 + i)) (d (3072 + i)))) (5120 + i) (hi32 (c (5120 + i)) (d (5120 + i)) (cy64 (c (3072 + i)) (d (3072 + i)))) o = mixC (i + 1) c d c o := by
                    rw [← HM2.out, ← HM1.out, ← HM.out]
                    exact seven_mix c d c hil
                  have HE := (show Hid _ from hend)
                  clear hend
                  go_region_with (go_at_call 10; refine (addWide_any (B1 k) (3072 + i) (5120 + i) (c (3072 + i)) (c (5120 + i)) (d (3072 + i)) (d (5120 + i)) _ bc3.1 bc3.2 bd3.1 bd3.2 bc5.1 bc5.2 bd5.1 bd5.2 (by omega) (by exact t3) (by exact t5) (by exact z3) (by exact z5)).mono ?_; rintro e w' ⟨rfl, rfl⟩)
                  all_goals
                    go_wp2
                    go_roundg (gk - 1)
                    case measure => omega
                    case rel => exact ⟨i + 1, by omega, by omega, by go_num, ((hC11.set (by omega) (kd_u64 (by omega)) _).set (by omega) (kd_u32 (by omega) (by omega)) _).congr HE.out, ((hO11.setCell (.inl rfl) _).setCell (.inl rfl) _).drew⟩
        · obtain rfl : i = 1024 := by omega
          have hI' := merge_step hI (by omega) hCi hOi
          clear hCi hOi hFi hI
          go_wp2
          go_roundg (n2 - (k + 1))
          case measure => omega
          case rel => exact ⟨k + 1, by omega, by omega, by go_num, hI'⟩
    · obtain rfl : k = n2 := by omega
      have HX : Hid (MergePost w wr base S ao n B C ra inf left k D rb) :=
        ⟨ao1, n1, cap1, B1, hI.sums, hG.le, hg1, hg2, hG.only.trans hI.only (fun b hb ⟨j, hj, e⟩ => by rcases hG.fp (.inr (.inr ⟨j, hj, e⟩)) with h | h; exact h; omega), fun b hb => hG.fp hb⟩
      go_wp2
      go_end0
      exact ⟨rfl, HX.out⟩
end Go.Proofs.Ybulkbqau
