import Derived.Test.YbulkbqauAddC
import Derived.Deep.DeepCutAuto
set_option linter.unusedVariables false
set_option linter.unusedSimpArgs false
namespace Go.Proofs.Ybulkbqau
open Go.RowKit

def SumEnd (c d : Nat → Int) (e : Ending) : Prop := ∃ z, IsArr z (addC c d) ∧ e = .returned (.agg z)

theorem IsArr.one {z : Array Value} {c : Nat → Int} (h : IsArr z c) : z.all (·.oneCell') = true := by
  rw [Array.all_eq_true]
  intro i hi
  have := h.2 i (by rw [← h.1]; exact hi)
  rw [Array.getElem?_eq_getElem hi] at this
  simp only [Option.some.injEq] at this
  rw [this]; rfl

theorem info37 : (Yba.prog.info? 37).map (·.size) = some 7168 := by kernel_rfl

set_option maxRecDepth 20000 in
set_option maxHeartbeats 2000000 in
theorem asum_any (X Y : Nat) (c d : Nat → Int) (w : World) (hX : Ch w X c) (hY : Ch w Y d) (hRc : Rng c) (hRd : Rng d) :
    Calls Yba.prog 7 #[.pointer (some ⟨X, 0, none⟩), .pointer (some ⟨Y, 0, none⟩)] w fun e w' => SumEnd c d e ∧ Below w.heap.size w w' := by
  obtain ⟨z, hzc, hz⟩ := zero37
  go_enter Yba.func7, Yba.ntmps7
  go_wp2
  go_loopg [6] 1024 (fun m x wr => ∃ i : Nat, i ≤ 1024 ∧ m + i = 1024 ∧ x = .int .i64 i ∧ Ch wr (w.heap.size + 1) (mixC i c d (fun _ => 0)) ∧ wr.heap[w.heap.size]? = some (.cells z 37 (0, 0)) ∧ Below w.heap.size w wr)
  case atStart =>
    refine ⟨0, by omega, rfl, rfl, Ch.congr (c := fun _ => 0) ⟨z, ?_, hzc⟩ (fun o ho => (mix_zero c d (fun _ => 0) o ho).symm), ?_, ((Below.refl _ _).alloc (Nat.le_refl _) _).alloc (by simp) _⟩
    · have := Deep.blk_alloc_new (w.alloc (.cells z 37)) (.cells z 37); simpa using this
    · rw [Deep.blk_alloc_lt _ _ _ (by simp)]; exact Deep.blk_alloc_new _ _
  case round =>
    obtain ⟨i, hi, hmi, rfl, hCi, hR0, hB⟩ := hrel
    have hXi : Ch wr X c := hX.of_block (hB.block X hX.lt)
    have hYi : Ch wr Y d := hY.of_block (hB.block Y hY.lt)
    have hXn : X ≠ w.heap.size + 1 := by have := hX.lt; omega
    have hYn : Y ≠ w.heap.size + 1 := by have := hY.lt; omega
    by_cases hil : i < 1024
    · have x0 := hXi.u64 (o := i) (by omega)
      have y0 := hYi.u64 (o := i) (by omega)
      have t0 := hCi.u64 (o := i) (by omega)
      have z0 := hCi.frozen i
      generalize hm0 : mixC i c d (fun _ => 0) = m0 at *
      have HM : Hid (mixC i c d (fun _ => 0) = m0) := hm0
      clear hm0
      have HR : Hid (wr.heap[w.heap.size]? = some (.cells z 37 (0, 0))) := hR0
      have HX : Hid (Ch wr X c) := hXi
      have HY : Hid (Ch wr Y d) := hYi
      have HB : Hid (Below w.heap.size w wr) := hB
      have HL : Hid (w.heap.size + 1 < wr.heap.size) := hCi.lt
      clear hR0 hB
      go_wp2
      go_cut [] (fun wx => Ch wx (w.heap.size + 1) (upd m0 i (lo64 (c i) (d i))) ∧ Only wr wx (fun b => b = w.heap.size + 1))
      case first =>
        go_region
        go_wp2_with fail
        go_meet
        case rel =>
          rw [wrap_lo]
          exact ⟨hCi.set (by omega) (kd_u64 (by omega)) _, (((Only.refl wr (fun b => b = w.heap.size + 1)).setCell (.inl rfl) _).drew)⟩
      case rest =>
        obtain ⟨hC5, hO5⟩ := hcut
        have hX5 := hO5.ch hXi hXn
        have hY5 := hO5.ch hYi hYn
        clear x0 y0 t0 z0 hCi hXi hYi
        have x1 := hX5.u64 (o := 1024 + i) (by omega)
        have x4 := hX5.u32 (o := 4096 + i) (by omega) (by omega)
        have y1 := hY5.u64 (o := 1024 + i) (by omega)
        have y4 := hY5.u32 (o := 4096 + i) (by omega) (by omega)
        have bc1 := (hRc (1024 + i) (by omega)).1 (by omega)
        have bd1 := (hRd (1024 + i) (by omega)).1 (by omega)
        have bc4 := (hRc (4096 + i) (by omega)).2.1 (by omega) (by omega)
        have bd4 := (hRd (4096 + i) (by omega)).2.1 (by omega) (by omega)
        have t1 := hC5.u64 (o := 1024 + i) (by omega)
        have t4 := hC5.u32 (o := 4096 + i) (by omega) (by omega)
        have z1 := hC5.frozen (1024 + i)
        have z4 := hC5.frozen (4096 + i)
        go_wp2_with fail
        go_quiet ((go_at_call 11; exact Calls.quiet_of_same (awide_any (c (1024 + i)) (c (4096 + i)) (d (1024 + i)) (d (4096 + i)) _ bc1.1 bc1.2 bd1.1 bd1.2 bc4.1 bc4.2 bd4.1 bd4.2)))
        generalize hw6 : wc.drewN nq = w6
        have hO6 : Only wr w6 (fun b => b = w.heap.size + 1) := by rw [← hw6]; exact ⟨hO5.os, hO5.tape, hO5.output, hO5.size, hO5.block⟩
        have hC6 : Ch w6 (w.heap.size + 1) (upd m0 i (lo64 (c i) (d i))) := by rw [← hw6]; exact hC5
        clear hw6
        have t1 := hC6.u64 (o := 1024 + i) (by omega)
        have t4 := hC6.u32 (o := 4096 + i) (by omega) (by omega)
        have z1 := hC6.frozen (1024 + i)
        have z4 := hC6.frozen (4096 + i)
        clear hO5 hC5 hX5 hY5 x1 x4 y1 y4
        have hC7 := (hC6.set (o := 1024 + i) (by omega) (kd_u64 (by omega)) (lo64 (c (1024 + i)) (d (1024 + i)))).set (o := 4096 + i) (by omega) (kd_u32 (by omega) (by omega)) (hi32 (c (4096 + i)) (d (4096 + i)) (cy64 (c (1024 + i)) (d (1024 + i))))
        have hO7 := (hO6.setCell (a := ⟨w.heap.size + 1, 1024 + i, none⟩) (.inl rfl) (.int .u64 (lo64 (c (1024 + i)) (d (1024 + i))))).setCell (a := ⟨w.heap.size + 1, 4096 + i, none⟩) (.inl rfl) (.int .u32 (hi32 (c (4096 + i)) (d (4096 + i)) (cy64 (c (1024 + i)) (d (1024 + i)))))
        go_wp2
        generalize hw7 : World.setCell (World.setCell w6 _ _) _ _ = w7 at *
        generalize hm1 : upd (upd (upd m0 i (lo64 (c i) (d i))) (1024 + i) (lo64 (c (1024 + i)) (d (1024 + i)))) (4096 + i) (hi32 (c (4096 + i)) (d (4096 + i)) (cy64 (c (1024 + i)) (d (1024 + i)))) = m1 at *
        have HM1 : Hid (upd (upd (upd m0 i (lo64 (c i) (d i))) (1024 + i) (lo64 (c (1024 + i)) (d (1024 + i)))) (4096 + i) (hi32 (c (4096 + i)) (d (4096 + i)) (cy64 (c (1024 + i)) (d (1024 + i)))) = m1) := hm1
        clear hm1 hw7 t1 t4 z1 z4 hC6 hO6
        have hXi := hO7.ch HX.out hXn
        have hYi := hO7.ch HY.out hYn
        have x6 := hXi.i64 (o := 6144 + i) (by omega) (by omega)
        have y6 := hYi.i64 (o := 6144 + i) (by omega) (by omega)
        have t6 := hC7.i64 (o := 6144 + i) (by omega) (by omega)
        have z6 := hC7.frozen (6144 + i)
        go_wp2_with fail
        go_cut [] (fun wx => Ch wx (w.heap.size + 1) (upd m1 (6144 + i) (sum64 (c (6144 + i)) (d (6144 + i)))) ∧ Only wr wx (fun b => b = w.heap.size + 1))
        case first =>
          go_region
          go_wp2_with fail
          go_meet
          case rel => exact ⟨hC7.set (by omega) (kd_i64 (by omega)) _, (hO7.setCell (.inl rfl) _).drew⟩
        case rest =>
          obtain ⟨hC9, hO9⟩ := hcut
          clear hC7 hO7 x6 y6 t6 z6 hXi hYi
          have hXi := hO9.ch HX.out hXn
          have hYi := hO9.ch HY.out hYn
          have x2 := hXi.u64 (o := 2048 + i) (by omega)
          have y2 := hYi.u64 (o := 2048 + i) (by omega)
          have t2 := hC9.u64 (o := 2048 + i) (by omega)
          have z2 := hC9.frozen (2048 + i)
          go_wp2_with fail
          go_cut [] (fun wx => Ch wx (w.heap.size + 1) (upd (upd m1 (6144 + i) (sum64 (c (6144 + i)) (d (6144 + i)))) (2048 + i) (lo64 (c (2048 + i)) (d (2048 + i)))) ∧ Only wr wx (fun b => b = w.heap.size + 1))
          case first =>
            go_region
            go_wp2_with fail
            go_meet
            case rel =>
              rw [wrap_lo]
              exact ⟨hC9.set (by omega) (kd_u64 (by omega)) _, (hO9.setCell (.inl rfl) _).drew⟩
          case rest =>
            obtain ⟨hC10, hO10⟩ := hcut
            clear hC9 hO9 x2 y2 t2 z2 hXi hYi
            generalize hm2 : upd (upd m1 (6144 + i) (sum64 (c (6144 + i)) (d (6144 + i)))) (2048 + i) (lo64 (c (2048 + i)) (d (2048 + i))) = m2 at *
            have HM2 : Hid (upd (upd m1 (6144 + i) (sum64 (c (6144 + i)) (d (6144 + i)))) (2048 + i) (lo64 (c (2048 + i)) (d (2048 + i))) = m2) := hm2
            clear hm2
            have hXi := hO10.ch HX.out hXn
            have hYi := hO10.ch HY.out hYn
            have x3 := hXi.u64 (o := 3072 + i) (by omega)
            have x5 := hXi.u32 (o := 5120 + i) (by omega) (by omega)
            have y3 := hYi.u64 (o := 3072 + i) (by omega)
            have y5 := hYi.u32 (o := 5120 + i) (by omega) (by omega)
            have bc3 := (hRc (3072 + i) (by omega)).1 (by omega)
            have bd3 := (hRd (3072 + i) (by omega)).1 (by omega)
            have bc5 := (hRc (5120 + i) (by omega)).2.1 (by omega) (by omega)
            have bd5 := (hRd (5120 + i) (by omega)).2.1 (by omega) (by omega)
            go_wp2_with fail
            go_quiet ((go_at_call 11; exact Calls.quiet_of_same (awide_any (c (3072 + i)) (c (5120 + i)) (d (3072 + i)) (d (5120 + i)) _ bc3.1 bc3.2 bd3.1 bd3.2 bc5.1 bc5.2 bd5.1 bd5.2)))
            generalize hw11 : World.drewN _ nq = w11
            have hO11 : Only wr w11 (fun b => b = w.heap.size + 1) := by rw [← hw11]; exact ⟨hO10.os, hO10.tape, hO10.output, hO10.size, hO10.block⟩
            have hC11 : Ch w11 (w.heap.size + 1) m2 := by rw [← hw11]; exact hC10
            clear hw11
            have t3 := hC11.u64 (o := 3072 + i) (by omega)
            have t5 := hC11.u32 (o := 5120 + i) (by omega) (by omega)
            have z3 := hC11.frozen (3072 + i)
            have z5 := hC11.frozen (5120 + i)
            clear hO10 hC10 hXi hYi x3 x5 y3 y5
            have hend : ∀ o, o < 7168 → upd (upd m2 (3072 + i) (lo64 (c (3072 + i)) (d (3072 + i)))) (5120 + i) (hi32 (c (5120 + i)) (d (5120 + i)) (cy64 (c (3072 + i)) (d (3072 + i)))) o = mixC (i + 1) c d (fun _ => 0) o := by
              rw [← HM2.out, ← HM1.out, ← HM.out]
              exact seven_mix c d (fun _ => 0) hil
            have HE := (show Hid _ from hend)
            clear hend
            go_wp2
            go_roundg (gk - 1)
            case measure => omega
            case rel =>
              have hO12 := (hO11.setCell (a := ⟨w.heap.size + 1, 3072 + i, none⟩) (.inl rfl) (.int .u64 (lo64 (c (3072 + i)) (d (3072 + i))))).setCell (a := ⟨w.heap.size + 1, 5120 + i, none⟩) (.inl rfl) (.int .u32 (hi32 (c (5120 + i)) (d (5120 + i)) (cy64 (c (3072 + i)) (d (3072 + i)))))
              refine ⟨i + 1, by omega, by omega, by go_num, ((hC11.set (by omega) (kd_u64 (by omega)) _).set (by omega) (kd_u32 (by omega) (by omega)) _).congr HE.out, ?_, ?_⟩
              · exact (hO12.block _ (by have := HB.out; have := this.size; have := HL.out; omega) (by omega)).trans HR.out
              · exact (HB.out).trans (hO12.below (by intro k e; omega) HB.out.size)
    · obtain rfl : i = 1024 := by omega
      obtain ⟨zz, hzz, hzI⟩ := hCi
      have hi37 : (Yba.prog.info? 37).map (·.size) = some zz.size := by rw [hzI.1]; exact info37
      have hz1 : z.size = zz.size := by rw [hzI.1, hzc.1]
      have ho1 := IsArr.one hzI
      have HB : Hid (Below w.heap.size w wr) := hB
      have HZ : Hid (IsArr zz (mixC 1024 c d fun x => 0)) := hzI
      have hR1 := setRow_heap wr w.heap.size z zz 37 (0, 0) hR0
      clear hB hzI
      go_wp2_with (refine wpList_load_row rfl 37 _ rfl (w.heap.size + 1) rfl 37 zz (0, 0) _ hzz Yba.underlying37 rfl hi37 ?_; refine wpList_store_row rfl 37 _ _ rfl w.heap.size zz rfl rfl 37 z hR0 hi37 hz1 ho1 ?_)
      (try simp only [Exit.inBlock, Exit.then])
      refine bodyPost_ret (results_cell_row rfl _ _ w.heap.size 37 zz (0, 0) _ rfl hR1 Yba.underlying37 rfl hi37) rfl ?_
      exact ⟨⟨zz, ⟨HZ.out.1, fun o ho => by rw [HZ.out.2 o ho, mix_full _ _ _ o ho]⟩, rfl⟩, HB.out.trans ⟨rfl, rfl, rfl, by simp, fun k hk => setRow_other _ _ _ _ (by omega)⟩⟩
end Go.Proofs.Ybulkbqau
