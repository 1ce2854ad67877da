import Derived.Test.YbulkbpzeMade
import Derived.Deep.QuietTactic
import Derived.BigQuiet
namespace Go.Proofs.Ybulkbpze
open Go.RowKit

theorem pool_first (w : World) (n : Nat) (X Y Z : Nat → Int) :
    Pool w (((w.alloc (.cells #[] 24)).alloc (.cells #[] 3)).alloc (.cells (madeCells #[.pointer none] n) 24)) (w.heap.size + 1 + 1) n 0 X Y Z ∧
    (((w.alloc (.cells #[] 24)).alloc (.cells #[] 3)).alloc (.cells (madeCells #[.pointer none] n) 24)).heap[w.heap.size]? = some (.cells #[] 24 (0, 0)) ∧
    (((w.alloc (.cells #[] 24)).alloc (.cells #[] 3)).alloc (.cells (madeCells #[.pointer none] n) 24)).heap[w.heap.size + 1]? = some (.cells #[] 3 (0, 0)) := by
  refine ⟨pool_start n X Y Z (((Below.refl _ _).alloc (Nat.le_refl _) _).alloc (by simp) _) (by simp), ?_, ?_⟩
  · rw [Deep.blk_alloc_lt _ _ _ (by simp; omega), Deep.blk_alloc_lt _ _ _ (by simp)]
    exact Deep.blk_alloc_new _ _
  · rw [Deep.blk_alloc_lt _ _ _ (by simp)]
    have := Deep.blk_alloc_new (w.alloc (.cells #[] 24)) (.cells #[] 3)
    simpa using this

theorem pool_next {w wr : World} {n m : Nat} {X Y Z : Nat → Int} (h : Pool w wr (w.heap.size + 1 + 1) n m X Y Z) (hA : wr.heap[w.heap.size]? = some (.cells #[] 24 (0, 0))) (hB : wr.heap[w.heap.size + 1]? = some (.cells #[] 3 (0, 0))) (c : Array Value)
    (h0 : c[0]? = some (.int .i64 (X m))) (h1 : c[1]? = some (.int .i64 (Y m))) (h2 : c[2]? = some (.int .i64 (Z m))) :
    Pool w ((wr.alloc (.cells c 48)).setCell ⟨w.heap.size + 1 + 1, m, none⟩ (.pointer (some ⟨wr.heap.size, 0, none⟩))).drew (w.heap.size + 1 + 1) n (m + 1) X Y Z ∧
    ((wr.alloc (.cells c 48)).setCell ⟨w.heap.size + 1 + 1, m, none⟩ (.pointer (some ⟨wr.heap.size, 0, none⟩))).drew.heap[w.heap.size]? = some (.cells #[] 24 (0, 0)) ∧
    ((wr.alloc (.cells c 48)).setCell ⟨w.heap.size + 1 + 1, m, none⟩ (.pointer (some ⟨wr.heap.size, 0, none⟩))).drew.heap[w.heap.size + 1]? = some (.cells #[] 3 (0, 0)) := by
  have hs := h.size
  refine ⟨pool_step h (by omega) c h0 h1 h2, ?_, ?_⟩
  · show ((wr.alloc (.cells c 48)).setCell _ _).heap[w.heap.size]? = _
    rw [Deep.blk_setCell_other _ _ _ _ (by show w.heap.size ≠ w.heap.size + 1 + 1; omega), Deep.blk_alloc_lt _ _ _ (by omega)]
    exact hA
  · show ((wr.alloc (.cells c 48)).setCell _ _).heap[w.heap.size + 1]? = _
    rw [Deep.blk_setCell_other _ _ _ _ (by show w.heap.size + 1 ≠ w.heap.size + 1 + 1; omega), Deep.blk_alloc_lt _ _ _ (by omega)]
    exact hB

theorem picked_first {w w3 : World} {n : Nat} {X Y Z : Nat → Int} (h : Pool w w3 (w.heap.size + 1 + 1) n n X Y Z) (hA : w3.heap[w.heap.size]? = some (.cells #[] 24 (0, 0))) (hB : w3.heap[w.heap.size + 1]? = some (.cells #[] 3 (0, 0))) (K : Nat → Nat) :
    Picked w w3 w3 (w.heap.size + 1 + 1) 0 K w.heap.size 0 (w.heap.size + 1) 0 where
  below := h.below
  keep := fun _ _ _ => rfl
  size := Nat.le_refl _
  own5 := ⟨rfl, .inr ⟨w.heap.size, 0, #[], rfl, Nat.le_refl _, hA, Nat.le_refl _, by unfold maxLen; omega, rfl, rfl⟩⟩
  own6 := ⟨rfl, .inr ⟨w.heap.size + 1, 0, #[], rfl, by omega, hB, Nat.le_refl _, by unfold maxLen; omega, rfl, rfl⟩⟩
  far5 := .inl (by omega)
  far6 := .inl (by omega)

set_option maxRecDepth 20000 in
set_option maxHeartbeats 1000000 in
theorem shared_walk (b off n cap : Nat) (X Y Z : Nat → Int) (ap : Option Addr) (p pcap : Nat) (V K : Nat → Nat) (w : World) (hn : n ≤ 1024) (hp : p ≤ 1024) (hn0 : 0 < n)
    (hX : ∀ j, j < n → w.cell? ⟨b, off + j * 3, none⟩ = some (.int .i64 (X j)))
    (hY : ∀ j, j < n → w.cell? ⟨b, off + j * 3 + 1, none⟩ = some (.int .i64 (Y j)))
    (hZ : ∀ j, j < n → w.cell? ⟨b, off + j * 3 + 2, none⟩ = some (.int .i64 (Z j)))
    (hK : ∀ j, j < p → (V j : Int) % (n : Int) = (K j : Int) ∧ K j < n)
    (hV : ∀ j, j < p → V j < 256 ∧ ∃ pb po, ap = some ⟨pb, po, none⟩ ∧ w.cell? ⟨pb, po + j, none⟩ = some (.int .u8 (V j : Nat))) :
    Calls Yba.prog 4 #[.slice (some ⟨b, off, none⟩) n cap, .slice ap p pcap] w fun e w' => e = .returned (.bool true) ∧ Below w.heap.size w w' := by
  have hmk := makePtrs n hn
  have hnd : ¬ (1024 : Int) < (n : Int) := by omega
  have hpd : ¬ (1024 : Int) < (p : Int) := by omega
  have hnd0 : (0 : Int) < (n : Int) := by omega
  go_enter Yba.func4, Yba.ntmps4
  go_wp2
  go_loopg [8] n (fun k i wr => ∃ m : Nat, m ≤ n ∧ k + m = n ∧ i = .int .i64 m ∧ Pool w wr (w.heap.size + 1 + 1) n m X Y Z ∧ wr.heap[w.heap.size]? = some (.cells #[] 24 (0, 0)) ∧ wr.heap[w.heap.size + 1]? = some (.cells #[] 3 (0, 0)))
  case atStart => exact ⟨0, by omega, rfl, rfl, pool_first w n X Y Z⟩
  case round =>
    obtain ⟨m, hm, hkm, rfl, hM, hA, hB⟩ := hrel
    by_cases hlt : m < n
    · have hx := (hM.below.cell (p := ⟨b, off + m * 3, none⟩) (lt_of_cell (hX m hlt))).trans (hX m hlt)
      have hy := (hM.below.cell (p := ⟨b, off + m * 3 + 1, none⟩) (lt_of_cell (hY m hlt))).trans (hY m hlt)
      have hz := (hM.below.cell (p := ⟨b, off + m * 3 + 2, none⟩) (lt_of_cell (hZ m hlt))).trans (hZ m hlt)
      have c0 : ∀ o, (wr.alloc o).cell? ⟨w.heap.size + 1 + 1, m, none⟩ = some (.pointer none) := fun o => by simpa using (hM.row.alloc o).cell hlt
      have f0 : ∀ o, (wr.alloc o).frozen? ⟨w.heap.size + 1 + 1, m, none⟩ = false := fun o => (hM.row.alloc o).frozen m
      go_wp2
      go_region
      go_wp2
      go_roundg (gk - 1)
      case measure => omega
      case rel => exact ⟨m + 1, by omega, by omega, by go_num, pool_next hM hA hB _ rfl rfl rfl⟩
    · obtain rfl : m = n := by omega
      clear hkm hlt hm
      obtain ⟨w3, rfl⟩ : ∃ w3, w3 = wr := ⟨wr, rfl⟩
      go_wp2_with fail
      go_loopg [5, 6, 9] p (fun k s5 s6 i w4 => ∃ q g5 c5 g6 c6 : Nat, q ≤ p ∧ k + q = p ∧ i = .int .i64 q ∧ s5 = .slice (some ⟨g5, 0, none⟩) q c5 ∧ s6 = .slice (some ⟨g6, 0, none⟩) q c6 ∧
        Picked w w3 w4 (w.heap.size + 1 + 1) q K g5 c5 g6 c6)
      case atStart => exact ⟨0, w.heap.size, 0, w.heap.size + 1, 0, by omega, rfl, rfl, rfl, rfl, picked_first hM hA hB K⟩
      case round =>
        obtain ⟨q, g5, c5, g6, c6, hq, hkq, rfl, rfl, rfl, hP⟩ := hrel
        by_cases hlq : q < p
        · obtain ⟨hv, pb, po, rfl, hc⟩ := hV q hlq
          have hc4 := (hP.below.cell (p := ⟨pb, po + q, none⟩) (lt_of_cell hc)).trans hc
          obtain ⟨hkk, hkm⟩ := hK q hlq
          obtain ⟨i3, hi3, hz30, hz31, hz32⟩ := info_parts infoInt
          obtain ⟨i4, hi4, hz40, hz41, hz42⟩ := info_parts infoPtr
          have hwb := hP.below.size
          have hbnd : (q + 1) * 8 ≤ 140737488355328 := by omega
          have hbnd2 : q + 1 ≤ maxLen := by unfold maxLen; omega
          go_wp2_with (first | (at_builtin; refine wpList_append_known _ rfl (.tmp 72) (.tmp 74) 54 rfl w.heap.size 3 i3 (.int .i64 0) 1 8 Yba.underlying54 hi3 hz30 hz31 hz32 rfl (by decide) g6 q c6 _ rfl (hP.own6.alloc _) ⟨wr.heap.size, 0, none⟩ 1 1 [.int .i64 (K q : Nat)] rfl rfl (cell_one_new _ _ _) (by simp; rfl) (by decide) hbnd2 hbnd (by simp; omega) ?_; intro g6' c6' w4 hown6 hgrow6 hfr6; obtain ⟨hb4, hk4, hs4, ho4, hf4⟩ := picked_ks hP hown6 hgrow6 hfr6; have hcp := (pool_in hM hk4 hkm).1; have hw4 := hb4.size) | (at_builtin; refine wpList_append_known _ rfl (.tmp 76) (.tmp 81) 23 rfl w.heap.size 24 i4 (.pointer none) 1 8 Yba.underlying23 hi4 hz40 hz41 hz42 rfl (by decide) g5 q c5 _ rfl (ho4.alloc _) ⟨w4.heap.size, 0, none⟩ 1 1 [.pointer (some ⟨w.heap.size + 1 + 1 + 1 + K q, 0, none⟩)] rfl rfl (cell_one_new _ _ _) (by simp; rfl) (by decide) hbnd2 hbnd (by simp; omega) ?_; intro g5' c5' w5 hown5 hgrow5 hfr5))
          have hP' := picked_runs hP hb4 hk4 hs4 hown6 ho4 hf4 hown5 hgrow5 hfr5
          clear hown5 hgrow5 hfr5 hown6 hgrow6 hfr6 hb4 hk4 ho4 hf4 hP
          go_roundg (gk - 1)
          case measure => omega
          case rel => exact ⟨q + 1, g5', c5', g6', c6', by omega, by omega, by go_num, rfl, rfl, hP'⟩
        · obtain rfl : q = p := by omega
          clear hkq hlq hq hmk hnd hnd0 hpd
          obtain ⟨w4, rfl⟩ : ∃ w4, w4 = wr := ⟨wr, rfl⟩
          have hmk2 := makePtrs q hp
          go_wp2_with (refine wpList_copy_full rfl (.tmp 86) (.tmp 87) rfl w4.heap.size g5 q c5 rfl rfl w4 rfl rfl (fun j => w.heap.size + 1 + 1 + 1 + K j) (fun j hj => hP.cell5 hj) ?_; intro w5 hrow5 hb5)
          have hc5 : ∀ j, j < q → w5.cell? ⟨g5, j, none⟩ = some (.pointer (some ⟨w.heap.size + 1 + 1 + 1 + K j, 0, none⟩)) := fun j hj => (hb5.cell (p := ⟨g5, j, none⟩) (lt_of_cell (hP.cell5 hj))).trans (hP.cell5 hj)
          have hkeep5 : ∀ k, w.heap.size + 1 + 1 ≤ k → k < w3.heap.size → w5.heap[k]? = w3.heap[k]? := fun k h1 h2 => (hb5.block k (Nat.lt_of_lt_of_le h2 hP.size)).trans (hP.keep k h1 h2)
          refine (refs_any g5 q c5 (fun j => w.heap.size + 1 + 1 + 1 + K j) (fun j => X (K j)) (fun j => Y (K j)) (fun j => Z (K j)) w5 hp hc5 (fun j hj => (pool_in hM hkeep5 (hK j hj).2).2.1) (fun j hj => (pool_in hM hkeep5 (hK j hj).2).2.2.1) (fun j hj => (pool_in hM hkeep5 (hK j hj).2).2.2.2)).mono ?_
          rintro e w6 ⟨rfl, hb6, f, hrow6, hf⟩
          have hall : Below w.heap.size w w6 := (hP.below.trans (hb5.mono hP.below.size)).trans (hb6.mono (Nat.le_trans hP.below.size hb5.size))
          have d5 : ∀ j, j < q → w6.cell? ⟨g5, j, none⟩ = some (.pointer (some ⟨w.heap.size + 1 + 1 + 1 + K j, 0, none⟩)) := fun j hj => (hb6.cell (p := ⟨g5, j, none⟩) (lt_of_cell (hc5 j hj))).trans (hc5 j hj)
          have dB : ∀ j, j < q → w6.cell? ⟨w4.heap.size, j, none⟩ = some (.pointer (some ⟨w.heap.size + 1 + 1 + 1 + K j, 0, none⟩)) := fun j hj => (hb6.cell (p := ⟨w4.heap.size, j, none⟩) hrow5.lt).trans (hrow5.cell hj)
          have d6 : ∀ j, j < q → w6.cell? ⟨g6, j, none⟩ = some (.int .i64 ((K j : Nat) : Int)) := fun j hj => (hb6.cell (p := ⟨g6, j, none⟩) (Nat.lt_of_lt_of_le (lt_of_cell (hP.cell6 hj)) hb5.size)).trans ((hb5.cell (p := ⟨g6, j, none⟩) (lt_of_cell (hP.cell6 hj))).trans (hP.cell6 hj))
          clear hmk2 hc5 hkeep5 hM hP hA hB
          go_wp2
          go_loopg [13] q (fun k i w7 => ∃ r : Nat, r ≤ q ∧ k + r = q ∧ i = .int .i64 r ∧ Below w6.heap.size w6 w7)
          case atStart => exact ⟨0, by omega, rfl, rfl, Below.refl _ _⟩
          case round =>
            obtain ⟨r, hr, hkr, rfl, hb7⟩ := hrel
            by_cases hlr : r < q
            · have e5 := (hb7.cell (p := ⟨g5, r, none⟩) (lt_of_cell (d5 r hlr))).trans (d5 r hlr)
              have eB := (hb7.cell (p := ⟨w4.heap.size, r, none⟩) (lt_of_cell (dB r hlr))).trans (dB r hlr)
              have e6 := (hb7.cell (p := ⟨g6, r, none⟩) (lt_of_cell (d6 r hlr))).trans (d6 r hlr)
              have hkr' := (hK r hlr).2
              have hx := ((hall.trans (hb7.mono hall.size)).cell (p := ⟨b, off + K r * 3, none⟩) (lt_of_cell (hX _ hkr'))).trans (hX _ hkr')
              have hy := ((hall.trans (hb7.mono hall.size)).cell (p := ⟨b, off + K r * 3 + 1, none⟩) (lt_of_cell (hY _ hkr'))).trans (hY _ hkr')
              have hz := ((hall.trans (hb7.mono hall.size)).cell (p := ⟨b, off + K r * 3 + 2, none⟩) (lt_of_cell (hZ _ hkr'))).trans (hZ _ hkr')
              obtain ⟨t0, t1, t2⟩ := hf r hlr
              have r0 := (hb7.cell (p := ⟨w5.heap.size, r * 3, none⟩) hrow6.lt).trans (hrow6.cell (i := r * 3) (by omega))
              have r1 := (hb7.cell (p := ⟨w5.heap.size, r * 3 + 1, none⟩) hrow6.lt).trans (hrow6.cell (i := r * 3 + 1) (by omega))
              have r2 := (hb7.cell (p := ⟨w5.heap.size, r * 3 + 2, none⟩) hrow6.lt).trans (hrow6.cell (i := r * 3 + 2) (by omega))
              rw [t0] at r0
              rw [t1] at r1
              rw [t2] at r2
              clear t0 t1 t2
              have hnq := neq24
              go_wp2
              go_quiet (fail)
              generalize hw8 : wr.drewN nq = w8
              have hcell8 : ∀ a, w8.cell? a = wr.cell? a := fun a => by rw [← hw8]; rfl
              have hb8 : Below w6.heap.size w6 w8 := by rw [← hw8]; exact below_drewN hb7 _
              have hlt8 : w5.heap.size < w8.heap.size := Nat.lt_of_lt_of_le hrow6.lt hb8.size
              rw [← hcell8] at e6 hx hy hz r0 r1 r2
              clear hw8 hcell8 hb7 e5 eB hnq
              go_wp2
              go_quiet (fail)
              go_wp2
              go_roundg (gk - 1)
              case measure => omega
              case rel => exact ⟨r + 1, by omega, by omega, by go_num, below_drewN (hb8.alloc hb8.size _) _⟩
            · go_wp2
              go_ret
              exact ⟨rfl, hall.trans (hb7.mono hall.size)⟩

end Go.Proofs.Ybulkbpze
