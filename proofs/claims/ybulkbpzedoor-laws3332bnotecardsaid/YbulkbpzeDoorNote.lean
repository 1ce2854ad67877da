import Derived.Test.YbulkbpzeDoorWalk
import Derived.Deep.Cut
import Derived.Deep.Heap
namespace Go.Proofs.YbulkbpzeDoor
open Go.RowKit

/-- what the walks ask of the map 'endings', said of every world that holds the same two blocks -/
structure Holds (W : World) (bm : Nat) : Prop where
  cell : W.cell? ⟨0, 0, none⟩ = some (.map (some bm))
  lt : bm < W.heap.size
  look : ∀ wx : World, wx.heap[bm]? = W.heap[bm]? → ∀ s : ByteArray, s.size ≤ maxLen → (Instr.lookup 49 (.map (some bm)) (.string s) false).run Ybad.prog wx = .ok (.int .u8 (endOf s.toList)) wx

theorem Holds.later {W wx : World} {bm : Nat} (h : Holds W bm) (h0 : wx.heap[0]? = W.heap[0]?) (hb : wx.heap[bm]? = W.heap[bm]?) (hs : W.heap.size ≤ wx.heap.size) : Holds wx bm :=
  ⟨(World.cell?_of_block (w := W) (a := ⟨0, 0, none⟩) h0).trans h.cell, Nat.lt_of_lt_of_le h.lt hs, fun wy hy => h.look wy (hy.trans hb)⟩

theorem Holds.ends {W : World} {bm : Nat} (h : Holds W bm) : Ends W bm := ⟨h.cell, fun wx hx => h.look wx (hx.block bm h.lt)⟩

theorem Holds.below {W wx : World} {bm : Nat} (h : Holds W bm) (hb : Below W.heap.size W wx) : Holds wx bm :=
  h.later (hb.block 0 (World.block_lt_of_cell? _ _ h.cell)) (hb.block bm h.lt) hb.size

/-- the state that a record holds behind an entry -/
def nextOf (st m : Int) : Int := if (m != 0) = true then m else st

theorem heap_set (w : World) (R i : Nat) (v : Value) (cs : Array Value) (t : TypeId) (h : w.heap[R]? = some (.cells cs t (0, 0))) : (w.setCell ⟨R, i, none⟩ v).heap[R]? = some (.cells (cs.setIfInBounds i v) t (0, 0)) := by
  simp [World.setCell, Array.getElem?_modify, h]

set_option maxRecDepth 20000 in
set_option maxHeartbeats 1000000 in
theorem note_any (ev : ByteArray) (c : Bool) (bm R : Nat) (n st : Int) (a b d : Value) (w : World) (hE : Holds w bm) (hs : ev.size ≤ maxLen) (hn0 : 0 ≤ n) (hn1 : n ≤ 2000) (h0 : R ≠ 0) (h1 : R ≠ bm)
    (hR : w.heap[R]? = some (.cells #[a, b, .int .i64 n, d, .int .u8 st] 44 (0, 0)))
    (c0 c1 c2 c3 c4 c6 c7 c8 c9 c10 c11 c12 c13 c14 c15 c16 c17 c18 c20 c21 : Value) :
    Calls Ybad.prog 8 #[.pointer (some ⟨R, 0, none⟩), .agg #[c0, c1, c2, c3, c4, .string ev, c6, c7, c8, c9, c10, c11, c12, c13, c14, c15, c16, c17, c18, .bool c, c20, c21]] w
      fun e w' => e = .returned (.tuple #[]) ∧ w.grownBy w' (some R) ∧ w'.heap[R]? = some (.cells #[a, b, .int .i64 (n + 1), d, .int .u8 (nextOf st (mdl ev.toList c))] 44 (0, 0)) := by
  have hlt : R < w.heap.size := lt_of_block hR
  have hc2 : ∀ o, (w.alloc o).cell? ⟨R, 2, none⟩ = some (.int .i64 n) := fun o => by simp [World.cell?, Deep.blk_alloc_lt _ _ _ hlt, hR]
  have hf2 : ∀ o, (w.alloc o).frozen? ⟨R, 2, none⟩ = false := fun o => by simp [World.frozen?, Deep.blk_alloc_lt _ _ _ hlt, hR]
  have hnew : ∀ o, ((w.setCell ⟨R, 2, none⟩ (.int .i64 (n + 1))).alloc o).heap[w.heap.size]? = some o := fun o => by
    have := heap_alloc_new (w.setCell ⟨R, 2, none⟩ (.int .i64 (n + 1))) o
    simpa using this
  have hE1 : ∀ o, Holds ((w.setCell ⟨R, 2, none⟩ (.int .i64 (n + 1))).alloc o) bm := fun o => by
    have hz := World.block_lt_of_cell? _ _ hE.cell
    refine hE.later ?_ ?_ (by simp)
    · rw [Deep.blk_alloc_lt _ _ _ (by simpa using hz), Deep.blk_setCell_other _ _ _ _ (by simpa using h0.symm)]
    · rw [Deep.blk_alloc_lt _ _ _ (by simpa using hE.lt), Deep.blk_setCell_other _ _ _ _ (by simpa using h1.symm)]
  have hR1 : ∀ o, ((w.setCell ⟨R, 2, none⟩ (.int .i64 (n + 1))).alloc o).heap[R]? = some (.cells #[a, b, .int .i64 (n + 1), d, .int .u8 st] 44 (0, 0)) := fun o => by
    rw [Deep.blk_alloc_lt _ _ _ (by simpa using hlt), heap_set _ _ _ _ _ _ hR]; rfl
  have hG1 : ∀ o, w.grownBy ((w.setCell ⟨R, 2, none⟩ (.int .i64 (n + 1))).alloc o) (some R) := fun o =>
    ⟨rfl, rfl, rfl, by simp, fun k hk hne => by rw [Deep.blk_alloc_lt _ _ _ (by simpa using hk), Deep.blk_setCell_other _ _ _ _ (by simpa using hne)]⟩
  have HR : Hid (w.heap[R]? = some (.cells #[a, b, .int .i64 n, d, .int .u8 st] 44 (0, 0))) := hR
  clear hR
  go_enter Ybad.func8, Ybad.ntmps8
  go_upto_region 2 with fail
  go_wp2_with (refine wpList_load_row rfl 36 _ rfl w.heap.size rfl 36 _ (0, 0) _ (hnew _) Ybad.underlying36 rfl (by kernel_rfl) ?_)
  refine (after_any ev c bm _ (hE1 _).ends hs _ _ _ _ _ _ _ _ _ _ _ _ _ _ _ _ _ _ _ _).mono ?_
  rintro e w2 ⟨rfl, hb2⟩
  have hR2 : w2.heap[R]? = some (.cells #[a, b, .int .i64 (n + 1), d, .int .u8 st] 44 (0, 0)) := (hb2.block R (by simp; omega)).trans (hR1 _)
  have hG2 : w.grownBy w2 (some R) := ⟨hb2.os.trans rfl, hb2.tape.trans rfl, hb2.output.trans rfl, Nat.le_trans (by simp) hb2.size, fun k hk hne => (hb2.block k (by simp; omega)).trans ((hG1 _).block k hk hne)⟩
  have hc4 : w2.cell? ⟨R, 4, none⟩ = some (.int .u8 st) := by simp [World.cell?, hR2]
  have hf4 : w2.frozen? ⟨R, 4, none⟩ = false := by simp [World.frozen?, hR2]
  generalize hM : mdl ev.toList c = m
  have HM : Hid (mdl ev.toList c = m) := hM
  clear hM
  clear hb2 hnew hE1 hR1 hG1 hc2 hf2
  have HR2 : Hid (w2.heap[R]? = some (.cells #[a, b, .int .i64 (n + 1), d, .int .u8 st] 44 (0, 0))) := hR2
  clear hR2
  by_cases hm : (m != 0) = true
  · go_wp2
    go_end0
    refine ⟨rfl, ⟨hG2.os, hG2.tape, hG2.output, by simpa using hG2.size, fun k hk hne => ?_⟩, ?_⟩
    · rw [Deep.blk_setCell_other _ _ _ _ (by simpa using hne)]; exact hG2.block k hk hne
    · rw [heap_set _ _ _ _ _ _ HR2.out]
      rw [HM.out]
      simp [nextOf, hm]
  · have hm' : (m != 0) = false := by simpa using hm
    clear hm
    go_wp2
    go_end0
    exact ⟨rfl, hG2, by rw [HR2.out, HM.out]; simp [nextOf, hm']⟩

set_option maxRecDepth 20000 in
set_option maxHeartbeats 1000000 in
theorem note_walk (b off n cap : Nat) (S : Nat → Int) (T : Nat → ByteArray) (C F : Nat → Bool) (N : Nat → Int) (bm : Nat) (w : World) (hE : Holds w bm) (hn : n ≤ 1024)
    (h0 : ∀ j, j < n → w.cell? ⟨b, off + j * 5, none⟩ = some (.int .u8 (S j))) (hS : ∀ j, j < n → 0 ≤ S j ∧ S j ≤ 255)
    (h1 : ∀ j, j < n → w.cell? ⟨b, off + j * 5 + 1, none⟩ = some (.string (T j))) (hT : ∀ j, j < n → (T j).size ≤ maxLen)
    (h2 : ∀ j, j < n → w.cell? ⟨b, off + j * 5 + 2, none⟩ = some (.bool (C j)))
    (h3 : ∀ j, j < n → w.cell? ⟨b, off + j * 5 + 3, none⟩ = some (.bool (F j)))
    (h4 : ∀ j, j < n → w.cell? ⟨b, off + j * 5 + 4, none⟩ = some (.int .i64 (N j))) :
    Calls Ybad.prog 4 #[.slice (some ⟨b, off, none⟩) n cap] w fun e w' => e = .returned (.bool true) ∧ Below w.heap.size w w' := by
  have hnd : ¬ (1024 : Int) < (n : Int) := by omega
  go_enter Ybad.func4, Ybad.ntmps4
  go_wp2
  go_loopg [4, 5, 6] n (fun k s4 s5 i wr => ∃ (m : Nat) (st : Int), m ≤ n ∧ k + m = n ∧ i = .int .i64 m ∧ s4 = .int .i64 m ∧ s5 = .int .u8 st ∧ Below w.heap.size w wr ∧
    wr.heap[w.heap.size]? = some (.cells #[.string ⟨#[]⟩, .int .i64 0, .int .i64 m, .int .u32 0, .int .u8 st] 44 (0, 0)))
  case atStart =>
    refine ⟨0, 0, by omega, rfl, rfl, rfl, rfl, (Below.refl _ _).alloc (Nat.le_refl _) _, ?_⟩
    rw [heap_alloc_new]
    simp
  case round =>
    obtain ⟨m, st, hm, hkm, rfl, rfl, rfl, hb, hr⟩ := hrel
    by_cases hlt : m < n
    · have hltw := World.block_lt_of_cell? _ _ (h0 m hlt)
      have e0 := (hb.cell (p := ⟨b, off + m * 5, none⟩) hltw).trans (h0 m hlt)
      have e1 := (hb.cell (p := ⟨b, off + m * 5 + 1, none⟩) hltw).trans (h1 m hlt)
      have e2 := (hb.cell (p := ⟨b, off + m * 5 + 2, none⟩) hltw).trans (h2 m hlt)
      have e3 := (hb.cell (p := ⟨b, off + m * 5 + 3, none⟩) hltw).trans (h3 m hlt)
      have e4 := (hb.cell (p := ⟨b, off + m * 5 + 4, none⟩) hltw).trans (h4 m hlt)
      have hz0 : 0 < w.heap.size := World.block_lt_of_cell? _ _ hE.cell
      have hsz := hb.size
      have hRlt : w.heap.size < wr.heap.size := lt_of_block hr
      have hnew : ∀ o1 o2, ((wr.alloc o1).alloc o2).heap[wr.heap.size + 1]? = some o2 := fun o1 o2 => by
        have := heap_alloc_new (wr.alloc o1) o2
        simpa using this
      have hst : ∀ o1 o2, ((wr.alloc o1).alloc o2).heap[wr.heap.size]? = some o1 := fun o1 o2 => by
        rw [Deep.blk_alloc_lt _ _ _ (by simp)]
        exact heap_alloc_new wr o1
      have hr3 : ∀ o1 o2, ((wr.alloc o1).alloc o2).heap[w.heap.size]? = some (.cells #[.string ⟨#[]⟩, .int .i64 0, .int .i64 m, .int .u32 0, .int .u8 st] 44 (0, 0)) := fun o1 o2 => by
        rw [Deep.blk_alloc_lt _ _ _ (by simp; omega), Deep.blk_alloc_lt _ _ _ hRlt]
        exact hr
      have hE2 : ∀ o1 o2, Holds ((wr.alloc o1).alloc o2) bm := fun o1 o2 => hE.below ((hb.alloc hsz o1).alloc (by simp; omega) o2)
      have hB2 : ∀ o1 o2, Below w.heap.size w ((wr.alloc o1).alloc o2) := fun o1 o2 => (hb.alloc hsz o1).alloc (by simp; omega) o2
      have HR : Hid (wr.heap[w.heap.size]? = some (.cells #[.string ⟨#[]⟩, .int .i64 0, .int .i64 m, .int .u32 0, .int .u8 st] 44 (0, 0))) := hr
      clear hr
      go_wp2_with fail
      refine (event_any (S m) (T m) _ (hS m hlt).1 (hS m hlt).2 (hT m hlt)).mono ?_
      rintro e w1 ⟨ev, rfl, hev, rfl⟩
      go_upto_region 16 with fail
      go_wp2_with (refine wpList_load_row rfl 36 _ rfl (wr.heap.size + 1) rfl 36 _ (0, 0) _ (hnew _ _) Ybad.underlying36 rfl (by kernel_rfl) ?_)
      refine (note_any ev (C m) bm w.heap.size m st _ _ _ _ (hE2 _ _) hev (by omega) (by omega) (by omega) (by have := hE.lt; omega) (hr3 _ _) _ _ _ _ _ _ _ _ _ _ _ _ _ _ _ _ _ _ _ _).mono ?_
      rintro e w2 ⟨rfl, hG, hR2⟩
      have hB3 : Below w.heap.size w w2 := (hB2 _ _).grown hG (by simp; omega) (fun k hk => by simp at hk; omega)
      have hcC : w2.cell? ⟨wr.heap.size, 2, none⟩ = some (.bool (C m)) := by
        have := (hG.block wr.heap.size (by simp; omega) (by simp; omega)).trans (hst _ _)
        simp [World.cell?, this]
      generalize hM : mdl ev.toList (C m) = M at hR2
      have HM : Hid (mdl ev.toList (C m) = M) := hM
      clear hM hst hnew hr3 hE2 hB2 e0 e1 e2 e3 e4
      go_wp2_with fail
      refine (model_any ev (C m) w2).mono ?_
      rintro e w3 ⟨rfl, rfl⟩
      rw [HM.out]
      have hc2 : w3.cell? ⟨w.heap.size, 2, none⟩ = some (.int .i64 (m + 1)) := by simp [World.cell?, hR2]
      have hc4 : w3.cell? ⟨w.heap.size, 4, none⟩ = some (.int .u8 (nextOf st M)) := by simp [World.cell?, hR2]
      have HR2 : Hid (w3.heap[w.heap.size]? = some (.cells #[.string ⟨#[]⟩, .int .i64 0, .int .i64 (m + 1), .int .u32 0, .int .u8 (nextOf st M)] 44 (0, 0))) := hR2
      clear hR2
      by_cases hm0 : (M != 0) = true
      · have hnx : nextOf st M = M := by simp [nextOf, hm0]
        rw [hnx] at hc4 HR2
        clear hnx
        go_wp2
        go_roundg (gk - 1)
        case measure => omega
        case rel => exact ⟨m + 1, M, by omega, by omega, by go_num, by go_num, rfl, hB3, by rw [HR2.out]; simp⟩
      · have hm1 : (M != 0) = false := by simpa using hm0
        clear hm0
        have hnx : nextOf st M = st := by simp [nextOf, hm1]
        rw [hnx] at hc4 HR2
        clear hnx
        go_wp2
        go_roundg (gk - 1)
        case measure => omega
        case rel => exact ⟨m + 1, st, by omega, by omega, by go_num, by go_num, rfl, hB3, by rw [HR2.out]; simp⟩
    · go_wp2
      go_ret
      exact ⟨rfl, hb⟩
end Go.Proofs.YbulkbpzeDoor
