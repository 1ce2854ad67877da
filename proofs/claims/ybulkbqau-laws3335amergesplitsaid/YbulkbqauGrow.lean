import Derived.Test.YbulkbqauSums
set_option linter.unusedVariables false
set_option linter.unusedSimpArgs false
namespace Go.Proofs.Ybulkbqau
open Go.RowKit

/-- the chunks behind a grow: the old ones, then zeros -/
def padC (C : Nat → Nat → Int) (n : Nat) : Nat → Nat → Int := fun j => if j < n then C j else fun _ => 0

/-- what grow has done so far -/
structure GrowInv (w wr : World) (base S : Nat) (ao : Option Addr) (n cap : Nat) (B : Nat → Nat) (C : Nat → Nat → Int) (rounds rounds' inf : Int) (left : Bool) (ao' : Option Addr) (n' cap' : Nat) (B' : Nat → Nat) : Prop where
  sums : Sums wr base S ao' n' cap' B' (padC C n) rounds' inf left
  le : n ≤ n'
  old : ∀ j, j < n → B' j = B j
  new : ∀ j, n ≤ j → j < n' → w.heap.size ≤ B' j
  row : ao' = ao ∨ ∀ k, ao'.map (·.block) = some k → w.heap.size ≤ k
  only : Only w wr (FP S ao n B)

theorem GrowInv.fp {w wr : World} {base S : Nat} {ao : Option Addr} {n cap : Nat} {B : Nat → Nat} {C : Nat → Nat → Int} {rounds rounds' inf : Int} {left : Bool} {ao' : Option Addr} {n' cap' : Nat} {B' : Nat → Nat}
    (h : GrowInv w wr base S ao n cap B C rounds rounds' inf left ao' n' cap' B') {k : Nat} (hk : FP S ao' n' B' k) : FP S ao n B k ∨ w.heap.size ≤ k := by
  rcases hk with rfl | hk | ⟨j, hj, rfl⟩
  · exact .inl (.inl rfl)
  · rcases h.row with e | e
    · rw [e] at hk; exact .inl (.inr (.inl hk))
    · exact .inr (e k hk)
  · by_cases hn : j < n
    · exact .inl (.inr (.inr ⟨j, hn, h.old j hn⟩))
    · exact .inr (h.new j (by omega) hj)

theorem grow_start {w : World} {base S : Nat} {ao : Option Addr} {n cap : Nat} {B : Nat → Nat} {C : Nat → Nat → Int} {rounds inf : Int} {left : Bool}
    (h : Sums w base S ao n cap B C rounds inf left) : GrowInv w w base S ao n cap B C rounds rounds inf left ao n cap B where
  sums := ⟨h.obj, h.own, fun j hj => by simpa [padC, hj] using h.chunks j hj, h.inj, h.hS, h.hB⟩
  le := Nat.le_refl _
  old := fun _ _ => rfl
  new := fun j h1 h2 => by omega
  row := .inl rfl
  only := Only.refl _ _

theorem grow_step {w wr w1 : World} {base S : Nat} {ao : Option Addr} {n cap : Nat} {B : Nat → Nat} {C : Nat → Nat → Int} {rounds inf : Int} {left : Bool} {ao' : Option Addr} {n' cap' : Nat} {B' : Nat → Nat}
    (h : GrowInv w wr base S ao n cap B C rounds rounds inf left ao' n' cap' B') {z : Array Value} (hz : IsArr z (fun _ => 0)) {o : Obj} {g2 cap2 : Nat} (hbase : base ≤ wr.heap.size)
    (hown : w1.ownsRow base 30 1 (.slice (some ⟨g2, 0, none⟩) (n' + 1) cap2) (n' + 1) (((List.range n').map fun j => .pointer (some ⟨B' j, 0, none⟩)) ++ [.pointer (some ⟨wr.heap.size, 0, none⟩)]))
    (hg : ((wr.alloc (.cells z 37)).alloc o).grownBy w1 (ao'.map (·.block))) (hf : ao' = some ⟨g2, 0, none⟩ ∨ (((wr.alloc (.cells z 37)).alloc o).heap.size ≤ g2 ∧ ((wr.alloc (.cells z 37)).alloc o).grownBy w1 none)) :
    w1.cell? ⟨S, 0, none⟩ = some (.slice ao' n' cap') ∧ w1.frozen? ⟨S, 0, none⟩ = false ∧
    GrowInv w (w1.setCell ⟨S, 0, none⟩ (.slice (some ⟨g2, 0, none⟩) (n' + 1) cap2)) base S ao n cap B C rounds rounds inf left (some ⟨g2, 0, none⟩) (n' + 1) cap2 (fun j => if j < n' then B' j else wr.heap.size) := by
  have hsz : ((wr.alloc (.cells z 37)).alloc o).heap.size = wr.heap.size + 1 + 1 := by simp
  have hSlt := h.sums.lt (.inl rfl)
  have hblk : ∀ k, k < wr.heap.size → ao'.map (·.block) ≠ some k → w1.heap[k]? = wr.heap[k]? := fun k hk hne => by
    rw [hg.block k (by omega) (fun e => hne e.symm), Deep.blk_alloc_lt _ _ _ (by simp; omega), Deep.blk_alloc_lt _ _ _ hk]
  have hnew : w1.heap[wr.heap.size]? = some (.cells z 37 (0, 0)) := by
    rw [hg.block wr.heap.size (by omega) (fun e => by have := h.sums.lt (.inr (.inl e.symm)); omega), Deep.blk_alloc_lt _ _ _ (by simp)]
    exact Deep.blk_alloc_new _ _
  have hS1 : w1.heap[S]? = some (.cells #[.slice ao' n' cap', .int .i64 rounds, .int .i64 inf, .bool left] 28 (0, 0)) := (hblk S hSlt h.sums.apart_S.2).trans h.sums.obj
  have hg2 : g2 ≠ S := fun e => by
    rcases hf with hf | ⟨hf, _⟩
    · exact h.sums.apart_S.2 (by rw [hf, ← e]; rfl)
    · omega
  refine ⟨by simp [World.cell?, hS1], by simp [World.frozen?, hS1], ?_⟩
  have hch : ∀ j, j < n' → Ch w1 (B' j) (padC C n j) := fun j hj => (h.sums.chunks j hj).of_block (hblk _ (h.sums.chunks j hj).lt (h.sums.apart_row hj))
  refine ⟨⟨?_, ?_, ?_, ?_, h.sums.hS, ?_⟩, by have := h.le; omega, ?_, ?_, ?_, ?_⟩
  · simp [World.setCell, Array.getElem?_modify, hS1]
  · have e : ((List.range (n' + 1)).map fun j => Value.pointer (some ⟨if j < n' then B' j else wr.heap.size, 0, none⟩)) = ((List.range n').map fun j => Value.pointer (some ⟨B' j, 0, none⟩)) ++ [.pointer (some ⟨wr.heap.size, 0, none⟩)] := by
      rw [List.range_succ, List.map_append]
      congr 1
      · apply List.map_congr_left
        intro j hj
        simp [List.mem_range.1 hj]
      · simp
    rw [e]
    obtain ⟨h1, h2⟩ := hown
    refine ⟨h1, ?_⟩
    rcases h2 with h2 | ⟨g, cp, cur, hv, hb, hgg, r⟩
    · exact .inl h2
    · refine .inr ⟨g, cp, cur, hv, hb, ?_, r⟩
      simp only [Value.slice.injEq, Option.some.injEq, Addr.mk.injEq, and_true, true_and] at hv
      rw [Deep.blk_setCell_other _ _ _ _ (by show g ≠ S; rw [← hv.1]; exact hg2)]
      exact hgg
  · intro j hj
    by_cases e : j < n'
    · simp only [e, if_true]
      exact (hch j e).other (h.sums.apart_S.1 j e) _
    · obtain rfl : j = n' := by omega
      have hz0 : padC C n j = fun _ => 0 := by have := h.le; simp [padC, show ¬ j < n by omega]
      rw [hz0]
      simp only [Nat.lt_irrefl, if_false]
      exact Ch.other ⟨z, hnew, hz⟩ (by show wr.heap.size ≠ S; omega) _
  · intro i j hi hj e
    by_cases h1 : i < n' <;> by_cases h2 : j < n' <;> simp only [h1, h2, if_true, if_false] at e
    · exact h.sums.inj i j h1 h2 e
    · have := (h.sums.chunks i h1).lt; omega
    · have := (h.sums.chunks j h2).lt; omega
    · omega
  · intro j hj
    by_cases e : j < n'
    · simp only [e, if_true]; exact h.sums.hB j e
    · simp only [e, if_false]; exact hbase
  · intro j hj
    have := h.le
    simp only [show j < n' by omega, if_true]
    exact h.old j hj
  · intro j h1 h2
    by_cases e : j < n'
    · simp only [e, if_true]; exact h.new j h1 e
    · simp only [e, if_false]; exact h.only.size
  · rcases hf with hf | ⟨hf, _⟩
    · rcases h.row with e | e
      · left; rw [← hf, e]
      · right; intro k hk; exact e k (by rw [hf]; exact hk)
    · right; intro k hk; simp at hk; have := h.only.size; omega
  · refine (((h.only.alloc _).alloc _).grown hg ?_).setCell (.inl (.inl rfl)) _
    intro k hk
    exact h.fp (.inr (.inl hk))

theorem grow_end {w wr : World} {base S : Nat} {ao : Option Addr} {n cap : Nat} {B : Nat → Nat} {C : Nat → Nat → Int} {rounds inf : Int} {left : Bool} {ao' : Option Addr} {n' cap' : Nat} {B' : Nat → Nat}
    (h : GrowInv w wr base S ao n cap B C rounds rounds inf left ao' n' cap' B') (v : Int) :
    GrowInv w (wr.setCell ⟨S, 1, none⟩ (.int .i64 v)) base S ao n cap B C rounds v inf left ao' n' cap' B' where
  sums := by
    have hs := h.sums
    refine ⟨by simp [World.setCell, Array.getElem?_modify, hs.obj], ?_, fun j hj => (hs.chunks j hj).other (hs.apart_S.1 j hj) _, hs.inj, hs.hS, hs.hB⟩
    obtain ⟨h1, h2⟩ := hs.own
    refine ⟨h1, ?_⟩
    rcases h2 with h2 | ⟨g, cp, cur, hv, hb, hgg, r⟩
    · exact .inl h2
    · refine .inr ⟨g, cp, cur, hv, hb, ?_, r⟩
      rw [Deep.blk_setCell_other _ _ _ _ (by
        show g ≠ S
        intro e
        simp only [Value.slice.injEq] at hv
        exact hs.apart_S.2 (by rw [hv.1, e]; rfl))]
      exact hgg
  le := h.le
  old := h.old
  new := h.new
  row := h.row
  only := h.only.setCell (.inl (.inl rfl)) _

/-- what grow leaves -/
def GrowPost (w w' : World) (base S : Nat) (ao : Option Addr) (n cap : Nat) (B : Nat → Nat) (C : Nat → Nat → Int) (rounds inf : Int) (left : Bool) (r : Nat) : Prop :=
  ∃ ao' n' cap' B', GrowInv w w' base S ao n cap B C rounds (max rounds r) inf left ao' n' cap' B' ∧ r ≤ n' * 1024 ∧ (n' = n ∨ (n' - 1) * 1024 < r)

theorem info30 : (Yba.prog.info? 30).map (fun i => (i.zero, i.size, i.bytes)) = some (some (.pointer none), 1, 8) := by kernel_rfl

set_option maxHeartbeats 1000000 in
theorem grow_any (base S : Nat) (ao : Option Addr) (n cap : Nat) (B : Nat → Nat) (C : Nat → Nat → Int) (rounds inf : Int) (left : Bool) (r : Nat) (w : World)
    (hw : Sums w base S ao n cap B C rounds inf left) (hr : r ≤ 1000000) (hn : n ≤ 1000000) (hr0 : 0 ≤ rounds) (hr1 : rounds ≤ 1000000) (hbase : base ≤ w.heap.size) :
    Calls Yba.prog 9 #[.pointer (some ⟨S, 0, none⟩), .int .i64 r] w fun e w' => e = .returned (.tuple #[]) ∧
      GrowPost w w' base S ao n cap B C rounds inf left r := by
  obtain ⟨z, hzc, hz⟩ := zero37
  obtain ⟨i0, hi0, hz0, hz1, hz2⟩ := info_parts info30
  go_enter Yba.func9, Yba.ntmps9
  go_wp2
  go_loopg [] (r + 1) (fun k wr => ∃ ao' n' cap' B', GrowInv w wr base S ao n cap B C rounds rounds inf left ao' n' cap' B' ∧ k + n' = r + 1 + n ∧ (n' = n ∨ (n' - 1) * 1024 < r))
  case atStart => exact ⟨ao, n, cap, B, grow_start hw, rfl, .inl rfl⟩
  case round =>
    obtain ⟨ao', n', cap', B', hI, hk, hl⟩ := hrel
    obtain ⟨c0, c1, c2, c3⟩ := hI.sums.cell
    have f0 := hI.sums.frozen 0
    have f1 := hI.sums.frozen 1
    by_cases hlt : n' * 1024 < r
    · have hlt' : (n' : Int) * 1024 < (r : Int) := by omega
      have hwb : base ≤ wr.heap.size := Nat.le_trans hbase hI.only.size
      have hbd : (n' + 1) * 8 ≤ 140737488355328 := by omega
      have hbd2 : n' + 1 ≤ maxLen := by unfold maxLen; omega
      go_wp2_with (at_builtin; refine wpList_append_vec _ rfl (.tmp 16) (.tmp 18) 26 rfl base 30 i0 (.pointer none) 8 Yba.underlying26 hi0 hz0 hz1 hz2 rfl ao' n' cap' _ rfl ((hI.sums.own.alloc _).alloc _) ⟨wr.heap.size + 1, 0, none⟩ (.pointer (some ⟨wr.heap.size, 0, none⟩)) rfl ?_ rfl hbd2 hbd (by simp; omega) ?_)
      · simp
      intro g2 cap2 w1 hown hg hf
      obtain ⟨d0, e0, hI'⟩ := grow_step hI hzc hwb hown hg (by simpa using hf)
      clear hown hg hf c0 c1 c2 c3 f0 f1
      go_wp2
      go_roundg (gk - 1)
      case measure => omega
      case rel => exact ⟨_, n' + 1, cap2, _, hI', by omega, .inr (by simpa using hlt)⟩
    · have hlt' : ¬ (n' : Int) * 1024 < (r : Int) := by omega
      have HI : Hid (GrowInv w wr base S ao n cap B C rounds rounds inf left ao' n' cap' B') := hI
      by_cases hmx : rounds < r
      · go_wp2
        go_end0
        refine ⟨rfl, ao', n', cap', B', ?_, by omega, hl⟩
        rw [show max rounds (r : Int) = r by omega]
        exact grow_end HI.out _
      · go_wp2
        go_end0
        refine ⟨rfl, ao', n', cap', B', ?_, by omega, hl⟩
        rw [show max rounds (r : Int) = rounds by omega]
        exact grow_end HI.out _
end Go.Proofs.Ybulkbqau
