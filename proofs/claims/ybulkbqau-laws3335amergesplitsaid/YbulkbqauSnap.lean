import Derived.Test.YbulkbqauBuild
import Derived.Test.YbulkbqauEq
import Derived.Test.YbulkbqauAsum
set_option linter.unusedVariables false
set_option linter.unusedSimpArgs false
namespace Go.Proofs.Ybulkbqau
open Go.RowKit

/-! ### A chunk's cells as a list -/
def lst (c : Nat → Int) : List Value := (List.range 7168).map fun i => .int (kd i) (c i)
theorem lst_length (c : Nat → Int) : (lst c).length = 7168 := by simp [lst]
theorem lst_at (c : Nat → Int) {o : Nat} (h : o < 7168) : (lst c)[o]? = some (.int (kd o) (c o)) := by simp [lst, h]
theorem lst_isArr (c : Nat → Int) : IsArr (lst c).toArray c := ⟨by simp [lst_length], fun o ho => by simpa using lst_at c ho⟩
theorem lst_one (c : Nat → Int) : (lst c).toArray.all (·.oneCell') = true := (lst_isArr c).one
theorem IsArr.eq_lst {z : Array Value} {c : Nat → Int} (h : IsArr z c) : z = (lst c).toArray := h.ext (lst_isArr c) (fun _ _ => rfl)
theorem Ch.blk {w : World} {b : Nat} {c : Nat → Int} (h : Ch w b c) : w.heap[b]? = some (.cells (lst c).toArray 37 (0, 0)) := by
  obtain ⟨z, hb, hz⟩ := h
  rw [hb, hz.eq_lst]
theorem lst_congr {c d : Nat → Int} (e : ∀ o, o < 7168 → c o = d o) : lst c = lst d := by
  unfold lst
  apply List.map_congr_left
  intro o ho
  rw [e o (List.mem_range.1 ho)]
theorem info_lst (c : Nat → Int) : (Yba.prog.info? 37).map (·.size) = some (lst c).toArray.size := by rw [(lst_isArr c).1]; exact info37
theorem info_lst' (c : Nat → Int) : (Yba.prog.info? 37).map (·.size) = some (lst c).length := by rw [lst_length]; exact info37
theorem Ch.of_row {w : World} {b : Nat} (c : Nat → Int) {old : Array Value} (h : w.heap[b]? = some (.cells old 37 (0, 0))) : Ch (w.setRow b (lst c).toArray) b c :=
  ⟨_, setRow_heap w b old _ 37 (0, 0) h, lst_isArr c⟩

/-! ### many cells at once -/
theorem blk_setCells (b : Nat) : ∀ (vs : List Value) (o : Nat) (w : World) (k : Nat), k ≠ b → (w.setCells b o vs).heap[k]? = w.heap[k]?
  | [], _, _, _, _ => rfl
  | v :: r, o, w, k, h => by
    rw [World.setCells, blk_setCells b r (o + 1) _ k h]
    exact Deep.blk_setCell_other _ _ _ _ h
theorem same_setCells (b : Nat) : ∀ (vs : List Value) (o : Nat) (w : World), (w.setCells b o vs).os = w.os ∧ (w.setCells b o vs).tape = w.tape ∧ (w.setCells b o vs).output = w.output ∧ (w.setCells b o vs).heap.size = w.heap.size
  | [], _, _ => ⟨rfl, rfl, rfl, rfl⟩
  | v :: r, o, w => by
    rw [World.setCells]
    obtain ⟨h1, h2, h3, h4⟩ := same_setCells b r (o + 1) (w.setCell ⟨b, o, none⟩ v)
    exact ⟨h1, h2, h3, by rw [h4]; simp⟩
theorem below_setCells {B b : Nat} {w0 w : World} (h : Below B w0 w) (hb : B ≤ b) (o : Nat) (vs : List Value) : Below B w0 (w.setCells b o vs) := by
  obtain ⟨h1, h2, h3, h4⟩ := same_setCells b vs o w
  exact h.trans ⟨h1, h2, h3, by omega, fun k hk => blk_setCells b vs o w k (by omega)⟩
theorem below_setRow' {B b : Nat} {w0 w : World} (h : Below B w0 w) (hb : B ≤ b) (cs : Array Value) : Below B w0 (w.setRow b cs) :=
  h.trans ⟨rfl, rfl, rfl, by simp, fun k hk => setRow_other _ _ _ _ (by omega)⟩

/-! ### A row of chunks, by value -/
structure Snap (w : World) (b n m : Nat) (C : Nat → Nat → Int) : Prop where
  there : ∀ k, k < n → w.there b (k * 7168) 7168
  rng : ∀ k, k < m → w.rangeAt b (k * 7168) (lst (C k))

namespace Snap
variable {w w' : World} {b n m : Nat} {C : Nat → Nat → Int}
theorem kept (h : Snap w b n m C) (e : w'.heap[b]? = w.heap[b]?) : Snap w' b n m C where
  there := fun k hk j hj => by
    have := h.there k hk j hj
    rw [World.cell?_of_block (w := w) (a := ⟨b, _, none⟩) e, show w'.frozen? ⟨b, k * 7168 + j, none⟩ = w.frozen? ⟨b, k * 7168 + j, none⟩ by simp [World.frozen?, e]]
    exact this
  rng := fun k hk j v hv => by
    rw [World.cell?_of_block (w := w) (a := ⟨b, _, none⟩) e]
    exact h.rng k hk j v hv
theorem step (h : Snap w b n m C) (hm : m < n) : Snap (w.setCells b (m * 7168) (lst (C m))) b n (m + 1) C where
  there := fun k hk => World.there_setCells (h.there k hk) _ _ _
  rng := fun k hk => by
    by_cases e : k = m
    · subst e
      exact World.rangeAt_setCells_same _ _ _ _ (by rw [lst_length]; exact h.there k hm)
    · exact World.rangeAt_setCells_apart (h.rng k (by omega)) _ _ _ (by rw [lst_length]; omega)
theorem made (w : World) (zz : Array Value) (n : Nat) (hz : zz.size = n * 7168) (C : Nat → Nat → Int) : Snap (w.alloc (.cells zz 37)) w.heap.size n 0 C where
  there := fun k hk j hj => by
    have hb := Deep.blk_alloc_new w (.cells zz 37)
    have hlt : k * 7168 + j < zz.size := by
      rw [hz]
      have : (k + 1) * 7168 ≤ n * 7168 := Nat.mul_le_mul_right _ hk
      omega
    generalize w.alloc (.cells zz 37) = w1 at hb ⊢
    generalize w.heap.size = g at hb ⊢
    refine ⟨?_, by simp [World.frozen?, hb]⟩
    simp [World.cell?, hb, hlt]
  rng := fun k hk => by omega
end Snap

theorem make37 (n : Nat) (hn : n ≤ 1000) : ∃ zz : Array Value, zz.size = n * 7168 ∧ ∀ w : World, (Instr.makeSlice 29 (.int .i64 (n : Int)) (.int .i64 (n : Int))).run Yba.prog w = .ok (.slice (some ⟨w.heap.size, 0, none⟩) n n) (w.alloc (.cells zz 37)) := by
  have hi := (show (Yba.prog.info? 37).map (fun i => (i.zero.isSome, i.size, i.bytes)) = some (true, 7168, 49152) by kernel_rfl)
  cases hq : Yba.prog.info? 37 with
  | none => simp [hq] at hi
  | some i =>
    simp [hq] at hi
    obtain ⟨hz, hs, hb⟩ := hi
    obtain ⟨z, hz⟩ := Option.isSome_iff_exists.1 hz
    refine ⟨madeCells z.cells (n * 7168), size_madeCells _ _, fun w => ?_⟩
    have := run_make (P := Yba.prog) w 29 37 i z Yba.underlying29 hq hz .i64 .i64 n n (by omega) (Int.le_refl _) (by rw [hb]; omega) (by omega)
    rw [hs] at this
    simpa using this

theorem make30 (n : Nat) (hn : n ≤ 1000) : ∃ zz : Array Value, zz.size = n ∧ ∀ w : World, (Instr.makeSlice 26 (.int .i64 (n : Int)) (.int .i64 (n : Int))).run Yba.prog w = .ok (.slice (some ⟨w.heap.size, 0, none⟩) n n) (w.alloc (.cells zz 30)) := by
  obtain ⟨i0, hi0, hz0, hz1, hz2⟩ := info_parts info30
  refine ⟨madeCells (Value.pointer none).cells (n * 1), by rw [size_madeCells]; omega, fun w => ?_⟩
  have := run_make (P := Yba.prog) w 26 30 i0 (.pointer none) Yba.underlying26 hi0 hz0 .i64 .i64 n n (by omega) (Int.le_refl _) (by rw [hz2]; omega) (by omega)
  rw [hz1] at this
  simpa using this

/-! ### Two chunks of the round's own -/
structure XY (w0 w : World) (c d : Nat → Int) : Prop where
  x : Ch w w0.heap.size c
  y : Ch w (w0.heap.size + 1) d
  below : Below w0.heap.size w0 w

namespace XY
variable {w0 w : World} {c d : Nat → Int}
theorem start (w0 : World) {z : Array Value} (hz : IsArr z (fun _ => 0)) : XY w0 ((w0.alloc (.cells z 37)).alloc (.cells z 37)) (fun _ => 0) (fun _ => 0) where
  x := ⟨z, by rw [Deep.blk_alloc_lt _ _ _ (by simp)]; exact Deep.blk_alloc_new _ _, hz⟩
  y := ⟨z, by have := Deep.blk_alloc_new (w0.alloc (.cells z 37)) (.cells z 37); simpa using this, hz⟩
  below := ((Below.refl _ _).alloc (Nat.le_refl _) _).alloc (by simp) _
theorem setX (h : XY w0 w c d) (c' : Nat → Int) : XY w0 (w.setRow w0.heap.size (lst c').toArray) c' d where
  x := Ch.of_row c' h.x.blk
  y := h.y.of_block (setRow_other _ _ _ _ (by omega))
  below := below_setRow' h.below (Nat.le_refl _) _
theorem setY (h : XY w0 w c d) (d' : Nat → Int) : XY w0 (w.setRow (w0.heap.size + 1) (lst d').toArray) c d' where
  x := h.x.of_block (setRow_other _ _ _ _ (by omega))
  y := Ch.of_row d' h.y.blk
  below := below_setRow' h.below (by omega) _
end XY

/-! ### Sums: a lower base; its other fields written -/
theorem Sums.lower {w : World} {base base' S : Nat} {ao : Option Addr} {n cap : Nat} {B : Nat → Nat} {C : Nat → Nat → Int} {rounds inf : Int} {left : Bool}
    (h : Sums w base S ao n cap B C rounds inf left) (hb : base' ≤ base) : Sums w base' S ao n cap B C rounds inf left where
  obj := h.obj
  own := by
    obtain ⟨h1, h2⟩ := h.own
    refine ⟨h1, ?_⟩
    rcases h2 with h2 | ⟨g, cp, cur, hv, hg, r⟩
    · exact .inl h2
    · exact .inr ⟨g, cp, cur, hv, Nat.le_trans hb hg, r⟩
  chunks := h.chunks
  inj := h.inj
  hS := Nat.le_trans hb h.hS
  hB := fun j hj => Nat.le_trans hb (h.hB j hj)

theorem Sums.fields {w : World} {base S : Nat} {ao : Option Addr} {n cap : Nat} {B : Nat → Nat} {C : Nat → Nat → Int} {rounds inf : Int} {left : Bool}
    (hs : Sums w base S ao n cap B C rounds inf left) (v : Int) (l : Bool) : Sums ((w.setCell ⟨S, 2, none⟩ (.int .i64 v)).setCell ⟨S, 3, none⟩ (.bool l)) base S ao n cap B C rounds v l := by
  refine ⟨by simp [World.setCell, Array.getElem?_modify, hs.obj], ?_, fun j hj => ((hs.chunks j hj).other (hs.apart_S.1 j hj) _).other (hs.apart_S.1 j hj) _, hs.inj, hs.hS, hs.hB⟩
  obtain ⟨h1, h2⟩ := hs.own
  refine ⟨h1, ?_⟩
  rcases h2 with h2 | ⟨g, cp, cur, hv, hb, hgg, r⟩
  · exact .inl h2
  · have hne : g ≠ S := by
      intro e
      simp only [Value.slice.injEq] at hv
      exact hs.apart_S.2 (by rw [hv.1, e]; rfl)
    refine .inr ⟨g, cp, cur, hv, hb, ?_, r⟩
    rw [Deep.blk_setCell_other _ _ _ _ hne, Deep.blk_setCell_other _ _ _ _ hne]
    exact hgg

/-- what leaves all below leaves it -/
theorem Sums.below {w w' : World} {base S : Nat} {ao : Option Addr} {n cap : Nat} {B : Nat → Nat} {C : Nat → Nat → Int} {rounds inf : Int} {left : Bool} {L : Nat}
    (h : Sums w base S ao n cap B C rounds inf left) (hb : Below L w w') (hL : ∀ k, FP S ao n B k → k < L) (hLs : L ≤ w.heap.size) : Sums w' base S ao n cap B C rounds inf left :=
  h.kept (R := fun k => L ≤ k) ⟨hb.os, hb.tape, hb.output, hb.size, fun k hk hn => hb.block k (by omega)⟩ (fun k hk => by have := hL k hk; omega)

/-- the sums, chunk by chunk -/
theorem mrg_eq {C D : Nat → Nat → Int} {n n2 k : Nat} (hC : ∀ j, j < n → Rng (C j)) : ∀ o, o < 7168 → mrgC (padC C n) D n2 k o = addC (padC C n k) (padC D n2 k) o := by
  intro o ho
  unfold mrgC
  by_cases h : k < n2
  · rw [if_pos h]; simp only [padC, h, if_true]
  · rw [if_neg h]
    have e : padC D n2 k = fun _ => 0 := by simp [padC, h]
    rw [e, add_zero (rng_pad hC k) o ho]

end Go.Proofs.Ybulkbqau
