import Derived.Test.YbulkbqauRun
import Derived.Test.YbulkbqauSumsDefs
set_option linter.unusedVariables false
set_option linter.unusedSimpArgs false
namespace Go.Proofs.Ybulkbqau
open Go.RowKit

/-- a lawSums at S whose figures are T, R rounds; its blocks are F -/
structure HasAt (w : World) (base S : Nat) (T : Nat → Nat → Int) (R : Nat) (F : Nat → Prop) (ao : Option Addr) (n cap : Nat) (B : Nat → Nat) (C : Nat → Nat → Int) (inf : Int) (left : Bool) : Prop where
  sums : Sums w base S ao n cap B C R inf left
  rng : ∀ j, j < n → Rng (C j)
  top : R ≤ n * 1024
  low : n = 0 ∨ (n - 1) * 1024 < R
  eq : ∀ q o, o < 7168 → padC C n q o = T q o
  fp : ∀ k, F k ↔ FP S ao n B k
def Has (w : World) (base S : Nat) (T : Nat → Nat → Int) (R : Nat) (F : Nat → Prop) : Prop := ∃ ao n cap B C inf left, HasAt w base S T R F ao n cap B C inf left

theorem Has.kept {w w' : World} {base S : Nat} {T : Nat → Nat → Int} {R : Nat} {F G : Nat → Prop} (h : Has w base S T R F) (ho : Only w w' G) (hd : ∀ k, F k → ¬ G k) : Has w' base S T R F := by
  obtain ⟨ao, n, cap, B, C, inf, left, h⟩ := h
  exact ⟨ao, n, cap, B, C, inf, left, h.sums.kept ho (fun k hk => hd k ((h.fp k).2 hk)), h.rng, h.top, h.low, h.eq, h.fp⟩
theorem Has.lt {w : World} {base S : Nat} {T : Nat → Nat → Int} {R : Nat} {F : Nat → Prop} (h : Has w base S T R F) {k : Nat} (hk : F k) : k < w.heap.size := by
  obtain ⟨ao, n, cap, B, C, inf, left, h⟩ := h
  exact h.sums.lt ((h.fp k).1 hk)
theorem Has.ge {w : World} {base S : Nat} {T : Nat → Nat → Int} {R : Nat} {F : Nat → Prop} (h : Has w base S T R F) {k : Nat} (hk : F k) : base ≤ k := by
  obtain ⟨ao, n, cap, B, C, inf, left, h⟩ := h
  exact h.sums.ge ((h.fp k).1 hk)
theorem Has.congr {w : World} {base S : Nat} {T T' : Nat → Nat → Int} {R : Nat} {F : Nat → Prop} (h : Has w base S T R F) (e : ∀ q o, o < 7168 → T q o = T' q o) : Has w base S T' R F := by
  obtain ⟨ao, n, cap, B, C, inf, left, h⟩ := h
  exact ⟨ao, n, cap, B, C, inf, left, h.sums, h.rng, h.top, h.low, fun q o ho => (h.eq q o ho).trans (e q o ho), h.fp⟩

/-- a new one -/
theorem Has.new {w : World} {base S : Nat} (hb : w.heap[S]? = some (.cells #[.slice none 0 0, .int .i64 0, .int .i64 0, .bool false] 28 (0, 0))) (hS : base ≤ S) : Has w base S (fun _ _ => 0) 0 (fun k => k = S) :=
  ⟨none, 0, 0, fun _ => 0, fun _ _ => 0, 0, false, ⟨hb, World.ownsRow_nil _ _ _ _, fun j hj => by omega, fun i j hi => by omega, hS, fun j hj => by omega⟩, fun j hj => by omega, by omega, .inl rfl, fun q o _ => by simp [padC],
    fun k => ⟨fun h => .inl h, fun h => by
      rcases h with h | h | ⟨j, hj, _⟩
      · exact h
      · simp at h
      · omega⟩⟩

/-- a run added -/
theorem has_run (base S : Nat) (T : Nat → Nat → Int) (R : Nat) (F : Nat → Prop)
    (aI : Option Addr) (nI kI : Nat) (aL : Option Addr) (nL kL : Nat) (aM : Option Addr) (nM kM : Nat) (gI oI gL oL gM oM : Nat) (X : Nat → Int) (L : Nat → Bool) (M : Nat → Nat) (w : World)
    (hw : Has w base S T R F) (hR : R ≤ 100000) (hbase : base ≤ w.heap.size)
    (hrun : RunAt w aI nI aL nL aM nM gI oI gL oL gM oM X L M) (hBI : 0 < nI → gI < base) (hBL : 0 < nL → gL < base) (hBM : 0 < nM → gM < base) (hnI : nI ≤ 3000) :
    Calls Yba.prog 8 #[.pointer (some ⟨S, 0, none⟩), .agg #[.slice aI nI kI, .slice aL nL kL, .slice aM nM kM]] w fun e w' => e = .returned (.tuple #[]) ∧
      ∃ F', Has w' base S (fun q => addC (T q) (E X (lAt nL L) (mAt nM M) nI q)) (max R nI) F' ∧ Only w w' F ∧ ∀ k, F' k → F k ∨ w.heap.size ≤ k := by
  obtain ⟨ao, n, cap, B, C, inf, left, h⟩ := hw
  refine (run_any base S ao n cap B C R inf left aI nI kI aL nL kL aM nM kM gI oI gL oL gM oM X L M w h.sums h.rng h.top h.low hR hbase hrun hBI hBL hBM hnI).mono ?_
  rintro e w' ⟨rfl, ao2, n2, cap2, B2, C2, inf2, left2, hI⟩
  refine ⟨rfl, FP S ao2 n2 B2, ⟨ao2, n2, cap2, B2, C2, inf2, left2, hI.sums, hI.rng, hI.top, hI.low, fun q o ho => ?_, fun k => Iff.rfl⟩, ?_, fun k hk => ?_⟩
  · rw [hI.eq q o ho]
    exact add_congr (fun o ho => h.eq q o ho) (fun o _ => rfl) o ho
  · have := hI.only
    refine (((Only.refl w F).alloc _).trans (this.mono (R' := F) (fun k _ hk => (h.fp k).2 hk)) (fun k _ hk => hk))
  · rcases hI.fp k hk with h' | h'
    · exact .inl ((h.fp k).2 h')
    · exact .inr (Nat.le_trans (by simp) h')

/-- the three sums of the law, k runs on -/
structure Tri (w wr : World) (S1 S2 S3 s k : Nat) (T1 T2 T3 : Nat → Nat → Int) (R1 R2 R3 : Nat) (F1 F2 F3 : Nat → Prop) : Prop where
  one : Has wr w.heap.size S1 T1 R1 F1
  two : Has wr w.heap.size S2 T2 R2 F2
  three : Has wr w.heap.size S3 T3 R3 F3
  d12 : ∀ k, F1 k → ¬ F2 k
  d13 : ∀ k, F1 k → ¬ F3 k
  d23 : ∀ k, F2 k → ¬ F3 k
  rounds : R1 = max R2 R3
  le : R1 ≤ 3000
  eq : ∀ q o, o < 7168 → T1 q o = addC (T2 q) (T3 q) o
  first : k ≤ s → (∀ q o, T3 q o = 0) ∧ R3 = 0
  below : Below w.heap.size w wr
def TriEx (w wr : World) (S1 S2 S3 s k : Nat) : Prop := ∃ T1 T2 T3 R1 R2 R3 F1 F2 F3, Tri w wr S1 S2 S3 s k T1 T2 T3 R1 R2 R3 F1 F2 F3

theorem Tri.kept {w wr wx : World} {S1 S2 S3 s k : Nat} {T1 T2 T3 : Nat → Nat → Int} {R1 R2 R3 : Nat} {F1 F2 F3 : Nat → Prop} (h : Tri w wr S1 S2 S3 s k T1 T2 T3 R1 R2 R3 F1 F2 F3) (ho : Only wr wx (fun _ => False)) :
    Tri w wx S1 S2 S3 s k T1 T2 T3 R1 R2 R3 F1 F2 F3 :=
  ⟨h.one.kept ho (fun _ _ h => h), h.two.kept ho (fun _ _ h => h), h.three.kept ho (fun _ _ h => h), h.d12, h.d13, h.d23, h.rounds, h.le, h.eq, h.first, h.below.trans (ho.below (fun k h => h.elim) h.below.size)⟩

theorem tri_two {w wr wx wy : World} {S1 S2 S3 s k : Nat} {T1 T2 T3 : Nat → Nat → Int} {R1 R2 R3 : Nat} {F1 F2 F3 F1' F2' : Nat → Prop} {e : Nat → Nat → Int} {nI : Nat} (h : Tri w wr S1 S2 S3 s k T1 T2 T3 R1 R2 R3 F1 F2 F3)
    (hk : k < s) (hn : nI ≤ 3000) (hx : Has wx w.heap.size S1 (fun q => addC (T1 q) (e q)) (max R1 nI) F1') (ox : Only wr wx F1) (fx : ∀ k, F1' k → F1 k ∨ wr.heap.size ≤ k)
    (hy : Has wy w.heap.size S2 (fun q => addC (T2 q) (e q)) (max R2 nI) F2') (oy : Only wx wy F2) (fy : ∀ k, F2' k → F2 k ∨ wx.heap.size ≤ k) :
    TriEx w wy S1 S2 S3 s (k + 1) := by
  have h3 : (fun q => T3 q) = fun _ _ => 0 := by funext q o; exact (h.first (by omega)).1 q o
  refine ⟨_, _, T3, _, _, R3, F1', F2', F3, hx.kept oy (fun k hk hk2 => ?_), hy, (h.three.kept ox (fun k h3 h1 => h.d13 k h1 h3)).kept oy (fun k h3 h2 => h.d23 k h2 h3), fun k h1 h2 => ?_, fun k h1 h3 => ?_, fun k h2 h3 => ?_, ?_, ?_, fun q o ho => ?_, fun _ => h.first (by omega), ?_⟩
  · rcases fx k hk with h1 | h1
    · exact h.d12 k h1 hk2
    · have := h.two.lt hk2; omega
  · rcases fy k h2 with h2 | h2
    · rcases fx k h1 with h1 | h1
      · exact h.d12 k h1 h2
      · have := h.two.lt h2; omega
    · have := hx.lt h1; omega
  · rcases fx k h1 with h1 | h1
    · exact h.d13 k h1 h3
    · have := h.three.lt h3; omega
  · rcases fy k h2 with h2 | h2
    · exact h.d23 k h2 h3
    · have := h.three.lt h3; have := ox.size; omega
  · have := h.rounds; have := (h.first (by omega)).2; omega
  · have := h.le; omega
  · have e3 : T3 q = fun _ => 0 := by funext p; exact (h.first (by omega)).1 q p
    show addC (T1 q) (e q) o = addC (addC (T2 q) (e q)) (T3 q) o
    rw [e3, add_zero (rng_add _ _) o ho]
    refine add_congr (fun p hp => ?_) (fun p _ => rfl) o ho
    rw [h.eq q p hp, e3]
    obtain ⟨ao, n, cap, B, C, inf, left, h2⟩ := h.two
    exact add_zero (rng_congr (rng_pad h2.rng q) (fun o ho => (h2.eq q o ho).symm)) p hp
  · exact (h.below.trans (ox.below (fun k hk => h.one.ge hk) h.below.size)).trans (oy.below (fun k hk => h.two.ge hk) (Nat.le_trans h.below.size ox.size))

theorem tri_three {w wr wx wy : World} {S1 S2 S3 s k : Nat} {T1 T2 T3 : Nat → Nat → Int} {R1 R2 R3 : Nat} {F1 F2 F3 F1' F3' : Nat → Prop} {e : Nat → Nat → Int} {nI : Nat} (h : Tri w wr S1 S2 S3 s k T1 T2 T3 R1 R2 R3 F1 F2 F3)
    (hk : ¬ k < s) (hn : nI ≤ 3000) (hx : Has wx w.heap.size S1 (fun q => addC (T1 q) (e q)) (max R1 nI) F1') (ox : Only wr wx F1) (fx : ∀ k, F1' k → F1 k ∨ wr.heap.size ≤ k)
    (hy : Has wy w.heap.size S3 (fun q => addC (T3 q) (e q)) (max R3 nI) F3') (oy : Only wx wy F3) (fy : ∀ k, F3' k → F3 k ∨ wx.heap.size ≤ k) :
    TriEx w wy S1 S2 S3 s (k + 1) := by
  refine ⟨_, T2, _, _, R2, _, F1', F2, F3', hx.kept oy (fun k hk hk2 => ?_), (h.two.kept ox (fun k h2 h1 => h.d12 k h1 h2)).kept oy (fun k h2 h3 => h.d23 k h2 h3), hy, fun k h1 h2 => ?_, fun k h1 h3 => ?_, fun k h2 h3 => ?_, ?_, ?_, fun q o ho => ?_, fun hh => by omega, ?_⟩
  · rcases fx k hk with h1 | h1
    · exact h.d13 k h1 hk2
    · have := h.three.lt hk2; omega
  · rcases fx k h1 with h1 | h1
    · exact h.d12 k h1 h2
    · have := h.two.lt h2; omega
  · rcases fy k h3 with h3 | h3
    · rcases fx k h1 with h1 | h1
      · exact h.d13 k h1 h3
      · have := h.three.lt h3; omega
    · have := hx.lt h1; omega
  · rcases fy k h3 with h3 | h3
    · exact h.d23 k h2 h3
    · have := h.two.lt h2; have := ox.size; omega
  · have := h.rounds; omega
  · have := h.le; omega
  · show addC (T1 q) (e q) o = addC (T2 q) (addC (T3 q) (e q)) o
    rw [← add_assoc]
    exact add_congr (fun p hp => h.eq q p hp) (fun p _ => rfl) o ho
  · exact (h.below.trans (ox.below (fun k hk => h.one.ge hk) h.below.size)).trans (oy.below (fun k hk => h.three.ge hk) (Nat.le_trans h.below.size ox.size))
end Go.Proofs.Ybulkbqau
