import Derived.Test.YbulkbqauAddC
set_option linter.unusedVariables false
set_option linter.unusedSimpArgs false
namespace Go.Proofs.Ybulkbqau
open Go.RowKit

theorem lo_assoc (a b c : Int) : lo64 (lo64 a b) c = lo64 a (lo64 b c) := by unfold lo64; omega
theorem cy_assoc (a b c : Int) : cy64 a b + cy64 (lo64 a b) c = cy64 b c + cy64 a (lo64 b c) := by unfold cy64 lo64; omega
theorem hi_assoc (H h k a b c : Int) : hi32 (hi32 H h (cy64 a b)) k (cy64 (lo64 a b) c) = hi32 H (hi32 h k (cy64 b c)) (cy64 a (lo64 b c)) := by
  have := cy_assoc a b c
  unfold hi32
  omega
theorem sum_assoc (a b c : Int) : sum64 (sum64 a b) c = sum64 a (sum64 b c) := by unfold sum64 wrap64; omega

/-- the chunks' sum is associative -/
theorem add_assoc (c d e : Nat → Int) (o : Nat) : addC (addC c d) e o = addC c (addC d e) o := by
  by_cases h1 : o < 4096
  · simp only [addC, h1, if_true]; exact lo_assoc _ _ _
  by_cases h2 : o < 5120
  · have h3 : o - 3072 < 4096 := by omega
    simp only [addC, h1, h2, h3, if_true, if_false]; exact hi_assoc _ _ _ _ _ _
  by_cases h4 : o < 6144
  · have h5 : o - 2048 < 4096 := by omega
    simp only [addC, h1, h2, h4, h5, if_true, if_false]; exact hi_assoc _ _ _ _ _ _
  · simp only [addC, h1, h2, h4, if_false]; exact sum_assoc _ _ _

theorem zero_add {c : Nat → Int} (h : Rng c) : ∀ o, o < 7168 → addC (fun _ => 0) c o = c o := by
  intro o ho
  obtain ⟨h1, h2, h3⟩ := h o ho
  unfold addC
  by_cases a : o < 4096
  · rw [if_pos a]; have := h1 a; unfold lo64; dsimp only; omega
  · rw [if_neg a]
    by_cases b : o < 5120
    · rw [if_pos b]
      have g := (h (o - 3072) (by omega)).1 (by omega)
      have := h2 (by omega) (by omega)
      unfold hi32 cy64; dsimp only; omega
    · rw [if_neg b]
      by_cases e : o < 6144
      · rw [if_pos e]
        have g := (h (o - 2048) (by omega)).1 (by omega)
        have := h2 (by omega) (by omega)
        unfold hi32 cy64; dsimp only; omega
      · rw [if_neg e]
        have := h3 (by omega)
        unfold sum64 wrap64; dsimp only; omega

theorem add_congr {c c' d d' : Nat → Int} (h : ∀ o, o < 7168 → c o = c' o) (h' : ∀ o, o < 7168 → d o = d' o) : ∀ o, o < 7168 → addC c d o = addC c' d' o := by
  intro o ho
  unfold addC
  by_cases a : o < 4096
  · rw [if_pos a, if_pos a, h o ho, h' o ho]
  · rw [if_neg a, if_neg a]
    by_cases b : o < 5120
    · rw [if_pos b, if_pos b, h o ho, h' o ho, h (o - 3072) (by omega), h' (o - 3072) (by omega)]
    · rw [if_neg b, if_neg b]
      by_cases e : o < 6144
      · rw [if_pos e, if_pos e, h o ho, h' o ho, h (o - 2048) (by omega), h' (o - 2048) (by omega)]
      · rw [if_neg e, if_neg e, h o ho, h' o ho]

/-! ### One round's figures as a chunk: numbers at one place of each array -/
def dlt (i : Nat) (d0 d1 d2 d3 d5 d6 : Int) (o : Nat) : Int :=
  if o = i then d0 else if o = 1024 + i then d1 else if o = 2048 + i then d2 else if o = 3072 + i then d3 else if o = 5120 + i then d5 else if o = 6144 + i then d6 else 0

theorem rng_dlt {i : Nat} (hi : i < 1024) {d0 d1 d2 d3 d5 d6 : Int} (h0 : 0 ≤ d0 ∧ d0 < 18446744073709551616) (h1 : 0 ≤ d1 ∧ d1 < 18446744073709551616) (h2 : 0 ≤ d2 ∧ d2 < 18446744073709551616) (h3 : 0 ≤ d3 ∧ d3 < 18446744073709551616)
    (h5 : 0 ≤ d5 ∧ d5 < 4294967296) (h6 : -9223372036854775808 ≤ d6 ∧ d6 < 9223372036854775808) : Rng (dlt i d0 d1 d2 d3 d5 d6) := by
  intro o ho
  unfold dlt
  refine ⟨fun h => ?_, fun ha hb => ?_, fun h => ?_⟩ <;> (repeat' split) <;> omega

/-- the seven stores of one round of one run are the chunk's sum with the round's figures -/
theorem seven_dlt {c : Nat → Int} (hc : Rng c) {i : Nat} (hi : i < 1024) (d0 d1 d2 d3 d5 d6 : Int) : ∀ o, o < 7168 →
    upd (upd (upd (upd (upd (upd (upd c i (lo64 (c i) d0)) (1024 + i) (lo64 (c (1024 + i)) d1)) (4096 + i) (hi32 (c (4096 + i)) 0 (cy64 (c (1024 + i)) d1))) (6144 + i) (sum64 (c (6144 + i)) d6)) (2048 + i) (lo64 (c (2048 + i)) d2))
      (3072 + i) (lo64 (c (3072 + i)) d3)) (5120 + i) (hi32 (c (5120 + i)) d5 (cy64 (c (3072 + i)) d3)) o = addC c (dlt i d0 d1 d2 d3 d5 d6) o := by
  intro o ho
  by_cases hm : o % 1024 = i
  · have hq : o = i ∨ o = 1024 + i ∨ o = 2048 + i ∨ o = 3072 + i ∨ o = 4096 + i ∨ o = 5120 + i ∨ o = 6144 + i := by omega
    unfold upd addC dlt
    rcases hq with rfl | rfl | rfl | rfl | rfl | rfl | rfl
    · repeat (first | rw [if_pos (by omega)] | rw [if_neg (by omega)])
    · repeat (first | rw [if_pos (by omega)] | rw [if_neg (by omega)])
    · repeat (first | rw [if_pos (by omega)] | rw [if_neg (by omega)])
    · repeat (first | rw [if_pos (by omega)] | rw [if_neg (by omega)])
    · rw [show 4096 + i - 3072 = 1024 + i by omega]
      repeat (first | rw [if_pos (by omega)] | rw [if_neg (by omega)])
    · rw [show 5120 + i - 2048 = 3072 + i by omega]
      repeat (first | rw [if_pos (by omega)] | rw [if_neg (by omega)])
    · repeat (first | rw [if_pos (by omega)] | rw [if_neg (by omega)])
  · have hz : ∀ p, p % 1024 = o % 1024 → dlt i d0 d1 d2 d3 d5 d6 p = 0 := fun p hp => by
      unfold dlt
      repeat rw [if_neg (by omega)]
    have hL : addC c (dlt i d0 d1 d2 d3 d5 d6) o = c o := by
      rw [← add_zero hc o ho]
      unfold addC
      by_cases a : o < 4096
      · rw [if_pos a, if_pos a, hz o rfl]
      · rw [if_neg a, if_neg a]
        by_cases b : o < 5120
        · rw [if_pos b, if_pos b, hz o rfl, hz (o - 3072) (by omega)]
        · rw [if_neg b, if_neg b]
          by_cases e : o < 6144
          · rw [if_pos e, if_pos e, hz o rfl, hz (o - 2048) (by omega)]
          · rw [if_neg e, if_neg e, hz o rfl]
    rw [hL]
    unfold upd
    repeat rw [if_neg (by omega)]
end Go.Proofs.Ybulkbqau
