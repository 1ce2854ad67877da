import Derived.Test.YbulkbqauGrow
set_option linter.unusedVariables false
set_option linter.unusedSimpArgs false
namespace Go.Proofs.Ybulkbqau
open Go.RowKit

/-- each number fits its kind -/
def Rng (c : Nat → Int) : Prop := ∀ o, o < 7168 → (o < 4096 → 0 ≤ c o ∧ c o < 18446744073709551616) ∧ (4096 ≤ o → o < 6144 → 0 ≤ c o ∧ c o < 4294967296) ∧ (6144 ≤ o → -9223372036854775808 ≤ c o ∧ c o < 9223372036854775808)

def sum64 (a b : Int) : Int := wrap64 (a + b)

/-- the wide sums of two chunks -/
def addC (c d : Nat → Int) (o : Nat) : Int :=
  if o < 4096 then lo64 (c o) (d o)
  else if o < 5120 then hi32 (c o) (d o) (cy64 (c (o - 3072)) (d (o - 3072)))
  else if o < 6144 then hi32 (c o) (d o) (cy64 (c (o - 2048)) (d (o - 2048)))
  else sum64 (c o) (d o)

/-- the sums up to round i, the rest as it was -/
def mixC (i : Nat) (c d e : Nat → Int) (o : Nat) : Int := if o % 1024 < i then addC c d o else e o

theorem mixC_at {i : Nat} {c d e : Nat → Int} (hi : i < 1024) (q : Nat) : mixC i c d e (1024 * q + i) = e (1024 * q + i) := by
  unfold mixC
  rw [if_neg (by omega)]

/-- one round's seven stores -/
def seven (f : Nat → Int) (i : Nat) (v0 v1 v2 v3 v4 v5 v6 : Int) : Nat → Int :=
  upd (upd (upd (upd (upd (upd (upd f i v0) (1024 + i) v1) (4096 + i) v4) (6144 + i) v6) (2048 + i) v2) (3072 + i) v3) (5120 + i) v5

theorem seven_mix (c d e : Nat → Int) {i : Nat} (hi : i < 1024) : ∀ o, o < 7168 →
    seven (mixC i c d e) i (lo64 (c i) (d i)) (lo64 (c (1024 + i)) (d (1024 + i))) (lo64 (c (2048 + i)) (d (2048 + i))) (lo64 (c (3072 + i)) (d (3072 + i)))
      (hi32 (c (4096 + i)) (d (4096 + i)) (cy64 (c (1024 + i)) (d (1024 + i)))) (hi32 (c (5120 + i)) (d (5120 + i)) (cy64 (c (3072 + i)) (d (3072 + i)))) (sum64 (c (6144 + i)) (d (6144 + i))) o = mixC (i + 1) c d e o := by
  intro o ho
  by_cases hm : o % 1024 = i
  · have hR : mixC (i + 1) c d e o = addC c d o := by unfold mixC; rw [if_pos (by omega)]
    rw [hR]
    have hq : o = i ∨ o = 1024 + i ∨ o = 2048 + i ∨ o = 3072 + i ∨ o = 4096 + i ∨ o = 5120 + i ∨ o = 6144 + i := by omega
    unfold seven upd addC
    rcases hq with rfl | rfl | rfl | rfl | rfl | rfl | rfl
    · repeat (first | rw [if_pos (by omega)] | rw [if_neg (by omega)])
    · repeat (first | rw [if_pos (by omega)] | rw [if_neg (by omega)])
    · repeat (first | rw [if_pos (by omega)] | rw [if_neg (by omega)])
    · repeat (first | rw [if_pos (by omega)] | rw [if_neg (by omega)])
    · repeat (first | rw [if_pos (by omega)] | rw [if_neg (by omega)])
      rw [show 4096 + i - 3072 = 1024 + i by omega]
    · repeat (first | rw [if_pos (by omega)] | rw [if_neg (by omega)])
      rw [show 5120 + i - 2048 = 3072 + i by omega]
    · repeat (first | rw [if_pos (by omega)] | rw [if_neg (by omega)])
  · have hR : mixC (i + 1) c d e o = mixC i c d e o := by
      unfold mixC
      by_cases h : o % 1024 < i
      · rw [if_pos h, if_pos (by omega)]
      · rw [if_neg h, if_neg (by omega)]
    rw [hR]
    unfold seven upd
    repeat rw [if_neg (by omega)]

theorem mix_zero (c d e : Nat → Int) : ∀ o, o < 7168 → mixC 0 c d e o = e o := fun o _ => by unfold mixC; rw [if_neg (by omega)]
theorem mix_full (c d e : Nat → Int) : ∀ o, o < 7168 → mixC 1024 c d e o = addC c d o := fun o _ => by unfold mixC; rw [if_pos (by omega)]

theorem rng_add (c d : Nat → Int) : Rng (addC c d) := by
  intro o ho
  refine ⟨fun h => ?_, fun h1 h2 => ?_, fun h => ?_⟩
  · unfold addC; rw [if_pos h]; exact lo64_bd _ _
  · unfold addC
    rw [if_neg (by omega)]
    by_cases h : o < 5120
    · rw [if_pos h]; exact hi32_bd _ _ _
    · rw [if_neg h, if_pos h2]; exact hi32_bd _ _ _
  · unfold addC
    rw [if_neg (by omega), if_neg (by omega), if_neg (by omega)]
    unfold sum64 wrap64
    omega

theorem rng_zero : Rng (fun _ => 0) := fun o _ => ⟨fun _ => by dsimp only; omega, fun _ _ => by dsimp only; omega, fun _ => by dsimp only; omega⟩

/-- a chunk and zero -/
theorem add_zero {c : Nat → Int} (h : Rng c) : ∀ o, o < 7168 → addC c (fun _ => 0) o = c o := by
  intro o ho
  obtain ⟨h1, h2, h3⟩ := h o ho
  unfold addC
  by_cases a : o < 4096
  · rw [if_pos a]; have := h1 a; unfold lo64; dsimp only; omega
  · rw [if_neg a]
    by_cases b : o < 5120
    · rw [if_pos b]
      have g := (h (o - 3072) (by omega)).1 (by omega)
      have := h2 (by omega) (by omega)
      unfold hi32 cy64; dsimp only; omega
    · rw [if_neg b]
      by_cases e : o < 6144
      · rw [if_pos e]
        have g := (h (o - 2048) (by omega)).1 (by omega)
        have := h2 (by omega) (by omega)
        unfold hi32 cy64; dsimp only; omega
      · rw [if_neg e]
        have := h3 (by omega)
        unfold sum64 wrap64; dsimp only; omega
end Go.Proofs.Ybulkbqau
