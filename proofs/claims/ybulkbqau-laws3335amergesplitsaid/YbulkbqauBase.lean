import Derived.Test.YbulkbqauRows
import Derived.WalkKit
import Derived.WalkSpells
import Derived.WalkLawsBesides
import Derived.RegionTactic
import Derived.BigRegion
import Derived.Deep.QuietTactic
import Derived.BigQuiet
import Derived.Deep.LoopGhost
import Derived.Deep.OwnRows
import Derived.Deep.MidRow
import Derived.Deep.RegionWith
set_option linter.unusedVariables false
set_option linter.unusedSimpArgs false
namespace Go.Proofs.Ybulkbqau
open Go.RowKit

/-! ### A chunk: 7168 cells: four arrays of 1024 uint64, two of uint32, one of int64 -/

/-- the kind of the number at a chunk's cell -/
def kd (o : Nat) : IntKind := if o < 4096 then .u64 else if o < 6144 then .u32 else .i64
theorem kd_u64 {o : Nat} (h : o < 4096) : kd o = .u64 := by simp [kd, h]
theorem kd_u32 {o : Nat} (h : 4096 ≤ o) (h' : o < 6144) : kd o = .u32 := by simp [kd, h', Nat.not_lt.2 h]
theorem kd_i64 {o : Nat} (h : 6144 ≤ o) : kd o = .i64 := by simp [kd, Nat.not_lt.2 h, show ¬ o < 4096 by omega]

/-- the array holds the numbers c, each of its kind -/
def IsArr (z : Array Value) (c : Nat → Int) : Prop := z.size = 7168 ∧ ∀ o, o < 7168 → z[o]? = some (.int (kd o) (c o))

theorem IsArr.ext {z z' : Array Value} {c c' : Nat → Int} (h : IsArr z c) (h' : IsArr z' c') (e : ∀ o, o < 7168 → c o = c' o) : z = z' := by
  apply Array.ext_getElem?
  intro o
  by_cases ho : o < 7168
  · rw [h.2 o ho, h'.2 o ho, e o ho]
  · rw [Array.getElem?_eq_none (by rw [h.1]; omega), Array.getElem?_eq_none (by rw [h'.1]; omega)]

/-- block b is a chunk that holds the numbers c -/
def Ch (w : World) (b : Nat) (c : Nat → Int) : Prop := ∃ z, w.heap[b]? = some (.cells z 37 (0, 0)) ∧ IsArr z c

def upd (c : Nat → Int) (o : Nat) (v : Int) : Nat → Int := fun p => if p = o then v else c p

namespace Ch
variable {w : World} {b : Nat} {c : Nat → Int}

theorem cell (h : Ch w b c) {o : Nat} (ho : o < 7168) : w.cell? ⟨b, o, none⟩ = some (.int (kd o) (c o)) := by
  obtain ⟨z, hb, hz⟩ := h
  simp [World.cell?, hb, hz.2 o ho]
theorem u64 (h : Ch w b c) {o : Nat} (ho : o < 4096) : w.cell? ⟨b, o, none⟩ = some (.int .u64 (c o)) := by rw [h.cell (by omega), kd_u64 ho]
theorem u32 (h : Ch w b c) {o : Nat} (h1 : 4096 ≤ o) (h2 : o < 6144) : w.cell? ⟨b, o, none⟩ = some (.int .u32 (c o)) := by rw [h.cell (by omega), kd_u32 h1 h2]
theorem i64 (h : Ch w b c) {o : Nat} (h1 : 6144 ≤ o) (h2 : o < 7168) : w.cell? ⟨b, o, none⟩ = some (.int .i64 (c o)) := by rw [h.cell h2, kd_i64 h1]
theorem frozen (h : Ch w b c) (o : Nat) : w.frozen? ⟨b, o, none⟩ = false := by
  obtain ⟨z, hb, _⟩ := h
  simp [World.frozen?, hb]
theorem lt (h : Ch w b c) : b < w.heap.size := by
  obtain ⟨z, hb, _⟩ := h
  exact lt_of_block hb
theorem of_block {w' : World} (h : Ch w b c) (e : w'.heap[b]? = w.heap[b]?) : Ch w' b c := by
  obtain ⟨z, hb, hz⟩ := h
  exact ⟨z, e.trans hb, hz⟩
theorem set (h : Ch w b c) {o : Nat} (ho : o < 7168) {k : IntKind} (hk : kd o = k) (v : Int) : Ch (w.setCell ⟨b, o, none⟩ (.int k v)) b (upd c o v) := by
  obtain ⟨z, hb, hz⟩ := h
  refine ⟨z.setIfInBounds o (.int k v), by simp [World.setCell, Array.getElem?_modify, hb], by simpa using hz.1, fun p hp => ?_⟩
  rw [Array.getElem?_setIfInBounds]
  by_cases e : o = p
  · subst e; simp [hz.1, ho, upd, hk]
  · rw [if_neg e, hz.2 p hp]
    simp [upd, Ne.symm e]
theorem other (h : Ch w b c) {a : Addr} (ha : b ≠ a.block) (v : Value) : Ch (w.setCell a v) b c := h.of_block (Deep.blk_setCell_other _ _ _ _ ha)
theorem alloc (h : Ch w b c) (o : Obj) : Ch (w.alloc o) b c := h.of_block (Deep.blk_alloc_lt _ _ _ h.lt)
theorem congr {c' : Nat → Int} (h : Ch w b c) (e : ∀ o, o < 7168 → c o = c' o) : Ch w b c' := by
  obtain ⟨z, hb, hz⟩ := h
  exact ⟨z, hb, hz.1, fun o ho => by rw [hz.2 o ho, e o ho]⟩
end Ch

/-! ### The zero chunk -/
def chk : List Value → Nat → Bool
  | [], n => n == 7168
  | .int k v :: r, n => (k == kd n) && (v == 0) && chk r (n + 1)
  | _ :: _, _ => false

theorem chk_spec : ∀ (l : List Value) (n : Nat), chk l n = true → l.length + n = 7168 ∧ ∀ i, i < l.length → l[i]? = some (.int (kd (n + i)) 0)
  | [], n, h => by simp [chk] at h; simp [h]
  | .int k v :: r, n, h => by
    simp only [chk, Bool.and_eq_true, beq_iff_eq] at h
    obtain ⟨⟨rfl, rfl⟩, h3⟩ := h
    obtain ⟨h4, h5⟩ := chk_spec r (n + 1) h3
    refine ⟨by simp only [List.length_cons]; omega, fun i hi => ?_⟩
    cases i with
    | zero => simp
    | succ i =>
      have := h5 i (by simp at hi; omega)
      simp only [List.getElem?_cons_succ]
      rw [this]
      congr 3
      omega

theorem zero37 : ∃ z : Array Value, IsArr z (fun _ => 0) ∧ ∀ w : World, (zeroValue 37).run Yba.prog w = .ok (.agg z) w := by
  have h : ((Yba.prog.info? 37).bind (·.zero)).map (fun v => match v with | .agg z => chk z.toList 0 | _ => false) = some true := by kernel_rfl
  cases hi : Yba.prog.info? 37 with
  | none => rw [hi] at h; simp at h
  | some i =>
    rw [hi] at h
    cases hz : i.zero with
    | none => simp [hz] at h
    | some v =>
      simp [hz] at h
      match v, h, hz with
      | .agg z, h, hz =>
        obtain ⟨h1, h2⟩ := chk_spec _ _ h
        refine ⟨z, ⟨by simpa using h1, fun o ho => ?_⟩, fun w => by simp [zeroValue, typeInfo, hi, hz]⟩
        have := h2 o (by simp at h1 ⊢; omega)
        simpa using this

/-! ### math/bits.Add64, addWide, the law's own wide sum -/
def lo64 (a b : Int) : Int := (a + b) % 18446744073709551616
def cy64 (a b : Int) : Int := (a + b) / 18446744073709551616
def hi32 (H h c : Int) : Int := (H + h + c) % 4294967296

theorem lo64_bd (a b : Int) : 0 ≤ lo64 a b ∧ lo64 a b < 18446744073709551616 := by unfold lo64; omega
theorem hi32_bd (a b c : Int) : 0 ≤ hi32 a b c ∧ hi32 a b c < 4294967296 := by unfold hi32; omega
theorem cy64_bd {a b : Int} (h1 : 0 ≤ a) (h2 : a < 18446744073709551616) (h3 : 0 ≤ b) (h4 : b < 18446744073709551616) : 0 ≤ cy64 a b ∧ cy64 a b ≤ 1 := by unfold cy64; omega

theorem add64 (x y : Int) (hx : 0 ≤ x) (hy : 0 ≤ y) (w : World) : (callFunc 13 #[.int .u64 x, .int .u64 y, .int .u64 0]).run Yba.prog w =
    .ok (.value (.tuple #[.int .u64 (lo64 x y), .int .u64 (cy64 x y)])) w := by
  rw [run_callFunc_extern Yba.func13 (by kernel_rfl) (by kernel_rfl) (by kernel_rfl) (e := add64Entry) (by kernel_rfl), run_add64 x y 0 hx hy (Int.le_refl 0) (by decide)]
  simp [Result.andThen, lo64, cy64]

set_option maxHeartbeats 400000 in
theorem addWide_any (b ol oh : Nat) (L H low high : Int) (w : World) (h1 : 0 ≤ L) (h2 : L < 18446744073709551616) (h3 : 0 ≤ low) (h4 : low < 18446744073709551616)
    (_h5 : 0 ≤ H) (_h6 : H < 4294967296) (_h7 : 0 ≤ high) (_h8 : high < 4294967296) (hne : ol ≠ oh)
    (hl : w.cell? ⟨b, ol, none⟩ = some (.int .u64 L)) (hh : w.cell? ⟨b, oh, none⟩ = some (.int .u32 H)) (fl : w.frozen? ⟨b, ol, none⟩ = false) (fh : w.frozen? ⟨b, oh, none⟩ = false) :
    Calls Yba.prog 10 #[.pointer (some ⟨b, ol, none⟩), .pointer (some ⟨b, oh, none⟩), .int .u64 low, .int .u32 high] w fun e w' => e = .returned (.tuple #[]) ∧
      w' = (w.setCell ⟨b, ol, none⟩ (.int .u64 (lo64 L low))).setCell ⟨b, oh, none⟩ (.int .u32 (hi32 H high (cy64 L low))) := by
  have ha := add64 L low h1 h3
  have hc := cy64_bd h1 h2 h3 h4
  obtain ⟨hc0, hc1⟩ := hc
  have hh2 : ∀ v, (w.setCell ⟨b, ol, none⟩ v).cell? ⟨b, oh, none⟩ = some (.int .u32 H) := fun v => by
    rw [World.cell?_setCell_other _ _ _ _ (by simp [hne])]; exact hh
  have fh2 : ∀ v, (w.setCell ⟨b, ol, none⟩ v).frozen? ⟨b, oh, none⟩ = false := fun v => by rw [World.frozen?_setCell]; exact fh
  generalize hC : cy64 L low = C at *
  go_enter Yba.func10, Yba.ntmps10
  go_wp2
  go_end0
  refine ⟨rfl, ?_⟩
  rw [show (H + (high + C)) % 4294967296 = hi32 H high C from by unfold hi32; congr 1; omega]

theorem ret2 {k k' : IntKind} {a b a' b' : Int} (h : a = a') (h' : b = b') : Ending.returned (.tuple #[.int k a, .int k' b]) = .returned (.tuple #[.int k a', .int k' b']) := by rw [h, h']

theorem wrap_lo (a b : Int) : IntKind.u64.wrap (a + b) = lo64 a b := by rw [IntKind.wrap_u64]; rfl

set_option maxHeartbeats 400000 in
theorem awide_any (l1 h1 l2 h2 : Int) (w : World) (a1 : 0 ≤ l1) (a2 : l1 < 18446744073709551616) (a3 : 0 ≤ l2) (a4 : l2 < 18446744073709551616)
    (a5 : 0 ≤ h1) (a6 : h1 < 4294967296) (a7 : 0 ≤ h2) (a8 : h2 < 4294967296) :
    Calls Yba.prog 11 #[.int .u64 l1, .int .u32 h1, .int .u64 l2, .int .u32 h2] w fun e w' => e = .returned (.tuple #[.int .u64 (lo64 l1 l2), .int .u32 (hi32 h1 h2 (cy64 l1 l2))]) ∧ w' = w := by
  have hw := wrap_lo l1 l2
  by_cases hc : lo64 l1 l2 < l1
  · have e1 : cy64 l1 l2 = 1 := by unfold cy64; unfold lo64 at hc; omega
    have E1 : Hid (cy64 l1 l2 = 1) := e1
    clear e1
    clear a2 a4
    go_enter Yba.func11, Yba.ntmps11
    go_wp2
    go_ret2
    refine ⟨ret2 ?_ ?_, rfl⟩
    · rfl
    · rw [E1.out]; unfold hi32; omega
  · have e1 : cy64 l1 l2 = 0 := by unfold cy64; unfold lo64 at hc; omega
    have E1 : Hid (cy64 l1 l2 = 0) := e1
    clear e1
    clear a2 a4
    go_enter Yba.func11, Yba.ntmps11
    go_wp2
    go_ret2
    refine ⟨ret2 ?_ ?_, rfl⟩
    · rfl
    · rw [E1.out]; unfold hi32; omega

end Go.Proofs.Ybulkbqau
