import Derived.Test.YbulkbpzeFmtFacts
import Derived.RegionTactic
import Derived.BigRegion
import Derived.Deep.QuietTactic
import Derived.BigQuiet
import Derived.Deep.Cut
import Derived.Deep.Heap
namespace Go.Proofs.YbulkbpzeFmt
open Go.RowKit Go.Extern.Stop Go.Stop Go.Extern

/-- what 'holding' is told: the engine's two maps as look-ups at the saga's name in every later world, and what the progress owes -/
structure Told (w : World) (E Pb : Nat) (md mr : Value) (name : ByteArray) (rf ir : Bool) (rp : Option Addr) (owes : Int) : Prop where
  cd : w.cell? ⟨E, 12, none⟩ = some md
  cr : w.cell? ⟨E, 13, none⟩ = some mr
  co : w.cell? ⟨Pb, 83, none⟩ = some (.int .i64 owes)
  ld : ∀ wx, Below w.heap.size w wx → (Instr.lookup 23 md (.string name) true).run Ybaf.prog wx = .ok (.tuple #[.agg #[.nilIface, .nilIface, .bool rf], .bool ir]) wx
  lr : ∀ wx, Below w.heap.size w wx → (Instr.lookup 28 mr (.string name) false).run Ybaf.prog wx = .ok (.pointer rp) wx

theorem cell_third (w : World) (o o' : Obj) (cs : Array Value) (i : Nat) : (((w.alloc o).alloc o').alloc (.cells cs 20)).drew.drew.cell? ⟨w.heap.size + 1 + 1, i, none⟩ = cs[i]? := by
  have h := Deep.blk_alloc_new ((w.alloc o).alloc o') (.cells cs 20)
  have e : ((w.alloc o).alloc o').heap.size = w.heap.size + 1 + 1 := by simp
  rw [e] at h
  have h2 : (((w.alloc o).alloc o').alloc (.cells cs 20)).drew.drew.heap[w.heap.size + 1 + 1]? = some (.cells cs 20) := h
  unfold World.cell?
  dsimp only
  rw [h2]
  simp

/-- what 'holding' answers -/
def Held (ir rf : Bool) (owes : Int) (rp : Option Addr) (e : Ending) : Prop :=
  (ir = true ∧ (owes = 0 ∨ rf = true) ∧ e = .returned (.tuple #[.pointer none, .nilIface])) ∨
  (¬ (ir = true ∧ (owes = 0 ∨ rf = true)) ∧ rp.isSome = true ∧ e = .returned (.tuple #[.pointer rp, .nilIface])) ∨
  (¬ (ir = true ∧ (owes = 0 ∨ rf = true)) ∧ rp = none ∧ ∃ a, e = .returned (.tuple #[.pointer none, .iface 98 (.pointer (some a))]))

set_option maxRecDepth 20000 in
set_option maxHeartbeats 1000000 in
theorem hold_any (F : Interp) (E Pb : Nat) (md mr : Value) (id name : ByteArray) (st : Int) (rf ir : Bool) (rp : Option Addr) (owes : Int) (w : World) (hF : F.answers w.tape) (hT : Told w E Pb md mr name rf ir rp owes)
    (c3 c4 c5 c6 c7 c8 c9 c10 c11 c12 c13 c14 : Value) :
    Calls Ybaf.prog 5 #[.pointer (some ⟨E, 0, none⟩), .agg #[.string id, .string name, .int .u8 st, c3, c4, c5, c6, c7, c8, c9, c10, c11, c12, c13, c14], .pointer (some ⟨Pb, 0, none⟩)] w
      fun e w' => Held ir rf owes rp e ∧ Below w.heap.size w w' := by
  have hEl : E < w.heap.size := World.block_lt_of_cell? _ _ hT.cd
  have hPl : Pb < w.heap.size := World.block_lt_of_cell? _ _ hT.co
  have hcd := hT.cd
  have hcr := hT.cr
  have hco := hT.co
  have l1 := fun (o : Obj) => hT.ld (w.alloc o) ((Below.refl _ _).alloc (Nat.le_refl _) o)
  have l1d := fun (o : Obj) => hT.ld (w.alloc o).drew ((Below.refl _ _).alloc (Nat.le_refl _) o).drew
  have l1a := fun (o o' : Obj) => hT.ld ((w.alloc o).alloc o').drew (((Below.refl _ _).alloc (Nat.le_refl _) o).alloc (by simp) o').drew
  have l2 := fun (o o' : Obj) => hT.lr ((w.alloc o).alloc o').drew (((Below.refl _ _).alloc (Nat.le_refl _) o).alloc (by simp) o').drew
  have l2d := fun (o o' : Obj) => hT.lr ((w.alloc o).alloc o').drew.drew (((Below.refl _ _).alloc (Nat.le_refl _) o).alloc (by simp) o').drew.drew
  have hEl1 : E < w.heap.size + 1 := by omega
  have hPl1 : Pb < w.heap.size + 1 := by omega
  go_enter Ybaf.func5, Ybaf.ntmps5
  go_wp2
  go_region
  go_wp2
  go_region
  have hB2 : ∀ o o' : Obj, Below w.heap.size w ((w.alloc o).alloc o').drew.drew := fun o o' => ((((Below.refl _ _).alloc (Nat.le_refl _) o).alloc (by simp) o').drew).drew
  have hB3 : ∀ o o' o'' : Obj, Below w.heap.size w (((w.alloc o).alloc o').alloc o'').drew.drew := fun o o' o'' => (((((Below.refl _ _).alloc (Nat.le_refl _) o).alloc (by simp) o').alloc (by simp; omega) o'').drew).drew
  go_wp2_with fail
  · go_ret2
    exact ⟨.inl ⟨by assumption, .inl (by assumption), rfl⟩, hB2 _ _⟩
  · have h1 : ir = true := by assumption
    have h2 : ¬ owes = 0 := by assumption
    have h3 : (owes == 0) = true ∨ rf = true := by assumption
    go_ret2
    exact ⟨.inl ⟨h1, .inr (h3.resolve_left (by simpa using h2)), rfl⟩, hB2 _ _⟩
  · have h1 : ir = true := by assumption
    have h2 : ¬ owes = 0 := by assumption
    have h3 : (owes == 0) = false ∧ rf = false := by assumption
    have h4 : rp.isSome = true := by assumption
    go_ret2
    exact ⟨.inr (.inl ⟨fun h => by rcases h.2 with h | h; exact h2 h; simp [h3.2] at h, h4, rfl⟩), hB2 _ _⟩
  · have h2 : ¬ owes = 0 := by assumption
    have h3 : (owes == 0) = false ∧ rf = false := by assumption
    have h4 : rp.isSome = false := by assumption
    refine (errorf2 F _ id name _ _ ?_ (fun _ => by kernel_rfl) ?_ ?_).mono ?_
    · exact hF
    · exact cell_third w _ _ _ 0
    · exact cell_third w _ _ _ 1
    rintro e w2 ⟨rfl, hb⟩
    go_wp2
    go_ret2
    exact ⟨.inr (.inr ⟨fun h => by rcases h.2 with h | h; exact h2 h; simp [h3.2] at h, by simpa using h4, _, rfl⟩), (hB3 _ _ _).trans (hb.mono (by simp; omega))⟩
  · have h1 : ¬ ir = true := by assumption
    have h4 : rp.isSome = true := by assumption
    go_ret2
    exact ⟨.inr (.inl ⟨fun h => h1 h.1, h4, rfl⟩), hB2 _ _⟩
  · have h1 : ¬ ir = true := by assumption
    have h4 : rp.isSome = false := by assumption
    refine (terminal_any st _).mono ?_
    rintro e w1 ⟨⟨tb, rfl⟩, rfl⟩
    cases tb
    all_goals
      go_wp2_with fail
      refine (errorf3 F _ id name _ _ ?_ (fun _ => by kernel_rfl) ?_ ?_ ?_).mono ?_
      · exact hF
      · exact cell_third w _ _ _ 0
      · exact cell_third w _ _ _ 1
      · exact ⟨_, cell_third w _ _ _ 2⟩
      rintro e w2 ⟨rfl, hb⟩
      go_wp2
      go_ret2
      exact ⟨.inr (.inr ⟨fun h => h1 h.1, by simpa using h4, _, rfl⟩), (hB3 _ _ _).trans (hb.mono (by simp; omega))⟩
end Go.Proofs.YbulkbpzeFmt
