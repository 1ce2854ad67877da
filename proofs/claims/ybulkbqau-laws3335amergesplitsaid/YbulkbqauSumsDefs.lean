import Derived.Test.YbulkbqauSnap
import Derived.Deep.RegionHeld3
import Derived.Deep.DeepCutAuto
set_option linter.unusedVariables false
set_option linter.unusedSimpArgs false
namespace Go.Proofs.Ybulkbqau
open Go.RowKit

/-- a slice of steps that came in -/
structure StepsAt (w : World) (a : Option Addr) (n G off : Nat) (P F V H : Nat → Nat) : Prop where
  ha : 0 < n → a = some ⟨G, off, none⟩
  hP : ∀ j, j < n → w.cell? ⟨G, off + j * 4, none⟩ = some (.int .u16 (P j)) ∧ P j < 65536
  hF : ∀ j, j < n → w.cell? ⟨G, off + j * 4 + 1, none⟩ = some (.int .u8 (F j)) ∧ F j < 256
  hV : ∀ j, j < n → w.cell? ⟨G, off + j * 4 + 2, none⟩ = some (.int .u64 (V j)) ∧ V j < 18446744073709551616
  hH : ∀ j, j < n → w.cell? ⟨G, off + j * 4 + 3, none⟩ = some (.int .u32 (H j)) ∧ H j < 4294967296

theorem StepsAt.later {w w' : World} {a : Option Addr} {n G off : Nat} {P F V H : Nat → Nat} (h : StepsAt w a n G off P F V H) (hb : Below w.heap.size w w') : StepsAt w' a n G off P F V H := by
  have e : ∀ {k : Nat} {v : Value}, w.cell? ⟨G, k, none⟩ = some v → w'.cell? ⟨G, k, none⟩ = some v := fun {k v} hk => (hb.cell (p := ⟨G, k, none⟩) (World.block_lt_of_cell? _ _ hk)).trans hk
  exact ⟨h.ha, fun j hj => ⟨e (h.hP j hj).1, (h.hP j hj).2⟩, fun j hj => ⟨e (h.hF j hj).1, (h.hF j hj).2⟩, fun j hj => ⟨e (h.hV j hj).1, (h.hV j hj).2⟩, fun j hj => ⟨e (h.hH j hj).1, (h.hH j hj).2⟩⟩

theorem build_at (r : Nat) (hr : r < 65536) (a : Option Addr) (n cap : Nat) {G off : Nat} {P F V H : Nat → Nat} {w : World} (h : StepsAt w a n G off P F V H) (hn : n ≤ 4096) :
    Calls Yba.prog 5 #[.int .u16 r, .slice a n cap] w fun e w' => BuildPost w w' r e := build_any r hr a n cap G off P F V H w h.ha h.hP h.hF h.hV h.hH hn

/-- the load of a chunk, kept shut -/
noncomputable def loadChunk (p : Value) : Sem Value := Instr.loadAt 37 p
theorem ld37 (p : Value) : Instr.loadAt 37 p = loadChunk p := rfl
attribute [local go_sem ↓] ld37
theorem loadChunk_at {w : World} {b o : Nat} {c : Nat → Int} (h : w.rangeAt b o (lst c)) : (loadChunk (.pointer (some ⟨b, o, none⟩))).run Yba.prog w = .ok (.agg (lst c).toArray) w :=
  run_loadAt_mid w b o 37 _ _ h Yba.underlying37 rfl (info_lst' c)

/-- a row of pointers, filled up to m -/
structure PtrRow (w : World) (b n m : Nat) (B : Nat → Nat) : Prop where
  there : ∀ j, j < n → (w.cell? ⟨b, j, none⟩).isSome = true ∧ w.frozen? ⟨b, j, none⟩ = false
  ptr : ∀ j, j < m → w.cell? ⟨b, j, none⟩ = some (.pointer (some ⟨B j, 0, none⟩))
namespace PtrRow
variable {w w' : World} {b n m : Nat} {B : Nat → Nat}
theorem kept (h : PtrRow w b n m B) (e : w'.heap[b]? = w.heap[b]?) : PtrRow w' b n m B where
  there := fun j hj => by
    rw [World.cell?_of_block (w := w) (a := ⟨b, _, none⟩) e, show w'.frozen? ⟨b, j, none⟩ = w.frozen? ⟨b, j, none⟩ by simp [World.frozen?, e]]
    exact h.there j hj
  ptr := fun j hj => by rw [World.cell?_of_block (w := w) (a := ⟨b, _, none⟩) e]; exact h.ptr j hj
theorem step (h : PtrRow w b n m B) (hm : m < n) : PtrRow (w.setCell ⟨b, m, none⟩ (.pointer (some ⟨B m, 0, none⟩))) b n (m + 1) B where
  there := fun j hj => by
    refine ⟨?_, by rw [World.frozen?_setCell]; exact (h.there j hj).2⟩
    obtain ⟨u, hu⟩ := Option.isSome_iff_exists.1 (h.there j hj).1
    by_cases e : m = j
    · subst e; rw [World.cell?_setCell_same _ _ _ hu]; rfl
    · rw [World.cell?_setCell_other _ _ _ _ (by simp [e]), hu]; rfl
  ptr := fun j hj => by
    by_cases e : m = j
    · subst e
      obtain ⟨u, hu⟩ := Option.isSome_iff_exists.1 (h.there m hm).1
      rw [World.cell?_setCell_same _ _ _ hu]
    · rw [World.cell?_setCell_other _ _ _ _ (by simp [e])]; exact h.ptr j (by omega)
theorem made (w : World) (zz : Array Value) (n : Nat) (hz : zz.size = n) (B : Nat → Nat) : PtrRow (w.alloc (.cells zz 30)) w.heap.size n 0 B where
  there := fun j hj => by
    have hb := Deep.blk_alloc_new w (.cells zz 30)
    generalize w.alloc (.cells zz 30) = w1 at hb ⊢
    generalize w.heap.size = g at hb ⊢
    refine ⟨?_, by simp [World.frozen?, hb]⟩
    simp [World.cell?, hb, hz, hj]
  ptr := fun j hj => by omega
end PtrRow

/-! ### A function's loop, found by its first region's number -/
def firstId : Code → Nat
  | .region i _ _ => i
  | .seq a _ => firstId a
  | .block _ b => firstId b
  | _ => 0
def findLoop (id : Nat) : Code → Option Code
  | .loop b => if firstId b = id then some (.loop b) else findLoop id b
  | .seq a b => (findLoop id a).or (findLoop id b)
  | .cond _ a b => (findLoop id a).or (findLoop id b)
  | .block _ b => findLoop id b
  | _ => none
def loopC (f : Func) (id : Nat) : Code := (findLoop id (f.body.getD .skip)).getD .skip

end Go.Proofs.Ybulkbqau
