import Derived.Test.YbulkbpzeFmtMaps
import Derived.LaidEqlPtr
namespace Go.Proofs.YbulkbpzeFmt
open Go.RowKit Go.Extern.Stop Go.Stop Go.Extern

theorem info31 : ∃ j, Ybaf.prog.info? 31 = some j := by
  have h : (Ybaf.prog.info? 31).isSome = true := by kernel_rfl
  exact Option.isSome_iff_exists.1 h

/-- a pointer against itself -/
theorem eq29 (a : Addr) (w : World) : (binOp .eql 29 (.pointer (some a)) (.pointer (some a))).run Ybaf.prog w = .ok (.bool true) w := by
  obtain ⟨j, hj⟩ := info31
  exact run_eql_ptr_same w a Ybaf.underlying29 hj

theorem ne_bytes {a b : ByteArray} (h : a ≠ b) : (a.toList == b.toList) = false := by
  have : a.toList ≠ b.toList := by
    intro e
    rw [ByteArray.toList_eq, ByteArray.toList_eq] at e
    exact h (by cases a; cases b; simp_all)
  simpa using this

theorem heap_third (wb : World) (E : Nat) (hE : wb.heap.size = E) (o1 o2 o3 : Obj) :
    (((wb.alloc o1).alloc o2).alloc o3).heap[E]? = some o1 ∧ (((wb.alloc o1).alloc o2).alloc o3).heap[E + 1]? = some o2 ∧ (((wb.alloc o1).alloc o2).alloc o3).heap[E + 1 + 1]? = some o3 := by
  subst hE
  refine ⟨?_, ?_, ?_⟩
  · rw [Deep.blk_alloc_lt _ _ _ (by simp; omega), Deep.blk_alloc_lt _ _ _ (by simp)]
    exact Deep.blk_alloc_new _ _
  · rw [Deep.blk_alloc_lt _ _ _ (by simp)]
    have := Deep.blk_alloc_new (wb.alloc o1) o2
    simpa using this
  · have := Deep.blk_alloc_new ((wb.alloc o1).alloc o2) o3
    simpa using this

/-- what 'holding' is told, off the world as the law has laid it: the engine, the progress and the instance behind whatever lay there -/
theorem told_of (wb : World) (E : Nat) (hE : wb.heap.size = E) (md mr : Value) (nm : ByteArray) (rf ir : Bool) (rp : Option Addr) (owes : Int) (eng prg inst : Array Value)
    (h12 : eng[12]? = some md) (h13 : eng[13]? = some mr) (h83 : prg[83]? = some (.int .i64 owes))
    (ld : ∀ wx, Below wb.heap.size wb wx → (Instr.lookup 23 md (.string nm) true).run Ybaf.prog wx = .ok (.tuple #[.agg #[.nilIface, .nilIface, .bool rf], .bool ir]) wx)
    (lr : ∀ wx, Below wb.heap.size wb wx → (Instr.lookup 28 mr (.string nm) false).run Ybaf.prog wx = .ok (.pointer rp) wx) :
    Told (((wb.alloc (.cells eng 62)).alloc (.cells prg 84)).alloc (.cells inst 88)) E (E + 1) md mr nm rf ir rp owes := by
  obtain ⟨g1, g2, _⟩ := heap_third wb E hE (.cells eng 62) (.cells prg 84) (.cells inst 88)
  have hb : Below wb.heap.size wb (((wb.alloc (.cells eng 62)).alloc (.cells prg 84)).alloc (.cells inst 88)) := (((Below.refl _ _).alloc (Nat.le_refl _) _).alloc (by simp) _).alloc (by simp; omega) _
  refine ⟨?_, ?_, ?_, fun wx hx => ld wx (hb.trans (hx.mono hb.size)), fun wx hx => lr wx (hb.trans (hx.mono hb.size))⟩
  · unfold World.cell?; dsimp only; rw [g1]; simpa using h12
  · unfold World.cell?; dsimp only; rw [g1]; simpa using h13
  · unfold World.cell?; dsimp only; rw [g2]; simpa using h83

/-- the look-up in 'declared' at the name, in every later world -/
theorem ld_one (wb : World) (bm : Nat) (rn nm : ByteArray) (hrn : rn.size ≤ maxLen) (hnm : nm.size ≤ maxLen) (f : Bool) (hb : wb.heap[bm]? = some (.map #[⟨.string rn, .agg #[.nilIface, .nilIface, .bool f], 0⟩] 1)) (ir rf : Bool)
    (h : (rn = nm ∧ ir = true ∧ rf = f) ∨ (rn ≠ nm ∧ ir = false ∧ rf = false)) :
    ∀ wx, Below wb.heap.size wb wx → (Instr.lookup 23 (.map (some bm)) (.string nm) true).run Ybaf.prog wx = .ok (.tuple #[.agg #[.nilIface, .nilIface, .bool rf], .bool ir]) wx := by
  intro wx hx
  have hb' : wx.heap[bm]? = some (.map #[⟨.string rn, .agg #[.nilIface, .nilIface, .bool f], 0⟩] 1) := (hx.block bm (lt_of_block hb)).trans hb
  rcases h with ⟨rfl, rfl, rfl⟩ | ⟨h, rfl, rfl⟩
  · exact look_hit 23 27 Ybaf.underlying23 wx bm rn hrn _ true hb'
  · exact look_miss 23 27 Ybaf.underlying23 wx bm nm rn hnm hrn (fun e => h e.symm) _ _ true hb' (zero27 _)

/-- the look-up in 'retired' at the name, in every later world -/
theorem lr_one (wb : World) (bm : Nat) (tn nm : ByteArray) (htn : tn.size ≤ maxLen) (hnm : nm.size ≤ maxLen) (a : Addr) (hb : wb.heap[bm]? = some (.map #[⟨.string tn, .pointer (some a), 0⟩] 1)) (rp : Option Addr)
    (h : (tn = nm ∧ rp = some a) ∨ (tn ≠ nm ∧ rp = none)) :
    ∀ wx, Below wb.heap.size wb wx → (Instr.lookup 28 (.map (some bm)) (.string nm) false).run Ybaf.prog wx = .ok (.pointer rp) wx := by
  intro wx hx
  have hb' : wx.heap[bm]? = some (.map #[⟨.string tn, .pointer (some a), 0⟩] 1) := (hx.block bm (lt_of_block hb)).trans hb
  rcases h with ⟨rfl, rfl⟩ | ⟨h, rfl⟩
  · exact look_hit 28 29 Ybaf.underlying28 wx bm tn htn _ false hb'
  · exact look_miss 28 29 Ybaf.underlying28 wx bm nm tn hnm htn (fun e => h e.symm) _ _ false hb' (zero29 _)

theorem ld_nil (wb : World) (nm : ByteArray) : ∀ wx, Below wb.heap.size wb wx → (Instr.lookup 23 (.map none) (.string nm) true).run Ybaf.prog wx = .ok (.tuple #[.agg #[.nilIface, .nilIface, .bool false], .bool false]) wx :=
  fun wx _ => look_none 23 27 Ybaf.underlying23 wx nm _ true (zero27 _)

theorem lr_nil (wb : World) (nm : ByteArray) : ∀ wx, Below wb.heap.size wb wx → (Instr.lookup 28 (.map none) (.string nm) false).run Ybaf.prog wx = .ok (.pointer none) wx :=
  fun wx _ => look_none 28 29 Ybaf.underlying28 wx nm _ false (zero29 _)
end Go.Proofs.YbulkbpzeFmt
