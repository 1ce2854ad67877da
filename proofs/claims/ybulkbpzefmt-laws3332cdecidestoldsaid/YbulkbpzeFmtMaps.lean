import Derived.Test.YbulkbpzeFmtHold
import Derived.MapKept
import Derived.ProofKit
namespace Go.Proofs.YbulkbpzeFmt
open Go.RowKit Go.WideMaps

theorem check9 (w : World) (em : Bool) (k : ByteArray) : (Instr.checkKey em 10000 9 (.string k)).run Ybaf.prog w = .ok () w := by
  unfold Instr.checkKey
  simp [run_underlying Ybaf.underlying9]

theorem law9 : Go.WideMaps.KeyLaw Ybaf.prog 9 := Go.WideMaps.string_law Ybaf.underlying9

theorem find_none (w : World) (k : ByteArray) : (Instr.findKey 9 (.string k) []).run Ybaf.prog w = .ok none w := by
  simp [Instr.findKey, run_underlying Ybaf.underlying9, Instr.findNow]

theorem find_hit (w : World) (k : ByteArray) (hk : k.size ≤ maxLen) (v : Value) (n : Nat) : (Instr.findKey 9 (.string k) [⟨.string k, v, n⟩]).run Ybaf.prog w = .ok (some (0, v)) w := by
  have hkey := keyOf_string_mk (s := k) Ybaf.underlying9 hk
  rcases law9.find w hkey [⟨.string k, v, n⟩] (fun e he => by simp at he; subst he; exact ⟨_, hkey⟩) with ⟨_, h⟩ | ⟨j, e, h1, h2, _⟩
  · exact absurd rfl (h _ (List.mem_singleton.2 rfl))
  · match j, h2 with
    | 0, h2 => simp at h2; subst h2; exact h1

theorem find_miss (w : World) (k k' : ByteArray) (hk : k.size ≤ maxLen) (hk' : k'.size ≤ maxLen) (h : k ≠ k') (v : Value) (n : Nat) : (Instr.findKey 9 (.string k) [⟨.string k', v, n⟩]).run Ybaf.prog w = .ok none w := by
  have hkey := keyOf_string_mk (s := k) Ybaf.underlying9 hk
  rcases law9.find w hkey [⟨.string k', v, n⟩] (fun e he => by simp at he; subst he; exact ⟨_, keyOf_string_mk (s := k') Ybaf.underlying9 hk'⟩) with ⟨h1, _⟩ | ⟨j, e, _, h2, h3⟩
  · exact h1
  · match j, h2 with
    | 0, h2 => simp at h2; subst h2; simp at h3; exact absurd h3.symm h

/-- the one insertion into a map that has just been made -/
theorem insert_one (t e : TypeId) (ht : Ybaf.prog.underlying t = some (.map 9 e)) (w : World) (k : ByteArray) (v : Value) :
    (Instr.mapUpdate t (.map (some w.heap.size)) (.string k) v).run Ybaf.prog (w.alloc (.map #[] 0)) = .ok () (w.alloc (.map #[⟨.string k, v, 0⟩] 1)) := by
  have hb : (w.alloc (.map #[] 0)).heap[w.heap.size]? = some (.map #[] 0) := Deep.blk_alloc_new _ _
  have hset : ({ w.alloc (.map #[] 0) with heap := (w.alloc (.map #[] 0)).heap.setIfInBounds w.heap.size (.map #[⟨.string k, v, 0⟩] 1) } : World) = w.alloc (.map #[⟨.string k, v, 0⟩] 1) := by
    have : (w.heap.push (.map #[] 0)).setIfInBounds w.heap.size (.map #[⟨.string k, v, 0⟩] 1) = w.heap.push (.map #[⟨.string k, v, 0⟩] 1) := by
      apply Array.ext_getElem?
      intro i
      rw [Array.getElem?_setIfInBounds, Array.getElem?_push, Array.getElem?_push]
      by_cases hi : w.heap.size = i
      · subst hi; simp
      · rw [if_neg hi, if_neg (fun e => hi e.symm), if_neg (fun e => hi e.symm)]
    show ({ w with heap := (w.heap.push (.map #[] 0)).setIfInBounds w.heap.size (.map #[⟨.string k, v, 0⟩] 1) } : World) = _
    rw [this]
    rfl
  simp [Instr.mapUpdate, run_underlying ht, MapKept.run_getObj_map hb, check9, find_none, MapKept.run_setObj_map _ hb]
  exact hset

theorem look_hit (t e : TypeId) (ht : Ybaf.prog.underlying t = some (.map 9 e)) (w : World) (b : Nat) (k : ByteArray) (hk : k.size ≤ maxLen) (v : Value) (ok : Bool) (hb : w.heap[b]? = some (.map #[⟨.string k, v, 0⟩] 1)) :
    (Instr.lookup t (.map (some b)) (.string k) ok).run Ybaf.prog w = .ok (if ok then .tuple #[v, .bool true] else v) w := by
  cases ok <;> simp [Instr.lookup, run_underlying ht, MapKept.run_getObj_map hb, check9, find_hit w k hk]

theorem look_miss (t e : TypeId) (ht : Ybaf.prog.underlying t = some (.map 9 e)) (w : World) (b : Nat) (k k' : ByteArray) (h1 : k.size ≤ maxLen) (h2 : k'.size ≤ maxLen) (hk : k ≠ k') (v z : Value) (ok : Bool) (hb : w.heap[b]? = some (.map #[⟨.string k', v, 0⟩] 1)) (hz : (zeroValue e).run Ybaf.prog w = .ok z w) :
    (Instr.lookup t (.map (some b)) (.string k) ok).run Ybaf.prog w = .ok (if ok then .tuple #[z, .bool false] else z) w := by
  cases ok <;> simp [Instr.lookup, run_underlying ht, MapKept.run_getObj_map hb, check9, find_miss w k k' h1 h2 hk, hz]

theorem look_none (t e : TypeId) (ht : Ybaf.prog.underlying t = some (.map 9 e)) (w : World) (k : ByteArray) (z : Value) (ok : Bool) (hz : (zeroValue e).run Ybaf.prog w = .ok z w) :
    (Instr.lookup t (.map none) (.string k) ok).run Ybaf.prog w = .ok (if ok then .tuple #[z, .bool false] else z) w := by
  cases ok <;> simp [Instr.lookup, run_underlying ht, check9, find_none, hz]

theorem zero27 (w : World) : (zeroValue 27).run Ybaf.prog w = .ok (.agg #[.nilIface, .nilIface, .bool false]) w := by kernel_rfl
theorem zero29 (w : World) : (zeroValue 29).run Ybaf.prog w = .ok (.pointer none) w := by kernel_rfl

theorem insert_third (w : World) (o o' : Obj) (k : ByteArray) (v : Value) :
    (Instr.mapUpdate 28 (.map (some (w.heap.size + 1 + 1))) (.string k) v).run Ybaf.prog (((w.alloc o).alloc o').alloc (.map #[] 0)) = .ok () (((w.alloc o).alloc o').alloc (.map #[⟨.string k, v, 0⟩] 1)) := by
  have h := insert_one 28 29 Ybaf.underlying28 ((w.alloc o).alloc o') k v
  have e : ((w.alloc o).alloc o').heap.size = w.heap.size + 1 + 1 := by simp
  rw [e] at h
  exact h

theorem insert_second (w : World) (o : Obj) (k : ByteArray) (v : Value) :
    (Instr.mapUpdate 28 (.map (some (w.heap.size + 1))) (.string k) v).run Ybaf.prog ((w.alloc o).alloc (.map #[] 0)) = .ok () ((w.alloc o).alloc (.map #[⟨.string k, v, 0⟩] 1)) := by
  have h := insert_one 28 29 Ybaf.underlying28 (w.alloc o) k v
  have e : (w.alloc o).heap.size = w.heap.size + 1 := by simp
  rw [e] at h
  exact h

/-- the zero progress: some 84 cells -/
theorem zero84 : ∃ z : Array Value, z.size = 84 ∧ ∀ w : World, (zeroValue 84).run Ybaf.prog w = .ok (.agg z) w := by
  have h : ((Ybaf.prog.info? 84).bind (·.zero)).map (fun v => match v with | .agg z => z.size | _ => 0) = some 84 := by kernel_rfl
  cases hi : Ybaf.prog.info? 84 with
  | none => rw [hi] at h; simp at h
  | some i =>
    rw [hi] at h
    cases hz : i.zero with
    | none => simp [hz] at h
    | some v =>
      simp [hz] at h
      match v, h, hz with
      | .agg z, h, hz => exact ⟨z, h, fun w => by simp [zeroValue, typeInfo, hi, hz]⟩
end Go.Proofs.YbulkbpzeFmt
