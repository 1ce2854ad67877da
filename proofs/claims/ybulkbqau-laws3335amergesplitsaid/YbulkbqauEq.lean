import Derived.Test.YbulkbqauBase
import Derived.ChangeKeysEq
import Derived.Laws.StructEq
set_option linter.unusedVariables false
set_option linter.unusedSimpArgs false
namespace Go.Proofs.Ybulkbqau
open Go.RowKit

theorem items_self (w : World) (d : Nat) {e : TypeId} {k : IntKind} (he : Yba.prog.underlying e = some (.int k)) (hc : Yba.prog.cellsOf e = 1) (ys : Array Value) :
    ∀ (is : List Nat), (∀ j ∈ is, ∃ v, ys[j]? = some (.int k v)) → (Op.eqItems (d + 1) e (Yba.prog.cellsOf e) ys ys is).run Yba.prog w = .ok true w
  | [], _ => by simp [Op.eqItems]
  | j :: is, h => by
    obtain ⟨v, hv⟩ := h j (by simp)
    have hp := run_part_plain (P := Yba.prog) w (e := e) (by simp [Program.plainKey, he]) (xs := ys) (off := j * Yba.prog.cellsOf e) (v := .int k v) (by rw [hc]; simpa using hv)
    simp only [Op.eqItems, Sem.run_bind, hp, Result.andThen_ok, run_equalIn_int (P := Yba.prog) w d e k k v v he, beq_self_eq_true, Bool.not_true, Bool.false_eq_true, if_false]
    exact items_self w d he hc ys is (fun i hi => h i (by simp [hi]))

theorem array_self (w : World) (d : Nat) {t e : TypeId} {k : IntKind} (ht : Yba.prog.underlying t = some (.array 1024 e)) (he : Yba.prog.underlying e = some (.int k)) (hc : Yba.prog.cellsOf e = 1)
    (ys : Array Value) (h : ∀ j, j < 1024 → ∃ v, ys[j]? = some (.int k v)) : (Op.equalIn (d + 2) t (.agg ys) (.agg ys)).run Yba.prog w = .ok true w := by
  obtain ⟨i, hi⟩ := info_of_underlying he
  rw [run_equalIn_array (P := Yba.prog) w (d + 1) ys ys ht hi]
  exact items_self w d he hc ys _ (fun j hj => h j (List.mem_range.1 hj))

theorem part_array (w : World) {t e : TypeId} (ht : Yba.prog.underlying t = some (.array 1024 e)) (hs : (Yba.prog.info? t).map (·.size) = some 1024) (xs : Array Value) (off : Nat) :
    (part t xs off).run Yba.prog w = .ok (.agg (xs.extract off (off + 1024))) w := by
  cases hq : Yba.prog.info? t with
  | none => simp [hq] at hs
  | some i =>
    have h1 : i.size = 1024 := by simpa [hq] using hs
    simp [part, isAgg, run_underlying ht, sizeOf, typeInfo, hq, h1]

theorem extract_at {xs : Array Value} {c : Nat → Int} (h : IsArr xs c) {off : Nat} {k : IntKind} (ho : off + 1024 ≤ 7168) (hk : ∀ j, j < 1024 → kd (off + j) = k) : ∀ j, j < 1024 → ∃ v, (xs.extract off (off + 1024))[j]? = some (.int k v) := by
  intro j hj
  refine ⟨c (off + j), ?_⟩
  rw [Array.getElem?_extract, if_pos (by rw [h.1]; omega), h.2 (off + j) (by omega), hk j hj]

set_option maxRecDepth 20000 in
theorem eq37 (xs : Array Value) (c : Nat → Int) (h : IsArr xs c) (d : Nat) (w : World) : (Op.equalIn (d + 3) 37 (.agg xs) (.agg xs)).run Yba.prog w = .ok true w := by
  have hst : Yba.prog.stoodInHeld 37 = false := by kernel_rfl
  have hf : (Yba.prog.fieldsOf 37).toList.map (fun f => (decide (f.name = "_"), f.type, f.offset)) = [(false, 32, 0), (false, 32, 1024), (false, 32, 2048), (false, 32, 3072), (false, 34, 4096), (false, 34, 5120), (false, 35, 6144)] := by kernel_rfl
  have hu : Yba.prog.underlying 37 = some (.struct (Yba.prog.fieldsOf 37)) := by kernel_rfl
  rw [run_equalIn_struct (P := Yba.prog) w (d + 2) 37 xs xs hu hst]
  have s32 : (Yba.prog.info? 32).map (·.size) = some 1024 := by kernel_rfl
  have s34 : (Yba.prog.info? 34).map (·.size) = some 1024 := by kernel_rfl
  have s35 : (Yba.prog.info? 35).map (·.size) = some 1024 := by kernel_rfl
  have c31 : Yba.prog.cellsOf 31 = 1 := by kernel_rfl
  have c33 : Yba.prog.cellsOf 33 = 1 := by kernel_rfl
  have c2 : Yba.prog.cellsOf 2 = 1 := by kernel_rfl
  have step : ∀ (f : Field) (fs : List Field) (t : TypeId) (o : Nat), decide (f.name = "_") = false → f.type = t → f.offset = o →
      (part t xs o).run Yba.prog w = .ok (.agg (xs.extract o (o + 1024))) w → (Op.equalIn (d + 2) t (.agg (xs.extract o (o + 1024))) (.agg (xs.extract o (o + 1024)))).run Yba.prog w = .ok true w →
      (Op.eqFields (d + 2) xs xs fs).run Yba.prog w = .ok true w → (Op.eqFields (d + 2) xs xs (f :: fs)).run Yba.prog w = .ok true w := by
    intro f fs t o hn ht ho hp he hr
    subst ht ho
    have hn' : f.name ≠ "_" := of_decide_eq_false hn
    simp only [Op.eqFields, hn', ne_eq, not_false_eq_true, if_true, Sem.run_bind, hp, he, Result.andThen_ok, Bool.not_true, Bool.false_eq_true, if_false, hr]
  generalize (Yba.prog.fieldsOf 37).toList = L at hf ⊢
  have hlen : L.length = 7 := by simpa using congrArg List.length hf
  match L, hlen, hf with
  | [f0, f1, f2, f3, f4, f5, f6], _, hf =>
    simp only [List.map_cons, List.map_nil, List.cons.injEq, Prod.mk.injEq, and_true] at hf
    obtain ⟨⟨n0, t0, o0⟩, ⟨n1, t1, o1⟩, ⟨n2, t2, o2⟩, ⟨n3, t3, o3⟩, ⟨n4, t4, o4⟩, ⟨n5, t5, o5⟩, ⟨n6, t6, o6⟩⟩ := hf
    refine step f0 _ 32 0 n0 t0 o0 (part_array w Yba.underlying32 s32 xs 0) (array_self w d Yba.underlying32 Yba.underlying31 c31 _ (extract_at h (by omega) (fun j hj => kd_u64 (by omega)))) ?_
    refine step f1 _ 32 1024 n1 t1 o1 (part_array w Yba.underlying32 s32 xs _) (array_self w d Yba.underlying32 Yba.underlying31 c31 _ (extract_at h (by omega) (fun j hj => kd_u64 (by omega)))) ?_
    refine step f2 _ 32 2048 n2 t2 o2 (part_array w Yba.underlying32 s32 xs _) (array_self w d Yba.underlying32 Yba.underlying31 c31 _ (extract_at h (by omega) (fun j hj => kd_u64 (by omega)))) ?_
    refine step f3 _ 32 3072 n3 t3 o3 (part_array w Yba.underlying32 s32 xs _) (array_self w d Yba.underlying32 Yba.underlying31 c31 _ (extract_at h (by omega) (fun j hj => kd_u64 (by omega)))) ?_
    refine step f4 _ 34 4096 n4 t4 o4 (part_array w Yba.underlying34 s34 xs _) (array_self w d Yba.underlying34 Yba.underlying33 c33 _ (extract_at h (by omega) (fun j hj => kd_u32 (by omega) (by omega)))) ?_
    refine step f5 _ 34 5120 n5 t5 o5 (part_array w Yba.underlying34 s34 xs _) (array_self w d Yba.underlying34 Yba.underlying33 c33 _ (extract_at h (by omega) (fun j hj => kd_u32 (by omega) (by omega)))) ?_
    refine step f6 _ 35 6144 n6 t6 o6 (part_array w Yba.underlying35 s35 xs _) (array_self w d Yba.underlying35 Yba.underlying2 c2 _ (extract_at h (by omega) (fun j hj => kd_i64 (by omega)))) ?_
    simp [Op.eqFields]

theorem neq37 {xs : Array Value} {c : Nat → Int} (h : IsArr xs c) (w : World) : (binOp .neq 37 (.agg xs) (.agg xs)).run Yba.prog w = .ok (.bool false) w := by
  have := eq37 xs c h 9997 w
  simp only [binOp]
  simp [Op.equal, Op.maxDepth, this]

theorem guard37 (x y : Operand) (xs ys : Array Value) (w : World) : (eqGuard .neq 37 x y (.agg xs) (.agg ys)).run Yba.prog w = .ok () w :=
  run_eqGuard_agg (P := Yba.prog) w .neq 37 x y xs ys (by kernel_rfl)

theorem info37' : ∃ j, Yba.prog.info? 37 = some j := by
  have h : (Yba.prog.info? 37).isSome = true := by kernel_rfl
  exact Option.isSome_iff_exists.1 h

/-- a pointer against itself, by '!=' -/
theorem neq30 (a : Addr) (w : World) : (binOp .neq 30 (.pointer (some a)) (.pointer (some a))).run Yba.prog w = .ok (.bool false) w := by
  obtain ⟨j, hj⟩ := info37'
  have h : ∀ d : Nat, (Op.equalIn (d + 1) 30 (.pointer (some a)) (.pointer (some a))).run Yba.prog w = .ok true w := fun d => by
    simp [Op.equalIn, run_underlying Yba.underlying30, sizeOf, typeInfo, hj, run_sameAddr_same]
  simp only [binOp]
  simp [Op.equal, Op.maxDepth, h 9999]
end Go.Proofs.Ybulkbqau
