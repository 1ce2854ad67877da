import Derived.Test.YbulkbpzeDoorNote
import Derived.Test.YbulkbpzeDoorLaid
import Derived.Test.YbulkbpzeDoorTie
import Derived.Test.YbulkbpzeDoorCards
import Derived.SevenTiedAt
import Derived.Deep.Slices
namespace Go.Proofs.YbulkbpzeDoor.NoteLaw
open Go.ChangeShapes Go.WideShapes Go.ChangeAt Go.WideMaps Go.WideElems Go.RowKit Go.Deep
open Go.ChangeMaps (open_string shut_string)

/-- The door's own heap meets the condition: three closed facts. -/
theorem door_met (os : Os) (args : Array Value) : laidMetH Ybad.prog laid1 ((World.doorLaid Ybad.prog 34 os).forCall (fun _ _ => 0) ⟨#[], args, []⟩).memory :=
  laidMetH_of_parts3 (fuel := 8) (laidMet_of_run' 8 (by kernel_rfl) (by kernel_rfl)) (by kernel_rfl) (by kernel_rfl)

/-- WHAT THE CONDITION GIVES THE WALKS, said of every world with the same two blocks. -/
theorem of_laid2 {W : World} (h : laidMetH Ybad.prog laid1 W) : ∃ bm, Holds W bm := by
  rw [MakeChecks.laidMetH_plain _ _ _ (by kernel_rfl)] at h
  obtain ⟨ps, ⟨g0, t0, cs0, f0, p0, q0, hg0, ht0, hv0, hd0, _, _⟩, _, _⟩ := h
  obtain rfl := Option.some.inj (gEnd.symm.trans hg0)
  obtain rfl := Option.some.inj (tEnd.symm.trans ht0)
  rcases open_map Ybad.underlying49 hd0 with ⟨_, hx⟩ | ⟨bm, es, clock, m, rfl, hcs, hb, _, F, hx⟩
  · simp [Rows.laid_example_com_countermarch_countermarch_endings] at hx
  simp only [Prod.mk.injEq] at hx
  have hcell : W.cell? ⟨0, 0, none⟩ = some (.map (some bm)) := by
    have := World.var?_cell hg0 hv0 0
    rw [Array.eq_one_of_toList hcs] at this
    simpa using this
  refine ⟨bm, hcell, lt_of_block hb, fun wx hbx s hs => ?_⟩
  have hb' : wx.heap[bm]? = some (.map es clock) := by rw [hbx]; exact hb
  have zero : (zeroValue 37).run Ybad.prog wx = .ok (.int .u8 0) wx := by kernel_rfl
  rcases fit_lookup (w := wx) law Ybad.underlying49 zero hb' F (keyOf_string_mk (s := s) Ybad.underlying22 hs) with ⟨hrun, hat⟩ | ⟨v, y, hrun, hRv, hat, _⟩
  · have := hat .nil
    rw [← hx.1, at_key, ← ByteArray.toList_eq] at this
    rw [hrun]
    unfold endOf
    split at this <;> rename_i h1 <;> simp only [h1] <;> try (cases this)
    split at this <;> rename_i h2 <;> simp only [h2] <;> try (cases this)
    split at this <;> rename_i h3 <;> simp only [h3] <;> try (cases this)
    split at this <;> rename_i h4 <;> simp only [h4] <;> try (cases this)
    simp
  · obtain ⟨r, rfl, rfl, _⟩ := elemAt_int Ybad.underlying37 hRv
    have := hat (.lit (.int .u8 0))
    rw [← hx.1, at_key, ← ByteArray.toList_eq] at this
    rw [hrun]
    have e : r = endOf s.toList := by
      unfold endOf
      repeat' split at this
      all_goals (simp at this; simp_all)
    rw [e]

theorem cells46 : Ybad.prog.cellsOf 46 = 5 := by kernel_rfl
theorem cells5 : Ybad.prog.cellsOf 5 = 1 := by kernel_rfl
theorem cells9 : Ybad.prog.cellsOf 9 = 1 := by kernel_rfl
theorem cells4 : Ybad.prog.cellsOf 4 = 1 := by kernel_rfl
theorem cells3 : Ybad.prog.cellsOf 3 = 1 := by kernel_rfl

/-- one step's five cells at an address -/
def IsStep (w : World) (x : Addr) (q : Int × ByteArray × Bool × Bool × Int) : Prop :=
  w.cell? x = some (.int .u8 q.1) ∧ (0 ≤ q.1 ∧ q.1 ≤ 255) ∧ w.cell? (x.add 1) = some (.string q.2.1) ∧ q.2.1.size ≤ maxLen ∧ w.cell? (x.add 2) = some (.bool q.2.2.1) ∧ w.cell? (x.add 3) = some (.bool q.2.2.2.1) ∧ w.cell? (x.add 4) = some (.int .i64 q.2.2.2.2)

/-- WHAT A WALK IS TOLD OF A SLICE OF STEPS THAT CAME IN. -/
def IsSteps (w : World) (a : Option Addr) (len cap : Nat) (q : Nat → Int × ByteArray × Bool × Bool × Int) : Prop :=
  (a = none ∧ len = 0 ∧ cap = 0) ∨ ∃ x, a = some x ∧ ∀ i, i < len → IsStep w (x.add (i * 5)) (q i)

theorem open_steps {H : Type} {enc : TypeId × Value → H} {W : World} {fuel : Nat} {a : Option Addr} {len cap : Nat} {x : DataW H × List MemPlace}
    (h : DataW.trod enc Ybad.prog W 0 (fun _ => true) true fuel 41 [.slice a len cap] = some x) : ∃ q, IsSteps W a len cap q := by
  rcases open_slice Ybad.underlying41 h with ⟨hcs, _⟩ | ⟨ad, len', cap', m, n, D, Pl, hcs, hb, hl, hm, hmm, rfl, hx⟩
  · simp at hcs
    exact ⟨fun _ => (0, ⟨#[]⟩, false, false, 0), .inl hcs⟩
  simp at hcs
  obtain ⟨rfl, rfl, rfl⟩ := hcs
  have hlm : len ≤ m := by rw [hmm]; simpa using hl
  have each : ∀ i, i < len → ∃ q : Int × ByteArray × Bool × Bool × Int, IsStep W (ad.add (i * 5)) q := by
    intro i hi
    obtain ⟨cs', h1, h2⟩ := hx i (by omega)
    rw [cells46] at h1
    obtain ⟨_, hlen, hcell⟩ := World.cells?_some h1
    obtain ⟨xs, k, hk, hxy, _, hxl, hf⟩ := DataW.trod_struct Ybad.underlying46 h2
    match xs, hxl, cs', hlen with
    | [y0, y1, y2, y3, y4], _, [v0, v1, v2, v3, v4], _ =>
      have g0 := hf 0 _ rfl
      have g1 := hf 1 _ rfl
      have g2 := hf 2 _ rfl
      have g3 := hf 3 _ rfl
      have g4 := hf 4 _ rfl
      simp [cells5, cells9, cells4, cells3] at g0 g1 g2 g3 g4
      obtain ⟨x0, e0, _, hw0⟩ := DataW.trod_int Ybad.underlying5 g0
      obtain ⟨x1, e1, _, hw1⟩ := DataW.trod_string Ybad.underlying9 g1
      obtain ⟨x2, e2, _⟩ := DataW.trod_bool Ybad.underlying4 g2
      obtain ⟨x3, e3, _⟩ := DataW.trod_bool Ybad.underlying4 g3
      obtain ⟨x4, e4, _, _⟩ := DataW.trod_int Ybad.underlying3 g4
      simp at e0 e1 e2 e3 e4
      subst e0 e1 e2 e3 e4
      have c0 := hcell 0 (by omega)
      have c1 := hcell 1 (by omega)
      have c2 := hcell 2 (by omega)
      have c3 := hcell 3 (by omega)
      have c4 := hcell 4 (by omega)
      have hz : (ad.add (i * 5)).add 0 = ad.add (i * 5) := by rw [add_add]; rfl
      rw [hz] at c0
      exact ⟨(x0, x1, x2, x3, x4), by simpa using c0, bounds_u8 hw0, by simpa using c1, hw1, by simpa using c2, by simpa using c3, by simpa using c4⟩
  obtain ⟨q, hq⟩ := choose_lt each
  exact ⟨q, .inr ⟨_, rfl, hq⟩⟩

set_option maxHeartbeats 400000 in
theorem big (a : Option Addr) (n cap : Nat) (hn : 1024 < n) (w : World) :
    Calls Ybad.prog 4 #[.slice a n cap] w fun e w' => e = .returned (.bool true) ∧ Below w.heap.size w w' := by
  have hnd : (1024 : Int) < (n : Int) := by omega
  go_enter Ybad.func4, Ybad.ntmps4
  go_wp2
  go_ret
  exact ⟨rfl, Below.refl _ _⟩

set_option maxRecDepth 20000 in
set_option maxHeartbeats 400000 in
theorem empty (a : Option Addr) (cap : Nat) (w : World) :
    Calls Ybad.prog 4 #[.slice a 0 cap] w fun e w' => e = .returned (.bool true) ∧ Below w.heap.size w w' := by
  go_enter Ybad.func4, Ybad.ntmps4
  go_wp2
  refine wp_loop_rounds 1 ?_
  rw [rounds_succ]
  go_wp2
  go_ret
  exact ⟨rfl, (Below.refl _ _).alloc (Nat.le_refl _) _⟩

theorem walk (a0 : Option Addr) (n cap : Nat) (q : Nat → Int × ByteArray × Bool × Bool × Int) (bm : Nat) (w : World) (hE : Holds w bm) (w0 : IsSteps w a0 n cap q) :
    Calls Ybad.prog 4 #[.slice a0 n cap] w fun e w' => e = .returned (.bool true) ∧ Below w.heap.size w w' := by
  by_cases hbig : 1024 < n
  · exact big a0 n cap hbig w
  by_cases hz : n = 0
  · subst hz
    exact empty a0 cap w
  rcases w0 with ⟨rfl, rfl, rfl⟩ | ⟨x, rfl, hc⟩
  · omega
  obtain ⟨b, off, spot⟩ := x
  have hspot : spot = none := by
    have := World.cell?_spot (hc 0 (by omega)).1
    simpa [Addr.add] using this
  subst hspot
  have hp : ∀ j k : Nat, ((⟨b, off, none⟩ : Addr).add (j * 5)).add k = ⟨b, off + j * 5 + k, none⟩ := fun j k => by rw [add_plain, add_plain]
  refine note_walk b off n cap (fun j => (q j).1) (fun j => (q j).2.1) (fun j => (q j).2.2.1) (fun j => (q j).2.2.2.1) (fun j => (q j).2.2.2.2) bm w hE (by omega) (fun j hj => ?_) (fun j hj => (hc j hj).2.1) (fun j hj => ?_) (fun j hj => (hc j hj).2.2.2.1) (fun j hj => ?_) (fun j hj => ?_) (fun j hj => ?_)
  · rw [← add_plain]; exact (hc j hj).1
  · rw [← hp]; exact (hc j hj).2.2.1
  · rw [← hp]; exact (hc j hj).2.2.2.2.1
  · rw [← hp]; exact (hc j hj).2.2.2.2.2.1
  · rw [← hp]; exact (hc j hj).2.2.2.2.2.2

set_option maxRecDepth 100000 in
theorem lifted (os : Os) (started : os.Started) (H : Type) (enc : TypeId × Value → H) :
    ReturnsInHanded {} Ybad.checked os 4 .any (fun w args => (Rows.lawS3332BNoteSpec.pre enc Ybad.prog Ybad.f4 [] false w args ∧ laidMetH Ybad.prog laid1 w) ∧ sizedMet enc Ybad.prog Ybad.f4 (OpenSpec.ofChange Rows.lawS3332BNoteSpec) false w args)
      (Rows.lawS3332BNoteSpec.post enc Ybad.prog Ybad.f4 false true false false) := by
  refine returnsInHanded_of_change_and (C := Ybad.checked) (X := fun w _ => laidMetH Ybad.prog laid1 w) (fun _ _ _ hh h => h.of_heap hh) own started (by kernel_rfl) Ybad.func4
    (ChangeSpec.witness_shaped (enc := enc) (C := Ybad.checked) (os := os) (X := fun w _ => laidMetH Ybad.prog laid1 w) false (World.doorLaid Ybad.prog 34 os) #[.slice none 0 0] 8 rfl (World.shaped_of_RefB (by kernel_rfl) (by kernel_rfl)) (by kernel_rfl) (by kernel_rfl) (by kernel_rfl) (door_met os _)) ?_
  intro W base args ds gs before hval0 hW _ _ hL _
  have hval : ∀ (j : Nat) t v, Ybad.f4.params[j]? = some t → args[j]? = some v → Value.okWide Ybad.prog W .any base t v := hval0
  have hW' := hW
  obtain ⟨p, q, hA0, hV0, rfl, hfz, hnd⟩ := hW
  have hA : DataW.TrodAll enc Ybad.prog W 0 (fun _ => true) true Ybad.f4.params.toList args.toList ds p := hA0
  have hV : DataW.TrodVars enc Ybad.prog W (fun _ => true) ["example.com/countermarch/countermarch.endings"] gs q := hV0
  rw [Ybad.params4] at hA hval
  obtain ⟨v0, vs0, d0, ds0, p0, q0, hargs, rfl, rfl, h0, r0⟩ := trodAll_cons hA
  obtain ⟨rfl, rfl, rfl⟩ := trodAll_nil r0
  obtain rfl : args = #[v0] := by cases args; simp_all
  obtain ⟨g, t, cs, fuel, d, p', rfl, hg, ht, hvar, hd, rfl⟩ := trodVars_one hV
  obtain rfl := Option.some.inj (gEnd.symm.trans hg)
  obtain rfl := Option.some.inj (tEnd.symm.trans ht)
  obtain ⟨a0, len0, cap0, rfl⟩ := okWide_slice Ybad.underlying41 (hval 0 41 v0 rfl rfl)
  have k0 := h0
  have lt0 : ∀ x ∈ p0, x.block < W.heap.size := by obtain ⟨m, hm⟩ := k0; exact DataW.trod_lt m _ _ _ hm
  obtain ⟨qs, w0⟩ : ∃ q, IsSteps W a0 len0 cap0 q := by
    obtain ⟨fuel, hf⟩ := h0
    exact open_steps hf
  clear hA0 hval0 hV0
  obtain ⟨bm, hE⟩ := of_laid2 hL
  have h0lt : 0 < W.heap.size := World.block_lt_of_cell? _ _ hE.cell
  have hltv : ∀ x ∈ p', x.block < W.heap.size := fun x hx => hW'.lt x (List.mem_append_right _ (List.mem_append_right _ hx))
  have hcs : cs = #[.map (some bm)] := by
    rcases open_map Ybad.underlying49 hd with ⟨hcs, _⟩ | ⟨bm', _, _, _, _, hcs, _⟩
    · have := World.var?_cell hg hvar 0
      rw [Array.eq_one_of_toList hcs, hE.cell] at this
      simp at this
    · have := World.var?_cell hg hvar 0
      rw [Array.eq_one_of_toList hcs, hE.cell] at this
      simp at this
      rw [Array.eq_one_of_toList hcs, this]
  subst hcs
  refine (walk a0 len0 cap0 qs bm W hE w0).mono fun e W' ⟨he, hB⟩ => ?_
  subst he
  obtain ⟨fuel', hd'⟩ := Below.trod laidOut (by kernel_rfl) (of_decide_eq_true (by kernel_rfl)) (v := .map (some bm)) (⟨fuel, by simpa [Value.cells] using hd⟩ : DataW.Trod enc Ybad.prog W 0 (fun _ => true) true 49 (.map (some bm)) d p') hB hltv
  have hv' := trodVars_mk1 (enc := enc) (spare := fun b => decide (b < W.heap.size)) hg ht (var?_below hB hg h0lt hvar) (by simpa [Value.cells] using hd')
  exact ⟨_, rfl, _, _, _, [], _, (MemPlace.row ⟨0, 0, none⟩ (#[.map (some bm)] : Array Value).size ++ p'), hW', trodAll_mk1 (shut_bool Ybad.underlying4 _),
    (trodAll_cons_mk (Below.trod laidOut (by kernel_rfl) (of_decide_eq_true (by kernel_rfl)) k0 hB lt0) trodAll_mk0),
    hv', hB.frame _, fun h => by cases h⟩

theorem over : Rows.LawS3332BNoteSaid :=
  OpenClaim.holds_of_wide 4 Ybad.f4 rfl rfl rfl rfl rfl rfl rfl ⟨rfl, rfl, rfl, rfl, rfl⟩ rfl rfl rfl rfl rfl (by kernel_rfl) Ybad.func4 (by kernel_rfl)
    (of_decide_eq_true (by kernel_rfl)) (by unfold Func.isWrapper; first | (rw [if_pos (by decide +kernel)]; kernel_rfl) | (rw [if_neg (by decide +kernel)]; exact ⟨rfl, rfl⟩))
    (fun os started H enc _ => lifted os started H enc)
end Go.Proofs.YbulkbpzeDoor.NoteLaw

namespace Go.Proofs.YbulkbpzeDoor
theorem lawS3332BNote_card : Rows.LawS3332BNoteCardSaid :=
  Claim7.holds_tied_plain_at .later [] [.mapped] true (true, "9d882c25c0269e4f6c42cb9bcaf7523d86db4307b70a3210665f5ed58698c51a") false
    NoteLaw.over (fun _ h => by cases h) (by kernel_rfl) (fun _ h => by cases h) lawS3332BNote_row_tie rfl ⟨rfl, rfl⟩ (by kernel_rfl) rfl
    (fun f fn hf hfn => by
      obtain rfl : f = 4 := Option.some.inj ((show Ybad.prog.funcNamed "example.com/countermarch/countermarch.LawS3332BNote" = some 4 by kernel_rfl).symm.trans hf) |>.symm
      obtain rfl : fn = Ybad.f4 := (Option.some.inj (Ybad.func4.symm.trans hfn)).symm
      exact ⟨by kernel_rfl, fun j t ht => by
        rw [Ybad.params4] at ht
        have hm : t ∈ [41] := by simpa using Array.mem_of_getElem? ht
        have hall : ([41].all fun u => !Ybad.prog.wantsStandIn u) = true := by kernel_rfl
        exact (show Ybad.prog.wantsStandIn t = false by simpa using List.all_eq_true.1 hall t hm)⟩)
    (by kernel_rfl)
end Go.Proofs.YbulkbpzeDoor
