import Derived.Test.YbulkbqauSplit
import Derived.OpenShut
import Derived.ShutString
import Derived.ChangeOld
import Derived.Below
import Derived.ProofKit
import Derived.Deep.Slices
namespace Go.Proofs.Ybulkbqau.SplitLaw
open Go.ChangeShapes Go.WideShapes Go.ChangeAt Go.RowKit Go.Deep

theorem own : ownKnob Yba.prog.godebug = none := by kernel_rfl
theorem laidOut : laidOutB Yba.prog = true := by kernel_rfl

theorem cells46 : Yba.prog.cellsOf 46 = 3 := by kernel_rfl
theorem cells42 : Yba.prog.cellsOf 42 = 1 := by kernel_rfl
theorem cells43 : Yba.prog.cellsOf 43 = 1 := by kernel_rfl
theorem cells44 : Yba.prog.cellsOf 44 = 1 := by kernel_rfl
theorem cells21 : Yba.prog.cellsOf 21 = 1 := by kernel_rfl
theorem cells4 : Yba.prog.cellsOf 4 = 1 := by kernel_rfl
theorem cells31 : Yba.prog.cellsOf 31 = 1 := by kernel_rfl

/-- one run's data -/
structure RunD where
  aI : Option Addr
  nI : Nat
  kI : Nat
  aL : Option Addr
  nL : Nat
  kL : Nat
  aM : Option Addr
  nM : Nat
  kM : Nat
  gI : Nat
  oI : Nat
  gL : Nat
  oL : Nat
  gM : Nat
  oM : Nat
  X : Nat → Int
  L : Nat → Bool
  M : Nat → Nat

def RunD.none : RunD := ⟨Option.none, 0, 0, Option.none, 0, 0, Option.none, 0, 0, 0, 0, 0, 0, 0, 0, fun _ => 0, fun _ => false, fun _ => 0⟩

instance : Inhabited RunD := ⟨RunD.none⟩

/-- a run's three cells at an address, and its rows -/
def IsRun (w : World) (x : Addr) (d : RunD) : Prop :=
  w.cell? x = some (.slice d.aI d.nI d.kI) ∧ w.cell? (x.add 1) = some (.slice d.aL d.nL d.kL) ∧ w.cell? (x.add 2) = some (.slice d.aM d.nM d.kM) ∧ RunAt w d.aI d.nI d.aL d.nL d.aM d.nM d.gI d.oI d.gL d.oL d.gM d.oM d.X d.L d.M

def IsRuns (w : World) (a : Option Addr) (len cap : Nat) (q : Nat → RunD) : Prop :=
  (a = none ∧ len = 0 ∧ cap = 0) ∨ ∃ x, a = some x ∧ ∀ i, i < len → IsRun w (x.add (i * 3)) (q i)

/-- a row of one-cell elements that came in -/
theorem open_row {H : Type} {enc : TypeId × Value → H} {W : World} {fuel : Nat} {t e : TypeId} {v : Value} {x : DataW H × List MemPlace} (good : Value → Prop) (ht : Yba.prog.underlying t = some (.slice e)) (hc : Yba.prog.cellsOf e = 1)
    (hel : ∀ (n : Nat) (u : Value) (y : DataW H × List MemPlace), DataW.trod enc Yba.prog W 0 (fun _ => true) true n e [u] = some y → good u)
    (h : DataW.trod enc Yba.prog W 0 (fun _ => true) true fuel t [v] = some x) :
    ∃ a n k g o, v = .slice a n k ∧ (0 < n → a = some ⟨g, o, none⟩) ∧ ∀ j, j < n → ∃ u, W.cell? ⟨g, o + j, none⟩ = some u ∧ good u := by
  rcases open_slice ht h with ⟨hcs, _⟩ | ⟨ad, len, cap, m, n, D, Pl, hcs, hb, hl, hm, hmm, rfl, hx⟩
  · simp at hcs
    exact ⟨none, 0, 0, 0, 0, hcs, fun h => by omega, fun j hj => by omega⟩
  simp at hcs
  have hlm : len ≤ m := by rw [hmm]; simpa using hl
  have each : ∀ i, i < len → ∃ u, W.cell? (ad.add i) = some u ∧ good u := by
    intro i hi
    obtain ⟨cs', h1, h2⟩ := hx i (by omega)
    rw [hc] at h1
    obtain ⟨_, hlen, hcell⟩ := World.cells?_some h1
    match cs', hlen with
    | [u], _ =>
      have c0 := hcell 0 (by omega)
      rw [add_add] at c0
      exact ⟨u, by simpa using c0, hel _ _ _ h2⟩
  by_cases hz : len = 0
  · subst hz
    exact ⟨some ad, 0, cap, 0, 0, hcs, fun h => by omega, fun j hj => by omega⟩
  obtain ⟨b, off, spot⟩ := ad
  have hspot : spot = none := by
    obtain ⟨u, hu, _⟩ := each 0 (by omega)
    have := World.cell?_spot hu
    simpa [Addr.add] using this
  subst hspot
  refine ⟨_, len, cap, b, off, hcs, fun _ => rfl, fun j hj => ?_⟩
  obtain ⟨u, hu, hg⟩ := each j hj
  exact ⟨u, by rw [← add_plain]; exact hu, hg⟩

theorem open_runs {H : Type} {enc : TypeId × Value → H} {W : World} {fuel : Nat} {a : Option Addr} {len cap : Nat} {x : DataW H × List MemPlace}
    (h : DataW.trod enc Yba.prog W 0 (fun _ => true) true fuel 41 [.slice a len cap] = some x) : ∃ q, IsRuns W a len cap q := by
  rcases open_slice Yba.underlying41 h with ⟨hcs, _⟩ | ⟨ad, len', cap', m, n, D, Pl, hcs, hb, hl, hm, hmm, rfl, hx⟩
  · simp at hcs
    exact ⟨fun _ => RunD.none, .inl hcs⟩
  simp at hcs
  obtain ⟨rfl, rfl, rfl⟩ := hcs
  have hlm : len ≤ m := by rw [hmm]; simpa using hl
  have each : ∀ i, i < len → ∃ q : RunD, IsRun W (ad.add (i * 3)) q := by
    intro i hi
    obtain ⟨cs', h1, h2⟩ := hx i (by omega)
    rw [cells46] at h1
    obtain ⟨_, hlen, hcell⟩ := World.cells?_some h1
    obtain ⟨xs, k, hk, hxy, _, hxl, hf⟩ := DataW.trod_struct Yba.underlying46 h2
    match xs, hxl, cs', hlen with
    | [y0, y1, y2], _, [v0, v1, v2], _ =>
      have g0 := hf 0 _ rfl
      have g1 := hf 1 _ rfl
      have g2 := hf 2 _ rfl
      simp [cells42, cells43, cells44] at g0 g1 g2
      obtain ⟨aI, nI, kI, gI, oI, rfl, hI, cI⟩ := open_row (fun u => ∃ x, u = .int .i32 x ∧ -2147483648 ≤ x ∧ x < 2147483648) Yba.underlying42 cells21 (fun n u y hu => by
        obtain ⟨x, e, _, hw⟩ := DataW.trod_int Yba.underlying21 hu
        simp at e
        have := bounds_i32 hw
        exact ⟨x, e, by omega⟩) g0
      obtain ⟨aL, nL, kL, gL, oL, rfl, hL, cL⟩ := open_row (fun u => ∃ b, u = .bool b) Yba.underlying43 cells4 (fun n u y hu => by
        obtain ⟨x, e, _⟩ := DataW.trod_bool Yba.underlying4 hu
        simp at e
        exact ⟨x, e⟩) g1
      obtain ⟨aM, nM, kM, gM, oM, rfl, hM, cM⟩ := open_row (fun u => ∃ x : Nat, u = .int .u64 x ∧ x < 18446744073709551616) Yba.underlying44 cells31 (fun n u y hu => by
        obtain ⟨x, e, _, hw⟩ := DataW.trod_int Yba.underlying31 hu
        simp at e
        have hb := bounds_u64 hw
        obtain ⟨x, rfl⟩ := Int.eq_ofNat_of_zero_le hb.1
        exact ⟨x, e, by omega⟩) g2
      have fI : ∀ j, j < nI → ∃ x : Int, W.cell? ⟨gI, oI + j, none⟩ = some (.int .i32 x) ∧ -2147483648 ≤ x ∧ x < 2147483648 := fun j hj => by
        obtain ⟨u, hu, x, rfl, hb⟩ := cI j hj
        exact ⟨x, hu, hb⟩
      have fL : ∀ j, j < nL → ∃ b : Bool, W.cell? ⟨gL, oL + j, none⟩ = some (.bool b) := fun j hj => by
        obtain ⟨u, hu, x, rfl⟩ := cL j hj
        exact ⟨x, hu⟩
      have fM : ∀ j, j < nM → ∃ x : Nat, W.cell? ⟨gM, oM + j, none⟩ = some (.int .u64 x) ∧ x < 18446744073709551616 := fun j hj => by
        obtain ⟨u, hu, x, rfl, hb⟩ := cM j hj
        exact ⟨x, hu, hb⟩
      obtain ⟨X, hX⟩ := choose_lt fI
      obtain ⟨L, hLL⟩ := choose_lt fL
      obtain ⟨M, hMM⟩ := choose_lt fM
      have c0 := hcell 0 (by omega)
      have c1 := hcell 1 (by omega)
      have c2 := hcell 2 (by omega)
      have hz : (ad.add (i * 3)).add 0 = ad.add (i * 3) := by rw [add_add]; rfl
      rw [hz] at c0
      exact ⟨⟨aI, nI, kI, aL, nL, kL, aM, nM, kM, gI, oI, gL, oL, gM, oM, X, L, M⟩, by simpa using c0, by simpa using c1, by simpa using c2, hI, hL, hM, hX, hLL, hMM⟩
  obtain ⟨q, hq⟩ := choose_lt each
  exact ⟨q, .inr ⟨_, rfl, hq⟩⟩

set_option maxRecDepth 20000 in
set_option maxHeartbeats 400000 in
theorem big (a0 : Option Addr) (n cap : Nat) (sp : Int) (hn : 256 < n) (w : World) :
    Calls Yba.prog 4 #[.slice a0 n cap, .int .u16 sp] w fun e w' => e = .returned (.bool true) ∧ Below w.heap.size w w' := by
  have hnd : (256 : Int) < (n : Int) := by omega
  go_enter Yba.func4, Yba.ntmps4
  go_wp2
  go_ret
  exact ⟨rfl, Below.refl _ _⟩

theorem walk (a0 : Option Addr) (n cap : Nat) (q : Nat → RunD) (sp : Int) (hsp : 0 ≤ sp ∧ sp ≤ 65535) (w : World) (w0 : IsRuns w a0 n cap q) :
    Calls Yba.prog 4 #[.slice a0 n cap, .int .u16 sp] w fun e w' => e = .returned (.bool true) ∧ Below w.heap.size w w' := by
  by_cases hbig : 256 < n
  · exact big a0 n cap sp hbig w
  obtain ⟨sp, rfl⟩ := Int.eq_ofNat_of_zero_le hsp.1
  have main : ∀ G off, RunsAt w a0 n G off (fun j => (q j).aI) (fun j => (q j).nI) (fun j => (q j).kI) (fun j => (q j).aL) (fun j => (q j).nL) (fun j => (q j).kL) (fun j => (q j).aM) (fun j => (q j).nM) (fun j => (q j).kM)
      (fun j => (q j).gI) (fun j => (q j).oI) (fun j => (q j).gL) (fun j => (q j).oL) (fun j => (q j).gM) (fun j => (q j).oM) (fun j => (q j).X) (fun j => (q j).L) (fun j => (q j).M) →
      Calls Yba.prog 4 #[.slice a0 n cap, .int .u16 sp] w fun e w' => e = .returned (.bool true) ∧ Below w.heap.size w w' := fun G off h =>
    split_walk a0 n cap G off _ _ _ _ _ _ _ _ _ _ _ _ _ _ _ _ _ _ sp (by omega) w h (by omega)
  by_cases hz : n = 0
  · subst hz
    exact main 0 0 ⟨fun h => by omega, fun j h => by omega, fun j h => by omega, fun j h => by omega, fun j h => by omega⟩
  rcases w0 with ⟨_, h, _⟩ | ⟨x, rfl, hc⟩
  · exact absurd h hz
  obtain ⟨b, off, spot⟩ := x
  have hspot : spot = none := by
    have := World.cell?_spot (hc 0 (by omega)).1
    simpa [Addr.add] using this
  subst hspot
  have hp : ∀ j k : Nat, ((⟨b, off, none⟩ : Addr).add (j * 3)).add k = ⟨b, off + j * 3 + k, none⟩ := fun j k => by rw [add_plain, add_plain]
  refine main b off ⟨fun _ => rfl, fun j hj => ?_, fun j hj => ?_, fun j hj => ?_, fun j hj => (hc j hj).2.2.2⟩
  · rw [← add_plain]; exact (hc j hj).1
  · rw [← hp]; exact (hc j hj).2.1
  · rw [← hp]; exact (hc j hj).2.2.1

set_option maxRecDepth 100000 in
theorem lifted (os : Os) (started : os.Started) (H : Type) (enc : TypeId × Value → H) :
    ReturnsInHanded {} Yba.checked os 4 .any (Rows.lawS3335AMergeSplitSpec.pre6 enc Yba.prog Yba.f4 Rows.lawS3335AMergeSplitRow.domain false) (Rows.lawS3335AMergeSplitSpec.post enc Yba.prog Yba.f4 false true false false) := by
  refine returnsInHanded_of_change (C := Yba.checked) own started (by kernel_rfl) Yba.func4
    (ChangeSpec.witness6 (enc := enc) (C := Yba.checked) false ⟨#[], #[.slice none 0 0, .int .u16 0], []⟩ 8 (by kernel_rfl) (by kernel_rfl) (by kernel_rfl) (by kernel_rfl)) ?_
  intro W base args ds gs before hval0 hW hcnd _
  have hval : ∀ (j : Nat) t v, Yba.f4.params[j]? = some t → args[j]? = some v → Value.okWide Yba.prog W .any base t v := hval0
  have hW' := hW
  obtain ⟨p, q, hA0, hV, rfl, hfz, hnd⟩ := hW
  have hA : DataW.TrodAll enc Yba.prog W 0 (fun _ => true) true Yba.f4.params.toList args.toList ds p := hA0
  rw [Yba.params4] at hA hval
  obtain ⟨v0, vs0, d0, ds0, p0, q0, hargs, rfl, rfl, h0, r0⟩ := trodAll_cons hA
  obtain ⟨v1, vs1, d1, ds1, p1, q1, rfl, rfl, rfl, h1, r1⟩ := trodAll_cons r0
  obtain ⟨rfl, rfl, rfl⟩ := trodAll_nil r1
  obtain rfl : args = #[v0, v1] := by cases args; simp_all
  obtain ⟨rfl, rfl⟩ := trodVars_none hV
  obtain ⟨a0, len0, cap0, rfl⟩ := okWide_slice Yba.underlying41 (hval 0 41 v0 rfl rfl)
  obtain ⟨x1, rfl, rfl, rfl, w1⟩ := open_int Yba.underlying22 (hval 1 22 v1 rfl rfl) h1
  have k0 := h0
  have lt0 : ∀ x ∈ p0, x.block < W.heap.size := by obtain ⟨m, hm⟩ := k0; exact DataW.trod_lt m _ _ _ hm
  obtain ⟨s0, w0⟩ : ∃ q, IsRuns W a0 len0 cap0 q := by
    obtain ⟨fuel, hf⟩ := h0
    exact open_runs hf
  clear hA0 hval0
  refine (walk a0 len0 cap0 s0 x1 (bounds_u16 w1) W w0).mono fun e W' ⟨he, bel⟩ => ?_
  subst he
  exact ⟨_, rfl, _, _, _, [], _, [], hW', trodAll_mk1 (shut_bool Yba.underlying4 _), (trodAll_cons_mk (Below.trod laidOut (by kernel_rfl) (of_decide_eq_true (by kernel_rfl)) k0 bel lt0) (trodAll_cons_mk (shut_int Yba.underlying22 w1) trodAll_mk0)), rfl, bel.frame _, fun h => by cases h⟩

theorem over : Rows.lawS3335AMergeSplitRow.holds Yba.pinned (OpenSpec.ofChange Rows.lawS3335AMergeSplitSpec) :=
  OpenClaim.holds_of_wide 4 Yba.f4 rfl rfl rfl rfl rfl rfl rfl ⟨rfl, rfl, rfl, rfl, rfl⟩ rfl rfl rfl rfl rfl (by kernel_rfl) Yba.func4 (by kernel_rfl)
    (of_decide_eq_true (by kernel_rfl)) (by unfold Func.isWrapper; first | (rw [if_pos (by decide +kernel)]; kernel_rfl) | (rw [if_neg (by decide +kernel)]; exact ⟨rfl, rfl⟩))
    (fun os started H enc _ => lifted os started H enc)
end Go.Proofs.Ybulkbqau.SplitLaw

namespace Go.Proofs.Ybulkbqau
theorem lawS3335AMergeSplit_proved : Rows.LawS3335AMergeSplitSaid := SplitLaw.over
end Go.Proofs.Ybulkbqau
