import Derived.Test.YbulkbqauSumsWalk
import Derived.OpenShut
import Derived.ShutString
import Derived.ChangeOld
import Derived.Below
import Derived.ProofKit
import Derived.Deep.Slices
namespace Go.Proofs.Ybulkbqau.SumsLaw
open Go.ChangeShapes Go.WideShapes Go.ChangeAt Go.RowKit Go.Deep

theorem own : ownKnob Yba.prog.godebug = none := by kernel_rfl
theorem laidOut : laidOutB Yba.prog = true := by kernel_rfl

theorem cells51 : Yba.prog.cellsOf 51 = 4 := by kernel_rfl
theorem cells22 : Yba.prog.cellsOf 22 = 1 := by kernel_rfl
theorem cells5 : Yba.prog.cellsOf 5 = 1 := by kernel_rfl
theorem cells31 : Yba.prog.cellsOf 31 = 1 := by kernel_rfl
theorem cells33 : Yba.prog.cellsOf 33 = 1 := by kernel_rfl

/-- one step's four cells at an address -/
def IsStep (w : World) (x : Addr) (q : Int × Int × Int × Int) : Prop :=
  w.cell? x = some (.int .u16 q.1) ∧ (0 ≤ q.1 ∧ q.1 ≤ 65535) ∧ w.cell? (x.add 1) = some (.int .u8 q.2.1) ∧ (0 ≤ q.2.1 ∧ q.2.1 ≤ 255) ∧ w.cell? (x.add 2) = some (.int .u64 q.2.2.1) ∧ (0 ≤ q.2.2.1 ∧ q.2.2.1 ≤ 18446744073709551615) ∧ w.cell? (x.add 3) = some (.int .u32 q.2.2.2) ∧ (0 ≤ q.2.2.2 ∧ q.2.2.2 ≤ 4294967295)

/-- WHAT A WALK IS TOLD OF A SLICE OF STEPS THAT CAME IN. -/
def IsSteps (w : World) (a : Option Addr) (len cap : Nat) (q : Nat → Int × Int × Int × Int) : Prop :=
  (a = none ∧ len = 0 ∧ cap = 0) ∨ ∃ x, a = some x ∧ ∀ i, i < len → IsStep w (x.add (i * 4)) (q i)

theorem open_steps {H : Type} {enc : TypeId × Value → H} {W : World} {fuel : Nat} {a : Option Addr} {len cap : Nat} {x : DataW H × List MemPlace}
    (h : DataW.trod enc Yba.prog W 0 (fun _ => true) true fuel 23 [.slice a len cap] = some x) : ∃ q, IsSteps W a len cap q := by
  rcases open_slice Yba.underlying23 h with ⟨hcs, _⟩ | ⟨ad, len', cap', m, n, D, Pl, hcs, hb, hl, hm, hmm, rfl, hx⟩
  · simp at hcs
    exact ⟨fun _ => (0, 0, 0, 0), .inl hcs⟩
  simp at hcs
  obtain ⟨rfl, rfl, rfl⟩ := hcs
  have hlm : len ≤ m := by rw [hmm]; simpa using hl
  have each : ∀ i, i < len → ∃ q : Int × Int × Int × Int, IsStep W (ad.add (i * 4)) q := by
    intro i hi
    obtain ⟨cs', h1, h2⟩ := hx i (by omega)
    rw [cells51] at h1
    obtain ⟨_, hlen, hcell⟩ := World.cells?_some h1
    obtain ⟨xs, k, hk, hxy, _, hxl, hf⟩ := DataW.trod_struct Yba.underlying51 h2
    match xs, hxl, cs', hlen with
    | [y0, y1, y2, y3], _, [v0, v1, v2, v3], _ =>
      have g0 := hf 0 _ rfl
      have g1 := hf 1 _ rfl
      have g2 := hf 2 _ rfl
      have g3 := hf 3 _ rfl
      simp [cells22, cells5, cells31, cells33] at g0 g1 g2 g3
      obtain ⟨x0, e0, _, hw0⟩ := DataW.trod_int Yba.underlying22 g0
      obtain ⟨x1, e1, _, hw1⟩ := DataW.trod_int Yba.underlying5 g1
      obtain ⟨x2, e2, _, hw2⟩ := DataW.trod_int Yba.underlying31 g2
      obtain ⟨x3, e3, _, hw3⟩ := DataW.trod_int Yba.underlying33 g3
      simp at e0 e1 e2 e3
      subst e0 e1 e2 e3
      have c0 := hcell 0 (by omega)
      have c1 := hcell 1 (by omega)
      have c2 := hcell 2 (by omega)
      have c3 := hcell 3 (by omega)
      have hz : (ad.add (i * 4)).add 0 = ad.add (i * 4) := by rw [add_add]; rfl
      rw [hz] at c0
      exact ⟨(x0, x1, x2, x3), by simpa using c0, bounds_u16 hw0, by simpa using c1, bounds_u8 hw1, by simpa using c2, bounds_u64 hw2, by simpa using c3, bounds_u32 hw3⟩
  obtain ⟨q, hq⟩ := choose_lt each
  exact ⟨q, .inr ⟨_, rfl, hq⟩⟩

theorem IsSteps.at {w : World} {a : Option Addr} {len cap : Nat} {q : Nat → Int × Int × Int × Int} (h : IsSteps w a len cap q) : ∃ G off P F V H, StepsAt w a len G off P F V H := by
  by_cases hz : len = 0
  · subst hz
    exact ⟨0, 0, fun _ => 0, fun _ => 0, fun _ => 0, fun _ => 0, ⟨fun h => by omega, fun j h => by omega, fun j h => by omega, fun j h => by omega, fun j h => by omega⟩⟩
  rcases h with ⟨_, h, _⟩ | ⟨x, rfl, hc⟩
  · exact absurd h hz
  obtain ⟨b, off, spot⟩ := x
  have hspot : spot = none := by
    have := World.cell?_spot (hc 0 (by omega)).1
    simpa [Addr.add] using this
  subst hspot
  have hp : ∀ j k : Nat, ((⟨b, off, none⟩ : Addr).add (j * 4)).add k = ⟨b, off + j * 4 + k, none⟩ := fun j k => by rw [add_plain, add_plain]
  refine ⟨b, off, fun j => (q j).1.toNat, fun j => (q j).2.1.toNat, fun j => (q j).2.2.1.toNat, fun j => (q j).2.2.2.toNat, ⟨fun _ => rfl, fun j hj => ?_, fun j hj => ?_, fun j hj => ?_, fun j hj => ?_⟩⟩
  · obtain ⟨h0, b0, _⟩ := hc j hj
    exact ⟨by rw [← add_plain, h0, Int.toNat_of_nonneg b0.1], by omega⟩
  · obtain ⟨_, _, h0, b0, _⟩ := hc j hj
    exact ⟨by rw [← hp, h0, Int.toNat_of_nonneg b0.1], by omega⟩
  · obtain ⟨_, _, _, _, h0, b0, _⟩ := hc j hj
    exact ⟨by rw [← hp, h0, Int.toNat_of_nonneg b0.1], by omega⟩
  · obtain ⟨_, _, _, _, _, _, h0, b0⟩ := hc j hj
    exact ⟨by rw [← hp, h0, Int.toNat_of_nonneg b0.1], by omega⟩

set_option maxRecDepth 20000 in
set_option maxHeartbeats 400000 in
theorem big1 (ra rb : Int) (a0 : Option Addr) (n cap : Nat) (a1 : Option Addr) (p pcap : Nat) (inf : Int) (left : Bool) (hn : 4096 < n) (w : World) :
    Calls Yba.prog 3 #[.int .u16 ra, .int .u16 rb, .slice a0 n cap, .slice a1 p pcap, .int .i64 inf, .bool left] w fun e w' => e = .returned (.bool true) ∧ Below w.heap.size w w' := by
  have hnd : (4096 : Int) < (n : Int) := by omega
  go_enter Yba.func3, Yba.ntmps3
  go_wp2
  go_ret
  exact ⟨rfl, Below.refl _ _⟩

set_option maxRecDepth 20000 in
set_option maxHeartbeats 400000 in
theorem big2 (ra rb : Int) (a0 : Option Addr) (n cap : Nat) (a1 : Option Addr) (p pcap : Nat) (inf : Int) (left : Bool) (hn : ¬ 4096 < n) (hp : 4096 < p) (w : World) :
    Calls Yba.prog 3 #[.int .u16 ra, .int .u16 rb, .slice a0 n cap, .slice a1 p pcap, .int .i64 inf, .bool left] w fun e w' => e = .returned (.bool true) ∧ Below w.heap.size w w' := by
  have hnd : ¬ (4096 : Int) < (n : Int) := by omega
  have hpd : (4096 : Int) < (p : Int) := by omega
  go_enter Yba.func3, Yba.ntmps3
  go_wp2
  go_ret
  exact ⟨rfl, Below.refl _ _⟩

theorem walk (ra rb : Int) (hra : 0 ≤ ra ∧ ra ≤ 65535) (hrb : 0 ≤ rb ∧ rb ≤ 65535) (a0 : Option Addr) (n cap : Nat) (q0 : Nat → Int × Int × Int × Int) (a1 : Option Addr) (p pcap : Nat) (q1 : Nat → Int × Int × Int × Int) (inf : Int) (left : Bool) (w : World)
    (w0 : IsSteps w a0 n cap q0) (w1 : IsSteps w a1 p pcap q1) :
    Calls Yba.prog 3 #[.int .u16 ra, .int .u16 rb, .slice a0 n cap, .slice a1 p pcap, .int .i64 inf, .bool left] w fun e w' => e = .returned (.bool true) ∧ Below w.heap.size w w' := by
  by_cases hbig : 4096 < n
  · exact big1 ra rb a0 n cap a1 p pcap inf left hbig w
  by_cases hbig2 : 4096 < p
  · exact big2 ra rb a0 n cap a1 p pcap inf left hbig hbig2 w
  obtain ⟨G1, o1, P1, F1, V1, H1, h1⟩ := w0.at
  obtain ⟨G2, o2, P2, F2, V2, H2, h2⟩ := w1.at
  obtain ⟨ra, rfl⟩ := Int.eq_ofNat_of_zero_le hra.1
  obtain ⟨rb, rfl⟩ := Int.eq_ofNat_of_zero_le hrb.1
  exact sums_walk ra rb (by omega) (by omega) a0 n cap G1 o1 P1 F1 V1 H1 a1 p pcap G2 o2 P2 F2 V2 H2 inf left w h1 h2 (by omega) (by omega)

set_option maxRecDepth 100000 in
theorem lifted (os : Os) (started : os.Started) (H : Type) (enc : TypeId × Value → H) :
    ReturnsInHanded {} Yba.checked os 3 .any (Rows.lawS3335AMergeSumsSpec.pre6 enc Yba.prog Yba.f3 Rows.lawS3335AMergeSumsRow.domain false) (Rows.lawS3335AMergeSumsSpec.post enc Yba.prog Yba.f3 false true false false) := by
  refine returnsInHanded_of_change (C := Yba.checked) own started (by kernel_rfl) Yba.func3
    (ChangeSpec.witness6 (enc := enc) (C := Yba.checked) false ⟨#[], #[.int .u16 0, .int .u16 0, .slice none 0 0, .slice none 0 0, .int .i64 0, .bool false], []⟩ 8 (by kernel_rfl) (by kernel_rfl) (by kernel_rfl) (by kernel_rfl)) ?_
  intro W base args ds gs before hval0 hW hcnd _
  have hval : ∀ (j : Nat) t v, Yba.f3.params[j]? = some t → args[j]? = some v → Value.okWide Yba.prog W .any base t v := hval0
  have hW' := hW
  obtain ⟨p, q, hA0, hV, rfl, hfz, hnd⟩ := hW
  have hA : DataW.TrodAll enc Yba.prog W 0 (fun _ => true) true Yba.f3.params.toList args.toList ds p := hA0
  rw [Yba.params3] at hA hval
  obtain ⟨v0, vs0, d0, ds0, p0, q0, hargs, rfl, rfl, h0, r0⟩ := trodAll_cons hA
  obtain ⟨v1, vs1, d1, ds1, p1, q1, rfl, rfl, rfl, h1, r1⟩ := trodAll_cons r0
  obtain ⟨v2, vs2, d2, ds2, p2, q2, rfl, rfl, rfl, h2, r2⟩ := trodAll_cons r1
  obtain ⟨v3, vs3, d3, ds3, p3, q3, rfl, rfl, rfl, h3, r3⟩ := trodAll_cons r2
  obtain ⟨v4, vs4, d4, ds4, p4, q4, rfl, rfl, rfl, h4, r4⟩ := trodAll_cons r3
  obtain ⟨v5, vs5, d5, ds5, p5, q5, rfl, rfl, rfl, h5, r5⟩ := trodAll_cons r4
  obtain ⟨rfl, rfl, rfl⟩ := trodAll_nil r5
  obtain rfl : args = #[v0, v1, v2, v3, v4, v5] := by cases args; simp_all
  obtain ⟨rfl, rfl⟩ := trodVars_none hV
  obtain ⟨x0, rfl, rfl, rfl, w0⟩ := open_int Yba.underlying22 (hval 0 22 v0 rfl rfl) h0
  obtain ⟨x1, rfl, rfl, rfl, w1⟩ := open_int Yba.underlying22 (hval 1 22 v1 rfl rfl) h1
  obtain ⟨a2, len2, cap2, rfl⟩ := okWide_slice Yba.underlying23 (hval 2 23 v2 rfl rfl)
  obtain ⟨a3, len3, cap3, rfl⟩ := okWide_slice Yba.underlying23 (hval 3 23 v3 rfl rfl)
  obtain ⟨x4, rfl, rfl, rfl, w4⟩ := open_int Yba.underlying3 (hval 4 3 v4 rfl rfl) h4
  obtain ⟨x5, rfl, rfl, rfl⟩ := open_bool Yba.underlying4 (hval 5 4 v5 rfl rfl) h5
  have k2 := h2
  have k3 := h3
  have lt2 : ∀ x ∈ p2, x.block < W.heap.size := by obtain ⟨m, hm⟩ := k2; exact DataW.trod_lt m _ _ _ hm
  have lt3 : ∀ x ∈ p3, x.block < W.heap.size := by obtain ⟨m, hm⟩ := k3; exact DataW.trod_lt m _ _ _ hm
  obtain ⟨s2, w2⟩ : ∃ q, IsSteps W a2 len2 cap2 q := by
    obtain ⟨fuel, hf⟩ := h2
    exact open_steps hf
  obtain ⟨s3, w3⟩ : ∃ q, IsSteps W a3 len3 cap3 q := by
    obtain ⟨fuel, hf⟩ := h3
    exact open_steps hf
  clear hA0 hval0
  refine (walk x0 x1 (bounds_u16 w0) (bounds_u16 w1) a2 len2 cap2 s2 a3 len3 cap3 s3 x4 x5 W w2 w3).mono fun e W' ⟨he, bel⟩ => ?_
  subst he
  exact ⟨_, rfl, _, _, _, [], _, [], hW', trodAll_mk1 (shut_bool Yba.underlying4 _), (trodAll_cons_mk (shut_int Yba.underlying22 w0) (trodAll_cons_mk (shut_int Yba.underlying22 w1) (trodAll_cons_mk (Below.trod laidOut (by kernel_rfl) (of_decide_eq_true (by kernel_rfl)) k2 bel lt2) (trodAll_cons_mk (Below.trod laidOut (by kernel_rfl) (of_decide_eq_true (by kernel_rfl)) k3 bel lt3) (trodAll_cons_mk (shut_int Yba.underlying3 w4) (trodAll_cons_mk (shut_bool Yba.underlying4 _) trodAll_mk0)))))), rfl, bel.frame _, fun h => by cases h⟩

theorem over : Rows.lawS3335AMergeSumsRow.holds Yba.pinned (OpenSpec.ofChange Rows.lawS3335AMergeSumsSpec) :=
  OpenClaim.holds_of_wide 3 Yba.f3 rfl rfl rfl rfl rfl rfl rfl ⟨rfl, rfl, rfl, rfl, rfl⟩ rfl rfl rfl rfl rfl (by kernel_rfl) Yba.func3 (by kernel_rfl)
    (of_decide_eq_true (by kernel_rfl)) (by unfold Func.isWrapper; first | (rw [if_pos (by decide +kernel)]; kernel_rfl) | (rw [if_neg (by decide +kernel)]; exact ⟨rfl, rfl⟩))
    (fun os started H enc _ => lifted os started H enc)
end Go.Proofs.Ybulkbqau.SumsLaw

namespace Go.Proofs.Ybulkbqau
theorem lawS3335AMergeSums_proved : Rows.LawS3335AMergeSumsSaid := SumsLaw.over
end Go.Proofs.Ybulkbqau
