import Derived.Test.YbulkbpzeSharedWalk
import Derived.Test.YbulkbpzeOpen
import Derived.OpenShut
import Derived.ShutString
import Derived.ChangeOld
import Derived.Below
namespace Go.Proofs.Ybulkbpze.SharedLaw
open Go.ChangeShapes Go.WideShapes Go.ChangeAt Go.RowKit

theorem own : ownKnob Yba.prog.godebug = none := by kernel_rfl
theorem laidOut : laidOutB Yba.prog = true := by kernel_rfl

set_option maxHeartbeats 400000 in
theorem big1 (a0 : Option Addr) (n cap : Nat) (a1 : Option Addr) (p pcap : Nat) (hn : 1024 < n) (w : World) :
    Calls Yba.prog 4 #[.slice a0 n cap, .slice a1 p pcap] w fun e w' => e = .returned (.bool true) ∧ Below w.heap.size w w' := by
  have hnd : (1024 : Int) < (n : Int) := by omega
  go_enter Yba.func4, Yba.ntmps4
  go_wp2
  go_ret
  exact ⟨rfl, Below.refl _ _⟩

set_option maxHeartbeats 400000 in
theorem big2 (a0 : Option Addr) (n cap : Nat) (a1 : Option Addr) (p pcap : Nat) (hn : ¬ 1024 < n) (hp : 1024 < p) (w : World) :
    Calls Yba.prog 4 #[.slice a0 n cap, .slice a1 p pcap] w fun e w' => e = .returned (.bool true) ∧ Below w.heap.size w w' := by
  have hnd : ¬ (1024 : Int) < (n : Int) := by omega
  have hpd : (1024 : Int) < (p : Int) := by omega
  go_enter Yba.func4, Yba.ntmps4
  go_wp2
  go_ret
  exact ⟨rfl, Below.refl _ _⟩

set_option maxRecDepth 20000 in
set_option maxHeartbeats 400000 in
theorem nopool (a0 : Option Addr) (cap : Nat) (a1 : Option Addr) (p pcap : Nat) (hp : ¬ 1024 < p) (w : World) :
    Calls Yba.prog 4 #[.slice a0 0 cap, .slice a1 p pcap] w fun e w' => e = .returned (.bool true) ∧ Below w.heap.size w w' := by
  have hpd : ¬ (1024 : Int) < (p : Int) := by omega
  have hnn := fun (w : World) (a : Option Addr) (n c : Nat) => run_neq_slice_nil_any (P := Yba.prog) w 49 52 a n c 0 0 Yba.underlying49
  go_enter Yba.func4, Yba.ntmps4
  go_wp2_with fail
  refine (refs_any w.heap.size 0 0 (fun _ => 0) (fun _ => 0) (fun _ => 0) (fun _ => 0) _ (by omega) (fun j hj => by omega) (fun j hj => by omega) (fun j hj => by omega) (fun j hj => by omega)).mono ?_
  rintro e w1 ⟨rfl, hb1, _⟩
  go_wp2
  go_ret
  exact ⟨rfl, (((Below.refl _ _).alloc (Nat.le_refl _) _).alloc (by simp) _).trans (hb1.mono (by simp; omega))⟩

/-- WHAT THE WALK IS TOLD OF A SLICE OF BYTES THAT CAME IN. -/
def IsBytes (w : World) (a : Option Addr) (len cap : Nat) (zs : List Int) : Prop :=
  (a = none ∧ len = 0 ∧ cap = 0 ∧ zs = []) ∨
  ∃ x, a = some x ∧ len ≤ cap ∧ cap ≤ maxLen ∧ zs.length = cap ∧ (∀ i, i < zs.length → w.cell? (x.add i) = some (.int .u8 (zs.getD i 0))) ∧ ∀ n ∈ zs, (Lit.int .u8 n).wf = true

theorem walk (a0 : Option Addr) (n cap : Nat) (X Y Z : Nat → Int) (a1 : Option Addr) (p pcap : Nat) (zs : List Int) (w : World) (w0 : IsRuns w a0 n cap X Y Z) (w1 : IsBytes w a1 p pcap zs) :
    Calls Yba.prog 4 #[.slice a0 n cap, .slice a1 p pcap] w fun e w' => e = .returned (.bool true) ∧ Below w.heap.size w w' := by
  by_cases hbig : 1024 < n
  · exact big1 a0 n cap a1 p pcap hbig w
  by_cases hbig2 : 1024 < p
  · exact big2 a0 n cap a1 p pcap hbig hbig2 w
  by_cases hz : n = 0
  · subst hz
    exact nopool a0 cap a1 p pcap hbig2 w
  rcases w0 with ⟨rfl, rfl, rfl⟩ | ⟨x, rfl, hc⟩
  · omega
  obtain ⟨b, off, spot⟩ := x
  have hspot : spot = none := by simpa [Addr.add] using World.cell?_spot (hc 0 (by omega)).1
  subst hspot
  refine shared_walk b off n cap X Y Z a1 p pcap (fun j => (zs.getD j 0).toNat) (fun j => (zs.getD j 0).toNat % n) w (by omega) (by omega) (by omega) (fun j hj => ?_) (fun j hj => ?_) (fun j hj => ?_) (fun j hj => ?_) (fun j hj => ?_)
  · rw [← add_plain]; exact (hc j hj).1
  · simpa [Addr.add, Nat.add_assoc] using (hc j hj).2.1
  · simpa [Addr.add, Nat.add_assoc] using (hc j hj).2.2
  · exact ⟨by simp, Nat.mod_lt _ (by omega)⟩
  · rcases w1 with ⟨rfl, rfl, rfl, rfl⟩ | ⟨y, rfl, hl, hm, hzl, hcell, hwz⟩
    · omega
    have hcj := hcell j (by omega)
    have hmem : zs.getD j 0 ∈ zs := by
      have hjl : j < zs.length := by omega
      simp [hjl]
    have hw := hwz _ hmem
    have hbd : 0 ≤ zs.getD j 0 ∧ zs.getD j 0 ≤ 255 := bounds_u8 hw
    obtain ⟨pb, po, sp⟩ := y
    have hsp : sp = none := by simpa [Addr.add] using World.cell?_spot (hcell 0 (by omega))
    subst hsp
    refine ⟨by omega, pb, po, rfl, ?_⟩
    rw [← add_plain, hcj, Int.toNat_of_nonneg hbd.1]

set_option maxRecDepth 100000 in
theorem lifted (os : Os) (started : os.Started) (H : Type) (enc : TypeId × Value → H) :
    ReturnsInHanded {} Yba.checked os 4 .any (Rows.lawS3332ASharedSpec.pre6 enc Yba.prog Yba.f4 Rows.lawS3332ASharedRow.domain false) (Rows.lawS3332ASharedSpec.post enc Yba.prog Yba.f4 false true false false) := by
  refine returnsInHanded_of_change (C := Yba.checked) own started (by kernel_rfl) Yba.func4
    (ChangeSpec.witness6 (enc := enc) (C := Yba.checked) false ⟨#[], #[.slice none 0 0, .slice none 0 0], []⟩ 8 (by kernel_rfl) (by kernel_rfl) (by kernel_rfl) (by kernel_rfl)) ?_
  intro W base args ds gs before hval0 hW hcnd _
  have hval : ∀ (j : Nat) t v, Yba.f4.params[j]? = some t → args[j]? = some v → Value.okWide Yba.prog W .any base t v := hval0
  have hW' := hW
  obtain ⟨p, q, hA0, hV, rfl, hfz, hnd⟩ := hW
  have hA : DataW.TrodAll enc Yba.prog W 0 (fun _ => true) true Yba.f4.params.toList args.toList ds p := hA0
  rw [Yba.params4] at hA hval
  obtain ⟨v0, vs0, d0, ds0, p0, q0, hargs, rfl, rfl, h0, r0⟩ := trodAll_cons hA
  obtain ⟨v1, vs1, d1, ds1, p1, q1, rfl, rfl, rfl, h1, r1⟩ := trodAll_cons r0
  obtain ⟨rfl, rfl, rfl⟩ := trodAll_nil r1
  obtain rfl : args = #[v0, v1] := by cases args; simp_all
  obtain ⟨rfl, rfl⟩ := trodVars_none hV
  obtain ⟨a0, len0, cap0, rfl⟩ := okWide_slice Yba.underlying22 (hval 0 22 v0 rfl rfl)
  obtain ⟨a1, len1, cap1, rfl⟩ := okWide_slice Yba.underlying46 (hval 1 46 v1 rfl rfl)
  have k0 := h0
  have k1 := h1
  have lt0 : ∀ x ∈ p0, x.block < W.heap.size := by obtain ⟨m, hm⟩ := k0; exact DataW.trod_lt m _ _ _ hm
  have lt1 : ∀ x ∈ p1, x.block < W.heap.size := by obtain ⟨m, hm⟩ := k1; exact DataW.trod_lt m _ _ _ hm
  obtain ⟨X, Y, Z, w0⟩ : ∃ X Y Z, IsRuns W a0 len0 cap0 X Y Z := by
    obtain ⟨fuel, hf⟩ := h0
    exact open_runs hf
  obtain ⟨z1, w1⟩ : ∃ zs, IsBytes W a1 len1 cap1 zs := by
    obtain ⟨fuel, hf⟩ := h1
    rcases open_ints Yba.underlying46 Yba.underlying5 (by kernel_rfl) hf with ⟨hcs, _⟩ | ⟨x, l, c, zs, hcs, _, hl, hm, hz, _, hcell, hwz⟩
    · simp [Value.cells] at hcs
      obtain ⟨rfl, rfl, rfl⟩ := hcs
      exact ⟨[], .inl ⟨rfl, rfl, rfl, rfl⟩⟩
    · simp [Value.cells] at hcs
      obtain ⟨rfl, rfl, rfl⟩ := hcs
      exact ⟨zs, .inr ⟨_, rfl, hl, hm, by simpa using hz, hcell, hwz⟩⟩
  clear hA0 hval0
  refine (walk a0 len0 cap0 X Y Z a1 len1 cap1 z1 W w0 w1).mono fun e W' ⟨he, bel⟩ => ?_
  subst he
  exact ⟨_, rfl, _, _, _, [], _, [], hW', trodAll_mk1 (shut_bool Yba.underlying4 _), (trodAll_cons_mk (Below.trod laidOut (by kernel_rfl) (of_decide_eq_true (by kernel_rfl)) k0 bel lt0) (trodAll_cons_mk (Below.trod laidOut (by kernel_rfl) (of_decide_eq_true (by kernel_rfl)) k1 bel lt1) trodAll_mk0)), rfl, bel.frame _, fun h => by cases h⟩

theorem over : Rows.lawS3332ASharedRow.holds Yba.pinned (OpenSpec.ofChange Rows.lawS3332ASharedSpec) :=
  OpenClaim.holds_of_wide 4 Yba.f4 rfl rfl rfl rfl rfl rfl rfl ⟨rfl, rfl, rfl, rfl, rfl⟩ rfl rfl rfl rfl rfl (by kernel_rfl) Yba.func4 (by kernel_rfl)
    (of_decide_eq_true (by kernel_rfl)) (by unfold Func.isWrapper; first | (rw [if_pos (by decide +kernel)]; kernel_rfl) | (rw [if_neg (by decide +kernel)]; exact ⟨rfl, rfl⟩))
    (fun os started H enc _ => lifted os started H enc)
end Go.Proofs.Ybulkbpze.SharedLaw

namespace Go.Proofs.Ybulkbpze
theorem lawS3332AShared_proved : Rows.LawS3332ASharedSaid := SharedLaw.over
end Go.Proofs.Ybulkbpze
