import Derived.Test.YbulkbqauAdd
import Derived.Deep.DeepCutAuto
set_option linter.unusedVariables false
set_option linter.unusedSimpArgs false
namespace Go.Proofs.Ybulkbqau
open Go.RowKit

/-! ### A run's figures, chunk by chunk -/
def i0At (X : Nat → Int) (r : Nat) : Int := if r = 0 then 0 else X (r - 1)
def l0At (L : Nat → Bool) (r : Nat) : Bool := if r = 0 then false else L (r - 1)
/-- the figures of the first r rounds -/
def E (X : Nat → Int) (L : Nat → Bool) (M : Nat → Nat) : Nat → Nat → Nat → Int
  | 0 => fun _ _ => 0
  | r + 1 => fun q => if q = r / 1024 then addC (E X L M r q) (rd (r % 1024) (i0At X r) (X r) (l0At L r) (L r) (M r)) else E X L M r q

theorem E_succ (X : Nat → Int) (L : Nat → Bool) (M : Nat → Nat) (r q : Nat) : E X L M (r + 1) q = if q = r / 1024 then addC (E X L M r q) (rd (r % 1024) (i0At X r) (X r) (l0At L r) (L r) (M r)) else E X L M r q := rfl

theorem rng_E (X : Nat → Int) (L : Nat → Bool) (M : Nat → Nat) : ∀ r q, Rng (E X L M r q)
  | 0, q => rng_zero
  | r + 1, q => by
    unfold E
    split
    · exact rng_add _ _
    · exact rng_E X L M r q

/-- beyond the rounds there is nothing -/
theorem E_far (X : Nat → Int) (L : Nat → Bool) (M : Nat → Nat) : ∀ r q, r ≤ q * 1024 → E X L M r q = fun _ => 0
  | 0, q, _ => rfl
  | r + 1, q, h => by
    unfold E
    rw [if_neg (by omega)]
    exact E_far X L M r q (by omega)

theorem rng_congr {c d : Nat → Int} (h : Rng c) (e : ∀ o, o < 7168 → d o = c o) : Rng d := fun o ho => by rw [e o ho]; exact h o ho

/-- a run that came in: its three rows -/
structure RunAt (w : World) (aI : Option Addr) (nI : Nat) (aL : Option Addr) (nL : Nat) (aM : Option Addr) (nM : Nat) (gI oI gL oL gM oM : Nat) (X : Nat → Int) (L : Nat → Bool) (M : Nat → Nat) : Prop where
  hI : 0 < nI → aI = some ⟨gI, oI, none⟩
  hL : 0 < nL → aL = some ⟨gL, oL, none⟩
  hM : 0 < nM → aM = some ⟨gM, oM, none⟩
  cI : ∀ j, j < nI → w.cell? ⟨gI, oI + j, none⟩ = some (.int .i32 (X j)) ∧ -2147483648 ≤ X j ∧ X j < 2147483648
  cL : ∀ j, j < nL → w.cell? ⟨gL, oL + j, none⟩ = some (.bool (L j))
  cM : ∀ j, j < nM → w.cell? ⟨gM, oM + j, none⟩ = some (.int .u64 (M j)) ∧ M j < 18446744073709551616

theorem RunAt.later {w w' : World} {aI : Option Addr} {nI : Nat} {aL : Option Addr} {nL : Nat} {aM : Option Addr} {nM : Nat} {gI oI gL oL gM oM : Nat} {X : Nat → Int} {L : Nat → Bool} {M : Nat → Nat} {B : Nat}
    (h : RunAt w aI nI aL nL aM nM gI oI gL oL gM oM X L M) (hb : Below B w w') (hBI : 0 < nI → gI < B) (hBL : 0 < nL → gL < B) (hBM : 0 < nM → gM < B) : RunAt w' aI nI aL nL aM nM gI oI gL oL gM oM X L M where
  hI := h.hI
  hL := h.hL
  hM := h.hM
  cI := fun j hj => ⟨(hb.cell (p := ⟨gI, _, none⟩) (hBI (by omega))).trans (h.cI j hj).1, (h.cI j hj).2⟩
  cL := fun j hj => (hb.cell (p := ⟨gL, _, none⟩) (hBL (by omega))).trans (h.cL j hj)
  cM := fun j hj => ⟨(hb.cell (p := ⟨gM, _, none⟩) (hBM (by omega))).trans (h.cM j hj).1, (h.cM j hj).2⟩

/-- the flags and the messages of round r: the rows in turn -/
def lAt (nL : Nat) (L : Nat → Bool) (r : Nat) : Bool := if 0 < nL then L (r % nL) else false
def mAt (nM : Nat) (M : Nat → Nat) (r : Nat) : Nat := if 0 < nM then M (r % nM) else 0

/-- how far a run has come -/
structure RunInv (w wr : World) (base S : Nat) (ao : Option Addr) (n : Nat) (B : Nat → Nat) (C : Nat → Nat → Int) (R : Nat) (X : Nat → Int) (L : Nat → Bool) (M : Nat → Nat) (r : Nat) (ao' : Option Addr) (n' cap' : Nat) (B' : Nat → Nat) (C' : Nat → Nat → Int) (inf' : Int) (left' : Bool) : Prop where
  sums : Sums wr base S ao' n' cap' B' C' ((max R r : Nat) : Int) inf' left'
  rng : ∀ j, j < n' → Rng (C' j)
  le : n ≤ n'
  top : max R r ≤ n' * 1024
  low : n' = 0 ∨ (n' - 1) * 1024 < max R r
  eq : ∀ q o, o < 7168 → padC C' n' q o = addC (padC C n q) (E X L M r q) o
  last : r ≠ 0 → inf' = X (r - 1) ∧ left' = L (r - 1)
  only : Only w wr (FP S ao n B)
  fp : ∀ k, FP S ao' n' B' k → FP S ao n B k ∨ w.heap.size ≤ k

theorem RunInv.same {w wr wx : World} {base S : Nat} {ao : Option Addr} {n : Nat} {B : Nat → Nat} {C : Nat → Nat → Int} {R : Nat} {X : Nat → Int} {L : Nat → Bool} {M : Nat → Nat} {r : Nat} {ao' : Option Addr} {n' cap' : Nat} {B' : Nat → Nat} {C' : Nat → Nat → Int} {inf' : Int} {left' : Bool}
    (h : RunInv w wr base S ao n B C R X L M r ao' n' cap' B' C' inf' left') (ho : Only wr wx (fun _ => False)) : RunInv w wx base S ao n B C R X L M r ao' n' cap' B' C' inf' left' :=
  ⟨h.sums.kept ho (fun _ _ h => h), h.rng, h.le, h.top, h.low, h.eq, h.last, h.only.trans ho (fun _ _ h => h.elim), h.fp⟩

theorem run_start {w : World} {base S : Nat} {ao : Option Addr} {n cap : Nat} {B : Nat → Nat} {C : Nat → Nat → Int} {R : Nat} {inf : Int} {left : Bool} (X : Nat → Int) (L : Nat → Bool) (M : Nat → Nat)
    (hw : Sums w base S ao n cap B C R inf left) (hC : ∀ j, j < n → Rng (C j)) (h1 : R ≤ n * 1024) (h2 : n = 0 ∨ (n - 1) * 1024 < R) :
    RunInv w w base S ao n B C R X L M 0 ao n cap B C inf left where
  sums := by rw [show max R 0 = R by omega]; exact hw
  rng := hC
  le := Nat.le_refl _
  top := by omega
  low := by omega
  eq := fun q o ho => by
    show padC C n q o = addC (padC C n q) (fun _ => 0) o
    rw [add_zero (rng_pad hC q) o ho]
  last := fun h => absurd rfl h
  only := Only.refl _ _
  fp := fun k hk => .inl hk

theorem run_step {w wr w' : World} {base S : Nat} {ao : Option Addr} {n : Nat} {B : Nat → Nat} {C : Nat → Nat → Int} {R : Nat} {X : Nat → Int} {L : Nat → Bool} {M : Nat → Nat} {r : Nat} {ao' : Option Addr} {n' cap' : Nat} {B' : Nat → Nat} {C' : Nat → Nat → Int} {inf' : Int} {left' : Bool}
    (h : RunInv w wr base S ao n B C R X L M r ao' n' cap' B' C' inf' left') (hC : ∀ j, j < n → Rng (C j))
    (ha : AddPost wr w' base S ao' n' B' C' (max R r) (i0At X r) (l0At L r) r (X r) (L r) (M r)) :
    ∃ ao2 n2 cap2 B2 C2 inf2 left2, RunInv w w' base S ao n B C R X L M (r + 1) ao2 n2 cap2 B2 C2 inf2 left2 := by
  obtain ⟨ao2, n2, cap2, B2, C2, hS, hle, hg1, hg2, hp, ho, hf⟩ := ha
  have hlow := h.low
  have htop := h.top
  refine ⟨ao2, n2, cap2, B2, C2, X r, L r, ?_, fun j hj => ?_, Nat.le_trans h.le hle, by omega, by omega, fun q o ho => ?_, fun _ => ⟨by simp, by simp⟩, ?_, fun k hk => ?_⟩
  · rw [show max R (r + 1) = max (max R r) (r + 1) by omega]; exact hS
  · by_cases e : j = r / 1024
    · exact rng_congr (rng_add (padC C' n' j) (rd (r % 1024) (i0At X r) (X r) (l0At L r) (L r) (M r))) (fun o ho => by rw [hp j hj o ho, if_pos e])
    · exact rng_congr (rng_pad h.rng j) (fun o ho => by rw [hp j hj o ho, if_neg e])
  · by_cases hq : q < n2
    · have : padC C2 n2 q o = C2 q o := by simp [padC, hq]
      rw [this, hp q hq o ho]
      by_cases e : q = r / 1024
      · rw [if_pos e]
        have hE : E X L M (r + 1) q = addC (E X L M r q) (rd (r % 1024) (i0At X r) (X r) (l0At L r) (L r) (M r)) := by rw [E_succ, if_pos e]
        rw [hE, ← add_assoc]
        exact add_congr (fun o ho => h.eq q o ho) (fun o _ => rfl) o ho
      · rw [if_neg e]
        have hE : E X L M (r + 1) q = E X L M r q := by rw [E_succ, if_neg e]
        rw [hE]
        exact h.eq q o ho
    · have e : q ≠ r / 1024 := by omega
      have hE : E X L M (r + 1) q = E X L M r q := by rw [E_succ, if_neg e]
      have h0 : padC C2 n2 q = fun _ => 0 := by simp [padC, hq]
      have h1 : padC C' n' q = fun _ => 0 := by simp [padC, show ¬ q < n' by omega]
      rw [hE, h0, ← h.eq q o ho, h1]
  · refine h.only.trans ho (fun k hk hkk => ?_)
    rcases h.fp k hkk with h' | h'
    · exact h'
    · omega
  · rcases hf k hk with h' | h'
    · exact h.fp k h'
    · exact .inr (Nat.le_trans h.only.size h')

def RunPost (w w' : World) (base S : Nat) (ao : Option Addr) (n : Nat) (B : Nat → Nat) (C : Nat → Nat → Int) (R : Nat) (X : Nat → Int) (L : Nat → Bool) (M : Nat → Nat) (r : Nat) : Prop :=
  ∃ ao2 n2 cap2 B2 C2 inf2 left2, RunInv w w' base S ao n B C R X L M r ao2 n2 cap2 B2 C2 inf2 left2

theorem i0_at {X : Nat → Int} {r : Nat} {inf : Int} {L : Nat → Bool} {left : Bool} (h : r ≠ 0 → inf = X (r - 1) ∧ left = L (r - 1)) : (r = 0 → i0At X r = 0 ∧ l0At L r = false) ∧ (r ≠ 0 → i0At X r = inf ∧ l0At L r = left) :=
  ⟨fun e => by simp [i0At, l0At, e], fun e => by simp [i0At, l0At, e, (h e).1, (h e).2]⟩

set_option maxRecDepth 20000 in
set_option maxHeartbeats 2000000 in
theorem run_any (base S : Nat) (ao : Option Addr) (n cap : Nat) (B : Nat → Nat) (C : Nat → Nat → Int) (R : Nat) (inf : Int) (left : Bool)
    (aI : Option Addr) (nI kI : Nat) (aL : Option Addr) (nL kL : Nat) (aM : Option Addr) (nM kM : Nat) (gI oI gL oL gM oM : Nat) (X : Nat → Int) (L : Nat → Bool) (M : Nat → Nat) (w : World)
    (hw : Sums w base S ao n cap B C R inf left) (hC : ∀ j, j < n → Rng (C j)) (h1 : R ≤ n * 1024) (h2 : n = 0 ∨ (n - 1) * 1024 < R) (hR : R ≤ 100000) (hbase : base ≤ w.heap.size)
    (hrun : RunAt w aI nI aL nL aM nM gI oI gL oL gM oM X L M) (hBI : 0 < nI → gI < base) (hBL : 0 < nL → gL < base) (hBM : 0 < nM → gM < base) (hnI : nI ≤ 3000) :
    Calls Yba.prog 8 #[.pointer (some ⟨S, 0, none⟩), .agg #[.slice aI nI kI, .slice aL nL kL, .slice aM nM kM]] w fun e w' => e = .returned (.tuple #[]) ∧
      RunPost (w.alloc (.cells #[.slice aI nI kI, .slice aL nL kL, .slice aM nM kM] 46)) w' base S ao n B C R X (lAt nL L) (mAt nM M) nI := by
  obtain ⟨w1, hw1⟩ : ∃ w1, w1 = w.alloc (.cells #[.slice aI nI kI, .slice aL nL kL, .slice aM nM kM] 46) := ⟨_, rfl⟩
  have hS1 : Sums w1 base S ao n cap B C R inf left := by rw [hw1]; exact hw.kept (R := fun _ => False) ((Only.refl _ _).alloc _) (fun _ _ h => h)
  have hb1 : Below w.heap.size w w1 := by rw [hw1]; exact (Below.refl _ _).alloc (Nat.le_refl _) _
  have hr1 := hrun.later hb1 (fun h => Nat.lt_of_lt_of_le (hBI h) hbase) (fun h => Nat.lt_of_lt_of_le (hBL h) hbase) (fun h => Nat.lt_of_lt_of_le (hBM h) hbase)
  have hbox : w1.heap[w.heap.size]? = some (.cells #[.slice aI nI kI, .slice aL nL kL, .slice aM nM kM] 46 (0, 0)) := by rw [hw1]; exact Deep.blk_alloc_new _ _
  have hlt1 : w.heap.size < w1.heap.size := by rw [hw1]; simp
  have hbx : ¬ FP S ao n B w.heap.size := fun h => by have := hw.lt h; omega
  have hge : ∀ k, FP S ao n B k → base ≤ k := fun k hk => hw.ge hk
  have HS := (show Hid _ from run_start X (lAt nL L) (mAt nM M) hS1 hC h1 h2)
  have c0 : w1.cell? ⟨w.heap.size, 0, none⟩ = some (.slice aI nI kI) := by simp [World.cell?, hbox]
  clear hw hS1 hrun h1 h2
  rw [← hw1]
  go_enter Yba.func8, Yba.ntmps8
  go_wp2
  rw [← hw1]
  go_loopg [10] nI (fun k v wr => ∃ r : Nat, r ≤ nI ∧ k + r = nI ∧ v = .int .i64 r ∧ RunPost w1 wr base S ao n B C R X (lAt nL L) (mAt nM M) r)
  case atStart => exact ⟨0, by omega, by omega, rfl, _, _, _, _, _, _, _, HS.out⟩
  case round =>
    obtain ⟨r, hrn, hkr, rfl, hP⟩ := hrel
    by_cases hlt : r < nI
    · obtain ⟨ao2, n2, cap2, B2, C2, inf2, left2, hI⟩ := hP
      have hbxr : wr.heap[w.heap.size]? = some (.cells #[.slice aI nI kI, .slice aL nL kL, .slice aM nM kM] 46 (0, 0)) := (hI.only.block _ hlt1 hbx).trans hbox
      have e0 : wr.cell? ⟨w.heap.size, 0, none⟩ = some (.slice aI nI kI) := by simp [World.cell?, hbxr]
      have e1 : wr.cell? ⟨w.heap.size, 1, none⟩ = some (.slice aL nL kL) := by simp [World.cell?, hbxr]
      have e2 : wr.cell? ⟨w.heap.size, 2, none⟩ = some (.slice aM nM kM) := by simp [World.cell?, hbxr]
      have hbel : Below base w1 wr := hI.only.below hge (Nat.le_trans hbase (Nat.le_of_lt hlt1))
      have hrr := hr1.later hbel hBI hBL hBM
      have HI := (show Hid _ from hI)
      clear hI hbxr hbel
      have hkeep : ∀ wx, Only wr wx (fun _ => False) → wx.cell? ⟨w.heap.size, 0, none⟩ = some (.slice aI nI kI) ∧ wx.cell? ⟨w.heap.size, 2, none⟩ = some (.slice aM nM kM) := fun wx h => ⟨h.cell e0 (fun h => h), h.cell e2 (fun h => h)⟩
      have hnI' : (r : Int) < (nI : Int) := by omega
      have hr0 : (0 : Int) ≤ (r : Int) := by omega
      go_upto_if 16 with fail
      go_cut [5] (fun v wx => v = .bool (lAt nL L r) ∧ Only wr wx (fun _ => False))
      case first =>
        by_cases hL : 0 < nL
        · obtain rfl := hrr.hL hL
          have hp : r % nL < nL := Nat.mod_lt _ hL
          have hmE : (r : Int) % (nL : Int) = ((r % nL : Nat) : Int) := by push_cast; rfl
          have hcl := hrr.cL (r % nL) hp
          have hla : lAt nL L r = L (r % nL) := by simp [lAt, hL]
          have hL' : (0 : Int) < (nL : Int) := by omega
          have HLA := (show Hid _ from hla)
          generalize r % nL = p at *
          have hp' : (p : Int) < (nL : Int) := by omega
          clear hla
          go_wp2_with fail
          go_quiet (fail)
          go_wp2
          go_meet
          case rel => exact ⟨by rw [HLA.out], ⟨rfl, rfl, rfl, Nat.le_refl _, fun _ _ _ => rfl⟩⟩
        · have hL' : ¬ (0 : Int) < (nL : Int) := by omega
          have hla : lAt nL L r = false := by simp [lAt, hL]
          go_wp2
          go_meet
          case rel => exact ⟨by rw [hla], Only.refl _ _⟩
      case rest =>
        obtain ⟨rfl, hOx⟩ := hcut
        obtain ⟨d0, d2⟩ := hkeep _ hOx
        go_upto_if 29 with fail
        obtain ⟨wa, rfl⟩ : ∃ wa, wa = wc := ⟨wc, rfl⟩
        generalize hLA : lAt nL L r = la
        have HLA := (show Hid _ from hLA)
        clear hLA
        go_cut [6] (fun v wx => v = .int .u64 (mAt nM M r) ∧ Only wr wx (fun _ => False))
        case first =>
          by_cases hM : 0 < nM
          · obtain rfl := hrr.hM hM
            have hp : r % nM < nM := Nat.mod_lt _ hM
            have hmE : (r : Int) % (nM : Int) = ((r % nM : Nat) : Int) := by push_cast; rfl
            have hcm := hOx.cell (hrr.cM (r % nM) hp).1 (fun h => h)
            have hma : mAt nM M r = M (r % nM) := by simp [mAt, hM]
            have hM' : (0 : Int) < (nM : Int) := by omega
            have HMA := (show Hid _ from hma)
            generalize r % nM = p at *
            have hp' : (p : Int) < (nM : Int) := by omega
            have HO := (show Hid _ from hOx)
            clear hma hOx
            go_wp2_with fail
            go_quiet (fail)
            go_wp2
            go_meet
            case rel => exact ⟨by rw [HMA.out], ⟨HO.out.os, HO.out.tape, HO.out.output, HO.out.size, HO.out.block⟩⟩
          · have hM' : ¬ (0 : Int) < (nM : Int) := by omega
            have hma : mAt nM M r = 0 := by simp [mAt, hM]
            go_wp2
            go_meet
            case rel => exact ⟨by rw [hma]; rfl, hOx⟩
        case rest =>
          obtain ⟨rfl, hOy⟩ := hcut
          clear d0 d2
          obtain ⟨d0, d2⟩ := hkeep _ hOy
          obtain rfl := hrr.hI (by omega)
          have hcx := hOy.cell (hrr.cI r hlt).1 (fun h => h)
          have hxb := (hrr.cI r hlt).2
          have hmb : mAt nM M r < 18446744073709551616 := by
            unfold mAt
            split
            · rename_i h; exact (hrr.cM _ (Nat.mod_lt _ h)).2
            · omega
          have hSy := HI.out.sums.kept hOy (fun _ _ h => h)
          have hsz : base ≤ wc.heap.size := Nat.le_trans (Nat.le_trans (Nat.le_trans hbase (Nat.le_of_lt hlt1)) HI.out.only.size) hOy.size
          have hi0 := i0_at HI.out.last
          have hn2 : n2 ≤ 1000000 := by have := HI.out.low; omega
          have HOY := (show Hid _ from hOy)
          have HSY := (show Hid _ from hSy)
          clear hOx hOy hkeep hSy e0 e1 e2
          go_wp2_with fail
          refine (add_any base S ao2 n2 cap2 B2 C2 (max R r) inf2 left2 (i0At X r) (l0At (lAt nL L) r) r (X r) la (mAt nM M r) _ HSY.out HI.out.rng (by omega) hn2 (by omega) hsz hmb hi0.1 hi0.2).mono ?_
          rintro e w9 ⟨rfl, hA⟩
          rw [← HLA.out] at hA
          have hnew : RunPost w1 w9 base S ao n B C R X (lAt nL L) (mAt nM M) (r + 1) := run_step (HI.out.same HOY.out) hC hA
          have HN := (show Hid _ from hnew)
          clear hnew hA
          go_wp2
          go_roundg (gk - 1)
          case measure => omega
          case rel => exact ⟨r + 1, by omega, by omega, by go_num, HN.out⟩
    · obtain rfl : nI = r := by omega
      have HP := (show Hid _ from hP)
      clear hP
      go_wp2
      go_end0
      exact ⟨rfl, HP.out⟩
end Go.Proofs.Ybulkbqau
