import Derived.Test.YbulkbqauMerge
import Derived.Deep.DeepCutAuto
set_option linter.unusedVariables false
set_option linter.unusedSimpArgs false
namespace Go.Proofs.Ybulkbqau
open Go.RowKit

/-- one chunk turned, the rest as it was -/
theorem Sums.turned {w wr : World} {base S : Nat} {ao : Option Addr} {n cap : Nat} {B : Nat → Nat} {C : Nat → Nat → Int} {rounds inf : Int} {left : Bool} {k : Nat} {c' : Nat → Int}
    (hs : Sums w base S ao n cap B C rounds inf left) (hk : k < n) (hc : Ch wr (B k) c') (ho : Only w wr (fun b => b = B k)) :
    Sums wr base S ao n cap B (fun j => if j = k then c' else C j) rounds inf left := by
  refine ⟨(ho.block S (hs.lt (.inl rfl)) (fun e => hs.apart_S.1 k hk e.symm)).trans hs.obj, ?_, fun j hj => ?_, hs.inj, hs.hS, hs.hB⟩
  · obtain ⟨h1, h2⟩ := hs.own
    refine ⟨h1, ?_⟩
    rcases h2 with h2 | ⟨g, cp, cur, hv, hb, hgg, r⟩
    · exact .inl h2
    · refine .inr ⟨g, cp, cur, hv, hb, ?_, r⟩
      have hne : ao.map (·.block) = some g := by simp only [Value.slice.injEq] at hv; rw [hv.1]; rfl
      rw [ho.block g (hs.lt (.inr (.inl hne))) (fun e => hs.apart_row hk (by rw [hne, e]))]
      exact hgg
  · by_cases e : j = k
    · subst e; simpa using hc
    · simp only [e, if_false]
      exact ho.ch (hs.chunks j hj) (fun e' => e (hs.inj j k hj hk e'))

theorem rng_upd {c : Nat → Int} (h : Rng c) {o : Nat} {v : Int} (hv : (o < 4096 → 0 ≤ v ∧ v < 18446744073709551616) ∧ (4096 ≤ o → o < 6144 → 0 ≤ v ∧ v < 4294967296) ∧ (6144 ≤ o → -9223372036854775808 ≤ v ∧ v < 9223372036854775808)) : Rng (upd c o v) := by
  intro p hp
  unfold upd
  by_cases e : p = o
  · subst e; simpa using hv
  · simpa [e] using h p hp

/-- what the builder hands over -/
def BuildPost (w w' : World) (r : Nat) (e : Ending) : Prop :=
  ∃ S ao n cap B C, e = .returned (.pointer (some ⟨S, 0, none⟩)) ∧ Sums w' w.heap.size S ao n cap B C ((r % 3073 : Nat) : Int) 0 false ∧ (∀ j, j < n → Rng (C j)) ∧ r % 3073 ≤ n * 1024 ∧ (n = 0 ∨ (n - 1) * 1024 < r % 3073) ∧ Below w.heap.size w w'

def BuildInv (w wr : World) (S : Nat) (ao : Option Addr) (n cap : Nat) (B : Nat → Nat) (r : Nat) : Prop :=
  ∃ C, Sums wr w.heap.size S ao n cap B C ((r % 3073 : Nat) : Int) 0 false ∧ (∀ j, j < n → Rng (C j)) ∧ Below w.heap.size w wr

theorem build_step {w wr wx : World} {S : Nat} {ao : Option Addr} {n cap : Nat} {B : Nat → Nat} {r : Nat} {C : Nat → Nat → Int} {k : Nat} {c' : Nat → Int}
    (hS : Sums wr w.heap.size S ao n cap B C ((r % 3073 : Nat) : Int) 0 false) (hC : ∀ j, j < n → Rng (C j)) (hB : Below w.heap.size w wr) (hk : k < n) (hc : Ch wx (B k) c') (hr : Rng c') (ho : Only wr wx (fun b => b = B k)) :
    BuildInv w wx S ao n cap B r :=
  ⟨_, hS.turned hk hc ho, fun j hj => by
    by_cases e : j = k
    · subst e; simpa using hr
    · simpa [e] using hC j hj, hB.trans (ho.below (by intro b e; rw [e]; exact hS.hB k hk) hB.size)⟩

set_option maxRecDepth 20000 in
set_option maxHeartbeats 2000000 in
theorem build_any (r : Nat) (hr : r < 65536) (a : Option Addr) (n cap : Nat) (G off : Nat) (P F V H : Nat → Nat) (w : World) (ha : 0 < n → a = some ⟨G, off, none⟩)
    (hP : ∀ j, j < n → w.cell? ⟨G, off + j * 4, none⟩ = some (.int .u16 (P j)) ∧ P j < 65536)
    (hF : ∀ j, j < n → w.cell? ⟨G, off + j * 4 + 1, none⟩ = some (.int .u8 (F j)) ∧ F j < 256)
    (hV : ∀ j, j < n → w.cell? ⟨G, off + j * 4 + 2, none⟩ = some (.int .u64 (V j)) ∧ V j < 18446744073709551616)
    (hH : ∀ j, j < n → w.cell? ⟨G, off + j * 4 + 3, none⟩ = some (.int .u32 (H j)) ∧ H j < 4294967296) (hn : n ≤ 4096) :
    Calls Yba.prog 5 #[.int .u16 r, .slice a n cap] w fun e w' => BuildPost w w' r e := by
  have hr3 : (r : Int) % 3073 = ((r % 3073 : Nat) : Int) := by omega
  generalize hR : r % 3073 = R at *
  have HR : Hid (r % 3073 = R) := hR
  have hRb : R < 3073 := by omega
  clear hR
  go_enter Yba.func5, Yba.ntmps5
  go_wp2_with fail
  refine (grow_any w.heap.size w.heap.size none 0 0 (fun _ => 0) (fun _ _ => 0) 0 0 false R _ ?_ (by omega) (by omega) (by omega) (by omega) (by simp)).mono ?_
  · refine ⟨Deep.blk_alloc_new _ _, World.ownsRow_nil _ _ _ _, fun j hj => by omega, fun i j hi => by omega, Nat.le_refl _, fun j hj => by omega⟩
  rintro e w1 ⟨rfl, ao, nn, cp, B, hG, hg1, hg2⟩
  have hmax : max (0 : Int) (R : Int) = (R : Int) := by omega
  rw [hmax] at hG
  have hB1 : Below w.heap.size w w1 := ((Below.refl _ w).alloc (Nat.le_refl _) _).trans (hG.only.below (by intro k hk; rcases hk with rfl | hk | ⟨j, hj, rfl⟩ <;> simp_all) (by simp))
  have hI : BuildInv w w1 w.heap.size ao nn cp B r := ⟨_, by rw [HR.out]; exact hG.sums, fun j hj => rng_pad (by intro j hj; omega) j, hB1⟩
  obtain ⟨c0, c1, c2, c3⟩ := hG.sums.cell
  clear hG hB1
  by_cases hnn : nn = 0
  · subst hnn
    go_wp2
    go_ret
    obtain ⟨C, hS, hC, hB⟩ := hI
    exact ⟨w.heap.size, ao, 0, cp, B, C, rfl, hS, hC, by rw [HR.out]; omega, .inl rfl, hB⟩
  have hnn2 : nn ≤ 4 := by omega
  have hz : ((nn : Int) * 1024 == 0) = false := by simpa using (by omega : ¬ ((nn : Int) * 1024 = 0))
  go_wp2
  go_loopg [30] n (fun m x wr => ∃ j : Nat, m + j = n ∧ x = .int .i64 j ∧ BuildInv w wr w.heap.size ao nn cp B r)
  case atStart => exact ⟨0, rfl, rfl, hI⟩
  case round =>
    obtain ⟨j, hj, rfl, hIr⟩ := hrel
    by_cases hlt : j < n
    · obtain ⟨C, hS, hC, hB⟩ := hIr
      obtain rfl := ha (by omega)
      have hGl : G < w.heap.size := World.block_lt_of_cell? _ _ (hP j hlt).1
      have hsame : ∀ k, wr.cell? ⟨G, k, none⟩ = w.cell? ⟨G, k, none⟩ := fun k => World.cell?_of_block (hB.block G hGl)
      have e0 : wr.cell? ⟨G, off + j * 4, none⟩ = some (.int .u16 (P j)) := (hsame _).trans (hP j hlt).1
      have e1 : wr.cell? ⟨G, off + j * 4 + 1, none⟩ = some (.int .u8 (F j)) := (hsame _).trans (hF j hlt).1
      have e2 : wr.cell? ⟨G, off + j * 4 + 2, none⟩ = some (.int .u64 (V j)) := (hsame _).trans (hV j hlt).1
      have e3 : wr.cell? ⟨G, off + j * 4 + 3, none⟩ = some (.int .u32 (H j)) := (hsame _).trans (hH j hlt).1
      have bP := (hP j hlt).2
      have bF := (hF j hlt).2
      have bV := (hV j hlt).2
      have bH := (hH j hlt).2
      obtain ⟨g, rfl⟩ := owns_some hS.own (by omega)
      obtain ⟨c0, c1, c2, c3⟩ := hS.cell
      have hSl := hS.lt (.inl rfl)
      have hgl := hS.lt (k := g) (.inr (.inl rfl))
      have hm : P j % (nn * 1024) < nn * 1024 := Nat.mod_lt _ (by omega)
      have hmE : (P j : Int) % ((nn : Int) * 1024) = ((P j % (nn * 1024) : Nat) : Int) := by push_cast; rfl
      generalize P j % (nn * 1024) = p at hm hmE
      obtain ⟨q, hq⟩ : ∃ q, q = p / 1024 := ⟨_, rfl⟩
      obtain ⟨i, hi⟩ : ∃ i, i = p % 1024 := ⟨_, rfl⟩
      have hql : q < nn := by omega
      have hil : i < 1024 := by omega
      have hq1 : (p : Int) / 1024 = (q : Int) := by omega
      have hi1 : (p : Int) % 1024 = (i : Int) := by omega
      have hpb : p < 5000 := by omega
      have hptr := hS.ptr rfl hql
      have hql' : (q : Int) < (nn : Int) := by omega
      have hfm : (F j : Int) % 4 = ((F j % 4 : Nat) : Int) := by omega
      generalize hfe : F j % 4 = f at hfm
      have hf4 : f < 4 := by omega
      have HC : Hid (Ch wr (B q) (C q)) := hS.chunks q hql
      have HS := (show Hid _ from hS)
      have HB := (show Hid _ from hB)
      clear hP hF hV hH hsame hS hB hq hi
      rcases (by omega : f = 0 ∨ f = 1 ∨ f = 2 ∨ f = 3) with rfl | rfl | rfl | rfl
      · go_wp2_with fail
        generalize hwA : wr.alloc _ = wA
        have hA2 : wA.cell? ⟨wr.heap.size, 2, none⟩ = some (.int .u64 (V j)) := by rw [← hwA]; simp
        have hA3 : wA.cell? ⟨wr.heap.size, 3, none⟩ = some (.int .u32 (H j)) := by rw [← hwA]; simp
        have hCA : Ch wA (B q) (C q) := by rw [← hwA]; exact HC.out.alloc _
        have hOA : Only wr wA (fun b => b = B q) := by rw [← hwA]; exact (Only.refl _ _).alloc _
        have hBq : B q ≠ wr.heap.size := by have := HC.out.lt; omega
        clear hwA
        have t0 := hCA.u64 (o := i) (by omega)
        have z0 := hCA.frozen (i)
        go_cut [] (fun wx => Ch wx (B q) (upd (C q) (i) (V j)) ∧ Only wr wx (fun b => b = B q) ∧ wx.cell? ⟨wr.heap.size, 2, none⟩ = some (.int .u64 (V j)) ∧ wx.cell? ⟨wr.heap.size, 3, none⟩ = some (.int .u32 (H j)))
        case first =>
          go_region
          go_wp2_with fail
          go_meet
          case rel => exact ⟨hCA.set (by omega) (kd_u64 (by omega)) _, (hOA.setCell (.inl rfl) _).drew, (((Only.refl wA (fun b => b = B q)).setCell (.inl rfl) _).drew).cell hA2 (fun e => hBq e.symm), (((Only.refl wA (fun b => b = B q)).setCell (.inl rfl) _).drew).cell hA3 (fun e => hBq e.symm)⟩
        case rest =>
          obtain ⟨hC1, hO1, hA2, hA3⟩ := hcut
          clear hCA hOA t0 z0
          have t1 := hC1.u64 (o := 2048 + i) (by omega)
          have z1 := hC1.frozen (2048 + i)
          go_wp2_with fail
          go_region
          go_wp2
          go_roundg (gk - 1)
          case measure => omega
          case rel => exact ⟨j + 1, by omega, by go_num, build_step HS.out hC HB.out hql (hC1.set (by omega) (kd_u64 (by omega)) _) (rng_upd (rng_upd (hC q hql) (by omega)) (by omega)) ((hO1.setCell (.inl rfl) _).drew)⟩
      · go_wp2_with fail
        generalize hwA : wr.alloc _ = wA
        have hA2 : wA.cell? ⟨wr.heap.size, 2, none⟩ = some (.int .u64 (V j)) := by rw [← hwA]; simp
        have hA3 : wA.cell? ⟨wr.heap.size, 3, none⟩ = some (.int .u32 (H j)) := by rw [← hwA]; simp
        have hCA : Ch wA (B q) (C q) := by rw [← hwA]; exact HC.out.alloc _
        have hOA : Only wr wA (fun b => b = B q) := by rw [← hwA]; exact (Only.refl _ _).alloc _
        have hBq : B q ≠ wr.heap.size := by have := HC.out.lt; omega
        clear hwA
        have t0 := hCA.u64 (o := 1024 + i) (by omega)
        have z0 := hCA.frozen (1024 + i)
        go_cut [] (fun wx => Ch wx (B q) (upd (C q) (1024 + i) (V j)) ∧ Only wr wx (fun b => b = B q) ∧ wx.cell? ⟨wr.heap.size, 2, none⟩ = some (.int .u64 (V j)) ∧ wx.cell? ⟨wr.heap.size, 3, none⟩ = some (.int .u32 (H j)))
        case first =>
          go_region
          go_wp2_with fail
          go_meet
          case rel => exact ⟨hCA.set (by omega) (kd_u64 (by omega)) _, (hOA.setCell (.inl rfl) _).drew, (((Only.refl wA (fun b => b = B q)).setCell (.inl rfl) _).drew).cell hA2 (fun e => hBq e.symm), (((Only.refl wA (fun b => b = B q)).setCell (.inl rfl) _).drew).cell hA3 (fun e => hBq e.symm)⟩
        case rest =>
          obtain ⟨hC1, hO1, hA2, hA3⟩ := hcut
          clear hCA hOA t0 z0
          have t1 := hC1.u32 (o := 4096 + i) (by omega) (by omega)
          have z1 := hC1.frozen (4096 + i)
          go_wp2_with fail
          go_region
          go_wp2
          go_roundg (gk - 1)
          case measure => omega
          case rel => exact ⟨j + 1, by omega, by go_num, build_step HS.out hC HB.out hql (hC1.set (by omega) (kd_u32 (by omega) (by omega)) _) (rng_upd (rng_upd (hC q hql) (by omega)) (by omega)) ((hO1.setCell (.inl rfl) _).drew)⟩
      · go_wp2_with fail
        generalize hwA : wr.alloc _ = wA
        have hA2 : wA.cell? ⟨wr.heap.size, 2, none⟩ = some (.int .u64 (V j)) := by rw [← hwA]; simp
        have hA3 : wA.cell? ⟨wr.heap.size, 3, none⟩ = some (.int .u32 (H j)) := by rw [← hwA]; simp
        have hCA : Ch wA (B q) (C q) := by rw [← hwA]; exact HC.out.alloc _
        have hOA : Only wr wA (fun b => b = B q) := by rw [← hwA]; exact (Only.refl _ _).alloc _
        have hBq : B q ≠ wr.heap.size := by have := HC.out.lt; omega
        clear hwA
        have t0 := hCA.u64 (o := 3072 + i) (by omega)
        have z0 := hCA.frozen (3072 + i)
        go_cut [] (fun wx => Ch wx (B q) (upd (C q) (3072 + i) (V j)) ∧ Only wr wx (fun b => b = B q) ∧ wx.cell? ⟨wr.heap.size, 2, none⟩ = some (.int .u64 (V j)) ∧ wx.cell? ⟨wr.heap.size, 3, none⟩ = some (.int .u32 (H j)))
        case first =>
          go_region
          go_wp2_with fail
          go_meet
          case rel => exact ⟨hCA.set (by omega) (kd_u64 (by omega)) _, (hOA.setCell (.inl rfl) _).drew, (((Only.refl wA (fun b => b = B q)).setCell (.inl rfl) _).drew).cell hA2 (fun e => hBq e.symm), (((Only.refl wA (fun b => b = B q)).setCell (.inl rfl) _).drew).cell hA3 (fun e => hBq e.symm)⟩
        case rest =>
          obtain ⟨hC1, hO1, hA2, hA3⟩ := hcut
          clear hCA hOA t0 z0
          have t1 := hC1.u32 (o := 5120 + i) (by omega) (by omega)
          have z1 := hC1.frozen (5120 + i)
          go_wp2_with fail
          go_region
          go_wp2
          go_roundg (gk - 1)
          case measure => omega
          case rel => exact ⟨j + 1, by omega, by go_num, build_step HS.out hC HB.out hql (hC1.set (by omega) (kd_u32 (by omega) (by omega)) _) (rng_upd (rng_upd (hC q hql) (by omega)) (by omega)) ((hO1.setCell (.inl rfl) _).drew)⟩
      · go_wp2_with fail
        generalize hwA : wr.alloc _ = wA
        have hA2 : wA.cell? ⟨wr.heap.size, 2, none⟩ = some (.int .u64 (V j)) := by rw [← hwA]; simp
        have hA3 : wA.cell? ⟨wr.heap.size, 3, none⟩ = some (.int .u32 (H j)) := by rw [← hwA]; simp
        have hCA : Ch wA (B q) (C q) := by rw [← hwA]; exact HC.out.alloc _
        have hOA : Only wr wA (fun b => b = B q) := by rw [← hwA]; exact (Only.refl _ _).alloc _
        have hBq : B q ≠ wr.heap.size := by have := HC.out.lt; omega
        clear hwA
        have t0 := hCA.i64 (o := 6144 + i) (by omega) (by omega)
        have z0 := hCA.frozen (6144 + i)
        go_region
        go_wp2
        go_roundg (gk - 1)
        case measure => omega
        case rel => exact ⟨j + 1, by omega, by go_num, build_step HS.out hC HB.out hql (hCA.set (by omega) (kd_i64 (by omega)) _) (rng_upd (hC q hql) (by unfold wrap64; omega)) ((hOA.setCell (.inl rfl) _).drew)⟩
    · have HI := (show Hid _ from hIr)
      clear hIr
      go_wp2
      go_ret
      obtain ⟨C, hS, hC, hB⟩ := HI.out
      exact ⟨w.heap.size, ao, nn, cp, B, C, rfl, hS, hC, by rw [HR.out]; omega, by rw [HR.out]; omega, hB⟩
end Go.Proofs.Ybulkbqau
