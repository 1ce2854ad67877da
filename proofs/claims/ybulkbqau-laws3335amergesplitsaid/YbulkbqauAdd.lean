import Derived.Test.YbulkbqauAssoc
import Derived.Test.YbulkbqauMul
import Derived.Test.YbulkbqauSnap
import Derived.Deep.DeepCutAuto
set_option linter.unusedVariables false
set_option linter.unusedSimpArgs false
namespace Go.Proofs.Ybulkbqau
open Go.RowKit

def wu (z : Int) : Int := z % 18446744073709551616
theorem wrap_u (z : Int) : IntKind.u64.wrap z = wu z := by rw [IntKind.wrap_u64]; rfl
theorem wu_bd (z : Int) : 0 ≤ wu z ∧ wu z < 18446744073709551616 := by unfold wu; omega
def dL (l0 l : Bool) : Int := if l && !l0 then 1 else if !l && l0 then -1 else 0
/-- one round's figures -/
def rd (i : Nat) (i0 x : Int) (l0 l : Bool) (m : Nat) : Nat → Int :=
  dlt i (wu (wu x - wu i0)) (wu (wu (wu x - wu i0) * wu (wu x + wu i0))) m ((m * m % 18446744073709551616 : Nat) : Int) ((m * m / 18446744073709551616 % 4294967296 : Nat) : Int) (dL l0 l)

theorem grow_at (base S : Nat) (ao : Option Addr) (n cap : Nat) (B : Nat → Nat) (C : Nat → Nat → Int) (rounds inf : Int) (left : Bool) (r : Nat) (v : Int) (hv : v = (r : Int)) (w : World)
    (hw : Sums w base S ao n cap B C rounds inf left) (hr : r ≤ 1000000) (hn : n ≤ 1000000) (hr0 : 0 ≤ rounds) (hr1 : rounds ≤ 1000000) (hbase : base ≤ w.heap.size) :
    Calls Yba.prog 9 #[.pointer (some ⟨S, 0, none⟩), .int .i64 v] w fun e w' => e = .returned (.tuple #[]) ∧
      GrowPost w w' base S ao n cap B C rounds inf left r := by
  subst hv
  exact grow_any base S ao n cap B C rounds inf left r w hw hr hn hr0 hr1 hbase

def AddPost (w w' : World) (base S : Nat) (ao : Option Addr) (n : Nat) (B : Nat → Nat) (C : Nat → Nat → Int) (R : Nat) (i0 : Int) (l0 : Bool) (r : Nat) (x : Int) (l : Bool) (m : Nat) : Prop :=
  ∃ ao' n' cap' B' C', Sums w' base S ao' n' cap' B' C' ((max R (r + 1) : Nat) : Int) x l ∧ n ≤ n' ∧ r + 1 ≤ n' * 1024 ∧ (n' = n ∨ (n' - 1) * 1024 < r + 1) ∧
    (∀ q, q < n' → ∀ o, o < 7168 → C' q o = if q = r / 1024 then addC (padC C n q) (rd (r % 1024) i0 x l0 l m) o else padC C n q o) ∧ Only w w' (FP S ao n B) ∧ (∀ k, FP S ao' n' B' k → FP S ao n B k ∨ w.heap.size ≤ k)

set_option maxRecDepth 20000 in
set_option maxHeartbeats 2000000 in
theorem add_any (base S : Nat) (ao : Option Addr) (n cap : Nat) (B : Nat → Nat) (C : Nat → Nat → Int) (R : Nat) (inf : Int) (left : Bool) (i0 : Int) (l0 : Bool) (r : Nat) (x : Int) (l : Bool) (m : Nat) (w : World)
    (hw : Sums w base S ao n cap B C R inf left) (hC : ∀ j, j < n → Rng (C j)) (hr : r ≤ 100000) (hn : n ≤ 1000000) (hR : R ≤ 1000000) (hbase : base ≤ w.heap.size) (hm : m < 18446744073709551616)
    (h0 : r = 0 → i0 = 0 ∧ l0 = false) (h1 : r ≠ 0 → i0 = inf ∧ l0 = left) :
    Calls Yba.prog 12 #[.pointer (some ⟨S, 0, none⟩), .int .i64 r, .int .i64 x, .bool l, .int .u64 m] w fun e w' => e = .returned (.tuple #[]) ∧ AddPost w w' base S ao n B C R i0 l0 r x l m := by
  obtain ⟨x0, x1, x2, x3⟩ := hw.cell
  have y2 := hw.frozen 2
  have y3 := hw.frozen 3
  have HW := (show Hid _ from hw)
  have H0 := (show Hid _ from h0)
  have H1 := (show Hid _ from h1)
  clear hw h0 h1
  go_enter Yba.func12, Yba.ntmps12
  go_upto_if 17 with fail
  go_cut [] (fun wx => Sums wx base S ao n cap B C R i0 l0 ∧ Only w wx (fun b => b = S))
  case first =>
    by_cases hr0 : r = 0
    · obtain ⟨hi0, hl0⟩ := H0.out hr0
      subst hi0 hl0 hr0
      go_wp2
      go_meet
      case rel =>
        exact ⟨HW.out.fields 0 false, ((Only.refl w (fun b => b = S)).setCell (.inl rfl) _).setCell (.inl rfl) _⟩
    · go_wp2
      go_meet
      case rel =>
        obtain ⟨rfl, rfl⟩ := H1.out hr0
        exact ⟨HW.out, Only.refl _ _⟩
  case rest =>
    obtain ⟨hS1, hO1⟩ := hcut
    clear x0 x1 x2 x3 y2 y3
    obtain ⟨wA, rfl⟩ : ∃ wA, wA = wc := ⟨wc, rfl⟩
    go_wp2_with fail
    refine (grow_at base S ao n cap B C R i0 l0 (r + 1) _ (by omega) wA hS1 (by omega) hn (by omega) (by omega) (Nat.le_trans hbase hO1.size)).mono ?_
    rintro e w2 ⟨rfl, ao', n', cap', B', hG, hg1, hg2⟩
    rw [show max (R : Int) ((r + 1 : Nat) : Int) = ((max R (r + 1) : Nat) : Int) by omega] at hG
    obtain ⟨g, rfl⟩ := owns_some hG.sums.own (by omega)
    obtain ⟨c0, c1, c2, c3⟩ := hG.sums.cell
    obtain ⟨q, hq⟩ : ∃ q, q = r / 1024 := ⟨_, rfl⟩
    obtain ⟨i, hi⟩ : ∃ i, i = r % 1024 := ⟨_, rfl⟩
    have hq1 : (r : Int) / 1024 = (q : Int) := by omega
    have hi1 : (r : Int) % 1024 = (i : Int) := by omega
    have hql : q < n' := by omega
    have hil : i < 1024 := by omega
    have hql' : (q : Int) < (n' : Int) := by omega
    have hptr := hG.sums.ptr rfl hql
    have HG := (show Hid _ from hG)
    have HQ := (show Hid (q = r / 1024 ∧ i = r % 1024) from ⟨hq, hi⟩)
    clear hG hq hi hS1
    go_wp2
    simp only [hi1, wrap_u]
    have hCp : Rng (padC C n q) := rng_pad hC q
    have hch : Ch w2 (B' q) (padC C n q) := HG.out.sums.chunks q hql
    generalize hX : wu x = xs
    generalize hI : wu i0 = is
    generalize hcc : padC C n q = c at *
    have HX := (show Hid (wu x = xs ∧ wu i0 = is ∧ padC C n q = c) from ⟨hX, hI, hcc⟩)
    clear hX hI hcc hq1 hi1 hptr
    have b0 := (hCp i (by omega)).1 (by omega)
    have t0 := hch.u64 (o := i) (by omega)
    have z0 := hch.frozen i
    go_cut [] (fun wx => Ch wx (B' q) (upd c i (lo64 (c i) (wu (xs - is)))) ∧ Only w2 wx (fun b => b = B' q))
    case first =>
      go_region
      go_wp2_with fail
      go_meet
      case rel =>
        rw [wrap_u (xs - is), wrap_lo]
        exact ⟨hch.set (by omega) (kd_u64 (by omega)) _, (((Only.refl w2 (fun b => b = B' q)).setCell (.inl rfl) _).drew)⟩
    case rest =>
      obtain ⟨hC5, hO5⟩ := hcut
      clear t0 z0 hch
      have t1 := hC5.u64 (o := 1024 + i) (by omega)
      have t4 := hC5.u32 (o := 4096 + i) (by omega) (by omega)
      have z1 := hC5.frozen (1024 + i)
      have z4 := hC5.frozen (4096 + i)
      rw [show upd c i (lo64 (c i) (wu (xs - is))) (1024 + i) = c (1024 + i) by unfold upd; rw [if_neg (by omega)]] at t1
      rw [show upd c i (lo64 (c i) (wu (xs - is))) (4096 + i) = c (4096 + i) by unfold upd; rw [if_neg (by omega)]] at t4
      have b1 := (hCp (1024 + i) (by omega)).1 (by omega)
      have b4 := (hCp (4096 + i) (by omega)).2.1 (by omega) (by omega)
      go_wp2_with fail
      go_cut [] (fun wx => Ch wx (B' q) (upd (upd (upd c i (lo64 (c i) (wu (xs - is)))) (1024 + i) (lo64 (c (1024 + i)) (wu (wu (xs - is) * wu (xs + is))))) (4096 + i) (hi32 (c (4096 + i)) 0 (cy64 (c (1024 + i)) (wu (wu (xs - is) * wu (xs + is)))))) ∧ Only w2 wx (fun b => b = B' q))
      case first =>
        go_region_with (go_at_call 10; refine (addWide_any (B' q) (1024 + i) (4096 + i) (c (1024 + i)) (c (4096 + i)) _ _ _ b1.1 b1.2 (by rw [wrap_u]; exact (wu_bd _).1) (by rw [wrap_u]; exact (wu_bd _).2) b4.1 b4.2 (by omega) (by omega) (by omega) (by exact t1) (by exact t4) (by exact z1) (by exact z4)).mono ?_; rintro e w' ⟨rfl, rfl⟩)
        all_goals (try go_wp2_with fail)
        all_goals go_meet
        all_goals
          rw [wrap_u (_ * _), wrap_u (xs - is), wrap_u (xs + is)]
          exact ⟨(hC5.set (by omega) (kd_u64 (by omega)) _).set (by omega) (kd_u32 (by omega) (by omega)) _, ((hO5.setCell (.inl rfl) _).setCell (.inl rfl) _).drew⟩
      case rest =>
        obtain ⟨hC6, hO6⟩ := hcut
        clear hC5 hO5 t1 t4 z1 z4
        generalize hm1 : upd (upd (upd c i (lo64 (c i) (wu (xs - is)))) (1024 + i) (lo64 (c (1024 + i)) (wu (wu (xs - is) * wu (xs + is))))) (4096 + i) (hi32 (c (4096 + i)) 0 (cy64 (c (1024 + i)) (wu (wu (xs - is) * wu (xs + is))))) = m1 at *
        have HM1 := (show Hid (upd (upd (upd c i (lo64 (c i) (wu (xs - is)))) (1024 + i) (lo64 (c (1024 + i)) (wu (wu (xs - is) * wu (xs + is))))) (4096 + i) (hi32 (c (4096 + i)) 0 (cy64 (c (1024 + i)) (wu (wu (xs - is) * wu (xs + is))))) = m1) from hm1)
        clear hm1
        have hSq : B' q ≠ S := HG.out.sums.apart_S.1 q hql
        have k3 := hO6.cell c3 (fun e => hSq e.symm)
        go_upto_region 7 with fail
        go_cut [83] (fun v wx => v = .bool (l && !l0) ∧ Ch wx (B' q) m1 ∧ Only w2 wx (fun b => b = B' q))
        case first =>
          cases l <;> cases l0
          all_goals
            go_wp2
            go_meet
            exact ⟨rfl, hC6, hO6⟩
        case rest =>
          obtain ⟨rfl, hC7, hO7⟩ := hcut
          clear hC6 hO6 k3
          have k3 := hO7.cell c3 (fun e => hSq e.symm)
          have t6 := hC7.i64 (o := 6144 + i) (by omega) (by omega)
          have z6 := hC7.frozen (6144 + i)
          rw [show m1 (6144 + i) = c (6144 + i) by rw [← HM1.out]; unfold upd; rw [if_neg (by omega), if_neg (by omega), if_neg (by omega)]] at t6
          have b6 := (hCp (6144 + i) (by omega)).2.2 (by omega)
          have hsame : ∀ o, o < 7168 → m1 o = upd m1 (6144 + i) (sum64 (c (6144 + i)) 0) o := by
            intro o ho
            have e6 : m1 (6144 + i) = c (6144 + i) := by rw [← HM1.out]; unfold upd; rw [if_neg (by omega), if_neg (by omega), if_neg (by omega)]
            unfold upd
            split
            · rename_i e; rw [e, e6]; unfold sum64 wrap64; omega
            · rfl
          go_upto_if 83 with fail
          go_cut [] (fun wx => Ch wx (B' q) (upd m1 (6144 + i) (sum64 (c (6144 + i)) (dL l0 l))) ∧ Only w2 wx (fun b => b = B' q))
          case first =>
            cases l <;> cases l0
            · go_wp2
              go_meet
              case rel => exact ⟨hC7.congr hsame, hO7⟩
            · go_wp2
              go_region
              go_wp2
              go_meet
              case rel => exact ⟨(hC7.set (by omega) (kd_i64 (by omega)) _).congr (fun o ho => by rw [show dL true false = -1 from rfl]; unfold sum64; rw [Int.sub_eq_add_neg]), (hO7.setCell (.inl rfl) _).drew⟩
            · go_wp2
              go_region
              go_wp2
              go_meet
              case rel => exact ⟨(hC7.set (by omega) (kd_i64 (by omega)) _).congr (fun o ho => by rw [show dL false true = 1 from rfl]; rfl), (hO7.setCell (.inl rfl) _).drew⟩
            · go_wp2
              go_meet
              case rel => exact ⟨hC7.congr hsame, hO7⟩
          case rest =>
            obtain ⟨hC8, hO8⟩ := hcut
            clear hC7 hO7 t6 z6 hsame k3
            have t2 := hC8.u64 (o := 2048 + i) (by omega)
            have z2 := hC8.frozen (2048 + i)
            rw [show upd m1 (6144 + i) (sum64 (c (6144 + i)) (dL l0 l)) (2048 + i) = c (2048 + i) by rw [← HM1.out]; unfold upd; rw [if_neg (by omega), if_neg (by omega), if_neg (by omega), if_neg (by omega)]] at t2
            go_wp2_with fail
            go_cut [] (fun wx => Ch wx (B' q) (upd (upd m1 (6144 + i) (sum64 (c (6144 + i)) (dL l0 l))) (2048 + i) (lo64 (c (2048 + i)) m)) ∧ Only w2 wx (fun b => b = B' q))
            case first =>
              go_region
              go_wp2_with fail
              go_meet
              case rel =>
                rw [wrap_lo]
                exact ⟨hC8.set (by omega) (kd_u64 (by omega)) _, (hO8.setCell (.inl rfl) _).drew⟩
            case rest =>
              obtain ⟨hC9, hO9⟩ := hcut
              clear hC8 hO8 t2 z2
              generalize hm2 : upd (upd m1 (6144 + i) (sum64 (c (6144 + i)) (dL l0 l))) (2048 + i) (lo64 (c (2048 + i)) m) = m2 at *
              have HM2 := (show Hid (upd (upd m1 (6144 + i) (sum64 (c (6144 + i)) (dL l0 l))) (2048 + i) (lo64 (c (2048 + i)) m) = m2) from hm2)
              clear hm2
              have t3 := hC9.u64 (o := 3072 + i) (by omega)
              have t5 := hC9.u32 (o := 5120 + i) (by omega) (by omega)
              have z3 := hC9.frozen (3072 + i)
              have z5 := hC9.frozen (5120 + i)
              rw [show m2 (3072 + i) = c (3072 + i) by rw [← HM2.out, ← HM1.out]; unfold upd; rw [if_neg (by omega), if_neg (by omega), if_neg (by omega), if_neg (by omega), if_neg (by omega)]] at t3
              rw [show m2 (5120 + i) = c (5120 + i) by rw [← HM2.out, ← HM1.out]; unfold upd; rw [if_neg (by omega), if_neg (by omega), if_neg (by omega), if_neg (by omega), if_neg (by omega)]] at t5
              have b3 := (hCp (3072 + i) (by omega)).1 (by omega)
              have b5 := (hCp (5120 + i) (by omega)).2.1 (by omega) (by omega)
              have j0 := hO9.cell c0 (fun e => hSq e.symm)
              have j2 := hO9.cell c2 (fun e => hSq e.symm)
              have j3 := hO9.cell c3 (fun e => hSq e.symm)
              go_wp2_with fail
              refine (mul64_any m m hm hm _).mono ?_
              rintro e w' ⟨rfl, rfl⟩
              have hml : m * m % 18446744073709551616 < 18446744073709551616 := Nat.mod_lt _ (by omega)
              generalize hmh : m * m / 18446744073709551616 = mh at *
              generalize hml2 : m * m % 18446744073709551616 = ml at *
              have HMM := (show Hid (m * m / 18446744073709551616 = mh ∧ m * m % 18446744073709551616 = ml) from ⟨hmh, hml2⟩)
              clear hmh hml2
              go_wp2_with fail
              go_cut [] (fun wx => Ch wx (B' q) (upd (upd m2 (3072 + i) (lo64 (c (3072 + i)) ml)) (5120 + i) (hi32 (c (5120 + i)) ((mh : Int) % 4294967296) (cy64 (c (3072 + i)) ml))) ∧ Only w2 wx (fun b => b = B' q))
              case first =>
                go_region_with (go_at_call 10; refine (addWide_any (B' q) (3072 + i) (5120 + i) (c (3072 + i)) (c (5120 + i)) _ _ _ b3.1 b3.2 (by omega) (by omega) b5.1 b5.2 (by omega) (by omega) (by omega) (by exact t3) (by exact t5) (by exact z3) (by exact z5)).mono ?_; rintro e w' ⟨rfl, rfl⟩)
                all_goals (try go_wp2_with fail)
                all_goals go_meet
                all_goals exact ⟨(hC9.set (by omega) (kd_u64 (by omega)) _).set (by omega) (kd_u32 (by omega) (by omega)) _, ((hO9.setCell (.inl rfl) _).setCell (.inl rfl) _).drew⟩
              case rest =>
                obtain ⟨hC13, hO13⟩ := hcut
                have hSx := HG.out.sums.turned hql hC13 hO13
                obtain ⟨s0, s1, s2, s3⟩ := hSx.cell
                have f2 := hSx.frozen 2
                have f3 := hSx.frozen 3
                have HSX := (show Hid _ from hSx)
                have HO1 := (show Hid _ from hO1)
                have HO13 := (show Hid _ from hO13)
                have hend : ∀ o, o < 7168 → upd (upd m2 (3072 + i) (lo64 (c (3072 + i)) ml)) (5120 + i) (hi32 (c (5120 + i)) ((mh : Int) % 4294967296) (cy64 (c (3072 + i)) ml)) o = addC c (rd i i0 x l0 l m) o := by
                  intro o ho
                  rw [← HM2.out, ← HM1.out]
                  unfold rd
                  rw [HMM.out.1, HMM.out.2, HX.out.1, HX.out.2.1, show ((mh % 4294967296 : Nat) : Int) = (mh : Int) % 4294967296 by omega]
                  exact seven_dlt hCp hil _ _ _ _ _ _ o ho
                have HE := (show Hid _ from hend)
                clear hC9 hO9 hC13 hO13 hSx t3 t5 z3 z5 j0 j2 j3 hO1 hend c0 c1 c2 c3
                go_wp2
                go_end0
                refine ⟨rfl, _, n', cap', B', _, HSX.out.fields x l, HG.out.le, hg1, hg2, fun p hp o ho => ?_, ?_, fun k hk => ?_⟩
                · rw [← HQ.out.1, ← HQ.out.2]
                  by_cases e : p = q
                  · subst e
                    rw [if_pos rfl, if_pos rfl, HX.out.2.2]
                    exact HE.out o ho
                  · rw [if_neg e, if_neg e]
                · refine (((((HO1.out.mono (R' := FP S ao n B) (fun k _ e => .inl e)).trans HG.out.only (fun k _ h => h)).trans HO13.out (fun k hk e => ?_)).setCell (.inl (.inl rfl)) _).setCell (.inl (.inl rfl)) _)
                  rcases HG.out.fp (.inr (.inr ⟨q, hql, e⟩)) with h | h
                  · exact h
                  · have := HO1.out.size; omega
                · rcases HG.out.fp hk with h | h
                  · exact .inl h
                  · exact .inr (Nat.le_trans HO1.out.size h)
end Go.Proofs.Ybulkbqau
