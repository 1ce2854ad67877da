import Derived.Test.YbulkbqauSumsDefs
set_option linter.unusedVariables false
set_option linter.unusedSimpArgs false
namespace Go.Proofs.Ybulkbqau
open Go.RowKit
attribute [local go_sem ↓] ld37

set_option maxRecDepth 20000 in
set_option maxHeartbeats 4000000 in
theorem loop3 (u0 u1 u2 u3 u4 u5 u6 u7 u8 u9 u10 u11 u12 u14 u16 u17 u19 u20 u21 u22 u23 u24 u25 u26 u27 u28 u29 u30 u31 u32 u33 u34 u35 u36 u37 u38 u39 u40 u41 u42 u43 u44 u45 u46 u47 u48 u49 u50 u51 u52 u53 u54 u55 u56 u57 u58 u59 u60 u61 u62 u63 u64 u65 u66 u67 u68 u69 u70 u71 u72 u73 u74 u75 u76 u77 u78 u79 u80 u81 u82 u83 u84 u85 u86 u87 u88 u89 u90 u91 u92 u93 u94 u95 u96 u97 u98 u99 u100 u101 u102 u103 u104 u105 u106 u107 u108 u109 u110 u111 u112 u113 u114 u115 u116 u117 u118 u119 u120 u121 u122 u123 u124 u125 u126 u127 u128 u129 u130 u131 u132 u133 u134 u135 u136 u137 u138 u139 u140 u141 u142 u143 u144 u145 u146 u147 u148 u149 u150 u151 u152 u153 u154 u155 u156 u157 u160 u161 u162 u163 u164 u165 u166 u167 u168 u169 u170 u171 u172 u173 u174 u175 u176 u177 u178 u179 u180 u181 u182 u183 u184 u185 u186 u187 u188 u189 u190 u191 u192 u193 u194 u195 u196 u197 u198 u199 u200 u201 u202 u203 u204 u205 u206 u207 u208 u209 u210 u211 u212 u213 u214 u215 u216 u217 u218 u219 u220 u221 u222 u223 u224 u225 u226 u227 u228 u229 u230 u231 u232 u233 u234 u235 u236 u237 u238 u239 u240 u241 u242 : Value) (base S b3 b4 n n2 n' cap' : Nat) (ao' : Option Addr) (B' : Nat → Nat) (C D : Nat → Nat → Int) (MR inf : Int) (left : Bool) (w7 : World)
    (hM0 : Sums w7 base S ao' n' cap' B' (mrgC (padC C n) D n2) MR inf left) (hsnA : Snap w7 b3 n n C) (hsnB : Snap w7 b4 n2 n2 D) (hC : ∀ j, j < n → Rng (C j)) (hD : ∀ j, j < n2 → Rng (D j))
    (hlb3 : b3 < w7.heap.size) (hlb4 : b4 < w7.heap.size) (hn' : n' = max n n2) (hn1 : n' ≤ 1000)
    (K : Act → World → Prop) (Q' : Exit → Act → World → Prop) (hK : ∀ (v12 v24 v25 v26 v160 v161 v162 v163 v164 v165 v166 v167 v168 v169 v170 v171 v172 v173 v174 v175 v176 v177 v178 v179 v180 v181 v182 v183 v184 v185 v186 v187 v188 v189 : Value) (w' : World), Below w7.heap.size w7 w' → K { tmps := #[u0, u1, u2, u3, u4, u5, u6, u7, u8, u9, u10, u11, v12, .pointer (some ⟨S, 0, none⟩), u14, .slice (some ⟨b3, 0, none⟩) n n, u16, u17, .slice (some ⟨b4, 0, none⟩) n2 n2, u19, u20, u21, u22, u23, v24, v25, v26, u27, u28, u29, u30, u31, u32, u33, u34, u35, u36, u37, u38, u39, u40, u41, u42, u43, u44, u45, u46, u47, u48, u49, u50, u51, u52, u53, u54, u55, u56, u57, u58, u59, u60, u61, u62, u63, u64, u65, u66, u67, u68, u69, u70, u71, u72, u73, u74, u75, u76, u77, u78, u79, u80, u81, u82, u83, u84, u85, u86, u87, u88, u89, u90, u91, u92, u93, u94, u95, u96, u97, u98, u99, u100, u101, u102, u103, u104, u105, u106, u107, u108, u109, u110, u111, u112, u113, u114, u115, u116, u117, u118, u119, u120, u121, u122, u123, u124, u125, u126, u127, u128, u129, u130, u131, u132, u133, u134, u135, u136, u137, u138, u139, u140, u141, u142, u143, u144, u145, u146, u147, u148, u149, u150, u151, u152, u153, u154, u155, u156, u157, .int .i64 n', .int .i64 n', v160, v161, v162, v163, v164, v165, v166, v167, v168, v169, v170, v171, v172, v173, v174, v175, v176, v177, v178, v179, v180, v181, v182, v183, v184, v185, v186, v187, v188, v189, u190, u191, u192, u193, u194, u195, u196, u197, u198, u199, u200, u201, u202, u203, u204, u205, u206, u207, u208, u209, u210, u211, u212, u213, u214, u215, u216, u217, u218, u219, u220, u221, u222, u223, u224, u225, u226, u227, u228, u229, u230, u231, u232, u233, u234, u235, u236, u237, u238, u239, u240, u241, u242], defers := [] } w') :
    Code.wp Yba.prog (loopC Yba.f3 26) (Exit.inBlock 4 (Exit.then K Q')) { tmps := #[u0, u1, u2, u3, u4, u5, u6, u7, u8, u9, u10, u11, u12, .pointer (some ⟨S, 0, none⟩), u14, .slice (some ⟨b3, 0, none⟩) n n, u16, u17, .slice (some ⟨b4, 0, none⟩) n2 n2, u19, u20, u21, u22, u23, u24, u25, u26, u27, u28, u29, u30, u31, u32, u33, u34, u35, u36, u37, u38, u39, u40, u41, u42, u43, u44, u45, u46, u47, u48, u49, u50, u51, u52, u53, u54, u55, u56, u57, u58, u59, u60, u61, u62, u63, u64, u65, u66, u67, u68, u69, u70, u71, u72, u73, u74, u75, u76, u77, u78, u79, u80, u81, u82, u83, u84, u85, u86, u87, u88, u89, u90, u91, u92, u93, u94, u95, u96, u97, u98, u99, u100, u101, u102, u103, u104, u105, u106, u107, u108, u109, u110, u111, u112, u113, u114, u115, u116, u117, u118, u119, u120, u121, u122, u123, u124, u125, u126, u127, u128, u129, u130, u131, u132, u133, u134, u135, u136, u137, u138, u139, u140, u141, u142, u143, u144, u145, u146, u147, u148, u149, u150, u151, u152, u153, u154, u155, u156, u157, .int .i64 n', .int .i64 0, u160, u161, u162, u163, u164, u165, u166, u167, u168, u169, u170, u171, u172, u173, u174, u175, u176, u177, u178, u179, u180, u181, u182, u183, u184, u185, u186, u187, u188, u189, u190, u191, u192, u193, u194, u195, u196, u197, u198, u199, u200, u201, u202, u203, u204, u205, u206, u207, u208, u209, u210, u211, u212, u213, u214, u215, u216, u217, u218, u219, u220, u221, u222, u223, u224, u225, u226, u227, u228, u229, u230, u231, u232, u233, u234, u235, u236, u237, u238, u239, u240, u241, u242], defers := [] } w7 := by
  obtain ⟨z, hzc, hz⟩ := zero37
  have HM := (show Hid _ from hM0)
  have HK := (show Hid _ from hK)
  have HN' := (show Hid _ from hn')
  have HSA := (show Hid _ from hsnA)
  have HSB := (show Hid _ from hsnB)
  clear hM0 hK hn' hsnA hsnB
  conv => enter [2]; whnf
  dsimp only
  go_loopg [159] n' (fun m x wr => ∃ k : Nat, k ≤ n' ∧ m + k = n' ∧ x = .int .i64 k ∧ Below w7.heap.size w7 wr)
  case atStart => exact ⟨0, by omega, by omega, rfl, Below.refl _ _⟩
  case round =>
    obtain ⟨k, hk1, hk2, rfl, hbe⟩ := hrel
    by_cases hlt3 : k < n'
    · have hlB : wr.heap.size ≥ w7.heap.size := hbe.size
      have hkA : ∀ wx, Below wr.heap.size wr wx → k < n → wx.rangeAt b3 (k * 7168) (lst (C k)) := fun wx hb h j v hv => (hb.cell (p := ⟨b3, _, none⟩) (by show b3 < wr.heap.size; omega)).trans ((HSA.out.kept (hbe.block _ (by omega))).rng k h j v hv)
      have hkB : ∀ wx, Below wr.heap.size wr wx → k < n2 → wx.rangeAt b4 (k * 7168) (lst (D k)) := fun wx hb h j v hv => (hb.cell (p := ⟨b4, _, none⟩) (by show b4 < wr.heap.size; omega)).trans ((HSB.out.kept (hbe.block _ (by omega))).rng k h j v hv)
      have hM := HM.out.below hbe (fun b hb => HM.out.lt hb) (Nat.le_refl _)
      obtain ⟨g, rfl⟩ := owns_some hM.own (by omega)
      have hkn3 : (k : Int) < (n' : Int) := by omega
      have hk0 : (0 : Int) ≤ (k : Int) := by omega
      have hXY0 := XY.start wr hzc
      have HMW := (show Hid _ from hM)
      have HBE := (show Hid _ from hbe)
      clear hM hbe
      have hsz1 : ∀ c d, (lst c).toArray.size = (lst d).toArray.size := fun c d => by rw [(lst_isArr c).1, (lst_isArr d).1]
      go_upto_if 165 with fail
      generalize hw0 : World.alloc (World.alloc wr _) _ = wx0 at *
      clear hw0
      go_cut [] from 160 to 189 (fun wx => XY wr wx (padC C n k) (fun _ => 0))
      case first =>
        by_cases hkA1 : k < n
        · have hpa : padC C n k = C k := by simp [padC, hkA1]
          go_wp2_with (refine wpList_load_mid rfl 37 _ rfl b3 (k * 7168) rfl (lst (C k)) _ (hkA _ hXY0.below hkA1) Yba.underlying37 rfl (info_lst' _) ?_; refine wpList_store_row rfl 37 _ _ rfl wr.heap.size (lst (C k)).toArray rfl rfl 37 _ hXY0.x.blk (info_lst _) (hsz1 _ _) (lst_one _) ?_)
          go_meet
          case rel => rw [hpa]; exact hXY0.setX _
        · have hpa : padC C n k = fun _ => 0 := by simp [padC, hkA1]
          go_wp2_with fail
          go_meet
          case rel => rw [hpa]; exact hXY0
      case rest =>
        have hXY1 := hcut
        clear hcut hXY0
        go_upto_if 173 with fail
        go_cut [] from 160 to 189 (fun wx => XY wr wx (padC C n k) (padC D n2 k))
        case first =>
          by_cases hkB1 : k < n2
          · have hpb : padC D n2 k = D k := by simp [padC, hkB1]
            go_wp2_with (refine wpList_load_mid rfl 37 _ rfl b4 (k * 7168) rfl (lst (D k)) _ (hkB _ hXY1.below hkB1) Yba.underlying37 rfl (info_lst' _) ?_; refine wpList_store_row rfl 37 _ _ rfl (wr.heap.size + 1) (lst (D k)).toArray rfl rfl 37 _ hXY1.y.blk (info_lst _) (hsz1 _ _) (lst_one _) ?_)
            go_meet
            case rel => rw [hpb]; exact hXY1.setY _
          · have hpb : padC D n2 k = fun _ => 0 := by simp [padC, hkB1]
            go_wp2_with fail
            go_meet
            case rel => rw [hpb]; exact hXY1
        case rest =>
          have hXY := hcut
          clear hcut hXY1 hkA hkB hsz1
          obtain ⟨wx2, rfl⟩ : ∃ wx2, wx2 = wc := ⟨wc, rfl⟩
          have hS0 := (HMW.out.below hXY.below (fun b hb => HMW.out.lt hb) (Nat.le_refl _))
          have q0 := hS0.cell.1
          have q1 := hS0.ptr rfl hlt3
          have q2 : wx2.rangeAt (B' k) 0 (lst (mrgC (padC C n) D n2 k)) := by
            intro j v hv
            rw [Nat.zero_add, cell_of_row _ _ _ _ _ _ (hS0.chunks k hlt3).blk]
            simpa using hv
          have hkeep : ∀ w9, Below wx2.heap.size wx2 w9 → w9.cell? ⟨S, 0, none⟩ = some (.slice (some ⟨g, 0, none⟩) n' cap') ∧ w9.cell? ⟨g, k, none⟩ = some (.pointer (some ⟨B' k, 0, none⟩)) ∧ w9.rangeAt (B' k) 0 (lst (mrgC (padC C n) D n2 k)) := fun w9 hb9 =>
            ⟨(hb9.cell (p := ⟨S, 0, none⟩) (hS0.lt (.inl rfl))).trans q0, (hb9.cell (p := ⟨g, k, none⟩) (hS0.lt (.inr (.inl rfl)))).trans q1, fun j v hv => (hb9.cell (p := ⟨B' k, _, none⟩) (hS0.chunks k hlt3).lt).trans (q2 j v hv)⟩
          have hneq := fun w => neq37 (lst_isArr (mrgC (padC C n) D n2 k)) w
          have hg37 := guard37
          have hRc := rng_pad hC k
          have hRd := rng_pad hD k
          have hmq := fun o ho => mrg_eq (C := C) (D := D) (n := n) (n2 := n2) (k := k) hC o ho
          have hld : ∀ w' : World, w'.rangeAt (B' k) 0 (lst (mrgC (padC C n) D n2 k)) → (loadChunk (.pointer (some ⟨B' k, 0, none⟩))).run Yba.prog w' = .ok (.agg (lst (mrgC (padC C n) D n2 k)).toArray) w' := fun w' hw' => loadChunk_at hw'
          have HXY := (show Hid _ from hXY)
          clear hXY hS0
          go_wp2_with fail
          go_region_held3 (fun w' => w'.cell? ⟨S, 0, none⟩ = some (.slice (some ⟨g, 0, none⟩) n' cap') ∧ w'.cell? ⟨g, k, none⟩ = some (.pointer (some ⟨B' k, 0, none⟩)) ∧ w'.rangeAt (B' k) 0 (lst (mrgC (padC C n) D n2 k))) (first | (refine hkeep _ ?_; first | assumption | exact (Below.refl _ _).drew)) (first | (go_at_call 7; refine (asum_any wr.heap.size (wr.heap.size + 1) (padC C n k) (padC D n2 k) _ ?_ ?_ hRc hRd).mono ?_; (exact HXY.out.x); (exact HXY.out.y); rintro e w9 ⟨⟨zz, hzz, rfl⟩, hb9⟩; replace hb9 : Below wx2.heap.size wx2 w9 := ⟨hb9.os, hb9.tape, hb9.output, hb9.size, hb9.block⟩; obtain rfl : zz = (lst (mrgC (padC C n) D n2 k)).toArray := hzz.ext (lst_isArr _) (fun o ho => (hmq o ho).symm)))
          go_wp2_with fail
          go_roundg (gk - 1)
          case measure => omega
          case rel => exact ⟨k + 1, by omega, by omega, by go_num, HBE.out.trans ((HXY.out.below.mono hlB).trans (hb9.mono (Nat.le_trans hlB HXY.out.below.size)))⟩
    · obtain rfl : n' = k := by omega
      have HBE := (show Hid _ from hbe)
      clear hbe
      go_wp2
      exact HK.out _ _ _ _ _ _ _ _ _ _ _ _ _ _ _ _ _ _ _ _ _ _ _ _ _ _ _ _ _ _ _ _ _ _ _ HBE.out
end Go.Proofs.Ybulkbqau
