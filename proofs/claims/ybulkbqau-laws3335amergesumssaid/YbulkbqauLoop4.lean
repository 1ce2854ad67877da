import Derived.Test.YbulkbqauSumsDefs
set_option linter.unusedVariables false
set_option linter.unusedSimpArgs false
namespace Go.Proofs.Ybulkbqau
open Go.RowKit
attribute [local go_sem ↓] ld37

set_option maxRecDepth 20000 in
set_option maxHeartbeats 4000000 in
theorem loop4 (u0 u1 u2 u3 u4 u5 u6 u7 u8 u9 u10 u11 u12 u13 u15 u16 u17 u20 u21 u22 u23 u24 u25 u26 u27 u28 u29 u30 u31 u32 u33 u34 u35 u36 u37 u38 u39 u40 u41 u42 u43 u44 u45 u46 u47 u48 u49 u50 u51 u52 u53 u54 u55 u56 u57 u58 u59 u60 u61 u62 u63 u64 u65 u66 u67 u68 u69 u70 u71 u72 u73 u74 u75 u76 u77 u78 u79 u80 u81 u82 u83 u84 u85 u86 u87 u88 u89 u90 u91 u92 u93 u94 u95 u96 u97 u98 u99 u100 u101 u102 u103 u104 u105 u106 u107 u108 u109 u110 u111 u112 u113 u114 u115 u116 u117 u118 u119 u120 u121 u122 u123 u124 u125 u126 u127 u128 u129 u130 u131 u132 u133 u134 u135 u136 u137 u138 u139 u140 u141 u142 u143 u144 u145 u146 u147 u148 u149 u150 u151 u152 u153 u154 u155 u156 u157 u158 u159 u160 u161 u162 u163 u164 u165 u166 u167 u168 u169 u170 u171 u172 u173 u174 u175 u176 u177 u178 u179 u180 u181 u182 u183 u184 u185 u186 u187 u188 u189 u190 u191 u192 u193 u194 u195 u196 u197 u198 u199 u200 u201 u202 u203 u204 u205 u206 u207 u208 u209 u212 u213 u214 u215 u216 u217 u218 u219 u220 u221 u222 u223 u224 u225 u226 u227 u228 u229 u230 u231 u232 u233 u234 u235 u236 u237 u238 u239 u240 u241 u242 : Value) (base S2 b4 n2 cap2 : Nat) (ao2 : Option Addr) (B2 : Nat → Nat) (D : Nat → Nat → Int) (Rb : Int) (w8 : World)
    (hBH : Sums w8 base S2 ao2 n2 cap2 B2 D Rb 0 false) (hsnB8 : Snap w8 b4 n2 n2 D) (hpr8 : PtrRow w8 (b4 + 1) n2 n2 B2) (hlb8 : b4 + 1 < w8.heap.size) (hn2 : n2 ≤ 1000)
    (K : Act → World → Prop) (Q' : Exit → Act → World → Prop) (hK : ∀ (v12 v27 v212 v213 v214 v215 v216 v217 v218 v219 v220 v221 v222 v223 v224 v225 v226 v227 v228 v229 v230 v231 v232 v233 v234 v235 v236 v237 v238 v239 v240 v241 v242 : Value) (w' : World), Below w8.heap.size w8 w' → K { tmps := #[u0, u1, u2, u3, u4, u5, u6, u7, u8, u9, u10, u11, v12, u13, .pointer (some ⟨S2, 0, none⟩), u15, u16, u17, .slice (some ⟨b4, 0, none⟩) n2 n2, .slice (some ⟨b4 + 1, 0, none⟩) n2 n2, u20, u21, u22, u23, u24, u25, u26, v27, u28, u29, u30, u31, u32, u33, u34, u35, u36, u37, u38, u39, u40, u41, u42, u43, u44, u45, u46, u47, u48, u49, u50, u51, u52, u53, u54, u55, u56, u57, u58, u59, u60, u61, u62, u63, u64, u65, u66, u67, u68, u69, u70, u71, u72, u73, u74, u75, u76, u77, u78, u79, u80, u81, u82, u83, u84, u85, u86, u87, u88, u89, u90, u91, u92, u93, u94, u95, u96, u97, u98, u99, u100, u101, u102, u103, u104, u105, u106, u107, u108, u109, u110, u111, u112, u113, u114, u115, u116, u117, u118, u119, u120, u121, u122, u123, u124, u125, u126, u127, u128, u129, u130, u131, u132, u133, u134, u135, u136, u137, u138, u139, u140, u141, u142, u143, u144, u145, u146, u147, u148, u149, u150, u151, u152, u153, u154, u155, u156, u157, u158, u159, u160, u161, u162, u163, u164, u165, u166, u167, u168, u169, u170, u171, u172, u173, u174, u175, u176, u177, u178, u179, u180, u181, u182, u183, u184, u185, u186, u187, u188, u189, u190, u191, u192, u193, u194, u195, u196, u197, u198, u199, u200, u201, u202, u203, u204, u205, u206, u207, u208, u209, .int .i64 n2, .int .i64 n2, v212, v213, v214, v215, v216, v217, v218, v219, v220, v221, v222, v223, v224, v225, v226, v227, v228, v229, v230, v231, v232, v233, v234, v235, v236, v237, v238, v239, v240, v241, v242], defers := [] } w') :
    Code.wp Yba.prog (loopC Yba.f3 39) (Exit.inBlock 6 (Exit.then K Q')) { tmps := #[u0, u1, u2, u3, u4, u5, u6, u7, u8, u9, u10, u11, u12, u13, .pointer (some ⟨S2, 0, none⟩), u15, u16, u17, .slice (some ⟨b4, 0, none⟩) n2 n2, .slice (some ⟨b4 + 1, 0, none⟩) n2 n2, u20, u21, u22, u23, u24, u25, u26, u27, u28, u29, u30, u31, u32, u33, u34, u35, u36, u37, u38, u39, u40, u41, u42, u43, u44, u45, u46, u47, u48, u49, u50, u51, u52, u53, u54, u55, u56, u57, u58, u59, u60, u61, u62, u63, u64, u65, u66, u67, u68, u69, u70, u71, u72, u73, u74, u75, u76, u77, u78, u79, u80, u81, u82, u83, u84, u85, u86, u87, u88, u89, u90, u91, u92, u93, u94, u95, u96, u97, u98, u99, u100, u101, u102, u103, u104, u105, u106, u107, u108, u109, u110, u111, u112, u113, u114, u115, u116, u117, u118, u119, u120, u121, u122, u123, u124, u125, u126, u127, u128, u129, u130, u131, u132, u133, u134, u135, u136, u137, u138, u139, u140, u141, u142, u143, u144, u145, u146, u147, u148, u149, u150, u151, u152, u153, u154, u155, u156, u157, u158, u159, u160, u161, u162, u163, u164, u165, u166, u167, u168, u169, u170, u171, u172, u173, u174, u175, u176, u177, u178, u179, u180, u181, u182, u183, u184, u185, u186, u187, u188, u189, u190, u191, u192, u193, u194, u195, u196, u197, u198, u199, u200, u201, u202, u203, u204, u205, u206, u207, u208, u209, .int .i64 n2, .int .i64 0, u212, u213, u214, u215, u216, u217, u218, u219, u220, u221, u222, u223, u224, u225, u226, u227, u228, u229, u230, u231, u232, u233, u234, u235, u236, u237, u238, u239, u240, u241, u242], defers := [] } w8 := by
  have HS := (show Hid _ from hBH)
  have HK := (show Hid _ from hK)
  clear hBH hK
  conv => enter [2]; whnf
  dsimp only
  go_loopg [211] n2 (fun m x wr => ∃ k : Nat, k ≤ n2 ∧ m + k = n2 ∧ x = .int .i64 k ∧ Below w8.heap.size w8 wr)
  case atStart => exact ⟨0, by omega, by omega, rfl, Below.refl _ _⟩
  case round =>
    obtain ⟨k, hk4, hk5, rfl, hbe⟩ := hrel
    by_cases hlt4 : k < n2
    · have hB := HS.out.below hbe (fun b hb => HS.out.lt hb) (Nat.le_refl _)
      obtain ⟨g, rfl⟩ := owns_some hB.own (by omega)
      have q0 := hB.cell.1
      have q1 := hB.ptr rfl hlt4
      have q3 := (hpr8.kept (hbe.block _ (by omega))).ptr k hlt4
      have hra1 : wr.rangeAt (B2 k) 0 (lst (D k)) := by
        intro j v hv
        rw [Nat.zero_add, cell_of_row _ _ _ _ _ _ (hB.chunks k hlt4).blk]
        simpa using hv
      have hra2 := (hsnB8.kept (hbe.block _ (by omega))).rng k hlt4
      have hl1 : ∀ q, (loadChunk (.pointer (some ⟨B2 k, 0, none⟩))).run Yba.prog (wr.drewN q) = .ok (.agg (lst (D k)).toArray) (wr.drewN q) := fun q => loadChunk_at (w := wr.drewN q) (by exact hra1)
      have hl2 : ∀ q, (loadChunk (.pointer (some ⟨b4, k * 7168, none⟩))).run Yba.prog (wr.drewN q) = .ok (.agg (lst (D k)).toArray) (wr.drewN q) := fun q => loadChunk_at (w := wr.drewN q) (by exact hra2)
      have HBE := (show Hid _ from hbe)
      have hneq := fun w => neq37 (lst_isArr (D k)) w
      have hg37 := guard37
      have hn30 := neq30
      have hk0 : (0 : Int) ≤ (k : Int) := by omega
      have hk6 : (k : Int) < (n2 : Int) := by omega
      clear hra1 hra2 hbe hB
      go_wp2_with fail
      go_quiet (fail)
      go_wp2
      go_roundg (gk - 1)
      case measure => omega
      case rel => exact ⟨k + 1, by omega, by omega, by go_num, ⟨HBE.out.os, HBE.out.tape, HBE.out.output, HBE.out.size, HBE.out.block⟩⟩
    · obtain rfl : n2 = k := by omega
      have HBE := (show Hid _ from hbe)
      clear hbe
      go_wp2
      exact HK.out _ _ _ _ _ _ _ _ _ _ _ _ _ _ _ _ _ _ _ _ _ _ _ _ _ _ _ _ _ _ _ _ _ _ HBE.out
end Go.Proofs.Ybulkbqau
