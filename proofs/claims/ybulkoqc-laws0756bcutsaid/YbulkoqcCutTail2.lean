/- LawS0756BCut: the law's text from a given statement on, as declarations of their own. Own work over this program's translation. -/
import Derived.Test.YbulkoqcCutTail3
namespace Go.Proofs.Ybulkoqc
open Go.RowKit
set_option linter.unusedVariables false

/-- The n-th statement of a sequence. -/
def headSeq : Nat → Code → Code
  | 0, .seq a _ => a
  | 0, c => c
  | n + 1, .seq _ b => headSeq n b
  | _ + 1, c => c
theorem lawRest19 : dropSeq 19 (Yba.f4.body.getD .skip) = (headSeq 19 (Yba.f4.body.getD .skip)).seq (dropSeq 20 (Yba.f4.body.getD .skip)) := by kernel_rfl

set_option maxRecDepth 100000 in
set_option maxHeartbeats 4000000 in
theorem cut_tail2 (R : World → Prop) (W : World) (hR : ∀ q, R (W.drewN q)) (a0 a1 a5 aa : Option Addr) (b pb b0 o0 b1 o1 b5 o5 ga len0 cap0 len1 cap1 k cap5 ca n f wn cv cm L g1 g2 ov : Nat) (kk : Int) (av am : Option Addr) (z0 z1 z5 : Nat → Int)
    (hk : k ≤ 256) (hn : n ≤ 1024) (hn0 : n ≤ len0) (hn1 : n ≤ len1) (hl0 : len0 ≤ 1024) (hl1 : len1 ≤ 1024) (hf : f ≤ n) (hLl : L ≤ 1064) (hwn : wn < 40) (hk0 : 0 ≤ kk) (hk1 : kk ≤ 65535)
    (x9 : W.cell? ⟨b, 9, none⟩ = some (.slice none 0 0)) (x10 : W.cell? ⟨b, 10, none⟩ = some (.int .i64 (kk + 1))) (x11 : W.cell? ⟨b, 11, none⟩ = some (.int .i64 0))
    (x12 : W.cell? ⟨b, 12, none⟩ = some (.bool false)) (x13 : W.cell? ⟨b, 13, none⟩ = some (.int .i64 0)) (x14 : W.cell? ⟨b, 14, none⟩ = some (.int .i64 0)) (x15 : W.cell? ⟨b, 15, none⟩ = some (.int .i64 0))
    (x19 : W.cell? ⟨b, 19, none⟩ = some (.slice av (n + wn) cv)) (x20 : W.cell? ⟨b, 20, none⟩ = some (.slice am (n + wn) cm))
    (x21 : W.cell? ⟨b, 21, none⟩ = some (.int .i64 ((n + wn : Nat) : Int))) (x22 : W.cell? ⟨b, 22, none⟩ = some (.slice none 0 0))
    (y0 : W.cell? ⟨pb, 0, none⟩ = some (.slice (some ⟨g1, ov, none⟩) L L)) (y1 : W.cell? ⟨pb, 1, none⟩ = some (.slice (some ⟨g2, ov, none⟩) L L)) (y2 : W.cell? ⟨pb, 2, none⟩ = some (.slice aa k ca))
    (h0 : 0 < len0 → a0 = some ⟨b0, o0, none⟩) (h1 : 0 < len1 → a1 = some ⟨b1, o1, none⟩)
    (hc0 : ∀ j, j < len0 → W.cell? ⟨b0, o0 + j, none⟩ = some (.int .u8 (z0 j))) (hc1 : ∀ j, j < len1 → W.cell? ⟨b1, o1 + j, none⟩ = some (.int .u8 (z1 j)))
    (hr1 : ∀ j, j < L → W.cell? ⟨g1, ov + j, none⟩ = some (.int .u8 (if f + j < n then z0 (f + j) else 0)))
    (hr2 : ∀ j, j < L → W.cell? ⟨g2, ov + j, none⟩ = some (.int .u8 (if f + j < n then z1 (f + j) else 0)))
    (h5 : 0 < k → a5 = some ⟨b5, o5, none⟩ ∧ aa = some ⟨ga, 0, none⟩)
    (hc5 : ∀ j, j < k → W.cell? ⟨b5, o5 + j, none⟩ = some (.int .i64 (z5 j)) ∧ W.cell? ⟨ga, j * 4, none⟩ = some (.int .i64 (z5 j)))
    (u2 u3 u6 u7 u8 u9 u10 u11 u12 u14 u15 u18 u19 u20 u24 u25 u26 u27 u28 u29 u30 u31 u32 u33 u34 u35 u36 u37 u38 u39 u40 u41 u42 u43 u44 u45 u46 u47 u48 u49 u50 u51 u52 u53 u54 u55 u56 u57 u58 u59 u60 u61 u62 u63 u64 u65 u66 u67 u68 u69 u70 u71 u72 u73 u74 u75 u76 u77 u78 u79 u80 u81 u82 u83 u84 u85 u86 u87 u88 u89 u90 u91 u92 u93 u94 u95 u96 u97 u98 u99 u100 u101 u102 u103 u104 u105 u106 u107 u108 u109 u110 u111 u112 u113 u114 u115 u116 u117 u118 u119 u120 u121 u122 u123 u124 u125 u126 u127 u128 u129 u130 u131 u132 u133 u134 u135 u136 u137 u138 u139 u140 u141 u142 u143 u144 u145 u146 u147 u148 u149 u150 u151 u152 u153 u154 u155 u156 u157 u158 u159 u160 u161 u162 u163 u164 u165 u166 u167 u168 u169 u170 u171 u172 u173 u174 u175 u176 u177 u178 u179 u180 u181 u182 u183 u184 u185 u186 u187 u188 u189 u190 u191 u192 u193 u194 u195 u196 u197 u198 u199 u200 u201 u202 u203 u204 u205 u206 u207 u208 u209 u210 u211 u212 u213 u214 u215 u216 u217 u218 u219 u220 u221 u222 u223 u224 u225 u226 u227 u228 u229 u230 u231 u232 u233 u234 u235 u236 u237 u238 u239 u240 u241 u242 u243 u244 u245 u246 u247 u248 u249 u250 u251 u252 u253 u254 u255 u256 u257 u258 u259 u260 u261 u262 u263 u264 u265 u266 u267 u268 u269 u270 u271 u272 u273 u274 u275 u276 u277 u278 u279 u280 u281 u282 u283 u284 u285 u286 u287 u288 u289 u290 u291 u292 u293 u294 u295 : Value) :
    Code.wp Yba.prog (dropSeq 19 (Yba.f4.body.getD .skip)) (bodyPost Yba.prog Yba.f4 fun e w' => e = .returned (.bool true) ∧ R w') ⟨#[.slice a0 len0 cap0, .slice a1 len1 cap1, u2, u3, .int .u16 kk, .slice a5 k cap5, u6, u7, u8, u9, u10, u11, u12, .int .i64 (n : Int), u14, u15, .int .i64 (f : Int), .int .i64 (wn : Int), u18, u19, u20, .pointer (some ⟨b, 0, none⟩), .pointer (some ⟨pb, 0, none⟩), .int .i64 (L : Int), u24, u25, u26, u27, u28, u29, u30, u31, u32, u33, u34, u35, u36, u37, u38, u39, u40, u41, u42, u43, u44, u45, u46, u47, u48, u49, u50, u51, u52, u53, u54, u55, u56, u57, u58, u59, u60, u61, u62, u63, u64, u65, u66, u67, u68, u69, u70, u71, u72, u73, u74, u75, u76, u77, u78, u79, u80, u81, u82, u83, u84, u85, u86, u87, u88, u89, u90, u91, u92, u93, u94, u95, u96, u97, u98, u99, u100, u101, u102, u103, u104, u105, u106, u107, u108, u109, u110, u111, u112, u113, u114, u115, u116, u117, u118, u119, u120, u121, u122, u123, u124, u125, u126, u127, u128, u129, u130, u131, u132, u133, u134, u135, u136, u137, u138, u139, u140, u141, u142, u143, u144, u145, u146, u147, u148, u149, u150, u151, u152, u153, u154, u155, u156, u157, u158, u159, u160, u161, u162, u163, u164, u165, u166, u167, u168, u169, u170, u171, u172, u173, u174, u175, u176, u177, u178, u179, u180, u181, u182, u183, u184, u185, u186, u187, u188, u189, u190, u191, u192, u193, u194, u195, u196, u197, u198, u199, u200, u201, u202, u203, u204, u205, u206, u207, u208, u209, u210, u211, u212, u213, u214, u215, u216, u217, u218, u219, u220, u221, u222, u223, u224, u225, u226, u227, u228, u229, u230, u231, u232, u233, u234, u235, u236, u237, u238, u239, u240, u241, u242, u243, u244, u245, u246, u247, u248, u249, u250, u251, u252, u253, u254, u255, u256, u257, u258, u259, u260, u261, u262, u263, u264, u265, u266, u267, u268, u269, u270, u271, u272, u273, u274, u275, u276, u277, u278, u279, u280, u281, u282, u283, u284, u285, u286, u287, u288, u289, u290, u291, u292, u293, u294, u295], []⟩ W := by
  have H5 : Hid ((0 < k → a5 = some ⟨b5, o5, none⟩ ∧ aa = some ⟨ga, 0, none⟩) ∧ ∀ j, j < k → W.cell? ⟨b5, o5 + j, none⟩ = some (.int .i64 (z5 j)) ∧ W.cell? ⟨ga, j * 4, none⟩ = some (.int .i64 (z5 j))) := ⟨h5, hc5⟩
  have H0 : Hid ((0 < len0 → a0 = some ⟨b0, o0, none⟩) ∧ ∀ j, j < len0 → W.cell? ⟨b0, o0 + j, none⟩ = some (.int .u8 (z0 j))) := ⟨h0, hc0⟩
  have H1 : Hid ((0 < len1 → a1 = some ⟨b1, o1, none⟩) ∧ ∀ j, j < len1 → W.cell? ⟨b1, o1 + j, none⟩ = some (.int .u8 (z1 j))) := ⟨h1, hc1⟩
  have HR1 : Hid (∀ j, j < L → W.cell? ⟨g1, ov + j, none⟩ = some (.int .u8 (if f + j < n then z0 (f + j) else 0))) := hr1
  have HR2 : Hid (∀ j, j < L → W.cell? ⟨g2, ov + j, none⟩ = some (.int .u8 (if f + j < n then z1 (f + j) else 0))) := hr2
  have HR : Hid (∀ q, R (W.drewN q)) := hR
  clear h5 hc5 hR h0 h1 hc0 hc1 hr1 hr2
  rw [lawRest19]
  conv => arg 2; arg 1; whnf
  go_wp2_with fail
  go_loopw [24] (fun i wx => ∃ j : Nat, j ≤ L ∧ i = .int .i64 j ∧ ∃ q, wx = W.drewN q) (fun i _ => L - (intOf i).toNat)
  case atStart => exact ⟨0, Nat.zero_le _, rfl, 0, rfl⟩
  case round =>
    obtain ⟨j, hj, rfl, q, rfl⟩ := hrel
    by_cases hjL : j < L
    · have r1 := HR1.out j hjL
      have r2 := HR2.out j hjL
      have tb1 : (0 : Int) ≤ (j : Int) := by omega
      have tb2 : (j : Int) < (L : Int) := by omega
      by_cases hjn : f + j < n
      · rw [if_pos hjn] at r1 r2
        have hx0 := H0.out.1 (by omega)
        have hx1 := H1.out.1 (by omega)
        subst hx0
        subst hx1
        have q0 := H0.out.2 (f + j) (by omega)
        have q1 := H1.out.2 (f + j) (by omega)
        have tb3 : (f : Int) + (j : Int) < (len0 : Int) := by omega
        have tb4 : (f : Int) + (j : Int) < (len1 : Int) := by omega
        have tb5 : (j : Int) < (n : Int) - (f : Int) := by omega
        go_wp2_with fail
        go_quiet (fail)
        go_wp2_with fail
        go_roundw
        case rel => exact ⟨j + 1, by omega, by go_num, _, rfl⟩
        case measure => simp [intOf]; omega
      · rw [if_neg hjn] at r1 r2
        have tb5 : decide ((j : Int) < (n : Int) - (f : Int)) = false := by simp; omega
        go_wp2_with fail
        go_roundw
        case rel => exact ⟨j + 1, by omega, by go_num, _, rfl⟩
        case measure => simp [intOf]; omega
    · have e3 : decide ((j : Int) < (L : Int)) = false := by simp; omega
      go_wp2_with fail
      exact cut_tail3 R (W.drewN q) (fun q' => by rw [World.drewN_drewN]; exact HR.out _) a5 aa b pb b5 o5 ga k cap5 ca n wn cv cm kk av am z5 hk hn hwn hk0 hk1 x9 x10 x11 x12 x13 x14 x15 x19 x20 x21 x22 y2 H5.out.1 H5.out.2 _ _ _ _ _ _ _ _ _ _ _ _ _ _ _ _ _ _ _ _ _ _ _ _ _ _ _ _ _ _ _ _ _ _ _ _ _ _ _ _ _ _ _ _ _ _ _ _ _ _ _ _ _ _ _ _ _ _ _ _ _ _ _ _ _ _ _ _ _ _ _ _ _ _ _ _ _ _ _ _ _ _ _ _ _ _ _ _ _ _ _ _ _ _ _ _ _ _ _ _ _ _ _ _ _ _ _ _ _ _ _ _ _ _ _ _ _ _ _ _ _ _ _ _ _ _ _ _ _ _ _ _ _ _ _ _ _ _ _ _ _ _ _ _ _ _ _ _ _ _ _ _ _ _ _ _ _ _ _ _ _ _ _ _ _ _ _ _ _ _ _ _ _ _ _ _ _ _ _ _ _ _ _ _ _ _ _ _ _ _ _ _ _ _ _ _ _ _ _ _ _ _ _ _ _ _ _ _ _ _ _ _ _ _ _ _ _ _ _ _ _ _ _ _ _ _ _ _ _ _ _ _ _ _ _ _ _ _ _ _ _ _ _ _ _ _ _ _ _ _ _ _ _ _ _ _ _ _ _ _ _ _ _ _ _ _ _ _ _ _ _ _ _ _ _ _ _ _ _ _ _ _ _ _ _ _ _ _ _ _

end Go.Proofs.Ybulkoqc
