/- LawS0756BCut: the law's text from a given statement on, as declarations of their own. Own work over this program's translation. -/
import Derived.Test.YbulkoqcEndCut
import Derived.Deep.QuietTactic
import Derived.BigQuiet
import Derived.WalkSpells
namespace Go.Proofs.Ybulkoqc
open Go.RowKit
set_option linter.unusedVariables false

/-- A sequence behind its first n statements. -/
def dropSeq : Nat → Code → Code
  | 0, c => c
  | n + 1, .seq _ b => dropSeq n b
  | _ + 1, c => c

set_option maxRecDepth 100000 in
set_option maxHeartbeats 4000000 in
theorem cut_tail3 (R : World → Prop) (W : World) (hR : ∀ q, R (W.drewN q)) (a5 aa : Option Addr) (b pb b5 o5 ga k cap5 ca n wn cv cm : Nat) (kk : Int) (av am : Option Addr) (z5 : Nat → Int)
    (hk : k ≤ 256) (hn : n ≤ 1024) (hwn : wn < 40) (hk0 : 0 ≤ kk) (hk1 : kk ≤ 65535)
    (x9 : W.cell? ⟨b, 9, none⟩ = some (.slice none 0 0)) (x10 : W.cell? ⟨b, 10, none⟩ = some (.int .i64 (kk + 1))) (x11 : W.cell? ⟨b, 11, none⟩ = some (.int .i64 0))
    (x12 : W.cell? ⟨b, 12, none⟩ = some (.bool false)) (x13 : W.cell? ⟨b, 13, none⟩ = some (.int .i64 0)) (x14 : W.cell? ⟨b, 14, none⟩ = some (.int .i64 0)) (x15 : W.cell? ⟨b, 15, none⟩ = some (.int .i64 0))
    (x19 : W.cell? ⟨b, 19, none⟩ = some (.slice av (n + wn) cv)) (x20 : W.cell? ⟨b, 20, none⟩ = some (.slice am (n + wn) cm))
    (x21 : W.cell? ⟨b, 21, none⟩ = some (.int .i64 ((n + wn : Nat) : Int))) (x22 : W.cell? ⟨b, 22, none⟩ = some (.slice none 0 0))
    (y2 : W.cell? ⟨pb, 2, none⟩ = some (.slice aa k ca))
    (h5 : 0 < k → a5 = some ⟨b5, o5, none⟩ ∧ aa = some ⟨ga, 0, none⟩)
    (hc5 : ∀ j, j < k → W.cell? ⟨b5, o5 + j, none⟩ = some (.int .i64 (z5 j)) ∧ W.cell? ⟨ga, j * 4, none⟩ = some (.int .i64 (z5 j)))
    (u0 u1 u2 u3 u6 u7 u8 u9 u10 u11 u12 u14 u15 u16 u18 u19 u20 u23 u24 u25 u26 u27 u28 u29 u30 u31 u32 u33 u34 u35 u36 u37 u38 u39 u40 u41 u42 u43 u44 u45 u46 u47 u48 u49 u50 u51 u52 u53 u54 u55 u56 u57 u58 u59 u60 u61 u62 u63 u64 u65 u66 u67 u68 u69 u70 u71 u72 u73 u74 u75 u76 u77 u78 u79 u80 u81 u82 u83 u84 u85 u86 u87 u88 u89 u90 u91 u92 u93 u94 u95 u96 u97 u98 u99 u100 u101 u102 u103 u104 u105 u106 u107 u108 u109 u110 u111 u112 u113 u114 u115 u116 u117 u118 u119 u120 u121 u122 u123 u124 u125 u126 u127 u128 u129 u130 u131 u132 u133 u134 u135 u136 u137 u138 u139 u140 u141 u142 u143 u144 u145 u146 u147 u148 u149 u150 u151 u152 u153 u154 u155 u156 u157 u158 u159 u160 u161 u162 u163 u164 u165 u166 u167 u168 u169 u170 u171 u172 u173 u174 u175 u176 u177 u178 u179 u180 u181 u182 u183 u184 u185 u186 u187 u188 u189 u190 u191 u192 u193 u194 u195 u196 u197 u198 u199 u200 u201 u202 u203 u204 u205 u206 u207 u208 u209 u210 u211 u212 u213 u214 u215 u216 u217 u218 u219 u220 u221 u222 u223 u224 u225 u226 u227 u228 u229 u230 u231 u232 u233 u234 u235 u236 u237 u238 u239 u240 u241 u242 u243 u244 u245 u246 u247 u248 u249 u250 u251 u252 u253 u254 u255 u256 u257 u258 u259 u260 u261 u262 u263 u264 u265 u266 u267 u268 u269 u270 u271 u272 u273 u274 u275 u276 u277 u278 u279 u280 u281 u282 u283 u284 u285 u286 u287 u288 u289 u290 u291 u292 u293 u294 u295 : Value) :
    Code.wp Yba.prog (dropSeq 20 (Yba.f4.body.getD .skip)) (bodyPost Yba.prog Yba.f4 fun e w' => e = .returned (.bool true) ∧ R w') ⟨#[u0, u1, u2, u3, .int .u16 kk, .slice a5 k cap5, u6, u7, u8, u9, u10, u11, u12, .int .i64 (n : Int), u14, u15, u16, .int .i64 (wn : Int), u18, u19, u20, .pointer (some ⟨b, 0, none⟩), .pointer (some ⟨pb, 0, none⟩), u23, u24, u25, u26, u27, u28, u29, u30, u31, u32, u33, u34, u35, u36, u37, u38, u39, u40, u41, u42, u43, u44, u45, u46, u47, u48, u49, u50, u51, u52, u53, u54, u55, u56, u57, u58, u59, u60, u61, u62, u63, u64, u65, u66, u67, u68, u69, u70, u71, u72, u73, u74, u75, u76, u77, u78, u79, u80, u81, u82, u83, u84, u85, u86, u87, u88, u89, u90, u91, u92, u93, u94, u95, u96, u97, u98, u99, u100, u101, u102, u103, u104, u105, u106, u107, u108, u109, u110, u111, u112, u113, u114, u115, u116, u117, u118, u119, u120, u121, u122, u123, u124, u125, u126, u127, u128, u129, u130, u131, u132, u133, u134, u135, u136, u137, u138, u139, u140, u141, u142, u143, u144, u145, u146, u147, u148, u149, u150, u151, u152, u153, u154, u155, u156, u157, u158, u159, u160, u161, u162, u163, u164, u165, u166, u167, u168, u169, u170, u171, u172, u173, u174, u175, u176, u177, u178, u179, u180, u181, u182, u183, u184, u185, u186, u187, u188, u189, u190, u191, u192, u193, u194, u195, u196, u197, u198, u199, u200, u201, u202, u203, u204, u205, u206, u207, u208, u209, u210, u211, u212, u213, u214, u215, u216, u217, u218, u219, u220, u221, u222, u223, u224, u225, u226, u227, u228, u229, u230, u231, u232, u233, u234, u235, u236, u237, u238, u239, u240, u241, u242, u243, u244, u245, u246, u247, u248, u249, u250, u251, u252, u253, u254, u255, u256, u257, u258, u259, u260, u261, u262, u263, u264, u265, u266, u267, u268, u269, u270, u271, u272, u273, u274, u275, u276, u277, u278, u279, u280, u281, u282, u283, u284, u285, u286, u287, u288, u289, u290, u291, u292, u293, u294, u295], []⟩ W := by
  have H5 : Hid ((0 < k → a5 = some ⟨b5, o5, none⟩ ∧ aa = some ⟨ga, 0, none⟩) ∧ ∀ j, j < k → W.cell? ⟨b5, o5 + j, none⟩ = some (.int .i64 (z5 j)) ∧ W.cell? ⟨ga, j * 4, none⟩ = some (.int .i64 (z5 j))) := ⟨h5, hc5⟩
  have HR : Hid (∀ q, R (W.drewN q)) := hR
  clear h5 hc5 hR
  conv => arg 2; whnf
  go_wp2_with fail
  go_loopw [25] (fun i wx => ∃ j : Nat, j ≤ k ∧ i = .int .i64 j ∧ ∃ q, wx = W.drewN q) (fun i _ => k - (intOf i).toNat)
  case atStart => exact ⟨0, Nat.zero_le _, rfl, 0, rfl⟩
  case round =>
    obtain ⟨i, hi, rfl, q', rfl⟩ := hrel
    by_cases hik : i < k
    · obtain ⟨hx5, hga1⟩ := H5.out.1 (by omega)
      obtain ⟨rb, ra⟩ := H5.out.2 i hik
      subst hx5
      subst hga1
      have tb1 : (0 : Int) ≤ (i : Int) := by omega
      have tb2 : (i : Int) < (k : Int) := by omega
      go_wp2_with fail
      go_quiet (fail)
      go_wp2_with fail
      go_roundw
      case rel => exact ⟨i + 1, by omega, by go_num, _, rfl⟩
      case measure => simp [intOf]; omega
    · have e4 : decide ((i : Int) < (k : Int)) = false := by simp; omega
      have q33 : ∀ (w : World) (a : Option Addr) (n c n' c' : Nat), (binOp .eql 33 (.slice a n c) (.slice none n' c')).run Yba.prog w = .ok (.bool a.isNone) w := fun w a n c n' c' => Lib.run_eql_slice_nil w _ _ a n c n' c' Yba.underlying33
      have q23 : ∀ (w : World) (a : Option Addr) (n c n' c' : Nat), (binOp .eql 23 (.slice a n c) (.slice none n' c')).run Yba.prog w = .ok (.bool a.isNone) w := fun w a n c n' c' => Lib.run_eql_slice_nil w _ _ a n c n' c' Yba.underlying23
      go_wp2_with fail
      go_ret
      exact ⟨rfl, HR.out _⟩

end Go.Proofs.Ybulkoqc
