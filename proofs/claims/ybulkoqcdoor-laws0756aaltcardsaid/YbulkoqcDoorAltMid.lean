/- LawS0756AAlt from the two parts on. Own work over this program's translation. -/
import Derived.Test.YbulkoqcDoorAltForm
namespace Go.Proofs.YbulkoqcDoor
open Go.RowKit
set_option linter.unusedVariables false

set_option maxRecDepth 100000 in
set_option maxHeartbeats 4000000 in
theorem alt_mid (R : World → Prop) (W : World) (a0 : Option Addr) (b0 o0 len0 cap0 : Nat) (a1 : Option Addr) (b1 o1 len1 cap1 al mmb cnt cmm ml tb ct : Nat) (neg nc : Bool) (xb cx : Nat → Nat) (X : Nat → Nat → Nat) (zp zq : Nat → Nat) (seed : Nat)
    (hR : ∀ w', Kept [] W w' → R w') (hsd : seed < 18446744073709551616) (hl0 : len0 ≤ 256) (hl1 : len1 ≤ 256) (hml : 0 < ml ∧ ml ≤ 4) (hcn : 0 < cnt ∧ cnt ≤ 3)
    (hI0 : (0 < len0 → a0 = some ⟨b0, o0, none⟩ ∧ b0 < W.heap.size) ∧ (∀ j, j < len0 → W.cell? ⟨b0, o0 + j, none⟩ = some (.int .u16 (zp j))) ∧ (∀ j, zp j < 65536)) (hI1 : (0 < len1 → a1 = some ⟨b1, o1, none⟩ ∧ b1 < W.heap.size) ∧ (∀ j, j < len1 → W.cell? ⟨b1, o1 + j, none⟩ = some (.int .u16 (zq j))) ∧ (∀ j, zq j < 65536))
    (hal : W.heap[al]? = some (.cells #[.int .i64 len0, .slice (some ⟨mmb, 0, none⟩) cnt cmm, .bool neg, .bool nc] 49 (0, 0))) (hmem : (∀ j, j < cnt → W.cell? ⟨mmb, j, none⟩ = some (.slice (some ⟨xb j, 0, none⟩) ml (cx j)) ∧ xb j < W.heap.size) ∧ (∀ j, j < cnt → ∀ i, i < ml → W.cell? ⟨xb j, i, none⟩ = some (.int .u8 (X j i)) ∧ X j i < 256) ∧ mmb < W.heap.size ∧ (∀ j, j < cnt → W.cell? ⟨tb, j, none⟩ = some (.slice (some ⟨xb j, 0, none⟩) ml (cx j))) ∧ tb < W.heap.size ∧ FullVar W ∧ 1 < W.heap.size)
    (u2 u3 u4 u8 u9 u10 u11 u12 u13 u14 u15 u16 u21 u22 u23 u24 u25 u26 u27 u28 u29 u30 u31 u32 u33 u34 u35 u36 u37 u38 u39 u40 u41 u42 u43 u44 u45 u46 u47 u48 u49 u50 u51 u52 u53 u54 u55 u56 u57 u58 u59 u60 u61 u62 u63 u64 u65 u66 u67 u68 u69 u70 u71 u72 u73 u74 u75 u76 u77 u78 u79 u80 u81 u82 u83 u84 u85 u86 u87 u88 u89 u90 u91 u92 u93 u94 u95 u96 u97 u98 u99 u100 u101 u102 u103 u104 u105 u106 u107 u108 u109 u110 u111 u112 u113 u114 u115 u116 u117 u118 u119 u120 u121 u122 u123 u124 u125 u126 u127 u128 u129 u130 u131 u132 u133 u134 u135 u136 u137 u138 u139 u140 u141 u142 u143 u144 u145 u146 u147 u148 u149 u150 u151 u152 u153 u154 u155 u156 u157 u158 u159 u160 u161 u162 u163 u164 u165 u166 u167 u168 u169 u170 u171 u172 u173 u174 u175 u176 u177 u178 u179 u180 u181 u182 u183 u184 u185 u186 u187 u188 u189 u190 u191 u192 u193 u194 u195 u196 u197 u198 u199 u200 u201 u202 u203 u204 u205 u206 u207 u208 u209 u210 u211 u212 u213 u214 u215 u216 u217 u218 u219 u220 u221 u222 u223 u224 u225 u226 u227 u228 u229 u230 u231 u232 u233 u234 u235 u236 u237 u238 u239 u240 u241 u242 u243 u244 u245 u246 u247 u248 u249 u250 u251 u252 u253 u254 u255 u256 u257 u258 u259 u260 u261 u262 u263 u264 u265 u266 u267 u268 u269 u270 u271 u272 u273 u274 u275 u276 u277 u278 u279 u280 u281 u282 u283 u284 u285 u286 u287 u288 u289 u290 u291 u292 u293 : Value) :
    Code.wp Ybad.prog (dropSeq 10 (Ybad.f4.body.getD .skip)) (bodyPost Ybad.prog Ybad.f4 fun e w' => e = .returned (.bool true) ∧ R w') ⟨#[.slice a0 len0 cap0, .slice a1 len1 cap1, u2, u3, u4, .bool nc, .bool neg, .int .u64 seed, u8, u9, u10, u11, u12, u13, u14, u15, u16, .int .i64 ml, .int .i64 cnt, .pointer (some ⟨al, 0, none⟩), .slice (some ⟨tb, 0, none⟩) cnt ct, u21, u22, u23, u24, u25, u26, u27, u28, u29, u30, u31, u32, u33, u34, u35, u36, u37, u38, u39, u40, u41, u42, u43, u44, u45, u46, u47, u48, u49, u50, u51, u52, u53, u54, u55, u56, u57, u58, u59, u60, u61, u62, u63, u64, u65, u66, u67, u68, u69, u70, u71, u72, u73, u74, u75, u76, u77, u78, u79, u80, u81, u82, u83, u84, u85, u86, u87, u88, u89, u90, u91, u92, u93, u94, u95, u96, u97, u98, u99, u100, u101, u102, u103, u104, u105, u106, u107, u108, u109, u110, u111, u112, u113, u114, u115, u116, u117, u118, u119, u120, u121, u122, u123, u124, u125, u126, u127, u128, u129, u130, u131, u132, u133, u134, u135, u136, u137, u138, u139, u140, u141, u142, u143, u144, u145, u146, u147, u148, u149, u150, u151, u152, u153, u154, u155, u156, u157, u158, u159, u160, u161, u162, u163, u164, u165, u166, u167, u168, u169, u170, u171, u172, u173, u174, u175, u176, u177, u178, u179, u180, u181, u182, u183, u184, u185, u186, u187, u188, u189, u190, u191, u192, u193, u194, u195, u196, u197, u198, u199, u200, u201, u202, u203, u204, u205, u206, u207, u208, u209, u210, u211, u212, u213, u214, u215, u216, u217, u218, u219, u220, u221, u222, u223, u224, u225, u226, u227, u228, u229, u230, u231, u232, u233, u234, u235, u236, u237, u238, u239, u240, u241, u242, u243, u244, u245, u246, u247, u248, u249, u250, u251, u252, u253, u254, u255, u256, u257, u258, u259, u260, u261, u262, u263, u264, u265, u266, u267, u268, u269, u270, u271, u272, u273, u274, u275, u276, u277, u278, u279, u280, u281, u282, u283, u284, u285, u286, u287, u288, u289, u290, u291, u292, u293], []⟩ W := by
  obtain ⟨i5, hi5, hz0, hz1, hz2⟩ := info_parts Ybad.info5
  have H0 : Hid (W.heap[al]? = some (.cells #[.int .i64 len0, .slice (some ⟨mmb, 0, none⟩) cnt cmm, .bool neg, .bool nc] 49 (0, 0)) ∧ (∀ j, j < cnt → W.cell? ⟨mmb, j, none⟩ = some (.slice (some ⟨xb j, 0, none⟩) ml (cx j)) ∧ xb j < W.heap.size) ∧ (∀ j, j < cnt → ∀ i, i < ml → W.cell? ⟨xb j, i, none⟩ = some (.int .u8 (X j i)) ∧ X j i < 256) ∧ mmb < W.heap.size ∧ (∀ j, j < cnt → W.cell? ⟨tb, j, none⟩ = some (.slice (some ⟨xb j, 0, none⟩) ml (cx j))) ∧ tb < W.heap.size ∧ FullVar W ∧ 1 < W.heap.size) := ⟨hal, hmem⟩
  have HI : Hid (((0 < len0 → a0 = some ⟨b0, o0, none⟩ ∧ b0 < W.heap.size) ∧ (∀ j, j < len0 → W.cell? ⟨b0, o0 + j, none⟩ = some (.int .u16 (zp j))) ∧ (∀ j, zp j < 65536)) ∧ ((0 < len1 → a1 = some ⟨b1, o1, none⟩ ∧ b1 < W.heap.size) ∧ (∀ j, j < len1 → W.cell? ⟨b1, o1 + j, none⟩ = some (.int .u16 (zq j))) ∧ (∀ j, zq j < 65536)) ∧ ∀ w', Kept [] W w' → R w') := ⟨hI0, hI1, hR⟩
  obtain ⟨n, HN⟩ : ∃ n, Hid (n = len0 + ml + len1) := ⟨_, rfl⟩
  have hn : (len0 : Int) + (ml : Int) + (len1 : Int) = (n : Int) := by have := HN.out; omega
  have hn2 : n ≤ 516 := by have := HN.out; omega
  clear hal hmem hI0 hI1 hR
  rw [altRest10]
  conv => arg 2; arg 1; whnf
  go_wp2_with fail
  refine (part_any a0 b0 o0 len0 cap0 zp W hl0 HI.out.1.2.2 HI.out.1.1 HI.out.1.2.1).mono ?_
  rintro e w1 ⟨g1, m1, rfl, p1, p2, p3, p4, p5, s1⟩
  have K1 : Hid (Kept [] W w1 ∧ W.heap.size ≤ g1 ∧ W.heap.size ≤ m1 ∧ g1 ≠ m1 ∧ IsRow8 w1 g1 (pv zp) len0 len0 ∧ IsRow8 w1 m1 (pm zp) len0 len0) := ⟨keptOf s1, p1, p2, p3, p4, p5⟩
  clear p1 p2 p3 p4 p5 s1
  go_wp2_with fail
  refine forgetW (A := fun w2 => Kept [] W w2 ∧ W.heap.size ≤ w1.heap.size ∧ w1.heap.size < w2.heap.size ∧ w2.heap[w1.heap.size]? = some (.cells #[.slice (some ⟨g1, 0, none⟩) len0 len0, .slice (some ⟨m1, 0, none⟩) len0 len0, .slice none 0 0] 31 (0, 0)) ∧ IsRow8 w2 g1 (pv zp) len0 len0 ∧ IsRow8 w2 m1 (pm zp) len0 len0) ⟨K1.out.1.alloc _, K1.out.1.size, by simp, heap_alloc_new w1 _, K1.out.2.2.2.2.1.block (Below.heap_alloc _ _ _ K1.out.2.2.2.2.1.lt), K1.out.2.2.2.2.2.block (Below.heap_alloc _ _ _ K1.out.2.2.2.2.2.lt)⟩ ?_
  rintro w2 ⟨k0, k1, k2, k3, k4, k5⟩
  obtain ⟨q1, hq1⟩ : ∃ q, w1.heap.size = q := ⟨_, rfl⟩
  rw [hq1] at k1 k2 k3 ⊢
  have K2 : Hid (Kept [] W w2 ∧ W.heap.size ≤ q1 ∧ w2.heap[q1]? = some (.cells #[.slice (some ⟨g1, 0, none⟩) len0 len0, .slice (some ⟨m1, 0, none⟩) len0 len0, .slice none 0 0] 31 (0, 0)) ∧ IsRow8 w2 g1 (pv zp) len0 len0 ∧ IsRow8 w2 m1 (pm zp) len0 len0) := ⟨k0, k1, k3, k4, k5⟩
  clear k0 k1 k2 k3 k4 k5 hq1 K1
  conv => arg 2; whnf
  go_wp2_with fail
  refine (part_any a1 b1 o1 len1 cap1 zq w2 hl1 HI.out.2.1.2.2 (fun h => ⟨(HI.out.2.1.1 h).1, Nat.lt_of_lt_of_le (HI.out.2.1.1 h).2 K2.out.1.size⟩) (fun j hj => (K2.out.1.cell (p := ⟨b1, o1 + j, none⟩) (HI.out.2.1.1 (by omega)).2 (by simp)).trans (HI.out.2.1.2.1 j hj))).mono ?_
  rintro e w3 ⟨g2, m2, rfl, p1, p2, p3, p4, p5, s1⟩
  have K3 : Hid (Below w2.heap.size w2 w3 ∧ w2.heap.size ≤ g2 ∧ w2.heap.size ≤ m2 ∧ g2 ≠ m2 ∧ IsRow8 w3 g2 (pv zq) len1 len1 ∧ IsRow8 w3 m2 (pm zq) len1 len1) := ⟨s1, p1, p2, p3, p4, p5⟩
  clear p1 p2 p3 p4 p5 s1
  go_wp2_with fail
  obtain ⟨q2, hq2⟩ : ∃ q, w3.heap.size = q := ⟨_, rfl⟩
  refine forgetW (A := fun w4 => Kept [] W w4 ∧ w4.heap[q1]? = some (.cells #[.slice (some ⟨g1, 0, none⟩) len0 len0, .slice (some ⟨m1, 0, none⟩) len0 len0, .slice none 0 0] 31 (0, 0)) ∧ w4.heap[w3.heap.size]? = some (.cells #[.slice (some ⟨g2, 0, none⟩) len1 len1, .slice (some ⟨m2, 0, none⟩) len1 len1, .slice none 0 0] 31 (0, 0)) ∧ IsRow8 w4 g1 (pv zp) len0 len0 ∧ IsRow8 w4 m1 (pm zp) len0 len0 ∧ IsRow8 w4 g2 (pv zq) len1 len1 ∧ IsRow8 w4 m2 (pm zq) len1 len1) ⟨(K2.out.1.trans (keptOf K3.out.1) (by simp)).alloc _, ?_, heap_alloc_new w3 _, ?_, ?_, K3.out.2.2.2.2.1.block (Below.heap_alloc _ _ _ K3.out.2.2.2.2.1.lt), K3.out.2.2.2.2.2.block (Below.heap_alloc _ _ _ K3.out.2.2.2.2.2.lt)⟩ ?_
  · have l := lt_of_block K2.out.2.2.1
    exact (Below.heap_alloc w3 _ q1 (Nat.lt_of_lt_of_le l K3.out.1.size)).trans ((K3.out.1.block q1 l).trans K2.out.2.2.1)
  · have l := K2.out.2.2.2.1.lt
    exact K2.out.2.2.2.1.block ((Below.heap_alloc w3 _ g1 (Nat.lt_of_lt_of_le l K3.out.1.size)).trans (K3.out.1.block g1 l))
  · have l := K2.out.2.2.2.2.lt
    exact K2.out.2.2.2.2.block ((Below.heap_alloc w3 _ m1 (Nat.lt_of_lt_of_le l K3.out.1.size)).trans (K3.out.1.block m1 l))
  rw [hq2]
  rintro w4 hw4
  have K4 : Hid (Kept [] W w4 ∧ w4.heap[q1]? = some (.cells #[.slice (some ⟨g1, 0, none⟩) len0 len0, .slice (some ⟨m1, 0, none⟩) len0 len0, .slice none 0 0] 31 (0, 0)) ∧ w4.heap[q2]? = some (.cells #[.slice (some ⟨g2, 0, none⟩) len1 len1, .slice (some ⟨m2, 0, none⟩) len1 len1, .slice none 0 0] 31 (0, 0)) ∧ IsRow8 w4 g1 (pv zp) len0 len0 ∧ IsRow8 w4 m1 (pm zp) len0 len0 ∧ IsRow8 w4 g2 (pv zq) len1 len1 ∧ IsRow8 w4 m2 (pm zq) len1 len1) := hw4
  clear hw4 hq2 K3 K2
  conv => arg 2; whnf
  go_wp2_with fail
  conv => arg 2; whnf
  go_wp2_with (at_make; refine wpList_make_own _ rfl _ _ 23 rfl W.heap.size 5 i5 (.int .u8 0) 1 Ybad.underlying23 hi5 hz0 hz1 _ _ _ n rfl rfl rfl ?m1 ?m2 ?m3 ?_)
  case m1 => rw [hz2]; omega
  case m2 => unfold maxLen; omega
  case m3 => exact K4.out.1.size
  intro w5 hown5 hgrow5
  have st5 : ∀ b, b < w4.heap.size → w5.heap[b]? = w4.heap[b]? := fun b hb => hgrow5.block b hb (by simp)
  have K5 : Hid ((Kept [] W w5 ∧ w5.heap[q1]? = some (.cells #[.slice (some ⟨g1, 0, none⟩) len0 len0, .slice (some ⟨m1, 0, none⟩) len0 len0, .slice none 0 0] 31 (0, 0)) ∧ w5.heap[q2]? = some (.cells #[.slice (some ⟨g2, 0, none⟩) len1 len1, .slice (some ⟨m2, 0, none⟩) len1 len1, .slice none 0 0] 31 (0, 0)) ∧ IsRow8 w5 g1 (pv zp) len0 len0 ∧ IsRow8 w5 m1 (pm zp) len0 len0 ∧ IsRow8 w5 g2 (pv zq) len1 len1 ∧ IsRow8 w5 m2 (pm zq) len1 len1) ∧ w5.ownsRow W.heap.size 5 1 (.slice (some ⟨w4.heap.size, 0, none⟩) 0 n) 0 [] ∧ w4.heap.size < w5.heap.size) := by
    obtain ⟨f0, f1, f2, f3, f4, f5, f6⟩ := K4.out
    exact ⟨⟨f0.grown hgrow5 (fun k hk => by cases hk), (st5 _ (lt_of_block f1)).trans f1, (st5 _ (lt_of_block f2)).trans f2, f3.block (st5 _ f3.lt), f4.block (st5 _ f4.lt), f5.block (st5 _ f5.lt), f6.block (st5 _ f6.lt)⟩, hown5, (hown5.lt _ rfl).2⟩
  clear hown5 hgrow5 st5
  go_wp2_with fail
  conv => arg 2; whnf
  go_wp2_with (at_make; refine wpList_make_own _ rfl _ _ 23 rfl W.heap.size 5 i5 (.int .u8 0) 1 Ybad.underlying23 hi5 hz0 hz1 _ _ _ n rfl rfl rfl ?m1 ?m2 ?m3 ?_)
  case m1 => rw [hz2]; omega
  case m2 => unfold maxLen; omega
  case m3 => exact K5.out.1.1.size
  intro w6 hown6 hgrow6
  have st6 : ∀ b, b < w5.heap.size → w6.heap[b]? = w5.heap[b]? := fun b hb => hgrow6.block b hb (by simp)
  obtain ⟨V, hV⟩ : ∃ V, V = altV (pv zp) (pv zq) len0 ml := ⟨_, rfl⟩
  obtain ⟨M, hM⟩ : ∃ M, M = altV (pm zp) (pm zq) len0 ml := ⟨_, rfl⟩
  have HV : Hid ((∀ j, j < len0 → V j = pv zp j ∧ M j = pm zp j) ∧ (∀ j, j < ml → V (len0 + j) = 0 ∧ M (len0 + j) = 0) ∧ (∀ j, V (len0 + ml + j) = pv zq j ∧ M (len0 + ml + j) = pm zq j)) := by
    subst hV hM
    exact ⟨fun j hj => ⟨altV_pre hj, altV_pre hj⟩, fun j hj => ⟨altV_mid hj, altV_mid hj⟩, fun j => ⟨altV_post, altV_post⟩⟩
  obtain ⟨vb, hvb⟩ : ∃ vb, w4.heap.size = vb := ⟨_, rfl⟩
  obtain ⟨mb, hmb⟩ : ∃ mb, w5.heap.size = mb := ⟨_, rfl⟩
  have K6 : Hid (Mid W w6 q1 q2 g1 m1 g2 m2 vb mb zp zq len0 len1 n V M 0 0) := by
    obtain ⟨⟨f0, f1, f2, f3, f4, f5, f6⟩, ho, hlt⟩ := K5.out
    obtain ⟨e0, e1, e2, e3, e4, e5, e6⟩ := K4.out
    have l1 := lt_of_block e1
    have l2 := lt_of_block e2
    have l3 := e3.lt
    have l4 := e4.lt
    have l5 := e5.lt
    have l6 := e6.lt
    have z0 := e0.size
    have z1 := f0.size
    rw [hvb] at ho
    exact ⟨f0.grown hgrow6 (fun k hk => by cases hk), (st6 _ (lt_of_block f1)).trans f1, (st6 _ (lt_of_block f2)).trans f2, f3.block (st6 _ f3.lt), f4.block (st6 _ f4.lt), f5.block (st6 _ f5.lt), f6.block (st6 _ f6.lt),
      (Kept.refl [] w5 |>.grown hgrow6 (fun k hk => by cases hk)).owns ho (by simp), by rw [hmb] at hown6; exact hown6, ⟨by omega, by omega, by omega, by omega, by omega, by omega, by omega, by omega, by omega, by omega, by omega, by omega, by omega, by omega, by omega⟩⟩
  rw [hvb, hmb]
  have z0 : w6.cell? ⟨q1, 0, none⟩ = some (.slice (some ⟨g1, 0, none⟩) len0 len0) := by rw [cell_at K6.out.b1]; rfl
  clear hown6 hgrow6 st6 hV hM hvb hmb K5 K4
  go_wp2_with fail
  conv => arg 2; whnf
  go_wp2_with (at_builtin; refine wpList_append_fits _ rfl (.tmp 135) (.tmp 137) 23 rfl W.heap.size 5 i5 1 Ybad.underlying23 hi5 hz1 vb 0 n (bts V 0) rfl ?o1 ⟨g1, 0, none⟩ len0 len0 (bts (fun j => V (0 + j)) len0) rfl ?o2 ?o3 ?o4 ?o5 ?_)
  case o1 => exact K6.out.ov
  case o2 => rw [bts_len]; omega
  case o3 => exact bts_news K6.out.r1 (fun j hj => by rw [Nat.zero_add]; exact (HV.out.1 j hj).1)
  case o4 => exact bts_one _ _
  case o5 => have := HN.out; omega
  intro w7 hown7 hgrow7
  have K7 : Hid (Mid W w7 q1 q2 g1 m1 g2 m2 vb mb zp zq len0 len1 n V M len0 0) := K6.out.val hgrow7 hown7
  have z1 : w7.cell? ⟨q1, 1, none⟩ = some (.slice (some ⟨m1, 0, none⟩) len0 len0) := by rw [cell_at K7.out.b1]; rfl
  clear hown7 hgrow7 z0 K6
  go_wp2_with fail
  conv => arg 2; whnf
  go_wp2_with (at_builtin; refine wpList_append_fits _ rfl (.tmp 139) (.tmp 141) 23 rfl W.heap.size 5 i5 1 Ybad.underlying23 hi5 hz1 mb 0 n (bts M 0) rfl ?o1 ⟨m1, 0, none⟩ len0 len0 (bts (fun j => M (0 + j)) len0) rfl ?o2 ?o3 ?o4 ?o5 ?_)
  case o1 => exact K7.out.om
  case o2 => rw [bts_len]; omega
  case o3 => exact bts_news K7.out.r2 (fun j hj => by rw [Nat.zero_add]; exact (HV.out.1 j hj).2)
  case o4 => exact bts_one _ _
  case o5 => have := HN.out; omega
  intro w8 hown8 hgrow8
  have K8 : Hid (Mid W w8 q1 q2 g1 m1 g2 m2 vb mb zp zq len0 len1 n V M len0 len0) := K7.out.mask hgrow8 hown8
  clear hown8 hgrow8 z1 K7
  go_wp2_with fail
  exact alt_form R W w8 a0 len0 cap0 a1 len1 cap1 al mmb cnt cmm ml tb ct q1 q2 g1 m1 g2 m2 vb mb n neg nc xb cx X zp zq V M seed HI.out.2.2 hsd K8.out HV.out HN.out hl0 hl1 hml hcn (fun j => ⟨HI.out.1.2.2 j, HI.out.2.1.2.2 j⟩) H0.out.1 H0.out.2 _ _ _ _ _ _ _ _ _ _ _ _ _ _ _ _ _ _ _ _ _ _ _ _ _ _ _ _ _ _ _ _ _ _ _ _ _ _ _ _ _ _ _ _ _ _ _ _ _ _ _ _ _ _ _ _ _ _ _ _ _ _ _ _ _ _ _ _ _ _ _ _ _ _ _ _ _ _ _ _ _ _ _ _ _ _ _ _ _ _ _ _ _ _ _ _ _ _ _ _ _ _ _ _ _ _ _ _ _ _ _ _ _ _ _ _ _ _ _ _ _ _ _ _ _ _ _ _ _ _ _ _ _ _ _ _ _ _ _ _ _ _ _ _ _ _ _ _ _ _ _ _ _ _ _ _ _ _ _ _ _ _ _ _ _ _ _ _ _ _ _ _ _ _ _ _ _ _ _ _ _ _ _ _ _ _ _ _ _ _ _ _ _ _ _ _ _ _ _ _ _ _ _ _ _ _ _ _ _ _ _ _ _ _ _ _ _ _ _ _ _ _ _ _ _ _ _ _ _ _ _ _ _ _ _ _ _ _ _ _ _ _ _ _ _ _ _ _ _ _ _ _ _ _ _ _ _ _ _ _ _ _ _ _ _ _ _ _ _ _ _ _ _ _ _ _ _ _ _ _
end Go.Proofs.YbulkoqcDoor
