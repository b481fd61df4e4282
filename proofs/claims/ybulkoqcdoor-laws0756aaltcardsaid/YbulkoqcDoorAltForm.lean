/- LawS0756AAlt from the zero bytes on. Own work over this program's translation. -/
import Derived.Test.YbulkoqcDoorAltRows
import Derived.Test.YbulkoqcDoorAltTail
namespace Go.Proofs.YbulkoqcDoor
open Go.RowKit
set_option linter.unusedVariables false

theorem cell_at {w : World} {b i : Nat} {c : Array Value} {t : TypeId} {fr : Nat × Nat} (h : w.heap[b]? = some (.cells c t fr)) : w.cell? ⟨b, i, none⟩ = c[i]? := cell_of_row w _ _ _ _ _ h

theorem byte_pm (z : Nat → Nat) (j : Nat) (h : z j < 65536) : pv z j < 256 ∧ pm z j < 256 ∧ pv z j &&& pm z j = pv z j := by
  unfold pv pm
  refine ⟨Nat.lt_of_le_of_lt Nat.and_le_left (by omega), by omega, ?_⟩
  rw [Nat.and_assoc, Nat.and_self]

theorem altRest17 : dropSeq 17 (Ybad.f4.body.getD .skip) = (headSeq 17 (Ybad.f4.body.getD .skip)).seq ((headSeq 18 (Ybad.f4.body.getD .skip)).seq ((headSeq 19 (Ybad.f4.body.getD .skip)).seq ((headSeq 20 (Ybad.f4.body.getD .skip)).seq ((headSeq 21 (Ybad.f4.body.getD .skip)).seq (dropSeq 22 (Ybad.f4.body.getD .skip)))))) := by kernel_rfl

set_option maxRecDepth 100000 in
set_option maxHeartbeats 4000000 in
theorem alt_form (R : World → Prop) (W0 W : World) (a0 : Option Addr) (len0 cap0 : Nat) (a1 : Option Addr) (len1 cap1 al mmb cnt cmm ml tb ct p1 p2 g1 m1 g2 m2 vb mb n : Nat) (neg nc : Bool) (xb cx : Nat → Nat) (X : Nat → Nat → Nat) (zp zq V M : Nat → Nat) (seed : Nat)
    (hR : ∀ w', Kept [] W0 w' → R w') (hsd : seed < 18446744073709551616) (hmid : Mid W0 W p1 p2 g1 m1 g2 m2 vb mb zp zq len0 len1 n V M len0 len0) (hVM : (∀ j, j < len0 → V j = pv zp j ∧ M j = pm zp j) ∧ (∀ j, j < ml → V (len0 + j) = 0 ∧ M (len0 + j) = 0) ∧ (∀ j, V (len0 + ml + j) = pv zq j ∧ M (len0 + ml + j) = pm zq j)) (hn : n = len0 + ml + len1) (hl0 : len0 ≤ 256) (hl1 : len1 ≤ 256) (hml : 0 < ml ∧ ml ≤ 4) (hcn : 0 < cnt ∧ cnt ≤ 3) (hz : ∀ j, zp j < 65536 ∧ zq j < 65536)
    (hal : W0.heap[al]? = some (.cells #[.int .i64 len0, .slice (some ⟨mmb, 0, none⟩) cnt cmm, .bool neg, .bool nc] 49 (0, 0))) (hmem : (∀ j, j < cnt → W0.cell? ⟨mmb, j, none⟩ = some (.slice (some ⟨xb j, 0, none⟩) ml (cx j)) ∧ xb j < W0.heap.size) ∧ (∀ j, j < cnt → ∀ i, i < ml → W0.cell? ⟨xb j, i, none⟩ = some (.int .u8 (X j i)) ∧ X j i < 256) ∧ mmb < W0.heap.size ∧ (∀ j, j < cnt → W0.cell? ⟨tb, j, none⟩ = some (.slice (some ⟨xb j, 0, none⟩) ml (cx j))) ∧ tb < W0.heap.size ∧ FullVar W0 ∧ 1 < W0.heap.size)
    (u2 u3 u4 u8 u9 u10 u11 u12 u13 u14 u15 u16 u21 u22 u23 u24 u30 u31 u32 u33 u34 u35 u36 u37 u38 u39 u40 u41 u42 u43 u44 u45 u46 u47 u48 u49 u50 u51 u52 u53 u54 u55 u56 u57 u58 u59 u60 u61 u62 u63 u64 u65 u66 u67 u68 u69 u70 u71 u72 u73 u74 u75 u76 u77 u78 u79 u80 u81 u82 u83 u84 u85 u86 u87 u88 u89 u90 u91 u92 u93 u94 u95 u96 u97 u98 u99 u100 u101 u102 u103 u104 u105 u106 u107 u108 u109 u110 u111 u112 u113 u114 u115 u116 u117 u118 u119 u120 u121 u122 u123 u124 u125 u126 u127 u128 u129 u130 u131 u132 u133 u134 u135 u136 u137 u138 u139 u140 u141 u142 u143 u144 u145 u146 u147 u148 u149 u150 u151 u152 u153 u154 u155 u156 u157 u158 u159 u160 u161 u162 u163 u164 u165 u166 u167 u168 u169 u170 u171 u172 u173 u174 u175 u176 u177 u178 u179 u180 u181 u182 u183 u184 u185 u186 u187 u188 u189 u190 u191 u192 u193 u194 u195 u196 u197 u198 u199 u200 u201 u202 u203 u204 u205 u206 u207 u208 u209 u210 u211 u212 u213 u214 u215 u216 u217 u218 u219 u220 u221 u222 u223 u224 u225 u226 u227 u228 u229 u230 u231 u232 u233 u234 u235 u236 u237 u238 u239 u240 u241 u242 u243 u244 u245 u246 u247 u248 u249 u250 u251 u252 u253 u254 u255 u256 u257 u258 u259 u260 u261 u262 u263 u264 u265 u266 u267 u268 u269 u270 u271 u272 u273 u274 u275 u276 u277 u278 u279 u280 u281 u282 u283 u284 u285 u286 u287 u288 u289 u290 u291 u292 u293 : Value) :
    Code.wp Ybad.prog (dropSeq 17 (Ybad.f4.body.getD .skip)) (bodyPost Ybad.prog Ybad.f4 fun e w' => e = .returned (.bool true) ∧ R w') ⟨#[.slice a0 len0 cap0, .slice a1 len1 cap1, u2, u3, u4, .bool nc, .bool neg, .int .u64 seed, u8, u9, u10, u11, u12, u13, u14, u15, u16, .int .i64 ml, .int .i64 cnt, .pointer (some ⟨al, 0, none⟩), .slice (some ⟨tb, 0, none⟩) cnt ct, u21, u22, u23, u24, .pointer (some ⟨p1, 0, none⟩), .pointer (some ⟨p2, 0, none⟩), .int .i64 n, .slice (some ⟨vb, 0, none⟩) len0 n, .slice (some ⟨mb, 0, none⟩) len0 n, u30, u31, u32, u33, u34, u35, u36, u37, u38, u39, u40, u41, u42, u43, u44, u45, u46, u47, u48, u49, u50, u51, u52, u53, u54, u55, u56, u57, u58, u59, u60, u61, u62, u63, u64, u65, u66, u67, u68, u69, u70, u71, u72, u73, u74, u75, u76, u77, u78, u79, u80, u81, u82, u83, u84, u85, u86, u87, u88, u89, u90, u91, u92, u93, u94, u95, u96, u97, u98, u99, u100, u101, u102, u103, u104, u105, u106, u107, u108, u109, u110, u111, u112, u113, u114, u115, u116, u117, u118, u119, u120, u121, u122, u123, u124, u125, u126, u127, u128, u129, u130, u131, u132, u133, u134, u135, u136, u137, u138, u139, u140, u141, u142, u143, u144, u145, u146, u147, u148, u149, u150, u151, u152, u153, u154, u155, u156, u157, u158, u159, u160, u161, u162, u163, u164, u165, u166, u167, u168, u169, u170, u171, u172, u173, u174, u175, u176, u177, u178, u179, u180, u181, u182, u183, u184, u185, u186, u187, u188, u189, u190, u191, u192, u193, u194, u195, u196, u197, u198, u199, u200, u201, u202, u203, u204, u205, u206, u207, u208, u209, u210, u211, u212, u213, u214, u215, u216, u217, u218, u219, u220, u221, u222, u223, u224, u225, u226, u227, u228, u229, u230, u231, u232, u233, u234, u235, u236, u237, u238, u239, u240, u241, u242, u243, u244, u245, u246, u247, u248, u249, u250, u251, u252, u253, u254, u255, u256, u257, u258, u259, u260, u261, u262, u263, u264, u265, u266, u267, u268, u269, u270, u271, u272, u273, u274, u275, u276, u277, u278, u279, u280, u281, u282, u283, u284, u285, u286, u287, u288, u289, u290, u291, u292, u293], []⟩ W := by
  obtain ⟨i5, hi5, hz0, hz1, hz2⟩ := info_parts Ybad.info5
  have H0 : Hid (W0.heap[al]? = some (.cells #[.int .i64 len0, .slice (some ⟨mmb, 0, none⟩) cnt cmm, .bool neg, .bool nc] 49 (0, 0)) ∧ (∀ j, j < cnt → W0.cell? ⟨mmb, j, none⟩ = some (.slice (some ⟨xb j, 0, none⟩) ml (cx j)) ∧ xb j < W0.heap.size) ∧ (∀ j, j < cnt → ∀ i, i < ml → W0.cell? ⟨xb j, i, none⟩ = some (.int .u8 (X j i)) ∧ X j i < 256) ∧ mmb < W0.heap.size ∧ (∀ j, j < cnt → W0.cell? ⟨tb, j, none⟩ = some (.slice (some ⟨xb j, 0, none⟩) ml (cx j))) ∧ tb < W0.heap.size ∧ FullVar W0 ∧ 1 < W0.heap.size) := ⟨hal, hmem⟩
  have HM : Hid (Mid W0 W p1 p2 g1 m1 g2 m2 vb mb zp zq len0 len1 n V M len0 len0) := hmid
  have HV : Hid ((∀ j, j < len0 → V j = pv zp j ∧ M j = pm zp j) ∧ (∀ j, j < ml → V (len0 + j) = 0 ∧ M (len0 + j) = 0) ∧ (∀ j, V (len0 + ml + j) = pv zq j ∧ M (len0 + ml + j) = pm zq j)) := hVM
  have HR : Hid ((∀ w', Kept [] W0 w' → R w') ∧ n = len0 + ml + len1 ∧ ∀ j, zp j < 65536 ∧ zq j < 65536) := ⟨hR, hn, hz⟩
  clear hal hmem hmid hVM hR hn hz
  rw [altRest17]
  conv => arg 2; arg 1; whnf
  go_wp2_with fail
  go_loopw [28, 29, 30] (fun v m x wr => ∃ j : Nat, j ≤ ml ∧ x = .int .i64 j ∧ v = .slice (some ⟨vb, 0, none⟩) (len0 + j) n ∧ m = .slice (some ⟨mb, 0, none⟩) (len0 + j) n ∧ Mid W0 wr p1 p2 g1 m1 g2 m2 vb mb zp zq len0 len1 n V M (len0 + j) (len0 + j)) (fun _ _ x _ => ml - (intOf x).toNat)
  case atStart => exact ⟨0, by omega, rfl, rfl, rfl, HM.out⟩
  case round =>
    obtain ⟨j, hj, rfl, rfl, rfl, hmd⟩ := hrel
    have HD : Hid (Mid W0 wr p1 p2 g1 m1 g2 m2 vb mb zp zq len0 len1 n V M (len0 + j) (len0 + j)) := hmd
    clear hmd
    by_cases hjl : j < ml
    · go_wp2_with (at_builtin; refine wpList_append_fits _ rfl (.tmp 148) (.tmp 149) 23 rfl W0.heap.size 5 i5 1 Ybad.underlying23 hi5 hz1 vb (len0 + j) n (bts V (len0 + j)) rfl ?o1 ⟨wr.heap.size, 0, none⟩ 1 1 [.int .u8 0] rfl ?o2 ?o3 ?o4 ?o5 ?_)
      case o1 => exact HD.out.ov.alloc _
      case o2 => rfl
      case o3 => exact World.news_of_block (cs := #[.int .u8 0]) (t := 5) (fr := (0, 0)) (heap_alloc_new wr _)
      case o4 => simp [Value.oneCell']
      case o5 => have := HR.out.2.1; omega
      intro w5 hown5 hgrow5
      have HD5 : Hid (Mid W0 w5 p1 p2 g1 m1 g2 m2 vb mb zp zq len0 len1 n V M (len0 + j + 1) (len0 + j)) := (HD.out.alloc _).val hgrow5 (by rw [bts_succ, (HV.out.2.1 j hjl).1]; exact hown5)
      clear hown5 hgrow5
      go_wp2_with (at_builtin; refine wpList_append_fits _ rfl (.tmp 151) (.tmp 152) 23 rfl W0.heap.size 5 i5 1 Ybad.underlying23 hi5 hz1 mb (len0 + j) n (bts M (len0 + j)) rfl ?o1 ⟨w5.heap.size, 0, none⟩ 1 1 [.int .u8 0] rfl ?o2 ?o3 ?o4 ?o5 ?_)
      case o1 => exact HD5.out.om.alloc _
      case o2 => rfl
      case o3 => exact World.news_of_block (cs := #[.int .u8 0]) (t := 5) (fr := (0, 0)) (heap_alloc_new w5 _)
      case o4 => simp [Value.oneCell']
      case o5 => have := HR.out.2.1; omega
      intro w6 hown6 hgrow6
      have HD6 : Hid (Mid W0 w6 p1 p2 g1 m1 g2 m2 vb mb zp zq len0 len1 n V M (len0 + j + 1) (len0 + j + 1)) := (HD5.out.alloc _).mask hgrow6 (by rw [bts_succ, (HV.out.2.1 j hjl).2]; exact hown6)
      clear hown6 hgrow6
      go_wp2
      go_roundw
      case rel => exact ⟨j + 1, by omega, by go_num, rfl, rfl, HD6.out⟩
      case measure => simp [intOf]; omega
    · obtain rfl : ml = j := by omega
      have q0 : wr.cell? ⟨p2, 0, none⟩ = some (.slice (some ⟨g2, 0, none⟩) len1 len1) := by rw [cell_at HD.out.b2]; rfl
      go_wp2_with fail
      conv => arg 2; whnf
      go_wp2_with (at_builtin; refine wpList_append_fits _ rfl (.tmp 154) (.tmp 156) 23 rfl W0.heap.size 5 i5 1 Ybad.underlying23 hi5 hz1 vb (len0 + ml) n (bts V (len0 + ml)) rfl ?o1 ⟨g2, 0, none⟩ len1 len1 (bts (fun j => V (len0 + ml + j)) len1) rfl ?o2 ?o3 ?o4 ?o5 ?_)
      case o1 => exact HD.out.ov
      case o2 => rw [bts_len]; omega
      case o3 => exact bts_news HD.out.r3 (fun j _ => (HV.out.2.2 j).1)
      case o4 => exact bts_one _ _
      case o5 => have := HR.out.2.1; omega
      intro w5 hown5 hgrow5
      have hnn : len0 + ml + len1 = n := HR.out.2.1.symm
      have HD5 : Hid (Mid W0 w5 p1 p2 g1 m1 g2 m2 vb mb zp zq len0 len1 n V M n (len0 + ml)) := HD.out.val hgrow5 (by rw [← bts_add, hnn] at hown5; exact hown5)
      rw [hnn]
      clear hnn
      have q1 : w5.cell? ⟨p2, 1, none⟩ = some (.slice (some ⟨m2, 0, none⟩) len1 len1) := by rw [cell_at HD5.out.b2]; rfl
      clear hown5 hgrow5
      go_wp2_with fail
      conv => arg 2; whnf
      go_wp2_with (at_builtin; refine wpList_append_fits _ rfl (.tmp 158) (.tmp 160) 23 rfl W0.heap.size 5 i5 1 Ybad.underlying23 hi5 hz1 mb (len0 + ml) n (bts M (len0 + ml)) rfl ?o1 ⟨m2, 0, none⟩ len1 len1 (bts (fun j => M (len0 + ml + j)) len1) rfl ?o2 ?o3 ?o4 ?o5 ?_)
      case o1 => exact HD5.out.om
      case o2 => rw [bts_len]; omega
      case o3 => exact bts_news HD5.out.r4 (fun j _ => (HV.out.2.2 j).2)
      case o4 => exact bts_one _ _
      case o5 => have := HR.out.2.1; omega
      intro w6 hown6 hgrow6
      have hnn : len0 + ml + len1 = n := HR.out.2.1.symm
      have HD6 : Hid (Mid W0 w6 p1 p2 g1 m1 g2 m2 vb mb zp zq len0 len1 n V M n n) := HD5.out.mask hgrow6 (by rw [← bts_add, hnn] at hown6; exact hown6)
      rw [hnn]
      clear hown6 hgrow6 q0 q1 hnn
      have k0 := HD6.out.kept.block al (lt_of_block H0.out.1) (by simp)
      have y0 : w6.cell? ⟨al, 0, none⟩ = some (.int .i64 len0) := by rw [cell_at (k0.trans H0.out.1)]; rfl
      have y1 : w6.cell? ⟨al, 1, none⟩ = some (.slice (some ⟨mmb, 0, none⟩) cnt cmm) := by rw [cell_at (k0.trans H0.out.1)]; rfl
      have y2 : w6.cell? ⟨al, 2, none⟩ = some (.bool neg) := by rw [cell_at (k0.trans H0.out.1)]; rfl
      have y3 : w6.cell? ⟨al, 3, none⟩ = some (.bool nc) := by rw [cell_at (k0.trans H0.out.1)]; rfl
      clear k0
      go_wp2_with fail
      conv => arg 2; whnf
      go_wp2_with fail
      conv => arg 2; whnf
      go_wp2_with fail
      obtain ⟨⟨hal, m1', m2', m3, m4, m5, m6, m7⟩, md, ⟨hRR, hnn, hzz⟩, hv⟩ := (⟨H0.out, HD6.out, HR.out, HV.out⟩ : _ ∧ _ ∧ _ ∧ _)
      obtain ⟨W9, hW9⟩ : ∃ W9, ((((w6.alloc (.cells #[.int .i64 len0, .slice (some ⟨mmb, 0, none⟩) cnt cmm, .bool neg, .bool nc] 49)).alloc (.cells #[.slice (some ⟨vb, 0, none⟩) n n, .slice (some ⟨mb, 0, none⟩) n n, .slice (some ⟨w6.heap.size, 0, none⟩) 1 1] 31)).alloc (.cells #[.slice (some ⟨w6.heap.size + 1, 0, none⟩) 1 1, .slice none 0 0, .bool false] 28)).alloc (.cells #[.slice (some ⟨w6.heap.size + 1, 0, none⟩) 1 1, .slice none 0 0, .bool false, .int .i64 0, .int .i64 0, .int .i64 0, .int .i64 0] 43)) = W9 := ⟨_, rfl⟩
      have KK : Kept [] w6 W9 := by rw [← hW9]; exact ((((Kept.refl [] w6).alloc _).alloc _).alloc _).alloc _
      have KW : Kept [] W0 W9 := md.kept.trans KK (by simp)
      have s9 : W9.heap.size = w6.heap.size + 4 := by rw [← hW9]; simp only [World.size_alloc]
      have bA : W9.heap[w6.heap.size]? = some (.cells #[.int .i64 len0, .slice (some ⟨mmb, 0, none⟩) cnt cmm, .bool neg, .bool nc] 49 (0, 0)) := by
        rw [← hW9, Below.heap_alloc _ _ _ (by simp only [World.size_alloc]; omega), Below.heap_alloc _ _ _ (by simp only [World.size_alloc]; omega), Below.heap_alloc _ _ _ (by simp only [World.size_alloc]; omega)]
        exact heap_alloc_new w6 _
      have bP : W9.heap[w6.heap.size + 1]? = some (.cells #[.slice (some ⟨vb, 0, none⟩) n n, .slice (some ⟨mb, 0, none⟩) n n, .slice (some ⟨w6.heap.size, 0, none⟩) 1 1] 31 (0, 0)) := by
        rw [← hW9, Below.heap_alloc _ _ _ (by simp only [World.size_alloc]; omega), Below.heap_alloc _ _ _ (by simp only [World.size_alloc]; omega)]
        have := heap_alloc_new (w6.alloc (.cells #[.int .i64 len0, .slice (some ⟨mmb, 0, none⟩) cnt cmm, .bool neg, .bool nc] 49)) (.cells #[.slice (some ⟨vb, 0, none⟩) n n, .slice (some ⟨mb, 0, none⟩) n n, .slice (some ⟨w6.heap.size, 0, none⟩) 1 1] 31)
        rw [World.size_alloc] at this
        exact this
      have bR : W9.heap[w6.heap.size + 3]? = some (.cells #[.slice (some ⟨w6.heap.size + 1, 0, none⟩) 1 1, .slice none 0 0, .bool false, .int .i64 0, .int .i64 0, .int .i64 0, .int .i64 0] 43 (0, 0)) := by
        rw [← hW9]
        have := heap_alloc_new (((w6.alloc (.cells #[.int .i64 len0, .slice (some ⟨mmb, 0, none⟩) cnt cmm, .bool neg, .bool nc] 49)).alloc (.cells #[.slice (some ⟨vb, 0, none⟩) n n, .slice (some ⟨mb, 0, none⟩) n n, .slice (some ⟨w6.heap.size, 0, none⟩) 1 1] 31)).alloc (.cells #[.slice (some ⟨w6.heap.size + 1, 0, none⟩) 1 1, .slice none 0 0, .bool false] 28)) (.cells #[.slice (some ⟨w6.heap.size + 1, 0, none⟩) 1 1, .slice none 0 0, .bool false, .int .i64 0, .int .i64 0, .int .i64 0, .int .i64 0] 43)
        rw [World.size_alloc, World.size_alloc, World.size_alloc] at this
        exact this
      rw [hW9]
      have hs6 := md.kept.size
      have lv : vb < w6.heap.size := (md.ov.lt vb rfl).2
      have lm : mb < w6.heap.size := (md.om.lt mb rfl).2
      have hval : ∀ k, k < n → V k < 256 ∧ M k < 256 ∧ V k &&& M k = V k := fun k hk => by
        by_cases h1 : k < len0
        · rw [(hv.1 k h1).1, (hv.1 k h1).2]; exact byte_pm zp k (hzz k).1
        · by_cases h2 : k < len0 + ml
          · obtain ⟨j, rfl⟩ : ∃ j, k = len0 + j := ⟨k - len0, by omega⟩
            rw [(hv.2.1 j (by omega)).1, (hv.2.1 j (by omega)).2]; exact ⟨by omega, by omega, rfl⟩
          · obtain ⟨j, rfl⟩ : ∃ j, k = len0 + ml + j := ⟨k - (len0 + ml), by omega⟩
            rw [(hv.2.2 j).1, (hv.2.2 j).2]; exact byte_pm zq j (hzz j).2
      have AM : AltMem W9 (w6.heap.size + 1) n n vb mb n w6.heap.size 1 len0 mmb cnt cmm ml neg nc xb cx V M X :=
        ⟨by rw [cell_at bP]; rfl, by rw [cell_at bP]; rfl, by rw [cell_at bP]; rfl, by rw [cell_at bA]; rfl, by rw [cell_at bA]; rfl, by rw [cell_at bA]; rfl, by rw [cell_at bA]; rfl,
          fun j hj => ⟨(KW.cell (p := ⟨mmb, j, none⟩) m3 (by simp)).trans (m1' j hj).1, Nat.lt_of_lt_of_le (m1' j hj).2 KW.size⟩,
          fun j hj i hi => ⟨(KW.cell (p := ⟨xb j, i, none⟩) (m1' j hj).2 (by simp)).trans (m2' j hj i hi).1, (m2' j hj i hi).2⟩,
          fun k hk => ⟨(KK.cell (p := ⟨vb, k, none⟩) lv (by simp)).trans (bts_cell md.ov k hk), (KK.cell (p := ⟨mb, k, none⟩) lm (by simp)).trans (bts_cell md.om k hk), hval k hk⟩,
          ⟨by omega, by omega, by omega, by omega, by have := KW.size; omega⟩, ⟨by omega, by omega, hcn.1, hcn.2, hml.1, hml.2⟩⟩
      exact alt_tail R W9 a0 cap0 (w6.heap.size + 3) (w6.heap.size + 1) 1 n n vb mb n w6.heap.size 1 len0 mmb cnt cmm ml tb ct neg nc xb cx V M X seed
        (fun w' h => hRR w' (KW.trans h (fun x hx => .inr (by simp at hx; omega)))) hsd bR AM (m6.kept KW m7 (by simp)) (Nat.lt_of_lt_of_le m7 KW.size) (by omega)
        (fun b hb => by
          rcases hb with rfl | rfl | rfl | rfl | rfl | ⟨j, hj, rfl⟩
          · omega
          · omega
          · omega
          · omega
          · omega
          · have := (m1' j hj).2; omega)
        (fun j hj => (KW.cell (p := ⟨tb, j, none⟩) m5 (by simp)).trans (m4 j hj)) (Nat.lt_of_lt_of_le m5 KW.size) (by omega) _ _ _ _ _ _ _ _ _ _ _ _ _ _ _ _ _ _ _ _ _ _ _ _ _ _ _ _ _ _ _ _ _ _ _ _ _ _ _ _ _ _ _ _ _ _ _ _ _ _ _ _ _ _ _ _ _ _ _ _ _ _ _ _ _ _ _ _ _ _ _ _ _ _ _ _ _ _ _ _ _ _ _ _ _ _ _ _ _ _ _ _ _ _ _ _ _ _ _ _ _ _ _ _ _ _ _ _ _ _ _ _ _ _ _ _ _ _ _ _ _ _ _ _ _ _ _ _ _ _ _ _ _ _ _ _ _ _ _ _ _ _ _ _ _ _ _ _ _ _ _ _ _ _ _ _ _ _ _ _ _ _ _ _ _ _ _ _ _ _ _ _ _ _ _ _ _ _ _ _ _ _ _ _ _ _ _ _ _ _ _ _ _ _ _ _ _ _ _ _ _ _ _ _ _ _ _ _ _ _ _ _ _ _ _ _ _ _ _ _ _ _ _ _ _ _ _ _ _ _ _ _ _ _ _ _ _ _ _ _ _ _ _ _ _ _ _ _ _ _ _ _ _ _ _ _ _ _ _ _ _ _ _ _ _ _ _ _ _ _ _ _ _ _ _ _ _ _ _ _ _ _ _
end Go.Proofs.YbulkoqcDoor
