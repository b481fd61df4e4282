/- LawS0756AAlt from the reader's loop on. Own work over this program's translation. -/
import Derived.Test.YbulkoqcDoorAlt
import Derived.Deep.Cut
import Derived.Deep.CutRange
import Derived.Laws.Bits64b
namespace Go.Proofs.YbulkoqcDoor
open Go.RowKit
set_option linter.unusedVariables false
attribute [local go_sem] eq38

theorem or_word (P Q : Nat → Bool) (c x : Nat) (hx : wd P c = x) : bits .or .u64 (x : Int) (wd Q c : Int) = (wd (fun b => P b || Q b) c : Int) := by
  rw [wd_or, ← hx]; exact bits_or_u64_nat _ _ (wd_lt' P c) (wd_lt' Q c)

/-- The next byte into a set that holds a seed. -/
theorem next_seed (W wc : World) (rb pb cp cv cm vb mb n ab ca len0 mmb cnt cmm ml : Nat) (neg nc : Bool) (xb cx : Nat → Nat) (V M : Nat → Nat) (X : Nat → Nat → Nat) (k t eb seed sd2 : Nat) (E : Nat → Bool) (hE : E = altItem V M X nc neg cnt ml len0 k)
    (hs1 : seed < 18446744073709551616) (hs2 : 18446744073709551615 - seed = sd2) (K : Kept [rb] W wc) (R : IsRd wc rb (.slice (some ⟨pb, 0, none⟩) 1 cp) (.slice none 0 0) (.bool false) 0 k 0 t) (ht : t = 0 ∨ (t = 1 ∧ len0 + ml ≤ k)) (hk : k ≤ n)
    (hA : AltMem W pb cv cm vb mb n ab ca len0 mmb cnt cmm ml neg nc xb cx V M X) (hV : FullVar W) (h1l : 1 < W.heap.size) (h1r : 1 ≠ rb) (hbl : ∀ b, AltBlocks pb vb mb ab mmb cnt xb b → b ≠ rb) (he : IsSet wc eb E) (her : eb ≠ rb) :
    ∃ r0 r1 r2 r3 : Nat, (bits .or .u64 (seed : Int) (wd E 0 : Int) = (r0 : Int) ∧ bits .or .u64 (sd2 : Int) (wd E 1 : Int) = (r1 : Int) ∧ bits .or .u64 0 (wd E 2 : Int) = (r2 : Int) ∧ bits .or .u64 (seed : Int) (wd E 3 : Int) = (r3 : Int)) ∧
      Calls Ybad.prog 9 #[.pointer (some ⟨rb, 0, none⟩), .pointer (some ⟨wc.heap.size + 1, 0, none⟩)] ((wc.alloc (.cells #[.int .u64 seed, .int .u64 sd2, .int .u64 0, .int .u64 seed] 38)).alloc (.cells #[.int .u64 seed, .int .u64 sd2, .int .u64 0, .int .u64 seed] 38)) fun e w' => Kept [rb] W w' ∧
        ((e = .returned (.bool false) ∧ k = n) ∨ (e = .returned (.bool true) ∧ (∃ t', IsRd w' rb (.slice (some ⟨pb, 0, none⟩) 1 cp) (.slice none 0 0) (.bool false) 0 (k + 1) 0 t' ∧ (t' = 0 ∨ (t' = 1 ∧ len0 + ml ≤ k + 1))) ∧ wc.heap.size + 1 < w'.heap.size
          ∧ (w'.cell? ⟨wc.heap.size, 0, none⟩ = some (.int .u64 seed) ∧ w'.cell? ⟨wc.heap.size, 1, none⟩ = some (.int .u64 sd2) ∧ w'.cell? ⟨wc.heap.size, 2, none⟩ = some (.int .u64 0) ∧ w'.cell? ⟨wc.heap.size, 3, none⟩ = some (.int .u64 seed))
          ∧ (w'.cell? ⟨eb, 0, none⟩ = some (.int .u64 (wd E 0)) ∧ w'.cell? ⟨eb, 1, none⟩ = some (.int .u64 (wd E 1)) ∧ w'.cell? ⟨eb, 2, none⟩ = some (.int .u64 (wd E 2)) ∧ w'.cell? ⟨eb, 3, none⟩ = some (.int .u64 (wd E 3)))
          ∧ (∀ o, (World.alloc w' o).cell? ⟨wc.heap.size + 1, 0, none⟩ = some (.int .u64 r0) ∧ (World.alloc w' o).cell? ⟨wc.heap.size + 1, 1, none⟩ = some (.int .u64 r1) ∧ (World.alloc w' o).cell? ⟨wc.heap.size + 1, 2, none⟩ = some (.int .u64 r2) ∧ (World.alloc w' o).cell? ⟨wc.heap.size + 1, 3, none⟩ = some (.int .u64 r3)))) := by
  obtain ⟨p0, p1, p2, p3⟩ := wd_ofWords seed sd2 0 seed (by omega) (by omega) (by omega) (by omega)
  obtain ⟨P, hP⟩ : ∃ P, ofWords seed sd2 0 seed = P := ⟨_, rfl⟩
  rw [hP] at p0 p1 p2 p3
  have hw : wds P = #[.int .u64 seed, .int .u64 sd2, .int .u64 0, .int .u64 seed] := by unfold wds; rw [p0, p1, p2, p3]; rfl
  refine ⟨_, _, _, _, ⟨or_word P E 0 seed p0, or_word P E 1 sd2 p1, or_word P E 2 0 p2, or_word P E 3 seed p3⟩, ?_⟩
  rw [← hw]
  have K2 : Kept [] wc ((wc.alloc (.cells (wds P) 38)).alloc (.cells (wds P) 38)) := ((Kept.refl [] wc).alloc _).alloc _
  have KW : Kept [rb] W ((wc.alloc (.cells (wds P) 38)).alloc (.cells (wds P) 38)) := (K.alloc _).alloc _
  have hsz := K.size
  have hrl := R.lt
  have hel := he.lt
  have hss : IsSet ((wc.alloc (.cells (wds P) 38)).alloc (.cells (wds P) 38)) (wc.heap.size + 1) P := by
    have := isSet_new (wc.alloc (.cells (wds P) 38)) P
    rw [World.size_alloc] at this
    exact this
  have h0s : IsSet ((wc.alloc (.cells (wds P) 38)).alloc (.cells (wds P) 38)) wc.heap.size P := (isSet_new wc P).alloc _
  refine (next_alt _ rb (wc.heap.size + 1) pb cp 0 (.bool false) cv cm vb mb n ab ca len0 mmb cnt cmm ml neg nc xb cx V M X P k t (R.kept K2 (by simp)) (hA.kept KW (fun b hb => by simpa using hbl b hb)) hk ht hss (hV.kept KW h1l (by simpa using h1r)) (Nat.lt_of_lt_of_le h1l KW.size)
    ⟨by omega, h1r, by omega⟩ (fun b hb => ⟨hbl b hb, by have := hA.blocks b hb; omega⟩)).mono ?_
  rintro e w' ⟨k1, k', t', k2, k3, k4⟩
  refine ⟨KW.trans k1 (fun x hx => ?_), ?_⟩
  · simp only [List.mem_cons, List.not_mem_nil, or_false] at hx
    rcases hx with rfl | rfl
    · exact .inl (by simp)
    · exact .inr (by omega)
  · rcases k4 with ⟨q1, q2, q3⟩ | ⟨q1, q2, rfl, q3⟩
    · exact .inl ⟨q1, q2⟩
    · have s0 : IsSet w' wc.heap.size P := h0s.kept k1 (by simp; omega)
      have s1 : IsSet w' eb E := (he.kept K2 (by simp)).kept k1 (by simp; omega)
      rw [← hE] at q3
      refine .inr ⟨q1, ⟨t', k2, k3⟩, q3.lt, ⟨?_, ?_, ?_, ?_⟩, ⟨s1.cell 0 (by omega), s1.cell 1 (by omega), s1.cell 2 (by omega), s1.cell 3 (by omega)⟩, fun o => ⟨(q3.alloc o).cell 0 (by omega), (q3.alloc o).cell 1 (by omega), (q3.alloc o).cell 2 (by omega), (q3.alloc o).cell 3 (by omega)⟩⟩
      · rw [s0.cell 0 (by omega), p0]
      · rw [s0.cell 1 (by omega), p1]
      · rw [s0.cell 2 (by omega), p2]; rfl
      · rw [s0.cell 3 (by omega), p3]

theorem altRest22 : dropSeq 22 (Ybad.f4.body.getD .skip) = (headSeq 22 (Ybad.f4.body.getD .skip)).seq (dropSeq 23 (Ybad.f4.body.getD .skip)) := by kernel_rfl

theorem IsSet.store4 {w : World} {sb : Nat} {P : Nat → Bool} (h : IsSet w sb P) (Q : Nat → Bool) :
    IsSet ((((w.setCell ⟨sb, 0, none⟩ (.int .u64 (wd Q 0))).setCell ⟨sb, 1, none⟩ (.int .u64 (wd Q 1))).setCell ⟨sb, 2, none⟩ (.int .u64 (wd Q 2))).setCell ⟨sb, 3, none⟩ (.int .u64 (wd Q 3))) sb Q := by
  unfold IsSet at h ⊢
  rw [heap_setCell_at (heap_setCell_at (heap_setCell_at (heap_setCell_at h _) _) _) _]
  rfl
theorem Kept.store4 {S : List Nat} {a w : World} {sb : Nat} (h : Kept S a w) (hb : sb ∈ S ∨ a.heap.size ≤ sb) (v0 v1 v2 v3 : Value) :
    Kept S a ((((w.setCell ⟨sb, 0, none⟩ v0).setCell ⟨sb, 1, none⟩ v1).setCell ⟨sb, 2, none⟩ v2).setCell ⟨sb, 3, none⟩ v3) :=
  (((h.setCell (p := ⟨sb, 0, none⟩) hb _).setCell (p := ⟨sb, 1, none⟩) hb _).setCell (p := ⟨sb, 2, none⟩) hb _).setCell (p := ⟨sb, 3, none⟩) hb _

set_option maxRecDepth 100000 in
set_option maxHeartbeats 4000000 in
theorem alt_tail (R : World → Prop) (W : World) (a0 : Option Addr) (cap0 rb pb cp cv cm vb mb n ab ca len0 mmb cnt cmm ml tb ct : Nat) (neg nc : Bool) (xb cx : Nat → Nat) (V M : Nat → Nat) (X : Nat → Nat → Nat) (seed : Nat)
    (hR : ∀ w', Kept [rb] W w' → R w') (hsd : seed < 18446744073709551616) (hRd : IsRd W rb (.slice (some ⟨pb, 0, none⟩) 1 cp) (.slice none 0 0) (.bool false) 0 0 0 0) (hA : AltMem W pb cv cm vb mb n ab ca len0 mmb cnt cmm ml neg nc xb cx V M X) (hV : FullVar W) (h1l : 1 < W.heap.size) (h1r : 1 ≠ rb) (hbl : ∀ b, AltBlocks pb vb mb ab mmb cnt xb b → b ≠ rb)
    (hT : ∀ j, j < cnt → W.cell? ⟨tb, j, none⟩ = some (.slice (some ⟨xb j, 0, none⟩) ml (cx j))) (htl : tb < W.heap.size) (htr : tb ≠ rb)
    (u1 u2 u3 u4 u8 u9 u10 u11 u12 u13 u14 u15 u16 u19 u21 u22 u23 u24 u25 u26 u30 u31 u33 u34 u35 u36 u37 u38 u39 u40 u41 u42 u43 u44 u45 u46 u47 u48 u49 u50 u51 u52 u53 u54 u55 u56 u57 u58 u59 u60 u61 u62 u63 u64 u65 u66 u67 u68 u69 u70 u71 u72 u73 u74 u75 u76 u77 u78 u79 u80 u81 u82 u83 u84 u85 u86 u87 u88 u89 u90 u91 u92 u93 u94 u95 u96 u97 u98 u99 u100 u101 u102 u103 u104 u105 u106 u107 u108 u109 u110 u111 u112 u113 u114 u115 u116 u117 u118 u119 u120 u121 u122 u123 u124 u125 u126 u127 u128 u129 u130 u131 u132 u133 u134 u135 u136 u137 u138 u139 u140 u141 u142 u143 u144 u145 u146 u147 u148 u149 u150 u151 u152 u153 u154 u155 u156 u157 u158 u159 u160 u161 u162 u163 u164 u165 u166 u167 u168 u169 u170 u171 u172 u173 u174 u175 u176 u177 u178 u179 u180 u181 u182 u183 u184 u185 u186 u187 u188 u189 u190 u191 u192 u193 u194 u195 u196 u197 u198 u199 u200 u201 u202 u203 u204 u205 u206 u207 u208 u209 u210 u211 u212 u213 u214 u215 u216 u217 u218 u219 u220 u221 u222 u223 u224 u225 u226 u227 u228 u229 u230 u231 u232 u233 u234 u235 u236 u237 u238 u239 u240 u241 u242 u243 u244 u245 u246 u247 u248 u249 u250 u251 u252 u253 u254 u255 u256 u257 u258 u259 u260 u261 u262 u263 u264 u265 u266 u267 u268 u269 u270 u271 u272 u273 u274 u275 u276 u277 u278 u279 u280 u281 u282 u283 u284 u285 u286 u287 u288 u289 u290 u291 u292 u293 : Value) :
    Code.wp Ybad.prog (dropSeq 22 (Ybad.f4.body.getD .skip)) (bodyPost Ybad.prog Ybad.f4 fun e w' => e = .returned (.bool true) ∧ R w') ⟨#[.slice a0 len0 cap0, u1, u2, u3, u4, .bool nc, .bool neg, .int .u64 seed, u8, u9, u10, u11, u12, u13, u14, u15, u16, .int .i64 ml, .int .i64 cnt, u19, .slice (some ⟨tb, 0, none⟩) cnt ct, u21, u22, u23, u24, u25, u26, .int .i64 n, .slice (some ⟨vb, 0, none⟩) n cv, .slice (some ⟨mb, 0, none⟩) n cm, u30, u31, .pointer (some ⟨rb, 0, none⟩), u33, u34, u35, u36, u37, u38, u39, u40, u41, u42, u43, u44, u45, u46, u47, u48, u49, u50, u51, u52, u53, u54, u55, u56, u57, u58, u59, u60, u61, u62, u63, u64, u65, u66, u67, u68, u69, u70, u71, u72, u73, u74, u75, u76, u77, u78, u79, u80, u81, u82, u83, u84, u85, u86, u87, u88, u89, u90, u91, u92, u93, u94, u95, u96, u97, u98, u99, u100, u101, u102, u103, u104, u105, u106, u107, u108, u109, u110, u111, u112, u113, u114, u115, u116, u117, u118, u119, u120, u121, u122, u123, u124, u125, u126, u127, u128, u129, u130, u131, u132, u133, u134, u135, u136, u137, u138, u139, u140, u141, u142, u143, u144, u145, u146, u147, u148, u149, u150, u151, u152, u153, u154, u155, u156, u157, u158, u159, u160, u161, u162, u163, u164, u165, u166, u167, u168, u169, u170, u171, u172, u173, u174, u175, u176, u177, u178, u179, u180, u181, u182, u183, u184, u185, u186, u187, u188, u189, u190, u191, u192, u193, u194, u195, u196, u197, u198, u199, u200, u201, u202, u203, u204, u205, u206, u207, u208, u209, u210, u211, u212, u213, u214, u215, u216, u217, u218, u219, u220, u221, u222, u223, u224, u225, u226, u227, u228, u229, u230, u231, u232, u233, u234, u235, u236, u237, u238, u239, u240, u241, u242, u243, u244, u245, u246, u247, u248, u249, u250, u251, u252, u253, u254, u255, u256, u257, u258, u259, u260, u261, u262, u263, u264, u265, u266, u267, u268, u269, u270, u271, u272, u273, u274, u275, u276, u277, u278, u279, u280, u281, u282, u283, u284, u285, u286, u287, u288, u289, u290, u291, u292, u293], []⟩ W := by
  obtain ⟨sd2, HS2⟩ : ∃ s, Hid (18446744073709551615 - seed = s) := ⟨_, rfl⟩
  have hxs : bits .xor .u64 IntKind.u64.max (seed : Int) = (sd2 : Int) := xor_max seed sd2 hsd HS2.out
  have hnum := hA.num
  have H0 : Hid (AltMem W pb cv cm vb mb n ab ca len0 mmb cnt cmm ml neg nc xb cx V M X ∧ FullVar W ∧ 1 < W.heap.size ∧ 1 ≠ rb ∧ (∀ b, AltBlocks pb vb mb ab mmb cnt xb b → b ≠ rb) ∧ (∀ j, j < cnt → W.cell? ⟨tb, j, none⟩ = some (.slice (some ⟨xb j, 0, none⟩) ml (cx j))) ∧ tb < W.heap.size ∧ tb ≠ rb ∧ (∀ w', Kept [rb] W w' → R w') ∧ IsRd W rb (.slice (some ⟨pb, 0, none⟩) 1 cp) (.slice none 0 0) (.bool false) 0 0 0 0) := ⟨hA, hV, h1l, h1r, hbl, hT, htl, htr, hR, hRd⟩
  clear hA hV h1l h1r hbl hT htl htr hR hRd
  rw [altRest22]
  conv => arg 2; arg 1; whnf
  go_wp2_with fail
  go_loopw [33] (fun x wr => ∃ (k t : Nat), k ≤ n ∧ x = .int .i64 k ∧ IsRd wr rb (.slice (some ⟨pb, 0, none⟩) 1 cp) (.slice none 0 0) (.bool false) 0 k 0 t ∧ (t = 0 ∨ (t = 1 ∧ len0 + ml ≤ k)) ∧ Kept [rb] W wr) (fun x _ => n - (intOf x).toNat)
  case atStart => exact ⟨0, 0, by omega, rfl, H0.out.2.2.2.2.2.2.2.2.2, .inl rfl, .refl _ _⟩
  case round =>
    obtain ⟨k, t, hk, rfl, R1, ht, K1⟩ := hrel
    have HR : Hid (IsRd wr rb (.slice (some ⟨pb, 0, none⟩) 1 cp) (.slice none 0 0) (.bool false) 0 k 0 t ∧ Kept [rb] W wr) := ⟨R1, K1⟩
    have HT : Hid (t = 0 ∨ (t = 1 ∧ len0 + ml ≤ k)) := ht
    have HA : Hid (AltMem wr pb cv cm vb mb n ab ca len0 mmb cnt cmm ml neg nc xb cx V M X) := H0.out.1.kept K1 (fun b hb => by simpa using H0.out.2.2.2.2.1 b hb)
    clear R1 ht K1
    rename World => w8
    by_cases hkn : k < n
    · by_cases hin : len0 ≤ k ∧ k < len0 + ml
      · obtain ⟨E, hE⟩ : ∃ E, E = altItem V M X nc neg cnt ml len0 k := ⟨_, rfl⟩
        have HEE : Hid (E = altItem V M X nc neg cnt ml len0 k) := hE
        clear hE
        obtain ⟨eb, heb⟩ : ∃ eb, w8.heap.size = eb := ⟨_, rfl⟩
        go_upto_region 43 with fail
        refine forgetW (A := fun wq => Kept [] w8 wq ∧ IsSet wq w8.heap.size (fun _ => false)) ⟨(Kept.refl [] w8).alloc _, isSet_zero w8⟩ ?_
        rintro wq ⟨KQ, SQ⟩
        rw [heb] at SQ
        have EBR : Hid (eb ≠ rb) := by have := HR.out.1.lt; show eb ≠ rb; omega
        have HQ : Hid (Kept [rb] W wq ∧ IsSet wq eb (fun _ => false) ∧ IsRd wq rb (.slice (some ⟨pb, 0, none⟩) 1 cp) (.slice none 0 0) (.bool false) 0 k 0 t ∧ W.heap.size ≤ eb) := ⟨HR.out.2.trans KQ (by simp), SQ, HR.out.1.kept KQ (by simp), by have := HR.out.2.size; omega⟩
        have AQ : Hid (AltMem wq pb cv cm vb mb n ab ca len0 mmb cnt cmm ml neg nc xb cx V M X) := HA.out.kept KQ (by simp)
        clear KQ SQ HA heb HR
        obtain ⟨hin1, hin2⟩ := hin
        obtain ⟨i, HI⟩ : ∃ i, Hid (k = len0 + i) := ⟨k - len0, show k = len0 + (k - len0) by omega⟩
        have him : i < ml := by have := HI.out; omega
        have hsub : (k : Int) - (len0 : Int) = (i : Int) := by have := HI.out; omega
        have e1 : decide ((len0 : Int) ≤ (k : Int)) = true := by simp; omega
        have e2 : ((len0 : Int) ≤ (k : Int)) := by omega
        have e3 : decide ((k : Int) < (len0 : Int) + (ml : Int)) = true := by simp; omega
        have e4 : ((k : Int) < (len0 : Int) + (ml : Int)) := by omega
        have HN0 : Hid (E = memItem X nc neg cnt ml i) := by
          have hI := HI.out
          show E = _; rw [HEE.out]; unfold altItem; rw [if_pos ⟨hin1, hin2⟩, show k - len0 = i by omega]
        go_wp2_with fail
        refine forgetW (A := fun wm => Kept [] wq wm ∧ IsSet wm wq.heap.size (fun _ => false)) ⟨(Kept.refl [] wq).alloc _, isSet_zero wq⟩ ?_
        rintro wm ⟨KM, SM⟩
        obtain ⟨mk, hmk⟩ : ∃ mk, wq.heap.size = mk := ⟨_, rfl⟩
        rw [hmk] at SM ⊢
        have HM : Hid (Kept [] wq wm ∧ IsSet wm mk (fun _ => false) ∧ wq.heap.size = mk) := ⟨KM, SM, hmk⟩
        clear KM SM hmk e1 e2 e3 e4 hin1 hin2
        go_loopw [37] (fun x wy => ∃ c : Nat, c ≤ cnt ∧ x = .int .i64 c ∧ IsSet wy mk (memS X nc i c) ∧ Kept [mk] wm wy) (fun x _ => cnt - (intOf x).toNat)
        case atStart => exact ⟨0, by omega, rfl, HM.out.2.1, .refl _ _⟩
        case round =>
          obtain ⟨c, hc, rfl, sy, ky⟩ := hrel
          have HY : Hid (IsSet wr mk (memS X nc i c) ∧ Kept [mk] wm wr ∧ Kept [mk] wq wr) := ⟨sy, ky, (HM.out.1.widen (by simp)).trans ky (by simp)⟩
          have AY : Hid (AltMem wr pb cv cm vb mb n ab ca len0 mmb cnt cmm ml neg nc xb cx V M X) := AQ.out.kept HY.out.2.2 (fun b hb => by have h1 := AQ.out.blocks b hb; have h2 := HM.out.2.2; simp; omega)
          have KY : Hid (Kept [rb] W wr) := HQ.out.1.trans HY.out.2.2 (fun x hx => .inr (by have h1 := HQ.out.1.size; have h2 := HM.out.2.2; simp at hx; omega))
          clear sy ky
          by_cases hcc : c < cnt
          · have u0 : wr.cell? ⟨tb, c, none⟩ = some (.slice (some ⟨xb c, 0, none⟩) ml (cx c)) := (KY.out.cell (p := ⟨tb, c, none⟩) H0.out.2.2.2.2.2.2.1 (by simpa using H0.out.2.2.2.2.2.2.2.1)).trans (H0.out.2.2.2.2.2.1 c hcc)
            obtain ⟨u1, hx⟩ := AY.out.x c hcc i him
            obtain ⟨xc, hxc⟩ : ∃ xc, X c i = xc := ⟨_, rfl⟩
            rw [hxc] at u1 hx
            have HXC : Hid (X c i = xc) := hxc
            obtain ⟨xd, hxd⟩ : ∃ xd, xc ^^^ 32 = xd := ⟨_, rfl⟩
            have HXD : Hid (xc ^^^ 32 = xd) := hxd
            have hxor : bits .xor .u8 (xc : Int) 32 = (xd : Int) := by rw [← hxd]; exact u8_xor_nat xc 32 hx (by omega)
            have hdl : xd < 256 := by rw [← hxd]; exact xor_byte xc hx
            have b1 : (0 : Int) ≤ (c : Int) := by omega
            have b2 : (c : Int) < (cnt : Int) := by omega
            have b5 : (0 : Int) ≤ (i : Int) := by omega
            have b6 : (i : Int) < (ml : Int) := by omega
            have g0 := HY.out.1.cell (xc / 64) (by omega)
            have g1 := HY.out.1.frozen (xc / 64)
            have g2 : (0 : Int) ≤ (xc : Int) / 64 := by omega
            have g3 : (xc : Int) / 64 < 4 := by omega
            have HP := HY.out.1.put xc hx
            have g4 := HP.cell (xd / 64) (by omega)
            have g5 := HP.frozen (xd / 64)
            have g6 : (0 : Int) ≤ (xd : Int) / 64 := by omega
            have g7 : (xd : Int) / 64 < 4 := by omega
            have HP2 : Hid (IsSet _ mk (fun x => memS X nc i c x || x == xc)) := HP
            have ST : Hid ((nc = false → ∀ b, (memS X nc i c b || b == xc) = memS X nc i (c + 1) b) ∧ (letter xc = false → ∀ b, (memS X nc i c b || b == xc) = memS X nc i (c + 1) b) ∧ (nc = true → letter xc = true → ∀ b, ((memS X nc i c b || b == xc) || b == xd) = memS X nc i (c + 1) b)) := by
              refine ⟨fun h b => ?_, fun h b => ?_, fun h0 h b => ?_⟩
              · show _ = ((memS X nc i c b || b == X c i) || (nc && (letter (X c i) && b == X c i ^^^ 32)))
                rw [h, HXC.out]; simp
              · show _ = ((memS X nc i c b || b == X c i) || (nc && (letter (X c i) && b == X c i ^^^ 32)))
                rw [HXC.out, h]; simp
              · show _ = ((memS X nc i c b || b == X c i) || (nc && (letter (X c i) && b == X c i ^^^ 32)))
                rw [h0, HXC.out, h, HXD.out]; simp
            clear hxc hxd HP
            cases nc with
            | false =>
              go_wp2
              go_roundw
              case rel => exact ⟨c + 1, by omega, by go_num, HP2.out.congr (fun b _ => ST.out.1 rfl b), HY.out.2.1.setCell (.inl (by simp)) _⟩
              case measure => simp [intOf]; omega
            | true =>
              go_wp2_with fail
              refine (isletter_any xc _ hx).mono ?_
              rintro e w6 ⟨rfl, rfl⟩
              by_cases hl : letter xc = false
              · rw [hl]
                go_wp2
                go_roundw
                case rel => exact ⟨c + 1, by omega, by go_num, HP2.out.congr (fun b _ => ST.out.2.1 hl b), HY.out.2.1.setCell (.inl (by simp)) _⟩
                case measure => simp [intOf]; omega
              · have hl' : letter xc = true := by simpa using hl
                rw [hl']
                go_wp2
                go_roundw
                case rel => exact ⟨c + 1, by omega, by go_num, (HP2.out.put xd hdl).congr (fun b _ => ST.out.2.2 (by first | rfl | trivial) hl' b), (HY.out.2.1.setCell (.inl (by simp)) _).setCell (.inl (by simp)) _⟩
                case measure => simp [intOf]; omega
          · obtain rfl : cnt = c := by omega
            have k0 := HY.out.1.cell 0 (by omega)
            have k1 := HY.out.1.cell 1 (by omega)
            have k2 := HY.out.1.cell 2 (by omega)
            have k3 := HY.out.1.cell 3 (by omega)
            have lE := HQ.out.2.1.lt
            have SE : Hid (IsSet wr eb (fun _ => false)) := HQ.out.2.1.kept HY.out.2.2 (by have h2 := HM.out.2.2; simp; omega)
            have c0 := SE.out.cell 0 (by omega)
            have c1 := SE.out.cell 1 (by omega)
            have c2 := SE.out.cell 2 (by omega)
            have c3 := SE.out.cell 3 (by omega)
            have ff := SE.out.frozen
            have RY : Hid (IsRd wr rb (.slice (some ⟨pb, 0, none⟩) 1 cp) (.slice none 0 0) (.bool false) 0 k 0 t) := HQ.out.2.2.1.kept HY.out.2.2 (by have h1 := HQ.out.2.2.1.lt; have h2 := HM.out.2.2; simp; omega)
            have FIN : Hid (∀ w4, Kept [] wr w4 → ∀ v0 v1 v2 v3, Kept [rb] W ((((w4.setCell ⟨eb, 0, none⟩ v0).setCell ⟨eb, 1, none⟩ v1).setCell ⟨eb, 2, none⟩ v2).setCell ⟨eb, 3, none⟩ v3) ∧ IsRd ((((w4.setCell ⟨eb, 0, none⟩ v0).setCell ⟨eb, 1, none⟩ v1).setCell ⟨eb, 2, none⟩ v2).setCell ⟨eb, 3, none⟩ v3) rb (.slice (some ⟨pb, 0, none⟩) 1 cp) (.slice none 0 0) (.bool false) 0 k 0 t) := fun w4 k4 v0 v1 v2 v3 =>
              ⟨Kept.store4 (KY.out.trans k4 (by simp)) (.inr HQ.out.2.2.2) v0 v1 v2 v3, RY.out.kept (Kept.store4 ((Kept.refl [eb] wr).trans k4 (by simp)) (.inl (by simp)) v0 v1 v2 v3) (by have := EBR.out; simp; omega)⟩
            rename World => wz
            go_upto_if 231 with fail
            go_cut [] from 172 to 290 (fun wx => IsSet wx eb E ∧ Kept [rb] W wx ∧ IsRd wx rb (.slice (some ⟨pb, 0, none⟩) 1 cp) (.slice none 0 0) (.bool false) 0 k 0 t ∧ E = altItem V M X nc neg cnt ml len0 k)
            case first =>
              cases neg with
              | false =>
                go_wp2_with fail
                go_meet
                refine ⟨?_, (FIN.out _ (.refl _ _) _ _ _ _).1, (FIN.out _ (.refl _ _) _ _ _ _).2, HEE.out⟩
                rw [HN0.out]
                exact (SE.out.store4 (memS X nc i cnt)).congr (fun b _ => by unfold memItem; simp)
              | true =>
                by_cases hml : Hid (ml = 1)
                · have e1 : ((ml : Int) == 1) = true := by have := hml.out; simp; omega
                  have n0 := xor_max _ _ (wd_lt' (memS X nc i cnt) 0) (wd_not (memS X nc i cnt) 0).symm
                  have n1 := xor_max _ _ (wd_lt' (memS X nc i cnt) 1) (wd_not (memS X nc i cnt) 1).symm
                  have n2 := xor_max _ _ (wd_lt' (memS X nc i cnt) 2) (wd_not (memS X nc i cnt) 2).symm
                  have n3 := xor_max _ _ (wd_lt' (memS X nc i cnt) 3) (wd_not (memS X nc i cnt) 3).symm
                  go_wp2_with fail
                  go_meet
                  refine ⟨?_, (FIN.out _ (.refl _ _) _ _ _ _).1, (FIN.out _ (.refl _ _) _ _ _ _).2, HEE.out⟩
                  rw [HN0.out]
                  exact (SE.out.store4 (fun b => !memS X nc i cnt b)).congr (fun b _ => by unfold memItem; simp [hml.out])
                · have e1 : ((ml : Int) == 1) = false := by
                    have h : ¬ ml = 1 := hml
                    simp; omega
                  go_wp2_with fail
                  refine (full_any _).mono ?_
                  rintro e w4 ⟨rfl, s2⟩
                  have SE4 : Hid (IsSet w4 eb (fun _ => false)) := SE.out.kept (S := []) (keptOf s2) (by simp)
                  have c0 := SE4.out.cell 0 (by omega)
                  have c1 := SE4.out.cell 1 (by omega)
                  have c2 := SE4.out.cell 2 (by omega)
                  have c3 := SE4.out.cell 3 (by omega)
                  have ff := SE4.out.frozen
                  rw [show wds (fun _ => true) = #[.int .u64 (wd (fun _ => true) 0), .int .u64 (wd (fun _ => true) 1), .int .u64 (wd (fun _ => true) 2), .int .u64 (wd (fun _ => true) 3)] from rfl]
                  go_wp2_with fail
                  go_meet
                  refine ⟨?_, (FIN.out _ (keptOf s2) _ _ _ _).1, (FIN.out _ (keptOf s2) _ _ _ _).2, HEE.out⟩
                  rw [HN0.out]
                  exact (SE4.out.store4 (fun _ => true)).congr (fun b _ => by
                    have h : ¬ ml = 1 := hml
                    unfold memItem; simp [h])
            case rest =>
              have HE : Hid (IsSet wc eb E ∧ Kept [rb] W wc ∧ IsRd wc rb (.slice (some ⟨pb, 0, none⟩) 1 cp) (.slice none 0 0) (.bool false) 0 k 0 t ∧ E = altItem V M X nc neg cnt ml len0 k) := hcut
              clear hcut k0 k1 k2 k3 c0 c1 c2 c3 ff SE RY FIN HY AY KY HM HQ AQ lE
              obtain ⟨r0, r1, r2, r3, ⟨o0, o1, o2, o3⟩, NX⟩ := next_seed W wc rb pb cp cv cm vb mb n ab ca len0 mmb cnt cmm ml neg nc xb cx V M X k t eb seed sd2 E HE.out.2.2.2 hsd HS2.out HE.out.2.1 HE.out.2.2.1 HT.out hk H0.out.1 H0.out.2.1 H0.out.2.2.1 H0.out.2.2.2.1 H0.out.2.2.2.2.1 HE.out.1 EBR.out
              have NX' : Hid (Calls _ _ _ _ _) := NX
              clear NX
              generalize hw0 : wd E 0 = q0 at *
              generalize hw1 : wd E 1 = q1 at *
              generalize hw2 : wd E 2 = q2 at *
              generalize hw3 : wd E 3 = q3 at *
              clear hw0 hw1 hw2 hw3
              go_wp2_with fail
              refine NX'.out.mono ?_
              rintro e w2 ⟨k1, k2⟩
              rcases k2 with ⟨rfl, q⟩ | ⟨rfl, ⟨t', k3, k4⟩, zl, ⟨z0, z1, z2, z3⟩, ⟨y0, y1, y2, y3⟩, zz⟩
              · exact absurd q (by omega)
              have x0 := fun o => (zz o).1
              have x1 := fun o => (zz o).2.1
              have x2 := fun o => (zz o).2.2.1
              have x3 := fun o => (zz o).2.2.2
              have HF : Hid (Kept [rb] W w2 ∧ IsRd w2 rb (.slice (some ⟨pb, 0, none⟩) 1 cp) (.slice none 0 0) (.bool false) 0 (k + 1) 0 t' ∧ (t' = 0 ∨ (t' = 1 ∧ len0 + ml ≤ k + 1))) := ⟨k1, k3, k4⟩
              clear k1 k3 k4 zz NX'
              go_wp2
              go_roundw
              case rel => first | exact ⟨k + 1, t', by omega, by go_num, HF.out.2.1.kept (S := []) ((Kept.refl [] w2).alloc _) (by simp), HF.out.2.2, HF.out.1.alloc _⟩ | ((repeat apply Exists.intro); exact ⟨⟨k + 1, t', by omega, by go_num, HF.out.2.1.kept (S := []) ((Kept.refl [] w2).alloc _) (by simp), HF.out.2.2, HF.out.1.alloc _⟩, rfl⟩)
              case measure => simp [intOf]; omega
      · obtain ⟨E, hE⟩ : ∃ E, E = altItem V M X nc neg cnt ml len0 k := ⟨_, rfl⟩
        have HEE : Hid (E = altItem V M X nc neg cnt ml len0 k) := hE
        clear hE
        obtain ⟨eb, heb⟩ : ∃ eb, w8.heap.size = eb := ⟨_, rfl⟩
        go_upto_region 43 with fail
        refine forgetW (A := fun wq => Kept [] w8 wq ∧ IsSet wq w8.heap.size (fun _ => false)) ⟨(Kept.refl [] w8).alloc _, isSet_zero w8⟩ ?_
        rintro wq ⟨KQ, SQ⟩
        rw [heb] at SQ
        have EBR : Hid (eb ≠ rb) := by have := HR.out.1.lt; show eb ≠ rb; omega
        have HQ : Hid (Kept [rb] W wq ∧ IsSet wq eb (fun _ => false) ∧ IsRd wq rb (.slice (some ⟨pb, 0, none⟩) 1 cp) (.slice none 0 0) (.bool false) 0 k 0 t ∧ W.heap.size ≤ eb) := ⟨HR.out.2.trans KQ (by simp), SQ, HR.out.1.kept KQ (by simp), by have := HR.out.2.size; omega⟩
        have AQ : Hid (AltMem wq pb cv cm vb mb n ab ca len0 mmb cnt cmm ml neg nc xb cx V M X) := HA.out.kept KQ (by simp)
        clear KQ SQ HA heb HR
        have HN0 : Hid (E = mt (V k) (M k)) := by show E = _; rw [HEE.out]; unfold altItem; exact if_neg hin
        obtain ⟨x3, x4, e7, e8, e9⟩ := AQ.out.v k hkn
        obtain ⟨v, hv⟩ : ∃ v, V k = v := ⟨_, rfl⟩
        obtain ⟨m, hm⟩ : ∃ m, M k = m := ⟨_, rfl⟩
        rw [hv] at x3 e7; rw [hm] at x4 e8
        have HN : Hid (E = mt v m) := by show E = _; rw [HN0.out, hv, hm]
        have b1 : (0 : Int) ≤ (k : Int) := by omega
        have b2 : (k : Int) < (n : Int) := by omega
        obtain ⟨l1, l2, l3, l4, l5⟩ := AQ.out.lt
        have lE : eb < wq.heap.size := HQ.out.2.1.lt
        have nvm : vb ≠ eb ∧ mb ≠ eb := by
          have h1 := H0.out.1.lt
          have h2 := HQ.out.2.2.2
          exact ⟨by omega, by omega⟩
        have c0 := HQ.out.2.1.cell 0 (by omega)
        have c1 := HQ.out.2.1.cell 1 (by omega)
        have c2 := HQ.out.2.1.cell 2 (by omega)
        have c3 := HQ.out.2.1.cell 3 (by omega)
        have ff := HQ.out.2.1.frozen
        have HNV : Hid (vb ≠ eb ∧ mb ≠ eb) := nvm
        clear hv hm e9 nvm HN0
        go_cut [188] from 172 to 290 (fun s wx => s = .bool false ∧ wq = wx)
        case first =>
          by_cases hlt : k < len0
          · have e1 : decide ((len0 : Int) ≤ (k : Int)) = false := by simp; omega
            have e2 : ¬ ((len0 : Int) ≤ (k : Int)) := by omega
            go_wp2_with fail
            go_meet
            exact ⟨rfl, rfl⟩
          · have e1 : decide ((len0 : Int) ≤ (k : Int)) = true := by simp; omega
            have e2 : ((len0 : Int) ≤ (k : Int)) := by omega
            have e3 : decide ((k : Int) < (len0 : Int) + (ml : Int)) = false := by simp; omega
            have e4 : ¬ ((k : Int) < (len0 : Int) + (ml : Int)) := by omega
            go_wp2_with fail
            go_meet
            exact ⟨rfl, rfl⟩
        case rest =>
          obtain ⟨rfl, hwc⟩ := hcut
          subst hwc
          go_wp2_with fail
          go_region_held3 (fun w' => w'.cell? ⟨vb, k, none⟩ = some (.int .u8 v) ∧ w'.cell? ⟨mb, k, none⟩ = some (.int .u8 m))
            (first
              | exact ⟨x3, x4⟩
              | exact ⟨(s2.cell (p := ⟨vb, k, none⟩) l2).trans x3, (s2.cell (p := ⟨mb, k, none⟩) l3).trans x4⟩
              | exact ⟨((KS _ _ _ _).cell (p := ⟨vb, k, none⟩) l2 HNV1.out.1).trans x3, ((KS _ _ _ _).cell (p := ⟨mb, k, none⟩) l3 HNV1.out.2).trans x4⟩)
            (first
              | (go_at_call 7
                 refine (masked_any v m _ e7 e8).mono ?_
                 rintro e w4 ⟨rfl, s2⟩
                 have d0 := (s2.cell (p := ⟨eb, 0, none⟩) lE).trans c0
                 have d1 := (s2.cell (p := ⟨eb, 1, none⟩) lE).trans c1
                 have d2 := (s2.cell (p := ⟨eb, 2, none⟩) lE).trans c2
                 have d3 := (s2.cell (p := ⟨eb, 3, none⟩) lE).trans c3
                 have SE : Hid (IsSet w4 eb (fun _ => false)) := HQ.out.2.1.drew.kept (S := []) (keptOf s2) (by simp)
                 have fE := SE.out.frozen
                 have KS : ∀ v0 v1 v2 v3, Kept [eb] wq ((((w4.setCell ⟨eb, 0, none⟩ v0).setCell ⟨eb, 1, none⟩ v1).setCell ⟨eb, 2, none⟩ v2).setCell ⟨eb, 3, none⟩ v3) := fun v0 v1 v2 v3 => Kept.store4 ((Kept.refl [eb] wq).drew.trans (keptOf s2) (by simp)) (.inl (by simp)) v0 v1 v2 v3
                 have HNV1 : Hid (vb ∉ [eb] ∧ mb ∉ [eb]) := ⟨by simpa using HNV.out.1, by simpa using HNV.out.2⟩
                 rw [show wds (mt v m) = #[.int .u64 (wd (mt v m) 0), .int .u64 (wd (mt v m) 1), .int .u64 (wd (mt v m) 2), .int .u64 (wd (mt v m) 3)] from rfl]))
          refine forgetW (A := fun wc => IsSet wc eb E ∧ Kept [rb] W wc ∧ IsRd wc rb (.slice (some ⟨pb, 0, none⟩) 1 cp) (.slice none 0 0) (.bool false) 0 k 0 t ∧ E = altItem V M X nc neg cnt ml len0 k) ⟨?_, ?_, ?_, HEE.out⟩ ?_
          · rw [HN.out]; exact SE.out.store4 (mt v m)
          · exact HQ.out.1.trans (KS _ _ _ _) (fun x hx => .inr (by have := HQ.out.2.2.2; simp at hx; omega))
          · exact HQ.out.2.2.1.kept (KS _ _ _ _) (by have := EBR.out; simp; omega)
          rintro wc hHE
          have HE : Hid (IsSet wc eb E ∧ Kept [rb] W wc ∧ IsRd wc rb (.slice (some ⟨pb, 0, none⟩) 1 cp) (.slice none 0 0) (.bool false) 0 k 0 t ∧ E = altItem V M X nc neg cnt ml len0 k) := hHE
          clear hHE SE KS HNV1 s2 d0 d1 d2 d3 fE c0 c1 c2 c3 ff x3 x4 l1 l2 l3 l4 l5 lE AQ HQ
          obtain ⟨r0, r1, r2, r3, ⟨o0, o1, o2, o3⟩, NX⟩ := next_seed W wc rb pb cp cv cm vb mb n ab ca len0 mmb cnt cmm ml neg nc xb cx V M X k t eb seed sd2 E HE.out.2.2.2 hsd HS2.out HE.out.2.1 HE.out.2.2.1 HT.out hk H0.out.1 H0.out.2.1 H0.out.2.2.1 H0.out.2.2.2.1 H0.out.2.2.2.2.1 HE.out.1 EBR.out
          have NX' : Hid (Calls _ _ _ _ _) := NX
          clear NX
          generalize hw0 : wd E 0 = q0 at *
          generalize hw1 : wd E 1 = q1 at *
          generalize hw2 : wd E 2 = q2 at *
          generalize hw3 : wd E 3 = q3 at *
          clear hw0 hw1 hw2 hw3
          go_wp2_with fail
          refine NX'.out.mono ?_
          rintro e w2 ⟨k1, k2⟩
          rcases k2 with ⟨rfl, q⟩ | ⟨rfl, ⟨t', k3, k4⟩, zl, ⟨z0, z1, z2, z3⟩, ⟨y0, y1, y2, y3⟩, zz⟩
          · exact absurd q (by omega)
          have x0 := fun o => (zz o).1
          have x1 := fun o => (zz o).2.1
          have x2 := fun o => (zz o).2.2.1
          have x3 := fun o => (zz o).2.2.2
          have HF : Hid (Kept [rb] W w2 ∧ IsRd w2 rb (.slice (some ⟨pb, 0, none⟩) 1 cp) (.slice none 0 0) (.bool false) 0 (k + 1) 0 t' ∧ (t' = 0 ∨ (t' = 1 ∧ len0 + ml ≤ k + 1))) := ⟨k1, k3, k4⟩
          clear k1 k3 k4 zz NX'
          go_wp2
          go_roundw
          case rel => first | exact ⟨k + 1, t', by omega, by go_num, HF.out.2.1.kept (S := []) ((Kept.refl [] w2).alloc _) (by simp), HF.out.2.2, HF.out.1.alloc _⟩ | ((repeat apply Exists.intro); exact ⟨⟨k + 1, t', by omega, by go_num, HF.out.2.1.kept (S := []) ((Kept.refl [] w2).alloc _) (by simp), HF.out.2.2, HF.out.1.alloc _⟩, rfl⟩)
          case measure => simp [intOf]; omega
    · obtain rfl : k = n := by omega
      go_wp2_with fail
      conv => arg 2; whnf
      go_wp2_with fail
      have KN : Kept [] w8 (w8.alloc (.cells #[.int .u64 0, .int .u64 0, .int .u64 0, .int .u64 0] 38)) := (Kept.refl [] w8).alloc _
      have KW : Kept [rb] W (w8.alloc (.cells #[.int .u64 0, .int .u64 0, .int .u64 0, .int .u64 0] 38)) := HR.out.2.alloc _
      have hs8 := HR.out.2.size
      have hrl := HR.out.1.lt
      have h1W := H0.out.2.2.1
      refine (next_alt _ rb w8.heap.size pb cp 0 (.bool false) cv cm vb mb k ab ca len0 mmb cnt cmm ml neg nc xb cx V M X (fun _ => false) k t (HR.out.1.kept KN (by simp)) (HA.out.kept KN (by simp)) (Nat.le_refl _) HT.out (isSet_zero w8) (H0.out.2.1.kept KW h1W (by simpa using H0.out.2.2.2.1)) (Nat.lt_of_lt_of_le h1W KW.size)
        ⟨by omega, H0.out.2.2.2.1, by omega⟩ (fun b hb => ⟨H0.out.2.2.2.2.1 b hb, by have := HA.out.blocks b hb; omega⟩)).mono ?_
      rintro e w2 ⟨k1, k', t', k2, k3, k4⟩
      have KF : Hid (Kept [rb] W w2) := KW.trans k1 (fun x hx => by
        simp only [List.mem_cons, List.not_mem_nil, or_false] at hx
        rcases hx with rfl | rfl
        · exact .inl (by simp)
        · exact .inr hs8)
      rcases k4 with ⟨rfl, _, q3⟩ | ⟨rfl, q2, _⟩
      · clear k1 k2 k3 q3 KN KW
        go_wp2
        go_returns
        exact ⟨rfl, H0.out.2.2.2.2.2.2.2.2.1 _ KF.out⟩
      · exact absurd q2 (Nat.lt_irrefl _)
end Go.Proofs.YbulkoqcDoor
