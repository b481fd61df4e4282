/- LawS0756BCut: the law's text from a given statement on, as declarations of their own. Own work over this program's translation. -/
import Derived.Test.YbulkoqcCutTail2
namespace Go.Proofs.Ybulkoqc
open Go.RowKit
set_option linter.unusedVariables false

/-- The cells of k alternates that have nothing but their place. -/
def altCells (z : Nat → Int) (k : Nat) : List Value := (List.range k).flatMap fun j => [.int .i64 (z j), .slice none 0 0, .bool false, .bool false]

theorem altCells_succ (z : Nat → Int) (k : Nat) : altCells z (k + 1) = altCells z k ++ [.int .i64 (z k), .slice none 0 0, .bool false, .bool false] := by
  unfold altCells
  rw [List.range_succ, List.flatMap_append]
  simp

theorem altCells_len (z : Nat → Int) (k : Nat) : (altCells z k).length = k * 4 := by
  induction k with
  | zero => rfl
  | succ k ih => rw [altCells_succ, List.length_append, ih]; simp; omega

theorem altCells_at (z : Nat → Int) (k : Nat) : ∀ j, j < k → (altCells z k)[j * 4]? = some (.int .i64 (z j)) := by
  induction k with
  | zero => intro j hj; omega
  | succ k ih =>
    intro j hj
    have hl := altCells_len z k
    rw [altCells_succ]
    by_cases h : j < k
    · rw [List.getElem?_append_left (by omega)]; exact ih j h
    · obtain rfl : j = k := by omega
      rw [List.getElem?_append_right (by omega), hl, Nat.sub_self]; rfl

theorem lawRest13 : dropSeq 13 (Yba.f4.body.getD .skip) = (headSeq 13 (Yba.f4.body.getD .skip)).seq ((headSeq 14 (Yba.f4.body.getD .skip)).seq ((headSeq 15 (Yba.f4.body.getD .skip)).seq ((headSeq 16 (Yba.f4.body.getD .skip)).seq ((headSeq 17 (Yba.f4.body.getD .skip)).seq ((headSeq 18 (Yba.f4.body.getD .skip)).seq (dropSeq 19 (Yba.f4.body.getD .skip))))))) := by kernel_rfl

set_option maxRecDepth 100000 in
set_option maxHeartbeats 4000000 in
theorem cut_tail1 (R : World → Prop) (W : World) (B : Nat) (hR : ∀ w', Below B W w' → R w') (a0 a1 a5 aa : Option Addr) (b0 o0 b1 o1 b5 o5 len0 cap0 len1 cap1 k cap5 ca n f wn gv gm base : Nat) (kk : Int) (z0 z1 z5 : Nat → Int) (V M : List Value)
    (hk : k ≤ 256) (hn : n ≤ 1024) (hn0 : n ≤ len0) (hn1 : n ≤ len1) (hl0 : len0 ≤ 1024) (hl1 : len1 ≤ 1024) (hf : f ≤ n) (hwn : wn < 40) (hk0 : 0 ≤ kk) (hk1 : kk ≤ 65535)
    (hBv : B ≤ gv) (hBm : B ≤ gm) (hvm : gv ≠ gm) (hbv : gv < base) (hbm : gm < base) (hbW : base ≤ W.heap.size)
    (h0 : 0 < len0 → a0 = some ⟨b0, o0, none⟩ ∧ b0 < B) (h1 : 0 < len1 → a1 = some ⟨b1, o1, none⟩ ∧ b1 < B) (h5 : 0 < k → a5 = some ⟨b5, o5, none⟩ ∧ b5 < B)
    (hc0 : ∀ j, j < len0 → W.cell? ⟨b0, o0 + j, none⟩ = some (.int .u8 (z0 j))) (hc1 : ∀ j, j < len1 → W.cell? ⟨b1, o1 + j, none⟩ = some (.int .u8 (z1 j))) (hc5 : ∀ j, j < k → W.cell? ⟨b5, o5 + j, none⟩ = some (.int .i64 (z5 j)))
    (hVl : V.length = n) (hV : V = (List.range n).map (fun j => Value.int .u8 (z0 j))) (hMl : M.length = n) (hM : M = (List.range n).map (fun j => Value.int .u8 (z1 j)))
    (ov : W.ownsRow 0 5 1 (.slice (some ⟨gv, 0, none⟩) n n) n V) (om : W.ownsRow 0 5 1 (.slice (some ⟨gm, 0, none⟩) n n) n M)
    (oa : W.ownsRow base 40 4 (.slice aa k ca) k (altCells z5 k))
    (u2 u3 u6 u7 u8 u9 u10 u11 u12 u19 u20 u21 u22 u23 u24 u25 u26 u27 u28 u29 u30 u31 u32 u33 u34 u35 u36 u37 u38 u39 u40 u41 u42 u43 u44 u45 u46 u47 u48 u49 u50 u51 u52 u53 u54 u55 u56 u57 u58 u59 u60 u61 u62 u63 u64 u65 u66 u67 u68 u69 u70 u71 u72 u73 u74 u75 u76 u77 u78 u79 u80 u81 u82 u83 u84 u85 u86 u87 u88 u89 u90 u91 u92 u93 u94 u95 u96 u97 u98 u99 u100 u101 u102 u103 u104 u105 u106 u107 u108 u109 u110 u111 u112 u113 u114 u115 u116 u117 u118 u119 u120 u121 u122 u123 u124 u125 u126 u127 u128 u129 u130 u131 u132 u133 u134 u135 u136 u137 u138 u139 u140 u141 u142 u143 u144 u145 u146 u147 u148 u149 u150 u151 u152 u153 u154 u155 u156 u157 u158 u159 u160 u161 u162 u163 u164 u165 u166 u167 u168 u169 u170 u171 u172 u173 u174 u175 u176 u177 u178 u179 u180 u181 u182 u183 u184 u185 u186 u187 u188 u189 u190 u191 u192 u193 u194 u195 u196 u197 u198 u199 u200 u201 u202 u203 u204 u205 u206 u207 u208 u209 u210 u211 u212 u213 u214 u215 u216 u217 u218 u219 u220 u221 u222 u223 u224 u225 u226 u227 u228 u229 u230 u231 u232 u233 u234 u235 u236 u237 u238 u239 u240 u241 u242 u243 u244 u245 u246 u247 u248 u249 u250 u251 u252 u253 u254 u255 u256 u257 u258 u259 u260 u261 u262 u263 u264 u265 u266 u267 u268 u269 u270 u271 u272 u273 u274 u275 u276 u277 u278 u279 u280 u281 u282 u283 u284 u285 u286 u287 u288 u289 u290 u291 u292 u293 u294 u295 : Value) :
    Code.wp Yba.prog (dropSeq 13 (Yba.f4.body.getD .skip)) (bodyPost Yba.prog Yba.f4 fun e w' => e = .returned (.bool true) ∧ R w') ⟨#[.slice a0 len0 cap0, .slice a1 len1 cap1, u2, u3, .int .u16 kk, .slice a5 k cap5, u6, u7, u8, u9, u10, u11, u12, .int .i64 (n : Int), .slice (some ⟨gv, 0, none⟩) n n, .slice (some ⟨gm, 0, none⟩) n n, .int .i64 (f : Int), .int .i64 (wn : Int), .slice aa k ca, u19, u20, u21, u22, u23, u24, u25, u26, u27, u28, u29, u30, u31, u32, u33, u34, u35, u36, u37, u38, u39, u40, u41, u42, u43, u44, u45, u46, u47, u48, u49, u50, u51, u52, u53, u54, u55, u56, u57, u58, u59, u60, u61, u62, u63, u64, u65, u66, u67, u68, u69, u70, u71, u72, u73, u74, u75, u76, u77, u78, u79, u80, u81, u82, u83, u84, u85, u86, u87, u88, u89, u90, u91, u92, u93, u94, u95, u96, u97, u98, u99, u100, u101, u102, u103, u104, u105, u106, u107, u108, u109, u110, u111, u112, u113, u114, u115, u116, u117, u118, u119, u120, u121, u122, u123, u124, u125, u126, u127, u128, u129, u130, u131, u132, u133, u134, u135, u136, u137, u138, u139, u140, u141, u142, u143, u144, u145, u146, u147, u148, u149, u150, u151, u152, u153, u154, u155, u156, u157, u158, u159, u160, u161, u162, u163, u164, u165, u166, u167, u168, u169, u170, u171, u172, u173, u174, u175, u176, u177, u178, u179, u180, u181, u182, u183, u184, u185, u186, u187, u188, u189, u190, u191, u192, u193, u194, u195, u196, u197, u198, u199, u200, u201, u202, u203, u204, u205, u206, u207, u208, u209, u210, u211, u212, u213, u214, u215, u216, u217, u218, u219, u220, u221, u222, u223, u224, u225, u226, u227, u228, u229, u230, u231, u232, u233, u234, u235, u236, u237, u238, u239, u240, u241, u242, u243, u244, u245, u246, u247, u248, u249, u250, u251, u252, u253, u254, u255, u256, u257, u258, u259, u260, u261, u262, u263, u264, u265, u266, u267, u268, u269, u270, u271, u272, u273, u274, u275, u276, u277, u278, u279, u280, u281, u282, u283, u284, u285, u286, u287, u288, u289, u290, u291, u292, u293, u294, u295], []⟩ W := by
  have H0 : Hid ((0 < len0 → a0 = some ⟨b0, o0, none⟩ ∧ b0 < B) ∧ ∀ j, j < len0 → W.cell? ⟨b0, o0 + j, none⟩ = some (.int .u8 (z0 j))) := ⟨h0, hc0⟩
  have H1 : Hid ((0 < len1 → a1 = some ⟨b1, o1, none⟩ ∧ b1 < B) ∧ ∀ j, j < len1 → W.cell? ⟨b1, o1 + j, none⟩ = some (.int .u8 (z1 j))) := ⟨h1, hc1⟩
  have H5 : Hid ((0 < k → a5 = some ⟨b5, o5, none⟩ ∧ b5 < B) ∧ ∀ j, j < k → W.cell? ⟨b5, o5 + j, none⟩ = some (.int .i64 (z5 j))) := ⟨h5, hc5⟩
  have HV : Hid (V = (List.range n).map (fun j => Value.int .u8 (z0 j))) := hV
  have HVl : Hid (V.length = n) := hVl
  have HM : Hid (M = (List.range n).map (fun j => Value.int .u8 (z1 j))) := hM
  have HMl : Hid (M.length = n) := hMl
  have OV : Hid (W.ownsRow 0 5 1 (.slice (some ⟨gv, 0, none⟩) n n) n V) := ov
  have OM : Hid (W.ownsRow 0 5 1 (.slice (some ⟨gm, 0, none⟩) n n) n M) := om
  have OA : Hid (W.ownsRow base 40 4 (.slice aa k ca) k (altCells z5 k)) := oa
  have HR : Hid (∀ w', Below B W w' → R w') := hR
  clear h0 h1 h5 hc0 hc1 hc5 hV hVl hM hMl ov om oa hR
  rw [lawRest13]
  conv => arg 2; arg 1; whnf
  conv => arg 2; arg 2; arg 1; whnf
  conv => arg 2; arg 2; arg 2; arg 1; whnf
  conv => arg 2; arg 2; arg 2; arg 2; arg 1; whnf
  conv => arg 2; arg 2; arg 2; arg 2; arg 2; arg 1; whnf
  conv => arg 2; arg 2; arg 2; arg 2; arg 2; arg 2; arg 1; whnf
  go_wp2_with fail
  refine (endPart_cut W.heap.size gv gm n n n f wn kk 3 1 2 true V M aa k ca _ (by simp) (by omega) (by omega) hf hk0 hk1 (by omega) (by omega) ?q6 ?q10 ?q11 ?q12 ?q13 ?q14 ?q15 ?q16 ?q19 ?q20 ?q21 ?q22 ?qf (by omega) (by omega) (by omega) (OV.out.alloc _) (OM.out.alloc _)).mono ?_
  case qf =>
    intro o
    simp only [World.frozen?, heap_alloc_new]
    simp
  case q6 => simp [World.cell?_alloc_at]
  case q10 => simp [World.cell?_alloc_at]
  case q11 => simp [World.cell?_alloc_at]
  case q12 => simp [World.cell?_alloc_at]
  case q13 => simp [World.cell?_alloc_at]
  case q14 => simp [World.cell?_alloc_at]
  case q15 => simp [World.cell?_alloc_at]
  case q16 => simp [World.cell?_alloc_at]
  case q19 => simp [World.cell?_alloc_at]
  case q20 => simp [World.cell?_alloc_at]
  case q21 => simp [World.cell?_alloc_at]
  case q22 => simp [World.cell?_alloc_at]
  rintro e w6 ⟨rfl, hE⟩
  obtain ⟨kept6, x9, x10, x11, x12, x13, x14, x15, x17, x21, x22, g, capg, g1, cap1', g2, cap2', ov, hov, x16, x19, x20, xg0, xg1, xg2, own1, own2⟩ := hE
  have y9 : w6.cell? ⟨W.heap.size, 9, none⟩ = some (.slice none 0 0) := by rw [x9]; simp [World.cell?_alloc_at]
  have y17 : w6.cell? ⟨W.heap.size, 17, none⟩ = some (.slice none 0 0) := by rw [x17]; simp [World.cell?_alloc_at]
  obtain ⟨L, hL⟩ : ∃ L, n + wn - f = L := ⟨_, rfl⟩
  rw [hL] at xg0 xg1
  have hLi : (n : Int) - (f : Int) + (wn : Int) = (L : Int) := by omega
  have HLf : Hid (f + L = n + wn) := by show _ = _; omega
  have hLle : L ≤ 1064 := by omega
  have HOV : Hid (f < n + wn → ov = f) := hov
  have HBW : Hid (Below B W w6) := ((Below.refl B W).alloc (by omega) _).trans (kept6.below B (by simp; omega) (by intro x hx; simp at hx; omega))
  have HOA : Hid (w6.ownsRow base 40 4 (.slice aa k ca) k (altCells z5 k)) :=
    kept6.owns (OA.out.alloc _) (fun x hx => by have := OA.out.lt x hx; simp; omega)
  have hg1 : g1 < w6.heap.size := (own1.lt g1 rfl).2
  have hg2 : g2 < w6.heap.size := (own2.lt g2 rfl).2
  have hbw : W.heap.size < w6.heap.size := by have := kept6.size; simp at this; omega
  have HX : Hid (∀ o o', (w6.alloc o').cell? ⟨W.heap.size, o, none⟩ = w6.cell? ⟨W.heap.size, o, none⟩) := fun o o' => World.cell?_alloc_past _ _ _ hbw
  have HR1 : Hid (∀ j, j < L → ∀ o, (w6.alloc o).cell? ⟨g1, ov + j, none⟩ = some (.int .u8 (if f + j < n then z0 (f + j) else 0))) := by
    intro j hj o
    have hf := HLf.out
    rw [HOV.out (by omega), World.cell?_alloc_past _ _ _ hg1]
    have := own1.cells (g := g1) rfl (f + j) (.int .u8 (if f + j < n then z0 (f + j) else 0)) (by
      by_cases h : f + j < n
      · rw [List.getElem?_append_left (by rw [HVl.out]; exact h), HV.out, if_pos h]; simp [h]
      · rw [List.getElem?_append_right (by rw [HVl.out]; omega), HVl.out, if_neg h, List.getElem?_replicate, if_pos (by omega)])
    simpa [Addr.add_lit] using this
  have HR2 : Hid (∀ j, j < L → ∀ o, (w6.alloc o).cell? ⟨g2, ov + j, none⟩ = some (.int .u8 (if f + j < n then z1 (f + j) else 0))) := by
    intro j hj o
    have hf := HLf.out
    rw [HOV.out (by omega), World.cell?_alloc_past _ _ _ hg2]
    have := own2.cells (g := g2) rfl (f + j) (.int .u8 (if f + j < n then z1 (f + j) else 0)) (by
      by_cases h : f + j < n
      · rw [List.getElem?_append_left (by rw [HMl.out]; exact h), HM.out, if_pos h]; simp [h]
      · rw [List.getElem?_append_right (by rw [HMl.out]; omega), HMl.out, if_neg h, List.getElem?_replicate, if_pos (by omega)])
    simpa [Addr.add_lit] using this
  clear kept6 x9 x17 hov own1 own2 hL OV OM OA
  go_wp2_with fail
  have hbb := HBW.out.size
  have old : ∀ (p : Addr) (o : Obj), p.block < B → (w6.alloc o).cell? p = W.cell? p := fun p o hp => (World.cell?_alloc_lt w6 o p (by omega)).trans (HBW.out.cell hp)
  obtain ⟨ga, hga⟩ : ∃ ga, (0 < k → aa = some ⟨ga, 0, none⟩) ∧ ∀ j, j < k → ∀ o, (w6.alloc o).cell? ⟨ga, j * 4, none⟩ = some (.int .i64 (z5 j)) := by
    by_cases hp : 0 < k
    · obtain ⟨ga, cga, hg, _, hgal⟩ := HOA.out.form hp
      have hga1 : aa = some ⟨ga, 0, none⟩ := by injection hg
      refine ⟨ga, fun _ => hga1, fun j hj o => ?_⟩
      rw [World.cell?_alloc_past _ _ _ hgal]
      have := HOA.out.cells (g := ga) (by rw [hga1]; rfl) (j * 4) _ (altCells_at z5 k j hj)
      simpa [Addr.add_lit] using this
    · exact ⟨0, fun h => absurd h hp, fun j hj => by omega⟩
  refine cut_tail2 R _ (fun q => HR.out _ ?_) a0 a1 a5 aa W.heap.size w6.heap.size b0 o0 b1 o1 b5 o5 ga len0 cap0 len1 cap1 k cap5 ca n f wn cap1' cap2' L g1 g2 ov kk (some ⟨g1, 0, none⟩) (some ⟨g2, 0, none⟩) z0 z1 z5
    hk hn hn0 hn1 hl0 hl1 hf hLle hwn hk0 hk1 ?_ ?_ ?_ ?_ ?_ ?_ ?_ ?_ ?_ ?_ ?_ ?_ ?_ ?_ ?_ ?_ ?_ ?_ ?_ ?_ ?_ ?_ _ _ _ _ _ _ _ _ _ _ _ _ _ _ _ _ _ _ _ _ _ _ _ _ _ _ _ _ _ _ _ _ _ _ _ _ _ _ _ _ _ _ _ _ _ _ _ _ _ _ _ _ _ _ _ _ _ _ _ _ _ _ _ _ _ _ _ _ _ _ _ _ _ _ _ _ _ _ _ _ _ _ _ _ _ _ _ _ _ _ _ _ _ _ _ _ _ _ _ _ _ _ _ _ _ _ _ _ _ _ _ _ _ _ _ _ _ _ _ _ _ _ _ _ _ _ _ _ _ _ _ _ _ _ _ _ _ _ _ _ _ _ _ _ _ _ _ _ _ _ _ _ _ _ _ _ _ _ _ _ _ _ _ _ _ _ _ _ _ _ _ _ _ _ _ _ _ _ _ _ _ _ _ _ _ _ _ _ _ _ _ _ _ _ _ _ _ _ _ _ _ _ _ _ _ _ _ _ _ _ _ _ _ _ _ _ _ _ _ _ _ _ _ _ _ _ _ _ _ _ _ _ _ _ _ _ _ _ _ _ _ _ _ _ _ _ _ _ _ _ _ _ _ _ _ _ _ _ _ _ _ _ _ _ _ _ _ _ _ _ _ _ _ _ _ _ _ _ _ _ _ _ _ _ _ _
  · have := HBW.out.alloc (by omega) (.cells #[.slice (some ⟨g1, ov, none⟩) L L, .slice (some ⟨g2, ov, none⟩) L L, .slice aa k ca] 42)
    exact ⟨this.os, this.tape, this.output, this.size, this.block⟩
  · rw [HX.out]; exact y9
  · rw [HX.out]; exact x10
  · rw [HX.out]; exact x11
  · rw [HX.out]; exact x12
  · rw [HX.out]; exact x13
  · rw [HX.out]; exact x14
  · rw [HX.out]; exact x15
  · rw [HX.out]; exact x19
  · rw [HX.out]; exact x20
  · rw [HX.out]; exact x21
  · rw [HX.out]; exact x22
  · exact World.cell?_alloc_new _ _ _ _
  · exact World.cell?_alloc_new _ _ _ _
  · exact World.cell?_alloc_new _ _ _ _
  · exact fun h => (H0.out.1 h).1
  · exact fun h => (H1.out.1 h).1
  · exact fun j hj => (old ⟨b0, o0 + j, none⟩ _ (H0.out.1 (by omega)).2).trans (H0.out.2 j hj)
  · exact fun j hj => (old ⟨b1, o1 + j, none⟩ _ (H1.out.1 (by omega)).2).trans (H1.out.2 j hj)
  · exact fun j hj => HR1.out j hj _
  · exact fun j hj => HR2.out j hj _
  · exact fun h => ⟨(H5.out.1 h).1, hga.1 h⟩
  · exact fun j hj => ⟨(old ⟨b5, o5 + j, none⟩ _ (H5.out.1 (by omega)).2).trans (H5.out.2 j hj), hga.2 j hj _⟩

end Go.Proofs.Ybulkoqc
