/- LawS0756AAlt from the members on. Own work over this program's translation. -/
import Derived.Test.YbulkoqcDoorAltMid
import Derived.Deep.RegionHeld3
namespace Go.Proofs.YbulkoqcDoor
open Go.RowKit
set_option linter.unusedVariables false
set_option linter.unusedSimpArgs false

theorem Ybad.info23 : (Ybad.prog.info? 23).map (fun i => (i.zero, i.size, i.bytes)) = some (some (.slice none 0 0), 1, 24) := by kernel_rfl

theorem altRest8 : dropSeq 8 (Ybad.f4.body.getD .skip) = (headSeq 8 (Ybad.f4.body.getD .skip)).seq ((headSeq 9 (Ybad.f4.body.getD .skip)).seq (dropSeq 10 (Ybad.f4.body.getD .skip))) := by kernel_rfl

theorem Below.cell_alloc2 (w : World) (o : Obj) (p : Addr) (h : p.block < w.heap.size) : (w.alloc o).cell? p = w.cell? p := World.cell?_of_block (Below.heap_alloc w o p.block h)

theorem own_some2 {w : World} {base n cap s : Nat} {e : TypeId} {a : Option Addr} {xs : List Value} (h : w.ownsRow base e s (.slice a n cap) n xs) (h0 : 0 < w.heap.size) : ∃ g, g < w.heap.size ∧ (0 < n → a = some ⟨g, 0, none⟩) := by
  rcases h.2 with ⟨h1, _⟩ | ⟨g, cap', cur, h1, _, hh, _⟩
  · simp at h1
    exact ⟨0, h0, fun hn => by omega⟩
  · simp at h1
    exact ⟨g, lt_of_block hh, fun _ => h1.1⟩

/-- The law's own table. -/
def tbl (d : Nat) : Nat := ([97, 90, 48, 32, 0, 255, 123, 64, 113] : List Nat).getD d 0
/-- The members' bytes. -/
def memX (z4 : Nat → Nat) (len4 ml j i : Nat) : Nat := tbl ((if len4 = 0 then 0 else z4 ((j * ml + i) % len4)) % 9)
theorem tbl_at (d : Nat) (h : d < 9) : (({ data := #[97, 90, 48, 32, 0, 255, 123, 64, 113] } : ByteArray)[d]'(by exact h)).toNat = tbl d := by
  match d, h with
  | 0, _ => rfl
  | 1, _ => rfl
  | 2, _ => rfl
  | 3, _ => rfl
  | 4, _ => rfl
  | 5, _ => rfl
  | 6, _ => rfl
  | 7, _ => rfl
  | 8, _ => rfl
theorem tbl_lt : ∀ d, d < 9 → tbl d < 256 := by decide
theorem memX_lt (z4 : Nat → Nat) (len4 ml j i : Nat) : memX z4 len4 ml j i < 256 := tbl_lt _ (Nat.mod_lt _ (by omega))

def mcell (xb : Nat → Nat) (ml j : Nat) : List Value := [.slice (some ⟨xb j, 0, none⟩) ml ml]
theorem mcell_len (xb : Nat → Nat) (ml j : Nat) : (mcell xb ml j).length = 1 := rfl
/-- The law's own table of members, the first k laid. -/
def TRow (w : World) (tb cnt k ml : Nat) (xb : Nat → Nat) : Prop := ∃ c : Array Value, w.heap[tb]? = some (.cells c 23 (0, 0)) ∧ c.size = cnt ∧ ∀ j, j < cnt → c[j]? = some (if j < k then .slice (some ⟨xb j, 0, none⟩) ml ml else .slice none 0 0)
theorem TRow.lt {w : World} {tb cnt k ml : Nat} {xb : Nat → Nat} (h : TRow w tb cnt k ml xb) : tb < w.heap.size := by obtain ⟨c, h, _⟩ := h; exact lt_of_block h
theorem TRow.cell {w : World} {tb cnt k ml : Nat} {xb : Nat → Nat} (h : TRow w tb cnt k ml xb) (j : Nat) (hj : j < cnt) : w.cell? ⟨tb, j, none⟩ = some (if j < k then .slice (some ⟨xb j, 0, none⟩) ml ml else .slice none 0 0) := by
  obtain ⟨c, h, _, hc⟩ := h
  rw [cell_at h]; exact hc j hj
theorem TRow.frozen {w : World} {tb cnt k ml : Nat} {xb : Nat → Nat} (h : TRow w tb cnt k ml xb) (j : Nat) : w.frozen? ⟨tb, j, none⟩ = false := by
  obtain ⟨c, h, _⟩ := h
  simp only [World.frozen?, h]; simp
theorem TRow.block {w w' : World} {tb cnt k ml : Nat} {xb : Nat → Nat} (h : TRow w tb cnt k ml xb) (e : w'.heap[tb]? = w.heap[tb]?) : TRow w' tb cnt k ml xb := by
  obtain ⟨c, h, r⟩ := h
  exact ⟨c, e.trans h, r⟩
theorem TRow.put {w : World} {tb cnt k ml x : Nat} {xb : Nat → Nat} (h : TRow w tb cnt k ml xb) (hk : k < cnt) : TRow (w.setCell ⟨tb, k, none⟩ (.slice (some ⟨x, 0, none⟩) ml ml)) tb cnt (k + 1) ml (fun j => if j = k then x else xb j) := by
  obtain ⟨c, h, hs, hc⟩ := h
  refine ⟨_, heap_setCell_at h _, by simpa using hs, fun j hj => ?_⟩
  rw [Array.getElem?_setIfInBounds]
  by_cases e : k = j
  · subst e
    rw [if_pos rfl, if_pos (by omega), if_pos (by omega)]
    simp
  · rw [if_neg e, hc j hj]
    by_cases h1 : j < k
    · rw [if_pos h1, if_pos (show j < k + 1 by omega)]
      simp only [if_neg (show ¬ j = k from fun h => e h.symm)]
    · rw [if_neg h1, if_neg (show ¬ j < k + 1 by omega)]

theorem conv_any (v : Value) (a : Option Addr) (n c : Nat) (w : World) : Calls Ybad.prog 10 #[v, .slice a n c] w fun e w' => e = .returned (.slice a n c) ∧ w' = w := by
  go_enter Ybad.func10, Ybad.ntmps10
  go_wp2
  go_returns
  exact ⟨rfl, rfl⟩

/-- One member more: what the round leaves. -/
theorem mem_step (W1 w3 w5 : World) (al tb cnt j ml gg cap len4 : Nat) (pa : Option Addr) (pc : Nat) (xb z4 : Nat → Nat) {o : Obj} {xs : List Value} (v : Value) (hal : al < W1.heap.size) (htb : tb < W1.heap.size) (hne : al ≠ tb)
    (hown : w3.ownsRow W1.heap.size 23 1 (.slice pa j pc) j xs) (hT : TRow w3 tb cnt (j + 1) ml xb) (K : Kept [al, tb] W1 w3)
    (hx : ∀ i, i < j + 1 → W1.heap.size ≤ xb i ∧ (∀ g, (Value.slice pa j pc).ownBlock = some g → g ≠ xb i) ∧ IsRow8 w3 (xb i) (memX z4 len4 ml i) ml ml)
    (hgrow : (w3.drew.alloc o).grownBy w5 (Value.slice pa j pc).ownBlock) (hat : (Value.slice pa j pc).ownBlock = some gg ∨ gg = w3.heap.size + 1) :
    gg ≠ al ∧ Kept [al, tb] W1 w5 ∧ TRow (w5.setCell ⟨al, 1, none⟩ v) tb cnt (j + 1) ml xb ∧
      ∀ i, i < j + 1 → W1.heap.size ≤ xb i ∧ (∀ g, (Value.slice (some ⟨gg, 0, none⟩) (j + 1) cap).ownBlock = some g → g ≠ xb i) ∧ IsRow8 (w5.setCell ⟨al, 1, none⟩ v) (xb i) (memX z4 len4 ml i) ml ml := by
  have hs3 : W1.heap.size ≤ w3.heap.size := K.size
  have old : ∀ b, b < w3.heap.size → (Value.slice pa j pc).ownBlock ≠ some b → w5.heap[b]? = w3.heap[b]? := fun b hb hn =>
    (hgrow.block b (by simp; omega) (fun e => hn e.symm)).trans (Below.heap_alloc w3.drew o b hb)
  have hgg : ∀ b, b < w3.heap.size → (Value.slice pa j pc).ownBlock ≠ some b → gg ≠ b := fun b hb hn e => by
    subst e
    rcases hat with h | h
    · exact hn h
    · omega
  have na : (Value.slice pa j pc).ownBlock ≠ some al := fun h => by have := (hown.lt _ h).1; omega
  have nt : (Value.slice pa j pc).ownBlock ≠ some tb := fun h => by have := (hown.lt _ h).1; omega
  refine ⟨hgg al (by omega) na, (K.drew.alloc _).grown hgrow (fun b hb => .inr (hown.lt b hb).1), hT.block ((Below.heap_setCell _ _ _ _ (fun h => hne h.symm)).trans (old tb (by omega) nt)), fun i hi => ?_⟩
  obtain ⟨r1, r2, r3⟩ := hx i hi
  have l := r3.lt
  have n1 : (Value.slice pa j pc).ownBlock ≠ some (xb i) := fun h => r2 _ h rfl
  refine ⟨r1, fun g hg => ?_, (r3.block (old _ l n1)).other (by omega) _⟩
  simp [Value.ownBlock] at hg
  subst hg
  exact hgg (xb i) l n1

set_option maxRecDepth 100000 in
set_option maxHeartbeats 4000000 in
theorem alt_mem (R : World → Prop) (W : World) (a0 : Option Addr) (b0 o0 len0 cap0 : Nat) (a1 : Option Addr) (b1 o1 len1 cap1 : Nat) (a4 : Option Addr) (b4 o4 len4 cap4 al cnt ml : Nat) (neg nc : Bool) (zp zq z4 : Nat → Nat) (seed : Nat)
    (hR : ∀ w', Kept [al] W w' → R w') (hsd : seed < 18446744073709551616) (hl0 : len0 ≤ 256) (hl1 : len1 ≤ 256) (hl4 : len4 ≤ 1024) (hml : 0 < ml ∧ ml ≤ 4) (hcn : 0 < cnt ∧ cnt ≤ 3)
    (hI0 : (0 < len0 → a0 = some ⟨b0, o0, none⟩ ∧ b0 < W.heap.size ∧ b0 ≠ al) ∧ (∀ j, j < len0 → W.cell? ⟨b0, o0 + j, none⟩ = some (.int .u16 (zp j))) ∧ (∀ j, zp j < 65536)) (hI1 : (0 < len1 → a1 = some ⟨b1, o1, none⟩ ∧ b1 < W.heap.size ∧ b1 ≠ al) ∧ (∀ j, j < len1 → W.cell? ⟨b1, o1 + j, none⟩ = some (.int .u16 (zq j))) ∧ (∀ j, zq j < 65536)) (hI4 : (0 < len4 → a4 = some ⟨b4, o4, none⟩ ∧ b4 < W.heap.size ∧ b4 ≠ al) ∧ (∀ j, j < len4 → W.cell? ⟨b4, o4 + j, none⟩ = some (.int .u8 (z4 j))) ∧ (∀ j, z4 j < 256)) (hV : FullVar W) (h1l : 1 < W.heap.size) (h1a : 1 ≠ al)
    (hal : W.heap[al]? = some (.cells #[.int .i64 len0, .slice none 0 0, .bool neg, .bool nc] 49 (0, 0)))
    (u2 u3 u8 u9 u10 u11 u12 u13 u14 u15 u16 u20 u21 u22 u23 u24 u25 u26 u27 u28 u29 u30 u31 u32 u33 u34 u35 u36 u37 u38 u39 u40 u41 u42 u43 u44 u45 u46 u47 u48 u49 u50 u51 u52 u53 u54 u55 u56 u57 u58 u59 u60 u61 u62 u63 u64 u65 u66 u67 u68 u69 u70 u71 u72 u73 u74 u75 u76 u77 u78 u79 u80 u81 u82 u83 u84 u85 u86 u87 u88 u89 u90 u91 u92 u93 u94 u95 u96 u97 u98 u99 u100 u101 u102 u103 u104 u105 u106 u107 u108 u109 u110 u111 u112 u113 u114 u115 u116 u117 u118 u119 u120 u121 u122 u123 u124 u125 u126 u127 u128 u129 u130 u131 u132 u133 u134 u135 u136 u137 u138 u139 u140 u141 u142 u143 u144 u145 u146 u147 u148 u149 u150 u151 u152 u153 u154 u155 u156 u157 u158 u159 u160 u161 u162 u163 u164 u165 u166 u167 u168 u169 u170 u171 u172 u173 u174 u175 u176 u177 u178 u179 u180 u181 u182 u183 u184 u185 u186 u187 u188 u189 u190 u191 u192 u193 u194 u195 u196 u197 u198 u199 u200 u201 u202 u203 u204 u205 u206 u207 u208 u209 u210 u211 u212 u213 u214 u215 u216 u217 u218 u219 u220 u221 u222 u223 u224 u225 u226 u227 u228 u229 u230 u231 u232 u233 u234 u235 u236 u237 u238 u239 u240 u241 u242 u243 u244 u245 u246 u247 u248 u249 u250 u251 u252 u253 u254 u255 u256 u257 u258 u259 u260 u261 u262 u263 u264 u265 u266 u267 u268 u269 u270 u271 u272 u273 u274 u275 u276 u277 u278 u279 u280 u281 u282 u283 u284 u285 u286 u287 u288 u289 u290 u291 u292 u293 : Value) :
    Code.wp Ybad.prog (dropSeq 8 (Ybad.f4.body.getD .skip)) (bodyPost Ybad.prog Ybad.f4 fun e w' => e = .returned (.bool true) ∧ R w') ⟨#[.slice a0 len0 cap0, .slice a1 len1 cap1, u2, u3, .slice a4 len4 cap4, .bool nc, .bool neg, .int .u64 seed, u8, u9, u10, u11, u12, u13, u14, u15, u16, .int .i64 ml, .int .i64 cnt, .pointer (some ⟨al, 0, none⟩), u20, u21, u22, u23, u24, u25, u26, u27, u28, u29, u30, u31, u32, u33, u34, u35, u36, u37, u38, u39, u40, u41, u42, u43, u44, u45, u46, u47, u48, u49, u50, u51, u52, u53, u54, u55, u56, u57, u58, u59, u60, u61, u62, u63, u64, u65, u66, u67, u68, u69, u70, u71, u72, u73, u74, u75, u76, u77, u78, u79, u80, u81, u82, u83, u84, u85, u86, u87, u88, u89, u90, u91, u92, u93, u94, u95, u96, u97, u98, u99, u100, u101, u102, u103, u104, u105, u106, u107, u108, u109, u110, u111, u112, u113, u114, u115, u116, u117, u118, u119, u120, u121, u122, u123, u124, u125, u126, u127, u128, u129, u130, u131, u132, u133, u134, u135, u136, u137, u138, u139, u140, u141, u142, u143, u144, u145, u146, u147, u148, u149, u150, u151, u152, u153, u154, u155, u156, u157, u158, u159, u160, u161, u162, u163, u164, u165, u166, u167, u168, u169, u170, u171, u172, u173, u174, u175, u176, u177, u178, u179, u180, u181, u182, u183, u184, u185, u186, u187, u188, u189, u190, u191, u192, u193, u194, u195, u196, u197, u198, u199, u200, u201, u202, u203, u204, u205, u206, u207, u208, u209, u210, u211, u212, u213, u214, u215, u216, u217, u218, u219, u220, u221, u222, u223, u224, u225, u226, u227, u228, u229, u230, u231, u232, u233, u234, u235, u236, u237, u238, u239, u240, u241, u242, u243, u244, u245, u246, u247, u248, u249, u250, u251, u252, u253, u254, u255, u256, u257, u258, u259, u260, u261, u262, u263, u264, u265, u266, u267, u268, u269, u270, u271, u272, u273, u274, u275, u276, u277, u278, u279, u280, u281, u282, u283, u284, u285, u286, u287, u288, u289, u290, u291, u292, u293], []⟩ W := by
  obtain ⟨i5, hi5, hz50, hz51, hz52⟩ := info_parts Ybad.info5
  obtain ⟨i23, hi23, hz0, hz1, hz2⟩ := info_parts Ybad.info23
  have hall := lt_of_block hal
  have H0 : Hid (((0 < len0 → a0 = some ⟨b0, o0, none⟩ ∧ b0 < W.heap.size ∧ b0 ≠ al) ∧ (∀ j, j < len0 → W.cell? ⟨b0, o0 + j, none⟩ = some (.int .u16 (zp j))) ∧ (∀ j, zp j < 65536)) ∧ ((0 < len1 → a1 = some ⟨b1, o1, none⟩ ∧ b1 < W.heap.size ∧ b1 ≠ al) ∧ (∀ j, j < len1 → W.cell? ⟨b1, o1 + j, none⟩ = some (.int .u16 (zq j))) ∧ (∀ j, zq j < 65536)) ∧ ((0 < len4 → a4 = some ⟨b4, o4, none⟩ ∧ b4 < W.heap.size ∧ b4 ≠ al) ∧ (∀ j, j < len4 → W.cell? ⟨b4, o4 + j, none⟩ = some (.int .u8 (z4 j))) ∧ (∀ j, z4 j < 256)) ∧ FullVar W ∧ 1 < W.heap.size ∧ 1 ≠ al ∧ (∀ w', Kept [al] W w' → R w') ∧ W.heap[al]? = some (.cells #[.int .i64 len0, .slice none 0 0, .bool neg, .bool nc] 49 (0, 0))) := ⟨hI0, hI1, hI4, hV, h1l, h1a, hR, hal⟩
  clear hI0 hI1 hI4 hV h1l h1a hR hal
  rw [altRest8]
  conv => arg 2; arg 1; whnf
  go_wp2_with (at_make; refine wpList_make_full _ rfl _ _ 47 rfl W.heap.size 23 i23 (.slice none 0 0) 1 Ybad.underlying47 hi23 hz0 hz1 _ _ _ _ cnt rfl rfl rfl rfl ?m1 ?m2 ?m3 ?_)
  case m1 => rw [hz2]; omega
  case m2 => unfold maxLen; omega
  case m3 => omega
  intro W1 hown1 hgrow1
  obtain ⟨tb, htb⟩ : ∃ tb, W.heap.size = tb := ⟨_, rfl⟩
  have H1 : Hid (Kept [] W W1 ∧ TRow W1 tb cnt 0 ml (fun _ => 0) ∧ W.heap.size = tb ∧ W1.heap[al]? = some (.cells #[.int .i64 len0, .slice none 0 0, .bool neg, .bool nc] 49 (0, 0))) := by
    refine ⟨(Kept.refl [] W).grown hgrow1 (fun k hk => by cases hk), ?_, htb, (hgrow1.block al hall (by simp)).trans H0.out.2.2.2.2.2.2.2⟩
    have := own_block hown1
    rw [htb] at this
    refine ⟨_, this, ?_, fun j hj => ?_⟩
    · rw [toList_madeCells_one]; simp
    · rw [toList_madeCells_one]; simp [hj]
  rw [htb]
  clear hown1 hgrow1 htb
  go_wp2_with fail
  conv => arg 2; whnf
  go_wp2_with fail
  go_loopw [21] (fun x wr => ∃ (j : Nat) (pa : Option Addr) (pc : Nat) (xb : Nat → Nat), j ≤ cnt ∧ x = .int .i64 j ∧ wr.heap[al]? = some (.cells #[.int .i64 len0, .slice pa j pc, .bool neg, .bool nc] 49 (0, 0)) ∧ wr.ownsRow W1.heap.size 23 1 (.slice pa j pc) j (rowCells (mcell xb ml) j) ∧ TRow wr tb cnt j ml xb ∧ Kept [al, tb] W1 wr ∧ ∀ i, i < j → W1.heap.size ≤ xb i ∧ (∀ g, (Value.slice pa j pc).ownBlock = some g → g ≠ xb i) ∧ IsRow8 wr (xb i) (memX z4 len4 ml i) ml ml) (fun x _ => cnt - (intOf x).toNat)
  case atStart => exact ⟨0, none, 0, fun _ => 0, by omega, rfl, H1.out.2.2.2, World.ownsRow_nil _ _ _ _, H1.out.2.1, .refl _ _, fun i hi => by omega⟩
  case round =>
    obtain ⟨j, pa, pc, xb, hj, rfl, v1, v2, v3, v4, v5⟩ := hrel
    have HO : Hid (wr.heap[al]? = some (.cells #[.int .i64 len0, .slice pa j pc, .bool neg, .bool nc] 49 (0, 0)) ∧ wr.ownsRow W1.heap.size 23 1 (.slice pa j pc) j (rowCells (mcell xb ml) j) ∧ TRow wr tb cnt j ml xb ∧ Kept [al, tb] W1 wr ∧ ∀ i, i < j → W1.heap.size ≤ xb i ∧ (∀ g, (Value.slice pa j pc).ownBlock = some g → g ≠ xb i) ∧ IsRow8 wr (xb i) (memX z4 len4 ml i) ml ml) := ⟨v1, v2, v3, v4, v5⟩
    clear v1 v2 v3 v4 v5
    by_cases hjc : j < cnt
    · rename World => wj
      obtain ⟨q0, HQ0⟩ : ∃ q, Hid (j * ml = q) := ⟨_, rfl⟩
      have hmul : (j : Int) * (ml : Int) = (q0 : Int) := by rw [← HQ0.out]; simp
      have hq0 : q0 ≤ 12 := by rw [← HQ0.out]; exact Nat.le_trans (Nat.mul_le_mul (show j ≤ 3 by omega) hml.2) (by omega)
      go_wp2_with (at_make; refine wpList_make_full _ rfl _ _ 23 rfl wj.heap.size 5 i5 (.int .u8 0) 1 Ybad.underlying23 hi5 hz50 hz51 _ _ _ _ ml rfl rfl rfl rfl ?m1 ?m2 ?m3 ?_)
      case m1 => rw [hz52]; omega
      case m2 => unfold maxLen; omega
      case m3 => omega
      intro w2 hown2 hgrow2
      obtain ⟨xj, hxj⟩ : ∃ x, wj.heap.size = x := ⟨_, rfl⟩
      have H2 : Hid (IsRow8 w2 xj (memX z4 len4 ml j) ml 0 ∧ Kept [] wj w2 ∧ wj.heap.size = xj) := by
        refine ⟨?_, (Kept.refl [] wj).grown hgrow2 (fun k hk => by cases hk), hxj⟩
        have := own_block hown2
        rw [hxj] at this
        unfold IsRow8
        show _ = _
        rw [rowTo_zero, this, toList_madeCells_one]
      rw [hxj]
      clear hown2 hgrow2 hxj
      go_wp2_with fail
      go_loopw [23] (fun x wy => ∃ i : Nat, i ≤ ml ∧ x = .int .i64 i ∧ IsRow8 wy xj (memX z4 len4 ml j) ml i ∧ Kept [xj] w2 wy) (fun x _ => ml - (intOf x).toNat)
      case atStart => exact ⟨0, by omega, rfl, H2.out.1, .refl _ _⟩
      case round =>
        obtain ⟨i, hi, rfl, y1, y2⟩ := hrel
        have HY : Hid (IsRow8 wr xj (memX z4 len4 ml j) ml i ∧ Kept [xj] w2 wr) := ⟨y1, y2⟩
        clear y1 y2
        by_cases him : i < ml
        · have KW : Hid (Kept [al] W wr) := by
            have h1 := H1.out.2.2.1
            have h2 := H2.out.2.2
            have h3 := HO.out.2.2.2.1.size
            have h4 := H1.out.1.size
            exact (((H1.out.1.widen (T := [al]) (by simp)).trans HO.out.2.2.2.1 (fun x hx => by
              simp only [List.mem_cons, List.not_mem_nil, or_false] at hx
              rcases hx with rfl | rfl
              · exact .inl (by simp)
              · exact .inr (by omega))).trans H2.out.2.1 (by simp)).trans HY.out.2 (fun x hx => .inr (by simp at hx; omega))
          have c1 := HY.out.1.cell i him
          have c2 := HY.out.1.frozen i
          have b1 : (0 : Int) ≤ (i : Int) := by omega
          have b2 : (i : Int) < (ml : Int) := by omega
          obtain ⟨zz, HZ⟩ : ∃ zz, Hid ((if len4 = 0 then 0 else z4 ((j * ml + i) % len4)) = zz) := ⟨_, rfl⟩
          have hz : zz < 256 := by
            rw [← HZ.out]
            split
            · omega
            · exact H0.out.2.2.1.2.2 _
          go_upto_if 88 with fail
          go_cut [24] from 81 to 106 (fun s wx => s = .int .u8 (zz : Nat) ∧ wr = wx)
          case first =>
            by_cases h0 : len4 = 0
            · have hzz : zz = 0 := by rw [← HZ.out, if_pos h0]
              subst hzz
              subst h0
              go_wp2_with fail
              go_meet
              exact ⟨rfl, rfl⟩
            · have e0 : (0 : Int) < (len4 : Int) := by omega
              obtain ⟨ha, hbl, hbf⟩ := H0.out.2.2.1.1 (by omega)
              subst ha
              have hm : (q0 + i) % len4 < len4 := Nat.mod_lt _ (by omega)
              have hzz : z4 ((q0 + i) % len4) = zz := by rw [← HZ.out, if_neg h0, HQ0.out]
              have x2 : wr.cell? ⟨b4, o4 + (q0 + i) % len4, none⟩ = some (.int .u8 (z4 ((q0 + i) % len4))) := (KW.out.cell (p := ⟨b4, o4 + (q0 + i) % len4, none⟩) hbl (by simpa using hbf)).trans (H0.out.2.2.1.2.1 _ hm)
              rw [hzz] at x2
              have e1 : Int.tmod ((q0 : Int) + (i : Int)) (len4 : Int) = (((q0 + i) % len4 : Nat) : Int) := by rw [show ((q0 : Int) + (i : Int)) = ((q0 + i : Nat) : Int) by omega]; generalize q0 + i = s; rw [Int.tmod_eq_emod_of_nonneg (by omega)]; omega
              generalize (q0 + i) % len4 = mm at x2 hm e1
              go_wp2_with fail
              go_meet
              exact ⟨rfl, rfl⟩
          case rest =>
            obtain ⟨rfl, hwc⟩ := hcut
            subst hwc
            go_wp2_with fail
            have hput : wr.setCell ⟨xj, i, none⟩ (.int .u8 ((tbl (zz % 9) : Nat) : Int)) = wr.setCell ⟨xj, i, none⟩ (.int .u8 ((memX z4 len4 ml j i : Nat) : Int)) := by unfold memX; rw [HZ.out]
            rw [tbl_at (zz % 9) (Nat.mod_lt _ (by omega)), hput]
            exact ⟨⟨i + 1, by omega, by go_num, HY.out.1.put him, HY.out.2.setCell (.inl (by simp)) _⟩, by simp [intOf]; omega⟩
        · obtain rfl : ml = i := by omega
          have h2 := H2.out.2.2
          have h3 := HO.out.2.2.2.1.size
          have h4 := H1.out.1.size
          have h5 := H1.out.2.2.1
          have h6 := H1.out.2.1.lt
          have KJ : Hid (Kept [xj] wj wr) := (H2.out.2.1.widen (by simp)).trans HY.out.2 (by simp)
          have LL : Hid (al < W1.heap.size ∧ tb < W1.heap.size ∧ al ≠ tb) := ⟨by omega, h6, by omega⟩
          have TJ : Hid (TRow wr tb cnt j ml xb) := HO.out.2.2.1.block (KJ.out.block tb (by omega) (by simp; omega))
          have c1 := TJ.out.cell j hjc
          rw [if_neg (Nat.lt_irrefl j)] at c1
          have c2 := TJ.out.frozen j
          have b1 : (0 : Int) ≤ (j : Int) := by omega
          have b2 : (j : Int) < (cnt : Int) := by omega
          obtain ⟨xc, hxc⟩ : ∃ xc : Nat → Nat, xc = fun i => if i = j then xj else xb i := ⟨_, rfl⟩
          have HXJ : Hid (xc j = xj) := by show xc j = xj; rw [hxc]; simp
          have HXO : Hid (∀ i, i < j → xc i = xb i) := fun i hi => by rw [hxc]; simp only [if_neg (show ¬ i = j by omega)]
          have KS : ∀ v, Kept [al, tb] W1 (wr.setCell ⟨tb, j, none⟩ v) := fun v => ((HO.out.2.2.2.1.trans KJ.out (fun x hx => .inr (by simp at hx; omega))).setCell (.inl (by simp)) v)
          have ST : ∀ v b, b < wj.heap.size → b ≠ tb → (wr.setCell ⟨tb, j, none⟩ v).heap[b]? = wj.heap[b]? := fun v b hb hn => (Below.heap_setCell _ _ _ _ hn).trans (KJ.out.block b hb (by simp; omega))
          have A3 : Hid (∀ w3, w3 = wr.setCell ⟨tb, j, none⟩ (.slice (some ⟨xj, 0, none⟩) ml ml) → w3.heap[al]? = some (.cells #[.int .i64 len0, .slice pa j pc, .bool neg, .bool nc] 49 (0, 0)) ∧ w3.ownsRow W1.heap.size 23 1 (.slice pa j pc) j (rowCells (mcell xc ml) j) ∧ TRow w3 tb cnt (j + 1) ml xc ∧ Kept [al, tb] W1 w3 ∧ (∀ i, i < j + 1 → W1.heap.size ≤ xc i ∧ (∀ g, (Value.slice pa j pc).ownBlock = some g → g ≠ xc i) ∧ IsRow8 w3 (xc i) (memX z4 len4 ml i) ml ml)) := by
            rintro w3 rfl
            have lal : al < wj.heap.size := by omega
            refine ⟨(ST _ al lal (by omega)).trans HO.out.1, ?_, by rw [hxc]; exact TJ.out.put hjc, KS _, fun i hi => ?_⟩
            · rw [rowCells_congr (g := mcell xb ml) (fun i hi => by unfold mcell; rw [HXO.out i hi])]
              exact Kept.owns (S := [xj, tb]) (((KJ.out.widen (T := [xj, tb]) (by simp))).setCell (.inl (by simp)) _) HO.out.2.1 (fun k hk => by have := HO.out.2.1.lt k hk; simp; omega)
            · by_cases e : i = j
              · subst e
                rw [HXJ.out]
                exact ⟨by omega, fun g hg => by have := HO.out.2.1.lt g hg; omega, HY.out.1.other (by omega) _⟩
              · obtain ⟨r1, r2, r3⟩ := HO.out.2.2.2.2 i (by omega)
                rw [HXO.out i (by omega)]
                exact ⟨r1, r2, r3.block (ST _ _ r3.lt (by omega))⟩
          clear hxc KS ST
          go_wp2_with fail
          refine forgetW (A := fun w3 => w3.heap[al]? = some (.cells #[.int .i64 len0, .slice pa j pc, .bool neg, .bool nc] 49 (0, 0)) ∧ w3.ownsRow W1.heap.size 23 1 (.slice pa j pc) j (rowCells (mcell xc ml) j) ∧ TRow w3 tb cnt (j + 1) ml xc ∧ Kept [al, tb] W1 w3 ∧ (∀ i, i < j + 1 → W1.heap.size ≤ xc i ∧ (∀ g, (Value.slice pa j pc).ownBlock = some g → g ≠ xc i) ∧ IsRow8 w3 (xc i) (memX z4 len4 ml i) ml ml)) (A3.out _ rfl) ?_
          rintro w3 hw3
          have H3 : Hid (w3.heap[al]? = some (.cells #[.int .i64 len0, .slice pa j pc, .bool neg, .bool nc] 49 (0, 0)) ∧ w3.ownsRow W1.heap.size 23 1 (.slice pa j pc) j (rowCells (mcell xc ml) j) ∧ TRow w3 tb cnt (j + 1) ml xc ∧ Kept [al, tb] W1 w3 ∧ (∀ i, i < j + 1 → W1.heap.size ≤ xc i ∧ (∀ g, (Value.slice pa j pc).ownBlock = some g → g ≠ xc i) ∧ IsRow8 w3 (xc i) (memX z4 len4 ml i) ml ml)) := hw3
          have y1 : w3.cell? ⟨al, 1, none⟩ = some (.slice pa j pc) := by rw [cell_at H3.out.1]; rfl
          have y2 : ∀ o, (World.alloc w3 o).cell? ⟨al, 1, none⟩ = some (.slice pa j pc) := fun o => (Below.cell_alloc2 w3 o ⟨al, 1, none⟩ (lt_of_block H3.out.1)).trans y1
          clear hw3 A3 TJ KJ c1 c2 HY HXO h2 h3 h4 h5 h6
          refine wp_region_held_drew (S := fun _ => True) (by kernel_rfl) trivial (fun hHeld => ?_)
          refine wpAnyH_take (i := 0) (v := ?_) rfl (by kernel_rfl) (by kernel_rfl) (by kernel_rfl) (fun _ _ _ h => h) (Or.inl ⟨by rfl, ?_⟩) (by assumption) ?_
          rotate_left
          · intro w hSw
            try dsimp only at hSw
            go_simp
            try with_reducible rfl
          try simp only [Act.put, List.setIfInBounds_toArray, List.set_cons_zero, List.set_cons_succ]
          refine wpAnyH_take (i := 2) (v := ?_) rfl (by kernel_rfl) (by kernel_rfl) (by kernel_rfl) (fun _ _ _ h => h) (Or.inl ⟨by rfl, ?_⟩) (by assumption) ?_
          rotate_left
          · intro w hSw
            try dsimp only at hSw
            go_simp
            try with_reducible rfl
          try simp only [Act.put, List.setIfInBounds_toArray, List.set_cons_zero, List.set_cons_succ]
          refine wpAnyH_take (i := 4) (v := ?_) rfl (by kernel_rfl) (by kernel_rfl) (by kernel_rfl) (fun _ _ _ h => h) (Or.inl ⟨by rfl, ?_⟩) (by assumption) ?_
          rotate_left
          · intro w hSw
            try dsimp only at hSw
            go_simp
            try with_reducible rfl
          try simp only [Act.put, List.setIfInBounds_toArray, List.set_cons_zero, List.set_cons_succ]
          refine wpAnyH_ready (rs := [1, 3]) (by kernel_rfl) (by simp) ?_
          refine AllReadyH.cons rfl (fun K hK => ?_) ?_
          · go_simp
            refine hK.out _ _ trivial (fun hHeld => ?_)
            clear hK K
            try simp only [Act.put, List.setIfInBounds_toArray, List.set_cons_zero, List.set_cons_succ]
            refine wpAnyH_ready (rs := [3]) (by kernel_rfl) (by simp) ?_
            refine AllReadyH.cons rfl (fun K hK => ?_) ?_
            · go_simp
              refine hK.out _ _ trivial (fun hHeld => ?_)
              clear hK K
              try simp only [Act.put, List.setIfInBounds_toArray, List.set_cons_zero, List.set_cons_succ]
              refine wpAnyH_ready (rs := [5]) (by kernel_rfl) (by simp) ?_
              refine AllReadyH.cons rfl (fun K hK => ?_) ?_
              · go_simp
                refine (conv_any _ _ _ _ _).mono ?_
                rintro e w4 ⟨rfl, rfl⟩
                go_wp2_with fail
                refine hK.out _ _ trivial (fun hHeld => ?_)
                clear hK K
                try simp only [Act.put, List.setIfInBounds_toArray, List.set_cons_zero, List.set_cons_succ]
                refine wpAnyH_ready (rs := [6]) (by kernel_rfl) (by simp) ?_
                refine AllReadyH.cons rfl (fun K hK => ?_) ?_
                · go_simp
                  refine hK.out _ _ trivial (fun hHeld => ?_)
                  clear hK K
                  try simp only [Act.put, List.setIfInBounds_toArray, List.set_cons_zero, List.set_cons_succ]
                  refine wpAnyH_ready (rs := [7]) (by kernel_rfl) (by simp) ?_
                  refine AllReadyH.cons rfl (fun K hK => ?_) ?_
                  · refine step_append_lies _ (by rfl) _ _ _ (by rfl) W1.heap.size 23 i23 _ 1 24 Ybad.underlying47 hi23 hz0 hz1 hz2 rfl (by omega) (.slice pa j pc) j (rowCells (mcell xc ml) j) (by rfl) (H3.out.2.1.drew.alloc _)
                      ⟨w3.heap.size, 0, none⟩ 1 1 [.slice (some ⟨xj, 0, none⟩) ml ml] (by rfl) (by rfl) (World.news_of_block (cs := #[.slice (some ⟨xj, 0, none⟩) ml ml]) (t := 23) (fr := (0, 0)) (heap_alloc_new w3.drew _)) (by simp [Value.oneCell'])
                      (by omega) (by unfold maxLen; omega) (by omega) (by have h : W1.heap.size ≤ w3.heap.size := H3.out.2.2.2.1.size; simp; omega) (w3.heap.size + 1) (by simp) ?_
                    intro gg cap w5 hown5 hgrow hat hlt
                    have hb5 : w5.heap[al]? = some (.cells #[.int .i64 len0, .slice pa j pc, .bool neg, .bool nc] 49 (0, 0)) := by
                      have na : (Value.slice pa j pc).ownBlock ≠ some al := fun h => by have h1 := (H3.out.2.1.lt _ h).1; have h2 := H1.out.1.size; omega
                      have l := lt_of_block H3.out.1
                      exact (hgrow.block al (by simp; omega) (fun e => na e.symm)).trans ((Below.heap_alloc w3.drew _ al l).trans H3.out.1)
                    have x1 : w5.cell? ⟨al, 1, none⟩ = some (.slice pa j pc) := by rw [cell_at hb5]; rfl
                    have f1 : w5.frozen? ⟨al, 1, none⟩ = false := by simp only [World.frozen?, hb5]; simp
                    refine hK.out _ _ trivial (fun hHeld => ?_)
                    clear hK K
                    try simp only [Act.put, List.setIfInBounds_toArray, List.set_cons_zero, List.set_cons_succ]
                    refine wpAnyH_take (i := 8) (v := ?_) rfl (by kernel_rfl) (by kernel_rfl) (by kernel_rfl) (fun _ _ _ h => h) (Or.inl ⟨by rfl, ?_⟩) (by assumption) ?_
                    rotate_left
                    · intro w hSw
                      try dsimp only at hSw
                      go_simp
                      try with_reducible rfl
                    try simp only [Act.put, List.setIfInBounds_toArray, List.set_cons_zero, List.set_cons_succ]
                    refine wpAnyH_ready (rs := [9]) (by kernel_rfl) (by simp) ?_
                    refine AllReadyH.cons rfl (fun K hK => ?_) ?_
                    · go_simp
                      refine hK.out _ _ trivial (fun hHeld => ?_)
                      clear hK K
                      try simp only [Act.put, List.setIfInBounds_toArray, List.set_cons_zero, List.set_cons_succ]
                      refine wpAnyH_done (by kernel_rfl) ?_ _
                      have PG := mem_step W1 w3 w5 al tb cnt j ml gg cap len4 pa pc xc z4 (.slice (some ⟨gg, 0, none⟩) (j + 1) cap) LL.out.1 LL.out.2.1 LL.out.2.2 H3.out.2.1 H3.out.2.2.1 H3.out.2.2.2.1 H3.out.2.2.2.2 hgrow hat
                      go_wp2
                      go_roundw
                      case rel =>
                        refine ⟨j + 1, some ⟨gg, 0, none⟩, cap, xc, by omega, by go_num, ?_, ?_, PG.2.2.1, PG.2.1.setCell (.inl (by simp)) _, PG.2.2.2⟩
                        · rw [heap_setCell_at hb5]; try rfl
                        · rw [rowCells_succ, show mcell xc ml j = [.slice (some ⟨xj, 0, none⟩) ml ml] from by unfold mcell; rw [HXJ.out]]
                          exact ((Kept.refl [al] w5).setCell (.inl (by simp)) _).owns hown5 (fun k hk => by simp [Value.ownBlock] at hk; subst hk; simpa using PG.1)
                      case measure => simp [intOf]; omega
                    exact AllReadyH.nil
                  exact AllReadyH.nil
                exact AllReadyH.nil
              exact AllReadyH.nil
            exact AllReadyH.nil
          refine AllReadyH.cons rfl (fun K hK => ?_) ?_
          · go_simp
            refine hK.out _ _ trivial (fun hHeld => ?_)
            clear hK K
            try simp only [Act.put, List.setIfInBounds_toArray, List.set_cons_zero, List.set_cons_succ]
            refine wpAnyH_ready (rs := [1, 5]) (by kernel_rfl) (by simp) ?_
            refine AllReadyH.cons rfl (fun K hK => ?_) ?_
            · go_simp
              refine hK.out _ _ trivial (fun hHeld => ?_)
              clear hK K
              try simp only [Act.put, List.setIfInBounds_toArray, List.set_cons_zero, List.set_cons_succ]
              refine wpAnyH_ready (rs := [5]) (by kernel_rfl) (by simp) ?_
              refine AllReadyH.cons rfl (fun K hK => ?_) ?_
              · go_simp
                refine (conv_any _ _ _ _ _).mono ?_
                rintro e w4 ⟨rfl, rfl⟩
                go_wp2_with fail
                refine hK.out _ _ trivial (fun hHeld => ?_)
                clear hK K
                try simp only [Act.put, List.setIfInBounds_toArray, List.set_cons_zero, List.set_cons_succ]
                refine wpAnyH_ready (rs := [6]) (by kernel_rfl) (by simp) ?_
                refine AllReadyH.cons rfl (fun K hK => ?_) ?_
                · go_simp
                  refine hK.out _ _ trivial (fun hHeld => ?_)
                  clear hK K
                  try simp only [Act.put, List.setIfInBounds_toArray, List.set_cons_zero, List.set_cons_succ]
                  refine wpAnyH_ready (rs := [7]) (by kernel_rfl) (by simp) ?_
                  refine AllReadyH.cons rfl (fun K hK => ?_) ?_
                  · refine step_append_lies _ (by rfl) _ _ _ (by rfl) W1.heap.size 23 i23 _ 1 24 Ybad.underlying47 hi23 hz0 hz1 hz2 rfl (by omega) (.slice pa j pc) j (rowCells (mcell xc ml) j) (by rfl) (H3.out.2.1.drew.alloc _)
                      ⟨w3.heap.size, 0, none⟩ 1 1 [.slice (some ⟨xj, 0, none⟩) ml ml] (by rfl) (by rfl) (World.news_of_block (cs := #[.slice (some ⟨xj, 0, none⟩) ml ml]) (t := 23) (fr := (0, 0)) (heap_alloc_new w3.drew _)) (by simp [Value.oneCell'])
                      (by omega) (by unfold maxLen; omega) (by omega) (by have h : W1.heap.size ≤ w3.heap.size := H3.out.2.2.2.1.size; simp; omega) (w3.heap.size + 1) (by simp) ?_
                    intro gg cap w5 hown5 hgrow hat hlt
                    have hb5 : w5.heap[al]? = some (.cells #[.int .i64 len0, .slice pa j pc, .bool neg, .bool nc] 49 (0, 0)) := by
                      have na : (Value.slice pa j pc).ownBlock ≠ some al := fun h => by have h1 := (H3.out.2.1.lt _ h).1; have h2 := H1.out.1.size; omega
                      have l := lt_of_block H3.out.1
                      exact (hgrow.block al (by simp; omega) (fun e => na e.symm)).trans ((Below.heap_alloc w3.drew _ al l).trans H3.out.1)
                    have x1 : w5.cell? ⟨al, 1, none⟩ = some (.slice pa j pc) := by rw [cell_at hb5]; rfl
                    have f1 : w5.frozen? ⟨al, 1, none⟩ = false := by simp only [World.frozen?, hb5]; simp
                    refine hK.out _ _ trivial (fun hHeld => ?_)
                    clear hK K
                    try simp only [Act.put, List.setIfInBounds_toArray, List.set_cons_zero, List.set_cons_succ]
                    refine wpAnyH_take (i := 8) (v := ?_) rfl (by kernel_rfl) (by kernel_rfl) (by kernel_rfl) (fun _ _ _ h => h) (Or.inl ⟨by rfl, ?_⟩) (by assumption) ?_
                    rotate_left
                    · intro w hSw
                      try dsimp only at hSw
                      go_simp
                      try with_reducible rfl
                    try simp only [Act.put, List.setIfInBounds_toArray, List.set_cons_zero, List.set_cons_succ]
                    refine wpAnyH_ready (rs := [9]) (by kernel_rfl) (by simp) ?_
                    refine AllReadyH.cons rfl (fun K hK => ?_) ?_
                    · go_simp
                      refine hK.out _ _ trivial (fun hHeld => ?_)
                      clear hK K
                      try simp only [Act.put, List.setIfInBounds_toArray, List.set_cons_zero, List.set_cons_succ]
                      refine wpAnyH_done (by kernel_rfl) ?_ _
                      have PG := mem_step W1 w3 w5 al tb cnt j ml gg cap len4 pa pc xc z4 (.slice (some ⟨gg, 0, none⟩) (j + 1) cap) LL.out.1 LL.out.2.1 LL.out.2.2 H3.out.2.1 H3.out.2.2.1 H3.out.2.2.2.1 H3.out.2.2.2.2 hgrow hat
                      go_wp2
                      go_roundw
                      case rel =>
                        refine ⟨j + 1, some ⟨gg, 0, none⟩, cap, xc, by omega, by go_num, ?_, ?_, PG.2.2.1, PG.2.1.setCell (.inl (by simp)) _, PG.2.2.2⟩
                        · rw [heap_setCell_at hb5]; try rfl
                        · rw [rowCells_succ, show mcell xc ml j = [.slice (some ⟨xj, 0, none⟩) ml ml] from by unfold mcell; rw [HXJ.out]]
                          exact ((Kept.refl [al] w5).setCell (.inl (by simp)) _).owns hown5 (fun k hk => by simp [Value.ownBlock] at hk; subst hk; simpa using PG.1)
                      case measure => simp [intOf]; omega
                    exact AllReadyH.nil
                  exact AllReadyH.nil
                exact AllReadyH.nil
              exact AllReadyH.nil
            refine AllReadyH.cons rfl (fun K hK => ?_) ?_
            · go_simp
              refine (conv_any _ _ _ _ _).mono ?_
              rintro e w4 ⟨rfl, rfl⟩
              go_wp2_with fail
              refine hK.out _ _ trivial (fun hHeld => ?_)
              clear hK K
              try simp only [Act.put, List.setIfInBounds_toArray, List.set_cons_zero, List.set_cons_succ]
              refine wpAnyH_ready (rs := [1, 6]) (by kernel_rfl) (by simp) ?_
              refine AllReadyH.cons rfl (fun K hK => ?_) ?_
              · go_simp
                refine hK.out _ _ trivial (fun hHeld => ?_)
                clear hK K
                try simp only [Act.put, List.setIfInBounds_toArray, List.set_cons_zero, List.set_cons_succ]
                refine wpAnyH_ready (rs := [6]) (by kernel_rfl) (by simp) ?_
                refine AllReadyH.cons rfl (fun K hK => ?_) ?_
                · go_simp
                  refine hK.out _ _ trivial (fun hHeld => ?_)
                  clear hK K
                  try simp only [Act.put, List.setIfInBounds_toArray, List.set_cons_zero, List.set_cons_succ]
                  refine wpAnyH_ready (rs := [7]) (by kernel_rfl) (by simp) ?_
                  refine AllReadyH.cons rfl (fun K hK => ?_) ?_
                  · refine step_append_lies _ (by rfl) _ _ _ (by rfl) W1.heap.size 23 i23 _ 1 24 Ybad.underlying47 hi23 hz0 hz1 hz2 rfl (by omega) (.slice pa j pc) j (rowCells (mcell xc ml) j) (by rfl) (H3.out.2.1.drew.alloc _)
                      ⟨w3.heap.size, 0, none⟩ 1 1 [.slice (some ⟨xj, 0, none⟩) ml ml] (by rfl) (by rfl) (World.news_of_block (cs := #[.slice (some ⟨xj, 0, none⟩) ml ml]) (t := 23) (fr := (0, 0)) (heap_alloc_new w3.drew _)) (by simp [Value.oneCell'])
                      (by omega) (by unfold maxLen; omega) (by omega) (by have h : W1.heap.size ≤ w3.heap.size := H3.out.2.2.2.1.size; simp; omega) (w3.heap.size + 1) (by simp) ?_
                    intro gg cap w5 hown5 hgrow hat hlt
                    have hb5 : w5.heap[al]? = some (.cells #[.int .i64 len0, .slice pa j pc, .bool neg, .bool nc] 49 (0, 0)) := by
                      have na : (Value.slice pa j pc).ownBlock ≠ some al := fun h => by have h1 := (H3.out.2.1.lt _ h).1; have h2 := H1.out.1.size; omega
                      have l := lt_of_block H3.out.1
                      exact (hgrow.block al (by simp; omega) (fun e => na e.symm)).trans ((Below.heap_alloc w3.drew _ al l).trans H3.out.1)
                    have x1 : w5.cell? ⟨al, 1, none⟩ = some (.slice pa j pc) := by rw [cell_at hb5]; rfl
                    have f1 : w5.frozen? ⟨al, 1, none⟩ = false := by simp only [World.frozen?, hb5]; simp
                    refine hK.out _ _ trivial (fun hHeld => ?_)
                    clear hK K
                    try simp only [Act.put, List.setIfInBounds_toArray, List.set_cons_zero, List.set_cons_succ]
                    refine wpAnyH_take (i := 8) (v := ?_) rfl (by kernel_rfl) (by kernel_rfl) (by kernel_rfl) (fun _ _ _ h => h) (Or.inl ⟨by rfl, ?_⟩) (by assumption) ?_
                    rotate_left
                    · intro w hSw
                      try dsimp only at hSw
                      go_simp
                      try with_reducible rfl
                    try simp only [Act.put, List.setIfInBounds_toArray, List.set_cons_zero, List.set_cons_succ]
                    refine wpAnyH_ready (rs := [9]) (by kernel_rfl) (by simp) ?_
                    refine AllReadyH.cons rfl (fun K hK => ?_) ?_
                    · go_simp
                      refine hK.out _ _ trivial (fun hHeld => ?_)
                      clear hK K
                      try simp only [Act.put, List.setIfInBounds_toArray, List.set_cons_zero, List.set_cons_succ]
                      refine wpAnyH_done (by kernel_rfl) ?_ _
                      have PG := mem_step W1 w3 w5 al tb cnt j ml gg cap len4 pa pc xc z4 (.slice (some ⟨gg, 0, none⟩) (j + 1) cap) LL.out.1 LL.out.2.1 LL.out.2.2 H3.out.2.1 H3.out.2.2.1 H3.out.2.2.2.1 H3.out.2.2.2.2 hgrow hat
                      go_wp2
                      go_roundw
                      case rel =>
                        refine ⟨j + 1, some ⟨gg, 0, none⟩, cap, xc, by omega, by go_num, ?_, ?_, PG.2.2.1, PG.2.1.setCell (.inl (by simp)) _, PG.2.2.2⟩
                        · rw [heap_setCell_at hb5]; try rfl
                        · rw [rowCells_succ, show mcell xc ml j = [.slice (some ⟨xj, 0, none⟩) ml ml] from by unfold mcell; rw [HXJ.out]]
                          exact ((Kept.refl [al] w5).setCell (.inl (by simp)) _).owns hown5 (fun k hk => by simp [Value.ownBlock] at hk; subst hk; simpa using PG.1)
                      case measure => simp [intOf]; omega
                    exact AllReadyH.nil
                  exact AllReadyH.nil
                exact AllReadyH.nil
              refine AllReadyH.cons rfl (fun K hK => ?_) ?_
              · go_simp
                refine hK.out _ _ trivial (fun hHeld => ?_)
                clear hK K
                try simp only [Act.put, List.setIfInBounds_toArray, List.set_cons_zero, List.set_cons_succ]
                refine wpAnyH_ready (rs := [1]) (by kernel_rfl) (by simp) ?_
                refine AllReadyH.cons rfl (fun K hK => ?_) ?_
                · go_simp
                  refine hK.out _ _ trivial (fun hHeld => ?_)
                  clear hK K
                  try simp only [Act.put, List.setIfInBounds_toArray, List.set_cons_zero, List.set_cons_succ]
                  refine wpAnyH_ready (rs := [7]) (by kernel_rfl) (by simp) ?_
                  refine AllReadyH.cons rfl (fun K hK => ?_) ?_
                  · refine step_append_lies _ (by rfl) _ _ _ (by rfl) W1.heap.size 23 i23 _ 1 24 Ybad.underlying47 hi23 hz0 hz1 hz2 rfl (by omega) (.slice pa j pc) j (rowCells (mcell xc ml) j) (by rfl) (H3.out.2.1.drew.alloc _)
                      ⟨w3.heap.size, 0, none⟩ 1 1 [.slice (some ⟨xj, 0, none⟩) ml ml] (by rfl) (by rfl) (World.news_of_block (cs := #[.slice (some ⟨xj, 0, none⟩) ml ml]) (t := 23) (fr := (0, 0)) (heap_alloc_new w3.drew _)) (by simp [Value.oneCell'])
                      (by omega) (by unfold maxLen; omega) (by omega) (by have h : W1.heap.size ≤ w3.heap.size := H3.out.2.2.2.1.size; simp; omega) (w3.heap.size + 1) (by simp) ?_
                    intro gg cap w5 hown5 hgrow hat hlt
                    have hb5 : w5.heap[al]? = some (.cells #[.int .i64 len0, .slice pa j pc, .bool neg, .bool nc] 49 (0, 0)) := by
                      have na : (Value.slice pa j pc).ownBlock ≠ some al := fun h => by have h1 := (H3.out.2.1.lt _ h).1; have h2 := H1.out.1.size; omega
                      have l := lt_of_block H3.out.1
                      exact (hgrow.block al (by simp; omega) (fun e => na e.symm)).trans ((Below.heap_alloc w3.drew _ al l).trans H3.out.1)
                    have x1 : w5.cell? ⟨al, 1, none⟩ = some (.slice pa j pc) := by rw [cell_at hb5]; rfl
                    have f1 : w5.frozen? ⟨al, 1, none⟩ = false := by simp only [World.frozen?, hb5]; simp
                    refine hK.out _ _ trivial (fun hHeld => ?_)
                    clear hK K
                    try simp only [Act.put, List.setIfInBounds_toArray, List.set_cons_zero, List.set_cons_succ]
                    refine wpAnyH_take (i := 8) (v := ?_) rfl (by kernel_rfl) (by kernel_rfl) (by kernel_rfl) (fun _ _ _ h => h) (Or.inl ⟨by rfl, ?_⟩) (by assumption) ?_
                    rotate_left
                    · intro w hSw
                      try dsimp only at hSw
                      go_simp
                      try with_reducible rfl
                    try simp only [Act.put, List.setIfInBounds_toArray, List.set_cons_zero, List.set_cons_succ]
                    refine wpAnyH_ready (rs := [9]) (by kernel_rfl) (by simp) ?_
                    refine AllReadyH.cons rfl (fun K hK => ?_) ?_
                    · go_simp
                      refine hK.out _ _ trivial (fun hHeld => ?_)
                      clear hK K
                      try simp only [Act.put, List.setIfInBounds_toArray, List.set_cons_zero, List.set_cons_succ]
                      refine wpAnyH_done (by kernel_rfl) ?_ _
                      have PG := mem_step W1 w3 w5 al tb cnt j ml gg cap len4 pa pc xc z4 (.slice (some ⟨gg, 0, none⟩) (j + 1) cap) LL.out.1 LL.out.2.1 LL.out.2.2 H3.out.2.1 H3.out.2.2.1 H3.out.2.2.2.1 H3.out.2.2.2.2 hgrow hat
                      go_wp2
                      go_roundw
                      case rel =>
                        refine ⟨j + 1, some ⟨gg, 0, none⟩, cap, xc, by omega, by go_num, ?_, ?_, PG.2.2.1, PG.2.1.setCell (.inl (by simp)) _, PG.2.2.2⟩
                        · rw [heap_setCell_at hb5]; try rfl
                        · rw [rowCells_succ, show mcell xc ml j = [.slice (some ⟨xj, 0, none⟩) ml ml] from by unfold mcell; rw [HXJ.out]]
                          exact ((Kept.refl [al] w5).setCell (.inl (by simp)) _).owns hown5 (fun k hk => by simp [Value.ownBlock] at hk; subst hk; simpa using PG.1)
                      case measure => simp [intOf]; omega
                    exact AllReadyH.nil
                  exact AllReadyH.nil
                exact AllReadyH.nil
              exact AllReadyH.nil
            exact AllReadyH.nil
          exact AllReadyH.nil
    · obtain rfl : cnt = j := by omega
      go_wp2_with fail
      obtain ⟨hb, hown, hT, K, hx⟩ := HO.out
      obtain ⟨I0, I1, I4, hV, h1l, h1a, hR, _⟩ := H0.out
      have h4 := H1.out.1.size
      have h5 := H1.out.2.2.1
      have KW : Kept [al] W wr := (H1.out.1.widen (T := [al]) (by simp)).trans K (fun x hx => by
        simp only [List.mem_cons, List.not_mem_nil, or_false] at hx
        rcases hx with rfl | rfl
        · exact .inl (by simp)
        · exact .inr (by omega))
      obtain ⟨mmb, hmm, hpa⟩ := own_some2 hown (by have := KW.size; omega)
      have hpa' := hpa hcn.1
      subst hpa'
      have up : ∀ b, b < W.heap.size → b < wr.heap.size := fun b hb => Nat.lt_of_lt_of_le hb KW.size
      exact alt_mid R wr a0 b0 o0 len0 cap0 a1 b1 o1 len1 cap1 al mmb cnt pc ml tb cnt neg nc xb (fun _ => ml) (fun j i => memX z4 len4 ml j i) zp zq seed
        (fun w' h => hR w' (KW.trans h (by simp))) hsd hl0 hl1 hml hcn
        ⟨fun h => ⟨(I0.1 h).1, up _ (I0.1 h).2.1⟩, fun j hj => (KW.cell (p := ⟨b0, o0 + j, none⟩) (I0.1 (by omega)).2.1 (by simpa using (I0.1 (by omega)).2.2)).trans (I0.2.1 j hj), I0.2.2⟩
        ⟨fun h => ⟨(I1.1 h).1, up _ (I1.1 h).2.1⟩, fun j hj => (KW.cell (p := ⟨b1, o1 + j, none⟩) (I1.1 (by omega)).2.1 (by simpa using (I1.1 (by omega)).2.2)).trans (I1.2.1 j hj), I1.2.2⟩
        hb ⟨fun j hj => ⟨by have := own_cell (s := 1) (fun j => mcell_len xb ml j) hown j 0 hj (by omega); simpa [mcell] using this, (hx j hj).2.2.lt⟩,
          fun j hj i hi => ⟨by have := (hx j hj).2.2.cell i hi; rw [if_pos hi] at this; exact this, memX_lt _ _ _ _ _⟩, hmm,
          fun j hj => by have := hT.cell j hj; rw [if_pos hj] at this; exact this, hT.lt, hV.kept KW h1l (by simpa using h1a), up 1 h1l⟩
        _ _ _ _ _ _ _ _ _ _ _ _ _ _ _ _ _ _ _ _ _ _ _ _ _ _ _ _ _ _ _ _ _ _ _ _ _ _ _ _ _ _ _ _ _ _ _ _ _ _ _ _ _ _ _ _ _ _ _ _ _ _ _ _ _ _ _ _ _ _ _ _ _ _ _ _ _ _ _ _ _ _ _ _ _ _ _ _ _ _ _ _ _ _ _ _ _ _ _ _ _ _ _ _ _ _ _ _ _ _ _ _ _ _ _ _ _ _ _ _ _ _ _ _ _ _ _ _ _ _ _ _ _ _ _ _ _ _ _ _ _ _ _ _ _ _ _ _ _ _ _ _ _ _ _ _ _ _ _ _ _ _ _ _ _ _ _ _ _ _ _ _ _ _ _ _ _ _ _ _ _ _ _ _ _ _ _ _ _ _ _ _ _ _ _ _ _ _ _ _ _ _ _ _ _ _ _ _ _ _ _ _ _ _ _ _ _ _ _ _ _ _ _ _ _ _ _ _ _ _ _ _ _ _ _ _ _ _ _ _ _ _ _ _ _ _ _ _ _ _ _ _ _ _ _ _ _ _ _ _ _ _ _ _ _ _ _ _ _ _ _ _ _ _ _ _ _ _ _ _ _ _ _ _ _
end Go.Proofs.YbulkoqcDoor
