/- LawS0756APlain from the reader's loop on. Own work over this program's translation. -/
import Derived.Test.YbulkoqcDoorEq
import Derived.Deep.QuietTactic
import Derived.WalkSpells
namespace Go.Proofs.YbulkoqcDoor
open Go.RowKit
set_option linter.unusedVariables false
attribute [local go_sem] eq38

/-- A sequence behind its first n statements. -/
def dropSeq : Nat → Code → Code
  | 0, c => c
  | n + 1, .seq _ b => dropSeq n b
  | _ + 1, c => c
/-- The n-th statement of a sequence. -/
def headSeq : Nat → Code → Code
  | 0, .seq a _ => a
  | 0, c => c
  | n + 1, .seq _ b => headSeq n b
  | _ + 1, c => c

theorem isSet_zero (w : World) : IsSet (w.alloc (.cells #[.int .u64 0, .int .u64 0, .int .u64 0, .int .u64 0] 38)) w.heap.size (fun _ => false) := by
  rw [← wds_empty]; exact isSet_new w _

/-- The row of sets that is wanted. -/
def Wants (w : World) (wo : Option Addr) (wb n : Nat) (S : Nat → Nat → Bool) : Prop :=
  ∀ k, k < n → wo = some ⟨wb, 0, none⟩ ∧ wb < w.heap.size ∧ ∀ c, c < 4 → w.cell? ⟨wb, k * 4 + c, none⟩ = some (.int .u64 (wd (S k) c))
theorem Wants.kept {S : List Nat} {w w' : World} {wo : Option Addr} {wb n : Nat} {T : Nat → Nat → Bool} (h : Wants w wo wb n T) (k : Kept S w w') (hS : wb ∉ S) : Wants w' wo wb n T := fun j hj => by
  obtain ⟨h1, h2, h3⟩ := h j hj
  exact ⟨h1, Nat.lt_of_lt_of_le h2 k.size, fun c hc => (k.cell (p := ⟨wb, j * 4 + c, none⟩) h2 hS).trans (h3 c hc)⟩

/-- The reader's next byte into a new empty set. -/
theorem next_fresh (W wr : World) (rb pb np cp : Nat) (go : Option Addr) (gb ng cg : Nat) (wide : Value) (va ma : Nat → Option Addr) (cv cm L G vb mb : Nat → Nat) (V M : Nat → Nat → Nat) (p a g k : Nat)
    (hnp : np < 2 ^ 40) (hF : FormMem W pb np go gb ng va cv L G) (hM : PartMem W pb np va ma cm L vb mb V M) (hV : FullVar W) (h1l : 1 < W.heap.size) (hgl : gb < W.heap.size)
    (hd : pb ≠ rb ∧ gb ≠ rb ∧ 1 ≠ rb) (hd2 : ∀ i, i < np → 0 < L i → vb i ≠ rb ∧ mb i ≠ rb)
    (K : Kept [rb] W wr) (r1 : IsRd wr rb (.slice (some ⟨pb, 0, none⟩) np cp) (.slice go ng cg) wide p a g 0) (r2 : Pos L G np p a g k) :
    Calls Ybad.prog 9 #[.pointer (some ⟨rb, 0, none⟩), .pointer (some ⟨wr.heap.size, 0, none⟩)] (wr.alloc (.cells #[.int .u64 0, .int .u64 0, .int .u64 0, .int .u64 0] 38)) fun e w' => Kept [rb] W w' ∧ ∃ p' a' g', IsRd w' rb (.slice (some ⟨pb, 0, none⟩) np cp) (.slice go ng cg) wide p' a' g' 0
      ∧ ((e = .returned (.bool false) ∧ k = total L G np ∧ IsSet w' wr.heap.size (fun _ => false))
        ∨ (e = .returned (.bool true) ∧ k < total L G np ∧ Pos L G np p' a' g' (k + 1) ∧ IsSet w' wr.heap.size (item L G (fun i j => mt (V i j) (M i j)) np 0 k))) := by
  obtain ⟨n1, n2, n3⟩ := hd
  have K2 : Kept [rb] W (wr.alloc (.cells #[.int .u64 0, .int .u64 0, .int .u64 0, .int .u64 0] 38)) := K.alloc _
  have hsz := K.size
  have l1 := hM.pbl
  have l2 := r1.lt
  refine (next_plain _ rb wr.heap.size pb np cp go gb ng cg wide va ma cv cm L G vb mb V M (fun _ => false) p a g k hnp ?_ (hF.kept K2 (by simpa using n1) (by simpa using n2)) (hM.kept K2 (by simpa using n1) (fun i hi hl => by have := hd2 i hi hl; simpa using this)) r2 (isSet_zero wr) (hV.kept K2 h1l (by simpa using n3)) (Nat.lt_of_lt_of_le h1l K2.size) ⟨n1, n2, by omega, n3, by omega, by omega⟩ (fun i hi hl => ?_)).mono ?_
  · exact (Below.heap_alloc wr _ rb l2).trans r1
  · obtain ⟨q1, q2⟩ := hd2 i hi hl
    obtain ⟨_, _, c, d, _⟩ := hM.row i hi 0 hl
    exact ⟨q1, q2, by omega, by omega⟩
  · rintro e w' ⟨k1, p', a', g', k2, k3⟩
    refine ⟨K2.trans k1 ?_, p', a', g', k2, ?_⟩
    · intro x hx
      simp only [List.mem_cons, List.not_mem_nil, or_false] at hx
      rcases hx with rfl | rfl
      · exact .inl (by simp)
      · exact .inr hsz
    · rcases k3 with ⟨q1, q2, q3⟩ | ⟨q1, q2, q3, Q, q4, q5⟩
      · exact .inl ⟨q1, q2, q3⟩
      · refine .inr ⟨q1, q2, q3, ?_⟩
        have e : Q = item L G (fun i j => mt (V i j) (M i j)) np 0 k := by
          rcases q5 with ⟨i, j, h1, h2, h3, h4⟩ | ⟨i, j, h1, h2, h3, h4⟩
          · rw [h3, item_gap L G _ np i j (by omega) h2, h4]
          · rw [h3, item_at L G _ np i j h1 h2, h4]
        rw [← e]
        exact q4.congr (fun b _ => by simp)

set_option maxRecDepth 100000 in
set_option maxHeartbeats 4000000 in
theorem plain_tail (R : World → Prop) (W : World) (rb pb np cp : Nat) (go : Option Addr) (gb ng cg : Nat) (wide : Value) (va ma : Nat → Option Addr) (cv cm L G vb mb : Nat → Nat) (V M : Nat → Nat → Nat)
    (wo : Option Addr) (wb wc n : Nat) (hn : n = total L G np) (hn40 : n < 2 ^ 40)
    (hR : ∀ w', Kept [rb] W w' → R w')
    (hnp : np < 2 ^ 40) (hR0 : IsRd W rb (.slice (some ⟨pb, 0, none⟩) np cp) (.slice go ng cg) wide 0 0 0 0)
    (hF : FormMem W pb np go gb ng va cv L G) (hM : PartMem W pb np va ma cm L vb mb V M) (hP : Pos L G np 0 0 0 0) (hV : FullVar W) (h1l : 1 < W.heap.size)
    (hW : Wants W wo wb n (item L G (fun i j => mt (V i j) (M i j)) np 0))
    (hd : pb ≠ rb ∧ gb ≠ rb ∧ 1 ≠ rb ∧ wb ≠ rb) (hgl : gb < W.heap.size) (hd2 : ∀ i, i < np → 0 < L i → vb i ≠ rb ∧ mb i ≠ rb)
    (u0 u1 u2 u3 u4 u5 u6 u7 u8 u9 u11 u12 u13 u14 u16 u17 u18 u19 u20 u21 u22 u23 u24 u25 u26 u27 u28 u29 u30 u31 u32 u33 u34 u35 u36 u37 u38 u39 u40 u41 u42 u43 u44 u45 u46 u47 u48 u49 u50 u51 u52 u53 u54 u55 u56 u57 u58 u59 u60 u61 u62 u63 u64 u65 u66 u67 u68 u69 u70 u71 u72 u73 u74 u75 u76 u77 u78 u79 u80 u81 u82 u83 u84 u85 u86 u87 u88 u89 u90 u91 u92 u93 u94 u95 u96 u97 u98 u99 u100 u101 u102 u103 u104 u105 u106 u107 u108 u109 u110 u111 u112 u113 u114 u115 u116 u117 u118 u119 u120 u121 u122 u123 u124 u125 u126 u127 u128 u129 u130 u131 u132 u133 u134 u135 u136 u137 u138 u139 u140 u141 u142 u143 u144 u145 u146 u147 u148 u149 u150 u151 u152 u153 u154 u155 u156 u157 u158 u159 u160 u161 u162 u163 u164 u165 : Value) :
    Code.wp Ybad.prog (dropSeq 10 (Ybad.f3.body.getD .skip)) (bodyPost Ybad.prog Ybad.f3 fun e w' => e = .returned (.bool true) ∧ R w') ⟨#[u0, u1, u2, u3, u4, u5, u6, u7, u8, u9, .slice wo n wc, u11, u12, u13, u14, .pointer (some ⟨rb, 0, none⟩), u16, u17, u18, u19, u20, u21, u22, u23, u24, u25, u26, u27, u28, u29, u30, u31, u32, u33, u34, u35, u36, u37, u38, u39, u40, u41, u42, u43, u44, u45, u46, u47, u48, u49, u50, u51, u52, u53, u54, u55, u56, u57, u58, u59, u60, u61, u62, u63, u64, u65, u66, u67, u68, u69, u70, u71, u72, u73, u74, u75, u76, u77, u78, u79, u80, u81, u82, u83, u84, u85, u86, u87, u88, u89, u90, u91, u92, u93, u94, u95, u96, u97, u98, u99, u100, u101, u102, u103, u104, u105, u106, u107, u108, u109, u110, u111, u112, u113, u114, u115, u116, u117, u118, u119, u120, u121, u122, u123, u124, u125, u126, u127, u128, u129, u130, u131, u132, u133, u134, u135, u136, u137, u138, u139, u140, u141, u142, u143, u144, u145, u146, u147, u148, u149, u150, u151, u152, u153, u154, u155, u156, u157, u158, u159, u160, u161, u162, u163, u164, u165], []⟩ W := by
  obtain ⟨n1, n2, n3, n4⟩ := hd
  have H0 : Hid (FormMem W pb np go gb ng va cv L G ∧ PartMem W pb np va ma cm L vb mb V M ∧ FullVar W ∧ 1 < W.heap.size ∧ Wants W wo wb n (item L G (fun i j => mt (V i j) (M i j)) np 0) ∧ (∀ i, i < np → 0 < L i → vb i ≠ rb ∧ mb i ≠ rb) ∧ n = total L G np ∧ (∀ w', Kept [rb] W w' → R w') ∧ gb < W.heap.size) := ⟨hF, hM, hV, h1l, hW, hd2, hn, hR, hgl⟩
  have H1 : Hid (IsRd W rb (.slice (some ⟨pb, 0, none⟩) np cp) (.slice go ng cg) wide 0 0 0 0 ∧ Pos L G np 0 0 0 0) := ⟨hR0, hP⟩
  clear hF hM hV hW hd2 hn hR hR0 hP h1l hgl
  conv => arg 2; whnf
  go_wp2_with fail
  go_loopw [16] (fun i wr => ∃ k : Nat, k ≤ n ∧ i = .int .i64 k ∧ Kept [rb] W wr ∧ ∃ p a g, IsRd wr rb (.slice (some ⟨pb, 0, none⟩) np cp) (.slice go ng cg) wide p a g 0 ∧ Pos L G np p a g k) (fun i _ => n - (intOf i).toNat)
  case atStart => exact ⟨0, Nat.zero_le _, rfl, .refl _ _, 0, 0, 0, H1.out.1, H1.out.2⟩
  case round =>
    obtain ⟨k, hk, rfl, K0, p, a, g, r1, r2⟩ := hrel
    have HK : Hid (Kept [rb] W wr) := K0
    have HR : Hid (IsRd wr rb (.slice (some ⟨pb, 0, none⟩) np cp) (.slice go ng cg) wide p a g 0 ∧ Pos L G np p a g k) := ⟨r1, r2⟩
    clear K0 r1 r2
    have NX : Hid (Calls _ _ _ _ _) := next_fresh W wr rb pb np cp go gb ng cg wide va ma cv cm L G vb mb V M p a g k hnp H0.out.1 H0.out.2.1 H0.out.2.2.1 H0.out.2.2.2.1 H0.out.2.2.2.2.2.2.2.2 ⟨n1, n2, n3⟩ H0.out.2.2.2.2.2.1 HK.out HR.out.1 HR.out.2
    have HT : Hid (n = total L G np) := H0.out.2.2.2.2.2.2.1
    by_cases hkn : k < n
    · have b1 : (0 : Int) ≤ (k : Int) := by omega
      have b2 : (k : Int) < (n : Int) := by omega
      go_wp2_with fail
      refine NX.out.mono ?_
      rintro e w2 ⟨k1, p', a', g', k2, k3⟩
      rcases k3 with ⟨rfl, q1, q2⟩ | ⟨rfl, q1, q2, q3⟩
      · exact absurd q1 (by have := HT.out; omega)
      · have HK2 : Hid (Kept [rb] W w2 ∧ IsRd w2 rb (.slice (some ⟨pb, 0, none⟩) np cp) (.slice go ng cg) wide p' a' g' 0 ∧ Pos L G np p' a' g' (k + 1)) := ⟨k1, k2, q2⟩
        obtain ⟨w1, w2l, w3⟩ := (H0.out.2.2.2.2.1.kept k1 (by simpa using n4)) k hkn
        subst w1
        have x0 := w3 0 (by omega)
        have x1 := w3 1 (by omega)
        have x2 := w3 2 (by omega)
        have x3 := w3 3 (by omega)
        have y0 := q3.cell 0 (by omega)
        have y1 := q3.cell 1 (by omega)
        have y2 := q3.cell 2 (by omega)
        have y3 := q3.cell 3 (by omega)
        generalize wd (item L G (fun i j => mt (V i j) (M i j)) np 0 k) 0 = t0 at x0 y0
        generalize wd (item L G (fun i j => mt (V i j) (M i j)) np 0 k) 1 = t1 at x1 y1
        generalize wd (item L G (fun i j => mt (V i j) (M i j)) np 0 k) 2 = t2 at x2 y2
        generalize wd (item L G (fun i j => mt (V i j) (M i j)) np 0 k) 3 = t3 at x3 y3
        rw [Nat.add_zero] at x0
        clear w3 q3 q1 q2 k1 k2 NX
        go_wp2_with fail
        go_quiet (fail)
        go_wp2
        obtain ⟨k1, k2, k3⟩ := HK2.out
        go_roundw
        case rel => exact ⟨k + 1, by omega, by go_num, k1.drewN _, p', a', g', k2.drewN _, k3⟩
        case measure => simp [intOf]; omega
    · have hkn' : k = n := by omega
      go_wp2_with fail
      refine NX.out.mono ?_
      rintro e w2 ⟨k1, p', a', g', k2, k3⟩
      rcases k3 with ⟨rfl, q1, q2⟩ | ⟨rfl, q1, q2, q3⟩
      · have HR2 : Hid (R w2) := H0.out.2.2.2.2.2.2.2.1 w2 k1
        have q2' : w2.heap[wr.heap.size]? = some (.cells #[.int .u64 0, .int .u64 0, .int .u64 0, .int .u64 0] 38 (0, 0)) := by
          unfold IsSet at q2; rw [wds_empty] at q2; exact q2
        have y0 : w2.cell? ⟨wr.heap.size, 0, none⟩ = some (.int .u64 0) := by rw [cell_of_row w2 _ _ _ _ _ q2']; rfl
        have y1 : w2.cell? ⟨wr.heap.size, 1, none⟩ = some (.int .u64 0) := by rw [cell_of_row w2 _ _ _ _ _ q2']; rfl
        have y2 : w2.cell? ⟨wr.heap.size, 2, none⟩ = some (.int .u64 0) := by rw [cell_of_row w2 _ _ _ _ _ q2']; rfl
        have y3 : w2.cell? ⟨wr.heap.size, 3, none⟩ = some (.int .u64 0) := by rw [cell_of_row w2 _ _ _ _ _ q2']; rfl
        clear q1 q2 q2' k1 k2 NX
        go_wp2
        go_ret
        exact ⟨rfl, HR2.out⟩
      · exact absurd q1 (by have := HT.out; omega)
end Go.Proofs.YbulkoqcDoor
