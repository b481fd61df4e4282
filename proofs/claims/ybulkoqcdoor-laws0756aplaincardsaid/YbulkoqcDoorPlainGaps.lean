/- LawS0756APlain from the gaps on. Own work over this program's translation. -/
import Derived.Test.YbulkoqcDoorPlainWant
namespace Go.Proofs.YbulkoqcDoor
open Go.RowKit
set_option linter.unusedVariables false

theorem Ybad.info34 : (Ybad.prog.info? 34).map (fun i => (i.zero, i.size, i.bytes)) = some (some (.agg #[.int .i64 0, .int .i64 0]), 2, 16) := by kernel_rfl

theorem planRest6 : dropSeq 6 (Ybad.f3.body.getD .skip) = (headSeq 6 (Ybad.f3.body.getD .skip)).seq (dropSeq 7 (Ybad.f3.body.getD .skip)) := by kernel_rfl

def gapOf (G : Nat → Nat) (j : Nat) : List Value := [.int .i64 (G j), .int .i64 (G j)]
theorem gapOf_len (G : Nat → Nat) (j : Nat) : (gapOf G j).length = 2 := rfl
/-- The gaps that the law lays. -/
def gapsBy (len1 : Nat) (z1 : Nat → Nat) (j : Nat) : Nat := if len1 = 0 then 0 else z1 (j % len1) % 4
theorem gapsBy_le (len1 : Nat) (z1 : Nat → Nat) (j : Nat) : gapsBy len1 z1 j ≤ 3 := by
  unfold gapsBy; split <;> omega

set_option maxRecDepth 100000 in
set_option maxHeartbeats 4000000 in
theorem plain_gaps (R : World → Prop) (W : World) (fb pb np cp : Nat) (a1 : Option Addr) (b1 o1 len1 cap1 : Nat) (z1 : Nat → Nat) (va ma : Nat → Option Addr) (cv cm L vb mb : Nat → Nat) (V M : Nat → Nat → Nat)
    (hL : ∀ i, L i ≤ 256) (hR : ∀ w', Kept [fb] W w' → R w')
    (hnp0 : 0 < np) (hnp : np ≤ 64) (hB : W.heap[fb]? = some (.cells #[.slice (some ⟨pb, 0, none⟩) np cp, .slice none 0 0, .bool false] 28 (0, 0)))
    (hp : ∀ i, i < np → W.cell? ⟨pb, i * 3, none⟩ = some (.slice (va i) (L i) (cv i))) (hM : PartMem W pb np va ma cm L vb mb V M) (hV : FullVar W) (h1l : 1 < W.heap.size)
    (hd : pb ≠ fb ∧ 1 ≠ fb) (hd2 : ∀ i, i < np → 0 < L i → vb i ≠ fb ∧ mb i ≠ fb)
    (h1 : 0 < len1 → a1 = some ⟨b1, o1, none⟩ ∧ b1 < W.heap.size ∧ b1 ≠ fb) (hc1 : ∀ j, j < len1 → W.cell? ⟨b1, o1 + j, none⟩ = some (.int .u8 (z1 j))) (hz1 : ∀ j, z1 j < 256)
    (u0 u2 u3 u4 u5 u7 u8 u9 u10 u11 u12 u13 u14 u15 u16 u17 u18 u19 u20 u21 u22 u23 u24 u25 u26 u27 u28 u29 u30 u31 u32 u33 u34 u35 u36 u37 u38 u39 u40 u41 u42 u43 u44 u45 u46 u47 u48 u49 u50 u51 u52 u53 u54 u55 u56 u57 u58 u59 u60 u61 u62 u63 u64 u65 u66 u67 u68 u69 u70 u71 u72 u73 u74 u75 u76 u77 u78 u79 u80 u81 u82 u83 u84 u85 u86 u87 u88 u89 u90 u91 u92 u93 u94 u95 u96 u97 u98 u99 u100 u101 u102 u103 u104 u105 u106 u107 u108 u109 u110 u111 u112 u113 u114 u115 u116 u117 u118 u119 u120 u121 u122 u123 u124 u125 u126 u127 u128 u129 u130 u131 u132 u133 u134 u135 u136 u137 u138 u139 u140 u141 u142 u143 u144 u145 u146 u147 u148 u149 u150 u151 u152 u153 u154 u155 u156 u157 u158 u159 u160 u161 u162 u163 u164 u165 : Value) :
    Code.wp Ybad.prog (dropSeq 6 (Ybad.f3.body.getD .skip)) (bodyPost Ybad.prog Ybad.f3 fun e w' => e = .returned (.bool true) ∧ R w') ⟨#[u0, .slice a1 len1 cap1, u2, u3, u4, u5, .pointer (some ⟨fb, 0, none⟩), u7, u8, u9, u10, u11, u12, u13, u14, u15, u16, u17, u18, u19, u20, u21, u22, u23, u24, u25, u26, u27, u28, u29, u30, u31, u32, u33, u34, u35, u36, u37, u38, u39, u40, u41, u42, u43, u44, u45, u46, u47, u48, u49, u50, u51, u52, u53, u54, u55, u56, u57, u58, u59, u60, u61, u62, u63, u64, u65, u66, u67, u68, u69, u70, u71, u72, u73, u74, u75, u76, u77, u78, u79, u80, u81, u82, u83, u84, u85, u86, u87, u88, u89, u90, u91, u92, u93, u94, u95, u96, u97, u98, u99, u100, u101, u102, u103, u104, u105, u106, u107, u108, u109, u110, u111, u112, u113, u114, u115, u116, u117, u118, u119, u120, u121, u122, u123, u124, u125, u126, u127, u128, u129, u130, u131, u132, u133, u134, u135, u136, u137, u138, u139, u140, u141, u142, u143, u144, u145, u146, u147, u148, u149, u150, u151, u152, u153, u154, u155, u156, u157, u158, u159, u160, u161, u162, u163, u164, u165], []⟩ W := by
  obtain ⟨i34, hi34, hz0, hz1', hz2⟩ := info_parts Ybad.info34
  obtain ⟨G, hG⟩ : ∃ G, G = gapsBy len1 z1 := ⟨_, rfl⟩
  have hfl := lt_of_block hB
  have H0 : Hid ((∀ i, L i ≤ 256) ∧ (∀ w', Kept [fb] W w' → R w') ∧ W.heap[fb]? = some (.cells #[.slice (some ⟨pb, 0, none⟩) np cp, .slice none 0 0, .bool false] 28 (0, 0)) ∧ (∀ i, i < np → W.cell? ⟨pb, i * 3, none⟩ = some (.slice (va i) (L i) (cv i))) ∧ PartMem W pb np va ma cm L vb mb V M ∧ FullVar W ∧ 1 < W.heap.size ∧ (pb ≠ fb ∧ 1 ≠ fb) ∧ (∀ i, i < np → 0 < L i → vb i ≠ fb ∧ mb i ≠ fb)) := ⟨hL, hR, hB, hp, hM, hV, h1l, hd, hd2⟩
  have H1 : Hid ((0 < len1 → a1 = some ⟨b1, o1, none⟩ ∧ b1 < W.heap.size ∧ b1 ≠ fb) ∧ (∀ j, j < len1 → W.cell? ⟨b1, o1 + j, none⟩ = some (.int .u8 (z1 j))) ∧ (∀ j, z1 j < 256) ∧ G = gapsBy len1 z1) := ⟨h1, hc1, hz1, hG⟩
  clear hL hR hB hp hM hV h1l hd hd2 h1 hc1 hz1 hG
  rw [planRest6]
  conv => arg 2; arg 1; whnf
  go_wp2_with fail
  go_loopw [8] (fun x wr => ∃ (i : Nat) (ga : Option Addr) (gc : Nat), i + 1 ≤ np ∧ x = .int .i64 i ∧ wr.heap[fb]? = some (.cells #[.slice (some ⟨pb, 0, none⟩) np cp, .slice ga i gc, .bool false] 28 (0, 0)) ∧ wr.ownsRow W.heap.size 34 2 (.slice ga i gc) i (rowCells (gapOf G) i) ∧ Kept [fb] W wr) (fun x _ => np - (intOf x).toNat)
  case atStart => exact ⟨0, none, 0, by omega, rfl, H0.out.2.2.1, World.ownsRow_nil _ _ _ _, .refl _ _⟩
  case round =>
    obtain ⟨i, ga, gc, hi, rfl, hB, hown, K0⟩ := hrel
    have q0 : wr.cell? ⟨fb, 0, none⟩ = some (.slice (some ⟨pb, 0, none⟩) np cp) := by rw [cell_of_row wr _ _ _ _ _ hB]; rfl
    have q1 : wr.cell? ⟨fb, 1, none⟩ = some (.slice ga i gc) := by rw [cell_of_row wr _ _ _ _ _ hB]; rfl
    have hsz := K0.size
    have HO : Hid (wr.ownsRow W.heap.size 34 2 (.slice ga i gc) i (rowCells (gapOf G) i) ∧ Kept [fb] W wr ∧ wr.heap[fb]? = some (.cells #[.slice (some ⟨pb, 0, none⟩) np cp, .slice ga i gc, .bool false] 28 (0, 0))) := ⟨hown, K0, hB⟩
    clear hown K0 hB
    by_cases hin : i + 1 < np
    · have d1 : ((i : Int) < (np : Int) - 1) := by omega
      obtain ⟨g, hg⟩ : ∃ g, G i = g := ⟨_, rfl⟩
      have HG : Hid (G i = g) := hg
      clear hg
      by_cases h0 : len1 = 0
      · subst h0
        have hg0 : g = 0 := by rw [← HG.out, H1.out.2.2.2]; rfl
        subst hg0
        go_wp2_with (at_builtin; refine wpList_append_lies _ rfl (.tmp 83) (.tmp 87) 26 rfl W.heap.size 34 i34 (.agg #[.int .i64 0, .int .i64 0]) 2 16 Ybad.underlying26 hi34 hz0 hz1' hz2 rfl (by decide) (.slice ga i gc) i (rowCells (gapOf G) i) rfl ?own ⟨wr.heap.size, 0, none⟩ 1 1 [.int .i64 0, .int .i64 0] rfl rfl ?d1 ?d2 (by omega) ?d3 ?d4 ?d5 (wr.heap.size + 1) (by simp) ?_)
        case own => exact HO.out.1.alloc _
        try case d1 => exact World.news_of_block (cs := #[.int .i64 0, .int .i64 0]) (t := 34) (fr := (0, 0)) (heap_alloc_new wr _)
        case d2 => simp [Value.oneCell']
        case d3 => unfold maxLen; omega
        case d4 => omega
        case d5 => first | omega | (simp; omega)
        intro gg cap w5 hown5 hgrow hat hlt
        have hne : (Value.slice ga i gc).ownBlock ≠ some fb := fun h => by have := (HO.out.1.lt _ h).1; omega
        have hb5 : w5.heap[fb]? = some (.cells #[.slice (some ⟨pb, 0, none⟩) np cp, .slice ga i gc, .bool false] 28 (0, 0)) :=
          (hgrow.block fb (by simp; omega) (fun e => hne e.symm)).trans ((Below.heap_alloc wr _ fb (by omega)).trans HO.out.2.2)
        have x1 : w5.cell? ⟨fb, 1, none⟩ = some (.slice ga i gc) := by rw [cell_of_row w5 _ _ _ _ _ hb5]; rfl
        have f1 : w5.frozen? ⟨fb, 1, none⟩ = false := by simp only [World.frozen?, hb5]; simp
        have hgne : gg ≠ fb := by
          rcases hat with h1 | h1
          · have := (HO.out.1.lt _ h1).1; omega
          · omega
        have HE : Hid (w5.ownsRow W.heap.size 34 2 (.slice (some ⟨gg, 0, none⟩) (i + 1) cap) (i + 1) (rowCells (gapOf G) (i + 1)) ∧ Kept [fb] W w5 ∧ w5.heap[fb]? = some (.cells #[.slice (some ⟨pb, 0, none⟩) np cp, .slice ga i gc, .bool false] 28 (0, 0))) := by
          refine ⟨?_, (HO.out.2.1.alloc _).grown hgrow (fun b hb => .inr (HO.out.1.lt b hb).1), hb5⟩
          rw [rowCells_succ, show gapOf G i = [.int .i64 0, .int .i64 0] from by unfold gapOf; rw [HG.out]; try rfl]
          exact hown5
        clear hown5 hgrow hat hb5
        go_wp2
        go_roundw
        case rel =>
          refine ⟨i + 1, some ⟨gg, 0, none⟩, cap, by omega, by go_num, ?_, ?_, HE.out.2.1.setCell (.inl (by simp)) _⟩
          · rw [heap_setCell_at HE.out.2.2]; try rfl
          · exact ((Kept.refl [fb] w5).setCell (.inl (by simp)) _).owns HE.out.1 (fun k hk => by simp [Value.ownBlock] at hk; subst hk; simpa using hgne)
        case measure => simp [intOf]; omega
      · have b1' : (0 : Int) < (len1 : Int) := by omega
        obtain ⟨ha, hbl, hbf⟩ := H1.out.1 (by omega)
        subst ha
        have hm : i % len1 < len1 := Nat.mod_lt _ (by omega)
        have x2 : wr.cell? ⟨b1, o1 + i % len1, none⟩ = some (.int .u8 (z1 (i % len1))) := (HO.out.2.1.cell (p := ⟨b1, o1 + i % len1, none⟩) hbl (by simpa using hbf)).trans (H1.out.2.1 _ hm)
        have hg4 : z1 (i % len1) % 4 = g := by rw [← HG.out, H1.out.2.2.2]; unfold gapsBy; rw [if_neg h0]
        have hz := H1.out.2.2.1 (i % len1)
        generalize z1 (i % len1) = zz at x2 hg4 hz
        have e1 : Int.tmod (i : Int) (len1 : Int) = ((i % len1 : Nat) : Int) := by rw [Int.tmod_eq_emod_of_nonneg (by omega)]; omega
        generalize i % len1 = mm at x2 hm e1
        go_wp2_with (at_builtin; refine wpList_append_lies _ rfl (.tmp 83) (.tmp 87) 26 rfl W.heap.size 34 i34 (.agg #[.int .i64 0, .int .i64 0]) 2 16 Ybad.underlying26 hi34 hz0 hz1' hz2 rfl (by decide) (.slice ga i gc) i (rowCells (gapOf G) i) rfl ?own ⟨wr.heap.size, 0, none⟩ 1 1 [.int .i64 ((zz : Int) % 4), .int .i64 ((zz : Int) % 4)] rfl rfl ?d1 ?d2 (by omega) ?d3 ?d4 ?d5 (wr.heap.size + 1) (by simp) ?_)
        case own => exact HO.out.1.alloc _
        try case d1 => exact World.news_of_block (cs := #[.int .i64 ((zz : Int) % 4), .int .i64 ((zz : Int) % 4)]) (t := 34) (fr := (0, 0)) (heap_alloc_new wr _)
        case d2 => simp [Value.oneCell']
        case d3 => unfold maxLen; omega
        case d4 => omega
        case d5 => first | omega | (simp; omega)
        intro gg cap w5 hown5 hgrow hat hlt
        have hne : (Value.slice ga i gc).ownBlock ≠ some fb := fun h => by have := (HO.out.1.lt _ h).1; omega
        have hb5 : w5.heap[fb]? = some (.cells #[.slice (some ⟨pb, 0, none⟩) np cp, .slice ga i gc, .bool false] 28 (0, 0)) :=
          (hgrow.block fb (by simp; omega) (fun e => hne e.symm)).trans ((Below.heap_alloc wr _ fb (by omega)).trans HO.out.2.2)
        have x1 : w5.cell? ⟨fb, 1, none⟩ = some (.slice ga i gc) := by rw [cell_of_row w5 _ _ _ _ _ hb5]; rfl
        have f1 : w5.frozen? ⟨fb, 1, none⟩ = false := by simp only [World.frozen?, hb5]; simp
        have hgne : gg ≠ fb := by
          rcases hat with h1 | h1
          · have := (HO.out.1.lt _ h1).1; omega
          · omega
        have HE : Hid (w5.ownsRow W.heap.size 34 2 (.slice (some ⟨gg, 0, none⟩) (i + 1) cap) (i + 1) (rowCells (gapOf G) (i + 1)) ∧ Kept [fb] W w5 ∧ w5.heap[fb]? = some (.cells #[.slice (some ⟨pb, 0, none⟩) np cp, .slice ga i gc, .bool false] 28 (0, 0))) := by
          refine ⟨?_, (HO.out.2.1.alloc _).grown hgrow (fun b hb => .inr (HO.out.1.lt b hb).1), hb5⟩
          rw [rowCells_succ, show gapOf G i = [.int .i64 ((zz : Int) % 4), .int .i64 ((zz : Int) % 4)] from by unfold gapOf; rw [HG.out, ← hg4]; simp]
          exact hown5
        clear hown5 hgrow hat hb5
        go_wp2
        go_roundw
        case rel =>
          refine ⟨i + 1, some ⟨gg, 0, none⟩, cap, by omega, by go_num, ?_, ?_, HE.out.2.1.setCell (.inl (by simp)) _⟩
          · rw [heap_setCell_at HE.out.2.2]; try rfl
          · exact ((Kept.refl [fb] w5).setCell (.inl (by simp)) _).owns HE.out.1 (fun k hk => by simp [Value.ownBlock] at hk; subst hk; simpa using hgne)
        case measure => simp [intOf]; omega
    · obtain rfl : np = i + 1 := by omega
      go_wp2_with fail
      obtain ⟨hL, hR, hB, hp, hM, hV, h1l, ⟨n1, n2⟩, hd2⟩ := H0.out
      obtain ⟨hown, K0, hB'⟩ := HO.out
      obtain ⟨gb, hgl, hgo⟩ := own_some hown (by omega)
      have hM' := hM.kept K0 (by simpa using n1) (fun i' hi' hl' => by have := hd2 i' hi' hl'; simpa using this)
      exact plain_want R wr fb pb (i + 1) cp ga gb i gc va ma cv cm L G vb mb V M hL (fun j => by rw [H1.out.2.2.2]; exact gapsBy_le _ _ _) (fun w' h => hR w' (K0.trans h (by simp))) hnp0 hnp hB'
        ⟨fun j hj => (K0.cell (p := ⟨pb, j * 3, none⟩) hM.pbl (by simpa using n1)).trans (hp j hj), fun j hj => by
          have e := hgo (by omega)
          subst e
          refine ⟨rfl, by omega, ?_, ?_⟩
          · have := own_cell (fun j => gapOf_len G j) hown j 0 (by omega) (by omega); exact this
          · have := own_cell (fun j => gapOf_len G j) hown j 1 (by omega) (by omega); exact this, fun j => by
          refine ⟨by have := hL j; omega, ?_⟩
          have := gapsBy_le len1 z1 j; rw [H1.out.2.2.2]; omega, hM'.pbl, fun _ => hgl⟩
        hM' (hV.kept K0 h1l (by simpa using n2)) (by omega) hgl _ _ _ _ _ _ _ _ _ _ _ _ _ _ _ _ _ _ _ _ _ _ _ _ _ _ _ _ _ _ _ _ _ _ _ _ _ _ _ _ _ _ _ _ _ _ _ _ _ _ _ _ _ _ _ _ _ _ _ _ _ _ _ _ _ _ _ _ _ _ _ _ _ _ _ _ _ _ _ _ _ _ _ _ _ _ _ _ _ _ _ _ _ _ _ _ _ _ _ _ _ _ _ _ _ _ _ _ _ _ _ _ _ _ _ _ _ _ _ _ _ _ _ _ _ _ _ _ _ _ _ _ _ _ _ _ _ _ _ _ _ _ _ _ _ _ _ _ _ _ _ _ _ _ _ _ _ _ _ _ _ _ _ _ _
end Go.Proofs.YbulkoqcDoor
