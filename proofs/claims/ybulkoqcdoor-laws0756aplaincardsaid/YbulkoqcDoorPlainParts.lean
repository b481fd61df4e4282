/- LawS0756APlain from the parts on. Own work over this program's translation. -/
import Derived.Test.YbulkoqcDoorPlainGaps
namespace Go.Proofs.YbulkoqcDoor
open Go.RowKit
set_option linter.unusedVariables false
set_option linter.unusedSimpArgs false

theorem Ybad.info31 : (Ybad.prog.info? 31).map (fun i => (i.zero, i.size, i.bytes)) = some (some (.agg #[.slice none 0 0, .slice none 0 0, .slice none 0 0]), 3, 72) := by kernel_rfl

theorem planRest4 : dropSeq 4 (Ybad.f3.body.getD .skip) = (headSeq 4 (Ybad.f3.body.getD .skip)).seq ((headSeq 5 (Ybad.f3.body.getD .skip)).seq (dropSeq 6 (Ybad.f3.body.getD .skip))) := by kernel_rfl

def partCells (vb mb L : Nat → Nat) (j : Nat) : List Value := [.slice (some ⟨vb j, 0, none⟩) (L j) (L j), .slice (some ⟨mb j, 0, none⟩) (L j) (L j), .slice none 0 0]
theorem partCells_len (vb mb L : Nat → Nat) (j : Nat) : (partCells vb mb L j).length = 3 := rfl
theorem pv_pm (z : Nat → Nat) (j : Nat) (h : z j < 65536) : pv z j < 256 ∧ pm z j < 256 ∧ pv z j &&& pm z j = pv z j := by
  unfold pv pm
  refine ⟨Nat.lt_of_le_of_lt Nat.and_le_left (by omega), by omega, ?_⟩
  rw [Nat.and_assoc, Nat.and_self]

/-- One part more: what the round leaves. -/
theorem parts_step (W wr w4 w5 : World) (fb i gv gm gg cap : Nat) (pa : Option Addr) (pc : Nat) (vb mb Ln : Nat → Nat) (z : Nat → Nat → Nat) {o : Obj} {xs : List Value} (hfl : fb < W.heap.size) (hsz : W.heap.size ≤ wr.heap.size)
    (hown : wr.ownsRow W.heap.size 31 3 (.slice pa i pc) i xs) (K0 : Kept [fb] W wr) (hrows : ∀ j, j < i → W.heap.size ≤ vb j ∧ W.heap.size ≤ mb j ∧ (∀ g, (Value.slice pa i pc).ownBlock = some g → g ≠ vb j ∧ g ≠ mb j) ∧ IsRow8 wr (vb j) (pv (z j)) (Ln j) (Ln j) ∧ IsRow8 wr (mb j) (pm (z j)) (Ln j) (Ln j))
    (p1 : wr.drew.heap.size ≤ gv) (p2 : wr.drew.heap.size ≤ gm) (p4 : IsRow8 w4 gv (pv (z i)) (Ln i) (Ln i)) (p5 : IsRow8 w4 gm (pm (z i)) (Ln i) (Ln i)) (s2 : Below wr.drew.heap.size wr.drew w4)
    (hgrow : (w4.alloc o).grownBy w5 (Value.slice pa i pc).ownBlock) (hat : (Value.slice pa i pc).ownBlock = some gg ∨ gg = w4.heap.size + 1) :
    gg ≠ fb ∧ Kept [fb] W w5 ∧ ∀ j, j < i + 1 → W.heap.size ≤ (if j = i then gv else vb j) ∧ W.heap.size ≤ (if j = i then gm else mb j) ∧ (∀ g, (Value.slice (some ⟨gg, 0, none⟩) (i + 1) cap).ownBlock = some g → g ≠ (if j = i then gv else vb j) ∧ g ≠ (if j = i then gm else mb j)) ∧ IsRow8 (w5.setCell ⟨fb, 0, none⟩ (.slice (some ⟨gg, 0, none⟩) (i + 1) cap)) (if j = i then gv else vb j) (pv (z j)) (Ln j) (Ln j) ∧ IsRow8 (w5.setCell ⟨fb, 0, none⟩ (.slice (some ⟨gg, 0, none⟩) (i + 1) cap)) (if j = i then gm else mb j) (pm (z j)) (Ln j) (Ln j) := by
  have hs4 : wr.heap.size ≤ w4.heap.size := s2.size
  have p1' : wr.heap.size ≤ gv := p1
  have p2' : wr.heap.size ≤ gm := p2
  have l4 := p4.lt
  have l5 := p5.lt
  have old : ∀ b, b < w4.heap.size → (Value.slice pa i pc).ownBlock ≠ some b → w5.heap[b]? = w4.heap[b]? := fun b hb hn =>
    (hgrow.block b (by simp; omega) (fun e => hn e.symm)).trans (Below.heap_alloc w4 o b hb)
  have hgg : ∀ b, b < w4.heap.size → (Value.slice pa i pc).ownBlock ≠ some b → gg ≠ b := fun b hb hn e => by
    subst e
    rcases hat with h | h
    · exact hn h
    · omega
  have hfb : (Value.slice pa i pc).ownBlock ≠ some fb := fun h => by have := (hown.lt _ h).1; omega
  refine ⟨hgg fb (by omega) hfb, ((K0.drew.trans (Below.toKept s2) (by simp)).alloc _).grown hgrow (fun b hb => .inr (hown.lt b hb).1), fun j hj => ?_⟩
  by_cases e : j = i
  · subst e
    simp only [if_true]
    have n1 : (Value.slice pa j pc).ownBlock ≠ some gv := fun h => by have := (hown.lt _ h).2; omega
    have n2 : (Value.slice pa j pc).ownBlock ≠ some gm := fun h => by have := (hown.lt _ h).2; omega
    refine ⟨by omega, by omega, fun g hg => ?_, ?_, ?_⟩
    · simp [Value.ownBlock] at hg
      subst hg
      exact ⟨hgg gv l4 n1, hgg gm l5 n2⟩
    · exact (p4.block (old gv l4 n1)).other (by omega) _
    · exact (p5.block (old gm l5 n2)).other (by omega) _
  · simp only [if_neg e]
    obtain ⟨r1, r2, r3, r4, r5⟩ := hrows j (by omega)
    have n1 : (Value.slice pa i pc).ownBlock ≠ some (vb j) := fun h => (r3 _ h).1 rfl
    have n2 : (Value.slice pa i pc).ownBlock ≠ some (mb j) := fun h => (r3 _ h).2 rfl
    have l1 := r4.lt
    have l2 := r5.lt
    refine ⟨r1, r2, fun g hg => ?_, ?_, ?_⟩
    · simp [Value.ownBlock] at hg
      subst hg
      exact ⟨hgg (vb j) (by omega) n1, hgg (mb j) (by omega) n2⟩
    · exact (r4.block ((old _ (by omega) n1).trans (s2.block _ l1))).other (by omega) _
    · exact (r5.block ((old _ (by omega) n2).trans (s2.block _ l2))).other (by omega) _

set_option maxRecDepth 100000 in
set_option maxHeartbeats 4000000 in
theorem plain_parts (R : World → Prop) (W : World) (fb : Nat) (a0 : Option Addr) (b0 o0 n0 cap0 : Nat) (A : Nat → Option Addr) (B O Ln Cp : Nat → Nat) (z : Nat → Nat → Nat) (a1 : Option Addr) (b1 o1 len1 cap1 : Nat) (z1 : Nat → Nat)
    (hR : ∀ w', Kept [fb] W w' → R w') (hn0 : n0 ≤ 64) (hB : W.heap[fb]? = some (.cells #[.slice none 0 0, .slice none 0 0, .bool false] 28 (0, 0))) (hV : FullVar W) (h1l : 1 < W.heap.size) (h1f : 1 ≠ fb)
    (hI : (0 < n0 → a0 = some ⟨b0, o0, none⟩ ∧ b0 < W.heap.size ∧ b0 ≠ fb) ∧ (∀ i, i < n0 → W.cell? ⟨b0, o0 + i, none⟩ = some (.slice (A i) (Ln i) (Cp i))) ∧ (∀ i, i < n0 → 0 < Ln i → A i = some ⟨B i, O i, none⟩ ∧ B i < W.heap.size ∧ B i ≠ fb) ∧ (∀ i, i < n0 → ∀ j, j < Ln i → W.cell? ⟨B i, O i + j, none⟩ = some (.int .u16 (z i j))) ∧ (∀ i j, z i j < 65536) ∧ (∀ i, Ln i ≤ 256)) (hG : (0 < len1 → a1 = some ⟨b1, o1, none⟩ ∧ b1 < W.heap.size ∧ b1 ≠ fb) ∧ (∀ j, j < len1 → W.cell? ⟨b1, o1 + j, none⟩ = some (.int .u8 (z1 j))) ∧ (∀ j, z1 j < 256))
    (u2 u3 u4 u5 u7 u8 u9 u10 u11 u12 u13 u14 u15 u16 u17 u18 u19 u20 u21 u22 u23 u24 u25 u26 u27 u28 u29 u30 u31 u32 u33 u34 u35 u36 u37 u38 u39 u40 u41 u42 u43 u44 u45 u46 u47 u48 u49 u50 u51 u52 u53 u54 u55 u56 u57 u58 u59 u60 u61 u62 u63 u64 u65 u66 u67 u68 u69 u70 u71 u72 u73 u74 u75 u76 u77 u78 u79 u80 u81 u82 u83 u84 u85 u86 u87 u88 u89 u90 u91 u92 u93 u94 u95 u96 u97 u98 u99 u100 u101 u102 u103 u104 u105 u106 u107 u108 u109 u110 u111 u112 u113 u114 u115 u116 u117 u118 u119 u120 u121 u122 u123 u124 u125 u126 u127 u128 u129 u130 u131 u132 u133 u134 u135 u136 u137 u138 u139 u140 u141 u142 u143 u144 u145 u146 u147 u148 u149 u150 u151 u152 u153 u154 u155 u156 u157 u158 u159 u160 u161 u162 u163 u164 u165 : Value) :
    Code.wp Ybad.prog (dropSeq 4 (Ybad.f3.body.getD .skip)) (bodyPost Ybad.prog Ybad.f3 fun e w' => e = .returned (.bool true) ∧ R w') ⟨#[.slice a0 n0 cap0, .slice a1 len1 cap1, u2, u3, u4, u5, .pointer (some ⟨fb, 0, none⟩), u7, u8, u9, u10, u11, u12, u13, u14, u15, u16, u17, u18, u19, u20, u21, u22, u23, u24, u25, u26, u27, u28, u29, u30, u31, u32, u33, u34, u35, u36, u37, u38, u39, u40, u41, u42, u43, u44, u45, u46, u47, u48, u49, u50, u51, u52, u53, u54, u55, u56, u57, u58, u59, u60, u61, u62, u63, u64, u65, u66, u67, u68, u69, u70, u71, u72, u73, u74, u75, u76, u77, u78, u79, u80, u81, u82, u83, u84, u85, u86, u87, u88, u89, u90, u91, u92, u93, u94, u95, u96, u97, u98, u99, u100, u101, u102, u103, u104, u105, u106, u107, u108, u109, u110, u111, u112, u113, u114, u115, u116, u117, u118, u119, u120, u121, u122, u123, u124, u125, u126, u127, u128, u129, u130, u131, u132, u133, u134, u135, u136, u137, u138, u139, u140, u141, u142, u143, u144, u145, u146, u147, u148, u149, u150, u151, u152, u153, u154, u155, u156, u157, u158, u159, u160, u161, u162, u163, u164, u165], []⟩ W := by
  obtain ⟨i31, hi31, hz0, hz1, hz2⟩ := info_parts Ybad.info31
  have hfl := lt_of_block hB
  have H0 : Hid ((0 < n0 → a0 = some ⟨b0, o0, none⟩ ∧ b0 < W.heap.size ∧ b0 ≠ fb) ∧ (∀ i, i < n0 → W.cell? ⟨b0, o0 + i, none⟩ = some (.slice (A i) (Ln i) (Cp i))) ∧ (∀ i, i < n0 → 0 < Ln i → A i = some ⟨B i, O i, none⟩ ∧ B i < W.heap.size ∧ B i ≠ fb) ∧ (∀ i, i < n0 → ∀ j, j < Ln i → W.cell? ⟨B i, O i + j, none⟩ = some (.int .u16 (z i j))) ∧ (∀ i j, z i j < 65536) ∧ (∀ i, Ln i ≤ 256)) := hI
  have H1 : Hid ((0 < len1 → a1 = some ⟨b1, o1, none⟩ ∧ b1 < W.heap.size ∧ b1 ≠ fb) ∧ (∀ j, j < len1 → W.cell? ⟨b1, o1 + j, none⟩ = some (.int .u8 (z1 j))) ∧ (∀ j, z1 j < 256)) := hG
  have H2 : Hid ((∀ w', Kept [fb] W w' → R w') ∧ FullVar W ∧ 1 < W.heap.size ∧ W.heap[fb]? = some (.cells #[.slice none 0 0, .slice none 0 0, .bool false] 28 (0, 0))) := ⟨hR, hV, h1l, hB⟩
  clear hI hG hR hV h1l hB
  rw [planRest4]
  conv => arg 2; arg 1; whnf
  go_wp2_with fail
  go_loopw [7] (fun x wr => ∃ (i : Nat) (pa : Option Addr) (pc : Nat) (vb mb : Nat → Nat), i ≤ n0 ∧ x = .int .i64 i ∧ wr.heap[fb]? = some (.cells #[.slice pa i pc, .slice none 0 0, .bool false] 28 (0, 0)) ∧ wr.ownsRow W.heap.size 31 3 (.slice pa i pc) i (rowCells (partCells vb mb Ln) i) ∧ Kept [fb] W wr ∧ ∀ j, j < i → W.heap.size ≤ vb j ∧ W.heap.size ≤ mb j ∧ (∀ g, (Value.slice pa i pc).ownBlock = some g → g ≠ vb j ∧ g ≠ mb j) ∧ IsRow8 wr (vb j) (pv (z j)) (Ln j) (Ln j) ∧ IsRow8 wr (mb j) (pm (z j)) (Ln j) (Ln j)) (fun x _ => n0 - (intOf x).toNat)
  case atStart => exact ⟨0, none, 0, fun _ => 0, fun _ => 0, by omega, rfl, H2.out.2.2.2, World.ownsRow_nil _ _ _ _, .refl _ _, fun j hj => by omega⟩
  case round =>
    obtain ⟨i, pa, pc, vb, mb, hi, rfl, hB, hown, K0, hrows⟩ := hrel
    have q0 : wr.cell? ⟨fb, 0, none⟩ = some (.slice pa i pc) := by rw [cell_of_row wr _ _ _ _ _ hB]; rfl
    have hsz := K0.size
    have HO : Hid (wr.ownsRow W.heap.size 31 3 (.slice pa i pc) i (rowCells (partCells vb mb Ln) i) ∧ Kept [fb] W wr ∧ wr.heap[fb]? = some (.cells #[.slice pa i pc, .slice none 0 0, .bool false] 28 (0, 0)) ∧ ∀ j, j < i → W.heap.size ≤ vb j ∧ W.heap.size ≤ mb j ∧ (∀ g, (Value.slice pa i pc).ownBlock = some g → g ≠ vb j ∧ g ≠ mb j) ∧ IsRow8 wr (vb j) (pv (z j)) (Ln j) (Ln j) ∧ IsRow8 wr (mb j) (pm (z j)) (Ln j) (Ln j)) := ⟨hown, K0, hB, hrows⟩
    clear hown K0 hB hrows
    by_cases hin : i < n0
    · obtain ⟨ha, hb, hbf⟩ := H0.out.1 (by omega)
      subst ha
      have q1 : wr.cell? ⟨b0, o0 + i, none⟩ = some (.slice (A i) (Ln i) (Cp i)) := (HO.out.2.1.cell (p := ⟨b0, o0 + i, none⟩) hb (by simpa using hbf)).trans (H0.out.2.1 i hin)
      have c1 : (0 : Int) ≤ (i : Int) := by omega
      have c2 : (i : Int) < (n0 : Int) := by omega
      have lb : b0 < wr.heap.size := by omega
      have lf : fb < wr.heap.size := by omega
      have NP : Hid ((Value.slice pa i pc).ownBlock ≠ some b0 ∧ (Value.slice pa i pc).ownBlock ≠ some fb) := ⟨fun h => by have := (HO.out.1.lt _ h).1; omega, fun h => by have := (HO.out.1.lt _ h).1; omega⟩
      go_wp2_with fail
      refine wp_region_held_drew (S := fun w' => w'.cell? ⟨b0, o0 + i, none⟩ = some (.slice (A i) (Ln i) (Cp i))) (by kernel_rfl) q1 (fun hHeld => ?_)
      refine wpAnyH_take (i := 0) (v := ?_) rfl (by kernel_rfl) (by kernel_rfl) (by kernel_rfl) (fun _ _ _ h => h) (Or.inl ⟨by rfl, ?_⟩) (by assumption) ?_
      rotate_left
      · intro w hSw
        try dsimp only at hSw
        go_simp
        try with_reducible rfl
      try simp only [Act.put, List.setIfInBounds_toArray, List.set_cons_zero, List.set_cons_succ]
      refine wpAnyH_take (i := 2) (v := ?_) rfl (by kernel_rfl) (by kernel_rfl) (by kernel_rfl) (fun _ _ _ h => h) (Or.inl ⟨by rfl, ?_⟩) (by assumption) ?_
      rotate_left
      · intro w hSw
        try dsimp only at hSw
        go_simp
        try with_reducible rfl
      try simp only [Act.put, List.setIfInBounds_toArray, List.set_cons_zero, List.set_cons_succ]
      refine wpAnyH_take (i := 3) (v := ?_) rfl (by kernel_rfl) (by kernel_rfl) (by kernel_rfl) (fun _ _ _ h => h) (Or.inl ⟨by rfl, ?_⟩) (by assumption) ?_
      rotate_left
      · intro w hSw
        try dsimp only at hSw
        go_simp
        try with_reducible rfl
      try simp only [Act.put, List.setIfInBounds_toArray, List.set_cons_zero, List.set_cons_succ]
      refine wpAnyH_take (i := 4) (v := ?_) rfl (by kernel_rfl) (by kernel_rfl) (by kernel_rfl) (fun _ _ _ h => h) (Or.inl ⟨by rfl, ?_⟩) (by assumption) ?_
      rotate_left
      · intro w hSw
        try dsimp only at hSw
        go_simp
        try with_reducible rfl
      try simp only [Act.put, List.setIfInBounds_toArray, List.set_cons_zero, List.set_cons_succ]
      refine wpAnyH_take (i := 5) (v := ?_) rfl (by kernel_rfl) (by kernel_rfl) (by kernel_rfl) (fun _ _ _ h => h) (Or.inl ⟨by rfl, ?_⟩) (by assumption) ?_
      rotate_left
      · intro w hSw
        try dsimp only at hSw
        go_simp
        try with_reducible rfl
      try simp only [Act.put, List.setIfInBounds_toArray, List.set_cons_zero, List.set_cons_succ]
      refine wpAnyH_ready (rs := [1, 6]) (by kernel_rfl) (by simp) ?_
      refine AllReadyH.cons rfl (fun K hK => ?_) ?_
      · go_simp
        refine hK.out _ _ ?_ (fun hHeld => ?_)
        · first
            | exact q1
            | exact (s2.cell (p := ⟨b0, o0 + i, none⟩) lb).trans q1
            | exact (((Below.toKept s2).alloc _).cell (p := ⟨b0, o0 + i, none⟩) lb (by simp)).trans q1
            | exact (grow_cell s2 hgrow ⟨b0, o0 + i, none⟩ lb NP.out.1).trans q1
            | exact (World.cell?_setCell_other _ _ _ _ (fun e => hbf (congrArg Addr.block e).symm)).trans ((grow_cell s2 hgrow ⟨b0, o0 + i, none⟩ lb NP.out.1).trans q1)
            | exact (World.cell?_setCell_other _ _ _ _ (fun e => hbf (congrArg Addr.block e))).trans ((grow_cell s2 hgrow ⟨b0, o0 + i, none⟩ lb NP.out.1).trans q1)
        clear hK K
        try simp only [Act.put, List.setIfInBounds_toArray, List.set_cons_zero, List.set_cons_succ]
        refine wpAnyH_ready (rs := [6]) (by kernel_rfl) (by simp) ?_
        refine AllReadyH.cons rfl (fun K hK => ?_) ?_
        · go_simp
          refine (part_any (A i) (B i) (O i) (Ln i) (Cp i) (z i) _ (H0.out.2.2.2.2.2 i) (H0.out.2.2.2.2.1 i) (by exact fun h => ⟨(H0.out.2.2.1 i hin h).1, Nat.lt_of_lt_of_le (H0.out.2.2.1 i hin h).2.1 hsz⟩) (by exact fun j hj => (HO.out.2.1.cell (p := ⟨B i, O i + j, none⟩) (H0.out.2.2.1 i hin (by omega)).2.1 (by simpa using (H0.out.2.2.1 i hin (by omega)).2.2)).trans (H0.out.2.2.2.1 i hin j hj))).mono ?_
          rintro e w4 ⟨gv, gm, rfl, p1, p2, p3, p4, p5, s2⟩
          have y0 : w4.cell? ⟨fb, 0, none⟩ = some (.slice pa i pc) := (s2.cell (p := ⟨fb, 0, none⟩) lf).trans q0
          have y1 : ∀ o, (w4.alloc o).cell? ⟨fb, 0, none⟩ = some (.slice pa i pc) := fun o => (((Below.toKept s2).alloc o).cell (p := ⟨fb, 0, none⟩) lf (by simp)).trans q0
          go_wp2_with fail
          refine hK.out _ _ ?_ (fun hHeld => ?_)
          · first
              | exact q1
              | exact (s2.cell (p := ⟨b0, o0 + i, none⟩) lb).trans q1
              | exact (((Below.toKept s2).alloc _).cell (p := ⟨b0, o0 + i, none⟩) lb (by simp)).trans q1
              | exact (grow_cell s2 hgrow ⟨b0, o0 + i, none⟩ lb NP.out.1).trans q1
              | exact (World.cell?_setCell_other _ _ _ _ (fun e => hbf (congrArg Addr.block e).symm)).trans ((grow_cell s2 hgrow ⟨b0, o0 + i, none⟩ lb NP.out.1).trans q1)
              | exact (World.cell?_setCell_other _ _ _ _ (fun e => hbf (congrArg Addr.block e))).trans ((grow_cell s2 hgrow ⟨b0, o0 + i, none⟩ lb NP.out.1).trans q1)
          clear hK K
          try simp only [Act.put, List.setIfInBounds_toArray, List.set_cons_zero, List.set_cons_succ]
          refine wpAnyH_ready (rs := [7]) (by kernel_rfl) (by simp) ?_
          refine AllReadyH.cons rfl (fun K hK => ?_) ?_
          · go_simp
            refine hK.out _ _ ?_ (fun hHeld => ?_)
            · first
                | exact q1
                | exact (s2.cell (p := ⟨b0, o0 + i, none⟩) lb).trans q1
                | exact (((Below.toKept s2).alloc _).cell (p := ⟨b0, o0 + i, none⟩) lb (by simp)).trans q1
                | exact (grow_cell s2 hgrow ⟨b0, o0 + i, none⟩ lb NP.out.1).trans q1
                | exact (World.cell?_setCell_other _ _ _ _ (fun e => hbf (congrArg Addr.block e).symm)).trans ((grow_cell s2 hgrow ⟨b0, o0 + i, none⟩ lb NP.out.1).trans q1)
                | exact (World.cell?_setCell_other _ _ _ _ (fun e => hbf (congrArg Addr.block e))).trans ((grow_cell s2 hgrow ⟨b0, o0 + i, none⟩ lb NP.out.1).trans q1)
            clear hK K
            try simp only [Act.put, List.setIfInBounds_toArray, List.set_cons_zero, List.set_cons_succ]
            refine wpAnyH_ready (rs := [8]) (by kernel_rfl) (by simp) ?_
            refine AllReadyH.cons rfl (fun K hK => ?_) ?_
            · refine step_append_lies _ (by rfl) _ _ _ (by rfl) W.heap.size 31 i31 _ 3 72 Ybad.underlying25 hi31 hz0 hz1 hz2 rfl (by omega) (.slice pa i pc) i (rowCells (partCells vb mb Ln) i) (by rfl) ((Kept.owns (Below.toKept s2) HO.out.1 (by simp)).alloc _)
                ⟨w4.heap.size, 0, none⟩ 1 1 [.slice (some ⟨gv, 0, none⟩) (Ln i) (Ln i), .slice (some ⟨gm, 0, none⟩) (Ln i) (Ln i), .slice none 0 0] (by rfl) (by rfl) (World.news_of_block (cs := #[.slice (some ⟨gv, 0, none⟩) (Ln i) (Ln i), .slice (some ⟨gm, 0, none⟩) (Ln i) (Ln i), .slice none 0 0]) (t := 31) (fr := (0, 0)) (heap_alloc_new w4 _)) (by simp [Value.oneCell'])
                (by omega) (by unfold maxLen; omega) (by omega) (by have h : wr.heap.size ≤ w4.heap.size := s2.size; simp; omega) (w4.heap.size + 1) (by simp) ?_
              intro gg cap w5 hown5 hgrow hat hlt
              have hb5 : w5.heap[fb]? = some (.cells #[.slice pa i pc, .slice none 0 0, .bool false] 28 (0, 0)) := (grow_block s2 hgrow fb lf NP.out.2).trans HO.out.2.2.1
              have x1 : w5.cell? ⟨fb, 0, none⟩ = some (.slice pa i pc) := by rw [cell_of_row w5 _ _ _ _ _ hb5]; rfl
              have f1 : w5.frozen? ⟨fb, 0, none⟩ = false := by simp only [World.frozen?, hb5]; simp
              refine hK.out _ _ ?_ (fun hHeld => ?_)
              · first
                  | exact q1
                  | exact (s2.cell (p := ⟨b0, o0 + i, none⟩) lb).trans q1
                  | exact (((Below.toKept s2).alloc _).cell (p := ⟨b0, o0 + i, none⟩) lb (by simp)).trans q1
                  | exact (grow_cell s2 hgrow ⟨b0, o0 + i, none⟩ lb NP.out.1).trans q1
                  | exact (World.cell?_setCell_other _ _ _ _ (fun e => hbf (congrArg Addr.block e).symm)).trans ((grow_cell s2 hgrow ⟨b0, o0 + i, none⟩ lb NP.out.1).trans q1)
                  | exact (World.cell?_setCell_other _ _ _ _ (fun e => hbf (congrArg Addr.block e))).trans ((grow_cell s2 hgrow ⟨b0, o0 + i, none⟩ lb NP.out.1).trans q1)
              clear hK K
              try simp only [Act.put, List.setIfInBounds_toArray, List.set_cons_zero, List.set_cons_succ]
              refine wpAnyH_take (i := 9) (v := ?_) rfl (by kernel_rfl) (by kernel_rfl) (by kernel_rfl) (fun _ _ _ h => h) (Or.inl ⟨by rfl, ?_⟩) (by assumption) ?_
              rotate_left
              · intro w hSw
                try dsimp only at hSw
                go_simp
                try with_reducible rfl
              try simp only [Act.put, List.setIfInBounds_toArray, List.set_cons_zero, List.set_cons_succ]
              refine wpAnyH_ready (rs := [10]) (by kernel_rfl) (by simp) ?_
              refine AllReadyH.cons rfl (fun K hK => ?_) ?_
              · go_simp
                refine hK.out _ _ ?_ (fun hHeld => ?_)
                · first
                    | exact q1
                    | exact (s2.cell (p := ⟨b0, o0 + i, none⟩) lb).trans q1
                    | exact (((Below.toKept s2).alloc _).cell (p := ⟨b0, o0 + i, none⟩) lb (by simp)).trans q1
                    | exact (grow_cell s2 hgrow ⟨b0, o0 + i, none⟩ lb NP.out.1).trans q1
                    | exact (World.cell?_setCell_other _ _ _ _ (fun e => hbf (congrArg Addr.block e).symm)).trans ((grow_cell s2 hgrow ⟨b0, o0 + i, none⟩ lb NP.out.1).trans q1)
                    | exact (World.cell?_setCell_other _ _ _ _ (fun e => hbf (congrArg Addr.block e))).trans ((grow_cell s2 hgrow ⟨b0, o0 + i, none⟩ lb NP.out.1).trans q1)
                clear hK K
                try simp only [Act.put, List.setIfInBounds_toArray, List.set_cons_zero, List.set_cons_succ]
                refine wpAnyH_done (by kernel_rfl) ?_ _
                have PG : gg ≠ fb ∧ Kept [fb] W w5 ∧ ∀ j, j < i + 1 → W.heap.size ≤ (if j = i then gv else vb j) ∧ W.heap.size ≤ (if j = i then gm else mb j) ∧ (∀ g, (Value.slice (some ⟨gg, 0, none⟩) (i + 1) cap).ownBlock = some g → g ≠ (if j = i then gv else vb j) ∧ g ≠ (if j = i then gm else mb j)) ∧ IsRow8 (w5.setCell ⟨fb, 0, none⟩ (.slice (some ⟨gg, 0, none⟩) (i + 1) cap)) (if j = i then gv else vb j) (pv (z j)) (Ln j) (Ln j) ∧ IsRow8 (w5.setCell ⟨fb, 0, none⟩ (.slice (some ⟨gg, 0, none⟩) (i + 1) cap)) (if j = i then gm else mb j) (pm (z j)) (Ln j) (Ln j) :=
                  parts_step W wr w4 w5 fb i gv gm gg cap pa pc vb mb Ln z hfl hsz HO.out.1 HO.out.2.1 HO.out.2.2.2 p1 p2 p4 p5 s2 hgrow hat
                go_wp2
                go_roundw
                case rel =>
                  refine ⟨i + 1, some ⟨gg, 0, none⟩, cap, fun j => if j = i then gv else vb j, fun j => if j = i then gm else mb j, by omega, by go_num, ?_, ?_, ?_, ?_⟩
                  · rw [heap_setCell_at hb5]; try rfl
                  · have e : rowCells (partCells (fun j => if j = i then gv else vb j) (fun j => if j = i then gm else mb j) Ln) (i + 1) = rowCells (partCells vb mb Ln) i ++ [.slice (some ⟨gv, 0, none⟩) (Ln i) (Ln i), .slice (some ⟨gm, 0, none⟩) (Ln i) (Ln i), .slice none 0 0] := by
                      rw [rowCells_succ, rowCells_congr (g := partCells vb mb Ln) (fun j hj => by unfold partCells; simp only [if_neg (show j ≠ i by omega)])]
                      unfold partCells; simp
                    rw [e]
                    exact ((Kept.refl [fb] w5).setCell (.inl (by simp)) _).owns hown5 (fun k hk => by simp [Value.ownBlock] at hk; subst hk; simpa using PG.1)
                  · exact PG.2.1.setCell (.inl (by simp)) _
                  · exact PG.2.2
                case measure => simp [intOf]; omega
              exact AllReadyH.nil
            exact AllReadyH.nil
          exact AllReadyH.nil
        exact AllReadyH.nil
      refine AllReadyH.cons rfl (fun K hK => ?_) ?_
      · go_simp
        refine (part_any (A i) (B i) (O i) (Ln i) (Cp i) (z i) _ (H0.out.2.2.2.2.2 i) (H0.out.2.2.2.2.1 i) (by exact fun h => ⟨(H0.out.2.2.1 i hin h).1, Nat.lt_of_lt_of_le (H0.out.2.2.1 i hin h).2.1 hsz⟩) (by exact fun j hj => (HO.out.2.1.cell (p := ⟨B i, O i + j, none⟩) (H0.out.2.2.1 i hin (by omega)).2.1 (by simpa using (H0.out.2.2.1 i hin (by omega)).2.2)).trans (H0.out.2.2.2.1 i hin j hj))).mono ?_
        rintro e w4 ⟨gv, gm, rfl, p1, p2, p3, p4, p5, s2⟩
        have y0 : w4.cell? ⟨fb, 0, none⟩ = some (.slice pa i pc) := (s2.cell (p := ⟨fb, 0, none⟩) lf).trans q0
        have y1 : ∀ o, (w4.alloc o).cell? ⟨fb, 0, none⟩ = some (.slice pa i pc) := fun o => (((Below.toKept s2).alloc o).cell (p := ⟨fb, 0, none⟩) lf (by simp)).trans q0
        go_wp2_with fail
        refine hK.out _ _ ?_ (fun hHeld => ?_)
        · first
            | exact q1
            | exact (s2.cell (p := ⟨b0, o0 + i, none⟩) lb).trans q1
            | exact (((Below.toKept s2).alloc _).cell (p := ⟨b0, o0 + i, none⟩) lb (by simp)).trans q1
            | exact (grow_cell s2 hgrow ⟨b0, o0 + i, none⟩ lb NP.out.1).trans q1
            | exact (World.cell?_setCell_other _ _ _ _ (fun e => hbf (congrArg Addr.block e).symm)).trans ((grow_cell s2 hgrow ⟨b0, o0 + i, none⟩ lb NP.out.1).trans q1)
            | exact (World.cell?_setCell_other _ _ _ _ (fun e => hbf (congrArg Addr.block e))).trans ((grow_cell s2 hgrow ⟨b0, o0 + i, none⟩ lb NP.out.1).trans q1)
        clear hK K
        try simp only [Act.put, List.setIfInBounds_toArray, List.set_cons_zero, List.set_cons_succ]
        refine wpAnyH_ready (rs := [1, 7]) (by kernel_rfl) (by simp) ?_
        refine AllReadyH.cons rfl (fun K hK => ?_) ?_
        · go_simp
          refine hK.out _ _ ?_ (fun hHeld => ?_)
          · first
              | exact q1
              | exact (s2.cell (p := ⟨b0, o0 + i, none⟩) lb).trans q1
              | exact (((Below.toKept s2).alloc _).cell (p := ⟨b0, o0 + i, none⟩) lb (by simp)).trans q1
              | exact (grow_cell s2 hgrow ⟨b0, o0 + i, none⟩ lb NP.out.1).trans q1
              | exact (World.cell?_setCell_other _ _ _ _ (fun e => hbf (congrArg Addr.block e).symm)).trans ((grow_cell s2 hgrow ⟨b0, o0 + i, none⟩ lb NP.out.1).trans q1)
              | exact (World.cell?_setCell_other _ _ _ _ (fun e => hbf (congrArg Addr.block e))).trans ((grow_cell s2 hgrow ⟨b0, o0 + i, none⟩ lb NP.out.1).trans q1)
          clear hK K
          try simp only [Act.put, List.setIfInBounds_toArray, List.set_cons_zero, List.set_cons_succ]
          refine wpAnyH_ready (rs := [7]) (by kernel_rfl) (by simp) ?_
          refine AllReadyH.cons rfl (fun K hK => ?_) ?_
          · go_simp
            refine hK.out _ _ ?_ (fun hHeld => ?_)
            · first
                | exact q1
                | exact (s2.cell (p := ⟨b0, o0 + i, none⟩) lb).trans q1
                | exact (((Below.toKept s2).alloc _).cell (p := ⟨b0, o0 + i, none⟩) lb (by simp)).trans q1
                | exact (grow_cell s2 hgrow ⟨b0, o0 + i, none⟩ lb NP.out.1).trans q1
                | exact (World.cell?_setCell_other _ _ _ _ (fun e => hbf (congrArg Addr.block e).symm)).trans ((grow_cell s2 hgrow ⟨b0, o0 + i, none⟩ lb NP.out.1).trans q1)
                | exact (World.cell?_setCell_other _ _ _ _ (fun e => hbf (congrArg Addr.block e))).trans ((grow_cell s2 hgrow ⟨b0, o0 + i, none⟩ lb NP.out.1).trans q1)
            clear hK K
            try simp only [Act.put, List.setIfInBounds_toArray, List.set_cons_zero, List.set_cons_succ]
            refine wpAnyH_ready (rs := [8]) (by kernel_rfl) (by simp) ?_
            refine AllReadyH.cons rfl (fun K hK => ?_) ?_
            · refine step_append_lies _ (by rfl) _ _ _ (by rfl) W.heap.size 31 i31 _ 3 72 Ybad.underlying25 hi31 hz0 hz1 hz2 rfl (by omega) (.slice pa i pc) i (rowCells (partCells vb mb Ln) i) (by rfl) ((Kept.owns (Below.toKept s2) HO.out.1 (by simp)).alloc _)
                ⟨w4.heap.size, 0, none⟩ 1 1 [.slice (some ⟨gv, 0, none⟩) (Ln i) (Ln i), .slice (some ⟨gm, 0, none⟩) (Ln i) (Ln i), .slice none 0 0] (by rfl) (by rfl) (World.news_of_block (cs := #[.slice (some ⟨gv, 0, none⟩) (Ln i) (Ln i), .slice (some ⟨gm, 0, none⟩) (Ln i) (Ln i), .slice none 0 0]) (t := 31) (fr := (0, 0)) (heap_alloc_new w4 _)) (by simp [Value.oneCell'])
                (by omega) (by unfold maxLen; omega) (by omega) (by have h : wr.heap.size ≤ w4.heap.size := s2.size; simp; omega) (w4.heap.size + 1) (by simp) ?_
              intro gg cap w5 hown5 hgrow hat hlt
              have hb5 : w5.heap[fb]? = some (.cells #[.slice pa i pc, .slice none 0 0, .bool false] 28 (0, 0)) := (grow_block s2 hgrow fb lf NP.out.2).trans HO.out.2.2.1
              have x1 : w5.cell? ⟨fb, 0, none⟩ = some (.slice pa i pc) := by rw [cell_of_row w5 _ _ _ _ _ hb5]; rfl
              have f1 : w5.frozen? ⟨fb, 0, none⟩ = false := by simp only [World.frozen?, hb5]; simp
              refine hK.out _ _ ?_ (fun hHeld => ?_)
              · first
                  | exact q1
                  | exact (s2.cell (p := ⟨b0, o0 + i, none⟩) lb).trans q1
                  | exact (((Below.toKept s2).alloc _).cell (p := ⟨b0, o0 + i, none⟩) lb (by simp)).trans q1
                  | exact (grow_cell s2 hgrow ⟨b0, o0 + i, none⟩ lb NP.out.1).trans q1
                  | exact (World.cell?_setCell_other _ _ _ _ (fun e => hbf (congrArg Addr.block e).symm)).trans ((grow_cell s2 hgrow ⟨b0, o0 + i, none⟩ lb NP.out.1).trans q1)
                  | exact (World.cell?_setCell_other _ _ _ _ (fun e => hbf (congrArg Addr.block e))).trans ((grow_cell s2 hgrow ⟨b0, o0 + i, none⟩ lb NP.out.1).trans q1)
              clear hK K
              try simp only [Act.put, List.setIfInBounds_toArray, List.set_cons_zero, List.set_cons_succ]
              refine wpAnyH_take (i := 9) (v := ?_) rfl (by kernel_rfl) (by kernel_rfl) (by kernel_rfl) (fun _ _ _ h => h) (Or.inl ⟨by rfl, ?_⟩) (by assumption) ?_
              rotate_left
              · intro w hSw
                try dsimp only at hSw
                go_simp
                try with_reducible rfl
              try simp only [Act.put, List.setIfInBounds_toArray, List.set_cons_zero, List.set_cons_succ]
              refine wpAnyH_ready (rs := [10]) (by kernel_rfl) (by simp) ?_
              refine AllReadyH.cons rfl (fun K hK => ?_) ?_
              · go_simp
                refine hK.out _ _ ?_ (fun hHeld => ?_)
                · first
                    | exact q1
                    | exact (s2.cell (p := ⟨b0, o0 + i, none⟩) lb).trans q1
                    | exact (((Below.toKept s2).alloc _).cell (p := ⟨b0, o0 + i, none⟩) lb (by simp)).trans q1
                    | exact (grow_cell s2 hgrow ⟨b0, o0 + i, none⟩ lb NP.out.1).trans q1
                    | exact (World.cell?_setCell_other _ _ _ _ (fun e => hbf (congrArg Addr.block e).symm)).trans ((grow_cell s2 hgrow ⟨b0, o0 + i, none⟩ lb NP.out.1).trans q1)
                    | exact (World.cell?_setCell_other _ _ _ _ (fun e => hbf (congrArg Addr.block e))).trans ((grow_cell s2 hgrow ⟨b0, o0 + i, none⟩ lb NP.out.1).trans q1)
                clear hK K
                try simp only [Act.put, List.setIfInBounds_toArray, List.set_cons_zero, List.set_cons_succ]
                refine wpAnyH_done (by kernel_rfl) ?_ _
                have PG : gg ≠ fb ∧ Kept [fb] W w5 ∧ ∀ j, j < i + 1 → W.heap.size ≤ (if j = i then gv else vb j) ∧ W.heap.size ≤ (if j = i then gm else mb j) ∧ (∀ g, (Value.slice (some ⟨gg, 0, none⟩) (i + 1) cap).ownBlock = some g → g ≠ (if j = i then gv else vb j) ∧ g ≠ (if j = i then gm else mb j)) ∧ IsRow8 (w5.setCell ⟨fb, 0, none⟩ (.slice (some ⟨gg, 0, none⟩) (i + 1) cap)) (if j = i then gv else vb j) (pv (z j)) (Ln j) (Ln j) ∧ IsRow8 (w5.setCell ⟨fb, 0, none⟩ (.slice (some ⟨gg, 0, none⟩) (i + 1) cap)) (if j = i then gm else mb j) (pm (z j)) (Ln j) (Ln j) :=
                  parts_step W wr w4 w5 fb i gv gm gg cap pa pc vb mb Ln z hfl hsz HO.out.1 HO.out.2.1 HO.out.2.2.2 p1 p2 p4 p5 s2 hgrow hat
                go_wp2
                go_roundw
                case rel =>
                  refine ⟨i + 1, some ⟨gg, 0, none⟩, cap, fun j => if j = i then gv else vb j, fun j => if j = i then gm else mb j, by omega, by go_num, ?_, ?_, ?_, ?_⟩
                  · rw [heap_setCell_at hb5]; try rfl
                  · have e : rowCells (partCells (fun j => if j = i then gv else vb j) (fun j => if j = i then gm else mb j) Ln) (i + 1) = rowCells (partCells vb mb Ln) i ++ [.slice (some ⟨gv, 0, none⟩) (Ln i) (Ln i), .slice (some ⟨gm, 0, none⟩) (Ln i) (Ln i), .slice none 0 0] := by
                      rw [rowCells_succ, rowCells_congr (g := partCells vb mb Ln) (fun j hj => by unfold partCells; simp only [if_neg (show j ≠ i by omega)])]
                      unfold partCells; simp
                    rw [e]
                    exact ((Kept.refl [fb] w5).setCell (.inl (by simp)) _).owns hown5 (fun k hk => by simp [Value.ownBlock] at hk; subst hk; simpa using PG.1)
                  · exact PG.2.1.setCell (.inl (by simp)) _
                  · exact PG.2.2
                case measure => simp [intOf]; omega
              exact AllReadyH.nil
            exact AllReadyH.nil
          exact AllReadyH.nil
        refine AllReadyH.cons rfl (fun K hK => ?_) ?_
        · go_simp
          refine hK.out _ _ ?_ (fun hHeld => ?_)
          · first
              | exact q1
              | exact (s2.cell (p := ⟨b0, o0 + i, none⟩) lb).trans q1
              | exact (((Below.toKept s2).alloc _).cell (p := ⟨b0, o0 + i, none⟩) lb (by simp)).trans q1
              | exact (grow_cell s2 hgrow ⟨b0, o0 + i, none⟩ lb NP.out.1).trans q1
              | exact (World.cell?_setCell_other _ _ _ _ (fun e => hbf (congrArg Addr.block e).symm)).trans ((grow_cell s2 hgrow ⟨b0, o0 + i, none⟩ lb NP.out.1).trans q1)
              | exact (World.cell?_setCell_other _ _ _ _ (fun e => hbf (congrArg Addr.block e))).trans ((grow_cell s2 hgrow ⟨b0, o0 + i, none⟩ lb NP.out.1).trans q1)
          clear hK K
          try simp only [Act.put, List.setIfInBounds_toArray, List.set_cons_zero, List.set_cons_succ]
          refine wpAnyH_ready (rs := [1]) (by kernel_rfl) (by simp) ?_
          refine AllReadyH.cons rfl (fun K hK => ?_) ?_
          · go_simp
            refine hK.out _ _ ?_ (fun hHeld => ?_)
            · first
                | exact q1
                | exact (s2.cell (p := ⟨b0, o0 + i, none⟩) lb).trans q1
                | exact (((Below.toKept s2).alloc _).cell (p := ⟨b0, o0 + i, none⟩) lb (by simp)).trans q1
                | exact (grow_cell s2 hgrow ⟨b0, o0 + i, none⟩ lb NP.out.1).trans q1
                | exact (World.cell?_setCell_other _ _ _ _ (fun e => hbf (congrArg Addr.block e).symm)).trans ((grow_cell s2 hgrow ⟨b0, o0 + i, none⟩ lb NP.out.1).trans q1)
                | exact (World.cell?_setCell_other _ _ _ _ (fun e => hbf (congrArg Addr.block e))).trans ((grow_cell s2 hgrow ⟨b0, o0 + i, none⟩ lb NP.out.1).trans q1)
            clear hK K
            try simp only [Act.put, List.setIfInBounds_toArray, List.set_cons_zero, List.set_cons_succ]
            refine wpAnyH_ready (rs := [8]) (by kernel_rfl) (by simp) ?_
            refine AllReadyH.cons rfl (fun K hK => ?_) ?_
            · refine step_append_lies _ (by rfl) _ _ _ (by rfl) W.heap.size 31 i31 _ 3 72 Ybad.underlying25 hi31 hz0 hz1 hz2 rfl (by omega) (.slice pa i pc) i (rowCells (partCells vb mb Ln) i) (by rfl) ((Kept.owns (Below.toKept s2) HO.out.1 (by simp)).alloc _)
                ⟨w4.heap.size, 0, none⟩ 1 1 [.slice (some ⟨gv, 0, none⟩) (Ln i) (Ln i), .slice (some ⟨gm, 0, none⟩) (Ln i) (Ln i), .slice none 0 0] (by rfl) (by rfl) (World.news_of_block (cs := #[.slice (some ⟨gv, 0, none⟩) (Ln i) (Ln i), .slice (some ⟨gm, 0, none⟩) (Ln i) (Ln i), .slice none 0 0]) (t := 31) (fr := (0, 0)) (heap_alloc_new w4 _)) (by simp [Value.oneCell'])
                (by omega) (by unfold maxLen; omega) (by omega) (by have h : wr.heap.size ≤ w4.heap.size := s2.size; simp; omega) (w4.heap.size + 1) (by simp) ?_
              intro gg cap w5 hown5 hgrow hat hlt
              have hb5 : w5.heap[fb]? = some (.cells #[.slice pa i pc, .slice none 0 0, .bool false] 28 (0, 0)) := (grow_block s2 hgrow fb lf NP.out.2).trans HO.out.2.2.1
              have x1 : w5.cell? ⟨fb, 0, none⟩ = some (.slice pa i pc) := by rw [cell_of_row w5 _ _ _ _ _ hb5]; rfl
              have f1 : w5.frozen? ⟨fb, 0, none⟩ = false := by simp only [World.frozen?, hb5]; simp
              refine hK.out _ _ ?_ (fun hHeld => ?_)
              · first
                  | exact q1
                  | exact (s2.cell (p := ⟨b0, o0 + i, none⟩) lb).trans q1
                  | exact (((Below.toKept s2).alloc _).cell (p := ⟨b0, o0 + i, none⟩) lb (by simp)).trans q1
                  | exact (grow_cell s2 hgrow ⟨b0, o0 + i, none⟩ lb NP.out.1).trans q1
                  | exact (World.cell?_setCell_other _ _ _ _ (fun e => hbf (congrArg Addr.block e).symm)).trans ((grow_cell s2 hgrow ⟨b0, o0 + i, none⟩ lb NP.out.1).trans q1)
                  | exact (World.cell?_setCell_other _ _ _ _ (fun e => hbf (congrArg Addr.block e))).trans ((grow_cell s2 hgrow ⟨b0, o0 + i, none⟩ lb NP.out.1).trans q1)
              clear hK K
              try simp only [Act.put, List.setIfInBounds_toArray, List.set_cons_zero, List.set_cons_succ]
              refine wpAnyH_take (i := 9) (v := ?_) rfl (by kernel_rfl) (by kernel_rfl) (by kernel_rfl) (fun _ _ _ h => h) (Or.inl ⟨by rfl, ?_⟩) (by assumption) ?_
              rotate_left
              · intro w hSw
                try dsimp only at hSw
                go_simp
                try with_reducible rfl
              try simp only [Act.put, List.setIfInBounds_toArray, List.set_cons_zero, List.set_cons_succ]
              refine wpAnyH_ready (rs := [10]) (by kernel_rfl) (by simp) ?_
              refine AllReadyH.cons rfl (fun K hK => ?_) ?_
              · go_simp
                refine hK.out _ _ ?_ (fun hHeld => ?_)
                · first
                    | exact q1
                    | exact (s2.cell (p := ⟨b0, o0 + i, none⟩) lb).trans q1
                    | exact (((Below.toKept s2).alloc _).cell (p := ⟨b0, o0 + i, none⟩) lb (by simp)).trans q1
                    | exact (grow_cell s2 hgrow ⟨b0, o0 + i, none⟩ lb NP.out.1).trans q1
                    | exact (World.cell?_setCell_other _ _ _ _ (fun e => hbf (congrArg Addr.block e).symm)).trans ((grow_cell s2 hgrow ⟨b0, o0 + i, none⟩ lb NP.out.1).trans q1)
                    | exact (World.cell?_setCell_other _ _ _ _ (fun e => hbf (congrArg Addr.block e))).trans ((grow_cell s2 hgrow ⟨b0, o0 + i, none⟩ lb NP.out.1).trans q1)
                clear hK K
                try simp only [Act.put, List.setIfInBounds_toArray, List.set_cons_zero, List.set_cons_succ]
                refine wpAnyH_done (by kernel_rfl) ?_ _
                have PG : gg ≠ fb ∧ Kept [fb] W w5 ∧ ∀ j, j < i + 1 → W.heap.size ≤ (if j = i then gv else vb j) ∧ W.heap.size ≤ (if j = i then gm else mb j) ∧ (∀ g, (Value.slice (some ⟨gg, 0, none⟩) (i + 1) cap).ownBlock = some g → g ≠ (if j = i then gv else vb j) ∧ g ≠ (if j = i then gm else mb j)) ∧ IsRow8 (w5.setCell ⟨fb, 0, none⟩ (.slice (some ⟨gg, 0, none⟩) (i + 1) cap)) (if j = i then gv else vb j) (pv (z j)) (Ln j) (Ln j) ∧ IsRow8 (w5.setCell ⟨fb, 0, none⟩ (.slice (some ⟨gg, 0, none⟩) (i + 1) cap)) (if j = i then gm else mb j) (pm (z j)) (Ln j) (Ln j) :=
                  parts_step W wr w4 w5 fb i gv gm gg cap pa pc vb mb Ln z hfl hsz HO.out.1 HO.out.2.1 HO.out.2.2.2 p1 p2 p4 p5 s2 hgrow hat
                go_wp2
                go_roundw
                case rel =>
                  refine ⟨i + 1, some ⟨gg, 0, none⟩, cap, fun j => if j = i then gv else vb j, fun j => if j = i then gm else mb j, by omega, by go_num, ?_, ?_, ?_, ?_⟩
                  · rw [heap_setCell_at hb5]; try rfl
                  · have e : rowCells (partCells (fun j => if j = i then gv else vb j) (fun j => if j = i then gm else mb j) Ln) (i + 1) = rowCells (partCells vb mb Ln) i ++ [.slice (some ⟨gv, 0, none⟩) (Ln i) (Ln i), .slice (some ⟨gm, 0, none⟩) (Ln i) (Ln i), .slice none 0 0] := by
                      rw [rowCells_succ, rowCells_congr (g := partCells vb mb Ln) (fun j hj => by unfold partCells; simp only [if_neg (show j ≠ i by omega)])]
                      unfold partCells; simp
                    rw [e]
                    exact ((Kept.refl [fb] w5).setCell (.inl (by simp)) _).owns hown5 (fun k hk => by simp [Value.ownBlock] at hk; subst hk; simpa using PG.1)
                  · exact PG.2.1.setCell (.inl (by simp)) _
                  · exact PG.2.2
                case measure => simp [intOf]; omega
              exact AllReadyH.nil
            exact AllReadyH.nil
          exact AllReadyH.nil
        exact AllReadyH.nil
      exact AllReadyH.nil

    · obtain rfl : i = n0 := by omega
      by_cases hz : i = 0
      · subst hz
        have c0 : (((0 : Nat) : Int) == 0) = true := rfl
        go_wp2_with fail
        conv => arg 2; whnf
        go_wp2_with (at_builtin; refine wpList_append_lies _ rfl (.tmp 55) (.tmp 59) 25 rfl W.heap.size 31 i31 (.agg #[.slice none 0 0, .slice none 0 0, .slice none 0 0]) 3 72 Ybad.underlying25 hi31 hz0 hz1 hz2 rfl (by decide) (.slice pa 0 pc) 0 (rowCells (partCells vb mb Ln) 0) rfl ?own ⟨wr.heap.size + 2, 0, none⟩ 1 1 [.slice (some ⟨wr.heap.size, 0, none⟩) 0 0, .slice (some ⟨wr.heap.size + 1, 0, none⟩) 0 0, .slice none 0 0] rfl rfl ?n1 ?n2 (by omega) ?n3 ?n4 ?n5 (wr.heap.size + 3) (by simp) ?_)
        case own => exact ((HO.out.1.alloc _).alloc _).alloc _
        case n1 =>
          refine World.news_of_block (cs := #[.slice (some ⟨wr.heap.size, 0, none⟩) 0 0, .slice (some ⟨wr.heap.size + 1, 0, none⟩) 0 0, .slice none 0 0]) (t := 31) (fr := (0, 0)) ?_
          have := heap_alloc_new ((wr.alloc (.cells #[] 5)).alloc (.cells #[] 5)) (.cells #[.slice (some ⟨wr.heap.size, 0, none⟩) 0 0, .slice (some ⟨wr.heap.size + 1, 0, none⟩) 0 0, .slice none 0 0] 31)
          rw [World.size_alloc, World.size_alloc] at this
          exact this
        case n2 => simp [Value.oneCell']
        case n3 => unfold maxLen; omega
        case n4 => omega
        case n5 => first | omega | (simp; omega)
        intro gg cap w5 hown5 hgrow hat hlt
        have lf : fb < wr.heap.size := by omega
        have hne : (Value.slice pa 0 pc).ownBlock ≠ some fb := fun h => by have := (HO.out.1.lt _ h).1; omega
        have hb5 : w5.heap[fb]? = some (.cells #[.slice pa 0 pc, .slice none 0 0, .bool false] 28 (0, 0)) :=
          (hgrow.block fb (by simp; omega) (fun e => hne e.symm)).trans ((Below.heap_alloc _ _ fb (by simp; omega)).trans ((Below.heap_alloc _ _ fb (by simp; omega)).trans ((Below.heap_alloc _ _ fb lf).trans HO.out.2.2.1)))
        have x1 : w5.cell? ⟨fb, 0, none⟩ = some (.slice pa 0 pc) := by rw [cell_of_row w5 _ _ _ _ _ hb5]; rfl
        have f1 : w5.frozen? ⟨fb, 0, none⟩ = false := by simp only [World.frozen?, hb5]; simp
        have hgb : W.heap.size ≤ gg := by
          rcases hat with h | h
          · exact (HO.out.1.lt _ h).1
          · omega
        have HE : Hid (w5.ownsRow W.heap.size 31 3 (.slice (some ⟨gg, 0, none⟩) 1 cap) 1 (rowCells (fun _ => [.slice (some ⟨wr.heap.size, 0, none⟩) 0 0, .slice (some ⟨wr.heap.size + 1, 0, none⟩) 0 0, .slice none 0 0]) 1) ∧ Kept [fb] W w5 ∧ w5.heap[fb]? = some (.cells #[.slice pa 0 pc, .slice none 0 0, .bool false] 28 (0, 0))) :=
          ⟨hown5, (((HO.out.2.1.alloc _).alloc _).alloc _).grown hgrow (fun b hb => .inr (HO.out.1.lt b hb).1), hb5⟩
        clear hown5 hgrow hat hb5
        go_wp2
        obtain ⟨hown, K0, hB'⟩ := HE.out
        obtain ⟨hR, hV, h1l, hB⟩ := H2.out
        obtain ⟨g1, g2, g3⟩ := H1.out
        have K1 : Kept [fb] W (w5.setCell ⟨fb, 0, none⟩ (.slice (some ⟨gg, 0, none⟩) 1 cap)) := K0.setCell (.inl (by simp)) _
        have hown1 : (w5.setCell ⟨fb, 0, none⟩ (.slice (some ⟨gg, 0, none⟩) 1 cap)).ownsRow W.heap.size 31 3 (.slice (some ⟨gg, 0, none⟩) 1 cap) 1 (rowCells (fun _ => [.slice (some ⟨wr.heap.size, 0, none⟩) 0 0, .slice (some ⟨wr.heap.size + 1, 0, none⟩) 0 0, .slice none 0 0]) 1) :=
          ((Kept.refl [fb] w5).setCell (.inl (by simp)) _).owns hown (fun k hk => by simp [Value.ownBlock] at hk; subst hk; simp; omega)
        have hB1 : (w5.setCell ⟨fb, 0, none⟩ (.slice (some ⟨gg, 0, none⟩) 1 cap)).heap[fb]? = some (.cells #[.slice (some ⟨gg, 0, none⟩) 1 cap, .slice none 0 0, .bool false] 28 (0, 0)) := by rw [heap_setCell_at hB']; rfl
        exact plain_gaps R _ fb gg 1 cap a1 b1 o1 len1 cap1 z1 (fun _ => some ⟨wr.heap.size, 0, none⟩) (fun _ => some ⟨wr.heap.size + 1, 0, none⟩) (fun _ => 0) (fun _ => 0) (fun _ => 0) (fun _ => 0) (fun _ => 0) (fun _ _ => 0) (fun _ _ => 0) (fun _ => by omega)
          (fun w' h => hR w' (K1.trans h (by simp))) (by omega) (by omega) hB1 (fun j hj => own_cell (s := 3) (fun _ => rfl) hown1 j 0 hj (by omega))
          ⟨fun j hj => own_cell (s := 3) (fun _ => rfl) hown1 j 1 hj (by omega), fun j hj => own_cell (s := 3) (fun _ => rfl) hown1 j 2 hj (by omega), fun j hj x hx => by omega, by rw [World.size_setCell]; exact hlt⟩
          (hV.kept K1 h1l (by simpa using h1f)) (Nat.lt_of_lt_of_le h1l K1.size) ⟨by omega, h1f⟩ (fun j hj hl => by omega)
          (fun h => ⟨(g1 h).1, Nat.lt_of_lt_of_le (g1 h).2.1 K1.size, (g1 h).2.2⟩) (fun j hj => (K1.cell (p := ⟨b1, o1 + j, none⟩) (g1 (by omega)).2.1 (by simpa using (g1 (by omega)).2.2)).trans (g2 j hj)) g3
          _ _ _ _ _ _ _ _ _ _ _ _ _ _ _ _ _ _ _ _ _ _ _ _ _ _ _ _ _ _ _ _ _ _ _ _ _ _ _ _ _ _ _ _ _ _ _ _ _ _ _ _ _ _ _ _ _ _ _ _ _ _ _ _ _ _ _ _ _ _ _ _ _ _ _ _ _ _ _ _ _ _ _ _ _ _ _ _ _ _ _ _ _ _ _ _ _ _ _ _ _ _ _ _ _ _ _ _ _ _ _ _ _ _ _ _ _ _ _ _ _ _ _ _ _ _ _ _ _ _ _ _ _ _ _ _ _ _ _ _ _ _ _ _ _ _ _ _ _ _ _ _ _ _ _ _ _ _ _ _ _ _ _ _
      · have c0 : ((i : Int) == 0) = false := by simp; omega
        go_wp2_with fail
        conv => arg 2; whnf
        go_wp2_with fail
        obtain ⟨hown, K0, hB', hrows⟩ := HO.out
        obtain ⟨hR, hV, h1l, hB⟩ := H2.out
        obtain ⟨pb, hpl, hpa⟩ := own_some hown (by omega)
        have hpa' := hpa (by omega)
        subst hpa'
        have hpb : W.heap.size ≤ pb := (hown.lt pb rfl).1
        obtain ⟨g1, g2, g3⟩ := H1.out
        exact plain_gaps R wr fb pb i pc a1 b1 o1 len1 cap1 z1 (fun j => some ⟨vb j, 0, none⟩) (fun j => some ⟨mb j, 0, none⟩) Ln Ln Ln vb mb (fun i j => pv (z i) j) (fun i j => pm (z i) j) H0.out.2.2.2.2.2
          (fun w' h => hR w' (K0.trans h (by simp))) (by omega) (by omega) hB' (fun j hj => own_cell (fun j => partCells_len vb mb Ln j) hown j 0 hj (by omega))
          ⟨fun j hj => own_cell (fun j => partCells_len vb mb Ln j) hown j 1 hj (by omega), fun j hj => own_cell (fun j => partCells_len vb mb Ln j) hown j 2 hj (by omega), fun j hj x hx => by
            obtain ⟨r1, r2, r3, r4, r5⟩ := hrows j hj
            obtain ⟨v1, v2, v3⟩ := pv_pm (z j) x (H0.out.2.2.2.2.1 j x)
            have t1 := r4.cell x hx
            have t2 := r5.cell x hx
            rw [if_pos hx] at t1 t2
            exact ⟨rfl, rfl, r4.lt, r5.lt, t1, t2, v1, v2, v3⟩, hpl⟩
          (hV.kept K0 h1l (by simpa using h1f)) (by omega) ⟨by omega, h1f⟩ (fun j hj _ => by obtain ⟨r1, r2, _⟩ := hrows j hj; exact ⟨by omega, by omega⟩)
          (fun h => ⟨(g1 h).1, Nat.lt_of_lt_of_le (g1 h).2.1 K0.size, (g1 h).2.2⟩) (fun j hj => (K0.cell (p := ⟨b1, o1 + j, none⟩) (g1 (by omega)).2.1 (by simpa using (g1 (by omega)).2.2)).trans (g2 j hj)) g3
          _ _ _ _ _ _ _ _ _ _ _ _ _ _ _ _ _ _ _ _ _ _ _ _ _ _ _ _ _ _ _ _ _ _ _ _ _ _ _ _ _ _ _ _ _ _ _ _ _ _ _ _ _ _ _ _ _ _ _ _ _ _ _ _ _ _ _ _ _ _ _ _ _ _ _ _ _ _ _ _ _ _ _ _ _ _ _ _ _ _ _ _ _ _ _ _ _ _ _ _ _ _ _ _ _ _ _ _ _ _ _ _ _ _ _ _ _ _ _ _ _ _ _ _ _ _ _ _ _ _ _ _ _ _ _ _ _ _ _ _ _ _ _ _ _ _ _ _ _ _ _ _ _ _ _ _ _ _ _ _ _ _ _ _
end Go.Proofs.YbulkoqcDoor
