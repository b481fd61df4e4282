/- LawS0756APlain from the wanted sets on. Own work over this program's translation. -/
import Derived.Test.YbulkoqcDoorRowsOf
namespace Go.Proofs.YbulkoqcDoor
open Go.RowKit
set_option linter.unusedVariables false

theorem Ybad.info38 : (Ybad.prog.info? 38).map (fun i => (i.zero, i.size, i.bytes)) = some (some (.agg #[.int .u64 0, .int .u64 0, .int .u64 0, .int .u64 0]), 4, 32) := by kernel_rfl

theorem planRest7 : dropSeq 7 (Ybad.f3.body.getD .skip) = (headSeq 7 (Ybad.f3.body.getD .skip)).seq ((headSeq 8 (Ybad.f3.body.getD .skip)).seq ((headSeq 9 (Ybad.f3.body.getD .skip)).seq (dropSeq 10 (Ybad.f3.body.getD .skip)))) := by kernel_rfl

def wantOf (S : Nat → Nat → Bool) (j : Nat) : List Value := [.int .u64 (wd (S j) 0), .int .u64 (wd (S j) 1), .int .u64 (wd (S j) 2), .int .u64 (wd (S j) 3)]
theorem wantOf_len (S : Nat → Nat → Bool) (j : Nat) : (wantOf S j).length = 4 := rfl

theorem Below.toKept {w w' : World} (h : Below w.heap.size w w') : Kept [] w w' := ⟨h.os, h.tape, h.output, h.size, fun k hk _ => h.block k hk⟩
theorem grow_block {w w1 w2 : World} {o : Obj} {row : Option Nat} (s : Below w.heap.size w w1) (h : (w1.alloc o).grownBy w2 row) (b : Nat) (hp : b < w.heap.size) (hr : row ≠ some b) : w2.heap[b]? = w.heap[b]? :=
  (h.block b (by simp; have := s.size; omega) (fun e => hr e.symm)).trans ((Below.heap_alloc w1 o b (by have := s.size; omega)).trans (s.block b hp))
theorem grow_cell {w w1 w2 : World} {o : Obj} {row : Option Nat} (s : Below w.heap.size w w1) (h : (w1.alloc o).grownBy w2 row) (p : Addr) (hp : p.block < w.heap.size) (hr : row ≠ some p.block) : w2.cell? p = w.cell? p :=
  World.cell?_of_block (grow_block s h p.block hp hr)

theorem own_some {w : World} {base n cap s : Nat} {e : TypeId} {a : Option Addr} {xs : List Value} (h : w.ownsRow base e s (.slice a n cap) n xs) (h0 : 0 < w.heap.size) : ∃ g, g < w.heap.size ∧ (0 < n → a = some ⟨g, 0, none⟩) := by
  rcases h.2 with ⟨h1, _⟩ | ⟨g, cap', cur, h1, _, hh, _⟩
  · simp at h1
    exact ⟨0, h0, fun hn => by omega⟩
  · simp at h1
    exact ⟨g, lt_of_block hh, fun _ => h1.1⟩
theorem Below.cell_alloc' (w : World) (o : Obj) (p : Addr) (h : p.block < w.heap.size) : (w.alloc o).cell? p = w.cell? p := World.cell?_of_block (Below.heap_alloc w o p.block h)

/-- How many sets are wanted ahead of part i. -/
def wantAt (L G : Nat → Nat) (np i : Nat) : Nat := if i < np then start L G i else total L G np
theorem start_bound {L G : Nat → Nat} (hL : ∀ i, L i ≤ 256) (hG : ∀ i, G i ≤ 3) (i : Nat) : start L G i ≤ i * 259 := by
  induction i with
  | zero => exact Nat.le_refl _
  | succ i ih =>
    have h1 := hL i
    have h2 := hG i
    show start L G i + L i + G i ≤ _
    omega

set_option maxRecDepth 100000 in
set_option maxHeartbeats 4000000 in
theorem plain_want (R : World → Prop) (W : World) (fb pb np cp : Nat) (go : Option Addr) (gb ng cg : Nat) (va ma : Nat → Option Addr) (cv cm L G vb mb : Nat → Nat) (V M : Nat → Nat → Nat)
    (hL : ∀ i, L i ≤ 256) (hG : ∀ i, G i ≤ 3) (hR : ∀ w', Kept [] W w' → R w')
    (hnp0 : 0 < np) (hnp : np ≤ 64) (hB : W.heap[fb]? = some (.cells #[.slice (some ⟨pb, 0, none⟩) np cp, .slice go ng cg, .bool false] 28 (0, 0)))
    (hF : FormMem W pb np go gb ng va cv L G) (hM : PartMem W pb np va ma cm L vb mb V M) (hV : FullVar W) (h1l : 1 < W.heap.size) (hgl : gb < W.heap.size)
    (u0 u1 u2 u3 u4 u5 u7 u8 u9 u10 u11 u12 u13 u14 u15 u16 u17 u18 u19 u20 u21 u22 u23 u24 u25 u26 u27 u28 u29 u30 u31 u32 u33 u34 u35 u36 u37 u38 u39 u40 u41 u42 u43 u44 u45 u46 u47 u48 u49 u50 u51 u52 u53 u54 u55 u56 u57 u58 u59 u60 u61 u62 u63 u64 u65 u66 u67 u68 u69 u70 u71 u72 u73 u74 u75 u76 u77 u78 u79 u80 u81 u82 u83 u84 u85 u86 u87 u88 u89 u90 u91 u92 u93 u94 u95 u96 u97 u98 u99 u100 u101 u102 u103 u104 u105 u106 u107 u108 u109 u110 u111 u112 u113 u114 u115 u116 u117 u118 u119 u120 u121 u122 u123 u124 u125 u126 u127 u128 u129 u130 u131 u132 u133 u134 u135 u136 u137 u138 u139 u140 u141 u142 u143 u144 u145 u146 u147 u148 u149 u150 u151 u152 u153 u154 u155 u156 u157 u158 u159 u160 u161 u162 u163 u164 u165 : Value) :
    Code.wp Ybad.prog (dropSeq 7 (Ybad.f3.body.getD .skip)) (bodyPost Ybad.prog Ybad.f3 fun e w' => e = .returned (.bool true) ∧ R w') ⟨#[u0, u1, u2, u3, u4, u5, .pointer (some ⟨fb, 0, none⟩), u7, u8, u9, u10, u11, u12, u13, u14, u15, u16, u17, u18, u19, u20, u21, u22, u23, u24, u25, u26, u27, u28, u29, u30, u31, u32, u33, u34, u35, u36, u37, u38, u39, u40, u41, u42, u43, u44, u45, u46, u47, u48, u49, u50, u51, u52, u53, u54, u55, u56, u57, u58, u59, u60, u61, u62, u63, u64, u65, u66, u67, u68, u69, u70, u71, u72, u73, u74, u75, u76, u77, u78, u79, u80, u81, u82, u83, u84, u85, u86, u87, u88, u89, u90, u91, u92, u93, u94, u95, u96, u97, u98, u99, u100, u101, u102, u103, u104, u105, u106, u107, u108, u109, u110, u111, u112, u113, u114, u115, u116, u117, u118, u119, u120, u121, u122, u123, u124, u125, u126, u127, u128, u129, u130, u131, u132, u133, u134, u135, u136, u137, u138, u139, u140, u141, u142, u143, u144, u145, u146, u147, u148, u149, u150, u151, u152, u153, u154, u155, u156, u157, u158, u159, u160, u161, u162, u163, u164, u165], []⟩ W := by
  obtain ⟨i38, hi38, hz0, hz1, hz2⟩ := info_parts Ybad.info38
  obtain ⟨S, hS⟩ : ∃ S, S = item L G (fun i j => mt (V i j) (M i j)) np 0 := ⟨_, rfl⟩
  have H0 : Hid (FormMem W pb np go gb ng va cv L G ∧ PartMem W pb np va ma cm L vb mb V M ∧ FullVar W ∧ 1 < W.heap.size ∧ gb < W.heap.size ∧ (∀ w', Kept [] W w' → R w') ∧ W.heap[fb]? = some (.cells #[.slice (some ⟨pb, 0, none⟩) np cp, .slice go ng cg, .bool false] 28 (0, 0)) ∧ S = item L G (fun i j => mt (V i j) (M i j)) np 0 ∧ (∀ i, L i ≤ 256) ∧ ∀ i, G i ≤ 3) := ⟨hF, hM, hV, h1l, hgl, hR, hB, hS, hL, hG⟩
  clear hF hM hV h1l hgl hR hB hS hL hG
  rw [planRest7]
  conv => arg 2; arg 1; whnf
  go_wp2_with fail
  conv => arg 2; whnf
  go_wp2_with fail
  go_loopw [10, 11] (fun v x wr => ∃ (i k : Nat) (wa : Option Addr) (wc : Nat), i ≤ np ∧ x = .int .i64 i ∧ v = .slice wa k wc ∧ k = wantAt L G np i ∧ wr.ownsRow W.heap.size 38 4 (.slice wa k wc) k (rowCells (wantOf S) k) ∧ Kept [] W wr) (fun _ x _ => np - (intOf x).toNat)
  case atStart => exact ⟨0, 0, none, 0, Nat.zero_le _, rfl, rfl, by unfold wantAt; rw [if_pos hnp0]; rfl, World.ownsRow_nil _ _ _ _, .refl _ _⟩
  case round =>
    obtain ⟨i, k, wa, wc, hi, rfl, rfl, hk, hown, K0⟩ := hrel
    have q0 : wr.cell? ⟨fb, 0, none⟩ = some (.slice (some ⟨pb, 0, none⟩) np cp) := by
      rw [cell_of_row wr _ _ _ _ _ ((K0.block fb (lt_of_block H0.out.2.2.2.2.2.2.1) (by simp)).trans H0.out.2.2.2.2.2.2.1)]; rfl
    by_cases hin : i < np
    · have HF : Hid (FormMem wr pb np go gb ng va cv L G) := H0.out.1.kept K0 (by simp) (by simp)
      have HM : Hid (PartMem wr pb np va ma cm L vb mb V M) := H0.out.2.1.kept K0 (by simp) (fun _ _ _ => by simp)
      have m0 := HF.out.parts i hin
      have m1 := HM.out.mask i hin
      have m2 := HM.out.alts i hin
      have hk' : k = start L G i := by rw [hk]; unfold wantAt; rw [if_pos hin]
      have HO : Hid (wr.ownsRow W.heap.size 38 4 (.slice wa k wc) k (rowCells (wantOf S) k) ∧ Kept [] W wr ∧ k = start L G i) := ⟨hown, K0, hk'⟩
      have b1 : (0 : Int) ≤ (i : Int) := by omega
      have b2 : (i : Int) < (np : Int) := by omega
      obtain ⟨l, hl⟩ : ∃ l, L i = l := ⟨_, rfl⟩
      rw [hl] at m0 m1
      have HL : Hid (L i = l ∧ l ≤ 256) := ⟨hl, by rw [← hl]; exact H0.out.2.2.2.2.2.2.2.2.1 i⟩
      clear hown K0 hk hk' hl
      go_wp2_with fail
      obtain ⟨w3, hw3⟩ : ∃ w3, wr.alloc (.cells #[.slice (va i) l (cv i), .slice (ma i) l (cm i), .slice none 0 0] 31) = w3 := ⟨_, rfl⟩
      have P3 : Hid (w3.heap[wr.heap.size]? = some (.cells #[.slice (va i) l (cv i), .slice (ma i) l (cm i), .slice none 0 0] 31 (0, 0)) ∧ w3.ownsRow W.heap.size 38 4 (.slice wa k wc) k (rowCells (wantOf S) k) ∧ Kept [] W w3 ∧ ∀ g, (Value.slice wa k wc).ownBlock = some g → g ≠ wr.heap.size) := by
        rw [← hw3]
        exact ⟨heap_alloc_new wr _, HO.out.1.alloc _, HO.out.2.1.alloc _, fun g hg => by have := (HO.out.1.lt g hg).2; omega⟩
      rw [hw3]
      obtain ⟨pc, hpc⟩ : ∃ pc, wr.heap.size = pc := ⟨_, rfl⟩
      rw [hpc] at P3 ⊢
      have HS : Hid (k = start L G i) := HO.out.2.2
      have HPC : Hid (W.heap.size ≤ pc) := by rw [← hpc]; exact HO.out.2.1.size
      clear hw3 hpc HO HF HM m0 m1 m2 q0
      go_loopw [10, 13] (fun v x wx => ∃ (j k : Nat) (wa : Option Addr) (wc : Nat), j ≤ l ∧ x = .int .i64 j ∧ v = .slice wa k wc ∧ k = start L G i + j ∧ wx.ownsRow W.heap.size 38 4 (.slice wa k wc) k (rowCells (wantOf S) k) ∧ Kept [] W wx ∧ wx.heap[pc]? = some (.cells #[.slice (va i) l (cv i), .slice (ma i) l (cm i), .slice none 0 0] 31 (0, 0)) ∧ ∀ g, (Value.slice wa k wc).ownBlock = some g → g ≠ pc) (fun _ x _ => l - (intOf x).toNat)
      case atStart => exact ⟨0, k, wa, wc, Nat.zero_le _, rfl, rfl, HS.out, P3.out.2.1, P3.out.2.2.1, P3.out.1, P3.out.2.2.2⟩
      case round =>
        obtain ⟨j, k, wa, wc, hj, rfl, rfl, hk, o1, o2, o3, o4⟩ := hrel
        have c0 : wr.cell? ⟨pc, 0, none⟩ = some (.slice (va i) l (cv i)) := by rw [cell_of_row wr _ _ _ _ _ o3]; rfl
        have c1 : wr.cell? ⟨pc, 1, none⟩ = some (.slice (ma i) l (cm i)) := by rw [cell_of_row wr _ _ _ _ _ o3]; rfl
        have lpc : pc < wr.heap.size := lt_of_block o3
        have HO : Hid (wr.ownsRow W.heap.size 38 4 (.slice wa k wc) k (rowCells (wantOf S) k) ∧ Kept [] W wr ∧ wr.heap[pc]? = some (.cells #[.slice (va i) l (cv i), .slice (ma i) l (cm i), .slice none 0 0] 31 (0, 0)) ∧ (∀ g, (Value.slice wa k wc).ownBlock = some g → g ≠ pc) ∧ k = start L G i + j) := ⟨o1, o2, o3, o4, hk⟩
        clear o1 o2 o3 o4 hk
        by_cases hjl : j < l
        · have M2 := H0.out.2.1.kept HO.out.2.1 (by simp) (fun _ _ _ => by simp)
          obtain ⟨e1, e2, e3, e4, e5, e6, e7, e8, e9⟩ := H0.out.2.1.row i hin j (by rw [HL.out.1]; exact hjl)
          have x3 := (HO.out.2.1.cell (p := ⟨vb i, j, none⟩) e3 (by simp)).trans e5
          have x4 := (HO.out.2.1.cell (p := ⟨mb i, j, none⟩) e4 (by simp)).trans e6
          rw [e1] at c0
          rw [e2] at c1
          have hsz := HO.out.2.1.size
          have hsi := HO.out.2.2.2.2
          have hS : S k = mt (V i j) (M i j) := by rw [H0.out.2.2.2.2.2.2.2.1, hsi]; exact item_at L G _ np i j hin (by rw [HL.out.1]; exact hjl)
          have HSk : Hid (S k = mt (V i j) (M i j)) := hS
          have kb : k ≤ 64 * 259 + 256 := by
            have h1 := start_bound H0.out.2.2.2.2.2.2.2.2.1 H0.out.2.2.2.2.2.2.2.2.2 i
            have h2 := HL.out.2
            omega
          have b3 : (0 : Int) ≤ (j : Int) := by omega
          have b4 : (j : Int) < (l : Int) := by omega
          obtain ⟨t0, ht0⟩ : ∃ t, wd (mt (V i j) (M i j)) 0 = t := ⟨_, rfl⟩
          obtain ⟨t1, ht1⟩ : ∃ t, wd (mt (V i j) (M i j)) 1 = t := ⟨_, rfl⟩
          obtain ⟨t2, ht2⟩ : ∃ t, wd (mt (V i j) (M i j)) 2 = t := ⟨_, rfl⟩
          obtain ⟨t3, ht3⟩ : ∃ t, wd (mt (V i j) (M i j)) 3 = t := ⟨_, rfl⟩
          have HT : Hid (wds (mt (V i j) (M i j)) = #[.int .u64 t0, .int .u64 t1, .int .u64 t2, .int .u64 t3] ∧ wantOf S k = [.int .u64 t0, .int .u64 t1, .int .u64 t2, .int .u64 t3]) := by
            refine ⟨?_, ?_⟩
            · unfold wds; rw [ht0, ht1, ht2, ht3]
            · unfold wantOf; rw [hS, ht0, ht1, ht2, ht3]
          clear e1 e2 e5 e6 e9 hS ht0 ht1 ht2 ht3 hsi M2
          have hl2 : l ≤ 256 := HL.out.2
          have NP : Hid ((Value.slice wa k wc).ownBlock ≠ some pc ∧ (Value.slice wa k wc).ownBlock ≠ some (vb i) ∧ (Value.slice wa k wc).ownBlock ≠ some (mb i) ∧ vb i < wr.heap.size ∧ mb i < wr.heap.size) :=
            ⟨fun h => HO.out.2.2.2.1 _ h rfl, fun h => by have := (HO.out.1.lt _ h).1; omega, fun h => by have := (HO.out.1.lt _ h).1; omega, by omega, by omega⟩
          go_wp2_with fail
          go_region_held3 (fun w' => w'.cell? ⟨pc, 0, none⟩ = some (.slice (some ⟨vb i, 0, none⟩) l (cv i)) ∧ w'.cell? ⟨pc, 1, none⟩ = some (.slice (some ⟨mb i, 0, none⟩) l (cm i)) ∧ w'.cell? ⟨vb i, j, none⟩ = some (.int .u8 (V i j)) ∧ w'.cell? ⟨mb i, j, none⟩ = some (.int .u8 (M i j)))
            (first
              | exact ⟨c0, c1, x3, x4⟩
              | exact ⟨(s2.cell (p := ⟨pc, 0, none⟩) lpc).trans c0, (s2.cell (p := ⟨pc, 1, none⟩) lpc).trans c1, (s2.cell (p := ⟨vb i, j, none⟩) (by show vb i < wr.heap.size; omega)).trans x3, (s2.cell (p := ⟨mb i, j, none⟩) (by show mb i < wr.heap.size; omega)).trans x4⟩
              | exact ⟨(((Below.toKept s2).alloc _).cell (p := ⟨pc, 0, none⟩) lpc (by simp)).trans c0, (((Below.toKept s2).alloc _).cell (p := ⟨pc, 1, none⟩) lpc (by simp)).trans c1, (((Below.toKept s2).alloc _).cell (p := ⟨vb i, j, none⟩) NP.out.2.2.2.1 (by simp)).trans x3, (((Below.toKept s2).alloc _).cell (p := ⟨mb i, j, none⟩) NP.out.2.2.2.2 (by simp)).trans x4⟩
              | exact ⟨(grow_cell s2 hgrow ⟨pc, 0, none⟩ lpc NP.out.1).trans c0, (grow_cell s2 hgrow ⟨pc, 1, none⟩ lpc NP.out.1).trans c1, (grow_cell s2 hgrow ⟨vb i, j, none⟩ NP.out.2.2.2.1 NP.out.2.1).trans x3, (grow_cell s2 hgrow ⟨mb i, j, none⟩ NP.out.2.2.2.2 NP.out.2.2.1).trans x4⟩)
            (first
              | (go_at_call 7; refine (masked_any (V i j) (M i j) _ e7 e8).mono ?_; rintro e w4 ⟨rfl, s2⟩; rw [HT.out.1])
              | (refine step_append_lies _ (by rfl) _ _ _ (by rfl) W.heap.size 38 i38 _ 4 32 Ybad.underlying35 hi38 hz0 hz1 hz2 rfl (by omega) (.slice wa k wc) k (rowCells (wantOf S) k) (by rfl) ((Kept.owns (Below.toKept s2) HO.out.1 (by simp)).alloc _)
                  ⟨w4.heap.size, 0, none⟩ 1 1 [.int .u64 t0, .int .u64 t1, .int .u64 t2, .int .u64 t3] (by rfl) (by rfl) (World.news_of_block (cs := #[.int .u64 t0, .int .u64 t1, .int .u64 t2, .int .u64 t3]) (t := 38) (fr := (0, 0)) (heap_alloc_new w4 _)) (by simp [Value.oneCell'])
                  (by omega) (by unfold maxLen; omega) (by omega) (by have h : wr.heap.size ≤ w4.heap.size := s2.size; simp; omega) (w4.heap.size + 1) (by simp) ?_
                 intro gg cap w5 hown5 hgrow hat hlt))
          go_wp2
          go_roundw
          case rel =>
            refine ⟨j + 1, k + 1, _, _, by omega, by go_num, rfl, by have := HO.out.2.2.2.2; omega, ?_, ?_, ?_, ?_⟩
            · rw [rowCells_succ, HT.out.2]; exact hown5
            · exact ((HO.out.2.1.drew.trans (Below.toKept s2) (by simp)).alloc _).grown hgrow (fun b hb => .inr (HO.out.1.lt b hb).1)
            · exact (grow_block s2 hgrow pc lpc NP.out.1).trans HO.out.2.2.1
            · intro g hg
              have h : wr.heap.size ≤ w4.heap.size := s2.size
              have hg' : gg = g := by simpa [Value.ownBlock] using hg
              subst hg'
              rcases hat with h1 | h1
              · exact HO.out.2.2.2.1 _ h1
              · omega
          case measure => simp [intOf]; omega
        · have hjl' : j = l := by omega
          subst hjl'
          have q0 : wr.cell? ⟨fb, 0, none⟩ = some (.slice (some ⟨pb, 0, none⟩) np cp) := by
            rw [cell_of_row wr _ _ _ _ _ ((HO.out.2.1.block fb (lt_of_block H0.out.2.2.2.2.2.2.1) (by simp)).trans H0.out.2.2.2.2.2.2.1)]; rfl
          by_cases hlast : i + 1 < np
          · have d1 : ((i : Int) < (np : Int) - 1) := by omega
            have q1 : wr.cell? ⟨fb, 1, none⟩ = some (.slice go ng cg) := by
              rw [cell_of_row wr _ _ _ _ _ ((HO.out.2.1.block fb (lt_of_block H0.out.2.2.2.2.2.2.1) (by simp)).trans H0.out.2.2.2.2.2.2.1)]; rfl
            go_wp2_with fail
            go_loopw [10, 14] (fun v x wy => ∃ (y k : Nat) (wa : Option Addr) (wc : Nat), y ≤ G i ∧ x = .int .i64 y ∧ v = .slice wa k wc ∧ k = start L G i + L i + y ∧ wy.ownsRow W.heap.size 38 4 (.slice wa k wc) k (rowCells (wantOf S) k) ∧ Kept [] W wy) (fun _ x _ => G i - (intOf x).toNat)
            case atStart => exact ⟨0, k, wa, wc, Nat.zero_le _, rfl, rfl, by rw [HL.out.1]; exact HO.out.2.2.2.2, HO.out.1, HO.out.2.1⟩
            case round =>
              obtain ⟨y, k, wa, wc, hy, rfl, rfl, hk, o1, o2⟩ := hrel
              obtain ⟨e1, e2, e3, e4⟩ := H0.out.1.gaps i hlast
              have x0 : wr.cell? ⟨fb, 1, none⟩ = some (.slice go ng cg) := by
                rw [cell_of_row wr _ _ _ _ _ ((o2.block fb (lt_of_block H0.out.2.2.2.2.2.2.1) (by simp)).trans H0.out.2.2.2.2.2.2.1)]; rfl
              have x1 := (o2.cell (p := ⟨gb, i * 2, none⟩) H0.out.2.2.2.2.1 (by simp)).trans e3
              have hsz := o2.size
              have hG3 := H0.out.2.2.2.2.2.2.2.2.2 i
              have kb : k ≤ 64 * 259 + 259 := by
                have h1 := start_bound H0.out.2.2.2.2.2.2.2.2.1 H0.out.2.2.2.2.2.2.2.2.2 i
                have h2 := H0.out.2.2.2.2.2.2.2.2.1 i
                omega
              rw [e1] at x0
              obtain ⟨z, hz⟩ : ∃ z, G i = z := ⟨_, rfl⟩
              rw [hz] at x1 hy hG3
              have HZ : Hid (G i = z) := hz
              have HO2 : Hid (wr.ownsRow W.heap.size 38 4 (.slice wa k wc) k (rowCells (wantOf S) k) ∧ Kept [] W wr ∧ k = start L G i + L i + y) := ⟨o1, o2, hk⟩
              have b5 : (i : Int) < (ng : Int) := by omega
              clear o1 o2 hk e1 e3 e4 hz
              by_cases hyz : y < z
              · have hS : S k = fun _ => true := by rw [H0.out.2.2.2.2.2.2.2.1, HO2.out.2.2]; exact item_gap L G _ np i y hin (by rw [HZ.out]; exact hyz)
                have HT : Hid (wantOf S k = [.int .u64 18446744073709551615, .int .u64 18446744073709551615, .int .u64 18446744073709551615, .int .u64 18446744073709551615]) := by
                  unfold wantOf
                  rw [hS]
                  exact congrArg Array.toList wds_full
                clear hS
                go_wp2_with fail
                refine (full_any _).mono ?_
                rintro e w4 ⟨rfl, s2⟩
                rw [wds_full]
                have hs4 : wr.heap.size ≤ w4.heap.size := s2.size
                go_wp2_with (at_builtin; refine wpList_append_lies _ rfl (.tmp 139) (.tmp 141) 35 rfl W.heap.size 38 i38 (.agg #[.int .u64 0, .int .u64 0, .int .u64 0, .int .u64 0]) 4 32 Ybad.underlying35 hi38 hz0 hz1 hz2 rfl (by decide) (.slice wa k wc) k (rowCells (wantOf S) k) rfl ?own ⟨w4.heap.size, 0, none⟩ 1 1 [.int .u64 18446744073709551615, .int .u64 18446744073709551615, .int .u64 18446744073709551615, .int .u64 18446744073709551615] rfl rfl ?d1 ?d2 (by omega) ?d3 ?d4 ?d5 (w4.heap.size + 1) (by simp) ?_)
                case own => exact (Kept.owns (Below.toKept s2) HO2.out.1 (by simp)).alloc _
                case d1 => exact World.news_of_block (cs := #[.int .u64 18446744073709551615, .int .u64 18446744073709551615, .int .u64 18446744073709551615, .int .u64 18446744073709551615]) (t := 38) (fr := (0, 0)) (heap_alloc_new w4 _)
                case d2 => simp [Value.oneCell']
                case d3 => unfold maxLen; omega
                case d4 => omega
                case d5 => simp; omega
                intro gg cap w5 hown5 hgrow hat hlt
                go_wp2
                go_roundw
                case rel =>
                  refine ⟨y + 1, k + 1, _, _, by rw [HZ.out]; omega, by go_num, rfl, by have := HO2.out.2.2; omega, ?_, ?_⟩
                  · rw [rowCells_succ, HT.out]; exact hown5
                  · exact ((HO2.out.2.1.trans (Below.toKept s2) (by simp)).alloc _).grown hgrow (fun b hb => .inr (HO2.out.1.lt b hb).1)
                case measure => have hz := HZ.out; simp [intOf]; omega
              · have hyz' : y = z := by omega
                subst hyz'
                go_wp2_with fail
                go_roundw
                case rel =>
                  refine ⟨i + 1, k, wa, wc, by omega, by go_num, rfl, ?_, HO2.out.1, HO2.out.2.1⟩
                  unfold wantAt
                  rw [if_pos (by omega)]
                  show _ = start L G i + L i + G i
                  rw [HZ.out]
                  exact HO2.out.2.2
                case measure => simp [intOf]; omega
          · have d1 : ¬ ((i : Int) < (np : Int) - 1) := by omega
            have d2 : decide ((i : Int) < (np : Int) - 1) = false := by simp; omega
            go_wp2_with fail
            go_roundw
            case rel =>
              refine ⟨i + 1, k, wa, wc, by omega, by go_num, rfl, ?_, HO.out.1, HO.out.2.1⟩
              unfold wantAt total
              rw [if_neg (by omega), show np - 1 = i from by omega, HL.out.1]
              exact HO.out.2.2.2.2
            case measure => simp [intOf]; omega
    · obtain rfl : i = np := by omega
      have HO : Hid (wr.ownsRow W.heap.size 38 4 (.slice wa k wc) k (rowCells (wantOf S) k) ∧ Kept [] W wr ∧ k = wantAt L G i i) := ⟨hown, K0, hk⟩
      have q1 : wr.cell? ⟨fb, 1, none⟩ = some (.slice go ng cg) := by
        rw [cell_of_row wr _ _ _ _ _ ((K0.block fb (lt_of_block H0.out.2.2.2.2.2.2.1) (by simp)).trans H0.out.2.2.2.2.2.2.1)]; rfl
      have q2 : wr.cell? ⟨fb, 2, none⟩ = some (.bool false) := by
        rw [cell_of_row wr _ _ _ _ _ ((K0.block fb (lt_of_block H0.out.2.2.2.2.2.2.1) (by simp)).trans H0.out.2.2.2.2.2.2.1)]; rfl
      clear hown K0 hk
      go_wp2_with fail
      conv => arg 2; whnf
      go_wp2_with fail
      obtain ⟨hF, hM, hV, h1l, hgl, hR, hB, hS, hL, hG⟩ := H0.out
      obtain ⟨hown, K0, hk⟩ := HO.out
      have hkt : k = total L G i := by rw [hk]; unfold wantAt; rw [if_neg hin]
      have hsz := K0.size
      obtain ⟨wb, hwl, hwo⟩ := own_some hown (by omega)
      have KA : Kept [] W (wr.alloc (.cells #[.slice (some ⟨pb, 0, none⟩) i cp, .slice go ng cg, .bool false, .int .i64 0, .int .i64 0, .int .i64 0, .int .i64 0] 43)) := K0.alloc _
      have hpl := hF.pbl
      have hkb : k ≤ 64 * 259 + 256 := by
        have h1 := start_bound hL hG (i - 1)
        have h2 := hL (i - 1)
        unfold total at hkt
        omega
      exact plain_tail R _ wr.heap.size pb i cp go gb ng cg (.bool false) va ma cv cm L G vb mb V M wa wb wc k hkt (by omega)
        (fun w' h => hR w' (KA.trans h (fun x hx => .inr (by simp at hx; omega)))) (by omega) (heap_alloc_new wr _) (hF.kept KA (by simp) (by simp)) (hM.kept KA (by simp) (fun _ _ _ => by simp))
        ⟨hnp0, Nat.zero_le _, .inl rfl, rfl⟩ (hV.kept KA h1l (by simp)) (by simp; omega)
        (fun j hj => by
          have hj0 := hwo (by omega)
          subst hj0
          refine ⟨rfl, by simp; omega, fun c hc => ?_⟩
          rw [Below.cell_alloc' wr _ ⟨wb, j * 4 + c, none⟩ hwl, own_cell (fun j => wantOf_len S j) hown j c hj hc, hS]
          match c, hc with
          | 0, _ => rfl
          | 1, _ => rfl
          | 2, _ => rfl
          | 3, _ => rfl)
        ⟨by omega, by omega, by omega, by omega⟩ (by simp; omega) (fun i' hi' hl' => by obtain ⟨_, _, c, d, _⟩ := hM.row i' hi' 0 hl'; exact ⟨by omega, by omega⟩)
        _ _ _ _ _ _ _ _ _ _ _ _ _ _ _ _ _ _ _ _ _ _ _ _ _ _ _ _ _ _ _ _ _ _ _ _ _ _ _ _ _ _ _ _ _ _ _ _ _ _ _ _ _ _ _ _ _ _ _ _ _ _ _ _ _ _ _ _ _ _ _ _ _ _ _ _ _ _ _ _ _ _ _ _ _ _ _ _ _ _ _ _ _ _ _ _ _ _ _ _ _ _ _ _ _ _ _ _ _ _ _ _ _ _ _ _ _ _ _ _ _ _ _ _ _ _ _ _ _ _ _ _ _ _ _ _ _ _ _ _ _ _ _ _ _ _ _ _ _ _ _ _ _ _ _ _ _ _ _ _ _ _ _ _
end Go.Proofs.YbulkoqcDoor
