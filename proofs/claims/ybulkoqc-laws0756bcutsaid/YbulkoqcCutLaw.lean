/- LawS0756BCut: the law's walk up to its first loop; the rest is YbulkoqcCutTail1. Own work over this program's translation. -/
import Derived.Test.YbulkoqcCutTail1
import Derived.Laws.CopyOwn
import Derived.Deep.DeepCutAuto
namespace Go.Proofs.Ybulkoqc
open Go.RowKit
set_option linter.unusedVariables false

theorem Yba.info40 : (Yba.prog.info? 40).map (fun i => (i.zero, i.size, i.bytes)) = some (some (.agg #[.int .i64 0, .slice none 0 0, .bool false, .bool false]), 4, 40) := by kernel_rfl

theorem own_block {w : World} {base g n : Nat} {e : TypeId} {xs : List Value} (h : w.ownsRow base e 1 (.slice (some ⟨g, 0, none⟩) n n) n xs) : w.heap[g]? = some (.cells xs.toArray e (0, 0)) := by
  rcases h.2 with ⟨h, _⟩ | ⟨g', cap, cur, h', _, hh, h1, h2, h3, h4⟩
  · cases h
  · simp at h'
    obtain ⟨rfl, rfl⟩ := h'
    rw [List.take_of_length_le (by simp [h3])] at h4
    rw [hh, ← h4]

theorem own_of_block {w : World} {g n : Nat} {e : TypeId} {xs : List Value} (h : w.heap[g]? = some (.cells xs.toArray e (0, 0))) (hl : xs.length = n) (hn : n ≤ maxLen) : w.ownsRow 0 e 1 (.slice (some ⟨g, 0, none⟩) n n) n xs :=
  ⟨by rw [hl]; simp, .inr ⟨g, n, _, rfl, Nat.zero_le _, h, Nat.le_refl _, hn, by simp [hl], by simp; exact List.take_of_length_le (by omega)⟩⟩

theorem splice_all {α : Type} (L cs : List α) (h : L.length = cs.length) : splice L 0 cs = cs := by
  unfold splice
  rw [List.take_zero, List.nil_append, Nat.zero_add, List.drop_eq_nil_of_le (by omega), List.append_nil]

set_option maxRecDepth 100000 in
set_option maxHeartbeats 4000000 in
theorem cut_law (a0 a1 a5 : Option Addr) (b0 o0 b1 o1 b5 o5 len0 cap0 len1 cap1 len5 cap5 : Nat) (z0 z1 z5 : Nat → Int) (fr wb kk : Int) (w : World)
    (hl0 : len0 ≤ 1024) (hl1 : len1 ≤ 1024) (hl5 : len5 ≤ 256) (hc0 : len0 ≤ cap0) (hc1 : len1 ≤ cap1) (hc5 : len5 ≤ cap5)
    (hf0 : 0 ≤ fr) (hf1 : fr ≤ 255) (hw0 : 0 ≤ wb) (hw1 : wb ≤ 255) (hk0 : 0 ≤ kk) (hk1 : kk ≤ 65535)
    (h0 : 0 < len0 → a0 = some ⟨b0, o0, none⟩ ∧ b0 < w.heap.size) (h1 : 0 < len1 → a1 = some ⟨b1, o1, none⟩ ∧ b1 < w.heap.size) (h5 : 0 < len5 → a5 = some ⟨b5, o5, none⟩ ∧ b5 < w.heap.size)
    (hcell0 : ∀ j, j < len0 → w.cell? ⟨b0, o0 + j, none⟩ = some (.int .u8 (z0 j)))
    (hcell1 : ∀ j, j < len1 → w.cell? ⟨b1, o1 + j, none⟩ = some (.int .u8 (z1 j)))
    (hcell5 : ∀ j, j < len5 → w.cell? ⟨b5, o5 + j, none⟩ = some (.int .i64 (z5 j))) :
    Calls Yba.prog 4 #[.slice a0 len0 cap0, .slice a1 len1 cap1, .int .u8 fr, .int .u8 wb, .int .u16 kk, .slice a5 len5 cap5] w fun e w' => e = .returned (.bool true) ∧ Below w.heap.size w w' := by
  obtain ⟨i5, hi5, hz50, hz51, hz52⟩ := info_parts Yba.info5
  have H0 : Hid ((0 < len0 → a0 = some ⟨b0, o0, none⟩ ∧ b0 < w.heap.size) ∧ ∀ j, j < len0 → w.cell? ⟨b0, o0 + j, none⟩ = some (.int .u8 (z0 j))) := ⟨h0, hcell0⟩
  have H1 : Hid ((0 < len1 → a1 = some ⟨b1, o1, none⟩ ∧ b1 < w.heap.size) ∧ ∀ j, j < len1 → w.cell? ⟨b1, o1 + j, none⟩ = some (.int .u8 (z1 j))) := ⟨h1, hcell1⟩
  have H5 : Hid ((0 < len5 → a5 = some ⟨b5, o5, none⟩ ∧ b5 < w.heap.size) ∧ ∀ j, j < len5 → w.cell? ⟨b5, o5 + j, none⟩ = some (.int .i64 (z5 j))) := ⟨h5, hcell5⟩
  clear h0 h1 h5 hcell0 hcell1 hcell5
  have e0 : decide (1024 < (len0 : Int)) = false := by simp; omega
  have e1 : decide (1024 < (len1 : Int)) = false := by simp; omega
  have e5 : decide (256 < (len5 : Int)) = false := by simp; omega
  obtain ⟨wn, hwn⟩ : ∃ wn : Nat, wb % 40 = (wn : Int) := ⟨(wb % 40).toNat, by omega⟩
  have hwn40 : wn < 40 := by omega
  obtain ⟨i40, hi40, hz400, hz401, hz402⟩ := info_parts Yba.info40
  go_enter Yba.func4, Yba.ntmps4
  change Code.wp Yba.prog ((headSeq 0 (Yba.f4.body.getD .skip)).seq ((headSeq 1 (Yba.f4.body.getD .skip)).seq ((headSeq 2 (Yba.f4.body.getD .skip)).seq ((headSeq 3 (Yba.f4.body.getD .skip)).seq ((headSeq 4 (Yba.f4.body.getD .skip)).seq ((headSeq 5 (Yba.f4.body.getD .skip)).seq ((headSeq 6 (Yba.f4.body.getD .skip)).seq ((headSeq 7 (Yba.f4.body.getD .skip)).seq ((headSeq 8 (Yba.f4.body.getD .skip)).seq ((headSeq 9 (Yba.f4.body.getD .skip)).seq ((headSeq 10 (Yba.f4.body.getD .skip)).seq ((headSeq 11 (Yba.f4.body.getD .skip)).seq ((headSeq 12 (Yba.f4.body.getD .skip)).seq (dropSeq 13 (Yba.f4.body.getD .skip))))))))))))))) _ _ _
  conv => arg 2; arg 1; whnf
  conv => arg 2; arg 2; arg 1; whnf
  conv => arg 2; arg 2; arg 2; arg 1; whnf
  conv => arg 2; arg 2; arg 2; arg 2; arg 1; whnf
  conv => arg 2; arg 2; arg 2; arg 2; arg 2; arg 1; whnf
  conv => arg 2; arg 2; arg 2; arg 2; arg 2; arg 2; arg 1; whnf
  conv => arg 2; arg 2; arg 2; arg 2; arg 2; arg 2; arg 2; arg 1; whnf
  conv => arg 2; arg 2; arg 2; arg 2; arg 2; arg 2; arg 2; arg 2; arg 1; whnf
  conv => arg 2; arg 2; arg 2; arg 2; arg 2; arg 2; arg 2; arg 2; arg 2; arg 1; whnf
  conv => arg 2; arg 2; arg 2; arg 2; arg 2; arg 2; arg 2; arg 2; arg 2; arg 2; arg 1; whnf
  conv => arg 2; arg 2; arg 2; arg 2; arg 2; arg 2; arg 2; arg 2; arg 2; arg 2; arg 2; arg 1; whnf
  conv => arg 2; arg 2; arg 2; arg 2; arg 2; arg 2; arg 2; arg 2; arg 2; arg 2; arg 2; arg 2; arg 1; whnf
  conv => arg 2; arg 2; arg 2; arg 2; arg 2; arg 2; arg 2; arg 2; arg 2; arg 2; arg 2; arg 2; arg 2; arg 1; whnf
  go_upto_if 44 with fail
  go_cut [13] (fun v wc => ∃ n : Nat, n ≤ len0 ∧ n ≤ len1 ∧ v = .int .i64 n ∧ w = wc)
  case first =>
    go_wp2
    · go_meet
      case rel => exact ⟨len1, by omega, Nat.le_refl _, rfl, rfl⟩
    · go_meet
      case rel => exact ⟨len0, Nat.le_refl _, by omega, rfl, rfl⟩
  case rest =>
    obtain ⟨n, hn0, hn1, rfl, rfl⟩ := hcut
    clear e0 e1 e5
    go_wp2_with (at_make; refine wpList_make_full _ rfl _ _ 32 rfl w.heap.size 5 i5 (.int .u8 0) 1 Yba.underlying32 hi5 hz50 hz51 _ _ _ _ n rfl rfl rfl rfl ?m1 ?m2 (Nat.le_refl _) ?_)
    case m1 => rw [hz52]; omega
    case m2 => unfold maxLen; omega
    intro w1 hown1 hgrow1
    obtain ⟨V, hV⟩ : ∃ V : List Value, V = (List.range n).map (fun j => Value.int .u8 (z0 j)) := ⟨_, rfl⟩
    have HV : Hid (V = (List.range n).map (fun j => Value.int .u8 (z0 j))) := hV
    have HVl : Hid (V.length = n) := by rw [hV]; exact (by simp : ((List.range n).map (fun j => Value.int .u8 (z0 j))).length = n)
    clear hV
    have G1 : Hid (w1.heap[w.heap.size]? = some (.cells (madeCells #[Value.int .u8 0] n).toList.toArray 5 (0, 0))) := by
      exact own_block hown1
    have HB1 : Hid (Below w.heap.size w w1) := (Below.refl _ _).grown hgrow1 (Nat.le_refl _) (fun k h => by cases h)
    clear hown1 hgrow1
    go_wp2_with (refine wpList_copy_splice rfl (.tmp 49) (.tmp 52) 32 32 rfl 5 Yba.underlying32 (by rw [hi5]; simp [hz51]) _ _ _ _ _ _ rfl rfl w.heap.size 0 _ 5 G1.out V ?k1 ?k2 ?k3 ?k4 w.heap.size w HB1.out (Nat.le_refl _) ?_)
    case k1 => rw [HVl.out]; simp
    case k2 =>
      intro hp
      rw [HVl.out] at hp
      obtain ⟨hx, hlt⟩ := H0.out.1 (by omega)
      refine ⟨_, hx, fun j v hv => ?_⟩
      have hj : j < n := by have := (List.getElem?_eq_some_iff.1 hv).1; rw [HVl.out] at this; exact this
      rw [Addr.add_lit, HB1.out.cell (p := ⟨b0, o0 + j, none⟩) hlt, H0.out.2 j (by omega)]
      rw [HV.out] at hv
      simpa [hj] using hv
    case k3 => rw [HVl.out]; simp [size_madeCells]
    case k4 =>
      intro v hv
      rw [HV.out] at hv
      obtain ⟨j, _, rfl⟩ := List.mem_map.1 hv
      rfl
    intro w2 HG2' hB2'
    have HG2 : Hid (w2.heap[w.heap.size]? = some (.cells V.toArray 5 (0, 0))) := by
      have := HG2'.out
      rw [splice_all _ _ (by rw [HVl.out]; simp [size_madeCells])] at this
      exact this
    have HB2 : Hid (Below w.heap.size w w2) := hB2'
    have hlt2 : w.heap.size < w2.heap.size := lt_of_block HG2.out
    clear HG2' hB2' G1 HB1
    go_wp2_with (at_make; refine wpList_make_full _ rfl _ _ 32 rfl w2.heap.size 5 i5 (.int .u8 0) 1 Yba.underlying32 hi5 hz50 hz51 _ _ _ _ n rfl rfl rfl rfl ?m1 ?m2 (Nat.le_refl _) ?_)
    case m1 => rw [hz52]; omega
    case m2 => unfold maxLen; omega
    intro w3 hown3 hgrow3
    obtain ⟨M, hM⟩ : ∃ M : List Value, M = (List.range n).map (fun j => Value.int .u8 (z1 j)) := ⟨_, rfl⟩
    have HM : Hid (M = (List.range n).map (fun j => Value.int .u8 (z1 j))) := hM
    have HMl : Hid (M.length = n) := by rw [hM]; exact (by simp : ((List.range n).map (fun j => Value.int .u8 (z1 j))).length = n)
    clear hM
    have G3 : Hid (w3.heap[w2.heap.size]? = some (.cells (madeCells #[Value.int .u8 0] n).toList.toArray 5 (0, 0))) := by
      exact own_block hown3
    have HB3 : Hid (Below w2.heap.size w2 w3) := (Below.refl _ _).grown hgrow3 (Nat.le_refl _) (fun k h => by cases h)
    clear hown3 hgrow3
    go_wp2_with (refine wpList_copy_splice rfl (.tmp 56) (.tmp 59) 32 32 rfl 5 Yba.underlying32 (by rw [hi5]; simp [hz51]) _ _ _ _ _ _ rfl rfl w2.heap.size 0 _ 5 G3.out M ?k1 ?k2 ?k3 ?k4 w2.heap.size w2 HB3.out (Nat.le_refl _) ?_)
    case k1 => rw [HMl.out]; simp
    case k2 =>
      intro hp
      rw [HMl.out] at hp
      obtain ⟨hx, hlt⟩ := H1.out.1 (by omega)
      refine ⟨_, hx, fun j v hv => ?_⟩
      have hj : j < n := by have := (List.getElem?_eq_some_iff.1 hv).1; rw [HMl.out] at this; exact this
      rw [Addr.add_lit, HB3.out.cell (p := ⟨b1, o1 + j, none⟩) (Nat.lt_trans hlt hlt2), HB2.out.cell (p := ⟨b1, o1 + j, none⟩) hlt, H1.out.2 j (by omega)]
      rw [HM.out] at hv
      simpa [hj] using hv
    case k3 => rw [HMl.out]; simp [size_madeCells]
    case k4 =>
      intro v hv
      rw [HM.out] at hv
      obtain ⟨j, _, rfl⟩ := List.mem_map.1 hv
      rfl
    intro w4 HG4' hB4'
    have hlt4 : w2.heap.size < w4.heap.size := lt_of_block HG4'.out
    have OM : Hid (w4.ownsRow 0 5 1 (.slice (some ⟨w2.heap.size, 0, none⟩) n n) n M) := by
      have := HG4'.out
      rw [splice_all _ _ (by rw [HMl.out]; simp [size_madeCells])] at this
      exact own_of_block this HMl.out (by unfold maxLen; omega)
    have OV : Hid (w4.ownsRow 0 5 1 (.slice (some ⟨w.heap.size, 0, none⟩) n n) n V) := own_of_block ((hB4'.block _ hlt2).trans HG2.out) HVl.out (by unfold maxLen; omega)
    have HB4 : Hid (Below w.heap.size w w4) := HB2.out.trans (hB4'.mono (by omega))
    clear HG4' hB4' G3 HB3 HG2 HB2
    go_upto_if 62 with fail
    go_cut [16] (fun v wc => ∃ f : Nat, f ≤ n ∧ v = .int .i64 f ∧ w4 = wc)
    case first =>
      go_wp2
      · go_meet
        case rel =>
          have hm0 := Int.emod_nonneg fr (b := (n : Int) + 1) (by omega)
          have hm1 := Int.emod_lt_of_pos fr (b := (n : Int) + 1) (by omega)
          exact ⟨(fr % ((n : Int) + 1)).toNat, by omega, by rw [Int.toNat_of_nonneg hm0], rfl⟩
      · go_meet
        case rel => exact ⟨0, Nat.zero_le _, rfl, rfl⟩
    case rest =>
      obtain ⟨f, hfn, rfl, rfl⟩ := hcut
      go_wp2_with fail
      have HWN : Hid (wb % 40 = (wn : Int)) := hwn
      clear hwn
      go_loopw [18, 73] (fun v i wr => ∃ (k : Nat) (aa : Option Addr) (ca : Nat), k ≤ len5 ∧ i = .int .i64 k ∧ v = .slice aa k ca ∧ wr.ownsRow w4.heap.size 40 4 (.slice aa k ca) k (altCells z5 k) ∧ Kept [] w4 wr) (fun _ i _ => len5 - (intOf i).toNat)
      case atStart => exact ⟨0, none, 0, Nat.zero_le _, rfl, rfl, World.ownsRow_nil _ _ _ _, Kept.refl _ _⟩
      case round =>
        obtain ⟨k, aa, ca, hk, rfl, rfl, hown, hkept⟩ := hrel
        have HK : Hid (Kept [] w4 wr) := hkept
        have HA : Hid (wr.ownsRow w4.heap.size 40 4 (.slice aa k ca) k (altCells z5 k)) := hown
        have hs4 : w4.heap.size ≤ wr.heap.size := hkept.size
        clear hkept hown
        by_cases hlt : k < len5
        · obtain ⟨hx, hlt5⟩ := H5.out.1 (by omega)
          subst hx
          have r5 : wr.cell? ⟨b5, o5 + k, none⟩ = some (.int .i64 (z5 k)) := by
            rw [HK.out.cell (p := ⟨b5, o5 + k, none⟩) (by show b5 < _; omega) (by simp), HB4.out.cell (p := ⟨b5, o5 + k, none⟩) hlt5]
            exact H5.out.2 k hlt
          go_wp2_with (at_builtin; refine wpList_append_lies _ rfl (.tmp 77) (.tmp 80) 33 rfl w4.heap.size 40 i40 (.agg #[.int .i64 0, .slice none 0 0, .bool false, .bool false]) 4 40 Yba.underlying33 hi40 hz400 hz401 hz402 rfl (by decide) (.slice aa k ca) k (altCells z5 k) rfl ?own ⟨wr.heap.size, 0, none⟩ 1 1 [.int .i64 (z5 k), .slice none 0 0, .bool false, .bool false] rfl rfl ?d1 ?d2 (by omega) ?d3 ?d4 ?d5 (wr.heap.size + 1) (by simp) ?_)
          case own => exact HA.out.alloc _
          case d2 => exact ⟨rfl, rfl, rfl⟩
          case d3 => unfold maxLen; omega
          case d4 => omega
          case d5 => omega
          intro g cap w5 hown5 hgrow5 hat5 hlt5'
          have HA5 : Hid (w5.ownsRow w4.heap.size 40 4 (.slice (some ⟨g, 0, none⟩) (k + 1) cap) (k + 1) (altCells z5 (k + 1))) := by
            rw [altCells_succ]; exact hown5
          have HK5 : Hid (Kept [] w4 w5) := (HK.out.alloc _).grown hgrow5 (fun x hx => .inr (HA.out.lt x hx).1)
          clear hown5 hgrow5 hat5
          go_wp2
          go_roundw
          case rel =>
            first
              | exact ⟨k + 1, some ⟨g, 0, none⟩, cap, by omega, by go_num, rfl, HA5.out, HK5.out⟩
              | ((repeat apply Exists.intro); refine ⟨?_, rfl⟩; exact ⟨k + 1, some ⟨g, 0, none⟩, cap, by omega, by go_num, rfl, HA5.out, HK5.out⟩)
          case measure => simp [intOf]; omega
        · obtain rfl : k = len5 := by omega
          have OV' : Hid (wr.ownsRow 0 5 1 (.slice (some ⟨w.heap.size, 0, none⟩) n n) n V) := HK.out.owns OV.out (fun _ _ => by simp)
          have OM' : Hid (wr.ownsRow 0 5 1 (.slice (some ⟨w2.heap.size, 0, none⟩) n n) n M) := HK.out.owns OM.out (fun _ _ => by simp)
          have HBr : Hid (Below w.heap.size w wr) := HB4.out.trans (HK.out.below w.heap.size (by omega) (by simp))
          go_wp2_with fail
          exact cut_tail1 (fun w' => Below w.heap.size w w') wr w.heap.size (fun w' h => HBr.out.trans h) a0 a1 a5 aa b0 o0 b1 o1 b5 o5 len0 cap0 len1 cap1 k cap5 ca n f wn w.heap.size w2.heap.size w4.heap.size kk z0 z1 z5 V M
            hl5 (by omega) hn0 hn1 hl0 hl1 hfn hwn40 hk0 hk1 (Nat.le_refl _) (by omega) (by omega) (by omega) (by omega) hs4 H0.out.1 H1.out.1 H5.out.1
            (fun j hj => (HBr.out.cell (p := ⟨b0, o0 + j, none⟩) (H0.out.1 (by omega)).2).trans (H0.out.2 j hj)) (fun j hj => (HBr.out.cell (p := ⟨b1, o1 + j, none⟩) (H1.out.1 (by omega)).2).trans (H1.out.2 j hj)) (fun j hj => (HBr.out.cell (p := ⟨b5, o5 + j, none⟩) (H5.out.1 (by omega)).2).trans (H5.out.2 j hj))
            HVl.out HV.out HMl.out HM.out OV'.out OM'.out HA.out _ _ _ _ _ _ _ _ _ _ _ _ _ _ _ _ _ _ _ _ _ _ _ _ _ _ _ _ _ _ _ _ _ _ _ _ _ _ _ _ _ _ _ _ _ _ _ _ _ _ _ _ _ _ _ _ _ _ _ _ _ _ _ _ _ _ _ _ _ _ _ _ _ _ _ _ _ _ _ _ _ _ _ _ _ _ _ _ _ _ _ _ _ _ _ _ _ _ _ _ _ _ _ _ _ _ _ _ _ _ _ _ _ _ _ _ _ _ _ _ _ _ _ _ _ _ _ _ _ _ _ _ _ _ _ _ _ _ _ _ _ _ _ _ _ _ _ _ _ _ _ _ _ _ _ _ _ _ _ _ _ _ _ _ _ _ _ _ _ _ _ _ _ _ _ _ _ _ _ _ _ _ _ _ _ _ _ _ _ _ _ _ _ _ _ _ _ _ _ _ _ _ _ _ _ _ _ _ _ _ _ _ _ _ _ _ _ _ _ _ _ _ _ _ _ _ _ _ _ _ _ _ _ _ _ _ _ _ _ _ _ _ _ _ _ _ _ _ _ _ _ _ _ _ _ _ _ _ _ _ _ _ _ _ _ _ _ _ _ _ _ _ _ _ _ _ _ _ _ _ _ _ _ _ _ _
end Go.Proofs.Ybulkoqc
