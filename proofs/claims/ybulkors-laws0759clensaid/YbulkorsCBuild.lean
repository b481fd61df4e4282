/- zzs0759cbuild: what it builds, by the selector. Own work over this program's translation. -/
import Derived.Test.YbulkorsMade
namespace Go.Proofs.Ybulkors
open Go.RowKit
set_option linter.unusedVariables false

theorem Yba.info50 : (Yba.prog.info? 50).map (fun i => (i.zero, i.size, i.bytes)) = some (some (.agg #[.int .u8 0, .bool false, .pointer none, .int .u32 0, .int .u32 0, .string ⟨#[]⟩, .pointer none]), 7, 48) := by kernel_rfl
theorem Yba.info52 : (Yba.prog.info? 52).map (fun i => (i.zero, i.size, i.bytes)) = some (some (.agg #[.string ⟨#[]⟩, .pointer none, .int .u32 0, .int .u32 0, .int .u8 0, .bool false, .pointer none, .int .u32 0, .int .u32 0, .string ⟨#[]⟩, .pointer none]), 11, 80) := by kernel_rfl

set_option maxRecDepth 100000 in
set_option maxHeartbeats 400000 in
theorem build_0 (ao : Option Addr) (n cap : Nat) (s : Int) (w : World) (hs0 : 0 ≤ s) (hs1 : s ≤ 255) (hs : s % 5 = 0) :
    Calls Yba.prog 10 #[.slice ao n cap, .int .u8 s] w fun e w' => e = .returned (.tuple #[.pointer none, .slice none 0 0]) ∧ Below w.heap.size w w' := by
  go_enter Yba.func10, Yba.ntmps10
  go_wp2_with fail
  go_ret2
  exact ⟨rfl, Below.refl _ _⟩

set_option maxRecDepth 100000 in
set_option maxHeartbeats 400000 in
theorem build_1 (ao : Option Addr) (b0 o0 n cap : Nat) (S : Nat → ByteArray) (s : Int) (w : World) (hn : n ≤ 1024) (hs0 : 0 ≤ s) (hs1 : s ≤ 255) (hs : s % 5 = 1)
    (h0 : 0 < n → ao = some ⟨b0, o0, none⟩ ∧ b0 < w.heap.size) (hcell : ∀ j, j < n → w.cell? ⟨b0, o0 + j, none⟩ = some (.string (S j))) :
    Calls Yba.prog 10 #[.slice ao n cap, .int .u8 s] w fun e w' => ∃ b, e = .returned (.tuple #[.pointer (some ⟨b, 0, none⟩), .slice none 0 0]) ∧ Below w.heap.size w w' ∧ w'.cell? ⟨b, 6, none⟩ = some (.pointer none) := by
  by_cases hp : 0 < n
  · obtain ⟨rfl, hlt⟩ := h0 hp
    have r0 : w.cell? ⟨b0, o0, none⟩ = some (.string (S 0)) := hcell 0 hp
    clear hcell h0
    go_enter Yba.func10, Yba.ntmps10
    go_wp2_with fail
    go_ret2
    refine ⟨_, rfl, ?_, ?_⟩
    · go_grown
    · go_simp
  · have hd : decide (0 < (n : Int)) = false := by simp; omega
    clear hcell h0
    go_enter Yba.func10, Yba.ntmps10
    go_wp2_with fail
    go_ret2
    refine ⟨_, rfl, ?_, ?_⟩
    · go_grown
    · go_simp

set_option maxRecDepth 100000 in
set_option maxHeartbeats 400000 in
theorem build_3 (ao : Option Addr) (n cap : Nat) (s : Int) (w : World) (hs0 : 0 ≤ s) (hs1 : s ≤ 255) (hs : s % 5 = 3) :
    Calls Yba.prog 10 #[.slice ao n cap, .int .u8 s] w fun e w' => ∃ b c, e = .returned (.tuple #[.pointer (some ⟨b, 0, none⟩), .slice none 0 0]) ∧ Below w.heap.size w w' ∧
      w'.cell? ⟨b, 6, none⟩ = some (.pointer (some ⟨c, 0, none⟩)) ∧ w'.cell? ⟨c, 0, none⟩ = some (.slice none 0 0) ∧ w'.cell? ⟨c, 1, none⟩ = some (.pointer none) := by
  go_enter Yba.func10, Yba.ntmps10
  go_wp2_with fail
  refine (newExpression_any _ _).mono ?_
  rintro e w1 ⟨c, rfl, hc, hcl, hbel, h0, h1⟩
  go_wp2_with fail
  go_ret2
  refine ⟨_, c, rfl, ?_, ?_, ?_, ?_⟩
  · exact hbel.alloc hbel.size _
  · go_simp
  · rw [World.cell?_alloc_past _ _ _ hcl]; exact h0
  · rw [World.cell?_alloc_past _ _ _ hcl]; exact h1

/-- The cells of one item, of one member; of k of them. -/
def itemCells1 (t : ByteArray) : List Value := [.int .u8 7, .bool false, .pointer none, .int .u32 0, .int .u32 0, .string t, .pointer none]
def membCells1 (t : ByteArray) : List Value := [.string t, .pointer none, .int .u32 0, .int .u32 0, .int .u8 5, .bool false, .pointer none, .int .u32 0, .int .u32 0, .string ⟨#[49]⟩, .pointer none]
def itemCells (S : Nat → ByteArray) (k : Nat) : List Value := (List.range k).flatMap fun j => itemCells1 (S j)
def membCells (S : Nat → ByteArray) (k : Nat) : List Value := (List.range k).flatMap fun j => membCells1 (S j)
theorem itemCells_succ (S : Nat → ByteArray) (k : Nat) : itemCells S (k + 1) = itemCells S k ++ itemCells1 (S k) := by
  unfold itemCells; rw [List.range_succ, List.flatMap_append]; simp
theorem membCells_succ (S : Nat → ByteArray) (k : Nat) : membCells S (k + 1) = membCells S k ++ membCells1 (S k) := by
  unfold membCells; rw [List.range_succ, List.flatMap_append]; simp
theorem membCells_len (S : Nat → ByteArray) (k : Nat) : (membCells S k).length = k * 11 := by
  induction k with
  | zero => rfl
  | succ k ih => rw [membCells_succ, List.length_append, ih]; simp [membCells1]; omega
theorem membCells_key (S : Nat → ByteArray) (k : Nat) : ∀ j, j < k → (membCells S k)[j * 11]? = some (.string (S j)) := by
  induction k with
  | zero => intro j hj; omega
  | succ k ih =>
    intro j hj
    have hl := membCells_len S k
    rw [membCells_succ]
    by_cases h : j < k
    · rw [List.getElem?_append_left (by omega)]; exact ih j h
    · obtain rfl : j = k := by omega
      rw [List.getElem?_append_right (by omega), hl, Nat.sub_self]; rfl

set_option maxRecDepth 100000 in
set_option maxHeartbeats 1000000 in
theorem build_2 (ao : Option Addr) (b0 o0 n cap : Nat) (S : Nat → ByteArray) (s : Int) (w : World) (hn : n ≤ 1024) (hs0 : 0 ≤ s) (hs1 : s ≤ 255) (hs : s % 5 = 2)
    (h0 : 0 < n → ao = some ⟨b0, o0, none⟩ ∧ b0 < w.heap.size) (hcell : ∀ j, j < n → w.cell? ⟨b0, o0 + j, none⟩ = some (.string (S j))) :
    Calls Yba.prog 10 #[.slice ao n cap, .int .u8 s] w fun e w' => ∃ b c a m, e = .returned (.tuple #[.pointer (some ⟨b, 0, none⟩), .slice none 0 0]) ∧ Below w.heap.size w w' ∧
      w'.cell? ⟨b, 6, none⟩ = some (.pointer (some ⟨c, 0, none⟩)) ∧ w'.cell? ⟨c, 0, none⟩ = some (.slice a n m) ∧ w'.cell? ⟨c, 1, none⟩ = some (.pointer none) := by
  obtain ⟨i0, hi, hz0, hz1, hz2⟩ := info_parts Yba.info50
  have H0 : Hid ((0 < n → ao = some ⟨b0, o0, none⟩ ∧ b0 < w.heap.size) ∧ ∀ j, j < n → w.cell? ⟨b0, o0 + j, none⟩ = some (.string (S j))) := ⟨h0, hcell⟩
  clear h0 hcell
  go_enter Yba.func10, Yba.ntmps10
  go_wp2_with (at_make; refine wpList_make_own _ rfl _ _ 57 rfl w.heap.size 50 i0 (.agg #[.int .u8 0, .bool false, .pointer none, .int .u32 0, .int .u32 0, .string ⟨#[]⟩, .pointer none]) 7 Yba.underlying57 hi hz0 hz1 _ _ _ n rfl rfl rfl ?m1 ?m2 (Nat.le_refl _) ?_)
  case m1 => rw [hz2]; omega
  case m2 => unfold maxLen; omega
  intro w1 hown1 hgrow1
  have HO1 : Hid (w1.ownsRow w.heap.size 50 7 (.slice (some ⟨w.heap.size, 0, none⟩) 0 n) 0 []) := hown1
  have HB1 : Hid (Below w.heap.size w w1) := (Below.refl _ _).grown hgrow1 (Nat.le_refl _) (fun k h => by cases h)
  clear hown1 hgrow1
  go_wp2_with fail
  go_loopw [7, 8] (fun v i wr => ∃ k : Nat, k ≤ n ∧ i = .int .i64 k ∧ v = .slice (some ⟨w.heap.size, 0, none⟩) k n ∧
      wr.ownsRow w.heap.size 50 7 (.slice (some ⟨w.heap.size, 0, none⟩) k n) k (itemCells S k) ∧ Below w.heap.size w wr) (fun _ i _ => n - (intOf i).toNat)
  case atStart => exact ⟨0, Nat.zero_le _, rfl, rfl, HO1.out, HB1.out⟩
  case round =>
    obtain ⟨k, hk, rfl, rfl, hown, hbel⟩ := hrel
    have HO : Hid (wr.ownsRow w.heap.size 50 7 (.slice (some ⟨w.heap.size, 0, none⟩) k n) k (itemCells S k)) := hown
    have HB : Hid (Below w.heap.size w wr) := hbel
    have hsz := hbel.size
    clear hown hbel
    by_cases hlt : k < n
    · obtain ⟨hx, hltb⟩ := H0.out.1 (by omega)
      subst hx
      have r : wr.cell? ⟨b0, o0 + k, none⟩ = some (.string (S k)) := (HB.out.cell (p := ⟨b0, o0 + k, none⟩) hltb).trans (H0.out.2 k hlt)
      go_wp2_with (at_builtin; refine wpList_append_fits _ rfl (.tmp 41) (.tmp 47) 57 rfl w.heap.size 50 i0 7 Yba.underlying57 hi hz1 w.heap.size k n (itemCells S k) rfl ?own ⟨wr.heap.size, 0, none⟩ 1 1 (itemCells1 (S k)) rfl rfl ?d1 ?d2 ?d3 ?_)
      case own => exact HO.out.alloc _
      case d1 => exact fun j u hu => hu
      case d2 => intro u hu; simp [itemCells1] at hu; rcases hu with rfl | rfl | rfl | rfl | rfl | rfl | rfl <;> rfl
      case d3 => omega
      intro w2 hown2 hgrow2
      have HO2 : Hid (w2.ownsRow w.heap.size 50 7 (.slice (some ⟨w.heap.size, 0, none⟩) (k + 1) n) (k + 1) (itemCells S (k + 1))) := by
        rw [itemCells_succ]; exact hown2
      have HB2 : Hid (Below w.heap.size w w2) := (HB.out.alloc (by omega) _).grown hgrow2 (by simp; omega) (fun k h => by simp at h; omega)
      clear hown2 hgrow2
      go_wp2
      go_roundw
      case rel => exact ⟨k + 1, by omega, by go_num, rfl, HO2.out, HB2.out⟩
      case measure => simp [intOf]; omega
    · obtain rfl : k = n := by omega
      go_wp2_with fail
      refine (newSequence_any _ _ _ _).mono ?_
      rintro e w2 ⟨c, rfl, hc, hcl, hbel, h0, h1⟩
      have hb2 := HB.out.trans (hbel.mono hsz)
      go_wp2_with fail
      go_ret2
      refine ⟨_, c, some ⟨w.heap.size, 0, none⟩, k, rfl, ?_, ?_, ?_, ?_⟩
      · exact hb2.alloc hb2.size _
      · go_simp
      · rw [World.cell?_alloc_past _ _ _ hcl]; exact h0
      · rw [World.cell?_alloc_past _ _ _ hcl]; exact h1

set_option maxRecDepth 100000 in
set_option maxHeartbeats 1000000 in
theorem build_4 (ao : Option Addr) (b0 o0 n cap : Nat) (S : Nat → ByteArray) (s : Int) (w : World) (hn : n ≤ 1024) (hs0 : 0 ≤ s) (hs1 : s ≤ 255) (hs : s % 5 = 4)
    (h0 : 0 < n → ao = some ⟨b0, o0, none⟩ ∧ b0 < w.heap.size) (hcell : ∀ j, j < n → w.cell? ⟨b0, o0 + j, none⟩ = some (.string (S j))) :
    Calls Yba.prog 10 #[.slice ao n cap, .int .u8 s] w fun e w' => ∃ b c g m, e = .returned (.tuple #[.pointer (some ⟨b, 0, none⟩), .slice (some ⟨g, 0, none⟩) n m]) ∧ Below w.heap.size w w' ∧
      w'.cell? ⟨b, 6, none⟩ = some (.pointer (some ⟨c, 0, none⟩)) ∧ w'.cell? ⟨c, 0, none⟩ = some (.slice none 0 0) ∧ w'.cell? ⟨c, 1, none⟩ = some (.pointer (some ⟨c, 2, none⟩)) ∧ w'.cell? ⟨c, 2, none⟩ = some (.slice (some ⟨g, 0, none⟩) n m) ∧
      ∀ j, j < n → w'.cell? ⟨g, j * 11, none⟩ = some (.string (S j)) := by
  obtain ⟨i0, hi, hz0, hz1, hz2⟩ := info_parts Yba.info52
  have H0 : Hid ((0 < n → ao = some ⟨b0, o0, none⟩ ∧ b0 < w.heap.size) ∧ ∀ j, j < n → w.cell? ⟨b0, o0 + j, none⟩ = some (.string (S j))) := ⟨h0, hcell⟩
  clear h0 hcell
  go_enter Yba.func10, Yba.ntmps10
  go_wp2_with (at_make; refine wpList_make_own _ rfl _ _ 40 rfl w.heap.size 52 i0 (.agg #[.string ⟨#[]⟩, .pointer none, .int .u32 0, .int .u32 0, .int .u8 0, .bool false, .pointer none, .int .u32 0, .int .u32 0, .string ⟨#[]⟩, .pointer none]) 11 Yba.underlying40 hi hz0 hz1 _ _ _ n rfl rfl rfl ?m1 ?m2 (Nat.le_refl _) ?_)
  case m1 => rw [hz2]; omega
  case m2 => unfold maxLen; omega
  intro w1 hown1 hgrow1
  have HO1 : Hid (w1.ownsRow w.heap.size 52 11 (.slice (some ⟨w.heap.size, 0, none⟩) 0 n) 0 []) := hown1
  have HB1 : Hid (Below w.heap.size w w1) := (Below.refl _ _).grown hgrow1 (Nat.le_refl _) (fun k h => by cases h)
  clear hown1 hgrow1
  go_wp2_with fail
  go_loopw [11, 12] (fun v i wr => ∃ k : Nat, k ≤ n ∧ i = .int .i64 k ∧ v = .slice (some ⟨w.heap.size, 0, none⟩) k n ∧
      wr.ownsRow w.heap.size 52 11 (.slice (some ⟨w.heap.size, 0, none⟩) k n) k (membCells S k) ∧ Below w.heap.size w wr) (fun _ i _ => n - (intOf i).toNat)
  case atStart => exact ⟨0, Nat.zero_le _, rfl, rfl, HO1.out, HB1.out⟩
  case round =>
    obtain ⟨k, hk, rfl, rfl, hown, hbel⟩ := hrel
    have HO : Hid (wr.ownsRow w.heap.size 52 11 (.slice (some ⟨w.heap.size, 0, none⟩) k n) k (membCells S k)) := hown
    have HB : Hid (Below w.heap.size w wr) := hbel
    have hsz := hbel.size
    clear hown hbel
    by_cases hlt : k < n
    · obtain ⟨hx, hltb⟩ := H0.out.1 (by omega)
      subst hx
      have r : wr.cell? ⟨b0, o0 + k, none⟩ = some (.string (S k)) := (HB.out.cell (p := ⟨b0, o0 + k, none⟩) hltb).trans (H0.out.2 k hlt)
      go_wp2_with (at_builtin; refine wpList_append_fits _ rfl (.tmp 65) (.tmp 72) 40 rfl w.heap.size 52 i0 11 Yba.underlying40 hi hz1 w.heap.size k n (membCells S k) rfl ?own ⟨wr.heap.size, 0, none⟩ 1 1 (membCells1 (S k)) rfl rfl ?d1 ?d2 ?d3 ?_)
      case own => exact HO.out.alloc _
      case d1 => exact fun j u hu => hu
      case d2 => intro u hu; simp [membCells1] at hu; rcases hu with rfl | rfl | rfl | rfl | rfl | rfl | rfl | rfl | rfl | rfl | rfl <;> rfl
      case d3 => omega
      intro w2 hown2 hgrow2
      have HO2 : Hid (w2.ownsRow w.heap.size 52 11 (.slice (some ⟨w.heap.size, 0, none⟩) (k + 1) n) (k + 1) (membCells S (k + 1))) := by
        rw [membCells_succ]; exact hown2
      have HB2 : Hid (Below w.heap.size w w2) := (HB.out.alloc (by omega) _).grown hgrow2 (by simp; omega) (fun k h => by simp at h; omega)
      clear hown2 hgrow2
      go_wp2
      go_roundw
      case rel => exact ⟨k + 1, by omega, by go_num, rfl, HO2.out, HB2.out⟩
      case measure => simp [intOf]; omega
    · obtain rfl : k = n := by omega
      go_wp2_with fail
      refine (newAssociation_any _ _ _ _).mono ?_
      rintro e w2 ⟨c, rfl, hc, hcl, hbel, h0, h1, h2⟩
      have hb2 := HB.out.trans (hbel.mono hsz)
      have hgl : w.heap.size < wr.heap.size := (HO.out.lt w.heap.size rfl).2
      have hrow : ∀ j, j < k → w2.cell? ⟨w.heap.size, j * 11, none⟩ = some (.string (S j)) := by
        intro j hj
        rw [hbel.cell (p := ⟨w.heap.size, j * 11, none⟩) hgl]
        have := HO.out.cells (g := w.heap.size) rfl (j * 11) _ (membCells_key S k j hj)
        simpa [Addr.add_lit] using this
      have HR : Hid (∀ j, j < k → w2.cell? ⟨w.heap.size, j * 11, none⟩ = some (.string (S j))) := hrow
      clear hrow
      go_wp2_with fail
      go_ret2
      refine ⟨_, c, w.heap.size, k, rfl, ?_, ?_, ?_, ?_, ?_, ?_⟩
      · exact hb2.alloc hb2.size _
      · go_simp
      · rw [World.cell?_alloc_past _ _ _ hcl]; exact h0
      · rw [World.cell?_alloc_past _ _ _ hcl]; exact h1
      · rw [World.cell?_alloc_past _ _ _ hcl]; exact h2
      · intro j hj
        have := hbel.size
        rw [World.cell?_alloc_past _ _ _ (by show w.heap.size < _; omega)]; exact HR.out j hj

end Go.Proofs.Ybulkors
