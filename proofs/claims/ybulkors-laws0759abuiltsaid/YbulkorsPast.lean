/- The plain law: what a run of continuations is, over the bytes of a text. No Go in sight. Own work. -/
import Derived.WalkKit
import Derived.Lib.Strings
namespace Go.Proofs.Ybulkors

/-- The byte at k, or 256 where there is none. -/
def byteAt (s : ByteArray) (k : Nat) : Nat := if h : k < s.size then (s[k]'h).toNat else 256

theorem byteAt_lt {s : ByteArray} {k : Nat} (h : k < s.size) : byteAt s k = (s[k]'h).toNat := by unfold byteAt; rw [dif_pos h]
theorem byteAt_ge {s : ByteArray} {k : Nat} (h : s.size ≤ k) : byteAt s k = 256 := by unfold byteAt; rw [dif_neg (by omega)]
theorem lt_of_byteAt {s : ByteArray} {k : Nat} {n : Nat} (h : byteAt s k = n) (hn : n < 256) : k < s.size := by
  rcases Nat.lt_or_ge k s.size with h' | h'
  · exact h'
  · rw [byteAt_ge h'] at h; omega

/-- The line break that begins at k: its length, or 0. -/
def brk (s : ByteArray) (k : Nat) : Nat := if byteAt s k = 10 then 1 else if byteAt s k = 13 ∧ byteAt s (k + 1) = 10 then 2 else 0
/-- The continuation that begins at k: its length, or 0. -/
def stp (s : ByteArray) (k : Nat) : Nat := if byteAt s k = 92 then (if 0 < brk s (k + 1) then 1 + brk s (k + 1) else 0) else 0

theorem brk_le (s : ByteArray) (k : Nat) : brk s k ≤ 2 := by
  unfold brk
  split
  · omega
  · split <;> omega

theorem brk_of1 {s : ByteArray} {k : Nat} (h : byteAt s k = 10) : brk s k = 1 := by unfold brk; rw [if_pos h]
theorem brk_of2 {s : ByteArray} {k : Nat} (h : byteAt s k = 13) (h' : byteAt s (k + 1) = 10) : brk s k = 2 := by unfold brk; rw [if_neg (by omega), if_pos ⟨h, h'⟩]
theorem brk_of0 {s : ByteArray} {k : Nat} (h : byteAt s k ≠ 10) (h' : ¬ (byteAt s k = 13 ∧ byteAt s (k + 1) = 10)) : brk s k = 0 := by unfold brk; rw [if_neg h, if_neg h']

theorem stp_room {s : ByteArray} {k : Nat} (h : stp s k ≠ 0) : k < s.size ∧ k + stp s k ≤ s.size := by
  unfold stp at *
  split at h
  · rename_i h92
    have h0 := lt_of_byteAt h92 (by omega)
    rw [if_pos h92]
    refine ⟨h0, ?_⟩
    split
    · rename_i hb
      unfold brk at *
      split
      · rename_i h10
        have := lt_of_byteAt h10 (by omega); omega
      · rename_i h10
        rw [if_neg h10] at hb
        split
        · rename_i h2
          have := lt_of_byteAt h2.2 (by omega); omega
        · rename_i h2
          rw [if_neg h2] at hb; omega
    · rename_i hb
      rw [if_neg hb] at h; omega
  · exact absurd rfl h

theorem stp_le (s : ByteArray) (k : Nat) : stp s k ≤ 3 := by
  have := brk_le s (k + 1)
  unfold stp
  split
  · split <;> omega
  · omega

/-- The run of continuations that begins at i, with fuel. -/
def past (s : ByteArray) : Nat → Nat → Nat
  | 0, i => i
  | f + 1, i => if stp s i = 0 then i else past s f (i + stp s i)

theorem past_more (s : ByteArray) : ∀ (f g i : Nat), s.size ≤ i + f → s.size ≤ i + g → past s f i = past s g i
  | 0, 0, _, _, _ => rfl
  | 0, g + 1, i, h, _ => by
    have : stp s i = 0 := by
      rcases Nat.eq_zero_or_pos (stp s i) with h' | h'
      · exact h'
      · have := stp_room (s := s) (k := i) (by omega); omega
    simp [past, this]
  | f + 1, 0, i, _, h => by
    have : stp s i = 0 := by
      rcases Nat.eq_zero_or_pos (stp s i) with h' | h'
      · exact h'
      · have := stp_room (s := s) (k := i) (by omega); omega
    simp [past, this]
  | f + 1, g + 1, i, h1, h2 => by
    simp only [past]
    split
    · rfl
    · rename_i hs
      exact past_more s f g _ (by omega) (by omega)

/-- The index past the run of continuations that begins at i. -/
def pst (s : ByteArray) (i : Nat) : Nat := past s s.size i

theorem pst_stop {s : ByteArray} {i : Nat} (h : stp s i = 0) : pst s i = i := by
  unfold pst
  cases s.size with
  | zero => rfl
  | succ f => simp [past, h]

theorem pst_step {s : ByteArray} {i : Nat} (h : stp s i ≠ 0) : pst s (i + stp s i) = pst s i := by
  have hr := stp_room h
  show past s s.size (i + stp s i) = past s s.size i
  obtain ⟨f, hf⟩ : ∃ f, s.size = f + 1 := ⟨s.size - 1, by omega⟩
  rw [hf]
  show _ = (if stp s i = 0 then i else past s f (i + stp s i))
  rw [if_neg h]
  exact past_more s (f + 1) f _ (by omega) (by omega)

theorem pst_by {s : ByteArray} {i m : Nat} (h : stp s i = m) (hm : m ≠ 0) : pst s (i + m) = pst s i := by
  rw [← h]; exact pst_step (by omega)

theorem pst_ge (s : ByteArray) (i : Nat) : i ≤ pst s i := by
  have : ∀ f i, i ≤ past s f i := by
    intro f
    induction f with
    | zero => intro i; exact Nat.le_refl _
    | succ f ih =>
      intro i
      simp only [past]
      split
      · exact Nat.le_refl _
      · have := ih (i + stp s i); omega
  exact this _ _

/-- A text cut at a: its byte k is the text's byte a + k. -/
theorem byteAt_extract (s : ByteArray) (a k : Nat) (ha : a ≤ s.size) : byteAt (s.extract a s.size) k = byteAt s (a + k) := by
  have hsz : (s.extract a s.size).size = s.size - a := by simp [ByteArray.size_extract]
  rcases Nat.lt_or_ge k (s.size - a) with h | h
  · rw [byteAt_lt (by omega), byteAt_lt (by omega)]
    congr 1
    rw [ByteArray.getElem_extract]
  · rw [byteAt_ge (by omega), byteAt_ge (by omega)]

theorem brk_extract (s : ByteArray) (a k : Nat) (ha : a ≤ s.size) : brk (s.extract a s.size) k = brk s (a + k) := by
  unfold brk
  rw [byteAt_extract s a k ha, byteAt_extract s a (k + 1) ha, Nat.add_assoc]

theorem stp_extract (s : ByteArray) (a k : Nat) (ha : a ≤ s.size) : stp (s.extract a s.size) k = stp s (a + k) := by
  unfold stp
  rw [byteAt_extract s a k ha, brk_extract s a (k + 1) ha, Nat.add_assoc]

theorem byteAt_list (s : ByteArray) (k : Nat) : byteAt s k = ((s.data.toList[k]?).map UInt8.toNat).getD 256 := by
  have hl : s.data.toList.length = s.size := by simp
  rcases Nat.lt_or_ge k s.size with h | h
  · rw [byteAt_lt h, List.getElem?_eq_getElem (by omega)]
    rfl
  · rw [byteAt_ge h, List.getElem?_eq_none (by omega)]
    rfl

theorem pre1 (l : List UInt8) : [(10 : UInt8)].isPrefixOf l = decide (((l[0]?).map UInt8.toNat).getD 256 = 10) := by
  match l with
  | [] => rfl
  | a :: t =>
    simp only [List.isPrefixOf, Bool.and_true, List.getElem?_cons_zero, Option.map_some, Option.getD_some]
    rw [Bool.eq_iff_iff]
    simp only [beq_iff_eq, decide_eq_true_eq]
    constructor
    · intro h; rw [← h]; rfl
    · intro h; exact (UInt8.toNat_inj.1 (by rw [h]; rfl)).symm

theorem pre2 (l : List UInt8) : [(13 : UInt8), 10].isPrefixOf l = decide (((l[0]?).map UInt8.toNat).getD 256 = 13 ∧ ((l[1]?).map UInt8.toNat).getD 256 = 10) := by
  match l with
  | [] => rfl
  | [a] => simp [List.isPrefixOf]
  | a :: b :: t =>
    simp only [List.isPrefixOf, Bool.and_true, List.getElem?_cons_zero, List.getElem?_cons_succ, Option.map_some, Option.getD_some]
    rw [Bool.eq_iff_iff]
    simp only [Bool.and_eq_true, beq_iff_eq, decide_eq_true_eq]
    constructor
    · rintro ⟨h2, h3⟩; rw [← h2, ← h3]; exact ⟨rfl, rfl⟩
    · rintro ⟨h2, h3⟩; exact ⟨(UInt8.toNat_inj.1 (by rw [h2]; rfl)).symm, (UInt8.toNat_inj.1 (by rw [h3]; rfl)).symm⟩

/-- A line feed stands first: by the byte at 0. -/
theorem lf_first (s : ByteArray) : Lib.hasPrefix s.data.toList [10] = decide (byteAt s 0 = 10) := by
  rw [byteAt_list]; exact pre1 _

theorem crlf_first (s : ByteArray) : Lib.hasPrefix s.data.toList [13, 10] = decide (byteAt s 0 = 13 ∧ byteAt s 1 = 10) := by
  rw [byteAt_list, byteAt_list]; exact pre2 _

end Go.Proofs.Ybulkors
