/- Rows of several cells an entry, as one list. Own work. -/
import Derived.Test.YbulkoqcDoorPlainTail
namespace Go.Proofs.YbulkoqcDoor
open Go.RowKit

/-- The first k entries, cell by cell. -/
def rowCells (f : Nat → List Value) (k : Nat) : List Value := (List.range k).flatMap f

theorem rowCells_zero (f : Nat → List Value) : rowCells f 0 = [] := rfl
theorem rowCells_succ (f : Nat → List Value) (k : Nat) : rowCells f (k + 1) = rowCells f k ++ f k := by
  unfold rowCells
  rw [List.range_succ, List.flatMap_append]
  simp
theorem rowCells_len {f : Nat → List Value} {s : Nat} (h : ∀ j, (f j).length = s) (k : Nat) : (rowCells f k).length = k * s := by
  induction k with
  | zero => simp [rowCells_zero]
  | succ k ih => rw [rowCells_succ, List.length_append, ih, h, Nat.succ_mul]
theorem rowCells_at {f : Nat → List Value} {s : Nat} (h : ∀ j, (f j).length = s) (k : Nat) : ∀ j c, j < k → c < s → (rowCells f k)[j * s + c]? = (f j)[c]? := by
  induction k with
  | zero => intro j c hj; omega
  | succ k ih =>
    intro j c hj hc
    have hl := rowCells_len h k
    rw [rowCells_succ]
    by_cases hjk : j = k
    · subst hjk
      rw [List.getElem?_append_right (by omega), hl]
      congr 1
      omega
    · have : j * s + c < k * s := by
        have h1 : (j + 1) * s ≤ k * s := Nat.mul_le_mul_right s (by omega)
        rw [Nat.succ_mul] at h1
        omega
      rw [List.getElem?_append_left (by omega)]
      exact ih j c (by omega) hc
theorem rowCells_congr {f g : Nat → List Value} {k : Nat} (h : ∀ j, j < k → f j = g j) : rowCells f k = rowCells g k := by
  induction k with
  | zero => rfl
  | succ k ih => rw [rowCells_succ, rowCells_succ, ih (fun j hj => h j (by omega)), h k (by omega)]

/-- An entry's cell, out of a row of the call's own. -/
theorem own_cell {w : World} {base g n cap s : Nat} {e : TypeId} {f : Nat → List Value} (hf : ∀ j, (f j).length = s) (h : w.ownsRow base e s (.slice (some ⟨g, 0, none⟩) n cap) n (rowCells f n)) (j c : Nat) (hj : j < n) (hc : c < s) : w.cell? ⟨g, j * s + c, none⟩ = (f j)[c]? := by
  rcases h.2 with ⟨h, _⟩ | ⟨g', cap', cur, h', _, hh, h1, h2, h3, h4⟩
  · cases h
  · simp at h'
    obtain ⟨rfl, rfl⟩ := h'
    rw [cell_of_row w _ _ _ _ _ hh, ← rowCells_at hf n j c hj hc, ← h4, List.getElem?_take_of_lt]
    · simp
    · have h5 : (j + 1) * s ≤ n * s := Nat.mul_le_mul_right s (by omega)
      rw [Nat.succ_mul] at h5
      omega
end Go.Proofs.YbulkoqcDoor
