/- A set of bytes is equal to itself; the item at each byte of a form. Own work over this program's translation. -/
import Derived.Test.YbulkoqcDoorNext
namespace Go.Proofs.YbulkoqcDoor
open Go.RowKit
set_option linter.unusedVariables false

set_option maxRecDepth 100000 in
theorem eq38 (a b c d : Int) (w : World) : (Op.equalIn 10000 38 (.agg #[.int .u64 a, .int .u64 b, .int .u64 c, .int .u64 d]) (.agg #[.int .u64 a, .int .u64 b, .int .u64 c, .int .u64 d])).run Ybad.prog w = .ok true w := by
  have u3 := Ybad.underlying36
  have a3 := Ybad.isAgg36
  have z3 := Ybad.sizeOf36
  rw [show (10000 : Nat) = 9999 + 1 from rfl, Op.equalIn]
  simp only [Sem.run_bind, run_underlying Ybad.underlying38, Result.andThen_ok]
  simp only [Std.Legacy.Range.forIn_eq_forIn_range', Std.Legacy.Range.size, Nat.sub_zero, Nat.add_sub_cancel, Nat.div_one, List.range'_succ, List.range'_zero, List.forIn_cons, List.forIn_nil]
  go_simp

theorem eq_wds (P : Nat → Bool) (w : World) : (Op.equalIn 10000 38 (.agg (wds P)) (.agg (wds P))).run Ybad.prog w = .ok true w := eq38 _ _ _ _ w

/-- The set that the form has at byte k, read from part i on. -/
def item (L G : Nat → Nat) (A : Nat → Nat → Nat → Bool) : Nat → Nat → Nat → Nat → Bool
  | 0, _, _ => fun _ => true
  | f + 1, i, k => if k < L i then A i k else if k < L i + G i then fun _ => true else item L G A f (i + 1) (k - (L i + G i))

theorem item_step (L G : Nat → Nat) (A : Nat → Nat → Nat → Bool) (f i k : Nat) : item L G A (f + 1) i (L i + G i + k) = item L G A f (i + 1) k := by
  show (if _ then _ else if _ then _ else _) = _
  rw [if_neg (by omega), if_neg (by omega)]
  congr 1
  omega
theorem item_from (L G : Nat → Nat) (A : Nat → Nat → Nat → Bool) (f : Nat) : ∀ d i k, item L G A (f + d) i (start L G (i + d) - start L G i + k) = item L G A f (i + d) k := by
  intro d
  induction d with
  | zero => intro i k; simp
  | succ d ih =>
    intro i k
    have h1 : start L G (i + 1) ≤ start L G (i + 1 + d) := start_le (by omega)
    have e : start L G (i + 1) = start L G i + L i + G i := rfl
    have h2 := ih (i + 1) k
    rw [show f + (d + 1) = (f + d) + 1 from by omega, show i + (d + 1) = i + 1 + d from by omega,
      show start L G (i + 1 + d) - start L G i + k = L i + G i + (start L G (i + 1 + d) - start L G (i + 1) + k) from by omega, item_step, h2]
theorem item_at (L G : Nat → Nat) (A : Nat → Nat → Nat → Bool) (np i j : Nat) (hi : i < np) (hj : j < L i) : item L G A np 0 (start L G i + j) = A i j := by
  have h := item_from L G A (np - i) i 0 j
  rw [show np - i + i = np from by omega, Nat.zero_add, show start L G 0 = 0 from rfl, Nat.sub_zero] at h
  rw [h]
  obtain ⟨f, hf⟩ : ∃ f, np - i = f + 1 := ⟨np - i - 1, by omega⟩
  rw [hf]
  show (if _ then _ else if _ then _ else _) = _
  rw [if_pos hj]
theorem item_gap (L G : Nat → Nat) (A : Nat → Nat → Nat → Bool) (np i j : Nat) (hi : i < np) (hj : j < G i) : item L G A np 0 (start L G i + L i + j) = fun _ => true := by
  have h := item_from L G A (np - i) i 0 (L i + j)
  rw [show np - i + i = np from by omega, Nat.zero_add, show start L G 0 = 0 from rfl, Nat.sub_zero, ← Nat.add_assoc] at h
  rw [h]
  obtain ⟨f, hf⟩ : ∃ f, np - i = f + 1 := ⟨np - i - 1, by omega⟩
  rw [hf]
  show (if _ then _ else if _ then _ else _) = _
  rw [if_neg (by omega), if_pos (by omega)]
end Go.Proofs.YbulkoqcDoor
