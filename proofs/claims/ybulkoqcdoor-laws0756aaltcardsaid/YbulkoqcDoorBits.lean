/- Sets of bytes as four words of 64 bits: the plain laws. No Go in sight but the model's own numbers and values. Own work. -/
import Derived.WalkKit
import Derived.Laws.BitsAllLaws
namespace Go.Proofs.YbulkoqcDoor

/-- The first i bits of the k-th word of a set of bytes. -/
def wdTo (P : Nat → Bool) (k : Nat) : Nat → Nat
  | 0 => 0
  | i + 1 => wdTo P k i ||| (if P (64 * k + i) then 2 ^ i else 0)
/-- The k-th word. -/
def wd (P : Nat → Bool) (k : Nat) : Nat := wdTo P k 64
/-- The four words, as cells. -/
def wds (P : Nat → Bool) : Array Value := #[.int .u64 (wd P 0), .int .u64 (wd P 1), .int .u64 (wd P 2), .int .u64 (wd P 3)]

theorem testBit_wdTo (P : Nat → Bool) (k : Nat) : ∀ n i, (wdTo P k n).testBit i = (decide (i < n) && P (64 * k + i)) := by
  intro n
  induction n with
  | zero => intro i; simp [wdTo]
  | succ n ih =>
    intro i
    rw [wdTo, Nat.testBit_or, ih]
    by_cases hp : P (64 * k + n)
    · rw [if_pos hp, Nat.testBit_two_pow]
      by_cases hi : i = n
      · subst hi; simp [hp]
      · have h1 : decide (n = i) = false := decide_eq_false (fun e => hi e.symm)
        have h2 : decide (i < n + 1) = decide (i < n) := by simp only [decide_eq_decide]; omega
        rw [h1, h2, Bool.or_false]
    · rw [if_neg hp, Nat.zero_testBit, Bool.or_false]
      by_cases hi : i = n
      · subst hi; simp [hp]
      · have h2 : decide (i < n + 1) = decide (i < n) := by simp only [decide_eq_decide]; omega
        rw [h2]

theorem testBit_wd (P : Nat → Bool) (k i : Nat) : (wd P k).testBit i = (decide (i < 64) && P (64 * k + i)) := testBit_wdTo P k 64 i

theorem wd_lt (P : Nat → Bool) (k : Nat) : wd P k < 2 ^ 64 := by
  apply Nat.lt_pow_two_of_testBit
  intro i hi
  rw [testBit_wd, decide_eq_false (by omega)]
  rfl
theorem wd_lt' (P : Nat → Bool) (k : Nat) : wd P k < 18446744073709551616 := wd_lt P k

theorem wd_congr {P Q : Nat → Bool} {k : Nat} (h : ∀ i, i < 64 → P (64 * k + i) = Q (64 * k + i)) : wd P k = wd Q k := by
  apply Nat.eq_of_testBit_eq
  intro i
  rw [testBit_wd, testBit_wd]
  by_cases hi : i < 64
  · rw [h i hi]
  · rw [decide_eq_false hi]; rfl

theorem wds_congr {P Q : Nat → Bool} (h : ∀ b, b < 256 → P b = Q b) : wds P = wds Q := by
  unfold wds
  rw [wd_congr (k := 0) (P := P) (Q := Q) (fun i hi => h _ (by omega)), wd_congr (k := 1) (P := P) (Q := Q) (fun i hi => h _ (by omega)),
    wd_congr (k := 2) (P := P) (Q := Q) (fun i hi => h _ (by omega)), wd_congr (k := 3) (P := P) (Q := Q) (fun i hi => h _ (by omega))]

theorem wd_or (P Q : Nat → Bool) (k : Nat) : wd (fun b => P b || Q b) k = wd P k ||| wd Q k := by
  apply Nat.eq_of_testBit_eq
  intro i
  rw [testBit_wd, Nat.testBit_or, testBit_wd, testBit_wd, Bool.and_or_distrib_left]

theorem wd_not (P : Nat → Bool) (k : Nat) : wd (fun b => !P b) k = 18446744073709551615 - wd P k := by
  have hl := wd_lt P k
  rw [show (18446744073709551615 - wd P k) = 2 ^ 64 - (wd P k + 1) from by omega]
  apply Nat.eq_of_testBit_eq
  intro i
  rw [testBit_wd, Nat.testBit_two_pow_sub_succ hl, testBit_wd]
  by_cases hi : i < 64
  · simp [hi]
  · simp [hi]

theorem wd_full (k : Nat) : wd (fun _ => true) k = 18446744073709551615 := by
  rw [show (18446744073709551615 : Nat) = 2 ^ 64 - 1 from rfl]
  apply Nat.eq_of_testBit_eq
  intro i
  rw [testBit_wd, Nat.testBit_two_pow_sub_one, Bool.and_true]

theorem wd_empty (k : Nat) : wd (fun _ => false) k = 0 := by
  apply Nat.eq_of_testBit_eq
  intro i
  rw [testBit_wd, Bool.and_false, Nat.zero_testBit]

theorem wds_empty : wds (fun _ => false) = #[.int .u64 0, .int .u64 0, .int .u64 0, .int .u64 0] := by
  unfold wds
  rw [wd_empty, wd_empty, wd_empty, wd_empty]
  rfl
theorem wds_full : wds (fun _ => true) = #[.int .u64 18446744073709551615, .int .u64 18446744073709551615, .int .u64 18446744073709551615, .int .u64 18446744073709551615] := by
  unfold wds
  rw [wd_full, wd_full, wd_full, wd_full]
  rfl

/-- A byte put into a set: the word in which it lies. -/
theorem wd_put (P : Nat → Bool) (b : Nat) : wd (fun x => P x || x == b) (b / 64) = wd P (b / 64) ||| 2 ^ (b % 64) := by
  apply Nat.eq_of_testBit_eq
  intro i
  rw [testBit_wd, Nat.testBit_or, testBit_wd, Nat.testBit_two_pow, Bool.and_or_distrib_left]
  congr 1
  by_cases hi : i < 64
  · by_cases hb : b % 64 = i
    · have : 64 * (b / 64) + i = b := by omega
      simp [hi, hb, this]
    · have : ¬ 64 * (b / 64) + i = b := by omega
      simp [hb, this]
  · have : ¬ b % 64 = i := by omega
    simp [hi, this]

theorem wd_put_other (P : Nat → Bool) (b k : Nat) (h : k ≠ b / 64) : wd (fun x => P x || x == b) k = wd P k := by
  apply wd_congr
  intro i hi
  have : ¬ 64 * k + i = b := by omega
  simp [this]

theorem wds_at (P : Nat → Bool) (k : Nat) (h : k < 4) : (wds P)[k]? = some (.int .u64 (wd P k)) := by
  match k, h with
  | 0, _ => rfl
  | 1, _ => rfl
  | 2, _ => rfl
  | 3, _ => rfl

theorem u64_pow (i : Nat) (h : i < 64) : IntKind.u64.wrap (2 ^ i) = ((2 ^ i : Nat) : Int) := by
  have h1 : (2 : Nat) ^ i < 2 ^ 64 := Nat.pow_lt_pow_right (by omega) h
  have h2 : ((2 : Int) ^ i) = ((2 ^ i : Nat) : Int) := by simp
  rw [h2, IntKind.wrap_u64]
  generalize (2 : Nat) ^ i = x at *
  omega

/-- The word behind 'w |= 1 << (b % 64)', as the model writes it. -/
theorem word_put (P : Nat → Bool) (b : Nat) : bits .or .u64 (wd P (b / 64) : Int) (IntKind.u64.wrap (2 ^ (b % 64))) = (wd (fun x => P x || x == b) (b / 64) : Int) := by
  have hi : b % 64 < 64 := Nat.mod_lt _ (by omega)
  have h1 : (2 : Nat) ^ (b % 64) < 2 ^ 64 := Nat.pow_lt_pow_right (by omega) hi
  rw [u64_pow _ hi, u64_or_nat _ _ (wd_lt' _ _) h1, wd_put]

theorem wds_put (P : Nat → Bool) (b : Nat) (hb : b < 256) : (wds P).setIfInBounds (b / 64) (.int .u64 (bits .or .u64 (wd P (b / 64) : Int) (IntKind.u64.wrap (2 ^ (b % 64))))) = wds (fun x => P x || x == b) := by
  rw [word_put]
  have hk : b / 64 < 4 := by omega
  have ho : ∀ k, k ≠ b / 64 → wd (fun x => P x || x == b) k = wd P k := fun k h => wd_put_other P b k h
  generalize hQ : (fun x => P x || x == b) = Q at *
  generalize b / 64 = k at *
  unfold wds
  match k, hk with
  | 0, _ => rw [ho 1 (by omega), ho 2 (by omega), ho 3 (by omega)]; rfl
  | 1, _ => rw [ho 0 (by omega), ho 2 (by omega), ho 3 (by omega)]; rfl
  | 2, _ => rw [ho 0 (by omega), ho 1 (by omega), ho 3 (by omega)]; rfl
  | 3, _ => rw [ho 0 (by omega), ho 1 (by omega), ho 2 (by omega)]; rfl

/-- Any four words are the words of a set. -/
def ofWords (x0 x1 x2 x3 : Nat) (b : Nat) : Bool := (match b / 64 with | 0 => x0 | 1 => x1 | 2 => x2 | _ => x3).testBit (b % 64)
theorem wd_ofWords (x0 x1 x2 x3 : Nat) (h0 : x0 < 2 ^ 64) (h1 : x1 < 2 ^ 64) (h2 : x2 < 2 ^ 64) (h3 : x3 < 2 ^ 64) :
    wd (ofWords x0 x1 x2 x3) 0 = x0 ∧ wd (ofWords x0 x1 x2 x3) 1 = x1 ∧ wd (ofWords x0 x1 x2 x3) 2 = x2 ∧ wd (ofWords x0 x1 x2 x3) 3 = x3 := by
  have big : ∀ x : Nat, x < 2 ^ 64 → ∀ i, ¬ i < 64 → x.testBit i = false := fun x hx i hi =>
    Nat.testBit_lt_two_pow (Nat.lt_of_lt_of_le hx (Nat.pow_le_pow_right (by omega) (by omega)))
  refine ⟨?_, ?_, ?_, ?_⟩
  all_goals
    apply Nat.eq_of_testBit_eq
    intro i
    rw [testBit_wd]
    by_cases hi : i < 64
    · rw [decide_eq_true hi, Bool.true_and]
      unfold ofWords
      first
        | (rw [show (64 * 0 + i) / 64 = 0 from by omega, show (64 * 0 + i) % 64 = i from by omega])
        | (rw [show (64 * 1 + i) / 64 = 1 from by omega, show (64 * 1 + i) % 64 = i from by omega])
        | (rw [show (64 * 2 + i) / 64 = 2 from by omega, show (64 * 2 + i) % 64 = i from by omega])
        | (rw [show (64 * 3 + i) / 64 = 3 from by omega, show (64 * 3 + i) % 64 = i from by omega])
      rfl
    · rw [decide_eq_false hi, Bool.false_and]
      first
        | rw [big x0 h0 i hi]
        | rw [big x1 h1 i hi]
        | rw [big x2 h2 i hi]
        | rw [big x3 h3 i hi]

/-! ### The bytes that a mask lets by -/
/-- b is let by: it agrees with v on m's bits. -/
def mt (v m b : Nat) : Bool := (b &&& m) == (v &&& m)

theorem and_le (a b : Nat) : a &&& b ≤ b := Nat.and_le_right

/-- The next lower submask: nothing lies between. -/
theorem sub_next : ∀ (b c f : Nat), b &&& f = b → c &&& f = c → c < b → c ≤ (b - 1) &&& f := by
  intro b
  induction b using Nat.strongRecOn with
  | ind b ih =>
    intro c f hb hc hlt
    have dv : ∀ x y : Nat, (x &&& y) / 2 = x / 2 &&& y / 2 := fun x y => by
      have := Nat.and_div_two_pow (a := x) (b := y) (n := 1)
      simpa using this
    have md : ∀ x y : Nat, (x &&& y) % 2 = (x % 2) * (y % 2) := fun x y => by
      have h1 : (x &&& y) % 2 = (x % 2) &&& (y % 2) := by
        have := Nat.and_mod_two_pow (a := x) (b := y) (n := 1)
        simpa using this
      rw [h1]
      have hx : x % 2 = 0 ∨ x % 2 = 1 := by omega
      have hy : y % 2 = 0 ∨ y % 2 = 1 := by omega
      rcases hx with hx | hx <;> rcases hy with hy | hy <;> rw [hx, hy] <;> rfl
    have hb2 : b / 2 &&& f / 2 = b / 2 := by rw [← dv, hb]
    have hc2 : c / 2 &&& f / 2 = c / 2 := by rw [← dv, hc]
    have hbm := md b f
    have hcm := md c f
    rw [hb] at hbm
    rw [hc] at hcm
    have hrd := dv (b - 1) f
    have hrm := md (b - 1) f
    by_cases ho : b % 2 = 1
    · have e1 : (b - 1) / 2 = b / 2 := by omega
      have e2 : (b - 1) % 2 = 0 := by omega
      rw [e1, hb2] at hrd
      rw [e2] at hrm
      omega
    · have e1 : (b - 1) / 2 = b / 2 - 1 := by omega
      have e2 : (b - 1) % 2 = 1 := by omega
      rw [e1] at hrd
      rw [e2, Nat.one_mul] at hrm
      have hlt2 : c / 2 < b / 2 := by omega
      have := ih (b / 2) (by omega) (c / 2) (f / 2) hb2 hc2 hlt2
      have hf2 : f % 2 = 0 ∨ f % 2 = 1 := by omega
      rcases hf2 with hf | hf
      · rw [hf] at hrm hcm; omega
      · rw [hf] at hrm hcm; omega

end Go.Proofs.YbulkoqcDoor
