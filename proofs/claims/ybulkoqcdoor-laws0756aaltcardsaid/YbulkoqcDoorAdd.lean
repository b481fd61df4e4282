/- (*byteSet).addMasked: it adds just what the mask lets by. Own work over this program's translation. -/
import Derived.Test.YbulkoqcDoorUnion
namespace Go.Proofs.YbulkoqcDoor
open Go.RowKit
set_option linter.unusedVariables false

/-- The package's variable fullSet (block 1) holds every byte. -/
def FullVar (w : World) : Prop := ∀ k, k < 4 → w.cell? ⟨1, k, none⟩ = some (.int .u64 (wd (fun _ => true) k))

theorem FullVar.kept {w w' : World} {S : List Nat} (h : FullVar w) (k : Kept S w w') (hl : 1 < w.heap.size) (hS : 1 ∉ S) : FullVar w' := fun j hj => (k.cell (p := ⟨1, j, none⟩) hl hS).trans (h j hj)
theorem FullVar.below {w w' : World} {B : Nat} (h : FullVar w) (k : Below B w w') (hB : 1 < B) : FullVar w' := fun j hj => (k.cell (p := ⟨1, j, none⟩) hB).trans (h j hj)

set_option maxRecDepth 100000 in
set_option maxHeartbeats 400000 in
theorem addMasked_zero (P : Nat → Bool) (sb : Nat) (v : Nat) (w : World) (hv : v < 256) (hs : IsSet w sb P) (hF : FullVar w) :
    Calls Ybad.prog 20 #[.pointer (some ⟨sb, 0, none⟩), .int .u8 v, .int .u8 0] w fun e w' => e = .returned (.tuple #[]) ∧ IsSet w' sb (fun _ => true) ∧ Kept [sb] w w' := by
  have c0 := hs.cell 0 (by omega)
  have c1 := hs.cell 1 (by omega)
  have c2 := hs.cell 2 (by omega)
  have c3 := hs.cell 3 (by omega)
  have f := hs.frozen
  have g0 := hF 0 (by omega)
  have g1 := hF 1 (by omega)
  have g2 := hF 2 (by omega)
  have g3 := hF 3 (by omega)
  have HS : Hid (IsSet w sb P) := hs
  clear hs hF
  go_enter Ybad.func20, Ybad.ntmps20
  go_wp2
  go_returns
  refine ⟨rfl, ?_, ?_⟩
  · have h := HS.out
    unfold IsSet at h ⊢
    rw [heap_setCell_at (heap_setCell_at (heap_setCell_at (heap_setCell_at h _) _) _) _]
    rfl
  · exact ((((Kept.refl [sb] w).setCell (p := ⟨sb, 0, none⟩) (.inl (by simp)) _).setCell (p := ⟨sb, 1, none⟩) (.inl (by simp)) _).setCell (p := ⟨sb, 2, none⟩) (.inl (by simp)) _).setCell (p := ⟨sb, 3, none⟩) (.inl (by simp)) _

set_option maxRecDepth 100000 in
set_option maxHeartbeats 400000 in
theorem addMasked_one (P : Nat → Bool) (sb : Nat) (v : Nat) (w : World) (hv : v < 256) (hs : IsSet w sb P) :
    Calls Ybad.prog 20 #[.pointer (some ⟨sb, 0, none⟩), .int .u8 v, .int .u8 255] w fun e w' => e = .returned (.tuple #[]) ∧ IsSet w' sb (fun b => P b || b == v) ∧ Kept [sb] w w' := by
  have c := hs.cell (v / 64) (by omega)
  have f := hs.frozen (v / 64)
  have HS : Hid (IsSet w sb P) := hs
  clear hs
  have b1 : (0 : Int) ≤ (v : Int) / 64 := by omega
  have b2 : (v : Int) / 64 < 4 := by omega
  go_enter Ybad.func20, Ybad.ntmps20
  go_wp2
  go_big_region
  go_wp2
  go_returns
  exact ⟨rfl, (HS.out.put v hv).drew, ((Kept.refl [sb] w).setCell (p := ⟨sb, v / 64, none⟩) (.inl (by simp)) _).drew⟩

/-- What has been added when the loop of addMasked stands at b: v with every submask of f above b. -/
def above (v f b x : Nat) : Bool := (List.range 256).any fun c => (c &&& f == c) && (decide (b < c) && (x == (v ||| c)))

theorem above_iff (v f b x : Nat) : above v f b x = true ↔ ∃ c, c < 256 ∧ c &&& f = c ∧ b < c ∧ x = (v ||| c) := by
  unfold above
  simp [List.any_eq_true]

theorem not_byte : ∀ m, m < 256 → 255 ^^^ m = 255 - m := by decide +kernel
theorem mask_all : ∀ m, m < 256 → m ||| (255 - m) = 255 := by decide +kernel
theorem mask_none : ∀ m, m < 256 → (255 - m) &&& m = 0 := by decide +kernel

/-- At the start nothing has been added. -/
theorem above_top (v f x : Nat) : above v f f x = false := by
  rw [Bool.eq_false_iff]
  intro h
  obtain ⟨c, _, h2, h3, _⟩ := (above_iff v f f x).1 h
  have : c &&& f ≤ f := Nat.and_le_right
  omega

/-- One step down. -/
theorem above_step (v f b x : Nat) (hb : b < 256) (hbf : b &&& f = b) (h0 : 0 < b) : above v f ((b - 1) &&& f) x = (above v f b x || x == (v ||| b)) := by
  have hl : (b - 1) &&& f ≤ b - 1 := Nat.and_le_left
  rw [Bool.eq_iff_iff, Bool.or_eq_true, above_iff, above_iff]
  simp only [beq_iff_eq]
  constructor
  · rintro ⟨c, h1, h2, h3, h4⟩
    rcases Nat.lt_trichotomy b c with h | h | h
    · exact .inl ⟨c, h1, h2, h, h4⟩
    · subst h; exact .inr h4
    · have := sub_next b c f hbf h2 h; omega
  · rintro (⟨c, h1, h2, h3, h4⟩ | h)
    · exact ⟨c, h1, h2, by omega, h4⟩
    · exact ⟨b, hb, hbf, by omega, h⟩

/-- At the end all is added that the mask lets by. -/
theorem above_end (v m x : Nat) (hv : v < 256) (hm : m < 256) (hx : x < 256) (hsub : v &&& m = v) : (above v (255 - m) 0 x || x == (v ||| 0)) = mt v m x := by
  have hor : ∀ c, c &&& (255 - m) = c → (v ||| c) &&& m = v := fun c hc => by
    rw [Nat.and_or_distrib_right, hsub, ← hc, Nat.and_assoc, mask_none m hm, Nat.and_zero, Nat.or_zero]
  rw [Bool.eq_iff_iff, Bool.or_eq_true, above_iff]
  unfold mt
  simp only [beq_iff_eq, Nat.or_zero, hsub]
  constructor
  · rintro (⟨c, h1, h2, h3, h4⟩ | h)
    · rw [h4]; exact hor c h2
    · rw [h]; exact hsub
  · intro h
    have hxx : x = v ||| (x &&& (255 - m)) := by
      have h1 : x &&& (m ||| (255 - m)) = x := by
        rw [mask_all m hm]
        have := Nat.and_two_pow_sub_one_eq_mod x 8
        rw [show (255 : Nat) = 2 ^ 8 - 1 from rfl, this, Nat.mod_eq_of_lt (by omega)]
      rw [Nat.and_or_distrib_left, h] at h1
      exact h1.symm
    rcases Nat.eq_zero_or_pos (x &&& (255 - m)) with h0 | h0
    · right
      rw [h0, Nat.or_zero] at hxx
      exact hxx
    · left
      have hle : x &&& (255 - m) ≤ x := Nat.and_le_left
      exact ⟨x &&& (255 - m), by omega, by rw [Nat.and_assoc, Nat.and_self], h0, hxx⟩

set_option maxRecDepth 100000 in
set_option maxHeartbeats 1000000 in
theorem addMasked_mid (P : Nat → Bool) (sb : Nat) (v m : Nat) (w : World) (hv : v < 256) (hm0 : 0 < m) (hm1 : m < 255) (hsub : v &&& m = v) (hs : IsSet w sb P) :
    Calls Ybad.prog 20 #[.pointer (some ⟨sb, 0, none⟩), .int .u8 v, .int .u8 m] w fun e w' => e = .returned (.tuple #[]) ∧ IsSet w' sb (fun b => P b || mt v m b) ∧ Kept [sb] w w' := by
  have HS : Hid (IsSet w sb P) := hs
  clear hs
  have e1 : ((m : Int) == 0) = false := by rw [beq_eq_false_iff_ne]; omega
  have e2 : ((m : Int) == 255) = false := by rw [beq_eq_false_iff_ne]; omega
  have HSUB : Hid (v &&& m = v) := hsub
  clear hsub
  obtain ⟨f, hf⟩ : ∃ f, 255 - m = f := ⟨_, rfl⟩
  have hfm : bits .xor .u8 IntKind.u8.max (m : Int) = (f : Int) := by
    have e : IntKind.u8.max = ((255 : Nat) : Int) := by decide
    rw [e, u8_xor_nat _ _ (by omega) (by omega), not_byte m (by omega), hf]
  have hf8 : f < 256 := by omega
  have HF : Hid (255 - m = f) := hf
  clear hf
  go_enter Ybad.func20, Ybad.ntmps20
  go_wp2
  clear hfm
  go_loopw [7] (fun i wr => ∃ b : Nat, b < 256 ∧ i = .int .u8 b ∧ b &&& f = b ∧ IsSet wr sb (fun x => P x || above v f b x) ∧ Kept [sb] w wr) (fun i _ => (intOf i).toNat)
  case atStart => exact ⟨f, hf8, rfl, Nat.and_self f, HS.out.congr (fun x _ => by rw [above_top, Bool.or_false]), Kept.refl _ _⟩
  case round =>
    obtain ⟨b, hb, rfl, hbf, h1, h3⟩ := hrel
    obtain ⟨x, hx⟩ : ∃ x, v ||| b = x := ⟨_, rfl⟩
    have hx8 : x < 256 := by rw [← hx]; exact Nat.or_lt_two_pow (n := 8) hv hb
    have hor : bits .or .u8 (v : Int) (b : Int) = (x : Int) := by rw [u8_or_nat v b hv hb, hx]
    have c := h1.cell (x / 64) (by omega)
    have fz := h1.frozen (x / 64)
    have b1 : (0 : Int) ≤ (x : Int) / 64 := by omega
    have b2 : (x : Int) / 64 < 4 := by omega
    have H1 : Hid (IsSet wr sb (fun x => P x || above v f b x) ∧ Kept [sb] w wr) := ⟨h1, h3⟩
    have HX : Hid (v ||| b = x) := hx
    have HBF : Hid (b &&& f = b) := hbf
    clear h1 h3 hx hbf
    by_cases hz : b = 0
    · have hzb : ((b : Int) == 0) = true := by rw [hz]; rfl
      have HZ : Hid (b = 0) := hz
      clear hz
      go_wp2
      go_big_region
      go_wp2
      go_returns
      obtain ⟨h1, h3⟩ := H1.out
      refine ⟨rfl, ((h1.put x hx8).drew).congr (fun y hy => ?_), (h3.setCell (p := ⟨sb, x / 64, none⟩) (.inl (by simp)) _).drew⟩
      rw [← above_end v m y hv (by omega) hy HSUB.out, HF.out, ← HX.out, HZ.out, Bool.or_assoc]
    · have hzb : ((b : Int) == 0) = false := by rw [beq_eq_false_iff_ne]; omega
      obtain ⟨d, hd⟩ : ∃ d, (b - 1) &&& f = d := ⟨_, rfl⟩
      have hdl : d ≤ b - 1 := by rw [← hd]; exact Nat.and_le_left
      have hand : bits .and .u8 ((b : Int) - 1) (f : Int) = (d : Int) := by
        rw [show ((b : Int) - 1) = ((b - 1 : Nat) : Int) from by omega, u8_and_nat _ _ (by omega) hf8, hd]
      have HD : Hid ((b - 1) &&& f = d) := hd
      clear hd
      go_wp2
      go_big_region
      go_wp2
      obtain ⟨h1, h3⟩ := H1.out
      go_roundw
      case rel =>
        refine ⟨d, by omega, rfl, ?_, ((h1.put x hx8).drew).congr (fun y hy => ?_), (h3.setCell (p := ⟨sb, x / 64, none⟩) (.inl (by simp)) _).drew⟩
        · rw [← HD.out, Nat.and_assoc, Nat.and_self]
        · rw [← HD.out, above_step v f b y hb HBF.out (by omega), ← HX.out, Bool.or_assoc]
      case measure => simp [intOf]; omega
theorem mt_zero (b : Nat) : mt 0 0 b = true := by unfold mt; simp
theorem mt_all (v b : Nat) (hv : v < 256) (hb : b < 256) : mt v 255 b = (b == v) := by
  have h : ∀ x, x < 256 → x &&& 255 = x := fun x hx => by
    rw [show (255 : Nat) = 2 ^ 8 - 1 from rfl, Nat.and_two_pow_sub_one_eq_mod, Nat.mod_eq_of_lt (by omega)]
  unfold mt
  rw [h v hv, h b hb]

theorem addMasked_any (P : Nat → Bool) (sb : Nat) (v m : Nat) (w : World) (hv : v < 256) (hm : m < 256) (hsub : v &&& m = v) (hs : IsSet w sb P) (hF : FullVar w) :
    Calls Ybad.prog 20 #[.pointer (some ⟨sb, 0, none⟩), .int .u8 v, .int .u8 m] w fun e w' => e = .returned (.tuple #[]) ∧ IsSet w' sb (fun b => P b || mt v m b) ∧ Kept [sb] w w' := by
  by_cases h0 : m = 0
  · subst h0
    obtain rfl : v = 0 := by simpa using hsub.symm
    exact (addMasked_zero P sb 0 w (by omega) hs hF).mono fun e w' ⟨h1, h2, h3⟩ => ⟨h1, h2.congr (fun b _ => by rw [mt_zero, Bool.or_true]), h3⟩
  · by_cases h1 : m = 255
    · subst h1
      exact (addMasked_one P sb v w hv hs).mono fun e w' ⟨h1, h2, h3⟩ => ⟨h1, h2.congr (fun b hb => by rw [mt_all v b hv hb]), h3⟩
    · exact addMasked_mid P sb v m w hv (by omega) (by omega) hsub hs

end Go.Proofs.YbulkoqcDoor
