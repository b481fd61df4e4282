/- The reader of a form: how many of the next bytes lie in a gap. Own work over this program's translation. -/
import Derived.Test.YbulkoqcDoorPart
import Derived.BigQuiet
namespace Go.Proofs.YbulkoqcDoor
open Go.RowKit
set_option linter.unusedVariables false

/-- The reader in block rb. -/
def IsRd (w : World) (rb : Nat) (ps gs wide : Value) (p a g t : Nat) : Prop :=
  w.heap[rb]? = some (.cells #[ps, gs, wide, .int .i64 p, .int .i64 a, .int .i64 g, .int .i64 t] 43 (0, 0))

theorem IsRd.cells {w : World} {rb : Nat} {ps gs wide : Value} {p a g t : Nat} (h : IsRd w rb ps gs wide p a g t) :
    w.cell? ⟨rb, 0, none⟩ = some ps ∧ w.cell? ⟨rb, 1, none⟩ = some gs ∧ w.cell? ⟨rb, 3, none⟩ = some (.int .i64 p) ∧ w.cell? ⟨rb, 4, none⟩ = some (.int .i64 a) ∧ w.cell? ⟨rb, 5, none⟩ = some (.int .i64 g) ∧ w.cell? ⟨rb, 6, none⟩ = some (.int .i64 t) := by
  refine ⟨?_, ?_, ?_, ?_, ?_, ?_⟩ <;> (rw [cell_of_row w _ _ _ _ _ h]; rfl)
theorem IsRd.frozen {w : World} {rb : Nat} {ps gs wide : Value} {p a g t : Nat} (h : IsRd w rb ps gs wide p a g t) (o : Nat) : w.frozen? ⟨rb, o, none⟩ = false := by
  unfold IsRd at h
  simp only [World.frozen?, h]; simp
theorem IsRd.lt {w : World} {rb : Nat} {ps gs wide : Value} {p a g t : Nat} (h : IsRd w rb ps gs wide p a g t) : rb < w.heap.size := lt_of_block h
theorem IsRd.setPart {w : World} {rb : Nat} {ps gs wide : Value} {p a g t : Nat} (h : IsRd w rb ps gs wide p a g t) (x : Nat) : IsRd (w.setCell ⟨rb, 3, none⟩ (.int .i64 x)) rb ps gs wide x a g t := by
  unfold IsRd; rw [heap_setCell_at h]; rfl
theorem IsRd.setAt {w : World} {rb : Nat} {ps gs wide : Value} {p a g t : Nat} (h : IsRd w rb ps gs wide p a g t) (x : Nat) : IsRd (w.setCell ⟨rb, 4, none⟩ (.int .i64 x)) rb ps gs wide p x g t := by
  unfold IsRd; rw [heap_setCell_at h]; rfl
theorem IsRd.setGap {w : World} {rb : Nat} {ps gs wide : Value} {p a g t : Nat} (h : IsRd w rb ps gs wide p a g t) (x : Nat) : IsRd (w.setCell ⟨rb, 5, none⟩ (.int .i64 x)) rb ps gs wide p a x t := by
  unfold IsRd; rw [heap_setCell_at h]; rfl
theorem IsRd.setAlt {w : World} {rb : Nat} {ps gs wide : Value} {p a g t : Nat} (h : IsRd w rb ps gs wide p a g t) (x : Nat) : IsRd (w.setCell ⟨rb, 6, none⟩ (.int .i64 x)) rb ps gs wide p a g x := by
  unfold IsRd; rw [heap_setCell_at h]; rfl
theorem IsRd.drewN {w : World} {rb : Nat} {ps gs wide : Value} {p a g t : Nat} (h : IsRd w rb ps gs wide p a g t) (n : Nat) : IsRd (w.drewN n) rb ps gs wide p a g t := h
theorem IsRd.drew {w : World} {rb : Nat} {ps gs wide : Value} {p a g t : Nat} (h : IsRd w rb ps gs wide p a g t) : IsRd w.drew rb ps gs wide p a g t := h
theorem IsRd.kept {S : List Nat} {w w' : World} {rb : Nat} {ps gs wide : Value} {p a g t : Nat} (h : IsRd w rb ps gs wide p a g t) (k : Kept S w w') (hS : rb ∉ S) : IsRd w' rb ps gs wide p a g t := (k.block rb h.lt hS).trans h

/-- Where part i begins. -/
def start (L G : Nat → Nat) : Nat → Nat
  | 0 => 0
  | i + 1 => start L G i + L i + G i

/-- The reader stands at byte k of the form. -/
def Pos (L G : Nat → Nat) (np p a g k : Nat) : Prop :=
  p < np ∧ a ≤ L p ∧ (g = 0 ∨ (0 < p ∧ a = 0 ∧ g ≤ G (p - 1))) ∧ start L G p + a = k + g

theorem Pos.next {L G : Nat → Nat} {np p k : Nat} (h : Pos L G np p (L p) 0 k) (hp : p + 1 < np) : Pos L G np (p + 1) 0 (G p) k := by
  obtain ⟨h1, h2, h3, h4⟩ := h
  refine ⟨hp, Nat.zero_le _, ?_, ?_⟩
  · by_cases h : G p = 0
    · exact .inl h
    · exact .inr ⟨by omega, rfl, by simp⟩
  · show start L G p + L p + G p + 0 = _
    omega

/-- What lies in memory of a form: her parts' lengths and her gaps. -/
structure FormMem (w : World) (pb np : Nat) (go : Option Addr) (gb ng : Nat) (va : Nat → Option Addr) (cv L G : Nat → Nat) : Prop where
  parts : ∀ i, i < np → w.cell? ⟨pb, i * 3, none⟩ = some (.slice (va i) (L i) (cv i))
  gaps : ∀ i, i + 1 < np → go = some ⟨gb, 0, none⟩ ∧ i < ng ∧ w.cell? ⟨gb, i * 2, none⟩ = some (.int .i64 (G i)) ∧ w.cell? ⟨gb, i * 2 + 1, none⟩ = some (.int .i64 (G i))
  small : ∀ i, L i < 2 ^ 40 ∧ G i < 2 ^ 40
  pbl : pb < w.heap.size
  gbl : 1 < np → gb < w.heap.size

theorem FormMem.kept {S : List Nat} {w w' : World} {pb np : Nat} {go : Option Addr} {gb ng : Nat} {va : Nat → Option Addr} {cv L G : Nat → Nat} (h : FormMem w pb np go gb ng va cv L G) (k : Kept S w w') (h1 : pb ∉ S) (h2 : gb ∉ S) : FormMem w' pb np go gb ng va cv L G :=
  ⟨fun i hi => (k.cell (p := ⟨pb, i * 3, none⟩) h.pbl h1).trans (h.parts i hi), fun i hi => by
    obtain ⟨a, b, c, d⟩ := h.gaps i hi
    exact ⟨a, b, (k.cell (p := ⟨gb, i * 2, none⟩) (h.gbl (by omega)) h2).trans c, (k.cell (p := ⟨gb, i * 2 + 1, none⟩) (h.gbl (by omega)) h2).trans d⟩, h.small, Nat.lt_of_lt_of_le h.pbl k.size, fun q => Nat.lt_of_lt_of_le (h.gbl q) k.size⟩

/-- The cell of the part's number, as a number. -/
def partOf (w : World) (rb : Nat) : Nat := match w.cell? ⟨rb, 3, none⟩ with | some v => (intOf v).toNat | none => 0
theorem IsRd.partOf {w : World} {rb : Nat} {ps gs wide : Value} {p a g t : Nat} (h : IsRd w rb ps gs wide p a g t) : partOf w rb = p := by
  simp only [YbulkoqcDoor.partOf, h.cells.2.2.1, intOf]; omega

set_option maxRecDepth 100000 in
set_option maxHeartbeats 1000000 in
theorem gapBytes_any (w : World) (rb pb np cp : Nat) (go : Option Addr) (gb ng cg : Nat) (wide : Value) (va : Nat → Option Addr) (cv L G : Nat → Nat) (p a g t k : Nat)
    (hnp : np < 2 ^ 40) (hR : IsRd w rb (.slice (some ⟨pb, 0, none⟩) np cp) (.slice go ng cg) wide p a g t)
    (hF : FormMem w pb np go gb ng va cv L G) (hP : Pos L G np p a g k) (h1 : pb ≠ rb) (h2 : gb ≠ rb) :
    Calls Ybad.prog 19 #[.pointer (some ⟨rb, 0, none⟩)] w fun e w' => Kept [rb] w w' ∧ ∃ p' a' g' t', IsRd w' rb (.slice (some ⟨pb, 0, none⟩) np cp) (.slice go ng cg) wide p' a' g' t' ∧ Pos L G np p' a' g' k ∧ (t = 0 → t' = 0) ∧ (np = 1 → a' = a ∧ g' = g ∧ t' = t)
      ∧ ((e = .returned (.int .i64 (-1)) ∧ p' + 1 = np ∧ a' = L p' ∧ g' = 0) ∨ (e = .returned (.int .i64 g') ∧ (0 < g' ∨ a' < L p'))) := by
  have H0 : Hid (FormMem w pb np go gb ng va cv L G ∧ IsRd w rb (.slice (some ⟨pb, 0, none⟩) np cp) (.slice go ng cg) wide p a g t ∧ Pos L G np p a g k) := ⟨hF, hR, hP⟩
  clear hF hR hP
  go_enter Ybad.func19, Ybad.ntmps19
  go_wp2_with fail
  go_loopw [] (fun wr => ∃ p' a' g' t', IsRd wr rb (.slice (some ⟨pb, 0, none⟩) np cp) (.slice go ng cg) wide p' a' g' t' ∧ Pos L G np p' a' g' k ∧ (t = 0 → t' = 0) ∧ (np = 1 → a' = a ∧ g' = g ∧ t' = t) ∧ Kept [rb] w wr) (fun wr => np - partOf wr rb)
  case atStart => exact ⟨p, a, g, t, H0.out.2.1, H0.out.2.2, fun h => h, fun _ => ⟨rfl, rfl, rfl⟩, .refl _ _⟩
  case round =>
    obtain ⟨p', a', g', t', r1, r2, r3, r4, r5⟩ := hrel
    have HF : Hid (FormMem wr pb np go gb ng va cv L G) := H0.out.1.kept r5 (by simpa using h1) (by simpa using h2)
    have HR : Hid (IsRd wr rb (.slice (some ⟨pb, 0, none⟩) np cp) (.slice go ng cg) wide p' a' g' t' ∧ Pos L G np p' a' g' k ∧ (t = 0 → t' = 0) ∧ (np = 1 → a' = a ∧ g' = g ∧ t' = t) ∧ Kept [rb] w wr) := ⟨r1, r2, r3, r4, r5⟩
    obtain ⟨c0, c1, c3, c4, c5, c6⟩ := r1.cells
    have hp' : p' < np := r2.1
    have ha' : a' ≤ L p' := r2.2.1
    have q0 := HF.out.parts p' hp'
    have s0 := (HF.out.small p').1
    obtain ⟨l, hl⟩ : ∃ l, L p' = l := ⟨_, rfl⟩
    rw [hl] at q0 ha' s0
    have HL : Hid (L p' = l) := hl
    have hag : g' < 2 ^ 40 := by
      rcases r2.2.2.1 with h | ⟨_, _, h⟩
      · omega
      · have := (HF.out.small (p' - 1)).2; omega
    clear r1 r2 r3 r4 r5 hl
    have b1 : (0 : Int) ≤ (p' : Int) := by omega
    have b2 : (p' : Int) < (np : Int) := by omega
    by_cases hg : g' = 0
    · by_cases ha : a' = l
      · subst hg ha
        have d1 : (((0 : Nat) : Int) == 0) = true := rfl
        have d2 : ((a' : Int) == (a' : Int)) = true := by simp
        by_cases hlast : p' + 1 = np
        · have d3 : ((p' : Int) == (np : Int) - 1) = true := by rw [beq_iff_eq]; omega
          go_wp2_with fail
          go_quiet (fail)
          go_wp2_with fail
          go_quiet (fail)
          go_wp2
          go_returns
          obtain ⟨r1, r2, r3, r4, r5⟩ := HR.out
          exact ⟨(r5.drewN _).drewN _, p', a', 0, t', (r1.drewN _).drewN _, r2, r3, r4, .inl ⟨rfl, hlast, HL.out.symm, rfl⟩⟩
        · have d3 : ((p' : Int) == (np : Int) - 1) = false := by rw [beq_eq_false_iff_ne]; omega
          obtain ⟨e1, e2, e3, e4⟩ := HF.out.gaps p' (by omega)
          subst e1
          obtain ⟨x, hx⟩ : ∃ x, G p' = x := ⟨_, rfl⟩
          rw [hx] at e3 e4
          have HX : Hid (G p' = x) := hx
          clear hx
          have b3 : (p' : Int) < (ng : Int) := by omega
          have f3 := HR.out.1.frozen 3
          have f4 := HR.out.1.frozen 4
          have f5 := HR.out.1.frozen 5
          have f6 := HR.out.1.frozen 6
          have d4 : ((x : Int) == (x : Int)) = true := by simp
          go_wp2_with fail
          go_quiet (fail)
          go_wp2_with fail
          go_quiet (fail)
          go_wp2_with fail
          go_big_region
          go_wp2
          obtain ⟨r1, r2, r3, r4, r5⟩ := HR.out
          rw [← HL.out] at r2
          have z1 := fun n => ((((r1.drewN n).setGap x).setPart (p' + 1)).setAt 0).setAlt 0
          rw [show (((p' + 1 : Nat)) : Int) = (p' : Int) + 1 from by omega, show (((0 : Nat)) : Int) = 0 from rfl] at z1
          refine ⟨⟨p' + 1, 0, x, 0, z1 _, ?_, fun _ => rfl, fun h => by omega, ?_⟩, ?_⟩
          · rw [← HX.out]; exact r2.next (by omega)
          · exact ((((r5.drewN _).setCell (.inl (by simp)) _).setCell (.inl (by simp)) _).setCell (.inl (by simp)) _).setCell (.inl (by simp)) _
          · rw [(z1 _).partOf, r1.partOf]; omega
      · have d1 : ((g' : Int) == 0) = true := by rw [hg]; rfl
        have d2 : ((a' : Int) == (l : Int)) = false := by rw [beq_eq_false_iff_ne]; omega
        go_wp2_with fail
        go_quiet (fail)
        go_wp2
        subst hg
        go_returns
        obtain ⟨r1, r2, r3, r4, r5⟩ := HR.out
        exact ⟨r5.drewN _, p', a', 0, t', r1.drewN _, r2, r3, r4, .inr ⟨rfl, .inr (by rw [HL.out]; omega)⟩⟩
    · have d1 : ((g' : Int) == 0) = false := by rw [beq_eq_false_iff_ne]; omega
      go_wp2_with fail
      go_quiet (fail)
      go_wp2
      go_returns
      obtain ⟨r1, r2, r3, r4, r5⟩ := HR.out
      exact ⟨r5.drewN _, p', a', g', t', r1.drewN _, r2, r3, r4, .inr ⟨rfl, .inl (by omega)⟩⟩
end Go.Proofs.YbulkoqcDoor
