/- The reader's next byte, over parts without alternates. Own work over this program's translation. -/
import Derived.Test.YbulkoqcDoorGap
import Derived.Deep.RegionHeld3
namespace Go.Proofs.YbulkoqcDoor
open Go.RowKit
set_option linter.unusedVariables false

/-- The parts' values and masks, and that they have no alternates. -/
structure PartMem (w : World) (pb np : Nat) (va ma : Nat → Option Addr) (cm L : Nat → Nat) (vb mb : Nat → Nat) (V M : Nat → Nat → Nat) : Prop where
  mask : ∀ i, i < np → w.cell? ⟨pb, i * 3 + 1, none⟩ = some (.slice (ma i) (L i) (cm i))
  alts : ∀ i, i < np → w.cell? ⟨pb, i * 3 + 2, none⟩ = some (.slice none 0 0)
  row : ∀ i, i < np → ∀ j, j < L i → va i = some ⟨vb i, 0, none⟩ ∧ ma i = some ⟨mb i, 0, none⟩ ∧ vb i < w.heap.size ∧ mb i < w.heap.size ∧ w.cell? ⟨vb i, j, none⟩ = some (.int .u8 (V i j)) ∧ w.cell? ⟨mb i, j, none⟩ = some (.int .u8 (M i j)) ∧ V i j < 256 ∧ M i j < 256 ∧ V i j &&& M i j = V i j
  pbl : pb < w.heap.size

theorem PartMem.kept {S : List Nat} {w w' : World} {pb np : Nat} {va ma : Nat → Option Addr} {cm L : Nat → Nat} {vb mb : Nat → Nat} {V M : Nat → Nat → Nat} (h : PartMem w pb np va ma cm L vb mb V M) (k : Kept S w w') (h1 : pb ∉ S) (h2 : ∀ i, i < np → 0 < L i → vb i ∉ S ∧ mb i ∉ S) : PartMem w' pb np va ma cm L vb mb V M :=
  ⟨fun i hi => (k.cell (p := ⟨pb, i * 3 + 1, none⟩) h.pbl h1).trans (h.mask i hi), fun i hi => (k.cell (p := ⟨pb, i * 3 + 2, none⟩) h.pbl h1).trans (h.alts i hi), fun i hi j hj => by
    obtain ⟨a, b, c, d, e, f, g⟩ := h.row i hi j hj
    obtain ⟨q1, q2⟩ := h2 i hi (by omega)
    exact ⟨a, b, Nat.lt_of_lt_of_le c k.size, Nat.lt_of_lt_of_le d k.size, (k.cell (p := ⟨vb i, j, none⟩) c q1).trans e, (k.cell (p := ⟨mb i, j, none⟩) d q2).trans f, g⟩, Nat.lt_of_lt_of_le h.pbl k.size⟩

/-- How many bytes the form has. -/
def total (L G : Nat → Nat) (np : Nat) : Nat := start L G (np - 1) + L (np - 1)

theorem start_le {L G : Nat → Nat} {i j : Nat} (h : i ≤ j) : start L G i ≤ start L G j := by
  induction h with
  | refl => exact Nat.le_refl _
  | step h ih => show _ ≤ start L G _ + L _ + G _; omega
theorem start_total {L G : Nat → Nat} {i np : Nat} (h : i < np) : start L G i + L i ≤ total L G np := by
  unfold total
  by_cases hi : i = np - 1
  · subst hi; exact Nat.le_refl _
  · have : start L G (i + 1) ≤ start L G (np - 1) := start_le (by omega)
    have e : start L G (i + 1) = start L G i + L i + G i := rfl
    omega
theorem Pos.le {L G : Nat → Nat} {np p a g k : Nat} (h : Pos L G np p a g k) : k ≤ total L G np := by
  have := start_total (L := L) (G := G) h.1
  have := h.2.1
  have := h.2.2.2
  omega
theorem Pos.lt_gap {L G : Nat → Nat} {np p a g k : Nat} (h : Pos L G np p a g k) (hg : 0 < g) : k < total L G np ∧ ∃ i j, i + 1 < np ∧ j < G i ∧ k = start L G i + L i + j := by
  obtain ⟨h1, h2, h3, h4⟩ := h
  rcases h3 with h3 | ⟨hp, rfl, hG⟩
  · omega
  · obtain ⟨i, rfl⟩ : ∃ i, p = i + 1 := ⟨p - 1, by omega⟩
    have e : start L G (i + 1) = start L G i + L i + G i := rfl
    have := start_total (L := L) (G := G) h1
    simp only [Nat.add_sub_cancel] at hG
    exact ⟨by omega, i, G i - g, h1, by omega, by omega⟩
theorem Pos.lt_at {L G : Nat → Nat} {np p a k : Nat} (h : Pos L G np p a 0 k) (ha : a < L p) : k < total L G np ∧ k = start L G p + a := by
  have := start_total (L := L) (G := G) h.1
  have := h.2.2.2
  omega
theorem Pos.end_eq {L G : Nat → Nat} {np p k : Nat} (h : Pos L G np p (L p) 0 k) (hp : p + 1 = np) : k = total L G np := by
  have := h.2.2.2
  unfold total
  rw [← hp]
  simp only [Nat.add_sub_cancel]
  omega

theorem Kept.widen {S T : List Nat} {w w' : World} (h : Kept S w w') (hT : ∀ x ∈ S, x ∈ T) : Kept T w w' :=
  ⟨h.os, h.tape, h.output, h.size, fun k hk hS => h.block k hk (fun hm => hS (hT k hm))⟩

set_option maxRecDepth 100000 in
set_option maxHeartbeats 1000000 in
theorem next_plain (w : World) (rb sb pb np cp : Nat) (go : Option Addr) (gb ng cg : Nat) (wide : Value) (va ma : Nat → Option Addr) (cv cm L G vb mb : Nat → Nat) (V M : Nat → Nat → Nat) (P : Nat → Bool) (p a g k : Nat)
    (hnp : np < 2 ^ 40) (hR : IsRd w rb (.slice (some ⟨pb, 0, none⟩) np cp) (.slice go ng cg) wide p a g 0)
    (hF : FormMem w pb np go gb ng va cv L G) (hM : PartMem w pb np va ma cm L vb mb V M) (hP : Pos L G np p a g k) (hs : IsSet w sb P) (hV : FullVar w) (h1l : 1 < w.heap.size)
    (hd : pb ≠ rb ∧ gb ≠ rb ∧ sb ≠ rb ∧ 1 ≠ rb ∧ pb ≠ sb ∧ gb ≠ sb) (hd2 : ∀ i, i < np → 0 < L i → vb i ≠ rb ∧ mb i ≠ rb ∧ vb i ≠ sb ∧ mb i ≠ sb) :
    Calls Ybad.prog 9 #[.pointer (some ⟨rb, 0, none⟩), .pointer (some ⟨sb, 0, none⟩)] w fun e w' => Kept [rb, sb] w w' ∧ ∃ p' a' g', IsRd w' rb (.slice (some ⟨pb, 0, none⟩) np cp) (.slice go ng cg) wide p' a' g' 0
      ∧ ((e = .returned (.bool false) ∧ k = total L G np ∧ IsSet w' sb P)
        ∨ (e = .returned (.bool true) ∧ k < total L G np ∧ Pos L G np p' a' g' (k + 1) ∧ ∃ Q, IsSet w' sb (fun b => P b || Q b) ∧ ((∃ i j, i + 1 < np ∧ j < G i ∧ k = start L G i + L i + j ∧ Q = fun _ => true) ∨ (∃ i j, i < np ∧ j < L i ∧ k = start L G i + j ∧ Q = mt (V i j) (M i j))))) := by
  obtain ⟨n1, n2, n3, n4, n5, n6⟩ := hd
  have H0 : Hid (FormMem w pb np go gb ng va cv L G ∧ PartMem w pb np va ma cm L vb mb V M ∧ IsRd w rb (.slice (some ⟨pb, 0, none⟩) np cp) (.slice go ng cg) wide p a g 0 ∧ Pos L G np p a g k ∧ IsSet w sb P ∧ FullVar w ∧ 1 < w.heap.size ∧ ∀ i, i < np → 0 < L i → vb i ≠ rb ∧ mb i ≠ rb ∧ vb i ≠ sb ∧ mb i ≠ sb) := ⟨hF, hM, hR, hP, hs, hV, h1l, hd2⟩
  clear hF hM hR hP hs hV hd2 h1l
  go_enter Ybad.func9, Ybad.ntmps9
  go_wp2_with fail
  refine (gapBytes_any _ rb pb np cp go gb ng cg wide va cv L G p a g 0 k hnp H0.out.2.2.1 H0.out.1 H0.out.2.2.2.1 n1 n2).mono ?_
  rintro e w1 ⟨hk1, p', a', g', t', r1, r2, r3, r4, r5⟩
  obtain rfl : t' = 0 := r3 rfl
  have HK : Hid (Kept [rb] w w1) := hk1
  have HR : Hid (IsRd w1 rb (.slice (some ⟨pb, 0, none⟩) np cp) (.slice go ng cg) wide p' a' g' 0 ∧ Pos L G np p' a' g' k) := ⟨r1, r2⟩
  have HS0 : Hid (IsSet w1 sb P) := H0.out.2.2.2.2.1.kept hk1 (by simpa using n3)
  have HS : Hid (∀ v, IsSet (w1.setCell ⟨rb, 5, none⟩ v) sb P) := fun v => (Below.heap_setCell _ _ _ _ (by show sb ≠ rb; exact n3)).trans HS0.out
  have HV : Hid (∀ v, FullVar (w1.setCell ⟨rb, 5, none⟩ v)) := fun v => H0.out.2.2.2.2.2.1.kept (hk1.setCell (.inl (by simp)) v) H0.out.2.2.2.2.2.2.1 (by simpa using n4)
  obtain ⟨c0, c1, c3, c4, c5, c6⟩ := r1.cells
  have f5 := r1.frozen 5
  have hg40 : g' < 2 ^ 40 := by
    rcases r2.2.2.1 with h | ⟨_, _, h⟩
    · omega
    · have := (H0.out.1.small (p' - 1)).2; omega
  have hp' : p' < np := r2.1
  clear hk1 r1 r2 r3 r4
  rcases r5 with ⟨rfl, q1, q2, q3⟩ | ⟨rfl, q1⟩
  · go_wp2
    go_returns
    obtain ⟨r1, r2⟩ := HR.out
    subst q2 q3
    exact ⟨HK.out.widen (by simp), p', _, _, r1, .inl ⟨rfl, r2.end_eq q1, HS0.out⟩⟩
  · by_cases q2 : 0 < g'
    · have q3 : ¬ ((g' : Int) < 0) := by omega
      have q4 : (0 : Int) < (g' : Int) := by omega
      go_wp2_with (go_at_call 20; refine (addMasked_any P sb 0 0 _ (by omega) (by omega) rfl (HS.out _) (HV.out _)).mono ?_; rintro e w2 ⟨rfl, s1, s2⟩)
      go_returns
      obtain ⟨r1, r2⟩ := HR.out
      obtain ⟨y, rfl⟩ : ∃ y, g' = y + 1 := ⟨g' - 1, by omega⟩
      rw [show (((y + 1 : Nat)) : Int) - 1 = (y : Int) from by omega] at s2
      obtain ⟨z1, i, j, z2, z3, z4⟩ := r2.lt_gap q2
      refine ⟨(HK.out.setCell (p := ⟨rb, 5, none⟩) (.inl (by simp)) _).widen (T := [rb, sb]) (by simp) |>.trans s2 (by simp), p', a', y, (r1.setGap y).kept s2 (by simpa using fun h => n3 h.symm), .inr ⟨rfl, z1, ?_, _, s1, .inl ⟨i, j, z2, z3, z4, ?_⟩⟩⟩
      · obtain ⟨y1, y2, y3, y4⟩ := r2
        refine ⟨y1, y2, ?_, by omega⟩
        rcases y3 with h | ⟨h1, h2, h3⟩
        · omega
        · exact .inr ⟨h1, h2, by omega⟩
      · funext b; exact mt_zero b
    · have q3 : g' = 0 := by omega
      subst q3
      have ha : a' < L p' := by omega
      have HF : Hid (FormMem w1 pb np go gb ng va cv L G) := H0.out.1.kept HK.out (by simpa using n1) (by simpa using n2)
      have HM : Hid (PartMem w1 pb np va ma cm L vb mb V M) := H0.out.2.1.kept HK.out (by simpa using n1) (fun i hi hl => by have := H0.out.2.2.2.2.2.2.2 i hi hl; simpa using ⟨this.1, this.2.1⟩)
      have m0 := HF.out.parts p' hp'
      have m1 := HM.out.mask p' hp'
      have m2 := HM.out.alts p' hp'
      obtain ⟨e1, e2, e3, e4, e5, e6, e7, e8, e9⟩ := HM.out.row p' hp' a' ha
      have hsm := (HF.out.small p').1
      rw [e1] at m0
      rw [e2] at m1
      have HA : Hid (a' < L p') := ha
      have b1 : (0 : Int) ≤ (p' : Int) := by omega
      have b2 : (p' : Int) < (np : Int) := by omega
      have b3 : (0 : Int) ≤ (a' : Int) := by omega
      have f4 := HR.out.1.frozen 4
      have HE : Hid (V p' a' &&& M p' a' = V p' a') := e9
      clear e1 e2 e9
      go_wp2_with fail
      go_quiet (fail)
      go_wp2_with fail
      obtain ⟨wx, hx⟩ : ∃ wx, (w1.drewN nq).setCell ⟨rb, 4, none⟩ (.int .i64 ((a' : Int) + 1)) = wx := ⟨_, rfl⟩
      rw [hx]
      have K1 : Kept [rb] w1 wx := by rw [← hx]; exact ((Kept.refl _ _).drewN _).setCell (.inl (by simp)) _
      have R1 : IsRd wx rb (.slice (some ⟨pb, 0, none⟩) np cp) (.slice go ng cg) wide p' (a' + 1) 0 0 := by
        have := (HR.out.1.drewN nq).setAt (a' + 1)
        rw [show (((a' + 1 : Nat)) : Int) = (a' : Int) + 1 from by omega, hx] at this
        exact this
      have nl := H0.out.2.2.2.2.2.2.2 p' hp' (by omega)
      have M1 := HM.out.kept K1 (by simpa using n1) (fun i hi hl => by have := H0.out.2.2.2.2.2.2.2 i hi hl; simpa using ⟨this.1, this.2.1⟩)
      have F1 := HF.out.kept K1 (by simpa using n1) (by simpa using n2)
      have S1 : Hid (IsSet wx sb P) := HS0.out.kept K1 (by simpa using n3)
      have V1 : Hid (FullVar wx) := (H0.out.2.2.2.2.2.1.kept HK.out H0.out.2.2.2.2.2.2.1 (by simpa using n4)).kept K1 (Nat.lt_of_lt_of_le H0.out.2.2.2.2.2.2.1 HK.out.size) (by simpa using n4)
      have HKx : Hid (Kept [rb] w wx ∧ IsRd wx rb (.slice (some ⟨pb, 0, none⟩) np cp) (.slice go ng cg) wide p' (a' + 1) 0 0) := ⟨HK.out.trans K1 (by simp), R1⟩
      have x0 := (K1.cell (p := ⟨pb, p' * 3, none⟩) HM.out.pbl (by simpa using n1)).trans m0
      have x1 := (K1.cell (p := ⟨pb, p' * 3 + 1, none⟩) HM.out.pbl (by simpa using n1)).trans m1
      have x2 := (K1.cell (p := ⟨pb, p' * 3 + 2, none⟩) HM.out.pbl (by simpa using n1)).trans m2
      have x3 := (K1.cell (p := ⟨vb p', a', none⟩) e3 (by simpa using nl.1)).trans e5
      have x4 := (K1.cell (p := ⟨mb p', a', none⟩) e4 (by simpa using nl.2.1)).trans e6
      obtain ⟨_, _, _, _, _, y6⟩ := R1.cells
      have l1 : vb p' < wx.heap.size := Nat.lt_of_lt_of_le e3 K1.size
      have l2 : mb p' < wx.heap.size := Nat.lt_of_lt_of_le e4 K1.size
      have l3 : pb < wx.heap.size := Nat.lt_of_lt_of_le HM.out.pbl K1.size
      have NL : Hid (vb p' ≠ sb ∧ mb p' ≠ sb) := ⟨nl.2.2.1, nl.2.2.2⟩
      obtain ⟨v, hv⟩ : ∃ v, V p' a' = v := ⟨_, rfl⟩
      obtain ⟨m, hm⟩ : ∃ m, M p' a' = m := ⟨_, rfl⟩
      obtain ⟨l, hl⟩ : ∃ l, L p' = l := ⟨_, rfl⟩
      obtain ⟨bv, hbv⟩ : ∃ bv, vb p' = bv := ⟨_, rfl⟩
      obtain ⟨bm, hbm⟩ : ∃ bm, mb p' = bm := ⟨_, rfl⟩
      rw [hv] at x3 e7; rw [hm] at x4 e8; rw [hl] at x0 x1 hsm ha; rw [hbv] at x0 x3 l1; rw [hbm] at x1 x4 l2
      have HN : Hid (V p' a' = v ∧ M p' a' = m ∧ L p' = l ∧ vb p' = bv ∧ mb p' = bm) := ⟨hv, hm, hl, hbv, hbm⟩
      have b4 : (a' : Int) < (l : Int) := by omega
      clear hx K1 R1 nl M1 F1 m0 m1 m2 e3 e4 e5 e6 c0 c1 c3 c4 c5 c6 f4 f5 hv hm hl hbv hbm HS HV HF HM q1 q2 hg40
      go_loopw [] (fun wr => ∃ n, wr = wx.drewN n) (fun _ => 0)
      case atStart => exact ⟨0, rfl⟩
      case round =>
        obtain ⟨n, rfl⟩ := hrel
        go_wp2_with fail
        go_quiet (fail)
        go_wp2_with fail
        go_quiet (fail)
        go_wp2_with fail
        have HVM : Hid (v &&& m = v) := by have h := HE.out; rw [HN.out.1, HN.out.2.1] at h; exact h
        have nn : Hid (pb ∉ [sb] ∧ bv ∉ [sb] ∧ bm ∉ [sb]) := by
          have h := NL.out; rw [HN.out.2.2.2.1, HN.out.2.2.2.2] at h
          exact ⟨by simpa using n5, by simpa using h.1, by simpa using h.2⟩
        go_region_held3 (fun w' => w'.cell? ⟨pb, p' * 3, none⟩ = some (.slice (some ⟨bv, 0, none⟩) l (cv p')) ∧ w'.cell? ⟨pb, p' * 3 + 1, none⟩ = some (.slice (some ⟨bm, 0, none⟩) l (cm p')) ∧ w'.cell? ⟨bv, a', none⟩ = some (.int .u8 v) ∧ w'.cell? ⟨bm, a', none⟩ = some (.int .u8 m))
          (first | exact ⟨(s2.cell (p := ⟨pb, p' * 3, none⟩) l3 nn.out.1).trans x0, (s2.cell (p := ⟨pb, p' * 3 + 1, none⟩) l3 nn.out.1).trans x1, (s2.cell (p := ⟨bv, a', none⟩) l1 nn.out.2.1).trans x3, (s2.cell (p := ⟨bm, a', none⟩) l2 nn.out.2.2).trans x4⟩ | exact ⟨x0, x1, x3, x4⟩ | go_keep)
          (first | (go_at_call 20; refine (addMasked_any P sb v m _ e7 e8 HVM.out (by exact S1.out) (by exact V1.out)).mono ?_; rintro e w2 ⟨rfl, s1, s2⟩))
        go_wp2
        go_returns
        obtain ⟨r1, r2⟩ := HR.out
        obtain ⟨z1, z2⟩ := r2.lt_at HA.out
        refine ⟨((HKx.out.1.drewN _).widen (T := [rb, sb]) (by simp)).trans s2 (by simp), p', a' + 1, 0, (HKx.out.2.drewN _).kept s2 (by simpa using fun h => n3 h.symm), .inr ⟨rfl, z1, ?_, _, s1, .inr ⟨p', a', hp', HA.out, z2, ?_⟩⟩⟩
        · obtain ⟨y1, y2, y3, y4⟩ := r2
          have := HA.out
          exact ⟨y1, by omega, .inl rfl, by omega⟩
        · rw [HN.out.1, HN.out.2.1]
end Go.Proofs.YbulkoqcDoor
