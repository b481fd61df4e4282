/- The reader's next byte, over one part with one alternate. Own work over this program's translation. -/
import Derived.Test.YbulkoqcDoorRowsOf
import Derived.Test.YbulkoqcDoorUnion
namespace Go.Proofs.YbulkoqcDoor
open Go.RowKit
set_option linter.unusedVariables false

/-- One part with one alternate, in memory. -/
structure AltMem (w : World) (pb cv cm vb mb L ab ca at' mmb cnt cmm ml : Nat) (neg nc : Bool) (xb cx : Nat → Nat) (V M : Nat → Nat) (X : Nat → Nat → Nat) : Prop where
  p0 : w.cell? ⟨pb, 0, none⟩ = some (.slice (some ⟨vb, 0, none⟩) L cv)
  p1 : w.cell? ⟨pb, 1, none⟩ = some (.slice (some ⟨mb, 0, none⟩) L cm)
  p2 : w.cell? ⟨pb, 2, none⟩ = some (.slice (some ⟨ab, 0, none⟩) 1 ca)
  a0 : w.cell? ⟨ab, 0, none⟩ = some (.int .i64 at')
  a1 : w.cell? ⟨ab, 1, none⟩ = some (.slice (some ⟨mmb, 0, none⟩) cnt cmm)
  a2 : w.cell? ⟨ab, 2, none⟩ = some (.bool neg)
  a3 : w.cell? ⟨ab, 3, none⟩ = some (.bool nc)
  m : ∀ j, j < cnt → w.cell? ⟨mmb, j, none⟩ = some (.slice (some ⟨xb j, 0, none⟩) ml (cx j)) ∧ xb j < w.heap.size
  x : ∀ j, j < cnt → ∀ i, i < ml → w.cell? ⟨xb j, i, none⟩ = some (.int .u8 (X j i)) ∧ X j i < 256
  v : ∀ k, k < L → w.cell? ⟨vb, k, none⟩ = some (.int .u8 (V k)) ∧ w.cell? ⟨mb, k, none⟩ = some (.int .u8 (M k)) ∧ V k < 256 ∧ M k < 256 ∧ V k &&& M k = V k
  lt : pb < w.heap.size ∧ vb < w.heap.size ∧ mb < w.heap.size ∧ ab < w.heap.size ∧ mmb < w.heap.size
  num : L < 2 ^ 40 ∧ at' + ml ≤ L ∧ 0 < cnt ∧ cnt ≤ 3 ∧ 0 < ml ∧ ml ≤ 4

/-- Blocks that the alternate's part lies in. -/
def AltBlocks (pb vb mb ab mmb cnt : Nat) (xb : Nat → Nat) (b : Nat) : Prop := b = pb ∨ b = vb ∨ b = mb ∨ b = ab ∨ b = mmb ∨ ∃ j, j < cnt ∧ b = xb j

theorem AltMem.kept {S : List Nat} {w w' : World} {pb cv cm vb mb L ab ca at' mmb cnt cmm ml : Nat} {neg nc : Bool} {xb cx : Nat → Nat} {V M : Nat → Nat} {X : Nat → Nat → Nat} (h : AltMem w pb cv cm vb mb L ab ca at' mmb cnt cmm ml neg nc xb cx V M X) (k : Kept S w w')
    (hS : ∀ b, AltBlocks pb vb mb ab mmb cnt xb b → b ∉ S) : AltMem w' pb cv cm vb mb L ab ca at' mmb cnt cmm ml neg nc xb cx V M X := by
  obtain ⟨l1, l2, l3, l4, l5⟩ := h.lt
  have s1 := hS pb (.inl rfl)
  have s2 := hS vb (.inr (.inl rfl))
  have s3 := hS mb (.inr (.inr (.inl rfl)))
  have s4 := hS ab (.inr (.inr (.inr (.inl rfl))))
  have s5 := hS mmb (.inr (.inr (.inr (.inr (.inl rfl)))))
  have sz := k.size
  exact ⟨(k.cell (p := ⟨pb, 0, none⟩) l1 s1).trans h.p0, (k.cell (p := ⟨pb, 1, none⟩) l1 s1).trans h.p1, (k.cell (p := ⟨pb, 2, none⟩) l1 s1).trans h.p2,
    (k.cell (p := ⟨ab, 0, none⟩) l4 s4).trans h.a0, (k.cell (p := ⟨ab, 1, none⟩) l4 s4).trans h.a1, (k.cell (p := ⟨ab, 2, none⟩) l4 s4).trans h.a2, (k.cell (p := ⟨ab, 3, none⟩) l4 s4).trans h.a3,
    fun j hj => ⟨(k.cell (p := ⟨mmb, j, none⟩) l5 s5).trans (h.m j hj).1, Nat.lt_of_lt_of_le (h.m j hj).2 sz⟩,
    fun j hj i hi => ⟨(k.cell (p := ⟨xb j, i, none⟩) (h.m j hj).2 (hS _ (.inr (.inr (.inr (.inr (.inr ⟨j, hj, rfl⟩))))))).trans (h.x j hj i hi).1, (h.x j hj i hi).2⟩,
    fun i hi => ⟨(k.cell (p := ⟨vb, i, none⟩) l2 s2).trans (h.v i hi).1, (k.cell (p := ⟨mb, i, none⟩) l3 s3).trans (h.v i hi).2.1, (h.v i hi).2.2⟩,
    ⟨by omega, by omega, by omega, by omega, by omega⟩, h.num⟩

/-- The members' bytes at one place, the first c members. -/
def memS (X : Nat → Nat → Nat) (nc : Bool) (i : Nat) : Nat → Nat → Bool
  | 0, _ => false
  | c + 1, b => (memS X nc i c b || b == X c i) || (nc && (letter (X c i) && b == X c i ^^^ 32))
/-- What an alternate's byte may be. -/
def memItem (X : Nat → Nat → Nat) (nc neg : Bool) (cnt ml i : Nat) (b : Nat) : Bool :=
  if neg then (if ml = 1 then !memS X nc i cnt b else true) else memS X nc i cnt b
/-- What byte k of the part may be. -/
def altItem (V M : Nat → Nat) (X : Nat → Nat → Nat) (nc neg : Bool) (cnt ml at' k : Nat) : Nat → Bool :=
  if at' ≤ k ∧ k < at' + ml then memItem X nc neg cnt ml (k - at') else mt (V k) (M k)

def altOf (w : World) (rb : Nat) : Nat := match w.cell? ⟨rb, 6, none⟩ with | some v => (intOf v).toNat | none => 0
theorem IsRd.altOf {w : World} {rb : Nat} {ps gs wide : Value} {p a g t : Nat} (h : IsRd w rb ps gs wide p a g t) : altOf w rb = t := by
  simp only [YbulkoqcDoor.altOf, h.cells.2.2.2.2.2, intOf]; omega

theorem forgetW {A : World → Prop} {B : World → Prop} {w : World} (hA : A w) (h : ∀ w', A w' → B w') : B w := h w hA
theorem and_byte : ∀ m, m < 256 → m &&& 255 = m := by decide +kernel
theorem xor_byte : ∀ m, m < 256 → m ^^^ 32 < 256 := by decide +kernel
theorem keptOf {w w' : World} (h : Below w.heap.size w w') : Kept [] w w' := ⟨h.os, h.tape, h.output, h.size, fun k hk _ => h.block k hk⟩
theorem AltMem.blocks {w : World} {pb cv cm vb mb L ab ca at' mmb cnt cmm ml : Nat} {neg nc : Bool} {xb cx : Nat → Nat} {V M : Nat → Nat} {X : Nat → Nat → Nat} (h : AltMem w pb cv cm vb mb L ab ca at' mmb cnt cmm ml neg nc xb cx V M X) (b : Nat) (hb : AltBlocks pb vb mb ab mmb cnt xb b) : b < w.heap.size := by
  obtain ⟨l1, l2, l3, l4, l5⟩ := h.lt
  rcases hb with rfl | rfl | rfl | rfl | rfl | ⟨j, hj, rfl⟩
  · exact l1
  · exact l2
  · exact l3
  · exact l4
  · exact l5
  · exact (h.m j hj).2

set_option maxRecDepth 100000 in
set_option maxHeartbeats 4000000 in
theorem next_alt (w : World) (rb sb pb cp cg : Nat) (wide : Value) (cv cm vb mb L ab ca at' mmb cnt cmm ml : Nat) (neg nc : Bool) (xb cx : Nat → Nat) (V M : Nat → Nat) (X : Nat → Nat → Nat) (P : Nat → Bool) (k t : Nat)
    (hR : IsRd w rb (.slice (some ⟨pb, 0, none⟩) 1 cp) (.slice none 0 cg) wide 0 k 0 t) (hA : AltMem w pb cv cm vb mb L ab ca at' mmb cnt cmm ml neg nc xb cx V M X)
    (hk : k ≤ L) (ht : t = 0 ∨ (t = 1 ∧ at' + ml ≤ k)) (hs : IsSet w sb P) (hV : FullVar w) (h1l : 1 < w.heap.size) (hd : sb ≠ rb ∧ 1 ≠ rb ∧ 1 ≠ sb) (hd2 : ∀ b, AltBlocks pb vb mb ab mmb cnt xb b → b ≠ rb ∧ b ≠ sb) :
    Calls Ybad.prog 9 #[.pointer (some ⟨rb, 0, none⟩), .pointer (some ⟨sb, 0, none⟩)] w fun e w' => Kept [rb, sb] w w' ∧ ∃ k' t', IsRd w' rb (.slice (some ⟨pb, 0, none⟩) 1 cp) (.slice none 0 cg) wide 0 k' 0 t' ∧ (t' = 0 ∨ (t' = 1 ∧ at' + ml ≤ k'))
      ∧ ((e = .returned (.bool false) ∧ k = L ∧ IsSet w' sb P) ∨ (e = .returned (.bool true) ∧ k < L ∧ k' = k + 1 ∧ IsSet w' sb (fun b => P b || altItem V M X nc neg cnt ml at' k b))) := by
  obtain ⟨n1, n2, n3⟩ := hd
  have npr : pb ≠ rb := (hd2 pb (.inl rfl)).1
  have H0 : Hid (AltMem w pb cv cm vb mb L ab ca at' mmb cnt cmm ml neg nc xb cx V M X ∧ IsRd w rb (.slice (some ⟨pb, 0, none⟩) 1 cp) (.slice none 0 cg) wide 0 k 0 t ∧ IsSet w sb P ∧ FullVar w ∧ 1 < w.heap.size ∧ (∀ b, AltBlocks pb vb mb ab mmb cnt xb b → b ≠ rb ∧ b ≠ sb) ∧ (t = 0 ∨ (t = 1 ∧ at' + ml ≤ k))) := ⟨hA, hR, hs, hV, h1l, hd2, ht⟩
  have hnum := hA.num
  clear hA hR hs hV h1l hd2 ht
  go_enter Ybad.func9, Ybad.ntmps9
  go_wp2_with fail
  refine (gapBytes_any _ rb pb 1 cp none sb 0 cg wide (fun _ => some ⟨vb, 0, none⟩) (fun _ => cv) (fun _ => L) (fun _ => 0) 0 k 0 t k (by omega) H0.out.2.1 ⟨fun i hi => by rw [show i = 0 by omega]; exact H0.out.1.p0, fun i hi => by omega, fun i => ⟨by omega, by omega⟩, H0.out.1.lt.1, fun h => by omega⟩ ⟨by omega, hk, .inl rfl, by show 0 + k = k + 0; omega⟩ npr n1).mono ?_
  rintro e w1 ⟨hk1, p', a', g', t', r1, r2, r3, r4, r5⟩
  obtain ⟨rfl, rfl, rfl⟩ := r4 rfl
  obtain rfl : p' = 0 := by have := r2.1; omega
  have HK : Hid (Kept [rb] w w1) := hk1
  have HR : Hid (IsRd w1 rb (.slice (some ⟨pb, 0, none⟩) 1 cp) (.slice none 0 cg) wide 0 a' 0 t') := r1
  have HS0 : Hid (IsSet w1 sb P) := H0.out.2.2.1.kept hk1 (by simpa using n1)
  have HM : Hid (AltMem w1 pb cv cm vb mb L ab ca at' mmb cnt cmm ml neg nc xb cx V M X) := H0.out.1.kept hk1 (fun b hb => by have := (H0.out.2.2.2.2.2.1 b hb).1; simpa using this)
  obtain ⟨c0, c1, c3, c4, c5, c6⟩ := r1.cells
  clear hk1 r1 r2 r3 r4
  rcases r5 with ⟨rfl, q1, q2, q3⟩ | ⟨rfl, q1⟩
  · go_wp2
    go_returns
    exact ⟨HK.out.widen (by simp), a', t', HR.out, H0.out.2.2.2.2.2.2, .inl ⟨rfl, q2, HS0.out⟩⟩
  · have ha : a' < L := by omega
    have f4 := HR.out.frozen 4
    have m0 := HM.out.p0
    have m1 := HM.out.p1
    have m2 := HM.out.p2
    have b3 : (0 : Int) ≤ (a' : Int) := by omega
    have g0 : ¬ (((0 : Nat) : Int) < 0) := by omega
    go_wp2_with fail
    go_quiet (fail)
    go_wp2_with fail
    obtain ⟨wx, hx⟩ : ∃ wx, (w1.drewN nq).setCell ⟨rb, 4, none⟩ (.int .i64 ((a' : Int) + 1)) = wx := ⟨_, rfl⟩
    rw [hx]
    have HX : Hid (Kept [rb] w wx ∧ IsRd wx rb (.slice (some ⟨pb, 0, none⟩) 1 cp) (.slice none 0 cg) wide 0 (a' + 1) 0 t') := by
      refine ⟨HK.out.trans (by rw [← hx]; exact ((Kept.refl [rb] w1).drewN _).setCell (.inl (by simp)) _) (by simp), ?_⟩
      have := (HR.out.drewN nq).setAt (a' + 1)
      rw [show (((a' + 1 : Nat)) : Int) = (a' : Int) + 1 from by omega, hx] at this
      exact this
    clear hx c0 c1 c3 c4 c5 c6 f4 m0 m1 m2 HM HS0 HR HK q1 g0
    go_loopw [] (fun wr => ∃ tt, IsRd wr rb (.slice (some ⟨pb, 0, none⟩) 1 cp) (.slice none 0 cg) wide 0 (a' + 1) 0 tt ∧ (tt = 0 ∨ (tt = 1 ∧ at' + ml ≤ a')) ∧ Kept [rb] w wr) (fun wr => 1 - altOf wr rb)
    case atStart => exact ⟨t', HX.out.2, H0.out.2.2.2.2.2.2, HX.out.1⟩
    case round =>
      obtain ⟨tt, R1, htt, K1⟩ := hrel
      have HKx : Hid (Kept [rb] w wr ∧ IsRd wr rb (.slice (some ⟨pb, 0, none⟩) 1 cp) (.slice none 0 cg) wide 0 (a' + 1) 0 tt) := ⟨K1, R1⟩
      have HM : Hid (AltMem wr pb cv cm vb mb L ab ca at' mmb cnt cmm ml neg nc xb cx V M X) := H0.out.1.kept K1 (fun b hb => by have := (H0.out.2.2.2.2.2.1 b hb).1; simpa using this)
      have S1 : Hid (IsSet wr sb P) := H0.out.2.2.1.kept K1 (by simpa using n1)
      have V1 : Hid (FullVar wr) := H0.out.2.2.2.1.kept K1 H0.out.2.2.2.2.1 (by simpa using n2)
      have c6 := R1.cells.2.2.2.2.2
      have f6 := R1.frozen 6
      obtain ⟨l1, l2, l3, l4, l5⟩ := HM.out.lt
      have x0 := HM.out.p0
      have x1 := HM.out.p1
      have x2 := HM.out.p2
      have y0 := HM.out.a0
      have y1 := HM.out.a1
      have y2 := (HM.out.m 0 hnum.2.2.1).1
      obtain ⟨x3, x4, e7, e8, e9⟩ := HM.out.v a' ha
      obtain ⟨v, hv⟩ : ∃ v, V a' = v := ⟨_, rfl⟩
      obtain ⟨m, hm⟩ : ∃ m, M a' = m := ⟨_, rfl⟩
      rw [hv] at x3 e7 e9; rw [hm] at x4 e8 e9
      have HN : Hid (V a' = v ∧ M a' = m) := ⟨hv, hm⟩
      have HVM : Hid (v &&& m = v) := e9
      have nn : Hid (pb ∉ [sb] ∧ vb ∉ [sb] ∧ mb ∉ [sb]) := by
        have h1 := (H0.out.2.2.2.2.2.1 pb (.inl rfl)).2
        have h2 := (H0.out.2.2.2.2.2.1 vb (.inr (.inl rfl))).2
        have h3 := (H0.out.2.2.2.2.2.1 mb (.inr (.inr (.inl rfl)))).2
        exact ⟨by simpa using h1, by simpa using h2, by simpa using h3⟩
      have b4 : (a' : Int) < (L : Int) := by omega
      clear hv hm e9 K1 R1
      rcases htt with rfl | ⟨rfl, hge⟩
      · by_cases hge : at' + ml ≤ a'
        · have d1 : ((at' : Int) + (ml : Int) ≤ (a' : Int)) := by omega
          go_wp2_with fail
          go_quiet (fail)
          go_wp2
          go_roundw
          case rel => exact ⟨1, (HKx.out.2.drewN _).setAlt 1, .inr ⟨rfl, hge⟩, (HKx.out.1.drewN _).setCell (.inl (by simp)) _⟩
          case measure =>
            have h1 := ((HKx.out.2.drewN nq).setAlt 1).altOf
            have h2 := HKx.out.2.altOf
            simp at h1
            rw [h2]
            first | omega | (simp [h1]; done) | (rw [h1]; omega)
        · have d1 : ¬ ((at' : Int) + (ml : Int) ≤ (a' : Int)) := by omega
          have d2 : decide ((at' : Int) + (ml : Int) ≤ (a' : Int)) = false := by simp; omega
          by_cases hlt : a' < at'
          · have d3 : ((a' : Int) < (at' : Int)) := by omega
            have d4 : decide ((a' : Int) < (at' : Int)) = true := by simp; omega
            go_wp2_with fail
            go_quiet (fail)
            go_wp2_with fail
            go_quiet (fail)
            go_wp2_with fail
            go_region_held3 (fun w' => w'.cell? ⟨pb, 0, none⟩ = some (.slice (some ⟨vb, 0, none⟩) L cv) ∧ w'.cell? ⟨pb, 1, none⟩ = some (.slice (some ⟨mb, 0, none⟩) L cm) ∧ w'.cell? ⟨vb, a', none⟩ = some (.int .u8 v) ∧ w'.cell? ⟨mb, a', none⟩ = some (.int .u8 m))
              (first | exact ⟨(s2.cell (p := ⟨pb, 0, none⟩) l1 nn.out.1).trans x0, (s2.cell (p := ⟨pb, 1, none⟩) l1 nn.out.1).trans x1, (s2.cell (p := ⟨vb, a', none⟩) l2 nn.out.2.1).trans x3, (s2.cell (p := ⟨mb, a', none⟩) l3 nn.out.2.2).trans x4⟩ | exact ⟨x0, x1, x3, x4⟩ | go_keep)
              (first | (go_at_call 20; refine (addMasked_any P sb v m _ e7 e8 HVM.out (by exact S1.out) (by exact V1.out)).mono ?_; rintro e w2 ⟨rfl, s1, s2⟩))
            go_wp2
            go_returns
            refine ⟨((HKx.out.1.drewN _).widen (T := [rb, sb]) (by simp)).trans s2 (by simp), a' + 1, 0, (HKx.out.2.drewN _).kept s2 (by simpa using fun h => n1 h.symm), .inl rfl, .inr ⟨rfl, ha, rfl, s1.congr (fun b _ => ?_)⟩⟩
            unfold altItem
            rw [if_neg (by omega), HN.out.1, HN.out.2]
          · obtain ⟨i, HIA⟩ : ∃ i, Hid (a' = at' + i) := ⟨a' - at', show a' = at' + (a' - at') by omega⟩
            have d3 : ¬ ((a' : Int) < (at' : Int)) := by omega
            have d4 : decide ((a' : Int) < (at' : Int)) = false := by simp; omega
            rename World => w8
            have KA : ∀ n o, Kept [] w8 ((w8.drewN n).alloc o) := fun n o => ((Kept.refl [] w8).drewN n).alloc o
            have z1 : ∀ n o, ((w8.drewN n).alloc o).cell? ⟨ab, 1, none⟩ = some (.slice (some ⟨mmb, 0, none⟩) cnt cmm) := fun n o => ((KA n o).cell (p := ⟨ab, 1, none⟩) l4 (by simp)).trans y1
            go_wp2_with fail
            go_quiet (fail)
            go_wp2_with fail
            go_quiet (fail)
            go_wp2_with fail
            go_quiet (fail)
            go_wp2_with fail
            refine forgetW (A := fun wq => Kept [] w8 wq ∧ IsSet wq w8.heap.size (fun _ => false)) ⟨KA _ _, isSet_zero (w8.drewN _)⟩ ?_
            rintro wq ⟨KQ, SQ⟩
            obtain ⟨mk, hmk⟩ : ∃ mk, w8.heap.size = mk := ⟨_, rfl⟩
            rw [hmk] at SQ ⊢
            have HQ : Hid (Kept [] w8 wq ∧ IsSet wq mk (fun _ => false) ∧ w8.heap.size = mk) := ⟨KQ, SQ, hmk⟩
            have him : i < ml := by have := HIA.out; omega
            have hsub : (a' : Int) - (at' : Int) = (i : Int) := by have := HIA.out; omega
            clear SQ KQ z1 KA x0 x1 x2 x3 x4 y0 y1 y2 c6 f6 d1 d2 d3 d4 hmk hge hlt nn HVM HN e7 e8 b3 b4
            go_loopw [153] (fun x wy => ∃ c : Nat, c ≤ cnt ∧ x = .int .i64 c ∧ IsSet wy mk (memS X nc i c) ∧ Kept [mk] wq wy) (fun x _ => cnt - (intOf x).toNat)
            case atStart => exact ⟨0, by omega, rfl, HQ.out.2.1, .refl _ _⟩
            case round =>
              obtain ⟨c, hc, rfl, sy, ky⟩ := hrel
              have HY : Hid (IsSet wr mk (memS X nc i c) ∧ Kept [mk] wq wr ∧ Kept [mk] w8 wr) := ⟨sy, ky, (HQ.out.1.widen (by simp)).trans ky (by simp)⟩
              have MY : Hid (AltMem wr pb cv cm vb mb L ab ca at' mmb cnt cmm ml neg nc xb cx V M X) := HM.out.kept HY.out.2.2 (fun b hb => by have h1 := HM.out.blocks b hb; have h2 := HQ.out.2.2; simp; omega)
              have n1k : 1 ∉ [mk] := by have h1 := H0.out.2.2.2.2.1; have h2 := HKx.out.1.size; have h3 := HQ.out.2.2; simp; omega
              have FY : Hid (FullVar wr) := V1.out.kept HY.out.2.2 (by have h1 := H0.out.2.2.2.2.1; have h2 := HKx.out.1.size; omega) n1k
              clear sy ky
              by_cases hcc : c < cnt
              · have u0 := (MY.out.m c hcc).1
                obtain ⟨u1, hx⟩ := MY.out.x c hcc i him
                have u2 := MY.out.a0
                obtain ⟨xc, hxc⟩ : ∃ xc, X c i = xc := ⟨_, rfl⟩
                rw [hxc] at u1 hx
                have HXC : Hid (X c i = xc) := hxc
                obtain ⟨xd, hxd⟩ : ∃ xd, xc ^^^ 32 = xd := ⟨_, rfl⟩
                have HXD : Hid (xc ^^^ 32 = xd) := hxd
                have hxor : bits .xor .u8 (xc : Int) 32 = (xd : Int) := by rw [← hxd]; exact u8_xor_nat xc 32 hx (by omega)
                have hdl : xd < 256 := by rw [← hxd]; exact xor_byte xc hx
                have b1 : (0 : Int) ≤ (c : Int) := by omega
                have b2 : (c : Int) < (cnt : Int) := by omega
                have b5 : (0 : Int) ≤ (i : Int) := by omega
                have b6 : (i : Int) < (ml : Int) := by omega
                clear hxc hxd
                go_wp2_with fail
                refine (addMasked_any (memS X nc i c) mk xc 255 _ hx (by omega) (and_byte xc hx) (by exact HY.out.1) (by exact FY.out)).mono ?_
                rintro e w5 ⟨rfl, s1, s2⟩
                have v3 : w5.cell? ⟨ab, 3, none⟩ = some (.bool nc) := (s2.cell (p := ⟨ab, 3, none⟩) MY.out.lt.2.2.2.1 (by have h1 := HM.out.lt.2.2.2.1; have h2 := HQ.out.2.2; simp; omega)).trans MY.out.a3
                have HS5 : Hid (IsSet w5 mk (fun b => memS X nc i c b || mt xc 255 b) ∧ Kept [mk] wq w5) := ⟨s1, HY.out.2.1.trans s2 (by simp)⟩
                have FY5 : Hid (FullVar w5) := FY.out.kept s2 (by have h1 := H0.out.2.2.2.2.1; have h2 := HKx.out.1.size; have h3 := HY.out.2.2.size; omega) n1k
                clear s1 s2
                have step0 : nc = false → ∀ b, b < 256 → (memS X nc i c b || mt xc 255 b) = memS X nc i (c + 1) b := fun h b hb => by
                  show _ = ((memS X nc i c b || b == X c i) || (nc && (letter (X c i) && b == X c i ^^^ 32)))
                  rw [h, HXC.out, mt_all xc b hx hb]; simp
                have step1 : letter xc = false → ∀ b, b < 256 → (memS X nc i c b || mt xc 255 b) = memS X nc i (c + 1) b := fun h b hb => by
                  show _ = ((memS X nc i c b || b == X c i) || (nc && (letter (X c i) && b == X c i ^^^ 32)))
                  rw [HXC.out, h, mt_all xc b hx hb]; simp
                have step2 : nc = true → letter xc = true → ∀ b, b < 256 → ((memS X nc i c b || mt xc 255 b) || mt xd 255 b) = memS X nc i (c + 1) b := fun h0 h b hb => by
                  show _ = ((memS X nc i c b || b == X c i) || (nc && (letter (X c i) && b == X c i ^^^ 32)))
                  rw [h0, HXC.out, h, HXD.out, mt_all xc b hx hb, mt_all xd b hdl hb]; simp
                have ST : Hid ((nc = false → ∀ b, b < 256 → (memS X nc i c b || mt xc 255 b) = memS X nc i (c + 1) b) ∧ (letter xc = false → ∀ b, b < 256 → (memS X nc i c b || mt xc 255 b) = memS X nc i (c + 1) b) ∧ (nc = true → letter xc = true → ∀ b, b < 256 → ((memS X nc i c b || mt xc 255 b) || mt xd 255 b) = memS X nc i (c + 1) b)) := ⟨step0, step1, step2⟩
                clear step0 step1 step2
                by_cases hnc : nc = false
                · rw [hnc] at v3
                  go_wp2
                  go_roundw
                  case rel => first | exact ⟨c + 1, by omega, by go_num, HS5.out.1.congr (ST.out.1 hnc), HS5.out.2⟩ | ((repeat apply Exists.intro); refine ⟨?_, rfl⟩; exact ⟨c + 1, by omega, by go_num, HS5.out.1.congr (ST.out.1 hnc), HS5.out.2⟩)
                  case measure => simp [intOf]; omega
                · have hnc' : nc = true := by simpa using hnc
                  rw [hnc'] at v3
                  go_wp2_with fail
                  refine (isLetter_any xc _ hx).mono ?_
                  rintro e w6 ⟨rfl, rfl⟩
                  by_cases hl : letter xc = false
                  · rw [hl]
                    go_wp2
                    go_roundw
                    case rel => first | exact ⟨c + 1, by omega, by go_num, HS5.out.1.congr (ST.out.2.1 hl), HS5.out.2⟩ | ((repeat apply Exists.intro); refine ⟨?_, rfl⟩; exact ⟨c + 1, by omega, by go_num, HS5.out.1.congr (ST.out.2.1 hl), HS5.out.2⟩)
                    case measure => simp [intOf]; omega
                  · have hl' : letter xc = true := by simpa using hl
                    rw [hl']
                    go_wp2_with fail
                    refine (addMasked_any (fun b => memS X nc i c b || mt xc 255 b) mk xd 255 _ hdl (by omega) (and_byte xd hdl) (by exact HS5.out.1) (by exact FY5.out)).mono ?_
                    rintro e w6 ⟨rfl, s1, s2⟩
                    go_wp2
                    go_roundw
                    case rel => first | exact ⟨c + 1, by omega, by go_num, s1.congr (ST.out.2.2 hnc' hl'), HS5.out.2.trans s2 (by simp)⟩ | ((repeat apply Exists.intro); refine ⟨?_, rfl⟩; exact ⟨c + 1, by omega, by go_num, s1.congr (ST.out.2.2 hnc' hl'), HS5.out.2.trans s2 (by simp)⟩)
                    case measure => simp [intOf]; omega
              · obtain rfl : c = cnt := by omega
                have u2 := MY.out.a2
                have u4 := MY.out.a1
                have u3 := (MY.out.m 0 hnum.2.2.1).1
                have k0 := HY.out.1.cell 0 (by omega)
                have k1 := HY.out.1.cell 1 (by omega)
                have k2 := HY.out.1.cell 2 (by omega)
                have k3 := HY.out.1.cell 3 (by omega)
                have SY : Hid (IsSet wr sb P) := S1.out.kept HY.out.2.2 (by have h1 := S1.out.lt; have h2 := HQ.out.2.2; simp; omega)
                have RY : Hid (IsRd wr rb (.slice (some ⟨pb, 0, none⟩) 1 cp) (.slice none 0 cg) wide 0 (a' + 1) 0 0) := HKx.out.2.kept HY.out.2.2 (by have h1 := HKx.out.2.lt; have h2 := HQ.out.2.2; simp; omega)
                have KY : Hid (Kept [rb, sb] w wr) := (HKx.out.1.widen (T := [rb, sb]) (by simp)).trans HY.out.2.2 (fun x hx => .inr (by have h1 := HKx.out.1.size; have h2 := HQ.out.2.2; simp at hx; omega))
                by_cases hneg : neg = false
                · rw [hneg] at u2
                  go_wp2_with fail
                  refine (add_any P (memS X nc i c) sb _ (by exact SY.out)).mono ?_
                  rintro e w5 ⟨rfl, s1, s2⟩
                  go_wp2
                  go_returns
                  refine ⟨(KY.out).trans s2 (by simp), a' + 1, 0, RY.out.kept s2 (by simpa using fun h => n1 h.symm), .inl rfl, .inr ⟨rfl, ha, rfl, s1.congr (fun b _ => ?_)⟩⟩
                  unfold altItem memItem
                  have hia := HIA.out
                  rw [if_pos (by omega), show a' - at' = i by omega]
                  rw [hneg]; simp
                · have hneg' : neg = true := by simpa using hneg
                  rw [hneg'] at u2
                  by_cases hml : ml = 1
                  · have e1 : ((ml : Int) == 1) = true := by simp; omega
                    go_wp2_with fail
                    refine (complement_any (memS X nc i c) _).mono ?_
                    rintro e w5 ⟨rfl, s0⟩
                    have S5 : Hid (IsSet w5 sb P) := SY.out.kept (S := []) (keptOf s0) (by simp)
                    go_wp2_with fail
                    refine (add_any P (fun b => !memS X nc i c b) sb _ (by exact S5.out)).mono ?_
                    rintro e w6 ⟨rfl, s1, s2⟩
                    go_wp2
                    go_returns
                    refine ⟨((KY.out.trans (keptOf s0) (by simp))).trans s2 (by simp), a' + 1, 0, (RY.out.kept (S := []) (keptOf s0) (by simp)).kept s2 (by simpa using fun h => n1 h.symm), .inl rfl, .inr ⟨rfl, ha, rfl, s1.congr (fun b _ => ?_)⟩⟩
                    unfold altItem memItem
                    have hia := HIA.out
                    rw [if_pos (by omega), show a' - at' = i by omega]
                    rw [hneg', if_pos hml]; simp
                  · have e1 : ((ml : Int) == 1) = false := by simp; omega
                    go_wp2_with fail
                    refine (addMasked_any P sb 0 0 _ (by omega) (by omega) rfl (by exact SY.out) (by exact FY.out)).mono ?_
                    rintro e w5 ⟨rfl, s1, s2⟩
                    go_wp2
                    go_returns
                    refine ⟨(KY.out).trans s2 (by simp), a' + 1, 0, RY.out.kept s2 (by simpa using fun h => n1 h.symm), .inl rfl, .inr ⟨rfl, ha, rfl, s1.congr (fun b _ => ?_)⟩⟩
                    unfold altItem memItem
                    have hia := HIA.out
                    rw [if_pos (by omega), show a' - at' = i by omega]
                    rw [hneg', if_neg hml, mt_zero]; simp
      · have d0 : ((1 : Int) == 1) = true := rfl
        go_wp2_with fail
        go_quiet (fail)
        go_wp2_with fail
        go_quiet (fail)
        go_wp2_with fail
        go_region_held3 (fun w' => w'.cell? ⟨pb, 0, none⟩ = some (.slice (some ⟨vb, 0, none⟩) L cv) ∧ w'.cell? ⟨pb, 1, none⟩ = some (.slice (some ⟨mb, 0, none⟩) L cm) ∧ w'.cell? ⟨vb, a', none⟩ = some (.int .u8 v) ∧ w'.cell? ⟨mb, a', none⟩ = some (.int .u8 m))
          (first | exact ⟨(s2.cell (p := ⟨pb, 0, none⟩) l1 nn.out.1).trans x0, (s2.cell (p := ⟨pb, 1, none⟩) l1 nn.out.1).trans x1, (s2.cell (p := ⟨vb, a', none⟩) l2 nn.out.2.1).trans x3, (s2.cell (p := ⟨mb, a', none⟩) l3 nn.out.2.2).trans x4⟩ | exact ⟨x0, x1, x3, x4⟩ | go_keep)
          (first | (go_at_call 20; refine (addMasked_any P sb v m _ e7 e8 HVM.out (by exact S1.out) (by exact V1.out)).mono ?_; rintro e w2 ⟨rfl, s1, s2⟩))
        go_wp2
        go_returns
        refine ⟨((HKx.out.1.drewN _).widen (T := [rb, sb]) (by simp)).trans s2 (by simp), a' + 1, 1, (HKx.out.2.drewN _).kept s2 (by simpa using fun h => n1 h.symm), .inr ⟨rfl, by omega⟩, .inr ⟨rfl, ha, rfl, s1.congr (fun b _ => ?_)⟩⟩
        unfold altItem
        rw [if_neg (by omega), HN.out.1, HN.out.2]
end Go.Proofs.YbulkoqcDoor
