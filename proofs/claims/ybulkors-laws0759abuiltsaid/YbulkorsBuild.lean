/- zzs0759abuild: it returns some text as long as the picks. Own work over this translation. -/
import Derived.Test.YbulkorsPastWalks
namespace Go.Proofs.Ybulkors
open Go.RowKit
set_option linter.unusedVariables false

theorem Yba.info5 : (Yba.prog.info? 5).map (fun i => (i.zero, i.size, i.bytes)) = some (some (.int .u8 0), 1, 1) := by kernel_rfl

set_option maxRecDepth 100000 in
set_option maxHeartbeats 1000000 in
theorem build_any (ao : Option Addr) (b0 o0 len cap : Nat) (z : Nat → Int) (w : World) (hl : len ≤ 1024) (hz : ∀ j, 0 ≤ z j ∧ z j ≤ 255)
    (h0 : 0 < len → ao = some ⟨b0, o0, none⟩ ∧ b0 < w.heap.size) (hcell : ∀ j, j < len → w.cell? ⟨b0, o0 + j, none⟩ = some (.int .u8 (z j))) :
    Calls Yba.prog 9 #[.slice ao len cap] w fun e w' => ∃ t : ByteArray, e = .returned (.string t) ∧ t.size = len ∧ Below w.heap.size w w' := by
  obtain ⟨i5, hi5, hz0, hz1, hz2⟩ := info_parts Yba.info5
  have H0 : Hid ((0 < len → ao = some ⟨b0, o0, none⟩ ∧ b0 < w.heap.size) ∧ ∀ j, j < len → w.cell? ⟨b0, o0 + j, none⟩ = some (.int .u8 (z j))) := ⟨h0, hcell⟩
  clear h0 hcell
  have HZ : Hid (∀ j, 0 ≤ z j ∧ z j ≤ 255) := hz
  clear hz
  go_enter Yba.func9, Yba.ntmps9
  go_wp2_with (at_make; refine wpList_make_own _ rfl _ _ 34 rfl w.heap.size 5 i5 (.int .u8 0) 1 Yba.underlying34 hi5 hz0 hz1 _ _ _ len rfl rfl rfl ?m1 ?m2 (Nat.le_refl _) ?_)
  case m1 => rw [hz2]; omega
  case m2 => unfold maxLen; omega
  intro w1 hown1 hgrow1
  have HO1 : Hid (w1.ownsRow w.heap.size 5 1 (.slice (some ⟨w.heap.size, 0, none⟩) 0 len) 0 []) := hown1
  have HB1 : Hid (Below w.heap.size w w1) := (Below.refl _ _).grown hgrow1 (Nat.le_refl _) (fun k h => by cases h)
  clear hown1 hgrow1
  go_wp2_with fail
  go_loopw [3, 11] (fun v i wr => ∃ (k : Nat) (xs : List Int), k ≤ len ∧ i = .int .i64 k ∧ v = .slice (some ⟨w.heap.size, 0, none⟩) k len ∧ xs.length = k ∧ (∀ x ∈ xs, 0 ≤ x ∧ x ≤ 255) ∧
      wr.ownsRow w.heap.size 5 1 (.slice (some ⟨w.heap.size, 0, none⟩) k len) k (xs.map (Value.int .u8)) ∧ Below w.heap.size w wr) (fun _ i _ => len - (intOf i).toNat)
  case atStart => exact ⟨0, [], Nat.zero_le _, rfl, rfl, rfl, by simp, HO1.out, HB1.out⟩
  case round =>
    obtain ⟨k, xs, hk, rfl, rfl, hxl, hxb, hown, hbel⟩ := hrel
    have HX : Hid (xs.length = k ∧ ∀ x ∈ xs, 0 ≤ x ∧ x ≤ 255) := ⟨hxl, hxb⟩
    have HO : Hid (wr.ownsRow w.heap.size 5 1 (.slice (some ⟨w.heap.size, 0, none⟩) k len) k (xs.map (Value.int .u8))) := hown
    have HB : Hid (Below w.heap.size w wr) := hbel
    have hsz := hbel.size
    clear hxl hxb hown hbel
    by_cases hlt : k < len
    · obtain ⟨hx, hltb⟩ := H0.out.1 (by omega)
      subst hx
      have r : wr.cell? ⟨b0, o0 + k, none⟩ = some (.int .u8 (z k)) := (HB.out.cell (p := ⟨b0, o0 + k, none⟩) hltb).trans (H0.out.2 k hlt)
      obtain ⟨x, hx⟩ : ∃ x, z k = x := ⟨_, rfl⟩
      have hxr := HZ.out k
      rw [hx] at hxr r
      clear hx
      obtain ⟨hx0, hx1⟩ := hxr
      have e5 : 0 ≤ x % 5 ∧ x % 5 < 5 := by omega
      obtain ⟨e50, e51⟩ := e5
      have hidx : (x % 5).toNat < (ByteArray.mk #[92, 10, 13, 97, 32]).size := by show _ < 5; omega
      obtain ⟨y, hy⟩ : ∃ y : Nat, ((ByteArray.mk #[92, 10, 13, 97, 32])[(x % 5).toNat]'hidx).toNat = y := ⟨_, rfl⟩
      have hy8 : y < 256 := by rw [← hy]; exact UInt8.toNat_lt _
      go_wp2_with (at_builtin; refine wpList_append_fits _ rfl (.tmp 15) (.tmp 20) 34 rfl w.heap.size 5 i5 1 Yba.underlying34 hi5 hz1 w.heap.size k len (xs.map (Value.int .u8)) rfl ?own ⟨wr.heap.size, 0, none⟩ 1 1 [.int .u8 (y : Int)] rfl rfl ?d1 ?d2 ?d3 ?_)
      case own => exact HO.out.alloc _
      case d2 => rfl
      case d3 => omega
      intro w2 hown2 hgrow2
      have HO2 : Hid (w2.ownsRow w.heap.size 5 1 (.slice (some ⟨w.heap.size, 0, none⟩) (k + 1) len) (k + 1) ((xs ++ [(y : Int)]).map (Value.int .u8))) := by
        rw [List.map_append]; exact hown2
      have HB2 : Hid (Below w.heap.size w w2) := (HB.out.alloc (by omega) _).grown hgrow2 (by simp; omega) (fun k h => by simp at h; omega)
      clear hown2 hgrow2
      go_wp2
      go_roundw
      case rel =>
        refine ⟨k + 1, xs ++ [(y : Int)], by omega, by go_num, rfl, by simp [HX.out.1], ?_, HO2.out, HB2.out⟩
        intro u hu
        rcases List.mem_append.1 hu with h | h
        · exact HX.out.2 u h
        · simp at h; omega
      case measure => simp [intOf]; omega
    · obtain rfl : k = len := by omega
      have hcv := run_convert_bytes_arg (P := Yba.prog) wr 34 5 Yba.underlying34 Yba.underlying5 w.heap.size 0 k k xs HX.out.1 (fun i hi => by
        have hx := HX.out.1
        have := HO.out.cells (g := w.heap.size) rfl i (.int .u8 (xs.getD i 0)) (by simp [List.getD, show i < xs.length by omega])
        simpa [Addr.add_lit] using this) 9 Yba.underlying9
      go_wp2
      go_ret
      exact ⟨_, rfl, by rw [strOfNums_size]; exact HX.out.1, HB.out⟩
end Go.Proofs.Ybulkors
