/- newSequence, newExpression, newAssociation: what they leave in memory. Own work over this program's translation. -/
import Derived.Test.YbulkorsMembers
import Derived.Deep.RegionWith
namespace Go.Proofs.Ybulkors
open Go.RowKit
set_option linter.unusedVariables false

set_option maxHeartbeats 1000000 in
theorem newSequence_any (w : World) (a : Option Addr) (n m : Nat) :
    Calls Yba.prog 14 #[.agg #[.pointer none, .int .u32 0, .int .u32 0], .slice a n m] w fun e w' => ∃ c,
      e = .returned (.agg #[.int .u8 9, .bool false, .pointer none, .int .u32 0, .int .u32 0, .string ⟨#[]⟩, .pointer (some ⟨c, 0, none⟩)]) ∧
      w.heap.size ≤ c ∧ c < w'.heap.size ∧ Below w.heap.size w w' ∧ w'.cell? ⟨c, 0, none⟩ = some (.slice a n m) ∧ w'.cell? ⟨c, 1, none⟩ = some (.pointer none) := by
  go_enter Yba.func14, Yba.ntmps14
  go_wp2
  go_returns
  refine ⟨_, rfl, by omega, ?_, ?_, ?_, ?_⟩
  · simp
  · go_grown
  · go_simp
  · go_simp

set_option maxHeartbeats 1000000 in
theorem newAssociation_any (w : World) (a : Option Addr) (n m : Nat) :
    Calls Yba.prog 16 #[.agg #[.pointer none, .int .u32 0, .int .u32 0], .agg #[.slice a n m, .pointer none, .string ⟨#[]⟩]] w fun e w' => ∃ c,
      e = .returned (.agg #[.int .u8 10, .bool false, .pointer none, .int .u32 0, .int .u32 0, .string ⟨#[]⟩, .pointer (some ⟨c, 0, none⟩)]) ∧
      w.heap.size ≤ c ∧ c < w'.heap.size ∧ Below w.heap.size w w' ∧ w'.cell? ⟨c, 0, none⟩ = some (.slice none 0 0) ∧ w'.cell? ⟨c, 1, none⟩ = some (.pointer (some ⟨c, 2, none⟩)) ∧ w'.cell? ⟨c, 2, none⟩ = some (.slice a n m) := by
  go_enter Yba.func16, Yba.ntmps16
  go_wp2_with fail
  go_region_with (go_at_call 19; refine (newAssociationContents_any _ a n m).mono ?_; rintro e w' ⟨rfl, rfl⟩)
  all_goals go_wp2
  all_goals go_returns
  all_goals refine ⟨_, rfl, by omega, ?_, ?_, ?_, ?_, ?_⟩
  all_goals first
    | (simp; done)
    | (go_simp; done)
    | (go_grown; done)
set_option maxHeartbeats 1000000 in
theorem newExpression_any (w : World) (t : ByteArray) :
    Calls Yba.prog 15 #[.agg #[.pointer none, .int .u32 0, .int .u32 0], .string t, .slice none 0 0] w fun e w' => ∃ c,
      e = .returned (.agg #[.int .u8 11, .bool false, .pointer none, .int .u32 0, .int .u32 0, .string t, .pointer (some ⟨c, 0, none⟩)]) ∧
      w.heap.size ≤ c ∧ c < w'.heap.size ∧ Below w.heap.size w w' ∧ w'.cell? ⟨c, 0, none⟩ = some (.slice none 0 0) ∧ w'.cell? ⟨c, 1, none⟩ = some (.pointer none) := by
  go_enter Yba.func15, Yba.ntmps15
  go_wp2
  go_returns
  refine ⟨_, rfl, by omega, ?_, ?_, ?_, ?_⟩
  · simp
  · go_grown
  · go_simp
  · go_simp

end Go.Proofs.Ybulkors
