/- (*Value).members and (*Value).items, by the shape of the value in memory. Own work over this program's translation. -/
import Derived.Test.YbulkorsRows
import Derived.Handy
import Derived.WalkLawsBesides
namespace Go.Proofs.Ybulkors
open Go.RowKit
set_option linter.unusedVariables false

theorem members_nil (w : World) : Calls Yba.prog 11 #[.pointer none] w fun e w' => e = .returned (.slice none 0 0) ∧ w' = w := by
  go_enter Yba.func11, Yba.ntmps11
  go_wp2
  go_ret
  exact ⟨rfl, rfl⟩

theorem members_atom (w : World) (b : Nat) (h6 : w.cell? ⟨b, 6, none⟩ = some (.pointer none)) : Calls Yba.prog 11 #[.pointer (some ⟨b, 0, none⟩)] w fun e w' => e = .returned (.slice none 0 0) ∧ w' = w := by
  go_enter Yba.func11, Yba.ntmps11
  go_wp2
  go_ret
  exact ⟨rfl, rfl⟩

theorem members_none (w : World) (b c : Nat) (h6 : w.cell? ⟨b, 6, none⟩ = some (.pointer (some ⟨c, 0, none⟩))) (h1 : w.cell? ⟨c, 1, none⟩ = some (.pointer none)) :
    Calls Yba.prog 11 #[.pointer (some ⟨b, 0, none⟩)] w fun e w' => e = .returned (.slice none 0 0) ∧ w' = w := by
  go_enter Yba.func11, Yba.ntmps11
  go_wp2
  go_ret
  exact ⟨rfl, rfl⟩

theorem members_some (w : World) (b c d o : Nat) (a : Option Addr) (n m : Nat) (h6 : w.cell? ⟨b, 6, none⟩ = some (.pointer (some ⟨c, 0, none⟩))) (h1 : w.cell? ⟨c, 1, none⟩ = some (.pointer (some ⟨d, o, none⟩)))
    (h2 : w.cell? ⟨d, o, none⟩ = some (.slice a n m)) :
    Calls Yba.prog 11 #[.pointer (some ⟨b, 0, none⟩)] w fun e w' => e = .returned (.slice a n m) ∧ w' = w := by
  go_enter Yba.func11, Yba.ntmps11
  go_wp2
  go_ret
  exact ⟨rfl, rfl⟩

theorem items_nil (w : World) : Calls Yba.prog 17 #[.pointer none] w fun e w' => e = .returned (.slice none 0 0) ∧ w' = w := by
  go_enter Yba.func17, Yba.ntmps17
  go_wp2
  go_ret
  exact ⟨rfl, rfl⟩

theorem items_atom (w : World) (b : Nat) (h6 : w.cell? ⟨b, 6, none⟩ = some (.pointer none)) : Calls Yba.prog 17 #[.pointer (some ⟨b, 0, none⟩)] w fun e w' => e = .returned (.slice none 0 0) ∧ w' = w := by
  go_enter Yba.func17, Yba.ntmps17
  go_wp2
  go_ret
  exact ⟨rfl, rfl⟩

theorem items_some (w : World) (b c : Nat) (a : Option Addr) (n m : Nat) (h6 : w.cell? ⟨b, 6, none⟩ = some (.pointer (some ⟨c, 0, none⟩))) (h0 : w.cell? ⟨c, 0, none⟩ = some (.slice a n m)) :
    Calls Yba.prog 17 #[.pointer (some ⟨b, 0, none⟩)] w fun e w' => e = .returned (.slice a n m) ∧ w' = w := by
  go_enter Yba.func17, Yba.ntmps17
  go_wp2
  go_ret
  exact ⟨rfl, rfl⟩

/-- newAssociationContents: two new blocks; the second is the contents with the association in it. -/
theorem newAssociationContents_any (w : World) (a : Option Addr) (n m : Nat) :
    Calls Yba.prog 19 #[.agg #[.slice a n m, .pointer none, .string ⟨#[]⟩]] w fun e w' => e = .returned (.pointer (some ⟨w.heap.size + 1, 0, none⟩)) ∧
      w' = (w.alloc (.cells #[.slice a n m, .pointer none, .string ⟨#[]⟩] 64)).alloc (.cells #[.slice none 0 0, .pointer (some ⟨w.heap.size + 1, 2, none⟩), .slice a n m, .pointer none, .string ⟨#[]⟩] 73) := by
  go_enter Yba.func19, Yba.ntmps19
  go_wp2
  go_ret
  exact ⟨rfl, rfl⟩

end Go.Proofs.Ybulkors
