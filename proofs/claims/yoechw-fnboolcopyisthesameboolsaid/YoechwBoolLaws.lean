import Derived.Test.YoechwBoolW
namespace Go.Proofs.Yoechw
open Go.RowKit
set_option linter.unusedVariables false

theorem same_walk_f (w : World) :
    Calls Echg.prog 3 #[.bool false] w fun e w' => e = .returned (.bool true) ∧ Grown w w' := by
  have hc : (w.alloc (.cells #[.bool false] 54)).cell? ⟨w.heap.size, 0, none⟩ = some (.bool false) := by simp
  have hne := neq22
  go_enter Echg.func3, Echg.ntmps3
  go_wp2_with (first | (go_at_call 8; refine (newBool_calls _ _).mono ?_; rintro e w' ⟨rfl, rfl⟩) | (go_at_call 9; refine (boolCopy_calls _ _).mono ?_; rintro e w' ⟨rfl, rfl⟩) | (go_at_call 10; refine (boolValue_calls _ _ _ hc).mono ?_; rintro e w' ⟨rfl, rfl⟩) | (go_at_call 11; refine (isFalsy_calls _ _ _ hc).mono ?_; rintro e w' ⟨rfl, rfl⟩) | (go_at_call 12; refine (string_false _ _ hc).mono ?_; rintro e w' ⟨rfl, rfl⟩))
  go_ret
  exact ⟨rfl, by repeat (first | exact Grown.refl _ | apply Grown.drew | apply Grown.alloc)⟩

theorem same_walk_t (w : World) :
    Calls Echg.prog 3 #[.bool true] w fun e w' => e = .returned (.bool true) ∧ Grown w w' := by
  have hc : (w.alloc (.cells #[.bool true] 54)).cell? ⟨w.heap.size, 0, none⟩ = some (.bool true) := by simp
  have hne := neq22
  go_enter Echg.func3, Echg.ntmps3
  go_wp2_with (first | (go_at_call 8; refine (newBool_calls _ _).mono ?_; rintro e w' ⟨rfl, rfl⟩) | (go_at_call 9; refine (boolCopy_calls _ _).mono ?_; rintro e w' ⟨rfl, rfl⟩) | (go_at_call 10; refine (boolValue_calls _ _ _ hc).mono ?_; rintro e w' ⟨rfl, rfl⟩) | (go_at_call 11; refine (isFalsy_calls _ _ _ hc).mono ?_; rintro e w' ⟨rfl, rfl⟩) | (go_at_call 12; refine (string_true _ _ hc).mono ?_; rintro e w' ⟨rfl, rfl⟩))
  go_ret
  exact ⟨rfl, by repeat (first | exact Grown.refl _ | apply Grown.drew | apply Grown.alloc)⟩
end Go.Proofs.Yoechw
