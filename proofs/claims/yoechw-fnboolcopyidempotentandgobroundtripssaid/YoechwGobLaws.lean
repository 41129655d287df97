import Derived.Test.YoechwGobW
namespace Go.Proofs.Yoechw
open Go.RowKit
set_option linter.unusedVariables false

theorem gob_walk_f (w : World) :
    Calls Echg.prog 7 #[.bool false] w fun e w' => e = .returned (.bool true) ∧ Grown w w' := by
  have hne := neq22
  go_enter Echg.func7, Echg.ntmps7
  go_wp2_with fail
  refine (newBool_calls _ _).mono ?_
  rintro e w' ⟨rfl, rfl⟩
  go_wp2_with fail
  refine (boolCopy_calls _ _).mono ?_
  rintro e w' ⟨rfl, rfl⟩
  go_wp2_with fail
  refine (boolCopy_calls _ _).mono ?_
  rintro e w' ⟨rfl, rfl⟩
  go_wp2_with fail
  refine (encode_false _ _ (by simp)).mono ?_
  rintro e w' ⟨rfl, rfl⟩
  go_wp2_with fail
  refine (newBool_calls _ _).mono ?_
  rintro e w' ⟨rfl, rfl⟩
  go_wp2_with fail
  refine (decode_calls _ _ true 0 _ (by go_simp) (by go_simp) (by go_simp)).mono ?_
  rintro e w' ⟨rfl, rfl⟩
  go_wp2_with fail
  refine (boolValue_calls _ false _ (by go_simp)).mono ?_
  rintro e w' ⟨rfl, rfl⟩
  go_wp2_with fail
  refine (boolValue_calls _ false _ (by go_simp)).mono ?_
  rintro e w' ⟨rfl, rfl⟩
  go_wp2_with fail
  go_ret
  refine ⟨rfl, ?_⟩
  repeat (first | exact Grown.refl _ | apply Grown.drew | apply Grown.alloc)

theorem gob_walk_t (w : World) :
    Calls Echg.prog 7 #[.bool true] w fun e w' => e = .returned (.bool true) ∧ Grown w w' := by
  have hne := neq22
  go_enter Echg.func7, Echg.ntmps7
  go_wp2_with fail
  refine (newBool_calls _ _).mono ?_
  rintro e w' ⟨rfl, rfl⟩
  go_wp2_with fail
  refine (boolCopy_calls _ _).mono ?_
  rintro e w' ⟨rfl, rfl⟩
  go_wp2_with fail
  refine (boolCopy_calls _ _).mono ?_
  rintro e w' ⟨rfl, rfl⟩
  go_wp2_with fail
  refine (encode_true _ _ (by simp)).mono ?_
  rintro e w' ⟨rfl, rfl⟩
  go_wp2_with fail
  refine (newBool_calls _ _).mono ?_
  rintro e w' ⟨rfl, rfl⟩
  go_wp2_with fail
  refine (decode_calls _ _ false 1 _ (by go_simp) (by go_simp) (by go_simp)).mono ?_
  rintro e w' ⟨rfl, rfl⟩
  go_wp2_with fail
  refine (boolValue_calls _ true _ (by go_simp)).mono ?_
  rintro e w' ⟨rfl, rfl⟩
  go_wp2_with fail
  refine (boolValue_calls _ true _ (by go_simp)).mono ?_
  rintro e w' ⟨rfl, rfl⟩
  go_wp2_with fail
  go_ret
  refine ⟨rfl, ?_⟩
  repeat (first | exact Grown.refl _ | apply Grown.drew | apply Grown.alloc)

end Go.Proofs.Yoechw
