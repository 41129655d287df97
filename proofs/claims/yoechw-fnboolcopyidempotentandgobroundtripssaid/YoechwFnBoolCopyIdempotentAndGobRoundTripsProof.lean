/-
  'Rows.FnBoolCopyIdempotentAndGobRoundTripsSaid' proved. The frame is the kit's shell for this row; the walk lies in the imported texts.
-/
import Derived.Test.YoechwRows
import Derived.Test.YoechwBoolW
import Derived.Test.YoechwGobW
import Derived.Test.YoechwGobLaws
import Derived.WalkKit
import Derived.ProofKit
import Derived.OpenShut
import Derived.ShutString
namespace Go.Proofs.Yoechw.fnBoolCopyIdempotentAndGobRoundTrips
open Go.ChangeShapes Go.WideShapes Go.ChangeAt Go.RowKit
open Go.ChangeMaps (open_string shut_string)
set_option linter.unusedVariables false      -- a walk need not use every 'w<i>' (that an integer argument fits its kind)

theorem own : ownKnob Echg.prog.godebug = none := by kernel_rfl

theorem walk (a0 : Bool) (w : World) :
    Calls Echg.prog 7 #[.bool a0] w fun e w' => e = .returned (.bool true) ∧ Grown w w' := by
  cases a0
  · exact gob_walk_f w
  · exact gob_walk_t w

/-! ### THE ROW's STEP: WRITTEN OUT: LEAVE IT -/
set_option maxRecDepth 100000 in
theorem lifted (os : Os) (started : os.Started) (H : Type) (enc : TypeId × Value → H) :
    ReturnsInHanded {} Echg.checked os 7 .any (Rows.fnBoolCopyIdempotentAndGobRoundTripsSpec.pre6 enc Echg.prog Echg.f7 Rows.fnBoolCopyIdempotentAndGobRoundTripsRow.domain false) (Rows.fnBoolCopyIdempotentAndGobRoundTripsSpec.post enc Echg.prog Echg.f7 false true false false) := by
  refine returnsInHanded_of_change (C := Echg.checked) own started (by kernel_rfl) Echg.func7
    (ChangeSpec.witness6 (enc := enc) (C := Echg.checked) false ⟨#[], #[.bool false], []⟩ 8 (by kernel_rfl) (by kernel_rfl) (by kernel_rfl) (by kernel_rfl)) ?_
  intro W base args ds gs before hval0 hW hcnd _
  have hval : ∀ (j : Nat) t v, Echg.f7.params[j]? = some t → args[j]? = some v → Value.okWide Echg.prog W .any base t v := hval0
  have hW' := hW
  obtain ⟨p, q, hA0, hV, rfl, hfz, hnd⟩ := hW
  have hA : DataW.TrodAll enc Echg.prog W 0 (fun _ => true) true Echg.f7.params.toList args.toList ds p := hA0
  rw [Echg.params7] at hA hval
  obtain ⟨v0, vs0, d0, ds0, p0, q0, hargs, rfl, rfl, h0, r0⟩ := trodAll_cons hA
  obtain ⟨rfl, rfl, rfl⟩ := trodAll_nil r0
  obtain rfl : args = #[v0] := by cases args; simp_all
  obtain ⟨rfl, rfl⟩ := trodVars_none hV
  obtain ⟨a0, rfl, rfl, rfl⟩ := open_bool Echg.underlying4 (hval 0 4 v0 rfl rfl) h0
  clear hA0 hval0
  simp only [List.append_nil] at hW'
  refine (walk a0 W).mono fun e W' ⟨he, hg⟩ => ?_
  subst he
  exact ⟨_, rfl, post_of_same (pa := []) (pv := []) hW' (fun _ _ _ => (trodAll_cons_mk (shut_bool Echg.underlying4 _) trodAll_mk0)) (fun sp _ => (trodAll_cons_mk (shut_bool Echg.underlying4 _) trodAll_mk0)) (fun _ _ => rfl) rfl
    (hg.frame _) hg.2.1 (ok_one (by kernel_rfl) rfl (okWide_bool_mk Echg.underlying4 _))⟩

theorem over : Rows.fnBoolCopyIdempotentAndGobRoundTripsRow.holds Echg.pinned (OpenSpec.ofChange Rows.fnBoolCopyIdempotentAndGobRoundTripsSpec) :=
  OpenClaim.holds_of_wide 7 Echg.f7 rfl rfl rfl rfl rfl rfl rfl ⟨rfl, rfl, rfl, rfl, rfl⟩ rfl rfl rfl rfl rfl (by kernel_rfl) Echg.func7 (by kernel_rfl)
    (of_decide_eq_true (by kernel_rfl)) (by unfold Func.isWrapper; first | (rw [if_pos (by decide +kernel)]; kernel_rfl) | (rw [if_neg (by decide +kernel)]; exact ⟨rfl, rfl⟩))
    (fun os started H enc _ => lifted os started H enc)

/-- THE STATEMENT -/
theorem proved : Rows.FnBoolCopyIdempotentAndGobRoundTripsSaid :=
  over
end Go.Proofs.Yoechw.fnBoolCopyIdempotentAndGobRoundTrips

namespace Go.Proofs.Yoechw
/-- The given statement. -/
theorem fnBoolCopyIdempotentAndGobRoundTrips_proved : Rows.FnBoolCopyIdempotentAndGobRoundTripsSaid := fnBoolCopyIdempotentAndGobRoundTrips.proved
#print axioms fnBoolCopyIdempotentAndGobRoundTrips_proved
end Go.Proofs.Yoechw
