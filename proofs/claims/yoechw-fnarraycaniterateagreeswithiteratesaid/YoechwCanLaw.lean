import Derived.Test.YoechwIterM
namespace Go.Proofs.Yoechw
open Go.RowKit
set_option linter.unusedVariables false

set_option maxHeartbeats 400000 in
theorem can_walk (a0 : Option Addr) (n cap : Nat) (zs : List Int) (w : World) (hr : InRow w a0 n cap zs) :
    Calls Echg.prog 6 #[.slice a0 n cap] w fun e w' => e = .returned (.bool true) ∧ Below w.heap.size w w' := by
  by_cases hbig : 1048576 < n
  · go_enter Echg.func6, Echg.ntmps6
    go_wp2_with (go_at_call 23; refine (bytes23_no _ _ _ _ hbig).mono ?_; rintro e w' ⟨rfl, rfl⟩)
    go_ret
    exact ⟨rfl, Below.refl _ _⟩
  by_cases hmid : 65536 < n
  · have hI : (65536 : Int) < (n : Int) := by omega
    go_enter Echg.func6, Echg.ntmps6
    go_wp2_with (go_at_call 23; refine (bytes23_yes _ _ _ _ (by omega)).mono ?_; rintro e w' ⟨rfl, rfl⟩)
    go_ret
    exact ⟨rfl, Below.refl _ _⟩
  have hI : (n : Int) ≤ 65536 := by omega
  go_enter Echg.func6, Echg.ntmps6
  go_wp2_with fail
  refine (bytes23_yes _ _ _ _ (by omega)).mono ?_
  rintro e w' ⟨rfl, rfl⟩
  go_wp2_with fail
  refine (clone_any a0 n cap zs _ hr (by omega)).mono ?_
  rintro e w1 ⟨ao, rfl, hrow, hb1⟩
  go_wp2_with fail
  refine (newArr_any ao n zs _ (by omega) hrow).mono ?_
  rintro e w2 ⟨p, ga, qs, rfl, hp, hobj, hb2, hpB⟩
  go_wp2_with fail
  refine (canIterate_calls _ _).mono ?_
  rintro e w3 ⟨rfl, rfl⟩
  go_wp2_with fail
  refine (zziter_calls p ga n n _ (cell_of_one hp)).mono ?_
  rintro e w4 ⟨rfl, hit, hg⟩
  go_wp2_with fail
  refine (countNext_calls _ _ n _ hit (by omega)).mono ?_
  rintro e w5 ⟨rfl, hg2⟩
  go_wp2_with fail
  go_ret
  refine ⟨rfl, ?_⟩
  have s1 := hb1.size
  have s2 := hb2.size
  have s3 := hg.size
  exact ((hb1.trans (hb2.mono s1)).grown hg (by omega) (fun k hk => by cases hk)).grown hg2 (by omega) (fun k hk => by cases hk; omega)
end Go.Proofs.Yoechw
