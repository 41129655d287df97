import Derived.Test.YoechwScene
namespace Go.Proofs.Yoechw
open Go.RowKit
set_option linter.unusedVariables false

set_option maxHeartbeats 1000000 in
theorem yield_walk (a0 : Option Addr) (n cap : Nat) (zs : List Int) (w : World) (hr : InRow w a0 n cap zs) :
    Calls Echg.prog 4 #[.slice a0 n cap] w fun e w' => e = .returned (.bool true) ∧ Below w.heap.size w w' := by
  by_cases hbig : 1048576 < n
  · go_enter Echg.func4, Echg.ntmps4
    go_wp2_with (go_at_call 13; refine (bytes13_no _ _ _ _ hbig).mono ?_; rintro e w' ⟨rfl, rfl⟩)
    go_ret
    exact ⟨rfl, Below.refl _ _⟩
  by_cases hmid : 65536 < n
  · have hI : (65536 : Int) < (n : Int) := by omega
    go_enter Echg.func4, Echg.ntmps4
    go_wp2_with (go_at_call 13; refine (bytes13_yes _ _ _ _ (by omega)).mono ?_; rintro e w' ⟨rfl, rfl⟩)
    go_ret
    exact ⟨rfl, Below.refl _ _⟩
  have hI : decide ((65536 : Int) < (n : Int)) = false := decide_eq_false (by omega)
  have hlim : n ≤ 65536 := by omega
  clear hbig hmid
  go_enter Echg.func4, Echg.ntmps4
  go_wp2_with fail
  refine (bytes13_yes _ _ _ _ (by omega)).mono ?_
  rintro e w' ⟨rfl, rfl⟩
  go_wp2_with fail
  refine (clone_any a0 n cap zs _ hr hlim).mono ?_
  rintro e w1 ⟨ao, rfl, hrow, hb1⟩
  clear hr
  go_wp2_with fail
  refine (newArr_any ao n zs _ hlim hrow).mono ?_
  rintro e w2 ⟨p, ga, qs, rfl, hp, hobj, hb2, hpB⟩
  go_wp2_with fail
  refine (zziter_calls p ga n n _ (cell_of_one hp)).mono ?_
  rintro e w4 ⟨rfl, hit, hg⟩
  go_wp2_with fail
  have hbel : Below w'.heap.size w' w4 := (hb1.trans (hb2.mono hb1.size)).grown hg (by have := hb1.size; have := hb2.size; omega) (fun k hk => by cases hk)
  have hitB : w'.heap.size ≤ w2.heap.size := by have := hb1.size; have := hb2.size; omega
  obtain ⟨hrow4, hobj4⟩ := scene_new (hrow.kept (w' := w2) (r := none) ⟨hb2.os, hb2.tape, hb2.output, hb2.size, fun k hk _ => hb2.block k hk⟩ (fun b _ _ => by simp)) hobj hg
  clear hrow hobj hb1 hb2 hg hp
  generalize w2.heap.size = it at *
  go_loopw [5] (fun i wr => ∃ k : Nat, k ≤ n ∧ i = .int .i64 k ∧ RowAt wr ao n zs ∧ ObjsAt wr w1.heap.size (.slice ga n n) n qs zs ∧ ItAt wr it (.slice ga n n) k n ∧ Below w'.heap.size w' wr) (fun i _ => n - (intOf i).toNat)
  case atStart => exact ⟨0, Nat.zero_le _, rfl, hrow4, hobj4, hit, hbel⟩
  case round =>
    clear hrow4 hobj4 hit hbel
    obtain ⟨k, hk, rfl, hrow, hobj, hit, hbel⟩ := hrel
    by_cases hlt : k < n
    · have hd : decide ((k : Int) + 1 ≤ (n : Int)) = true := decide_eq_true (by omega)
      rcases hrow with ⟨_, h0⟩ | ⟨b, rfl, hcz⟩
      · omega
      have hrow : RowAt wr (some ⟨b, 0, none⟩) n zs := .inr ⟨b, rfl, hcz⟩
      clear hcz
      obtain ⟨g, cp, hv, hcg⟩ := hobj.form (by omega)
      simp only [Value.slice.injEq, true_and] at hv
      obtain ⟨rfl, rfl⟩ := hv
      clear hcg
      go_wp2_with fail
      refine (zznext_calls it _ k n _ hit (by omega) (by omega)).mono ?_
      rintro e w1' ⟨rfl, hit1, hg1⟩
      obtain ⟨hrow1, hobj1⟩ := scene_kept hrow hobj hit hg1
      have hbel1 := hbel.grown hg1 (by have := hbel.size; omega) (fun k hk => by cases hk; exact hitB)
      clear hrow hobj hit hbel hg1
      go_wp2_with fail
      refine (zzkey_calls it _ _ n _ hit1 (by omega) (by omega)).mono ?_
      rintro e w2' ⟨rfl, rfl⟩
      go_wp2_with fail
      obtain ⟨hrow2, hobj2⟩ := scene_new hrow1 hobj1 (World.grownBy_alloc w1' (.cells #[.int .i64 k] 42) none)
      have hit2 := hit1.alloc (.cells #[.int .i64 k] 42)
      have hbel2 := hbel1.alloc (by have := hbel1.size; omega) (.cells #[.int .i64 k] 42)
      clear hrow1 hobj1 hit1 hbel1
      obtain ⟨q, hq1, hq2⟩ := hobj2.at k hlt
      have hz := hrow2.at k hlt
      have hkI : (k : Int) < (n : Int) := by omega
      refine (zzvalue_calls it g n n q k n _ hit2 hlt (by omega) hq1).mono ?_
      rintro e w3' ⟨rfl, m, rfl⟩
      clear hq1
      go_wp2
      go_quiet (fail)
      go_wp2
      go_roundw
      case rel => exact ⟨k + 1, by omega, by go_num, hrow2.kept (grownBy_drewN _ _ none) (fun b _ _ => by simp), (scene_new hrow2 hobj2 (grownBy_drewN _ _ none)).2, hit2, hbel2.trans ⟨rfl, rfl, rfl, Nat.le_refl _, fun _ _ => rfl⟩⟩
      case measure => simp [intOf]; omega
    · have hkn : k = n := by omega
      subst hkn
      have hd : decide ((k : Int) + 1 ≤ (k : Int)) = false := decide_eq_false (by omega)
      have hd2 : decide ((k : Int) + 1 + 1 ≤ (k : Int)) = false := decide_eq_false (by omega)
      go_wp2_with fail
      refine (zznext_calls it _ k k _ hit (by omega) (by omega)).mono ?_
      rintro e w1' ⟨rfl, hit1, hg1⟩
      have hbel1 := hbel.grown hg1 (by have := hbel.size; omega) (fun k hk => by cases hk; exact hitB)
      clear hrow hobj hit hbel hg1
      go_wp2_with fail
      refine (zznext_calls it _ _ k _ hit1 (by omega) (by omega)).mono ?_
      rintro e w2' ⟨rfl, hit2, hg2⟩
      have hbel2 := hbel1.grown hg2 (by have := hbel1.size; omega) (fun k hk => by cases hk; exact hitB)
      clear hbel1 hg2 hit1 hit2
      go_wp2_with fail
      go_ret
      exact ⟨rfl, hbel2⟩
end Go.Proofs.Yoechw
