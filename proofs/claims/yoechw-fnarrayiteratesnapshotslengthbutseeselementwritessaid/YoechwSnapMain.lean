import Derived.Test.YoechwSnapLaw
namespace Go.Proofs.Yoechw
open Go.RowKit
set_option linter.unusedVariables false

set_option maxHeartbeats 1000000 in
theorem snap_main (a0 : Option Addr) (n cap j : Nat) (zs : List Int) (x y : Int) (w : World) (hr : InRow w a0 n cap zs) (hlim : n ≤ 65536) (hj : j < n) :
    Calls Echg.prog 5 #[.slice a0 n cap, .int .i64 j, .int .i64 x, .int .i64 y] w fun e w' => e = .returned (.bool true) ∧ Below w.heap.size w w' := by
  have hI : decide ((65536 : Int) < (n : Int)) = false := decide_eq_false (by omega)
  have hd0 : decide ((j : Int) < 0) = false := decide_eq_false (by omega)
  have hd1 : decide ((n : Int) ≤ (j : Int)) = false := decide_eq_false (by omega)
  have hzl := hr.len
  go_enter Echg.func5, Echg.ntmps5
  go_wp2_with fail
  refine (bytes20_yes _ _ _ _ _ _ _ (by omega)).mono ?_
  rintro e w' ⟨rfl, rfl⟩
  go_wp2_with fail
  refine (clone_any a0 n cap zs _ hr hlim).mono ?_
  rintro e w1 ⟨ao, rfl, hrow, hb1⟩
  clear hr
  go_wp2_with fail
  refine (newArr_any ao n zs _ hlim hrow).mono ?_
  rintro e w2 ⟨p, ga, qs, rfl, hp, hobj, hb2, hpB⟩
  go_wp2_with fail
  refine (zziter_calls p ga n n _ (cell_of_one hp)).mono ?_
  rintro e w3 ⟨rfl, hit, hg⟩
  obtain ⟨hrow3, hobj3⟩ := scene_new (hrow.kept (w' := w2) (r := none) ⟨hb2.os, hb2.tape, hb2.output, hb2.size, fun k hk _ => hb2.block k hk⟩ (fun b _ _ => by simp)) hobj hg
  have hp3 := head_kept hp hg (by simp)
  have hbel3 : Below w'.heap.size w' w3 := (hb1.trans (hb2.mono hb1.size)).grown hg (by have := hb1.size; have := hb2.size; omega) (fun k hk => by cases hk)
  have hitB : w'.heap.size ≤ w2.heap.size := by have := hb1.size; have := hb2.size; omega
  have hpB' : w'.heap.size ≤ p := by have := hb1.size; omega
  have hB' : w'.heap.size ≤ w1.heap.size := hb1.size
  clear hrow hobj hg hp hpB hb1 hb2
  generalize w2.heap.size = it at *
  generalize w1.heap.size = B at *
  obtain ⟨g, cp, hv, _⟩ := hobj3.form (by omega)
  simp only [Value.slice.injEq, true_and] at hv
  obtain ⟨rfl, rfl⟩ := hv
  have hgB : w'.heap.size ≤ g := by have := (hobj3.row.lt g rfl).1; omega
  go_wp2_with fail
  refine (setInt_calls p g n n j B qs (zs.take n) x _ hp3 hobj3.take (by rw [List.length_take]; omega) hj hlim).mono ?_
  rintro e w4 ⟨rfl, hobj4, hg4⟩
  have hrow4 := hrow3.kept hg4 (hrow3.far_objs hobj3 (by omega))
  have hit4 := hit.kept hg4 (fun e => (hobj3.far hit).1 e.symm)
  have hp4 := head_kept hp3 hg4 (fun e => (hobj3.far_head hp3).1 e.symm)
  have hbel4 := hbel3.grown hg4 (by have := hbel3.size; omega) (fun k hk => by cases hk; exact hgB)
  clear hrow3 hobj3 hit hp3 hbel3 hg4
  go_wp2_with fail
  refine (appInt_calls p g n B _ _ y _ hp4 hobj4 (want_len zs n j x hzl) hlim).mono ?_
  rintro e w5 ⟨rfl, g2, cp2, hp5, hnew5, hg5⟩
  have hrow5 := hrow4.kept hg5 (hrow4.far_head hp4)
  have hobj5 := hobj4.kept hg5 (.inr (hobj4.far_head hp4).1) (hobj4.far_head hp4).2
  have hit5 := hit4.kept hg5 (hit4.ne_head hp4)
  have hbel5 := hbel4.grown hg5 (by have := hbel4.size; omega) (fun k hk => by cases hk; exact hpB')
  clear hrow4 hobj4 hit4 hp4 hbel4 hg5
  have HO : Hid (∀ k, k < n → ((zs.take n).set j x).getD k 0 = if k = j then x else zs.getD k 0) := fun k hk => want_old zs n j k x hzl hj hk
  have HN : Hid (∀ k, k < n → ((zs.take n).set j x ++ [y]).getD k 0 = if k = j then x else zs.getD k 0) := fun k hk => want_new zs n j k x y hzl hj hk
  have HL : Hid (((zs.take n).set j x ++ [y]).getD n 0 = y) := want_last zs n j x y hzl
  generalize (zs.take n).set j x ++ [y] = us at *
  generalize (zs.take n).set j x = ys at *
  generalize qs.set j w3.heap.size ++ [w4.heap.size] = qn at *
  generalize qs.set j w3.heap.size = qo at *
  generalize w4.heap.size = B2 at *
  rcases hrow5 with ⟨_, h0⟩ | ⟨b, rfl, hcz⟩
  · omega
  have hrow5 : RowAt w5 (some ⟨b, 0, none⟩) n zs := .inr ⟨b, rfl, hcz⟩
  clear hcz hgB hB'
  go_wp2_with fail
  clear hI hd0 hd1
  go_loopw [11] (fun i wr => ∃ k : Nat, k ≤ n ∧ i = .int .i64 k ∧ RowAt wr (some ⟨b, 0, none⟩) n zs ∧ ObjsAt wr B (.slice (some ⟨g, 0, none⟩) n n) n qo ys ∧ ItAt wr it (.slice (some ⟨g, 0, none⟩) n n) k n ∧
      wr.heap[p]? = some (.cells #[.slice (some ⟨g2, 0, none⟩) (n + 1) cp2] 61 (0, 0)) ∧ ObjsAt wr B2 (.slice (some ⟨g2, 0, none⟩) (n + 1) cp2) (n + 1) qn us ∧ Below w'.heap.size w' wr) (fun i _ => n - (intOf i).toNat)
  case atStart => exact ⟨0, Nat.zero_le _, rfl, hrow5, hobj5, hit5, hp5, hnew5, hbel5⟩
  case round =>
    clear hrow5 hobj5 hit5 hp5 hnew5 hbel5
    obtain ⟨k, hk, rfl, hrow, hobj, hit, hp, hnew, hbel⟩ := hrel
    by_cases hlt : k < n
    · have hd : decide ((k : Int) + 1 ≤ (n : Int)) = true := decide_eq_true (by omega)
      have hkI : (k : Int) < (n : Int) := by omega
      have hz := hrow.at k hlt
      have HR : Hid (wr.heap[p]? = some (.cells #[.slice (some ⟨g2, 0, none⟩) (n + 1) cp2] 61 (0, 0))) := hp
      clear hp
      rcases test_cases k j (HO.out k hlt) with ⟨hb, HV⟩ | ⟨hb, HV⟩
      all_goals
        go_wp2_with fail
        refine (zznext_calls it _ k n _ hit (by omega) (by omega)).mono ?_
        rintro e wa ⟨rfl, hit1, hg1⟩
        obtain ⟨hrow1, hobj1⟩ := scene_kept hrow hobj hit hg1
        have hnew1 := hnew.kept hg1 (.inr (hnew.far hit).1) (hnew.far hit).2
        have HR1 : Hid (wa.heap[p]? = some (.cells #[.slice (some ⟨g2, 0, none⟩) (n + 1) cp2] 61 (0, 0))) := head_kept HR.out hg1 (fun e => hit.ne_head HR.out e.symm)
        have hbel1 := hbel.grown hg1 (by have := hbel.size; omega) (fun k hk => by cases hk; exact hitB)
        clear hrow hobj hit hnew HR hbel hg1 hz
        obtain ⟨q, hq1, hq2⟩ := hobj1.at k hlt
        rw [HV.out] at hq2
        go_wp2_with fail
        refine (zzvalue_calls it g n n q k n _ hit1 hlt (by omega) hq1).mono ?_
        rintro e wb ⟨rfl, m, rfl⟩
        clear hq1
        go_wp2_with fail
        go_roundw
        case rel => exact ⟨k + 1, by omega, by go_num, (scene_new hrow1 hobj1 (grownBy_drewN _ _ none)).1, (scene_new hrow1 hobj1 (grownBy_drewN _ _ none)).2, hit1, HR1.out, (scene_new hrow1 hnew1 (grownBy_drewN _ _ none)).2, hbel1.trans ⟨rfl, rfl, rfl, Nat.le_refl _, fun _ _ => rfl⟩⟩
        case measure => simp [intOf]; omega
    · have hkn : n = k := by omega
      subst hkn
      have hd : decide ((n : Int) + 1 ≤ (n : Int)) = false := decide_eq_false (by omega)
      go_wp2_with fail
      refine (zznext_calls it _ n n _ hit (by omega) (by omega)).mono ?_
      rintro e wa ⟨rfl, hit1, hg1⟩
      obtain ⟨hrow1, hobj1⟩ := scene_kept hrow hobj hit hg1
      have hnew1 := hnew.kept hg1 (.inr (hnew.far hit).1) (hnew.far hit).2
      have hp1 := head_kept hp hg1 (fun e => hit.ne_head hp e.symm)
      have hbel1 := hbel.grown hg1 (by have := hbel.size; omega) (fun k hk => by cases hk; exact hitB)
      clear hrow hobj hit hnew hp hbel hg1 hobj1 hit1 HO hitB hk hlt hpB'
      go_wp2_with fail
      refine (zziter_calls p _ (n + 1) cp2 _ (cell_of_one hp1)).mono ?_
      rintro e wb ⟨rfl, hit2, hg2⟩
      obtain ⟨hrow2, hnew2⟩ := scene_new hrow1 hnew1 hg2
      have hbel2 := hbel1.grown hg2 (by have := hbel1.size; omega) (fun k hk => by cases hk)
      have hitB2 : w'.heap.size ≤ wa.heap.size := hbel1.size
      have hit3 : ItAt wb wa.heap.size (.slice (some ⟨g2, 0, none⟩) (n + 1) cp2) 0 ((n : Int) + 1) := by simpa using hit2
      clear hrow1 hnew1 hp1 hbel1 hg2 hit2 hd
      generalize wa.heap.size = it2 at *
      go_wp2_with fail
      go_loopw [15] (fun i wr => ∃ k : Nat, k ≤ n ∧ i = .int .i64 k ∧ RowAt wr (some ⟨b, 0, none⟩) n zs ∧ ItAt wr it2 (.slice (some ⟨g2, 0, none⟩) (n + 1) cp2) k ((n : Int) + 1) ∧
          ObjsAt wr B2 (.slice (some ⟨g2, 0, none⟩) (n + 1) cp2) (n + 1) qn us ∧ Below w'.heap.size w' wr) (fun i _ => n - (intOf i).toNat)
      case atStart => exact ⟨0, Nat.zero_le _, rfl, hrow2, hit3, hnew2, hbel2⟩
      case round =>
        clear hrow2 hit3 hnew2 hbel2
        obtain ⟨k, hk, rfl, hrow, hit, hobj, hbel⟩ := hrel
        by_cases hlt : k < n
        · have hd : decide ((k : Int) + 1 ≤ (n : Int) + 1) = true := decide_eq_true (by omega)
          have hkI : (k : Int) < (n : Int) := by omega
          have hz := hrow.at k hlt
          rcases test_cases k j (HN.out k hlt) with ⟨hb, HV⟩ | ⟨hb, HV⟩
          all_goals
            go_wp2_with fail
            refine (zznext_calls it2 _ k _ _ hit (by omega) (by omega)).mono ?_
            rintro e wc ⟨rfl, hit1, hg1⟩
            obtain ⟨hrow1, hobj1⟩ := scene_kept hrow hobj hit hg1
            have hbel1 := hbel.grown hg1 (by have := hbel.size; omega) (fun k hk => by cases hk; exact hitB2)
            clear hrow hobj hit hbel hg1 hz
            obtain ⟨q, hq1, hq2⟩ := hobj1.at k (by omega)
            rw [HV.out] at hq2
            go_wp2_with fail
            refine (zzvalue_calls it2 g2 (n + 1) cp2 q k _ _ hit1 (by omega) (by omega) hq1).mono ?_
            rintro e wd ⟨rfl, m, rfl⟩
            clear hq1
            go_wp2_with fail
            go_roundw
            case rel => exact ⟨k + 1, by omega, by go_num, (scene_new hrow1 hobj1 (grownBy_drewN _ _ none)).1, hit1, (scene_new hrow1 hobj1 (grownBy_drewN _ _ none)).2, hbel1.trans ⟨rfl, rfl, rfl, Nat.le_refl _, fun _ _ => rfl⟩⟩
            case measure => simp [intOf]; omega
        · have hkn : n = k := by omega
          subst hkn
          have hd : decide ((n : Int) + 1 ≤ (n : Int) + 1) = true := decide_eq_true (by omega)
          go_wp2_with fail
          refine (zznext_calls it2 _ n _ _ hit (by omega) (by omega)).mono ?_
          rintro e wc ⟨rfl, hit1, hg1⟩
          obtain ⟨hrow1, hobj1⟩ := scene_kept hrow hobj hit hg1
          have hbel1 := hbel.grown hg1 (by have := hbel.size; omega) (fun k hk => by cases hk; exact hitB2)
          clear hrow hobj hit hbel hg1 hk hlt HN
          go_wp2_with fail
          refine (zzkey_calls it2 _ _ _ _ hit1 (by omega) (by omega)).mono ?_
          rintro e wd ⟨rfl, rfl⟩
          go_wp2_with fail
          obtain ⟨hrow2, hobj2⟩ := scene_new hrow1 hobj1 (World.grownBy_alloc wc (.cells #[.int .i64 n] 42) none)
          have hit2 := hit1.alloc (.cells #[.int .i64 n] 42)
          have hbel2 := hbel1.alloc (by have := hbel1.size; omega) (.cells #[.int .i64 n] 42)
          clear hrow1 hobj1 hit1 hbel1 hrow2 hd
          obtain ⟨q, hq1, hq2⟩ := hobj2.at n (by omega)
          rw [HL.out] at hq2
          refine (zzvalue_calls it2 g2 (n + 1) cp2 q n _ _ hit2 (by omega) (by omega) hq1).mono ?_
          rintro e we ⟨rfl, m, rfl⟩
          clear hq1
          go_wp2_with fail
          have hit3 : ItAt ((wc.alloc (.cells #[.int .i64 n] 42)).drewN m) it2 (.slice (some ⟨g2, 0, none⟩) (n + 1) cp2) ((n : Int) + 1) ((n : Int) + 1) := hit2
          have hd2 : decide ((n : Int) + 1 ≤ (n : Int)) = false := decide_eq_false (by omega)
          refine (zznext_calls it2 _ _ _ _ hit3 (by omega) (by omega)).mono ?_
          rintro e wf ⟨rfl, hit4, hg4⟩
          have hbel4 : Below w'.heap.size w' wf := (hbel2.trans (below_drewN (Below.refl _ _) m)).grown hg4 (by have := hbel2.size; simpa using this) (fun k hk => by cases hk; exact hitB2)
          clear hobj2 hit2 hbel2 hit3 hit4 hg4 hq2
          go_wp2_with fail
          go_ret
          exact ⟨rfl, hbel4⟩

theorem snap_walk (a0 : Option Addr) (n cap : Nat) (zs : List Int) (idx x y : Int) (w : World) (hr : InRow w a0 n cap zs) :
    Calls Echg.prog 5 #[.slice a0 n cap, .int .i64 idx, .int .i64 x, .int .i64 y] w fun e w' => e = .returned (.bool true) ∧ Below w.heap.size w w' := by
  by_cases h : 65536 < n ∨ idx < 0 ∨ (n : Int) ≤ idx
  · exact snap_early a0 n cap idx x y w h
  · obtain ⟨j, rfl⟩ := Int.eq_ofNat_of_zero_le (show 0 ≤ idx by omega)
    exact snap_main a0 n cap j zs x y w hr (by omega) (by omega)

end Go.Proofs.Yoechw
