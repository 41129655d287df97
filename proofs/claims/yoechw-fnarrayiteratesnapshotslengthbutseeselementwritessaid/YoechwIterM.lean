import Derived.Test.YoechwIterW
import Derived.Test.YoechwArr
import Derived.RegionTactic
import Derived.BigRegion
namespace Go.Proofs.Yoechw
open Go.RowKit
set_option linter.unusedVariables false

theorem iterM_calls (p : Nat) (ao : Option Addr) (n cp : Nat) (w : World) (h : w.cell? ⟨p, 0, none⟩ = some (.slice ao n cp)) :
    Calls Echg.prog 29 #[.pointer (some ⟨p, 0, none⟩)] w fun e w' => e = .returned (.iface 34 (.pointer (some ⟨w.heap.size, 0, none⟩))) ∧ ∃ m, w' = (w.alloc (.cells #[.slice ao n cp, .int .i64 0, .int .i64 n] 68)).drewN m := by
  go_enter Echg.func29, Echg.ntmps29
  go_wp2
  go_region
  all_goals (try go_wp2)
  all_goals go_ret
  all_goals exact ⟨rfl, 1, rfl⟩

theorem zziter_calls (p : Nat) (ao : Option Addr) (n cp : Nat) (w : World) (h : w.cell? ⟨p, 0, none⟩ = some (.slice ao n cp)) :
    Calls Echg.prog 16 #[.pointer (some ⟨p, 0, none⟩)] w fun e w' => e = .returned (.pointer (some ⟨w.heap.size, 0, none⟩)) ∧ ItAt w' w.heap.size (.slice ao n cp) 0 n ∧ w.grownBy w' none := by
  have hta := assert_iter
  go_enter Echg.func16, Echg.ntmps16
  go_wp2_with (go_at_call 29; refine (iterM_calls p ao n cp _ h).mono ?_; rintro e w' ⟨rfl, m, rfl⟩)
  go_ret
  refine ⟨rfl, ?_, ?_⟩
  · unfold ItAt
    rw [World.heap_drewN]
    exact heap_alloc_new w _
  · have g := World.grownBy_alloc w (.cells #[.slice ao n cp, .int .i64 0, .int .i64 n] 68) none
    exact ⟨g.os, g.tape, g.output, g.size, g.block⟩

theorem grownBy_refl (w : World) (r : Option Nat) : w.grownBy w r := ⟨rfl, rfl, rfl, Nat.le_refl _, fun _ _ _ => rfl⟩
theorem grownBy_trans {a b c : World} {r : Option Nat} (h : a.grownBy b r) (k : b.grownBy c r) : a.grownBy c r :=
  ⟨k.os.trans h.os, k.tape.trans h.tape, k.output.trans h.output, Nat.le_trans h.size k.size, fun i hi hr => (k.block i (Nat.lt_of_lt_of_le hi h.size) hr).trans (h.block i hi hr)⟩
theorem grownBy_some {a b : World} (h : a.grownBy b none) (r : Option Nat) : a.grownBy b r :=
  ⟨h.os, h.tape, h.output, h.size, fun i hi _ => h.block i hi (by simp)⟩
theorem grownBy_drewN (w : World) (m : Nat) (r : Option Nat) : w.grownBy (w.drewN m) r := ⟨rfl, rfl, rfl, Nat.le_refl _, fun _ _ _ => rfl⟩

theorem ItAt.lt {w : World} {it : Nat} {v : Value} {k l : Int} (h : ItAt w it v k l) : it < w.heap.size := (Array.getElem?_eq_some_iff.1 h).1
theorem ItAt.kept {w w' : World} {it : Nat} {v : Value} {k l : Int} (h : ItAt w it v k l) {r : Option Nat} (hg : w.grownBy w' r) (hne : some it ≠ r) : ItAt w' it v k l :=
  (hg.block it h.lt hne).trans h

theorem canIterate_calls (p : Addr) (w : World) :
    Calls Echg.prog 24 #[.pointer (some p)] w fun e w' => e = .returned (.bool true) ∧ w' = w := by
  go_enter Echg.func24, Echg.ntmps24
  go_wp2
  go_ret
  exact ⟨rfl, rfl⟩

set_option maxHeartbeats 400000 in
theorem countNext_calls (it : Nat) (v : Value) (n : Nat) (w : World) (h : ItAt w it v 0 n) (hlim : n ≤ 65536) :
    Calls Echg.prog 25 #[.pointer (some ⟨it, 0, none⟩), .int .i64 n] w fun e w' => e = .returned (.int .i64 n) ∧ w.grownBy w' (some it) := by
  go_enter Echg.func25, Echg.ntmps25
  go_wp2_with fail
  go_loopw [5] (fun i wr => ∃ k : Nat, k ≤ n ∧ i = .int .i64 k ∧ ItAt wr it v k n ∧ w.grownBy wr (some it)) (fun i _ => n - (intOf i).toNat)
  case atStart => exact ⟨0, Nat.zero_le _, rfl, h, grownBy_refl _ _⟩
  case round =>
    obtain ⟨k, hk, rfl, hit, hg⟩ := hrel
    clear h
    by_cases hlt : k < n
    · have hd : decide ((k : Int) + 1 ≤ (n : Int)) = true := decide_eq_true (by omega)
      go_wp2_with (go_at_call 17; refine (zznext_calls it v k n _ hit (by omega) (by omega)).mono ?_; rintro e w' ⟨rfl, hit', hgr⟩)
      go_roundw
      case rel => exact ⟨k + 1, by omega, by go_num, by simpa using hit', grownBy_trans hg hgr⟩
      case measure => simp [intOf]; omega
    · have hkn : k = n := by omega
      subst hkn
      have hd : decide ((k : Int) + 1 ≤ (k : Int)) = false := decide_eq_false (by omega)
      go_wp2_with (go_at_call 17; refine (zznext_calls it v k k _ hit (by omega) (by omega)).mono ?_; rintro e w' ⟨rfl, hit', hgr⟩)
      go_ret
      exact ⟨rfl, grownBy_trans hg hgr⟩

/-- What the laws are told of the slice that came in. -/
def InRow (w : World) (a : Option Addr) (len cap : Nat) (zs : List Int) : Prop :=
  (a = none ∧ len = 0 ∧ cap = 0 ∧ zs = []) ∨
  ∃ x, a = some x ∧ len ≤ cap ∧ cap ≤ maxLen ∧ zs.length = cap ∧ (∀ i, i < zs.length → w.cell? (x.add i) = some (.int .i64 (zs.getD i 0))) ∧ ∀ n ∈ zs, (Lit.int .i64 n).wf = true

theorem clone_any (a : Option Addr) (n cap : Nat) (zs : List Int) (w : World) (hr : InRow w a n cap zs) (hlim : n ≤ 65536) :
    Calls Echg.prog 14 #[.slice a n cap] w fun e w' => ∃ ao, e = .returned (.slice ao n n) ∧ RowAt w' ao n zs ∧ Below w.heap.size w w' := by
  rcases hr with ⟨rfl, rfl, rfl, rfl⟩ | ⟨x, rfl, hl, hm, hz, hc, hwf⟩
  · refine (clone_nil w).mono ?_
    rintro e w' ⟨rfl, rfl⟩
    exact ⟨none, rfl, .inl ⟨rfl, rfl⟩, Below.refl _ _⟩
  · by_cases h0 : n = 0
    · subst h0
      refine (clone_empty x cap w).mono ?_
      rintro e w' ⟨rfl, hb, _⟩
      exact ⟨_, rfl, .inr ⟨_, rfl, fun i hi => absurd hi (Nat.not_lt_zero i)⟩, hb⟩
    · obtain ⟨b, off, spot⟩ := x
      have hspot : spot = none := by simpa [Addr.add] using World.cell?_spot (hc 0 (by omega))
      subst hspot
      refine (clone_calls b off n cap zs w (by omega) hlim (fun i hi => by rw [← Go.WideShapes.add_plain]; exact hc i (by omega))).mono ?_
      rintro e w' ⟨rfl, hcells, hb, _⟩
      exact ⟨_, rfl, .inr ⟨_, rfl, hcells⟩, hb⟩

end Go.Proofs.Yoechw
