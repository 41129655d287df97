import Derived.Test.YoechwRows
import Derived.WalkKit
import Derived.WalkSpells
import Derived.WalkLawsBesides
import Derived.Laws.OwnMore
namespace Go.Proofs.Yoechw
open Go.RowKit
set_option linter.unusedVariables false

theorem eqnil29 (ao : Option Addr) (n c : Nat) (w : World) : (binOp .eql 29 (.slice ao n c) (.slice none 0 0)).run Echg.prog w = .ok (.bool ao.isNone) w := by
  have h : ∀ d : Nat, (Op.equalIn (d + 1) 29 (.slice ao n c) (.slice none 0 0)).run Echg.prog w = .ok ao.isNone w := fun d => by
    cases ao <;> simp [Op.equalIn, run_underlying Echg.underlying29]
  simp only [binOp]
  simp [Op.equal, Op.maxDepth, h 9999]

theorem bytes13_yes (ao : Option Addr) (n c : Nat) (w : World) (h : n ≤ 1048576) :
    Calls Echg.prog 13 #[.slice ao n c] w fun e w' => e = .returned (.bool true) ∧ w' = w := by
  have h1 : (n : Int) ≤ 1048576 := by omega
  go_enter Echg.func13, Echg.ntmps13
  go_wp2
  go_ret
  exact ⟨rfl, rfl⟩
theorem bytes13_no (ao : Option Addr) (n c : Nat) (w : World) (h : 1048576 < n) :
    Calls Echg.prog 13 #[.slice ao n c] w fun e w' => e = .returned (.bool false) ∧ w' = w := by
  have h1 : (1048576 : Int) < (n : Int) := by omega
  go_enter Echg.func13, Echg.ntmps13
  go_wp2
  go_ret
  exact ⟨rfl, rfl⟩
theorem bytes20_yes (ao : Option Addr) (n c : Nat) (i x y : Int) (w : World) (h : n ≤ 1048576) :
    Calls Echg.prog 20 #[.slice ao n c, .int .i64 i, .int .i64 x, .int .i64 y] w fun e w' => e = .returned (.bool true) ∧ w' = w := by
  have h1 : (n : Int) ≤ 1048576 := by omega
  go_enter Echg.func20, Echg.ntmps20
  go_wp2
  go_ret
  exact ⟨rfl, rfl⟩
theorem bytes20_no (ao : Option Addr) (n c : Nat) (i x y : Int) (w : World) (h : 1048576 < n) :
    Calls Echg.prog 20 #[.slice ao n c, .int .i64 i, .int .i64 x, .int .i64 y] w fun e w' => e = .returned (.bool false) ∧ w' = w := by
  have h1 : (1048576 : Int) < (n : Int) := by omega
  go_enter Echg.func20, Echg.ntmps20
  go_wp2
  go_ret
  exact ⟨rfl, rfl⟩
theorem bytes23_yes (ao : Option Addr) (n c : Nat) (w : World) (h : n ≤ 1048576) :
    Calls Echg.prog 23 #[.slice ao n c] w fun e w' => e = .returned (.bool true) ∧ w' = w := by
  have h1 : (n : Int) ≤ 1048576 := by omega
  go_enter Echg.func23, Echg.ntmps23
  go_wp2
  go_ret
  exact ⟨rfl, rfl⟩
theorem bytes23_no (ao : Option Addr) (n c : Nat) (w : World) (h : 1048576 < n) :
    Calls Echg.prog 23 #[.slice ao n c] w fun e w' => e = .returned (.bool false) ∧ w' = w := by
  have h1 : (1048576 : Int) < (n : Int) := by omega
  go_enter Echg.func23, Echg.ntmps23
  go_wp2
  go_ret
  exact ⟨rfl, rfl⟩

theorem clone_nil (w : World) :
    Calls Echg.prog 14 #[.slice none 0 0] w fun e w' => e = .returned (.slice none 0 0) ∧ w' = w := by
  have hnil := eqnil29
  go_enter Echg.func14, Echg.ntmps14
  go_wp2
  go_ret
  exact ⟨rfl, rfl⟩

theorem info2 : (Echg.prog.info? 2).map (fun i => (i.zero, i.size, i.bytes)) = some (some (.int .i64 0), 1, 8) := by kernel_rfl

/-- What the copy loop keeps: a row of n cells at the head of block B, whose first k are the numbers zs. -/
def Copied (w wr : World) (B n k : Nat) (zs : List Int) : Prop :=
  ∃ xs, wr.ownsRow B 2 1 (.slice (some ⟨B, 0, none⟩) n n) n xs ∧ (∀ j, j < k → xs[j]? = some (.int .i64 (zs.getD j 0))) ∧ Below B w wr

theorem Copied.there {w wr : World} {B n k : Nat} {zs : List Int} (h : Copied w wr B n k zs) (hk : k < n) : (∃ u, wr.cell? ⟨B, k, none⟩ = some u) ∧ wr.frozen? ⟨B, k, none⟩ = false := by
  obtain ⟨xs, ho, hx, hb⟩ := h
  refine ⟨⟨xs[k]'(by have := ho.1; omega), ?_⟩, ho.frozenAt k⟩
  rw [ho.cellAt k (by omega)]
  simp

theorem Copied.step {w wr : World} {B n k : Nat} {zs : List Int} (h : Copied w wr B n k zs) (hk : k < n) : Copied w (wr.setCell ⟨B, k, none⟩ (.int .i64 (zs.getD k 0))) B n (k + 1) zs := by
  obtain ⟨xs, ho, hx, hb⟩ := h
  have hl := ho.1
  obtain ⟨s1, s2⟩ := ho.stored k (.int .i64 (zs.getD k 0))
  refine ⟨_, s1, ?_, hb.setCell (Nat.le_refl _) _⟩
  intro j hj
  rw [List.getElem?_set]
  by_cases e : k = j
  · subst e
    rw [if_pos rfl, if_pos (by omega)]
  · rw [if_neg e]
    exact hx j (by omega)

theorem Copied.cells {w wr : World} {B n : Nat} {zs : List Int} (h : Copied w wr B n n zs) : (∀ i, i < n → wr.cell? ⟨B, i, none⟩ = some (.int .i64 (zs.getD i 0))) ∧ Below B w wr ∧ B < wr.heap.size := by
  obtain ⟨xs, ho, hx, hb⟩ := h
  refine ⟨fun i hi => ?_, hb, (ho.lt B rfl).2⟩
  rw [ho.cellAt i (by omega)]
  exact hx i hi

set_option maxHeartbeats 400000 in
theorem clone_calls (b off n cap : Nat) (zs : List Int) (w : World) (hn : n ≤ zs.length) (hlim : n ≤ 65536)
    (hc : ∀ i, i < n → w.cell? ⟨b, off + i, none⟩ = some (.int .i64 (zs.getD i 0))) :
    Calls Echg.prog 14 #[.slice (some ⟨b, off, none⟩) n cap] w fun e w' => e = .returned (.slice (some ⟨w.heap.size, 0, none⟩) n n) ∧
      (∀ i, i < n → w'.cell? ⟨w.heap.size, i, none⟩ = some (.int .i64 (zs.getD i 0))) ∧ Below w.heap.size w w' ∧ w.heap.size < w'.heap.size := by
  have hnil := eqnil29
  have hbB : 0 < n → b < w.heap.size := fun h => World.block_lt_of_cell? w _ (hc 0 h)
  obtain ⟨i0, hi, hz0, hz1, hz2⟩ := info_parts info2
  go_enter Echg.func14, Echg.ntmps14
  go_wp2_with (at_make; refine wpList_make_full _ rfl _ _ 29 rfl w.heap.size 2 i0 (.int .i64 0) 1 Echg.underlying29 hi hz0 hz1 .i64 .i64 _ _ n rfl rfl rfl rfl (by rw [hz2]; omega) (by unfold maxLen; omega) (Nat.le_refl _) ?_; intro w1 hown hgrow)
  have H0 : Copied w w1 w.heap.size n 0 zs := ⟨_, hown, fun j hj => absurd hj (Nat.not_lt_zero j), (Below.refl _ _).grown hgrow (Nat.le_refl _) (fun k hk => by cases hk)⟩
  clear hown hgrow hi hz0 hz1 hz2
  have HC : Hid (∀ i, i < n → w.cell? ⟨b, off + i, none⟩ = some (.int .i64 (zs.getD i 0))) := hc
  clear hc
  go_loopw [4] (fun i wr => ∃ k : Nat, k ≤ n ∧ i = .int .i64 k ∧ Copied w wr w.heap.size n k zs) (fun i _ => n - (intOf i).toNat)
  case atStart => exact ⟨0, Nat.zero_le _, rfl, H0⟩
  case round =>
    obtain ⟨k, hk, rfl, hrel⟩ := hrel
    by_cases hlt : k < n
    · obtain ⟨⟨u, hu⟩, hfr⟩ := hrel.there hlt
      have hB : Below w.heap.size w wr := by obtain ⟨_, _, _, hb⟩ := hrel; exact hb
      have hcx : wr.cell? ⟨b, off + k, none⟩ = some (.int .i64 (zs.getD k 0)) := (hB.cell (p := ⟨b, off + k, none⟩) (hbB (by omega))).trans (HC.out k hlt)
      have R := hrel.step hlt
      clear hB hbB H0 hrel hnil
      go_wp2
      go_roundw
      case rel => exact ⟨k + 1, by omega, by go_num, R⟩
      case measure => simp [intOf]; omega
    · have hkn : k = n := by omega
      subst hkn
      have R := hrel.cells
      clear hrel H0 hbB hnil
      go_wp2
      go_ret
      exact ⟨rfl, R⟩

set_option maxHeartbeats 400000 in
theorem clone_empty (ad : Addr) (cap : Nat) (w : World) :
    Calls Echg.prog 14 #[.slice (some ad) 0 cap] w fun e w' => e = .returned (.slice (some ⟨w.heap.size, 0, none⟩) 0 0) ∧ Below w.heap.size w w' ∧ w.heap.size < w'.heap.size := by
  have hnil := eqnil29
  obtain ⟨i0, hi, hz0, hz1, hz2⟩ := info_parts info2
  go_enter Echg.func14, Echg.ntmps14
  go_wp2_with (at_make; refine wpList_make_full _ rfl _ _ 29 rfl w.heap.size 2 i0 (.int .i64 0) 1 Echg.underlying29 hi hz0 hz1 .i64 .i64 _ _ 0 rfl rfl rfl rfl (by rw [hz2]; omega) (by unfold maxLen; omega) (Nat.le_refl _) ?_; intro w1 hown hgrow)
  have H1 : w.heap.size < w1.heap.size := (hown.lt _ rfl).2
  have B0 : Below w.heap.size w w1 := (Below.refl _ _).grown hgrow (Nat.le_refl _) (fun k hk => by cases hk)
  clear hown hgrow
  refine wp_loop_rounds 1 ?_
  rw [rounds_succ]
  go_wp2
  go_ret
  exact ⟨rfl, B0, H1⟩
end Go.Proofs.Yoechw
