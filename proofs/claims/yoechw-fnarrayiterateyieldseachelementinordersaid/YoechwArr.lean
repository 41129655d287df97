import Derived.Test.YoechwClone
namespace Go.Proofs.Yoechw
open Go.RowKit
set_option linter.unusedVariables false

/-- The interface value that holds a pointer to the Int in block q. -/
def objAt (q : Nat) : Value := .iface 37 (.pointer (some ⟨q, 0, none⟩))

/-- A slice of n numbers: nil and empty, or at the head of a block, the numbers zs. -/
def RowAt (w : World) (ao : Option Addr) (n : Nat) (zs : List Int) : Prop :=
  (ao = none ∧ n = 0) ∨ ∃ b, ao = some ⟨b, 0, none⟩ ∧ ∀ i, i < n → w.cell? ⟨b, i, none⟩ = some (.int .i64 (zs.getD i 0))

/-- A slice of n interface values that lead to the Ints zs. -/
structure ObjsAt (w : World) (B : Nat) (v : Value) (n : Nat) (qs : List Nat) (zs : List Int) : Prop where
  row : w.ownsRow B 57 1 v n (qs.map objAt)
  len : qs.length = n
  ints : ∀ j, j < n → w.cell? ⟨qs.getD j 0, 0, none⟩ = some (.int .i64 (zs.getD j 0))

theorem ObjsAt.form {w : World} {B : Nat} {v : Value} {n : Nat} {qs : List Nat} {zs : List Int} (h : ObjsAt w B v n qs zs) (hn : 0 < n) :
    ∃ g cp, v = .slice (some ⟨g, 0, none⟩) n cp ∧ ∀ j, j < n → w.cell? ⟨g, j, none⟩ = some (objAt (qs.getD j 0)) := by
  rcases h.row.2 with ⟨_, h0⟩ | ⟨g, cp, cur, hv, _⟩
  · omega
  · refine ⟨g, cp, hv, fun j hj => ?_⟩
    have hr := h.row
    rw [hv] at hr
    rw [hr.cellAt j (by omega)]
    have hl := h.len
    rw [List.getElem?_map, List.getD_eq_getElem?_getD, List.getElem?_eq_getElem (by omega)]
    rfl

theorem ObjsAt.ne {w : World} {B : Nat} {v : Value} {n : Nat} {qs : List Nat} {zs : List Int} (h : ObjsAt w B v n qs zs) (j : Nat) (hj : j < n) : v.ownBlock ≠ some (qs.getD j 0) := by
  obtain ⟨g, cp, hv, hc⟩ := h.form (by omega)
  rw [hv]
  intro e
  have eg : g = qs.getD j 0 := by simpa [Value.ownBlock] using e
  have h1 := hc 0 (by omega)
  have h2 := h.ints j hj
  rw [← eg, h1] at h2
  cases h2

/-- What lies in other blocks than the one that is written stays. -/
theorem ObjsAt.kept {w w' : World} {B : Nat} {v : Value} {n : Nat} {qs : List Nat} {zs : List Int} (h : ObjsAt w B v n qs zs) {row : Option Nat} (hg : w.grownBy w' row)
    (h1 : v.ownBlock = none ∨ v.ownBlock ≠ row) (h2 : ∀ j, j < n → some (qs.getD j 0) ≠ row) : ObjsAt w' B v n qs zs :=
  ⟨h.row.kept hg h1, h.len, fun j hj => hg.cell (h.ints j hj) (h2 j hj)⟩

theorem info57 : (Echg.prog.info? 57).map (fun i => (i.zero, i.size, i.bytes)) = some (some .nilIface, 1, 16) := by kernel_rfl

/-- One round of the building loop: a new Int, and the append of it. -/
theorem ObjsAt.push {w w' : World} {B g n k : Nat} {qs : List Nat} {zs : List Int} {z : Int} {c : Array Value} {t : TypeId}
    (h : ObjsAt w B (.slice (some ⟨g, 0, none⟩) k n) k qs zs) (hz : z = zs.getD k 0)
    (hown : w'.ownsRow B 57 1 (.slice (some ⟨g, 0, none⟩) (k + 1) n) (k + 1) (qs.map objAt ++ [objAt w.heap.size]))
    (hgrow : ((w.alloc (.cells #[.int .i64 z] 42)).alloc (.cells c t)).grownBy w' (some g)) (hg : g < w.heap.size) :
    ObjsAt w' B (.slice (some ⟨g, 0, none⟩) (k + 1) n) (k + 1) (qs ++ [w.heap.size]) zs := by
  have hl := h.len
  refine ⟨by simpa using hown, by simp [hl], fun j hj => ?_⟩
  by_cases e : j < k
  · rw [List.getD_eq_getElem?_getD, List.getElem?_append_left (by omega), ← List.getD_eq_getElem?_getD]
    refine hgrow.cell ?_ ?_
    · have a1 := (World.grownBy_alloc w (.cells #[.int .i64 z] 42) none).cell (h.ints j e) (by simp)
      exact (World.grownBy_alloc _ (.cells c t) none).cell a1 (by simp)
    · have := h.ne j e
      simpa [Value.ownBlock] using fun x => this (by simp [Value.ownBlock, x])
  · have ej : j = k := by omega
    subst ej
    rw [List.getD_eq_getElem?_getD, List.getElem?_append_right (by omega)]
    simp only [hl, Nat.sub_self, List.getElem?_cons_zero, Option.getD_some]
    refine hgrow.cell ?_ ?_
    · rw [← hz]
      exact (World.grownBy_alloc _ (.cells c t) none).cell (a := ⟨w.heap.size, 0, none⟩) (by simp) (by simp)
    · simp; omega

set_option maxHeartbeats 400000 in
theorem newArr_calls (b n cap : Nat) (zs : List Int) (w : World) (hlim : n ≤ 65536)
    (hc : ∀ i, i < n → w.cell? ⟨b, i, none⟩ = some (.int .i64 (zs.getD i 0))) :
    Calls Echg.prog 15 #[.slice (some ⟨b, 0, none⟩) n cap] w fun e w' => ∃ p qs, e = .returned (.pointer (some ⟨p, 0, none⟩)) ∧
      w'.heap[p]? = some (.cells #[.slice (some ⟨w.heap.size, 0, none⟩) n n] 61 (0, 0)) ∧ ObjsAt w' w.heap.size (.slice (some ⟨w.heap.size, 0, none⟩) n n) n qs zs ∧ Below w.heap.size w w' ∧ w.heap.size ≤ p := by
  have hnil := eqnil29
  have hbB : 0 < n → b < w.heap.size := fun h => World.block_lt_of_cell? w _ (hc 0 h)
  obtain ⟨i0, hi, hz0, hz1, hz2⟩ := info_parts info57
  go_enter Echg.func15, Echg.ntmps15
  go_wp2_with (at_make; refine wpList_make_own _ rfl _ _ 59 rfl w.heap.size 57 i0 .nilIface 1 Echg.underlying59 hi hz0 hz1 .i64 .i64 _ n rfl rfl rfl (by rw [hz2]; omega) (by unfold maxLen; omega) (Nat.le_refl _) ?_; intro w1 hown hgrow)
  have H0 : ObjsAt w1 w.heap.size (.slice (some ⟨w.heap.size, 0, none⟩) 0 n) 0 [] zs := ⟨hown, rfl, fun j hj => absurd hj (Nat.not_lt_zero j)⟩
  have B0 : Below w.heap.size w w1 := (Below.refl _ _).grown hgrow (Nat.le_refl _) (fun k hk => by cases hk)
  clear hown hgrow
  have HC : Hid (∀ i, i < n → w.cell? ⟨b, i, none⟩ = some (.int .i64 (zs.getD i 0))) := hc
  clear hc
  go_loopw [3, 15] (fun v i wr => ∃ (k : Nat) (qs : List Nat), k ≤ n ∧ i = .int .i64 k ∧ v = .slice (some ⟨w.heap.size, 0, none⟩) k n ∧ ObjsAt wr w.heap.size (.slice (some ⟨w.heap.size, 0, none⟩) k n) k qs zs ∧ Below w.heap.size w wr) (fun _ i _ => n - (intOf i).toNat)
  case atStart => exact ⟨0, [], Nat.zero_le _, rfl, rfl, H0, B0⟩
  case round =>
    obtain ⟨k, qs, hk, rfl, rfl, hobj, hB⟩ := hrel
    clear H0 B0 hnil
    by_cases hlt : k < n
    · have hcx : wr.cell? ⟨b, k, none⟩ = some (.int .i64 (zs.getD k 0)) := (hB.cell (p := ⟨b, k, none⟩) (hbB (by omega))).trans (HC.out k hlt)
      go_wp2_with (at_builtin; refine wpList_append_fits _ rfl _ _ 59 rfl w.heap.size 57 i0 1 Echg.underlying59 hi hz1 w.heap.size k n (qs.map objAt) rfl ((hobj.row.alloc _).alloc _) ⟨wr.heap.size + 1, 0, none⟩ 1 1 [objAt wr.heap.size] rfl rfl ?c1 ?c2 (by omega) ?_)
      case c1 =>
        intro j u hj
        match j, hj with
        | 0, hj => simp at hj; subst hj; simp [Addr.add, objAt]
      case c2 => intro u hu; simp at hu; subst hu; rfl
      intro w2 hown2 hgrow2
      have hgl : w.heap.size < wr.heap.size := (hobj.row.lt _ rfl).2
      have R := hobj.push (by simp) hown2 hgrow2 hgl
      have hB2 : Below w.heap.size w w2 := ((hB.alloc (Nat.le_of_lt hgl) _).alloc (by simp; omega) _).grown hgrow2 (by simp; omega) (fun k hk => by cases hk; exact Nat.le_refl _)
      clear hown2 hgrow2 hobj hB hcx
      go_wp2
      go_roundw
      case rel => exact ⟨k + 1, _, by omega, by go_num, rfl, R, hB2⟩
      case measure => simp [intOf]; omega
    · have hkn : k = n := by omega
      subst hkn
      clear hbB HC
      go_wp2
      go_ret
      refine ⟨wr.heap.size, qs, rfl, ?_, ?_, ?_, hB.size⟩
      · exact heap_alloc_new wr _
      · exact hobj.kept (World.grownBy_alloc wr _ none) (.inr (by simp [Value.ownBlock])) (fun j hj => by simp)
      · exact hB.alloc (Nat.le_of_lt (hobj.row.lt _ rfl).2) _

theorem newArr_nil (w : World) :
    Calls Echg.prog 15 #[.slice none 0 0] w fun e w' => e = .returned (.pointer (some ⟨w.heap.size, 0, none⟩)) ∧ w' = w.alloc (.cells #[.slice none 0 0] 61) := by
  have hnil := eqnil29
  go_enter Echg.func15, Echg.ntmps15
  go_wp2
  go_ret
  exact ⟨rfl, rfl⟩

/-- ZZnewIntArray of whatever slice of numbers. -/
theorem newArr_any (ao : Option Addr) (n : Nat) (zs : List Int) (w : World) (hlim : n ≤ 65536) (hr : RowAt w ao n zs) :
    Calls Echg.prog 15 #[.slice ao n n] w fun e w' => ∃ p ga qs, e = .returned (.pointer (some ⟨p, 0, none⟩)) ∧
      w'.heap[p]? = some (.cells #[.slice ga n n] 61 (0, 0)) ∧ ObjsAt w' w.heap.size (.slice ga n n) n qs zs ∧ Below w.heap.size w w' ∧ w.heap.size ≤ p := by
  rcases hr with ⟨rfl, rfl⟩ | ⟨b, rfl, hc⟩
  · refine (newArr_nil w).mono ?_
    rintro e w' ⟨rfl, rfl⟩
    exact ⟨_, none, [], rfl, heap_alloc_new w _, ⟨World.ownsRow_nil _ _ _ _, rfl, fun j hj => absurd hj (Nat.not_lt_zero j)⟩, (Below.refl _ _).alloc (Nat.le_refl _) _, Nat.le_refl _⟩
  · refine (newArr_calls b n n zs w hlim hc).mono ?_
    rintro e w' ⟨p, qs, rfl, h1, h2, h3, h4⟩
    exact ⟨p, _, qs, rfl, h1, h2, h3, h4⟩
end Go.Proofs.Yoechw
