import Derived.Test.YoechwScene
import Derived.ArgAppend
namespace Go.Proofs.Yoechw
open Go.RowKit
set_option linter.unusedVariables false

theorem getD_set {α : Type} (l : List α) (i j : Nat) (a d : α) (h : i < l.length) : (l.set i a).getD j d = if j = i then a else l.getD j d := by
  simp only [List.getD_eq_getElem?_getD, List.getElem?_set]
  by_cases e : i = j
  · subst e; simp [h]
  · rw [if_neg e, if_neg (fun x => e x.symm)]

theorem getD_snoc {α : Type} (l : List α) (j : Nat) (a d : α) : (l ++ [a]).getD j d = if j < l.length then l.getD j d else if j = l.length then a else d := by
  simp only [List.getD_eq_getElem?_getD]
  by_cases e : j < l.length
  · rw [if_pos e, List.getElem?_append_left e]
  · rw [if_neg e, List.getElem?_append_right (by omega)]
    by_cases e2 : j = l.length
    · subst e2; simp
    · rw [if_neg e2, List.getElem?_eq_none (by simp; omega)]; rfl

/-- a.Value[j] = &Int{x}: what the row of objects then leads to. -/
theorem ObjsAt.set {w : World} {B g n cp : Nat} {qs : List Nat} {ys : List Int} (h : ObjsAt w B (.slice (some ⟨g, 0, none⟩) n cp) n qs ys) (hy : ys.length = n) (j : Nat) (hj : j < n) (x : Int) :
    ObjsAt ((w.alloc (.cells #[.int .i64 x] 42)).setCell ⟨g, j, none⟩ (.iface 37 (.pointer (some ⟨w.heap.size, 0, none⟩)))) B (.slice (some ⟨g, 0, none⟩) n cp) n (qs.set j w.heap.size) (ys.set j x) ∧
    w.grownBy ((w.alloc (.cells #[.int .i64 x] 42)).setCell ⟨g, j, none⟩ (.iface 37 (.pointer (some ⟨w.heap.size, 0, none⟩)))) (some g) := by
  have hl := h.len
  have hgl := (h.row.lt g rfl).2
  have ha := h.row.alloc (.cells #[.int .i64 x] 42)
  obtain ⟨s1, s2⟩ := ha.stored j (objAt w.heap.size)
  have hgr := grownBy_trans (grownBy_some (World.grownBy_alloc w (.cells #[.int .i64 x] 42) none) (some g)) s2
  refine ⟨⟨?_, by simp [hl], fun i hi => ?_⟩, hgr⟩
  · rw [List.map_set]; exact s1
  · rw [getD_set _ _ _ _ _ (by omega), getD_set _ _ _ _ _ (by omega)]
    by_cases e : i = j
    · rw [if_pos e, if_pos e]
      exact s2.cell (a := ⟨w.heap.size, 0, none⟩) (by simp) (by simp; omega)
    · rw [if_neg e, if_neg e]
      refine hgr.cell (h.ints i hi) ?_
      have := h.ne i hi
      simpa [Value.ownBlock] using fun x => this (by simp [Value.ownBlock, x])

theorem setInt_calls (p g n cp j : Nat) (B : Nat) (qs : List Nat) (ys : List Int) (x : Int) (w : World) (hp : w.heap[p]? = some (.cells #[.slice (some ⟨g, 0, none⟩) n cp] 61 (0, 0)))
    (h : ObjsAt w B (.slice (some ⟨g, 0, none⟩) n cp) n qs ys) (hy : ys.length = n) (hj : j < n) (hn : n ≤ 65536) :
    Calls Echg.prog 21 #[.pointer (some ⟨p, 0, none⟩), .int .i64 j, .int .i64 x] w fun e w' => e = .returned (.tuple #[]) ∧
      ObjsAt w' B (.slice (some ⟨g, 0, none⟩) n cp) n (qs.set j w.heap.size) (ys.set j x) ∧ w.grownBy w' (some g) := by
  have R := h.set hy j hj x
  have hc := cell_of_one hp
  obtain ⟨q, hq1, hq2⟩ := h.at j hj
  have hfr := h.row.frozenAt j
  have hgl := (h.row.lt g rfl).2
  have hjI : (j : Int) < (n : Int) := by omega
  clear hp h hq2
  go_enter Echg.func21, Echg.ntmps21
  go_wp2
  go_end0
  rw [World.setCell_alloc_past _ _ _ _ hgl] at R
  exact ⟨rfl, R⟩

theorem head_kept {w w' : World} {p : Nat} {v : Value} (hp : w.heap[p]? = some (.cells #[v] 61 (0, 0))) {r : Option Nat} (hg : w.grownBy w' r) (hne : some p ≠ r) : w'.heap[p]? = some (.cells #[v] 61 (0, 0)) :=
  (hg.block p (lt_of_block hp) hne).trans hp

/-- The array's own block is neither the row of objects nor an Int. -/
theorem ObjsAt.far_head {w : World} {B : Nat} {v : Value} {n : Nat} {qs : List Nat} {ys : List Int} (h : ObjsAt w B v n qs ys) {p m c : Nat} {a : Option Addr} (hp : w.heap[p]? = some (.cells #[.slice a m c] 61 (0, 0))) :
    v.ownBlock ≠ some p ∧ ∀ j, j < n → some (qs.getD j 0) ≠ some p := by
  refine ⟨fun e => ?_, fun j hj e => ?_⟩
  · rcases h.row.2 with ⟨hv, _⟩ | ⟨g, cp, cur, hv, _, hg, _⟩
    · rw [hv] at e; cases e
    · rw [hv] at e
      cases e
      have := hg.symm.trans hp
      simp at this
  · cases e
    have := (h.ints j hj).symm.trans (cell_of_one hp)
    cases this

/-- Behind the append: the new row of objects, of n + 1. -/
theorem ObjsAt.snoc {w w1 : World} {B B2 g n cp : Nat} {qs : List Nat} {ys : List Int} {y : Int} {c : Array Value} {t : TypeId} {v : Value}
    (h : ObjsAt w B (.slice (some ⟨g, 0, none⟩) n cp) n qs ys) (hy : ys.length = n)
    (hown : w1.ownsRow B2 57 1 v (n + 1) (qs.map objAt ++ [objAt w.heap.size]))
    (hgrow : ((w.alloc (.cells #[.int .i64 y] 42)).alloc (.cells c t)).grownBy w1 none) :
    ObjsAt w1 B2 v (n + 1) (qs ++ [w.heap.size]) (ys ++ [y]) := by
  have hl := h.len
  refine ⟨by simpa using hown, by simp [hl], fun j hj => ?_⟩
  rw [getD_snoc, getD_snoc, hl, hy]
  by_cases e : j < n
  · rw [if_pos e, if_pos e]
    refine hgrow.cell ?_ (by simp)
    have a1 := (World.grownBy_alloc w (.cells #[.int .i64 y] 42) none).cell (h.ints j e) (by simp)
    exact (World.grownBy_alloc _ (.cells c t) none).cell a1 (by simp)
  · have ej : j = n := by omega
    rw [if_neg e, if_neg e, if_pos ej, if_pos ej]
    refine hgrow.cell ?_ (by simp)
    exact (World.grownBy_alloc _ (.cells c t) none).cell (a := ⟨w.heap.size, 0, none⟩) (by simp) (by simp)

theorem grownBy_setCell (w : World) (p : Nat) (u : Value) : w.grownBy (w.setCell ⟨p, 0, none⟩ u) (some p) := grownBy_next w p 0 0 u

set_option maxHeartbeats 400000 in
theorem appInt_calls (p g n : Nat) (B : Nat) (qs : List Nat) (ys : List Int) (y : Int) (w : World) (hp : w.heap[p]? = some (.cells #[.slice (some ⟨g, 0, none⟩) n n] 61 (0, 0)))
    (h : ObjsAt w B (.slice (some ⟨g, 0, none⟩) n n) n qs ys) (hy : ys.length = n) (hn : n ≤ 65536) :
    Calls Echg.prog 22 #[.pointer (some ⟨p, 0, none⟩), .int .i64 y] w fun e w' => e = .returned (.tuple #[]) ∧ ∃ g2 cp2,
      w'.heap[p]? = some (.cells #[.slice (some ⟨g2, 0, none⟩) (n + 1) cp2] 61 (0, 0)) ∧
      ObjsAt w' w.heap.size (.slice (some ⟨g2, 0, none⟩) (n + 1) cp2) (n + 1) (qs ++ [w.heap.size]) (ys ++ [y]) ∧ w.grownBy w' (some p) := by
  have hc := cell_of_one hp
  have hf := free_of_one hp
  have hpl := lt_of_block hp
  obtain ⟨i0, hi, hz0, hz1, hz2⟩ := info_parts info57
  go_enter Echg.func22, Echg.ntmps22
  go_wp2_with (at_builtin; refine wpList_append_grows _ rfl _ _ 59 rfl 57 i0 .nilIface 1 16 Echg.underlying59 hi hz0 hz1 hz2 rfl (by decide) (some ⟨g, 0, none⟩) n n (qs.map objAt) rfl ?a1 ?a2 ?a3 ⟨w.heap.size + 1, 0, none⟩ 1 1 [objAt w.heap.size] rfl rfl ?a4 ?a5 (by omega) (by unfold maxLen; omega) (by omega) ?_)
  case a1 => intro h; cases h
  case a2 => simp [h.len]
  case a3 =>
    intro b hb j u hj
    cases hb
    rw [Go.WideShapes.add_plain, Nat.zero_add]
    have hjl : j < n := by
      have := (List.getElem?_eq_some_iff.1 hj).1
      simpa [h.len] using this
    rw [((h.row.alloc _).alloc _).cellAt j (by omega)]
    exact hj
  case a4 =>
    intro j u hj
    match j, hj with
    | 0, hj => simp at hj; subst hj; simp [Addr.add, objAt]
  case a5 => intro u hu; simp at hu; subst hu; rfl
  intro v1 w1 hown hgrow
  obtain ⟨g2, cp2, hv⟩ : ∃ g2 cp2, v1 = .slice (some ⟨g2, 0, none⟩) (n + 1) cp2 := by
    rcases hown.2 with ⟨_, h0⟩ | ⟨g2, cp2, cur, hv, _⟩
    · omega
    · exact ⟨g2, cp2, hv⟩
  subst hv
  have R0 := h.snoc hy hown hgrow
  have hg0 : w.grownBy w1 none := grownBy_trans (grownBy_trans (World.grownBy_alloc _ _ none) (World.grownBy_alloc _ _ none)) hgrow
  have R1 : ObjsAt w1 w.heap.size (.slice (some ⟨g2, 0, none⟩) (n + 1) cp2) (n + 1) (qs ++ [w.heap.size]) (ys ++ [y]) := by
    refine ⟨⟨R0.row.1, ?_⟩, R0.len, R0.ints⟩
    rcases R0.row.2 with h1 | ⟨g3, cp3, cur, e1, e2, e3⟩
    · exact .inl h1
    · exact .inr ⟨g3, cp3, cur, e1, by omega, e3⟩
  have hp1 := head_kept hp hg0 (by simp)
  have hc1 := cell_of_one hp1
  have hf1 := free_of_one hp1
  have hfar := R1.far_head hp1
  clear R0 hown hgrow hc hf hi hz0 hz1 hz2 h
  go_wp2
  go_end0
  exact ⟨rfl, g2, cp2, one_setCell hp1, R1.kept (grownBy_setCell _ _ _) (.inr hfar.1) hfar.2, grownBy_trans (grownBy_some hg0 _) (grownBy_setCell _ _ _)⟩
end Go.Proofs.Yoechw
