import Derived.Test.YoechwIterM
namespace Go.Proofs.Yoechw
open Go.RowKit
set_option linter.unusedVariables false

theorem RowAt.kept {w w' : World} {ao : Option Addr} {n : Nat} {zs : List Int} (h : RowAt w ao n zs) {r : Option Nat} (hg : w.grownBy w' r)
    (hne : ∀ b, ao = some ⟨b, 0, none⟩ → 0 < n → some b ≠ r) : RowAt w' ao n zs := by
  rcases h with h | ⟨b, rfl, hc⟩
  · exact .inl h
  · exact .inr ⟨b, rfl, fun i hi => hg.cell (hc i hi) (hne b rfl (by omega))⟩

/-- The numbers' row is not the iterator's block. -/
theorem RowAt.far {w : World} {ao : Option Addr} {n : Nat} {zs : List Int} (h : RowAt w ao n zs) {it m c : Nat} {a : Option Addr} {k l : Int} (hit : ItAt w it (.slice a m c) k l) :
    ∀ b, ao = some ⟨b, 0, none⟩ → 0 < n → some b ≠ some it := by
  intro b hb hn e
  rcases h with ⟨h1, h2⟩ | ⟨b', hb', hc⟩
  · omega
  · rw [hb] at hb'
    cases hb'
    cases e
    have := (hc 0 hn).symm.trans hit.c0
    cases this

/-- Neither the row of objects nor an Int is the iterator's block. -/
theorem ObjsAt.far {w : World} {B : Nat} {v : Value} {n : Nat} {qs : List Nat} {zs : List Int} (h : ObjsAt w B v n qs zs) {it m c : Nat} {a : Option Addr} {k l : Int} (hit : ItAt w it (.slice a m c) k l) :
    v.ownBlock ≠ some it ∧ ∀ j, j < n → some (qs.getD j 0) ≠ some it := by
  refine ⟨fun e => ?_, fun j hj e => ?_⟩
  · rcases h.row.2 with ⟨hv, _⟩ | ⟨g, cp, cur, hv, _, hg, _⟩
    · rw [hv] at e; cases e
    · rw [hv] at e
      cases e
      have := hg.symm.trans hit
      simp at this
  · cases e
    have := (h.ints j hj).symm.trans hit.c0
    cases this

/-- What a step that writes into the iterator alone (or into new memory) leaves. -/
theorem scene_kept {w w' : World} {ao : Option Addr} {n : Nat} {zs : List Int} {B : Nat} {v : Value} {m : Nat} {qs : List Nat} {ys : List Int} {it c d : Nat} {a : Option Addr} {k l : Int}
    (hrow : RowAt w ao n zs) (hobj : ObjsAt w B v m qs ys) (hit : ItAt w it (.slice a c d) k l) (hg : w.grownBy w' (some it)) : RowAt w' ao n zs ∧ ObjsAt w' B v m qs ys :=
  ⟨hrow.kept hg (hrow.far hit), hobj.kept hg (.inr (hobj.far hit).1) (hobj.far hit).2⟩

theorem scene_new {w w' : World} {ao : Option Addr} {n : Nat} {zs : List Int} {B : Nat} {v : Value} {m : Nat} {qs : List Nat} {ys : List Int}
    (hrow : RowAt w ao n zs) (hobj : ObjsAt w B v m qs ys) (hg : w.grownBy w' none) : RowAt w' ao n zs ∧ ObjsAt w' B v m qs ys :=
  ⟨hrow.kept hg (fun b _ _ => by simp), hobj.kept hg (by cases v.ownBlock <;> simp) (fun j _ => by simp)⟩

theorem ItAt.alloc {w : World} {it : Nat} {v : Value} {k l : Int} (h : ItAt w it v k l) (o : Obj) : ItAt (w.alloc o) it v k l := h.kept (World.grownBy_alloc w o none) (by simp)

theorem ObjsAt.at {w : World} {B g n cp : Nat} {qs : List Nat} {zs : List Int} (h : ObjsAt w B (.slice (some ⟨g, 0, none⟩) n cp) n qs zs) (j : Nat) (hj : j < n) :
    ∃ q, w.cell? ⟨g, j, none⟩ = some (.iface 37 (.pointer (some ⟨q, 0, none⟩))) ∧ w.cell? ⟨q, 0, none⟩ = some (.int .i64 (zs.getD j 0)) := by
  obtain ⟨g', cp', hv, hc⟩ := h.form (by omega)
  simp only [Value.slice.injEq, Option.some.injEq, Addr.mk.injEq, and_true, true_and] at hv
  obtain ⟨rfl, rfl⟩ := hv
  exact ⟨_, hc j hj, h.ints j hj⟩

theorem RowAt.at {w : World} {b n : Nat} {zs : List Int} (h : RowAt w (some ⟨b, 0, none⟩) n zs) (j : Nat) (hj : j < n) : w.cell? ⟨b, j, none⟩ = some (.int .i64 (zs.getD j 0)) := by
  rcases h with ⟨h, _⟩ | ⟨b', h, hc⟩
  · cases h
  · cases h
    exact hc j hj

end Go.Proofs.Yoechw
