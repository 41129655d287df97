import Derived.Test.YoechwSetApp
namespace Go.Proofs.Yoechw
open Go.RowKit
set_option linter.unusedVariables false

theorem RowAt.far_objs {w : World} {ao : Option Addr} {n : Nat} {zs : List Int} (h : RowAt w ao n zs) {B g m cp : Nat} {qs : List Nat} {ys : List Int}
    (ho : ObjsAt w B (.slice (some ⟨g, 0, none⟩) m cp) m qs ys) (hm : 0 < m) : ∀ b, ao = some ⟨b, 0, none⟩ → 0 < n → some b ≠ some g := by
  intro b hb hn e
  cases e
  subst hb
  obtain ⟨q, hq, _⟩ := ho.at 0 hm
  have := (h.at 0 hn).symm.trans hq
  cases this

theorem RowAt.far_head {w : World} {ao : Option Addr} {n : Nat} {zs : List Int} (h : RowAt w ao n zs) {p m c : Nat} {a : Option Addr}
    (hp : w.heap[p]? = some (.cells #[.slice a m c] 61 (0, 0))) : ∀ b, ao = some ⟨b, 0, none⟩ → 0 < n → some b ≠ some p := by
  intro b hb hn e
  cases e
  subst hb
  have := (h.at 0 hn).symm.trans (cell_of_one hp)
  cases this

theorem ItAt.ne_head {w : World} {it p : Nat} {v u : Value} {k l : Int} (h : ItAt w it v k l) (hp : w.heap[p]? = some (.cells #[u] 61 (0, 0))) : some it ≠ some p := by
  intro e
  cases e
  have := h.symm.trans hp
  simp at this

theorem ObjsAt.take {w : World} {B : Nat} {v : Value} {n : Nat} {qs : List Nat} {zs : List Int} (h : ObjsAt w B v n qs zs) : ObjsAt w B v n qs (zs.take n) :=
  ⟨h.row, h.len, fun j hj => by
    have e : (zs.take n).getD j 0 = zs.getD j 0 := by
      simp only [List.getD_eq_getElem?_getD, List.getElem?_take, if_pos hj]
    rw [e]; exact h.ints j hj⟩

/-- The numbers that the old iterator is to yield. -/
theorem want_old (zs : List Int) (n j k : Nat) (x : Int) (hn : n ≤ zs.length) (hj : j < n) (hk : k < n) : ((zs.take n).set j x).getD k 0 = if k = j then x else zs.getD k 0 := by
  rw [getD_set _ _ _ _ _ (by rw [List.length_take]; omega)]
  by_cases e : k = j
  · rw [if_pos e, if_pos e]
  · rw [if_neg e, if_neg e]
    simp only [List.getD_eq_getElem?_getD, List.getElem?_take, if_pos hk]

theorem want_len (zs : List Int) (n j : Nat) (x : Int) (hn : n ≤ zs.length) : ((zs.take n).set j x).length = n := by simp; omega

theorem want_new (zs : List Int) (n j k : Nat) (x y : Int) (hn : n ≤ zs.length) (hj : j < n) (hk : k < n) : ((zs.take n).set j x ++ [y]).getD k 0 = if k = j then x else zs.getD k 0 := by
  rw [getD_snoc, want_len _ _ _ _ hn, if_pos hk, want_old zs n j k x hn hj hk]
theorem want_last (zs : List Int) (n j : Nat) (x y : Int) (hn : n ≤ zs.length) : ((zs.take n).set j x ++ [y]).getD n 0 = y := by
  rw [getD_snoc, want_len _ _ _ _ hn, if_neg (Nat.lt_irrefl n), if_pos rfl]

theorem test_cases {u x z : Int} (k j : Nat) (h : u = if k = j then x else z) :
    ((((k : Int) == (j : Int)) = true ∧ Hid (u = x)) ∨ (((k : Int) == (j : Int)) = false ∧ Hid (u = z))) := by
  by_cases e : k = j
  · exact .inl ⟨by simp [e], by rw [if_pos e] at h; exact h⟩
  · exact .inr ⟨by simp; omega, by rw [if_neg e] at h; exact h⟩

theorem InRow.len {w : World} {a : Option Addr} {n cap : Nat} {zs : List Int} (h : InRow w a n cap zs) : n ≤ zs.length := by
  rcases h with ⟨_, rfl, _, _⟩ | ⟨x, _, hl, _, hz, _⟩
  · exact Nat.zero_le _
  · omega

/-- The tests ahead of the law: it returns true at once. -/
theorem snap_early (a0 : Option Addr) (n cap : Nat) (idx x y : Int) (w : World) (h : 65536 < n ∨ idx < 0 ∨ (n : Int) ≤ idx) :
    Calls Echg.prog 5 #[.slice a0 n cap, .int .i64 idx, .int .i64 x, .int .i64 y] w fun e w' => e = .returned (.bool true) ∧ Below w.heap.size w w' := by
  by_cases hbig : 1048576 < n
  · clear h
    go_enter Echg.func5, Echg.ntmps5
    go_wp2_with (go_at_call 20; refine (bytes20_no _ _ _ _ _ _ _ hbig).mono ?_; rintro e w' ⟨rfl, rfl⟩)
    go_ret
    exact ⟨rfl, Below.refl _ _⟩
  by_cases hmid : 65536 < n
  · have hI : (65536 : Int) < (n : Int) := by omega
    clear h
    go_enter Echg.func5, Echg.ntmps5
    go_wp2_with (go_at_call 20; refine (bytes20_yes _ _ _ _ _ _ _ (by omega)).mono ?_; rintro e w' ⟨rfl, rfl⟩)
    go_ret
    exact ⟨rfl, Below.refl _ _⟩
  have hI : (n : Int) ≤ 65536 := by omega
  by_cases h0 : idx < 0
  · clear h
    go_enter Echg.func5, Echg.ntmps5
    go_wp2_with (go_at_call 20; refine (bytes20_yes _ _ _ _ _ _ _ (by omega)).mono ?_; rintro e w' ⟨rfl, rfl⟩)
    go_ret
    exact ⟨rfl, Below.refl _ _⟩
  have h1 : (n : Int) ≤ idx := by omega
  clear h
  go_enter Echg.func5, Echg.ntmps5
  go_wp2_with (go_at_call 20; refine (bytes20_yes _ _ _ _ _ _ _ (by omega)).mono ?_; rintro e w' ⟨rfl, rfl⟩)
  go_ret
  exact ⟨rfl, Below.refl _ _⟩

end Go.Proofs.Yoechw
