import Derived.Test.YoechwRows
import Derived.WalkKit
import Derived.WalkSpells
import Derived.WalkLawsBesides
import Derived.LaidEql
import Derived.Deep.QuietTactic
import Derived.BigQuiet
namespace Go.Proofs.Yoechw
open Go.RowKit
set_option linter.unusedVariables false

/-- The iterator's block: the slice, the position, the length. -/
def ItAt (w : World) (it : Nat) (v : Value) (k l : Int) : Prop := w.heap[it]? = some (.cells #[v, .int .i64 k, .int .i64 l] 68 (0, 0))

theorem ItAt.c0 {w : World} {it : Nat} {v : Value} {k l : Int} (h : ItAt w it v k l) : w.cell? ⟨it, 0, none⟩ = some v := by
  unfold ItAt at h; simp [World.cell?, h]
theorem ItAt.c1 {w : World} {it : Nat} {v : Value} {k l : Int} (h : ItAt w it v k l) : w.cell? ⟨it, 1, none⟩ = some (.int .i64 k) := by
  unfold ItAt at h; simp [World.cell?, h]
theorem ItAt.c2 {w : World} {it : Nat} {v : Value} {k l : Int} (h : ItAt w it v k l) : w.cell? ⟨it, 2, none⟩ = some (.int .i64 l) := by
  unfold ItAt at h; simp [World.cell?, h]
theorem ItAt.free {w : World} {it : Nat} {v : Value} {k l : Int} (h : ItAt w it v k l) (o : Nat) : w.frozen? ⟨it, o, none⟩ = false := by
  unfold ItAt at h; simp [World.frozen?, h]

theorem grownBy_next (w : World) (it o m : Nat) (u : Value) : w.grownBy ((w.setCell ⟨it, o, none⟩ u).drewN m) (some it) := by
  refine ⟨?_, ?_, ?_, ?_, ?_⟩
  · rfl
  · rfl
  · rfl
  · simp [World.setCell]
  · intro k hk hne
    rw [World.heap_drewN]
    exact Below.heap_setCell w _ u k (fun e => hne (by simpa using e))

theorem ItAt.next {w : World} {it : Nat} {v : Value} {k l : Int} (h : ItAt w it v k l) (k' : Int) (m : Nat) : ItAt ((w.setCell ⟨it, 1, none⟩ (.int .i64 k')).drewN m) it v k' l := by
  unfold ItAt at h ⊢
  rw [World.heap_drewN]
  simp only [World.setCell, Array.getElem?_modify, h]
  simp

theorem next_calls (it : Nat) (v : Value) (k l : Int) (w : World) (h : ItAt w it v k l) (h0 : 0 ≤ k) (h1 : k ≤ 1000000) :
    Calls Echg.prog 30 #[.pointer (some ⟨it, 0, none⟩)] w fun e w' => e = .returned (.bool (decide (k + 1 ≤ l))) ∧ ItAt w' it v (k + 1) l ∧ w.grownBy w' (some it) := by
  have c1 := h.c1
  have c2 := h.c2
  have f1 := h.free 1
  go_enter Echg.func30, Echg.ntmps30
  go_wp2
  go_quiet (fail)
  go_wp2
  go_ret
  exact ⟨rfl, h.next _ _, grownBy_next _ _ _ _ _⟩

theorem zznext_calls (it : Nat) (v : Value) (k l : Int) (w : World) (h : ItAt w it v k l) (h0 : 0 ≤ k) (h1 : k ≤ 1000000) :
    Calls Echg.prog 17 #[.pointer (some ⟨it, 0, none⟩)] w fun e w' => e = .returned (.bool (decide (k + 1 ≤ l))) ∧ ItAt w' it v (k + 1) l ∧ w.grownBy w' (some it) := by
  go_enter Echg.func17, Echg.ntmps17
  go_wp2_with (go_at_call 30; refine (next_calls it v k l _ h h0 h1).mono ?_; rintro e w' ⟨rfl, hit, hgr⟩)
  go_ret
  exact ⟨rfl, hit, hgr⟩

theorem key_calls (it : Nat) (v : Value) (k l : Int) (w : World) (h : ItAt w it v k l) (h0 : 0 ≤ k) (h1 : k ≤ 1000000) :
    Calls Echg.prog 31 #[.pointer (some ⟨it, 0, none⟩)] w fun e w' => e = .returned (.iface 37 (.pointer (some ⟨w.heap.size, 0, none⟩))) ∧ w' = w.alloc (.cells #[.int .i64 (k - 1)] 42) := by
  have c1 := h.c1
  go_enter Echg.func31, Echg.ntmps31
  go_wp2
  go_ret
  exact ⟨rfl, rfl⟩

theorem assert_int (p : Addr) (w : World) :
    (Instr.typeAssert (.iface 37 (.pointer (some p))) 57 37 true).run Echg.prog w = .ok (.tuple #[.pointer (some p), .bool true]) w := by kernel_rfl

theorem assert_iter (p : Addr) (w : World) :
    (Instr.typeAssert (.iface 34 (.pointer (some p))) 64 34 true).run Echg.prog w = .ok (.tuple #[.pointer (some p), .bool true]) w := by kernel_rfl

theorem zzkey_calls (it : Nat) (v : Value) (k l : Int) (w : World) (h : ItAt w it v k l) (h0 : 0 ≤ k) (h1 : k ≤ 1000000) :
    Calls Echg.prog 18 #[.pointer (some ⟨it, 0, none⟩)] w fun e w' => e = .returned (.pointer (some ⟨w.heap.size, 0, none⟩)) ∧ w' = w.alloc (.cells #[.int .i64 (k - 1)] 42) := by
  have hta := assert_int
  go_enter Echg.func18, Echg.ntmps18
  go_wp2_with (go_at_call 31; refine (key_calls it v k l _ h h0 h1).mono ?_; rintro e w' ⟨rfl, rfl⟩)
  go_ret
  exact ⟨rfl, rfl⟩

theorem value_calls (it g n cp q : Nat) (k : Nat) (l : Int) (w : World) (h : ItAt w it (.slice (some ⟨g, 0, none⟩) n cp) ((k : Int) + 1) l) (h1 : k < n) (h2 : n ≤ 1000000)
    (hq : w.cell? ⟨g, k, none⟩ = some (.iface 37 (.pointer (some ⟨q, 0, none⟩)))) :
    Calls Echg.prog 32 #[.pointer (some ⟨it, 0, none⟩)] w fun e w' => e = .returned (.iface 37 (.pointer (some ⟨q, 0, none⟩))) ∧ ∃ m, w' = w.drewN m := by
  have c0 := h.c0
  have c1 := h.c1
  have hk : (k : Int) < (n : Int) := by omega
  go_enter Echg.func32, Echg.ntmps32
  go_wp2
  go_quiet (fail)
  go_wp2
  go_ret
  exact ⟨rfl, _, rfl⟩

theorem zzvalue_calls (it g n cp q : Nat) (k : Nat) (l : Int) (w : World) (h : ItAt w it (.slice (some ⟨g, 0, none⟩) n cp) ((k : Int) + 1) l) (h1 : k < n) (h2 : n ≤ 1000000)
    (hq : w.cell? ⟨g, k, none⟩ = some (.iface 37 (.pointer (some ⟨q, 0, none⟩)))) :
    Calls Echg.prog 19 #[.pointer (some ⟨it, 0, none⟩)] w fun e w' => e = .returned (.pointer (some ⟨q, 0, none⟩)) ∧ ∃ m, w' = w.drewN m := by
  have hta := assert_int
  go_enter Echg.func19, Echg.ntmps19
  go_wp2_with (go_at_call 32; refine (value_calls it g n cp q k l _ h h1 h2 hq).mono ?_; rintro e w' ⟨rfl, m, rfl⟩)
  go_ret
  exact ⟨rfl, _, rfl⟩

end Go.Proofs.Yoechw
