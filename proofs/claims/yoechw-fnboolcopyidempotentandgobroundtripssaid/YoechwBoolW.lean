import Derived.Test.YoechwRows
import Derived.WalkKit
import Derived.WalkSpells
import Derived.WalkLawsBesides
import Derived.LaidEql
namespace Go.Proofs.Yoechw
open Go.RowKit
set_option linter.unusedVariables false

theorem newBool_calls (b : Bool) (w : World) :
    Calls Echg.prog 8 #[.bool b] w fun e w' => e = .returned (.pointer (some ⟨w.heap.size, 0, none⟩)) ∧ w' = w.alloc (.cells #[.bool b] 54) := by
  go_enter Echg.func8, Echg.ntmps8
  go_wp2
  go_ret
  exact ⟨rfl, rfl⟩

theorem copyM_calls (p : Addr) (w : World) :
    Calls Echg.prog 28 #[.pointer (some p)] w fun e w' => e = .returned (.iface 22 (.pointer (some p))) ∧ w' = w := by
  go_enter Echg.func28, Echg.ntmps28
  go_wp2
  go_ret
  exact ⟨rfl, rfl⟩

theorem assert_bool (p : Addr) (w : World) :
    (Instr.typeAssert (.iface 22 (.pointer (some p))) 57 22 true).run Echg.prog w = .ok (.tuple #[.pointer (some p), .bool true]) w := by kernel_rfl

theorem boolCopy_calls (p : Addr) (w : World) :
    Calls Echg.prog 9 #[.pointer (some p)] w fun e w' => e = .returned (.pointer (some p)) ∧ w' = w := by
  have hta := fun w => assert_bool p w
  go_enter Echg.func9, Echg.ntmps9
  go_wp2_with (go_at_call 28; refine (copyM_calls _ _).mono ?_; rintro e w' ⟨rfl, rfl⟩)
  go_ret
  exact ⟨rfl, rfl⟩

theorem boolValue_calls (p : Nat) (b : Bool) (w : World) (h : w.cell? ⟨p, 0, none⟩ = some (.bool b)) :
    Calls Echg.prog 10 #[.pointer (some ⟨p, 0, none⟩)] w fun e w' => e = .returned (.bool b) ∧ w' = w := by
  go_enter Echg.func10, Echg.ntmps10
  go_wp2
  go_ret
  exact ⟨rfl, rfl⟩

theorem isFalsy_calls (p : Nat) (b : Bool) (w : World) (h : w.cell? ⟨p, 0, none⟩ = some (.bool b)) :
    Calls Echg.prog 11 #[.pointer (some ⟨p, 0, none⟩)] w fun e w' => e = .returned (.bool (!b)) ∧ w' = w := by
  go_enter Echg.func11, Echg.ntmps11
  go_wp2
  go_ret
  exact ⟨rfl, rfl⟩

theorem string_true (p : Nat) (w : World) (h : w.cell? ⟨p, 0, none⟩ = some (.bool true)) :
    Calls Echg.prog 12 #[.pointer (some ⟨p, 0, none⟩)] w fun e w' => e = .returned (.string ⟨#[116, 114, 117, 101]⟩) ∧ w' = w := by
  go_enter Echg.func12, Echg.ntmps12
  go_wp2
  go_ret
  exact ⟨rfl, rfl⟩

theorem string_false (p : Nat) (w : World) (h : w.cell? ⟨p, 0, none⟩ = some (.bool false)) :
    Calls Echg.prog 12 #[.pointer (some ⟨p, 0, none⟩)] w fun e w' => e = .returned (.string ⟨#[102, 97, 108, 115, 101]⟩) ∧ w' = w := by
  go_enter Echg.func12, Echg.ntmps12
  go_wp2
  go_ret
  exact ⟨rfl, rfl⟩

/-! 'p == p', 'p != p' of one pointer to a struct that is not of size zero -/
theorem run_equal_same {P : Program} (w : World) {tp te : TypeId} {j : TypeInfo} (a : Addr) (hp : P.underlying tp = some (.pointer te)) (hte : P.info? te = some j) :
    (Op.equal tp (.pointer (some a)) (.pointer (some a))).run P w = .ok true w := by
  have h : ∀ d : Nat, (Op.equalIn (d + 1) tp (.pointer (some a)) (.pointer (some a))).run P w = .ok true w := fun d => by
    simp [Op.equalIn, run_underlying hp, typeInfo, sizeOf, run_sameAddr_same, hte]
  exact h 9999
theorem run_neq_same {P : Program} (w : World) {tp te : TypeId} {j : TypeInfo} (a : Addr) (hp : P.underlying tp = some (.pointer te)) (hte : P.info? te = some j) :
    (binOp .neq tp (.pointer (some a)) (.pointer (some a))).run P w = .ok (.bool false) w := by
  simp only [binOp]
  simp [run_equal_same w a hp hte]
theorem info54 : ∃ j, Echg.prog.info? 54 = some j := by
  cases h : Echg.prog.info? 54 with
  | some j => exact ⟨j, rfl⟩
  | none => exact absurd (show (Echg.prog.info? 54).isSome = true by kernel_rfl) (by simp [h])
theorem neq22 (a : Addr) (w : World) : (binOp .neq 22 (.pointer (some a)) (.pointer (some a))).run Echg.prog w = .ok (.bool false) w := by
  obtain ⟨j, hj⟩ := info54
  exact run_neq_same w a Echg.underlying22 hj
end Go.Proofs.Yoechw
