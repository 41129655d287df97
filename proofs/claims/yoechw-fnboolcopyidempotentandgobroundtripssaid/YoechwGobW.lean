import Derived.Test.YoechwBoolW
namespace Go.Proofs.Yoechw
open Go.RowKit
set_option linter.unusedVariables false

theorem encode_true (p : Nat) (w : World) (h : w.cell? ⟨p, 0, none⟩ = some (.bool true)) :
    Calls Echg.prog 26 #[.pointer (some ⟨p, 0, none⟩)] w fun e w' => e = .returned (.tuple #[.slice (some ⟨w.heap.size, 0, none⟩) 1 1, .nilIface]) ∧ w' = w.alloc (.cells #[.int .u8 1] 5) := by
  go_enter Echg.func26, Echg.ntmps26
  go_wp2
  go_ret2
  exact ⟨rfl, rfl⟩

theorem encode_false (p : Nat) (w : World) (h : w.cell? ⟨p, 0, none⟩ = some (.bool false)) :
    Calls Echg.prog 26 #[.pointer (some ⟨p, 0, none⟩)] w fun e w' => e = .returned (.tuple #[.slice (some ⟨w.heap.size, 0, none⟩) 1 1, .nilIface]) ∧ w' = w.alloc (.cells #[.int .u8 0] 5) := by
  go_enter Echg.func26, Echg.ntmps26
  go_wp2
  go_ret2
  exact ⟨rfl, rfl⟩

theorem decode_calls (p q : Nat) (b0 : Bool) (n : Int) (w : World) (h : w.cell? ⟨p, 0, none⟩ = some (.bool b0)) (hf : w.frozen? ⟨p, 0, none⟩ = false) (hq : w.cell? ⟨q, 0, none⟩ = some (.int .u8 n)) :
    Calls Echg.prog 27 #[.pointer (some ⟨p, 0, none⟩), .slice (some ⟨q, 0, none⟩) 1 1] w fun e w' => e = .returned .nilIface ∧ w' = w.setCell ⟨p, 0, none⟩ (.bool (n == 1)) := by
  go_enter Echg.func27, Echg.ntmps27
  go_wp2
  go_ret
  exact ⟨rfl, rfl⟩
end Go.Proofs.Yoechw
