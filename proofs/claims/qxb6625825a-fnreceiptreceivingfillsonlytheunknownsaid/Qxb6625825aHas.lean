/-
  window.has, routes.receipt, ZZreceipt, zzB1IsReceipt WALKED.
-/
import Derived.Test.Qxb6625825aRows
import Derived.WalkKit
import Derived.ProofKit
import Derived.Below
import Derived.Deep.QuietTactic
import Derived.BigQuiet
set_option linter.unusedVariables false
namespace Go.Proofs.Qxb6625825a
open Go.RowKit

/-- The window whose newest number is n and whose bits are t holds number k. -/
def hasP (n t k : Int) : Bool := if IntKind.u64.wrap (n - k) < 64 then (bits .and .u64 t (IntKind.u64.wrap (2 ^ min (IntKind.u64.wrap (n - k)).toNat 64)) != 0) else false

theorem has_core (b o : Nat) (n t k : Int) (w : World) (hn : w.cell? ⟨b, o, none⟩ = some (.int .u64 n)) (ht : w.cell? ⟨b, o + 1, none⟩ = some (.int .u64 t)) :
    Calls Try.prog 13 #[.pointer (some ⟨b, o, none⟩), .int .u64 k] w fun e w' => e = .returned (.bool (hasP n t k)) ∧ w = w' := by
  by_cases h : IntKind.u64.wrap (n - k) < 64
  · have hp : hasP n t k = (bits .and .u64 t (IntKind.u64.wrap (2 ^ min (IntKind.u64.wrap (n - k)).toNat 64)) != 0) := if_pos h
    rw [hp]
    go_enter Try.func13, Try.ntmps13
    go_wp2
    go_ret; exact ⟨rfl, rfl⟩
  · have hp : hasP n t k = false := if_neg h
    rw [hp]
    go_enter Try.func13, Try.ntmps13
    go_wp2
    go_ret; exact ⟨rfl, rfl⟩
end Go.Proofs.Qxb6625825a
