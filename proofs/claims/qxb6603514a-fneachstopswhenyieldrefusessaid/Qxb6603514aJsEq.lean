import Derived.Test.Qxb6603514aJsZzAll
import Derived.Deep.QuietTactic
import Derived.BigQuiet
namespace Go.Proofs.Qxb6603514a.Js
open Go.RowKit
set_option linter.unusedVariables false

set_option maxRecDepth 100000 in
set_option maxHeartbeats 800000 in
/-- The same bytes are equal. -/
theorem bytesEq_same (w : World) (b p l c1 c2 : Nat) (B : Nat → Int) (hr : Row w b p l B) (hl : l ≤ 65536) :
    Calls Try.prog 23 #[.slice (some ⟨b, p, none⟩) l c1, .slice (some ⟨b, p, none⟩) l c2] w fun e w' => e = .returned (.bool true) ∧ ∃ q, w' = w.drewN q := by
  go_enter Try.func23, Try.ntmps23
  go_wp2
  go_loopw [5] (fun v wr => ∃ k q : Nat, k ≤ l ∧ v = .int .i64 k ∧ wr = w.drewN q) (fun v _ => l - (intOf v).toNat)
  case atStart => exact ⟨0, 0, Nat.zero_le _, rfl, rfl⟩
  case round =>
    obtain ⟨k, q, hk, rfl, rfl⟩ := hrel
    by_cases hkl : k < l
    · have hc := hr k hkl
      have h0 : (0 : Int) ≤ (k : Int) := by omega
      have h1 : (k : Int) < (l : Int) := by omega
      have hne : (B k != B k) = false := by simp
      go_wp2
      go_quiet (fail)
      go_wp2
      go_roundw
      case rel => exact ⟨k + 1, _, by omega, by go_num, rfl⟩
      case measure => simp [intOf]; omega
    · go_wp2
      go_ret
      exact ⟨rfl, q, rfl⟩
end Go.Proofs.Qxb6603514a.Js
