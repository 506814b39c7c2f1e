import Derived.Test.Qxb6603540aProg
import Derived.WalkKit
namespace Go.Proofs.Qxb6603540a.Cm
open Go.RowKit

/-- The three-way order of two integers. -/
def cmp3 (a b : Int) : Int := if a < b then -1 else if b < a then 1 else 0
theorem cmp3_lt {a b : Int} (h : a < b) : cmp3 a b = -1 := by simp [cmp3, h]
theorem cmp3_gt {a b : Int} (h : b < a) : cmp3 a b = 1 := by unfold cmp3; rw [if_neg (by omega), if_pos h]
theorem cmp3_eq (a : Int) : cmp3 a a = 0 := by simp [cmp3]
theorem ret_int {k : IntKind} {a b : Int} (h : a = b) : Ending.returned (.int k a) = .returned (.int k b) := by rw [h]

theorem cmp_any (W : World) (s t : ByteArray) (a b : Int) (w : World) (hW : Grown W w) :
    Calls Try.prog 5 #[.string s, .int .i64 a, .string t, .int .i64 b] w fun e w' => e = .returned (.int .i64 (cmp3 a b)) ∧ Grown W w' := by
  rcases Int.lt_trichotomy a b with h | h | h
  · go_enter Try.func5, Try.ntmps5
    go_wp2
    go_ret
    exact ⟨ret_int (cmp3_lt h).symm, by repeat (first | exact hW | apply Grown.drew | apply Grown.alloc)⟩
  · subst h
    go_enter Try.func5, Try.ntmps5
    go_wp2
    go_ret
    exact ⟨ret_int (cmp3_eq _).symm, by repeat (first | exact hW | apply Grown.drew | apply Grown.alloc)⟩
  · have h' : ¬ a < b := by omega
    go_enter Try.func5, Try.ntmps5
    go_wp2
    go_ret
    exact ⟨ret_int (cmp3_gt h).symm, by repeat (first | exact hW | apply Grown.drew | apply Grown.alloc)⟩
end Go.Proofs.Qxb6603540a.Cm
