import Derived.Test.Qxb6603514aProg
import Derived.Test.Qxb6603514aJsPlain
import Derived.WalkKit
import Derived.WalkSpells
namespace Go.Proofs.Qxb6603514a.Js
open Go.RowKit
set_option linter.unusedVariables false

theorem hide {p : Prop} (h : p) : Hid p := h
theorem ret_bool {a b : Bool} (h : a = b) : Ending.returned (.bool a) = .returned (.bool b) := by rw [h]
theorem ret_int {k : IntKind} {a b : Int} (h : a = b) : Ending.returned (.int k a) = .returned (.int k b) := by rw [h]

/-- The bytes 'B' lie in block b from place o on, n of them. -/
def Row (w : World) (b o n : Nat) (B : Nat → Int) : Prop := ∀ i, i < n → w.cell? ⟨b, o + i, none⟩ = some (.int .u8 (B i))

theorem ws_any (c : Int) (w : World) : Calls Try.prog 36 #[.int .u8 c] w fun e w' => e = .returned (.bool (isWs c)) ∧ w' = w := by
  by_cases h1 : c = 32
  · subst h1; go_enter Try.func36, Try.ntmps36; go_wp2; go_ret; exact ⟨rfl, rfl⟩
  by_cases h2 : c = 9
  · subst h2; go_enter Try.func36, Try.ntmps36; go_wp2; go_ret; exact ⟨rfl, rfl⟩
  by_cases h3 : c = 10
  · subst h3; go_enter Try.func36, Try.ntmps36; go_wp2; go_ret; exact ⟨rfl, rfl⟩
  by_cases h4 : c = 13
  · subst h4; go_enter Try.func36, Try.ntmps36; go_wp2; go_ret; exact ⟨rfl, rfl⟩
  have e1 : (c == 32) = false := by simpa using h1
  have e2 : (c == 9) = false := by simpa using h2
  have e3 : (c == 10) = false := by simpa using h3
  have e4 : (c == 13) = false := by simpa using h4
  go_enter Try.func36, Try.ntmps36
  go_wp2
  go_ret
  exact ⟨ret_bool (by simp [isWs, e1, e2, e3, e4]), rfl⟩

theorem space_any (c : Int) (w : World) : Calls Try.prog 40 #[.int .u8 c] w fun e w' => e = .returned (.bool (isWs c)) ∧ w' = w := by
  by_cases h1 : c = 32
  · subst h1; go_enter Try.func40, Try.ntmps40; go_wp2; go_ret; exact ⟨rfl, rfl⟩
  by_cases h2 : c = 9
  · subst h2; go_enter Try.func40, Try.ntmps40; go_wp2; go_ret; exact ⟨rfl, rfl⟩
  by_cases h3 : c = 10
  · subst h3; go_enter Try.func40, Try.ntmps40; go_wp2; go_ret; exact ⟨rfl, rfl⟩
  by_cases h4 : c = 13
  · subst h4; go_enter Try.func40, Try.ntmps40; go_wp2; go_ret; exact ⟨rfl, rfl⟩
  have e1 : (c == 32) = false := by simpa using h1
  have e2 : (c == 9) = false := by simpa using h2
  have e3 : (c == 10) = false := by simpa using h3
  have e4 : (c == 13) = false := by simpa using h4
  go_enter Try.func40, Try.ntmps40
  go_wp2
  go_ret
  exact ⟨ret_bool (by simp [isWs, e1, e2, e3, e4]), rfl⟩

def isDig (c : Int) : Bool := decide (48 ≤ c) && decide (c ≤ 57)
theorem dig_any (c : Int) (w : World) : Calls Try.prog 37 #[.int .u8 c] w fun e w' => e = .returned (.bool (isDig c)) ∧ w' = w := by
  by_cases h1 : 48 ≤ c
  · by_cases h2 : c ≤ 57
    · go_enter Try.func37, Try.ntmps37; go_wp2; go_ret; exact ⟨ret_bool (by simp [isDig, h1, h2]), rfl⟩
    · have h2' : decide (c ≤ 57) = false := by simpa using h2
      go_enter Try.func37, Try.ntmps37; go_wp2; go_ret; exact ⟨ret_bool (by simp [isDig, h2']), rfl⟩
  · have h1' : decide (48 ≤ c) = false := by simpa using h1
    go_enter Try.func37, Try.ntmps37; go_wp2; go_ret; exact ⟨ret_bool (by simp [isDig, h1']), rfl⟩

theorem kind_any (c : Int) (w : World) : Calls Try.prog 34 #[.int .u8 c] w fun e w' => e = .returned (.int .i64 (kindOf c)) ∧ w' = w := by
  by_cases h1 : c = 123
  · subst h1; go_enter Try.func34, Try.ntmps34; go_wp2; go_ret; exact ⟨rfl, rfl⟩
  by_cases h2 : c = 91
  · subst h2; go_enter Try.func34, Try.ntmps34; go_wp2; go_ret; exact ⟨rfl, rfl⟩
  by_cases h3 : c = 34
  · subst h3; go_enter Try.func34, Try.ntmps34; go_wp2; go_ret; exact ⟨rfl, rfl⟩
  by_cases h4 : c = 116
  · subst h4; go_enter Try.func34, Try.ntmps34; go_wp2; go_ret; exact ⟨rfl, rfl⟩
  by_cases h5 : c = 102
  · subst h5; go_enter Try.func34, Try.ntmps34; go_wp2; go_ret; exact ⟨rfl, rfl⟩
  by_cases h6 : c = 110
  · subst h6; go_enter Try.func34, Try.ntmps34; go_wp2; go_ret; exact ⟨rfl, rfl⟩
  have e1 : (c == 123) = false := by simpa using h1
  have e2 : (c == 91) = false := by simpa using h2
  have e3 : (c == 34) = false := by simpa using h3
  have e4 : (c == 116) = false := by simpa using h4
  have e5 : (c == 102) = false := by simpa using h5
  have e6 : (c == 110) = false := by simpa using h6
  go_enter Try.func34, Try.ntmps34
  go_wp2
  go_ret
  exact ⟨ret_int (by simp [kindOf, h1, h2, h3, h4, h5, h6]), rfl⟩

set_option maxHeartbeats 400000 in
theorem skip_any (w : World) (b o n cap i : Nat) (B : Nat → Int) (hr : Row w b o n B) (hn : n ≤ 65536) (hi : i ≤ 70000) :
    Calls Try.prog 26 #[.slice (some ⟨b, o, none⟩) n cap, .int .i64 (i : Int)] w fun e w' => e = .returned (.int .i64 (sk B n i : Int)) ∧ w' = w := by
  go_enter Try.func26, Try.ntmps26
  go_wp2
  go_loop [1] (fun v => ∃ k : Nat, k ≤ 70000 ∧ sk B n i = sk B n k ∧ v = .int .i64 k) (fun v => n - (intOf v).toNat)
  case atStart => exact ⟨i, hi, rfl, rfl⟩
  case round =>
    obtain ⟨k, hk, he, rfl⟩ := hrel
    have HE := hide he; clear he
    by_cases hlt : k < n
    · have hc := hr k hlt
      by_cases hw : isWs (B k) = true
      · go_wp2_with (go_at_call 36; refine (ws_any _ _).mono ?_; rintro e w' ⟨rfl, rfl⟩)
        go_round
        case rel => exact ⟨k + 1, by omega, HE.out.trans (sp_go B n hlt hw), by go_num⟩
        case measure => simp [intOf]; omega
      · have hw' : isWs (B k) = false := by simpa using hw
        clear hw
        go_wp2_with (go_at_call 36; refine (ws_any _ _).mono ?_; rintro e w' ⟨rfl, rfl⟩)
        go_ret
        exact ⟨ret_int (by rw [HE.out]; unfold sk; rw [sp_end B n (by rw [hw']; simp)]), rfl⟩
    · go_wp2_with (go_at_call 36; refine (ws_any _ _).mono ?_; rintro e w' ⟨rfl, rfl⟩)
      go_ret
      exact ⟨ret_int (by rw [HE.out]; unfold sk; rw [sp_end B n (by omega)]), rfl⟩
end Go.Proofs.Qxb6603514a.Js
