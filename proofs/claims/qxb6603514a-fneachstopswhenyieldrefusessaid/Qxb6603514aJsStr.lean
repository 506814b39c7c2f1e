import Derived.Test.Qxb6603514aJsEnds
namespace Go.Proofs.Qxb6603514a.Js
open Go.RowKit
set_option linter.unusedVariables false

def StrOut (B : Nat → Int) (n i : Nat) (w : World) (e : Ending) (w' : World) : Prop :=
  ∃ (v : Int) (ok : Bool), e = .returned (.tuple #[.int .i64 v, .bool ok]) ∧ (ok = true → i < n ∧ B i = 34 ∧ v = (sE B n (i + 1) : Int)) ∧ w' = w
theorem strOut_no {B : Nat → Int} {n i : Nat} {w : World} (v : Int) : StrOut B n i w (.returned (.tuple #[.int .i64 v, .bool false])) w := ⟨v, false, rfl, fun h => by simp at h, rfl⟩
theorem strOut_yes {B : Nat → Int} {n i : Nat} {w : World} {v : Int} (h1 : i < n) (h2 : B i = 34) (h : v = (sE B n (i + 1) : Int)) : StrOut B n i w (.returned (.tuple #[.int .i64 v, .bool true])) w := ⟨v, true, rfl, fun _ => ⟨h1, h2, h⟩, rfl⟩

/-- The bytes that may stand behind a backslash, but for the 'u'. -/
theorem esc_cases (c : Int) : c = 34 ∨ c = 92 ∨ c = 47 ∨ c = 98 ∨ c = 102 ∨ c = 110 ∨ c = 114 ∨ c = 116 ∨ ((c == 34) = false ∧ (c == 92) = false ∧ (c == 47) = false ∧ (c == 98) = false ∧ (c == 102) = false ∧ (c == 110) = false ∧ (c == 114) = false ∧ (c == 116) = false) := by
  simp only [beq_eq_false_iff_ne]
  omega

set_option maxRecDepth 100000 in
set_option maxHeartbeats 1600000 in
theorem str_any (w : World) (b o n cap i : Nat) (B : Nat → Int) (hr : Row w b o n B) (hn : n ≤ 65536) (hi : i ≤ 70000) :
    Calls Try.prog 27 #[.slice (some ⟨b, o, none⟩) n cap, .int .i64 (i : Int)] w fun e w' => StrOut B n i w e w' := by
  by_cases hin : i < n
  · have hc0 := hr i hin
    by_cases hq : B i = 34
    · have HQ := hide hq
      have hd : decide (n ≤ i) = false := by simp; omega
      go_enter Try.func27, Try.ntmps27
      go_wp2
      go_loop [6] (fun v => ∃ k : Nat, i + 1 ≤ k ∧ k ≤ n ∧ sE B n (i + 1) = sE B n k ∧ v = .int .i64 k) (fun v => n - (intOf v).toNat)
      case atStart => exact ⟨i + 1, by omega, by omega, rfl, by go_num⟩
      case round =>
        obtain ⟨k, hk1, hk, he, rfl⟩ := hrel
        have HE := hide he; clear he hc0 hq
        by_cases hlt : k < n
        · have hc := hr k hlt
          by_cases h34 : B k = 34
          · have H := hide h34
            go_wp2
            go_ret2
            exact strOut_yes hin HQ.out (by rw [HE.out, sE_q B n hlt H.out]; omega)
          by_cases h32 : B k < 32
          · have e1 : (B k == 34) = false := by simpa using h34
            go_wp2
            go_ret2
            exact strOut_no _
          by_cases h92 : B k = 92
          · have H := hide h92
            by_cases hl1 : k + 1 < n
            · have hc1 := hr (k + 1) hl1
              by_cases hu : B (k + 1) = 117
              · by_cases hl6 : k + 6 ≤ n
                · go_wp2
                  go_loop [9] (fun v => ∃ m : Nat, k + 2 ≤ m ∧ m ≤ k + 6 ∧ sE B n (k + 2) = sE B n m ∧ v = .int .i64 m) (fun v => k + 6 - (intOf v).toNat)
                  case atStart => exact ⟨k + 2, by omega, by omega, rfl, by go_num⟩
                  case round =>
                    obtain ⟨m, hm1, hm2, hme, rfl⟩ := hrel
                    have HM := hide hme; clear hme
                    by_cases hml : m < k + 6
                    · have hcm := hr m (by omega)
                      go_wp2_with (go_at_call 8; refine (hexVal_any _ _).mono ?_; rintro e w' ⟨v, ok, rfl, hok, rfl⟩; have HOK := hide hok; clear hok; cases ok)
                      · go_ret2
                        exact strOut_no _
                      · go_round
                        case rel => exact ⟨m + 1, by omega, by omega, HM.out.trans (sE_go B n (by omega) (HOK.out (by trivial)).1 (HOK.out (by trivial)).2), by go_num⟩
                        case measure => simp [intOf]; omega
                    · have H6 : Hid (sE B n (i + 1) = sE B n (k + 6)) := by
                        show sE B n (i + 1) = sE B n (k + 6)
                        rw [HE.out, sE_bs B n hlt H.out, HM.out, show m = k + 6 from by omega]
                      go_wp2
                      go_round
                      case rel => first | exact ⟨k + 6, by omega, by omega, H6.out, by go_num⟩ | (refine ⟨trivial, ?_⟩; (repeat apply Exists.intro); exact ⟨⟨k + 6, by omega, by omega, H6.out, by go_num⟩, rfl⟩)
                      case measure => simp [intOf]; omega
                · go_wp2
                  go_ret2
                  exact strOut_no _
              · have e1 : (B (k + 1) == 117) = false := by simpa using hu
                rcases esc_cases (B (k + 1)) with h | h | h | h | h | h | h | h | ⟨f1, f2, f3, f4, f5, f6, f7, f8⟩
                iterate 8
                  · go_wp2
                    go_round
                    case rel => exact ⟨k + 2, by omega, by omega, HE.out.trans (sE_bs B n hlt H.out), by go_num⟩
                    case measure => simp [intOf]; omega
                · go_wp2
                  go_ret2
                  exact strOut_no _
            · go_wp2
              go_ret2
              exact strOut_no _
          · have e1 : (B k == 34) = false := by simpa using h34
            have e2 : (B k == 92) = false := by simpa using h92
            go_wp2
            go_round
            case rel => exact ⟨k + 1, by omega, by omega, HE.out.trans (sE_go B n hlt h92 h34), by go_num⟩
            case measure => simp [intOf]; omega
        · go_wp2
          go_ret2
          exact strOut_no _
    · have hq' : (B i == 34) = false := by simpa using hq
      have hq2 : (B i != 34) = true := by simpa using hq
      go_enter Try.func27, Try.ntmps27
      go_wp2
      go_ret2
      exact strOut_no _
  · go_enter Try.func27, Try.ntmps27
    go_wp2
    go_ret2
    exact strOut_no _
end Go.Proofs.Qxb6603514a.Js
