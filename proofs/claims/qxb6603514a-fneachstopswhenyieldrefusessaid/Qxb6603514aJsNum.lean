import Derived.Test.Qxb6603514aJsRead
import Derived.Deep.Cut
namespace Go.Proofs.Qxb6603514a.Js
open Go.RowKit
set_option linter.unusedVariables false

/-- From i up to k every byte is one of a number or of a word. -/
def Run (B : Nat → Int) (i k : Nat) : Prop := ∀ m, i ≤ m → m < k → okCh (B m) = true
theorem run_start (B : Nat → Int) (i : Nat) : Run B i i := fun m h1 h2 => by omega
theorem run_snoc {B : Nat → Int} {i k : Nat} (h : Run B i k) (hc : okCh (B k) = true) : Run B i (k + 1) := fun m h1 h2 => by
  by_cases e : m = k
  · subst e; exact hc
  · exact h m h1 (by omega)
theorem ok_dig {c : Int} (h : isDig c = true) : okCh c = true := by
  simp [isDig] at h
  simp [okCh, isDel, isWs]
  omega
theorem ok_is {c : Int} (h : c = 45 ∨ c = 46 ∨ c = 43 ∨ c = 101 ∨ c = 69 ∨ c = 48) : okCh c = true := by
  rcases h with rfl | rfl | rfl | rfl | rfl | rfl <;> rfl

def NumOut (B : Nat → Int) (n i : Nat) (w : World) (e : Ending) (w' : World) : Prop :=
  ∃ (v : Int) (ok : Bool), e = .returned (.tuple #[.int .i64 v, .bool ok]) ∧ (ok = true → ∃ k : Nat, v = (k : Int) ∧ i < k ∧ k ≤ n ∧ Run B i k) ∧ w' = w
theorem numOut_no {B : Nat → Int} {n i : Nat} {w : World} (v : Int) : NumOut B n i w (.returned (.tuple #[.int .i64 v, .bool false])) w := ⟨v, false, rfl, fun h => by simp at h, rfl⟩
theorem numOut_yes {B : Nat → Int} {n i : Nat} {w : World} (k : Nat) (h1 : i < k) (h2 : k ≤ n) (h3 : Run B i k) : NumOut B n i w (.returned (.tuple #[.int .i64 (k : Int), .bool true])) w := ⟨k, true, rfl, fun _ => ⟨k, rfl, h1, h2, h3⟩, rfl⟩

set_option maxRecDepth 100000 in
set_option maxHeartbeats 3200000 in
theorem num_any (w : World) (b o n cap i : Nat) (B : Nat → Int) (hr : Row w b o n B) (hn : n ≤ 65536) (hi : i ≤ 70000) :
    Calls Try.prog 29 #[.slice (some ⟨b, o, none⟩) n cap, .int .i64 (i : Int)] w fun e w' => NumOut B n i w e w' := by
  by_cases hin : i < n
  · have hc0 := hr i hin
    go_enter Try.func29, Try.ntmps29
    go_upto_if 18 with fail
    go_cut [6] from 7 (fun v w' => ∃ k : Nat, i ≤ k ∧ k ≤ n ∧ Run B i k ∧ v = .int .i64 k ∧ w' = w)
    case first =>
      by_cases hm : B i = 45
      · have HM := hide hm
        go_wp2
        go_meet
        case rel => exact ⟨i + 1, by omega, by omega, run_snoc (run_start B i) (ok_is (by have := HM.out; omega)), by go_num, rfl⟩
      · have e1 : (B i == 45) = false := by simpa using hm
        go_wp2
        go_meet
        case rel => exact ⟨i, by omega, by omega, run_start B i, rfl, rfl⟩
    case rest =>
      obtain ⟨k, hk1, hk2, hrun, rfl, rfl⟩ := hcut
      have HR := hide hrun; clear hrun hc0
      by_cases hkn : k < n
      · have hc := hr k hkn
        have hdn : decide (n ≤ k) = false := by simp; omega
        go_upto_if 29 with fail
        go_cut [6] from 7 (fun v w' => ∃ k' : Nat, k < k' ∧ k' ≤ n ∧ Run B i k' ∧ v = .int .i64 k' ∧ w' = wc)
        case first =>
          by_cases h48 : B k = 48
          · have H48 := hide h48
            go_wp2
            go_meet
            case rel => exact ⟨k + 1, by omega, by omega, run_snoc HR.out (ok_is (by have := H48.out; omega)), by go_num, rfl⟩
          have e48 : (B k == 48) = false := by simpa using h48
          simp only [e48]
          by_cases h49 : 49 ≤ B k
          · by_cases h57 : B k ≤ 57
            · have HDK : Hid (isDig (B k) = true) := by show isDig (B k) = true; simp [isDig, h57]; omega
              have d49 : decide (49 ≤ B k) = true := by simpa using h49
              have d57 : decide (B k ≤ 57) = true := by simpa using h57
              go_wp2
              go_loop [6] (fun v => ∃ m : Nat, k ≤ m ∧ m ≤ n ∧ Run B i m ∧ v = .int .i64 m) (fun v => n - (intOf v).toNat)
              case atStart => exact ⟨k, Nat.le_refl _, by omega, HR.out, by first | rfl | go_num⟩
              case round =>
                obtain ⟨m, hm1, hm2, hrm, rfl⟩ := hrel
                have HRM := hide hrm; clear hrm
                by_cases hml : m < n
                · have hcm := hr m hml
                  by_cases hdm : isDig (B m) = true
                  · go_wp2_with (go_at_call 37; refine (dig_any _ _).mono ?_; rintro e w' ⟨rfl, rfl⟩)
                    go_round
                    case rel => exact ⟨m + 1, by omega, by omega, run_snoc HRM.out (ok_dig hdm), by go_num⟩
                    case measure => simp [intOf]; omega
                  · have hdm' : isDig (B m) = false := by simpa using hdm
                    clear hdm
                    go_wp2_with (go_at_call 37; refine (dig_any _ _).mono ?_; rintro e w' ⟨rfl, rfl⟩)
                    go_meet
                    case rel => exact ⟨m, by (rcases Nat.lt_or_ge k m with h | h; exact h; exact absurd (show isDig (B m) = true by rw [show m = k from by omega]; exact HDK.out) (by rw [hdm']; simp)), hm2, HRM.out, rfl, rfl⟩
                · go_wp2_with (go_at_call 37; refine (dig_any _ _).mono ?_; rintro e w' ⟨rfl, rfl⟩)
                  go_meet
                  case rel => exact ⟨m, by omega, hm2, HRM.out, rfl, rfl⟩
            · go_wp2
              go_ret2
              exact numOut_no _
          · go_wp2
            go_ret2
            exact numOut_no _
        case rest =>
          obtain ⟨k1, hk3, hk4, hrun1, rfl, rfl⟩ := hcut
          have HR1 := hide hrun1; clear hrun1 hc HR
          by_cases hk1n : k1 < n
          · have hc1 := hr k1 hk1n
            have hd1 : decide ((k1 : Int) < (n : Int)) = true := by simp; omega
            go_upto_if 67 with fail
            go_cut [6] from 7 (fun v w' => ∃ k2 : Nat, k1 ≤ k2 ∧ k2 ≤ n ∧ Run B i k2 ∧ v = .int .i64 k2 ∧ w' = wc)
            case first =>
              by_cases h46 : B k1 = 46
              · have H46 : Hid (Run B i (k1 + 1)) := run_snoc HR1.out (ok_is (by omega))
                have e46 : (B k1 == 46) = true := by simpa using h46
                simp only [e46]
                by_cases hl : k1 + 1 < n
                · have hc2 := hr (k1 + 1) hl
                  have hdl : decide ((n : Int) ≤ (k1 : Int) + 1) = false := by simp; omega
                  by_cases hd : isDig (B (k1 + 1)) = true
                  · clear h46
                    go_wp2_with (go_at_call 37; refine (dig_any _ _).mono ?_; rintro e w' ⟨rfl, rfl⟩)
                    go_loop [6] (fun v => ∃ m : Nat, k1 + 1 ≤ m ∧ m ≤ n ∧ Run B i m ∧ v = .int .i64 m) (fun v => n - (intOf v).toNat)
                    case atStart => exact ⟨k1 + 1, Nat.le_refl _, by omega, H46.out, by first | rfl | go_num⟩
                    case round =>
                      obtain ⟨m, hm1, hm2, hrm, rfl⟩ := hrel
                      have HRM := hide hrm; clear hrm
                      by_cases hml : m < n
                      · have hcm := hr m hml
                        by_cases hdm : isDig (B m) = true
                        · go_wp2_with (go_at_call 37; refine (dig_any _ _).mono ?_; rintro e w' ⟨rfl, rfl⟩)
                          go_round
                          case rel => exact ⟨m + 1, by omega, by omega, run_snoc HRM.out (ok_dig hdm), by go_num⟩
                          case measure => simp [intOf]; omega
                        · have hdm' : isDig (B m) = false := by simpa using hdm
                          clear hdm
                          go_wp2_with (go_at_call 37; refine (dig_any _ _).mono ?_; rintro e w' ⟨rfl, rfl⟩)
                          go_meet
                          case rel => exact ⟨m, by omega, hm2, HRM.out, rfl, rfl⟩
                      · go_wp2_with (go_at_call 37; refine (dig_any _ _).mono ?_; rintro e w' ⟨rfl, rfl⟩)
                        go_meet
                        case rel => exact ⟨m, by omega, hm2, HRM.out, rfl, rfl⟩
                  · have hd' : isDig (B (k1 + 1)) = false := by simpa using hd
                    clear hd
                    go_wp2_with (go_at_call 37; refine (dig_any _ _).mono ?_; rintro e w' ⟨rfl, rfl⟩)
                    go_ret2
                    exact numOut_no _
                · go_wp2_with (go_at_call 37; refine (dig_any _ _).mono ?_; rintro e w' ⟨rfl, rfl⟩)
                  go_ret2
                  exact numOut_no _
              · have e46 : (B k1 == 46) = false := by simpa using h46
                go_wp2_with (go_at_call 37; refine (dig_any _ _).mono ?_; rintro e w' ⟨rfl, rfl⟩)
                go_meet
                case rel => exact ⟨k1, by omega, by omega, HR1.out, rfl, rfl⟩
            case rest =>
              obtain ⟨k2, hk5, hk6, hrun2, rfl, rfl⟩ := hcut
              have HR2 := hide hrun2; clear hrun2 hc1 HR1
              by_cases hk2n : k2 < n
              · have hc1 := hr k2 hk2n
                have hd2 : decide ((k2 : Int) < (n : Int)) = true := by simp; omega
                by_cases h101 : B k2 = 101
                · have H2 : Hid (Run B i (k2 + 1)) := run_snoc HR2.out (ok_is (by omega))
                  have e101 : (B k2 == 101) = true := by simpa using h101
                  clear h101
                  by_cases hl2 : k2 + 1 < n
                  · have hc2 := hr (k2 + 1) hl2
                    have hdl2 : decide ((k2 : Int) + 1 < (n : Int)) = true := by simp; omega
                    by_cases h43 : B (k2 + 1) = 43
                    · have H3 : Hid (Run B i (k2 + 2)) := run_snoc H2.out (ok_is (by omega))
                      have e43 : (B (k2 + 1) == 43) = true := by simpa using h43
                      clear h43
                      by_cases hl3 : k2 + 2 < n
                      · have hc3 := hr (k2 + 2) hl3
                        have hdl3 : decide ((n : Int) ≤ ((k2 + 2 : Nat) : Int)) = false := by simp; omega
                        have hdl4 : decide ((n : Int) ≤ (k2 : Int) + 2) = false := by simp; omega
                        by_cases hd3 : isDig (B (k2 + 2)) = true
                        · go_wp2_with (go_at_call 37; refine (dig_any _ _).mono ?_; rintro e w' ⟨rfl, rfl⟩)
                          go_loop [6] (fun v => ∃ m : Nat, k2 + 2 ≤ m ∧ m ≤ n ∧ Run B i m ∧ v = .int .i64 m) (fun v => n - (intOf v).toNat)
                          case atStart => exact ⟨k2 + 2, Nat.le_refl _, by omega, H3.out, by first | rfl | go_num⟩
                          case round =>
                            obtain ⟨m, hm1, hm2, hrm, rfl⟩ := hrel
                            have HRM := hide hrm; clear hrm
                            by_cases hml : m < n
                            · have hcm := hr m hml
                              by_cases hdm : isDig (B m) = true
                              · go_wp2_with (go_at_call 37; refine (dig_any _ _).mono ?_; rintro e w' ⟨rfl, rfl⟩)
                                go_round
                                case rel => exact ⟨m + 1, by omega, by omega, run_snoc HRM.out (ok_dig hdm), by go_num⟩
                                case measure => simp [intOf]; omega
                              · have hdm' : isDig (B m) = false := by simpa using hdm
                                clear hdm
                                go_wp2_with (go_at_call 37; refine (dig_any _ _).mono ?_; rintro e w' ⟨rfl, rfl⟩)
                                go_ret2
                                exact numOut_yes m (by omega) hm2 HRM.out
                            · go_wp2_with (go_at_call 37; refine (dig_any _ _).mono ?_; rintro e w' ⟨rfl, rfl⟩)
                              go_ret2
                              exact numOut_yes m (by omega) hm2 HRM.out
                        · have hd3' : isDig (B (k2 + 2)) = false := by simpa using hd3
                          clear hd3
                          go_wp2_with (go_at_call 37; refine (dig_any _ _).mono ?_; rintro e w' ⟨rfl, rfl⟩)
                          go_ret2
                          exact numOut_no _
                      · go_wp2_with (go_at_call 37; refine (dig_any _ _).mono ?_; rintro e w' ⟨rfl, rfl⟩)
                        go_ret2
                        exact numOut_no _
                    have e43 : (B (k2 + 1) == 43) = false := by simpa using h43
                    by_cases h45 : B (k2 + 1) = 45
                    · have H3 : Hid (Run B i (k2 + 2)) := run_snoc H2.out (ok_is (by omega))
                      have e45 : (B (k2 + 1) == 45) = true := by simpa using h45
                      clear h45 h43
                      by_cases hl3 : k2 + 2 < n
                      · have hc3 := hr (k2 + 2) hl3
                        have hdl3 : decide ((n : Int) ≤ ((k2 + 2 : Nat) : Int)) = false := by simp; omega
                        have hdl4 : decide ((n : Int) ≤ (k2 : Int) + 2) = false := by simp; omega
                        by_cases hd3 : isDig (B (k2 + 2)) = true
                        · go_wp2_with (go_at_call 37; refine (dig_any _ _).mono ?_; rintro e w' ⟨rfl, rfl⟩)
                          go_loop [6] (fun v => ∃ m : Nat, k2 + 2 ≤ m ∧ m ≤ n ∧ Run B i m ∧ v = .int .i64 m) (fun v => n - (intOf v).toNat)
                          case atStart => exact ⟨k2 + 2, Nat.le_refl _, by omega, H3.out, by first | rfl | go_num⟩
                          case round =>
                            obtain ⟨m, hm1, hm2, hrm, rfl⟩ := hrel
                            have HRM := hide hrm; clear hrm
                            by_cases hml : m < n
                            · have hcm := hr m hml
                              by_cases hdm : isDig (B m) = true
                              · go_wp2_with (go_at_call 37; refine (dig_any _ _).mono ?_; rintro e w' ⟨rfl, rfl⟩)
                                go_round
                                case rel => exact ⟨m + 1, by omega, by omega, run_snoc HRM.out (ok_dig hdm), by go_num⟩
                                case measure => simp [intOf]; omega
                              · have hdm' : isDig (B m) = false := by simpa using hdm
                                clear hdm
                                go_wp2_with (go_at_call 37; refine (dig_any _ _).mono ?_; rintro e w' ⟨rfl, rfl⟩)
                                go_ret2
                                exact numOut_yes m (by omega) hm2 HRM.out
                            · go_wp2_with (go_at_call 37; refine (dig_any _ _).mono ?_; rintro e w' ⟨rfl, rfl⟩)
                              go_ret2
                              exact numOut_yes m (by omega) hm2 HRM.out
                        · have hd3' : isDig (B (k2 + 2)) = false := by simpa using hd3
                          clear hd3
                          go_wp2_with (go_at_call 37; refine (dig_any _ _).mono ?_; rintro e w' ⟨rfl, rfl⟩)
                          go_ret2
                          exact numOut_no _
                      · go_wp2_with (go_at_call 37; refine (dig_any _ _).mono ?_; rintro e w' ⟨rfl, rfl⟩)
                        go_ret2
                        exact numOut_no _
                    have e45 : (B (k2 + 1) == 45) = false := by simpa using h45
                    clear h45 h43
                    by_cases hl3 : k2 + 1 < n
                    · have hc3 := hr (k2 + 1) hl3
                      have hdl3 : decide ((n : Int) ≤ ((k2 + 1 : Nat) : Int)) = false := by simp; omega
                      have hdl4 : decide ((n : Int) ≤ (k2 : Int) + 1) = false := by simp; omega
                      by_cases hd3 : isDig (B (k2 + 1)) = true
                      · go_wp2_with (go_at_call 37; refine (dig_any _ _).mono ?_; rintro e w' ⟨rfl, rfl⟩)
                        go_loop [6] (fun v => ∃ m : Nat, k2 + 1 ≤ m ∧ m ≤ n ∧ Run B i m ∧ v = .int .i64 m) (fun v => n - (intOf v).toNat)
                        case atStart => exact ⟨k2 + 1, Nat.le_refl _, by omega, H2.out, by first | rfl | go_num⟩
                        case round =>
                          obtain ⟨m, hm1, hm2, hrm, rfl⟩ := hrel
                          have HRM := hide hrm; clear hrm
                          by_cases hml : m < n
                          · have hcm := hr m hml
                            by_cases hdm : isDig (B m) = true
                            · go_wp2_with (go_at_call 37; refine (dig_any _ _).mono ?_; rintro e w' ⟨rfl, rfl⟩)
                              go_round
                              case rel => exact ⟨m + 1, by omega, by omega, run_snoc HRM.out (ok_dig hdm), by go_num⟩
                              case measure => simp [intOf]; omega
                            · have hdm' : isDig (B m) = false := by simpa using hdm
                              clear hdm
                              go_wp2_with (go_at_call 37; refine (dig_any _ _).mono ?_; rintro e w' ⟨rfl, rfl⟩)
                              go_ret2
                              exact numOut_yes m (by omega) hm2 HRM.out
                          · go_wp2_with (go_at_call 37; refine (dig_any _ _).mono ?_; rintro e w' ⟨rfl, rfl⟩)
                            go_ret2
                            exact numOut_yes m (by omega) hm2 HRM.out
                      · have hd3' : isDig (B (k2 + 1)) = false := by simpa using hd3
                        clear hd3
                        go_wp2_with (go_at_call 37; refine (dig_any _ _).mono ?_; rintro e w' ⟨rfl, rfl⟩)
                        go_ret2
                        exact numOut_no _
                    · exact absurd hl2 hl3
                  · go_wp2_with (go_at_call 37; refine (dig_any _ _).mono ?_; rintro e w' ⟨rfl, rfl⟩)
                    go_ret2
                    exact numOut_no _
                have e101 : (B k2 == 101) = false := by simpa using h101
                by_cases h69 : B k2 = 69
                · have H2 : Hid (Run B i (k2 + 1)) := run_snoc HR2.out (ok_is (by omega))
                  have e69 : (B k2 == 69) = true := by simpa using h69
                  clear h69 h101
                  by_cases hl2 : k2 + 1 < n
                  · have hc2 := hr (k2 + 1) hl2
                    have hdl2 : decide ((k2 : Int) + 1 < (n : Int)) = true := by simp; omega
                    by_cases h43 : B (k2 + 1) = 43
                    · have H3 : Hid (Run B i (k2 + 2)) := run_snoc H2.out (ok_is (by omega))
                      have e43 : (B (k2 + 1) == 43) = true := by simpa using h43
                      clear h43
                      by_cases hl3 : k2 + 2 < n
                      · have hc3 := hr (k2 + 2) hl3
                        have hdl3 : decide ((n : Int) ≤ ((k2 + 2 : Nat) : Int)) = false := by simp; omega
                        have hdl4 : decide ((n : Int) ≤ (k2 : Int) + 2) = false := by simp; omega
                        by_cases hd3 : isDig (B (k2 + 2)) = true
                        · go_wp2_with (go_at_call 37; refine (dig_any _ _).mono ?_; rintro e w' ⟨rfl, rfl⟩)
                          go_loop [6] (fun v => ∃ m : Nat, k2 + 2 ≤ m ∧ m ≤ n ∧ Run B i m ∧ v = .int .i64 m) (fun v => n - (intOf v).toNat)
                          case atStart => exact ⟨k2 + 2, Nat.le_refl _, by omega, H3.out, by first | rfl | go_num⟩
                          case round =>
                            obtain ⟨m, hm1, hm2, hrm, rfl⟩ := hrel
                            have HRM := hide hrm; clear hrm
                            by_cases hml : m < n
                            · have hcm := hr m hml
                              by_cases hdm : isDig (B m) = true
                              · go_wp2_with (go_at_call 37; refine (dig_any _ _).mono ?_; rintro e w' ⟨rfl, rfl⟩)
                                go_round
                                case rel => exact ⟨m + 1, by omega, by omega, run_snoc HRM.out (ok_dig hdm), by go_num⟩
                                case measure => simp [intOf]; omega
                              · have hdm' : isDig (B m) = false := by simpa using hdm
                                clear hdm
                                go_wp2_with (go_at_call 37; refine (dig_any _ _).mono ?_; rintro e w' ⟨rfl, rfl⟩)
                                go_ret2
                                exact numOut_yes m (by omega) hm2 HRM.out
                            · go_wp2_with (go_at_call 37; refine (dig_any _ _).mono ?_; rintro e w' ⟨rfl, rfl⟩)
                              go_ret2
                              exact numOut_yes m (by omega) hm2 HRM.out
                        · have hd3' : isDig (B (k2 + 2)) = false := by simpa using hd3
                          clear hd3
                          go_wp2_with (go_at_call 37; refine (dig_any _ _).mono ?_; rintro e w' ⟨rfl, rfl⟩)
                          go_ret2
                          exact numOut_no _
                      · go_wp2_with (go_at_call 37; refine (dig_any _ _).mono ?_; rintro e w' ⟨rfl, rfl⟩)
                        go_ret2
                        exact numOut_no _
                    have e43 : (B (k2 + 1) == 43) = false := by simpa using h43
                    by_cases h45 : B (k2 + 1) = 45
                    · have H3 : Hid (Run B i (k2 + 2)) := run_snoc H2.out (ok_is (by omega))
                      have e45 : (B (k2 + 1) == 45) = true := by simpa using h45
                      clear h45 h43
                      by_cases hl3 : k2 + 2 < n
                      · have hc3 := hr (k2 + 2) hl3
                        have hdl3 : decide ((n : Int) ≤ ((k2 + 2 : Nat) : Int)) = false := by simp; omega
                        have hdl4 : decide ((n : Int) ≤ (k2 : Int) + 2) = false := by simp; omega
                        by_cases hd3 : isDig (B (k2 + 2)) = true
                        · go_wp2_with (go_at_call 37; refine (dig_any _ _).mono ?_; rintro e w' ⟨rfl, rfl⟩)
                          go_loop [6] (fun v => ∃ m : Nat, k2 + 2 ≤ m ∧ m ≤ n ∧ Run B i m ∧ v = .int .i64 m) (fun v => n - (intOf v).toNat)
                          case atStart => exact ⟨k2 + 2, Nat.le_refl _, by omega, H3.out, by first | rfl | go_num⟩
                          case round =>
                            obtain ⟨m, hm1, hm2, hrm, rfl⟩ := hrel
                            have HRM := hide hrm; clear hrm
                            by_cases hml : m < n
                            · have hcm := hr m hml
                              by_cases hdm : isDig (B m) = true
                              · go_wp2_with (go_at_call 37; refine (dig_any _ _).mono ?_; rintro e w' ⟨rfl, rfl⟩)
                                go_round
                                case rel => exact ⟨m + 1, by omega, by omega, run_snoc HRM.out (ok_dig hdm), by go_num⟩
                                case measure => simp [intOf]; omega
                              · have hdm' : isDig (B m) = false := by simpa using hdm
                                clear hdm
                                go_wp2_with (go_at_call 37; refine (dig_any _ _).mono ?_; rintro e w' ⟨rfl, rfl⟩)
                                go_ret2
                                exact numOut_yes m (by omega) hm2 HRM.out
                            · go_wp2_with (go_at_call 37; refine (dig_any _ _).mono ?_; rintro e w' ⟨rfl, rfl⟩)
                              go_ret2
                              exact numOut_yes m (by omega) hm2 HRM.out
                        · have hd3' : isDig (B (k2 + 2)) = false := by simpa using hd3
                          clear hd3
                          go_wp2_with (go_at_call 37; refine (dig_any _ _).mono ?_; rintro e w' ⟨rfl, rfl⟩)
                          go_ret2
                          exact numOut_no _
                      · go_wp2_with (go_at_call 37; refine (dig_any _ _).mono ?_; rintro e w' ⟨rfl, rfl⟩)
                        go_ret2
                        exact numOut_no _
                    have e45 : (B (k2 + 1) == 45) = false := by simpa using h45
                    clear h45 h43
                    by_cases hl3 : k2 + 1 < n
                    · have hc3 := hr (k2 + 1) hl3
                      have hdl3 : decide ((n : Int) ≤ ((k2 + 1 : Nat) : Int)) = false := by simp; omega
                      have hdl4 : decide ((n : Int) ≤ (k2 : Int) + 1) = false := by simp; omega
                      by_cases hd3 : isDig (B (k2 + 1)) = true
                      · go_wp2_with (go_at_call 37; refine (dig_any _ _).mono ?_; rintro e w' ⟨rfl, rfl⟩)
                        go_loop [6] (fun v => ∃ m : Nat, k2 + 1 ≤ m ∧ m ≤ n ∧ Run B i m ∧ v = .int .i64 m) (fun v => n - (intOf v).toNat)
                        case atStart => exact ⟨k2 + 1, Nat.le_refl _, by omega, H2.out, by first | rfl | go_num⟩
                        case round =>
                          obtain ⟨m, hm1, hm2, hrm, rfl⟩ := hrel
                          have HRM := hide hrm; clear hrm
                          by_cases hml : m < n
                          · have hcm := hr m hml
                            by_cases hdm : isDig (B m) = true
                            · go_wp2_with (go_at_call 37; refine (dig_any _ _).mono ?_; rintro e w' ⟨rfl, rfl⟩)
                              go_round
                              case rel => exact ⟨m + 1, by omega, by omega, run_snoc HRM.out (ok_dig hdm), by go_num⟩
                              case measure => simp [intOf]; omega
                            · have hdm' : isDig (B m) = false := by simpa using hdm
                              clear hdm
                              go_wp2_with (go_at_call 37; refine (dig_any _ _).mono ?_; rintro e w' ⟨rfl, rfl⟩)
                              go_ret2
                              exact numOut_yes m (by omega) hm2 HRM.out
                          · go_wp2_with (go_at_call 37; refine (dig_any _ _).mono ?_; rintro e w' ⟨rfl, rfl⟩)
                            go_ret2
                            exact numOut_yes m (by omega) hm2 HRM.out
                      · have hd3' : isDig (B (k2 + 1)) = false := by simpa using hd3
                        clear hd3
                        go_wp2_with (go_at_call 37; refine (dig_any _ _).mono ?_; rintro e w' ⟨rfl, rfl⟩)
                        go_ret2
                        exact numOut_no _
                    · exact absurd hl2 hl3
                  · go_wp2_with (go_at_call 37; refine (dig_any _ _).mono ?_; rintro e w' ⟨rfl, rfl⟩)
                    go_ret2
                    exact numOut_no _
                have e69 : (B k2 == 69) = false := by simpa using h69
                clear h69 h101
                go_wp2
                go_ret2
                exact numOut_yes k2 (by omega) (by omega) HR2.out
              · go_wp2
                go_ret2
                exact numOut_yes k2 (by omega) (by omega) HR2.out
          · go_wp2
            go_ret2
            exact numOut_yes k1 (by omega) (by omega) HR1.out
      · go_wp2
        go_ret2
        exact numOut_no _
  · go_enter Try.func29, Try.ntmps29
    go_wp2
    go_ret2
    exact numOut_no _
end Go.Proofs.Qxb6603514a.Js
