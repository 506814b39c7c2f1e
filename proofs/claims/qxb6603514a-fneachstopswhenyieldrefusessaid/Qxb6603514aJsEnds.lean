import Derived.Test.Qxb6603514aJsRead
namespace Go.Proofs.Qxb6603514a.Js
open Go.RowKit
set_option linter.unusedVariables false

set_option maxHeartbeats 400000 in
theorem skipSpace_any (w : World) (b o n cap i : Nat) (B : Nat → Int) (hr : Row w b o n B) (hn : n ≤ 65536) (hi : i ≤ 70000) :
    Calls Try.prog 31 #[.slice (some ⟨b, o, none⟩) n cap, .int .i64 (i : Int)] w fun e w' => e = .returned (.int .i64 (sk B n i : Int)) ∧ w' = w := by
  go_enter Try.func31, Try.ntmps31
  go_wp2
  go_loop [1] (fun v => ∃ k : Nat, k ≤ 70000 ∧ sk B n i = sk B n k ∧ v = .int .i64 k) (fun v => n - (intOf v).toNat)
  case atStart => exact ⟨i, hi, rfl, rfl⟩
  case round =>
    obtain ⟨k, hk, he, rfl⟩ := hrel
    have HE := hide he; clear he
    by_cases hlt : k < n
    · have hc := hr k hlt
      by_cases hw : isWs (B k) = true
      · have h32 : B k ≤ 32 := by have := ws_cases hw; omega
        go_wp2_with (go_at_call 40; refine (space_any _ _).mono ?_; rintro e w' ⟨rfl, rfl⟩)
        go_round
        case rel => exact ⟨k + 1, by omega, HE.out.trans (sp_go B n hlt hw), by go_num⟩
        case measure => simp [intOf]; omega
      · have hw' : isWs (B k) = false := by simpa using hw
        clear hw
        by_cases h32 : B k ≤ 32
        · go_wp2_with (go_at_call 40; refine (space_any _ _).mono ?_; rintro e w' ⟨rfl, rfl⟩)
          go_ret
          exact ⟨ret_int (by rw [HE.out]; unfold sk; rw [sp_end B n (by rw [hw']; simp)]), rfl⟩
        · go_wp2_with (go_at_call 40; refine (space_any _ _).mono ?_; rintro e w' ⟨rfl, rfl⟩)
          go_ret
          exact ⟨ret_int (by rw [HE.out]; unfold sk; rw [sp_end B n (by rw [hw']; simp)]), rfl⟩
    · go_wp2_with (go_at_call 40; refine (space_any _ _).mono ?_; rintro e w' ⟨rfl, rfl⟩)
      go_ret
      exact ⟨ret_int (by rw [HE.out]; unfold sk; rw [sp_end B n (by omega)]), rfl⟩

set_option maxHeartbeats 400000 in
theorem stringEnd_any (w : World) (b o n cap i : Nat) (B : Nat → Int) (hr : Row w b o n B) (hn : n ≤ 65536) (hi : i ≤ 70000) :
    Calls Try.prog 32 #[.slice (some ⟨b, o, none⟩) n cap, .int .i64 (i : Int)] w fun e w' => e = .returned (.int .i64 (sE B n (i + 1) : Int)) ∧ w' = w := by
  go_enter Try.func32, Try.ntmps32
  go_wp2
  go_loop [1] (fun v => ∃ k : Nat, k ≤ 70001 ∧ sE B n (i + 1) = sE B n k ∧ v = .int .i64 k) (fun v => n - (intOf v).toNat)
  case atStart => exact ⟨i + 1, by omega, rfl, by go_num⟩
  case round =>
    obtain ⟨k, hk, he, rfl⟩ := hrel
    have HE := hide he; clear he
    by_cases hlt : k < n
    · have hc := hr k hlt
      by_cases h92 : B k = 92
      · have H := hide h92
        go_wp2
        go_round
        case rel => exact ⟨k + 2, by omega, HE.out.trans (sE_bs B n hlt H.out), by go_num⟩
        case measure => simp [intOf]; omega
      · by_cases h34 : B k = 34
        · have H := hide h34
          go_wp2
          go_ret
          exact ⟨ret_int (by rw [HE.out, sE_q B n hlt H.out]; omega), rfl⟩
        · have e1 : (B k == 92) = false := by simpa using h92
          have e2 : (B k == 34) = false := by simpa using h34
          go_wp2
          go_round
          case rel => exact ⟨k + 1, by omega, HE.out.trans (sE_go B n hlt h92 h34), by go_num⟩
          case measure => simp [intOf]; omega
    · go_wp2
      go_ret
      exact ⟨ret_int (by rw [HE.out, sE_ge B n (by omega)]), rfl⟩

/-- No hexadecimal digit is a backslash or a quote. -/
theorem hex_lower (k : Nat) (h : k < (⟨#[48, 49, 50, 51, 52, 53, 54, 55, 56, 57, 97, 98, 99, 100, 101, 102]⟩ : ByteArray).size) : (((⟨#[48, 49, 50, 51, 52, 53, 54, 55, 56, 57, 97, 98, 99, 100, 101, 102]⟩ : ByteArray)[k]'h).toNat : Int) ≠ 92 ∧ (((⟨#[48, 49, 50, 51, 52, 53, 54, 55, 56, 57, 97, 98, 99, 100, 101, 102]⟩ : ByteArray)[k]'h).toNat : Int) ≠ 34 := by
  have hk : k < 16 := h
  have : ∀ i : Fin 16, (((⟨#[48, 49, 50, 51, 52, 53, 54, 55, 56, 57, 97, 98, 99, 100, 101, 102]⟩ : ByteArray)[i.1]'i.2).toNat : Int) ≠ 92 ∧ (((⟨#[48, 49, 50, 51, 52, 53, 54, 55, 56, 57, 97, 98, 99, 100, 101, 102]⟩ : ByteArray)[i.1]'i.2).toNat : Int) ≠ 34 := by decide
  exact this ⟨k, hk⟩
theorem hex_upper (k : Nat) (h : k < (⟨#[48, 49, 50, 51, 52, 53, 54, 55, 56, 57, 65, 66, 67, 68, 69, 70]⟩ : ByteArray).size) : (((⟨#[48, 49, 50, 51, 52, 53, 54, 55, 56, 57, 65, 66, 67, 68, 69, 70]⟩ : ByteArray)[k]'h).toNat : Int) ≠ 92 ∧ (((⟨#[48, 49, 50, 51, 52, 53, 54, 55, 56, 57, 65, 66, 67, 68, 69, 70]⟩ : ByteArray)[k]'h).toNat : Int) ≠ 34 := by
  have hk : k < 16 := h
  have : ∀ i : Fin 16, (((⟨#[48, 49, 50, 51, 52, 53, 54, 55, 56, 57, 65, 66, 67, 68, 69, 70]⟩ : ByteArray)[i.1]'i.2).toNat : Int) ≠ 92 ∧ (((⟨#[48, 49, 50, 51, 52, 53, 54, 55, 56, 57, 65, 66, 67, 68, 69, 70]⟩ : ByteArray)[i.1]'i.2).toNat : Int) ≠ 34 := by decide
  exact this ⟨k, hk⟩

def HexOut (c : Int) (w : World) (e : Ending) (w' : World) : Prop := ∃ v ok, e = .returned (.tuple #[v, .bool ok]) ∧ (ok = true → c ≠ 92 ∧ c ≠ 34) ∧ w' = w
theorem hexOut_no {c : Int} {w : World} (v : Value) : HexOut c w (.returned (.tuple #[v, .bool false])) w := ⟨v, false, rfl, fun h => by simp at h, rfl⟩
theorem hexOut_yes {c : Int} {w : World} (v : Value) (h : c ≠ 92 ∧ c ≠ 34) : HexOut c w (.returned (.tuple #[v, .bool true])) w := ⟨v, true, rfl, fun _ => h, rfl⟩

set_option maxHeartbeats 400000 in
theorem hexVal_aux (c c0 : Int) (w : World) (H : Hid (c0 = c)) : Calls Try.prog 8 #[.int .u8 c] w fun e w' => HexOut c0 w e w' := by
  go_enter Try.func8, Try.ntmps8
  go_wp2
  go_loop [4] (fun v => ∃ k : Nat, k ≤ 16 ∧ v = .int .i64 k) (fun v => 16 - (intOf v).toNat)
  case atStart => exact ⟨0, by omega, rfl⟩
  case round =>
    obtain ⟨k, hk, rfl⟩ := hrel
    by_cases hlt : k < 16
    · by_cases hl : c = 92 ∨ c = 34
      · have hl1 : (c == (((⟨#[48, 49, 50, 51, 52, 53, 54, 55, 56, 57, 97, 98, 99, 100, 101, 102]⟩ : ByteArray)[k]'hlt).toNat : Int)) = false := by
          have := hex_lower k hlt
          rw [beq_eq_false_iff_ne]
          omega
        have hl2 : (c == (((⟨#[48, 49, 50, 51, 52, 53, 54, 55, 56, 57, 65, 66, 67, 68, 69, 70]⟩ : ByteArray)[k]'hlt).toNat : Int)) = false := by
          have := hex_upper k hlt
          rw [beq_eq_false_iff_ne]
          omega
        clear hl
        go_wp2
        go_round
        case rel => exact ⟨k + 1, by omega, by go_num⟩
        case measure => simp [intOf]; omega
      · have HL : Hid (c0 ≠ 92 ∧ c0 ≠ 34) := by show c0 ≠ 92 ∧ c0 ≠ 34; rw [H.out]; omega
        clear hl
        go_wp2
        · go_ret2
          exact hexOut_yes _ HL.out
        · go_ret2
          exact hexOut_yes _ HL.out
        · go_round
          case rel => exact ⟨k + 1, by omega, by go_num⟩
          case measure => simp [intOf]; omega
    · go_wp2
      go_ret2
      exact hexOut_no _
theorem hexVal_any (c : Int) (w : World) : Calls Try.prog 8 #[.int .u8 c] w fun e w' => ∃ v ok, e = .returned (.tuple #[v, .bool ok]) ∧ (ok = true → c ≠ 92 ∧ c ≠ 34) ∧ w' = w :=
  (hexVal_aux c c w rfl).mono fun _ _ h => h
end Go.Proofs.Qxb6603514a.Js
