import Derived.Test.Qxb6603514aJsEnds
namespace Go.Proofs.Qxb6603514a.Js
open Go.RowKit
set_option linter.unusedVariables false

theorem notDel_of {c : Int} (h1 : isWs c = false) (h2 : c ≠ 44) (h3 : c ≠ 93) (h4 : c ≠ 125) : notDel c = true := by simp [notDel, isDel, h1, h2, h3, h4]
theorem del_of {c : Int} (h : isWs c = true ∨ c = 44 ∨ c = 93 ∨ c = 125) : notDel c = false := by
  rcases h with h | h | h | h <;> simp [notDel, isDel, h]

set_option maxRecDepth 100000 in
set_option maxHeartbeats 1600000 in
theorem valueEnd_tok (w : World) (b o n cap i : Nat) (B : Nat → Int) (hr : Row w b o n B) (hn : n ≤ 65536) (hi : i < n) (h34 : B i ≠ 34) (h91 : B i ≠ 91) (h123 : B i ≠ 123) :
    Calls Try.prog 33 #[.slice (some ⟨b, o, none⟩) n cap, .int .i64 (i : Int)] w fun e w' => e = .returned (.int .i64 (sp B n notDel i : Int)) ∧ w' = w := by
  have hc0 := hr i hi
  have e1 : (B i == 34) = false := by simpa using h34
  have e2 : (B i == 91) = false := by simpa using h91
  have e3 : (B i == 123) = false := by simpa using h123
  clear h34 h91 h123
  go_enter Try.func33, Try.ntmps33
  go_wp2
  go_loop [1] (fun v => ∃ k : Nat, i ≤ k ∧ k ≤ n ∧ sp B n notDel i = sp B n notDel k ∧ v = .int .i64 k) (fun v => n - (intOf v).toNat)
  case atStart => exact ⟨i, Nat.le_refl _, by omega, rfl, rfl⟩
  case round =>
    obtain ⟨k, hk1, hk, he, rfl⟩ := hrel
    have HE := hide he; clear he hc0
    by_cases hlt : k < n
    · have hc := hr k hlt
      have hd : decide ((k : Int) < (n : Int)) = true := by simp; omega
      by_cases hw : isWs (B k) = true
      · have HN := hide (del_of (.inl hw))
        go_wp2_with (go_at_call 40; refine (space_any _ _).mono ?_; rintro e w' ⟨rfl, rfl⟩)
        go_ret
        exact ⟨ret_int (by rw [HE.out, sp_end B n (by rw [HN.out]; simp)]), rfl⟩
      have hw' : isWs (B k) = false := by simpa using hw
      clear hw
      by_cases h44 : B k = 44
      · have HN := hide (del_of (c := B k) (.inr (.inl h44)))
        have f1 : (B k != 44) = false := by simpa using h44
        clear h44
        go_wp2_with (go_at_call 40; refine (space_any _ _).mono ?_; rintro e w' ⟨rfl, rfl⟩)
        go_ret
        exact ⟨ret_int (by rw [HE.out, sp_end B n (by rw [HN.out]; simp)]), rfl⟩
      have f1 : (B k != 44) = true := by simpa using h44
      by_cases h93 : B k = 93
      · have HN := hide (del_of (c := B k) (.inr (.inr (.inl h93))))
        have f2 : (B k != 93) = false := by simpa using h93
        clear h93 h44
        go_wp2_with (go_at_call 40; refine (space_any _ _).mono ?_; rintro e w' ⟨rfl, rfl⟩)
        go_ret
        exact ⟨ret_int (by rw [HE.out, sp_end B n (by rw [HN.out]; simp)]), rfl⟩
      have f2 : (B k != 93) = true := by simpa using h93
      by_cases h125 : B k = 125
      · have HN := hide (del_of (c := B k) (.inr (.inr (.inr h125))))
        have f3 : (B k != 125) = false := by simpa using h125
        clear h93 h44 h125
        go_wp2_with (go_at_call 40; refine (space_any _ _).mono ?_; rintro e w' ⟨rfl, rfl⟩)
        go_ret
        exact ⟨ret_int (by rw [HE.out, sp_end B n (by rw [HN.out]; simp)]), rfl⟩
      have f3 : (B k != 125) = true := by simpa using h125
      have HN := hide (notDel_of hw' h44 h93 h125)
      clear h93 h44 h125
      go_wp2_with (go_at_call 40; refine (space_any _ _).mono ?_; rintro e w' ⟨rfl, rfl⟩)
      go_round
      case rel => exact ⟨k + 1, by omega, by omega, HE.out.trans (sp_go B n hlt HN.out), by go_num⟩
      case measure => simp [intOf]; omega
    · go_wp2_with (go_at_call 40; refine (space_any _ _).mono ?_; rintro e w' ⟨rfl, rfl⟩)
      go_ret
      exact ⟨ret_int (by rw [HE.out, sp_end B n (by omega)]), rfl⟩

set_option maxRecDepth 100000 in
set_option maxHeartbeats 1600000 in
theorem valueEnd_str (w : World) (b o n cap i : Nat) (B : Nat → Int) (hr : Row w b o n B) (hn : n ≤ 65536) (hi : i < n) (h34 : B i = 34) :
    Calls Try.prog 33 #[.slice (some ⟨b, o, none⟩) n cap, .int .i64 (i : Int)] w fun e w' => e = .returned (.int .i64 (sE B n (i + 1) : Int)) ∧ w' = w := by
  have hc0 := hr i hi
  go_enter Try.func33, Try.ntmps33
  go_wp2_with (go_at_call 32; refine (stringEnd_any _ b o n cap i B hr hn (by omega)).mono ?_; rintro e w' ⟨rfl, rfl⟩)
  go_ret
  exact ⟨rfl, rfl⟩

set_option maxRecDepth 100000 in
set_option maxHeartbeats 3200000 in
theorem valueEnd_box (w : World) (b o n cap i : Nat) (B : Nat → Int) (hr : Row w b o n B) (hn : n ≤ 65536) (hi : i < n) (hb : B i = 91 ∨ B i = 123) :
    Calls Try.prog 33 #[.slice (some ⟨b, o, none⟩) n cap, .int .i64 (i : Int)] w fun e w' => e = .returned (.int .i64 (vE B n i 0 : Int)) ∧ w' = w := by
  have hc0 := hr i hi
  rcases hb with hb | hb
  all_goals
    go_enter Try.func33, Try.ntmps33
    go_wp2
    go_loop [1, 5] (fun v u => ∃ (k : Nat) (d : Int), k ≤ n ∧ -(k : Int) ≤ d ∧ d ≤ (k : Int) ∧ vE B n i 0 = vE B n k d ∧ v = .int .i64 k ∧ u = .int .i64 d) (fun v _ => n - (intOf v).toNat)
    case atStart => exact ⟨i, 0, by omega, by omega, by omega, rfl, rfl, rfl⟩
    case round =>
      obtain ⟨k, d, hk, hd1, hd2, he, rfl, rfl⟩ := hrel
      have HE := hide he; clear he hc0 hb
      by_cases hlt : k < n
      · have hc := hr k hlt
        by_cases h34 : B k = 34
        · have H := hide h34
          have hs1 := le_sE B n (i := k + 1) (by omega)
          have hs2 := sE_le B n (k + 1)
          go_wp2_with (go_at_call 32; refine (stringEnd_any _ b o n cap k B hr hn (by omega)).mono ?_; rintro e w' ⟨rfl, rfl⟩)
          go_round
          case rel => exact ⟨sE B n (k + 1), d, by omega, by omega, by omega, HE.out.trans (vE_q B n hlt H.out), by go_num, rfl⟩
          case measure => simp [intOf]; omega
        have e1 : (B k == 34) = false := by simpa using h34
        by_cases h91 : B k = 91
        · have H := hide h91
          have f : (B k == 91) = true := by simpa using h91
          clear h34 h91
          go_wp2
          go_round
          case rel => exact ⟨k + 1, d + 1, by omega, by omega, by omega, HE.out.trans (vE_open B n hlt (.inl H.out)), by go_num, by go_num⟩
          case measure => simp [intOf]; omega
        have e2 : (B k == 91) = false := by simpa using h91
        by_cases h123 : B k = 123
        · have H := hide h123
          have f : (B k == 123) = true := by simpa using h123
          clear h34 h91 h123
          go_wp2
          go_round
          case rel => exact ⟨k + 1, d + 1, by omega, by omega, by omega, HE.out.trans (vE_open B n hlt (.inr H.out)), by go_num, by go_num⟩
          case measure => simp [intOf]; omega
        have e3 : (B k == 123) = false := by simpa using h123
        by_cases h93 : B k = 93
        · have H := hide h93
          have f : (B k == 93) = true := by simpa using h93
          clear h34 h91 h123 h93
          by_cases hz : d - 1 = 0
          · have hz' : (d - 1 == 0) = true := by simpa using hz
            have HO := hide (vE_out B n hlt (.inl H.out) hz)
            clear hz
            go_wp2
            go_ret
            exact ⟨ret_int (by rw [HE.out, HO.out]; omega), rfl⟩
          · have hz' : (d - 1 == 0) = false := by simpa using hz
            have HO := hide (vE_close B n hlt (.inl H.out) hz)
            clear hz
            go_wp2
            go_round
            case rel => exact ⟨k + 1, d - 1, by omega, by omega, by omega, HE.out.trans HO.out, by go_num, by go_num⟩
            case measure => simp [intOf]; omega
        have e4 : (B k == 93) = false := by simpa using h93
        by_cases h125 : B k = 125
        · have H := hide h125
          have f : (B k == 125) = true := by simpa using h125
          clear h34 h91 h123 h93 h125
          by_cases hz : d - 1 = 0
          · have hz' : (d - 1 == 0) = true := by simpa using hz
            have HO := hide (vE_out B n hlt (.inr H.out) hz)
            clear hz
            go_wp2
            go_ret
            exact ⟨ret_int (by rw [HE.out, HO.out]; omega), rfl⟩
          · have hz' : (d - 1 == 0) = false := by simpa using hz
            have HO := hide (vE_close B n hlt (.inr H.out) hz)
            clear hz
            go_wp2
            go_round
            case rel => exact ⟨k + 1, d - 1, by omega, by omega, by omega, HE.out.trans HO.out, by go_num, by go_num⟩
            case measure => simp [intOf]; omega
        have e5 : (B k == 125) = false := by simpa using h125
        have HO := hide (fun d => vE_go B n (d := d) hlt h34 (by omega) (by omega))
        clear h34 h91 h123 h93 h125
        go_wp2
        go_round
        case rel => exact ⟨k + 1, d, by omega, by omega, by omega, HE.out.trans (HO.out d), by go_num, rfl⟩
        case measure => simp [intOf]; omega
      · go_wp2
        go_ret
        exact ⟨ret_int (by rw [HE.out, vE_ge B n (by omega)]), rfl⟩

theorem valueEnd_any (w : World) (b o n cap i : Nat) (B : Nat → Int) (hr : Row w b o n B) (hn : n ≤ 65536) (hi : i < n) :
    Calls Try.prog 33 #[.slice (some ⟨b, o, none⟩) n cap, .int .i64 (i : Int)] w fun e w' => e = .returned (.int .i64 (valEnd B n i : Int)) ∧ w' = w := by
  by_cases h34 : B i = 34
  · exact (valueEnd_str w b o n cap i B hr hn hi h34).mono fun _ _ h => ⟨by rw [h.1]; simp [valEnd, h34], h.2⟩
  · by_cases hb : B i = 91 ∨ B i = 123
    · exact (valueEnd_box w b o n cap i B hr hn hi hb).mono fun _ _ h => ⟨by rw [h.1]; simp [valEnd, h34, hb], h.2⟩
    · exact (valueEnd_tok w b o n cap i B hr hn hi h34 (by omega) (by omega)).mono fun _ _ h => ⟨by rw [h.1]; simp [valEnd, h34, hb], h.2⟩
end Go.Proofs.Qxb6603514a.Js
