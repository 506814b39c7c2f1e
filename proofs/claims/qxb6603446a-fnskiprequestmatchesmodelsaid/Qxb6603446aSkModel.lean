import Derived.Test.Qxb6603446aSkWalks
namespace Go.Proofs.Qxb6603446a.Sk
open Go.RowKit

set_option maxHeartbeats 1600000 in
theorem model_any (s : ByteArray) (w : World) (hs : s.size ≤ 1048576) :
    Calls Try.prog 17 #[.string s] w fun e w' => ∃ r, Ans (bt s) s.size r ∧ e = .returned (two s r) ∧ w' = w := by
  by_cases h2 : 2 ≤ s.size
  · have h0 : 0 < s.size := by omega
    have h1 : 1 < s.size := by omega
    by_cases hb0 : ((s[0]'h0).toNat : Int) = 32
    · by_cases hb1 : ((s[1]'h1).toNat : Int) = 34
      · have HOP := hide (And.intro (num_of h0 hb0) (num_of h1 hb1))
        go_enter Try.func17, Try.ntmps17
        go_wp2
        go_loop [4] (fun i => ∃ q : Nat, q ≤ s.size ∧ Seek (bt s) s.size q ∧ i = .int .i64 q) (fun i => s.size - (intOf i).toNat)
        case atStart => exact ⟨2, by omega, seek_start _ _, rfl⟩
        case round =>
          obtain ⟨q, hq, hsk, rfl⟩ := hrel
          have hq2 : 2 ≤ q := hsk.1
          have HSK := hide hsk; clear hsk
          by_cases hl1 : q + 1 < s.size
          · have hl0 : q < s.size := by omega
            by_cases hqq : ((s[q]'hl0).toNat : Int) = 34
            · have HQ := hide (num_of hl0 hqq)
              by_cases hsp : ((s[q + 1]'hl1).toNat : Int) = 32
              · have HS := hide (num_of hl1 hsp)
                go_wp2
                go_loop [5, 6] (fun r j => ∃ (m i : Nat), 2 ≤ i ∧ i ≤ q ∧ m + bsRun (bt s) i = bsRun (bt s) q ∧ r = .int .i64 m ∧ j = .int .i64 i) (fun _ j => (intOf j).toNat)
                case atStart => exact ⟨0, q, hq2, Nat.le_refl _, by omega, rfl, rfl⟩
                case round =>
                  obtain ⟨m, i, hi2, hiq, hm, rfl, rfl⟩ := hrel
                  have hmb : m ≤ q := by have := bsRun_le (bt s) q; omega
                  have HM := hide hm; clear hm
                  by_cases hi : 2 < i
                  · obtain ⟨p, rfl⟩ : ∃ p, i = p + 1 := ⟨i - 1, by omega⟩
                    have hp : p < s.size := by omega
                    by_cases hbs : ((s[p]'hp).toNat : Int) = 92
                    · have HBS := hide (num_of hp hbs)
                      go_wp2
                      go_round
                      case rel => exact ⟨m + 1, p, by omega, by omega, by have h1 := HM.out; have h2 := bsRun_hit (b := bt s) (q := p) (by omega) HBS.out; omega, by go_num, rfl⟩
                      case measure => simp [intOf]
                    · have HMQ : Hid (m = bsRun (bt s) q) := by show m = _; have h1 := HM.out; have h2 := bsRun_miss (b := bt s) (q := p) (by rw [bt_at s p hp]; exact hbs); omega
                      go_wp2
                      · go_ret2
                        have he : (((m : Int) % 2 == 0) = true) := by assumption
                        exact ⟨some q, seek_found HSK.out ⟨HOP.out, hq2, hl1, HQ.out, HS.out, by have h1 := HMQ.out; simp at he; omega⟩, rfl, rfl⟩
                      · go_round
                        case rel => exact ⟨q + 1, by omega, seek_step HSK.out (fun h => by have h1 := HMQ.out; have h2 := h.2.2.2.2.2; have he : (((m : Int) % 2 == 0) = false) := (by assumption); simp at he; omega), by go_num⟩
                        case measure => simp [intOf]; omega
                  · have HMQ : Hid (m = bsRun (bt s) q) := by
                      show m = _
                      have h1 := HM.out
                      obtain rfl : i = 2 := by omega
                      have h2 := bsRun_two (b := bt s)
                      omega
                    go_wp2
                    · go_ret2
                      have he : (((m : Int) % 2 == 0) = true) := by assumption
                      exact ⟨some q, seek_found HSK.out ⟨HOP.out, hq2, hl1, HQ.out, HS.out, by have h1 := HMQ.out; simp at he; omega⟩, rfl, rfl⟩
                    · go_round
                      case rel => exact ⟨q + 1, by omega, seek_step HSK.out (fun h => by have h1 := HMQ.out; have h2 := h.2.2.2.2.2; have he : (((m : Int) % 2 == 0) = false) := (by assumption); simp at he; omega), by go_num⟩
                      case measure => simp [intOf]; omega
              · have HS : Hid (bt s (q + 1) ≠ 32) := by show bt s (q + 1) ≠ 32; rw [bt_at s (q + 1) hl1]; exact hsp
                go_wp2
                go_round
                case rel => exact ⟨q + 1, by omega, seek_step HSK.out (fun h => HS.out h.2.2.2.2.1), by go_num⟩
                case measure => simp [intOf]; omega
            · have HQ : Hid (bt s q ≠ 34) := by show bt s q ≠ 34; rw [bt_at s q hl0]; exact hqq
              go_wp2
              go_round
              case rel => exact ⟨q + 1, by omega, seek_step HSK.out (fun h => HQ.out h.2.2.2.1), by go_num⟩
              case measure => simp [intOf]; omega
          · go_wp2
            go_ret2
            exact ⟨none, seek_end HSK.out (by omega), rfl, rfl⟩
      · have HB : Hid (bt s 1 ≠ 34) := by show bt s 1 ≠ 34; rw [bt_at s 1 h1]; exact hb1
        have hb1' : (((s[1]'h1).toNat : Int) != 34) = true := by simpa using hb1
        go_enter Try.func17, Try.ntmps17
        go_wp2
        go_ret2
        exact ⟨none, ans_shut (fun h => HB.out h.2), rfl, rfl⟩
    · have HB : Hid (bt s 0 ≠ 32) := by show bt s 0 ≠ 32; rw [bt_at s 0 h0]; exact hb0
      have hb0' : (((s[0]'h0).toNat : Int) != 32) = true := by simpa using hb0
      go_enter Try.func17, Try.ntmps17
      go_wp2
      go_ret2
      exact ⟨none, ans_shut (fun h => HB.out h.1), rfl, rfl⟩
  · go_enter Try.func17, Try.ntmps17
    go_wp2
    go_ret2
    exact ⟨none, ans_short (by omega), rfl, rfl⟩

/-- skipRequest's own answer, the pair written out. -/
theorem skip_pair (s : ByteArray) (w : World) (hs : s.size ≤ 1048576) :
    Calls Try.prog 21 #[.string s] w fun e w' => ∃ r, Ans (bt s) s.size r ∧ e = .returned (.tuple #[.string (rest s r), .bool r.isSome]) ∧ w' = w :=
  (skip_any s w hs).mono fun _ _ h => h

theorem zz_pair (s : ByteArray) (w : World) (hs : s.size ≤ 1048576) :
    Calls Try.prog 16 #[.string s] w fun e w' => ∃ r, Ans (bt s) s.size r ∧ e = .returned (.tuple #[.string (rest s r), .bool r.isSome]) ∧ w' = w := by
  go_enter Try.func16, Try.ntmps16
  go_wp2_with (go_at_call 21; refine (skip_pair s _ hs).mono ?_; rintro e w' ⟨r, hr, rfl, rfl⟩; have HR := hide hr; clear hr)
  go_ret2
  exact ⟨_, HR.out, rfl, rfl⟩

/-- The model gives the same answer. -/
theorem model_as (s : ByteArray) (w : World) (hs : s.size ≤ 1048576) (r : Option Nat) (hr : Ans (bt s) s.size r) :
    Calls Try.prog 17 #[.string s] w fun e w' => e = .returned (.tuple #[.string (rest s r), .bool r.isSome]) ∧ w' = w :=
  (model_any s w hs).mono fun _ _ ⟨_, hr', he, hw⟩ => ⟨by rw [he, ans_one hr' hr]; rfl, hw⟩
end Go.Proofs.Qxb6603446a.Sk
