import Derived.Test.Qxb6603446aProg
import Derived.Test.Qxb6603446aSkPlain
import Derived.WalkKit
import Derived.WalkSpells
namespace Go.Proofs.Qxb6603446a.Sk
open Go.RowKit

theorem hide {p : Prop} (h : p) : Hid p := h

theorem ret_bool {a b : Bool} (h : a = b) : Ending.returned (.bool a) = .returned (.bool b) := by rw [h]
theorem num_of {s : ByteArray} {k : Nat} (h : k < s.size) {c : Int} (e : ((s[k]'h).toNat : Int) = c) : bt s k = c := by rw [bt_at s k h, e]

def two (s : ByteArray) (r : Option Nat) : Value := .tuple #[.string (rest s r), .bool r.isSome]

/-- Does the text open with a space and a quote? -/
def opens (s : ByteArray) : Bool := decide (2 ≤ s.size ∧ bt s 0 = 32 ∧ bt s 1 = 34)

theorem opens_eq (s : ByteArray) (h : 2 ≤ s.size) : ((s.extract 0 2).toList == [32, 34]) = opens s := by
  have e : (s.extract 0 2).toList = [s[0]'(by omega), s[1]'(by omega)] := by
    rw [ByteArray.toList_eq]
    apply List.ext_getElem?
    intro j
    have hd : s.data.size = s.size := rfl
    rw [ByteArray.data_extract]
    match j with
    | 0 => simp [hd, h]; rfl
    | 1 => simp [hd, h]; rfl
    | j + 2 => simp [hd, h]
  rw [e, opens, Bool.eq_iff_iff]
  simp [bt_at s 0 (by omega), bt_at s 1 (by omega), h, ← UInt8.toNat_inj]
  omega

theorem hasPrefix_any (s : ByteArray) (w : World) (hs : s.size ≤ 1048576) :
    Calls Try.prog 23 #[.string s, .string ⟨#[32, 34]⟩] w fun e w' => e = .returned (.bool (opens s)) ∧ w' = w := by
  by_cases h2 : 2 ≤ s.size
  · have h2' : (2 : Int) ≤ (s.size : Int) := by omega
    have ho := opens_eq s h2
    have HO := hide ho; clear ho
    go_enter Try.func23, Try.ntmps23
    go_wp2
    go_ret
    exact ⟨ret_bool HO.out, rfl⟩
  · have h2' : (s.size : Int) < 2 := by omega
    go_enter Try.func23, Try.ntmps23
    go_wp2
    go_ret
    exact ⟨by simp [opens, h2], rfl⟩

set_option maxHeartbeats 800000 in
theorem skip_any (s : ByteArray) (w : World) (hs : s.size ≤ 1048576) :
    Calls Try.prog 21 #[.string s] w fun e w' => ∃ r, Ans (bt s) s.size r ∧ e = .returned (two s r) ∧ w' = w := by
  by_cases ho : opens s = true
  · have hop : 2 ≤ s.size ∧ bt s 0 = 32 ∧ bt s 1 = 34 := by simpa [opens] using ho
    obtain ⟨h2, hop⟩ := hop
    have HOP := hide hop; clear hop
    go_enter Try.func21, Try.ntmps21
    go_wp2_with (go_at_call 23; refine (hasPrefix_any _ _ hs).mono ?_; rintro e w' ⟨rfl, rfl⟩)
    go_loop [4] (fun i => ∃ k : Nat, k ≤ s.size + 1 ∧ Scan (bt s) s.size k ∧ i = .int .i64 k) (fun i => s.size + 1 - (intOf i).toNat)
    case atStart => exact ⟨2, by omega, scan_start _ _, rfl⟩
    case round =>
      obtain ⟨k, hk, hsc, rfl⟩ := hrel
      have HSC := hide hsc; clear hsc
      by_cases hlt : k < s.size
      · by_cases hb : ((s[k]'hlt).toNat : Int) = 92
        · have HB := hide (num_of hlt hb)
          go_wp2
          go_round
          case rel => exact ⟨k + 2, by omega, scan_bs HSC.out HB.out, by go_num⟩
          case measure => simp [intOf]; omega
        · have HB : Hid (bt s k ≠ 92) := by show bt s k ≠ 92; rw [bt_at s k hlt]; exact hb
          by_cases hq : ((s[k]'hlt).toNat : Int) = 34
          · have HQ := hide (num_of hlt hq)
            by_cases hl1 : k + 1 < s.size
            · by_cases hsp : ((s[k + 1]'hl1).toNat : Int) = 32
              · have HS := hide (num_of hl1 hsp)
                go_wp2
                go_ret2
                exact ⟨some k, scan_found HSC.out HOP.out HQ.out hl1 HS.out, rfl, rfl⟩
              · have HS : Hid (bt s (k + 1) ≠ 32) := by show bt s (k + 1) ≠ 32; rw [bt_at s (k + 1) hl1]; exact hsp
                go_wp2
                go_round
                case rel => exact ⟨k + 1, by omega, scan_step HSC.out HB.out (fun h => HS.out h.2.2), by go_num⟩
                case measure => simp [intOf]; omega
            · go_wp2
              go_round
              case rel => exact ⟨k + 1, by omega, scan_step HSC.out HB.out (fun h => hl1 h.2.1), by go_num⟩
              case measure => simp [intOf]; omega
          · have HQ : Hid (bt s k ≠ 34) := by show bt s k ≠ 34; rw [bt_at s k hlt]; exact hq
            go_wp2
            go_round
            case rel => exact ⟨k + 1, by omega, scan_step HSC.out HB.out (fun h => HQ.out h.1), by go_num⟩
            case measure => simp [intOf]; omega
      · go_wp2
        go_ret2
        exact ⟨none, scan_end HSC.out (by omega), rfl, rfl⟩
  · have ho' : opens s = false := by simpa using ho
    have hop : ¬ (2 ≤ s.size ∧ bt s 0 = 32 ∧ bt s 1 = 34) := by simpa [opens] using ho'
    have HOP := hide hop; clear hop ho
    go_enter Try.func21, Try.ntmps21
    go_wp2_with (go_at_call 23; refine (hasPrefix_any _ _ hs).mono ?_; rintro e w' ⟨rfl, rfl⟩)
    go_ret2
    refine ⟨none, ?_, rfl, rfl⟩
    by_cases h2 : 2 ≤ s.size
    · exact ans_shut (fun h => HOP.out ⟨h2, h⟩)
    · exact ans_short (by omega)
end Go.Proofs.Qxb6603446a.Sk
