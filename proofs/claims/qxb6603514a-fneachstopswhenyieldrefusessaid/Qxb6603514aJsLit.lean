import Derived.Test.Qxb6603514aJsNum
import Derived.Deep.QuietTactic
import Derived.BigQuiet
import Derived.WalkSmall
namespace Go.Proofs.Qxb6603514a.Js
open Go.RowKit
set_option linter.unusedVariables false

/-- As 'NumOut', but for draws. -/
def LitOut (B : Nat → Int) (n i : Nat) (w : World) (e : Ending) (w' : World) : Prop := ∃ q w1, w' = World.drewN w1 q ∧ w1 = w ∧ NumOut B n i w e w
theorem litOut_of {B : Nat → Int} {n i : Nat} {w : World} {e : Ending} (q : Nat) (h : NumOut B n i w e w) : LitOut B n i w e (w.drewN q) := ⟨q, w, rfl, rfl, h⟩
theorem litOut_bare {B : Nat → Int} {n i : Nat} {w : World} {e : Ending} (h : NumOut B n i w e w) : LitOut B n i w e w := ⟨0, w, rfl, rfl, h⟩

set_option maxRecDepth 100000 in
set_option maxHeartbeats 800000 in
theorem lit_any (w : World) (b o n cap i : Nat) (B : Nat → Int) (s : ByteArray) (hr : Row w b o n B) (hn : n ≤ 65536) (hi : i ≤ 70000) (hs1 : 0 < s.size) (hs : s.size ≤ 10)
    (hok : ∀ k (h : k < s.size), okCh ((s[k]'h).toNat : Int) = true) :
    Calls Try.prog 28 #[.slice (some ⟨b, o, none⟩) n cap, .int .i64 (i : Int), .string s] w fun e w' => LitOut B n i w e w' := by
  by_cases hin : i + s.size ≤ n
  · have hd : decide ((n : Int) < (i : Int) + (s.size : Int)) = false := by simp; omega
    go_enter Try.func28, Try.ntmps28
    go_wp2
    go_loopw [8] (fun v wr => ∃ k q : Nat, k ≤ s.size ∧ Run B i (i + k) ∧ v = .int .i64 k ∧ wr = w.drewN q) (fun v _ => s.size - (intOf v).toNat)
    case atStart => exact ⟨0, 0, Nat.zero_le _, run_start B i, rfl, rfl⟩
    case round =>
      obtain ⟨k, q, hk, hrun, rfl, rfl⟩ := hrel
      have HR := hide hrun; clear hrun
      by_cases hlt : k < s.size
      · have hc := hr (i + k) (by omega)
        by_cases he : B (i + k) = ((s[k]'hlt).toNat : Int)
        · have hii : (0 : Int) ≤ (i : Int) + (k : Int) := by omega
          have hij : (i : Int) + (k : Int) < (n : Int) := by omega
          have hik : (k : Int) < (s.size : Int) := by omega
          have HO : Hid (okCh (B (i + k)) = true) := by show okCh (B (i + k)) = true; rw [he]; exact hok k hlt
          clear hok
          go_wp2
          go_quiet (fail)
          go_wp2
          go_roundw
          case rel => exact ⟨k + 1, _, by omega, run_snoc HR.out HO.out, by go_num, rfl⟩
          case measure => simp [intOf]; omega
        · have hii : (0 : Int) ≤ (i : Int) + (k : Int) := by omega
          have hij : (i : Int) + (k : Int) < (n : Int) := by omega
          have hik : (k : Int) < (s.size : Int) := by omega
          have he' : (B (i + k) != ((s[k]'hlt).toNat : Int)) = true := by simpa using he
          clear hok
          go_wp2
          go_quiet (fail)
          go_wp2
          go_ret2
          rw [World.drewN_drewN]
          exact litOut_of _ (numOut_no _)
      · clear hok
        go_wp2
        go_ret2
        have hks : k = s.size := by omega
        have HR2 : Run B i (i + s.size) := by rw [← hks]; exact HR.out
        exact litOut_of q (numOut_yes (i + s.size) (by omega) hin HR2)
  · go_enter Try.func28, Try.ntmps28
    go_wp2
    go_ret2
    exact litOut_bare (numOut_no _)
end Go.Proofs.Qxb6603514a.Js
