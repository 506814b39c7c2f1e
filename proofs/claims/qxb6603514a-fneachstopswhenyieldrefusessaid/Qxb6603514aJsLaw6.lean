import Derived.Test.Qxb6603514aJsLaw5
import Derived.Test.Qxb6603514aJsZzLen
namespace Go.Proofs.Qxb6603514a.Js
open Go.RowKit
set_option linter.unusedVariables false

theorem law6_big (kd : Int) (a : Option Addr) (n cap : Nat) (lim : Int) (w : World) (hn : 65536 < n) : Calls Try.prog 6 #[.int .i64 kd, .slice a n cap, .int .i64 lim] w fun e w' => LawOut w e w' := by
  by_cases h : (1048576 : Int) < (n : Int)
  · go_enter Try.func6, Try.ntmps6
    go_wp2
    go_ret
    exact lawOut_mk (Below.refl _ _)
  · go_enter Try.func6, Try.ntmps6
    go_wp2
    go_ret
    exact lawOut_mk (Below.refl _ _)
theorem law6_zero (a : Option Addr) (n cap : Nat) (lim : Int) (w : World) (hn : n ≤ 65536) (h0 : 0 < n) : Calls Try.prog 6 #[.int .i64 0, .slice a n cap, .int .i64 lim] w fun e w' => LawOut w e w' := by
  have h1 : ((n : Int) != 0) = true := by simp; omega
  go_enter Try.func6, Try.ntmps6
  go_wp2
  go_ret
  exact lawOut_mk (Below.refl _ _)
theorem law6_empty (kd : Int) (hk : kd ≠ 0) (a : Option Addr) (cap : Nat) (lim : Int) (w : World) : Calls Try.prog 6 #[.int .i64 kd, .slice a 0 cap, .int .i64 lim] w fun e w' => LawOut w e w' := by
  have hk' : (kd == 0) = false := by simpa using hk
  go_enter Try.func6, Try.ntmps6
  go_wp2_with (first | (go_at_call 15; go_in) | (go_at_call 12; refine (top_empty _ _ _).mono ?_; rintro e w ⟨rfl, rfl⟩))
  go_ret
  exact lawOut_mk (Below.refl _ _)
theorem law6_none (a : Option Addr) (cap : Nat) (ha : a = none → cap = 0) (lim : Int) (w : World) : Calls Try.prog 6 #[.int .i64 0, .slice a 0 cap, .int .i64 lim] w fun e w' => LawOut w e w' := by
  by_cases hlim : lim < 1
  all_goals
    cases a with
    | none =>
      obtain rfl := ha rfl
      go_enter Try.func6, Try.ntmps6
      go_wp2_with (first | (go_at_call 15; go_in) | (go_at_call 9; refine (clone_nil _).mono ?_; rintro e w ⟨rfl, rfl⟩) | (go_at_call 16; refine (zzUpTo_none 0 _ _ _ _ _ (by decide) (by decide)).mono ?_; rintro e w1 ⟨rfl, hb1⟩) | (go_at_call 14; refine (same_zero _ _ _ _ _ _ _ _ _ _ _ _ _ _).mono ?_; rintro e w1 ⟨rfl, rfl⟩) | (go_at_call 17; refine (zzLen_none 0 _ _ _ _ (by decide) (by decide)).mono ?_; rintro e w3 ⟨rfl, hb3⟩))
      go_ret
      exact lawOut_mk (hb1.trans (hb3.mono hb1.size))
    | some x =>
      go_enter Try.func6, Try.ntmps6
      go_wp2_with (first | (go_at_call 15; go_in) | (go_at_call 9; refine (clone_empty _ _ _).mono ?_; rintro e w2 ⟨rfl, hb2⟩) | (go_at_call 16; refine (zzUpTo_none 0 _ _ _ _ _ (by decide) (by decide)).mono ?_; rintro e w1 ⟨rfl, hb1⟩) | (go_at_call 14; refine (same_zero _ _ _ _ _ _ _ _ _ _ _ _ _ _).mono ?_; rintro e w1 ⟨rfl, rfl⟩) | (go_at_call 17; refine (zzLen_none 0 _ _ _ _ (by decide) (by decide)).mono ?_; rintro e w3 ⟨rfl, hb3⟩))
      go_ret
      exact lawOut_mk ((hb2.trans (hb1.mono hb2.size)).trans (hb3.mono (Nat.le_trans hb2.size hb1.size)))

/-- What the law wants, case by case, as the walk writes it. -/
theorem want_cases (L : Nat) (lim : Int) : (lim < 1 ∧ (1 : Int) < (L : Int) ∧ ((want L lim : Nat) : Int) = 1) ∨ (lim < 1 ∧ ¬ (1 : Int) < (L : Int) ∧ ((want L lim : Nat) : Int) = (L : Int)) ∨
    (¬ lim < 1 ∧ lim < (L : Int) ∧ ((want L lim : Nat) : Int) = lim) ∨ (¬ lim < 1 ∧ ¬ lim < (L : Int) ∧ ((want L lim : Nat) : Int) = (L : Int)) := by
  unfold want
  by_cases h : lim < 1
  · rw [if_pos h]
    by_cases h2 : (1 : Int) < (L : Int)
    · exact .inl ⟨h, h2, by omega⟩
    · exact .inr (.inl ⟨h, h2, by omega⟩)
  · rw [if_neg h]
    by_cases h2 : lim < (L : Int)
    · exact .inr (.inr (.inl ⟨h, h2, by omega⟩))
    · exact .inr (.inr (.inr ⟨h, h2, by omega⟩))

set_option maxRecDepth 100000 in
set_option maxHeartbeats 3200000 in
theorem law6_text (kd : Int) (hk : kd ≠ 0) (b o n cap : Nat) (B : Nat → Int) (hn : n ≤ 65536) (h0 : 0 < n) (hcap : n ≤ cap) (lim : Int) (w : World) (hr : Row w b o n B) :
    Calls Try.prog 6 #[.int .i64 kd, .slice (some ⟨b, o, none⟩) n cap, .int .i64 lim] w fun e w' => LawOut w e w' := by
  have hk' : (kd == 0) = false := by simpa using hk
  have hblt : b < w.heap.size := World.block_lt_of_cell? w _ (hr 0 h0)
  go_enter Try.func6, Try.ntmps6
  go_wp2_with (go_at_call 15; go_in)
  refine (top_any w b o n cap B hr hn h0).mono ?_
  rintro e w1 ⟨k, vn, vv, vk, ok, rfl, hb1, hok⟩
  cases ok
  · clear hok
    go_wp2_with fail
    go_ret
    exact lawOut_mk hb1
  · by_cases hkk : k = kd
    · subst hkk
      have hkk : (k != k) = false := by simp
      rcases hok rfl with ⟨obj, ms, hko, hd, hl⟩ | ⟨h1, h4, rfl, rfl, rfl⟩
      · obtain ⟨av, cv, hvv⟩ := own_form hl.2.1
        have hr1 := row_below hr hblt hb1
        have hlen := done_len B n obj _ _ _ hd
        have HL := hide hl; have HKO := hide hko; have HD := hide hd; have HB1 := hide hb1; have HR1 := hide hr1
        clear hok hl hko hd hb1 hr1 hr
        rw [hvv] at HL ⊢
        clear hvv
        go_wp2_with fail
        refine (clone_any w1 b o n cap B HR1.out hn h0).mono ?_
        rintro e w2 ⟨rfl, hr2, hb2⟩
        have hlt2 : w1.heap.size < w2.heap.size := World.block_lt_of_cell? w2 _ (hr2 0 h0)
        have hz := zzUpTo_any obj w1.heap.size 0 n n B hn (Nat.le_refl _) ms HD.out lim w2 hr2
        rw [show kindNo obj = k from HKO.out.symm] at hz
        have HZ := hide hz; have HR2 := hide hr2; have HB2 := hide hb2
        clear hz hr2 hb2
        rcases want_cases ms.length lim with ⟨hl1, hl2, hwant⟩ | ⟨hl1, hl2, hwant⟩ | ⟨hl1, hl2, hwant⟩ | ⟨hl1, hl2, hwant⟩
        all_goals
          have HW := hide hwant
          clear hwant
          go_wp2_with fail
          refine HZ.out.mono ?_
          rintro e w3 ⟨v1, v2, v3, v4, rfl, hb3, hout⟩
          have hr3 := row_below HR2.out hlt2 hb3
          have hs := same_any obj w1.heap.size 0 n n B hn (Nat.le_refl _) ms _ _ HD.out (want ms.length lim) (want_le _ _) vn (.slice av ms.length cv) vk v1 v2 v3 v4 w.heap.size w2.heap.size w3 hr3 (lists_below (lists_below HL.out HB2.out) (hb3.mono (Nat.le_refl _))) hout
          rw [show kindNo obj = k from HKO.out.symm, HW.out] at hs
          have HS := hide hs; have HB3 := hide hb3; have HR3 := hide hr3
          clear hs hb3 hout HZ hr3
          go_wp2_with fail
          refine HS.out.mono ?_
          rintro e w4 ⟨rfl, q, rfl⟩
          have hzl := zzLen_any obj w1.heap.size 0 n n B hn (Nat.le_refl _) ms HD.out (w3.drewN q) HR3.out
          rw [show kindNo obj = k from HKO.out.symm] at hzl
          have HZL := hide hzl
          clear hzl
          go_wp2_with fail
          refine HZL.out.mono ?_
          rintro e w5 ⟨rfl, hb5⟩
          have hfin : Below w.heap.size w w5 := (below_drewN ((HB1.out.trans (HB2.out.mono HB1.out.size)).trans (HB3.out.mono (Nat.le_trans HB1.out.size HB2.out.size))) q).trans (hb5.mono (Nat.le_trans HB1.out.size (Nat.le_trans HB2.out.size HB3.out.size)))
          clear hb5
          go_wp2_with fail
          go_ret
          exact lawOut_mk hfin
      · have HB1 := hide hb1
        have hr1 := row_below hr hblt hb1
        have HR1 := hide hr1
        clear hok hb1 hr1 hr
        go_wp2_with fail
        refine (clone_any w1 b o n cap B HR1.out hn h0).mono ?_
        rintro e w2 ⟨rfl, _, hb2⟩
        have HB2 := hide hb2; clear hb2
        by_cases hlim : lim < 1
        all_goals
          go_wp2_with (first | (go_at_call 16; refine (zzUpTo_none k _ _ _ _ _ (by omega) (by omega)).mono ?_; rintro e w3 ⟨rfl, hb3⟩) | (go_at_call 14; refine (same_zero _ _ _ _ _ _ _ _ _ _ _ _ _ _).mono ?_; rintro e w3 ⟨rfl, rfl⟩) | (go_at_call 17; refine (zzLen_none k _ _ _ _ (by omega) (by omega)).mono ?_; rintro e w5 ⟨rfl, hb5⟩))
          go_ret
          exact lawOut_mk (((HB1.out.trans (HB2.out.mono HB1.out.size)).trans (hb3.mono (Nat.le_trans HB1.out.size HB2.out.size))).trans (hb5.mono (Nat.le_trans HB1.out.size (Nat.le_trans HB2.out.size hb3.size))))
    · have hkk' : (k != kd) = true := by simpa using hkk
      clear hok
      go_wp2_with fail
      go_ret
      exact lawOut_mk hb1
end Go.Proofs.Qxb6603514a.Js
