import Derived.Test.Qxb6603514aJsZzUpTo
namespace Go.Proofs.Qxb6603514a.Js
open Go.RowKit
set_option linter.unusedVariables false
attribute [local go_sem ↓] Go.wp_at_zero Go.wp_at_succ

theorem zzUpTo_none (k : Int) (a : Option Addr) (n c : Nat) (lim : Int) (w : World) (h5 : k ≠ 5) (h6 : k ≠ 6) :
    Calls Try.prog 16 #[.int .i64 k, .slice a n c, .int .i64 lim] w fun e w' => e = .returned (.tuple #[.slice none 0 0, .slice none 0 0, .slice none 0 0, .slice none 0 0]) ∧ Below w.heap.size w w' := by
  have HE := hide (each_none k a n c (.func (.func 24) #[] #[.pointer (some ⟨w.heap.size + 1, 0, none⟩), .pointer (some ⟨w.heap.size + 2, 0, none⟩), .pointer (some ⟨w.heap.size + 3, 0, none⟩), .pointer (some ⟨w.heap.size + 4, 0, none⟩), .pointer (some ⟨w.heap.size, 0, none⟩)]) (W5 w lim) h5 h6)
  go_enter Try.func16, Try.ntmps16
  go_wp2_with fail
  refine HE.out.mono ?_
  rintro e w1 ⟨rfl, hb⟩
  have hs := w5_size w lim
  have hw4 := w4_block (w.alloc (.cells #[.int .i64 lim] 3))
  have e : (w.alloc (.cells #[.int .i64 lim] 3)).heap.size = w.heap.size + 1 := by simp
  rw [e] at hw4
  obtain ⟨b1, b2, b3, b4⟩ := hw4
  have g1 : w1.heap[w.heap.size + 1]? = _ := (hb.block (w.heap.size + 1) (by omega)).trans b1
  have g2 : w1.heap[w.heap.size + 1 + 1]? = _ := (hb.block (w.heap.size + 1 + 1) (by omega)).trans b2
  have g3 : w1.heap[w.heap.size + 1 + 1 + 1]? = _ := (hb.block (w.heap.size + 1 + 2) (by omega)).trans b3
  have g4 : w1.heap[w.heap.size + 1 + 1 + 1 + 1]? = _ := (hb.block (w.heap.size + 1 + 3) (by omega)).trans b4
  have q1 := cell_of_one g1
  have q2 := cell_of_one g2
  have q3 := cell_of_one g3
  have q4 := cell_of_one g4
  have r1 := free_of_one g1
  have r2 := free_of_one g2
  have r3 := free_of_one g3
  have r4 := free_of_one g4
  have z1 : w1.drew.setCell ⟨w.heap.size + 1, 0, none⟩ (.slice none 0 0) = w1.drew := self_set (T := 36) g1
  have z2 : w1.drew.setCell ⟨w.heap.size + 1 + 1, 0, none⟩ (.slice none 0 0) = w1.drew := self_set (T := 37) g2
  have z3 : w1.drew.setCell ⟨w.heap.size + 1 + 1 + 1, 0, none⟩ (.slice none 0 0) = w1.drew := self_set (T := 36) g3
  have z4 : w1.drew.setCell ⟨w.heap.size + 1 + 1 + 1 + 1, 0, none⟩ (.slice none 0 0) = w1.drew := self_set (T := 37) g4
  have HO : Hid (Below w.heap.size w w1.drew) := ((w5_below w lim).trans (hb.mono (by omega))).drew
  clear g1 g2 g3 g4 b1 b2 b3 b4 hb HE e
  go_wp2_with fail
  go_region_held3 (fun w' => w'.cell? ⟨w.heap.size + 1, 0, none⟩ = some (.slice none 0 0) ∧ w'.cell? ⟨w.heap.size + 1 + 1, 0, none⟩ = some (.slice none 0 0) ∧ w'.cell? ⟨w.heap.size + 1 + 1 + 1, 0, none⟩ = some (.slice none 0 0) ∧ w'.cell? ⟨w.heap.size + 1 + 1 + 1 + 1, 0, none⟩ = some (.slice none 0 0)) (go_keep) (fail)
  go_wp2_with fail
  refine bodyPost_ret (v := .tuple #[.slice none 0 0, .slice none 0 0, .slice none 0 0, .slice none 0 0]) (by simp [results, Try.results16, go_sem, q1, q2, q3, q4]) rfl ?_
  exact ⟨rfl, HO.out⟩

/-! ### Len -/
def WL (w : World) (X : Array Value) : World := (w.alloc (.cells X 50)).alloc (.cells #[.int .i64 0] 3)
theorem wl_below (w : World) (X : Array Value) : Below w.heap.size w (WL w X) := (((Below.refl _ _).alloc (Nat.le_refl _) _).alloc (by simp) _)
theorem wl_size (w : World) (X : Array Value) : (WL w X).heap.size = w.heap.size + 2 := by simp [WL]
theorem wl_block (w : World) (X : Array Value) : (WL w X).heap[w.heap.size + 1]? = some (Obj.cells #[.int .i64 0] 3 (0, 0)) := by
  have := heap_alloc_new (w.alloc (.cells X 50)) (.cells #[.int .i64 0] 3)
  simpa [WL] using this

theorem len_yield_inv (obj : Bool) (b o cap : Nat) (ms : List Mem) (hlen : ms.length ≤ 65536) (c H t : Nat) (m : Mem) (w : World) (hm : ms[t]? = some m) (hi : InvLen c H t w) :
    Calls Try.prog 35 (#[nameVal obj b o cap m, valVal b o cap m] ++ #[.pointer (some ⟨c, 0, none⟩)]) w fun e w' => e = .returned (.bool true) ∧ InvLen c H (t + 1) w' ∧ Kp H (fun k => k = c) w w' ∧ K50 w w' := by
  have hl : t < ms.length := (List.getElem?_eq_some_iff.1 hm).1
  cases obj
  · refine (len_yield c t (by omega) 0 m.k none (some ⟨b, o + m.vs, none⟩) 0 0 (m.ve - m.vs) (cap - m.vs) w hi.1).mono ?_
    rintro e w' ⟨he, rfl⟩
    exact ⟨he, len_step hi⟩
  · refine (len_yield c t (by omega) 4 m.k (some ⟨b, o + m.s, none⟩) (some ⟨b, o + m.vs, none⟩) (m.ne - m.s) (cap - m.s) (m.ve - m.vs) (cap - m.vs) w hi.1).mono ?_
    rintro e w' ⟨he, rfl⟩
    exact ⟨he, len_step hi⟩

set_option maxRecDepth 100000 in
set_option maxHeartbeats 1600000 in
theorem len_any (obj : Bool) (b o n cap : Nat) (B : Nat → Int) (hn : n ≤ 65536) (hcap : n ≤ cap) (ms : List Mem) (hms : Done B n obj (sk B n 1) ms n) (w : World) (hr : Row w b o n B) :
    Calls Try.prog 25 #[.agg #[.int .i64 (kindNo obj), .slice (some ⟨b, o, none⟩) n cap, .pointer none]] w fun e w' => e = .returned (.int .i64 (ms.length : Int)) ∧ Below w.heap.size w w' := by
  have hlen := done_len B n obj _ _ _ hms
  have hblt : b < w.heap.size := World.block_lt_of_cell? w _ (hr 0 (by omega))
  have hsL := wl_size w #[.int .i64 (kindNo obj), .slice (some ⟨b, o, none⟩) n cap, .pointer none]
  have HE := hide (each_any obj 35 #[.pointer (some ⟨w.heap.size + 1, 0, none⟩)] (fun k => k = w.heap.size + 1) (InvLen (w.heap.size + 1)) (fun _ => true) b o n cap B hn hcap ms hms cf35 (fun H t w w' h hb => invLen_below h hb)
    (fun H t m w hm hi _ => len_yield_inv obj b o cap ms (by omega) _ H t m w hm hi)
    (WL w #[.int .i64 (kindNo obj), .slice (some ⟨b, o, none⟩) n cap, .pointer none]) (row_below hr hblt (wl_below w _)) (fun h => by omega) (fun k h => by omega)
    (fun H w' hb h1 h2 => ⟨(hb.block (w.heap.size + 1) (by omega)).trans (wl_block w _), by omega, h2⟩))
  clear hms hr
  go_enter Try.func25, Try.ntmps25
  go_wp2_with fail
  refine HE.out.mono ?_
  rintro e w1 ⟨rfl, H, t, hinv, hH, _, _, htt, hkp⟩
  have htl : t = ms.length := by
    rcases htt with h | ⟨s, _, h⟩
    · exact h
    · simp at h
  have hq := cell_of_one hinv.1
  have hbl : Below w.heap.size w w1 := (wl_below w _).trans ⟨hkp.1, hkp.2.1, hkp.2.2.1, hkp.2.2.2.1, fun k hk => hkp.2.2.2.2 k (by omega) (fun hc => by omega)⟩
  rw [htl] at hq
  clear hinv htt hkp hH htl HE
  go_wp2_with fail
  go_ret
  exact ⟨rfl, hbl⟩
theorem len_none (k : Int) (a : Option Addr) (n c : Nat) (w : World) (h5 : k ≠ 5) (h6 : k ≠ 6) :
    Calls Try.prog 25 #[.agg #[.int .i64 k, .slice a n c, .pointer none]] w fun e w' => e = .returned (.int .i64 0) ∧ Below w.heap.size w w' := by
  have HE := hide (each_none k a n c (.func (.func 35) #[] #[.pointer (some ⟨w.heap.size + 1, 0, none⟩)]) (WL w #[.int .i64 k, .slice a n c, .pointer none]) h5 h6)
  go_enter Try.func25, Try.ntmps25
  go_wp2_with fail
  refine HE.out.mono ?_
  rintro e w1 ⟨rfl, hb⟩
  have hs := wl_size w #[.int .i64 k, .slice a n c, .pointer none]
  have hq := cell_of_one ((hb.block (w.heap.size + 1) (by omega)).trans (wl_block w _))
  have hbl : Below w.heap.size w w1 := (wl_below w _).trans (hb.mono (by omega))
  clear hb HE
  go_wp2_with fail
  go_ret
  exact ⟨rfl, hbl⟩
theorem zzLen_any (obj : Bool) (b o n cap : Nat) (B : Nat → Int) (hn : n ≤ 65536) (hcap : n ≤ cap) (ms : List Mem) (hms : Done B n obj (sk B n 1) ms n) (w : World) (hr : Row w b o n B) :
    Calls Try.prog 17 #[.int .i64 (kindNo obj), .slice (some ⟨b, o, none⟩) n cap] w fun e w' => e = .returned (.int .i64 (ms.length : Int)) ∧ Below w.heap.size w w' := by
  have HE := hide (len_any obj b o n cap B hn hcap ms hms w hr)
  clear hms hr
  go_enter Try.func17, Try.ntmps17
  go_wp2_with (go_at_call 25; refine HE.out.mono ?_; rintro e w1 ⟨rfl, hb⟩)
  go_ret
  exact ⟨rfl, by assumption⟩
theorem zzLen_none (k : Int) (a : Option Addr) (n c : Nat) (w : World) (h5 : k ≠ 5) (h6 : k ≠ 6) :
    Calls Try.prog 17 #[.int .i64 k, .slice a n c] w fun e w' => e = .returned (.int .i64 0) ∧ Below w.heap.size w w' := by
  have HE := hide (len_none k a n c w h5 h6)
  go_enter Try.func17, Try.ntmps17
  go_wp2_with (go_at_call 25; refine HE.out.mono ?_; rintro e w1 ⟨rfl, hb⟩)
  go_ret
  exact ⟨rfl, by assumption⟩
end Go.Proofs.Qxb6603514a.Js
