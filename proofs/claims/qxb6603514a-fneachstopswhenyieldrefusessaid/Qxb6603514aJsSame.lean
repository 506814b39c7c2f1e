import Derived.Test.Qxb6603514aJsEq
namespace Go.Proofs.Qxb6603514a.Js
open Go.RowKit
set_option linter.unusedVariables false
attribute [local go_sem ↓] Go.wp_at_zero Go.wp_at_succ

theorem spans_get (f g : Mem → Nat) : ∀ (ms : List Mem) (k : Nat) (m : Mem), ms[k]? = some m → (spans f g ms)[k * 2]? = some (.int .i64 (f m : Int)) ∧ (spans f g ms)[k * 2 + 1]? = some (.int .i64 (g m : Int))
  | x :: ms, 0, m, h => by simp at h; subst h; simp [spans]
  | x :: ms, k + 1, m, h => by
    have := spans_get f g ms k m (by simpa using h)
    rw [show (k + 1) * 2 = k * 2 + 1 + 1 from by omega]
    simpa [spans] using this
theorem own_some {w : World} {base : Nat} {e : TypeId} {size : Nat} {v : Value} {n : Nat} {xs : List Value} (h : w.ownsRow base e size v n xs) (hn : 0 < n) : ∃ g c, v = .slice (some ⟨g, 0, none⟩) n c := by
  rcases h.2 with ⟨_, h'⟩ | ⟨g, cap, cur, h1, _⟩
  · omega
  · exact ⟨g, cap, h1⟩
theorem span_cells {w : World} {base g c n : Nat} {f h : Mem → Nat} {ms : List Mem} (ho : w.ownsRow base 55 2 (.slice (some ⟨g, 0, none⟩) n c) n (spans f h ms)) (k : Nat) (m : Mem) (hm : ms[k]? = some m) (hk : k < n) :
    w.cell? ⟨g, k * 2, none⟩ = some (.int .i64 (f m : Int)) ∧ w.cell? ⟨g, k * 2 + 1, none⟩ = some (.int .i64 (h m : Int)) := by
  have hg := spans_get f h ms k m hm
  exact ⟨(ho.cellAt (k * 2) (by omega)).trans hg.1, (ho.cellAt (k * 2 + 1) (by omega)).trans hg.2⟩
theorem map_cell {w : World} {base g c n : Nat} {e : TypeId} {f : Mem → Value} {ms : List Mem} (ho : w.ownsRow base e 1 (.slice (some ⟨g, 0, none⟩) n c) n (ms.map f)) (k : Nat) (m : Mem) (hm : ms[k]? = some m) (hk : k < n) : w.cell? ⟨g, k, none⟩ = some (f m) := by
  rw [ho.cellAt k (by omega)]
  simp [hm]
theorem row_part {w : World} {b o n s e : Nat} {B : Nat → Int} (hr : Row w b o n B) (he : e ≤ n) : Row w b (o + s) (e - s) (fun i => B (s + i)) := fun i hi => by
  have := hr (s + i) (by omega)
  rwa [← Nat.add_assoc] at this

set_option maxRecDepth 100000 in
set_option maxHeartbeats 3200000 in
theorem same_arr (b o n cap : Nat) (B : Nat → Int) (hn : n ≤ 65536) (hcap : n ≤ cap) (ms : List Mem) (hok : ∀ m ∈ ms, MemOK B n false m) (N L : Nat) (hN0 : 0 < N) (hNL : N ≤ L) (hL : L = ms.length) (hL2 : L ≤ 65536) (vn : Value) (gv cv gk ck g1 d1 g2 d2 g3 d3 g4 d4 base base2 : Nat) (w : World) (hr : Row w b o n B)
    (ov : w.ownsRow base 55 2 (.slice (some ⟨gv, 0, none⟩) L cv) L (spans Mem.vs Mem.ve ms)) (ok : w.ownsRow base 3 1 (.slice (some ⟨gk, 0, none⟩) L ck) L (kinds ms))
    (o1 : w.ownsRow base2 22 1 (.slice (some ⟨g1, 0, none⟩) N d1) N ((ms.take N).map (nameS false b o cap))) (o2 : w.ownsRow base2 40 1 (.slice (some ⟨g2, 0, none⟩) N d2) N ((ms.take N).map fun _ => nameK false))
    (o3 : w.ownsRow base2 22 1 (.slice (some ⟨g3, 0, none⟩) N d3) N ((ms.take N).map (valS b o cap))) (o4 : w.ownsRow base2 40 1 (.slice (some ⟨g4, 0, none⟩) N d4) N ((ms.take N).map valK)) :
    Calls Try.prog 14 #[.slice (some ⟨b, o, none⟩) n cap, .int .i64 5, vn, .slice (some ⟨gv, 0, none⟩) L cv, .slice (some ⟨gk, 0, none⟩) L ck, .slice (some ⟨g1, 0, none⟩) N d1, .slice (some ⟨g2, 0, none⟩) N d2, .slice (some ⟨g3, 0, none⟩) N d3, .slice (some ⟨g4, 0, none⟩) N d4, .int .i64 (N : Int)] w fun e w' =>
      e = .returned (.bool true) ∧ ∃ q, w' = w.drewN q := by
  have HR := hide hr; have HOK := hide hok; have HLL := hide hL
  have HO := hide (And.intro ov (And.intro ok (And.intro o1 (And.intro o2 (And.intro o3 o4)))))
  clear hr hok hL ov ok o1 o2 o3 o4
  go_enter Try.func14, Try.ntmps14
  go_wp2
  go_loopw [21] (fun v wr => ∃ k q : Nat, k ≤ N ∧ v = .int .i64 k ∧ wr = w.drewN q) (fun v _ => N - (intOf v).toNat)
  case atStart => exact ⟨0, 0, Nat.zero_le _, rfl, rfl⟩
  case round =>
    obtain ⟨k, q, hk, rfl, rfl⟩ := hrel
    by_cases hkN : k < N
    · obtain ⟨m, hm⟩ : ∃ m, ms[k]? = some m := ⟨ms[k]'(by have := HLL.out; omega), List.getElem?_eq_getElem _⟩
      have hmt : (ms.take N)[k]? = some m := by rw [List.getElem?_take_of_lt hkN]; exact hm
      have hmem : m ∈ ms := List.mem_of_getElem? hm
      have hlt := memOK_lt B n false (HOK.out m hmem)
      obtain ⟨ov, okk, o1, o2, o3, o4⟩ := HO.out
      have s1 := (span_cells ov k m hm (by omega)).1
      have s2 := (span_cells ov k m hm (by omega)).2
      have s3 := map_cell okk k m hm (by omega)
      have s4 := map_cell o1 k m hmt hkN
      have s5 := map_cell o2 k m hmt hkN
      have s6 := map_cell o3 k m hmt hkN
      have s7 := map_cell o4 k m hmt hkN
      simp only [nameS, nameK, valS, valK, Bool.false_eq_true, if_false] at s3 s4 s5 s6 s7
      have HP : Hid (∀ W : World, (∀ a, W.cell? a = w.cell? a) → Row W b (o + m.vs) (m.ve - m.vs) (fun i => B (m.vs + i))) := fun W hW i hi => (hW _).trans (row_part (s := m.vs) (e := m.ve) HR.out hlt.2.2 i hi)
      have a0 : (0 : Int) ≤ (k : Int) := by omega
      have a1 : (k : Int) < (N : Int) := by omega
      have a2 : (k : Int) < (L : Int) := by omega
      have a3 : (0 : Int) ≤ (m.vs : Int) := by omega
      have a4 : (m.vs : Int) ≤ (m.ve : Int) := by omega
      have a5 : (m.ve : Int) ≤ (cap : Int) := by omega
      have a6 : (m.k != m.k) = false := by simp
      have a7 : ¬ cap = m.vs := by omega
      clear ov okk o1 o2 o3 o4 hm hmt hmem
      go_wp2_with fail
      go_region_held3 (fun w' => w'.cell? ⟨gv, k * 2, none⟩ = some (.int .i64 (m.vs : Int)) ∧ w'.cell? ⟨gv, k * 2 + 1, none⟩ = some (.int .i64 (m.ve : Int)) ∧ w'.cell? ⟨g3, k, none⟩ = some (.slice (some ⟨b, o + m.vs, none⟩) (m.ve - m.vs) (cap - m.vs))) (go_keep)
        (first | (go_at_call 23; refine (bytesEq_same _ b (o + m.vs) (m.ve - m.vs) _ _ (fun i => B (m.vs + i)) (HP.out _ (fun _ => by simp)) (by omega)).mono ?_; rintro e w' ⟨rfl, q', rfl⟩))
      go_wp2_with fail
      go_quiet (fail)
      go_wp2_with fail
      go_roundw
      case rel => exact ⟨k + 1, _, by omega, by go_num, rfl⟩
      case measure => simp [intOf]; omega
    · go_wp2
      go_ret
      exact ⟨rfl, q, rfl⟩
theorem memOK_name {B : Nat → Int} {n : Nat} {m : Mem} (h : MemOK B n true m) : m.s < m.ne ∧ m.ne ≤ n := by
  rcases h.1 with ⟨_, h1, _, h2, _⟩ | ⟨h, _⟩
  · have a1 := le_sE B n (i := m.s + 1) (by omega)
    have a2 := sE_le B n (m.s + 1)
    omega
  · simp at h

set_option maxRecDepth 100000 in
set_option maxHeartbeats 3200000 in
theorem same_obj (b o n cap : Nat) (B : Nat → Int) (hn : n ≤ 65536) (hcap : n ≤ cap) (ms : List Mem) (hok : ∀ m ∈ ms, MemOK B n true m) (N L : Nat) (hN0 : 0 < N) (hNL : N ≤ L) (hL : L = ms.length) (hL2 : L ≤ 65536) (gn cn gv cv gk ck g1 d1 g2 d2 g3 d3 g4 d4 base base2 : Nat) (w : World) (hr : Row w b o n B)
    (on : w.ownsRow base 55 2 (.slice (some ⟨gn, 0, none⟩) L cn) L (spans Mem.s Mem.ne ms)) (ov : w.ownsRow base 55 2 (.slice (some ⟨gv, 0, none⟩) L cv) L (spans Mem.vs Mem.ve ms)) (ok : w.ownsRow base 3 1 (.slice (some ⟨gk, 0, none⟩) L ck) L (kinds ms))
    (o1 : w.ownsRow base2 22 1 (.slice (some ⟨g1, 0, none⟩) N d1) N ((ms.take N).map (nameS true b o cap))) (o2 : w.ownsRow base2 40 1 (.slice (some ⟨g2, 0, none⟩) N d2) N ((ms.take N).map fun _ => nameK true))
    (o3 : w.ownsRow base2 22 1 (.slice (some ⟨g3, 0, none⟩) N d3) N ((ms.take N).map (valS b o cap))) (o4 : w.ownsRow base2 40 1 (.slice (some ⟨g4, 0, none⟩) N d4) N ((ms.take N).map valK)) :
    Calls Try.prog 14 #[.slice (some ⟨b, o, none⟩) n cap, .int .i64 6, .slice (some ⟨gn, 0, none⟩) L cn, .slice (some ⟨gv, 0, none⟩) L cv, .slice (some ⟨gk, 0, none⟩) L ck, .slice (some ⟨g1, 0, none⟩) N d1, .slice (some ⟨g2, 0, none⟩) N d2, .slice (some ⟨g3, 0, none⟩) N d3, .slice (some ⟨g4, 0, none⟩) N d4, .int .i64 (N : Int)] w fun e w' =>
      e = .returned (.bool true) ∧ ∃ q, w' = w.drewN q := by
  have HR := hide hr; have HOK := hide hok; have HLL := hide hL
  have HO := hide (And.intro on (And.intro ov (And.intro ok (And.intro o1 (And.intro o2 (And.intro o3 o4))))))
  clear hr hok hL on ov ok o1 o2 o3 o4
  go_enter Try.func14, Try.ntmps14
  go_wp2
  go_loopw [21] (fun v wr => ∃ k q : Nat, k ≤ N ∧ v = .int .i64 k ∧ wr = w.drewN q) (fun v _ => N - (intOf v).toNat)
  case atStart => exact ⟨0, 0, Nat.zero_le _, rfl, rfl⟩
  case round =>
    obtain ⟨k, q, hk, rfl, rfl⟩ := hrel
    by_cases hkN : k < N
    · obtain ⟨m, hm⟩ : ∃ m, ms[k]? = some m := ⟨ms[k]'(by have := HLL.out; omega), List.getElem?_eq_getElem _⟩
      have hmt : (ms.take N)[k]? = some m := by rw [List.getElem?_take_of_lt hkN]; exact hm
      have hmem : m ∈ ms := List.mem_of_getElem? hm
      have hlt := memOK_lt B n true (HOK.out m hmem)
      obtain ⟨on, ov, okk, o1, o2, o3, o4⟩ := HO.out
      have hname := memOK_name (HOK.out m hmem)
      have s1 := (span_cells ov k m hm (by omega)).1
      have s2 := (span_cells ov k m hm (by omega)).2
      have s8 := (span_cells on k m hm (by omega)).1
      have s9 := (span_cells on k m hm (by omega)).2
      have s3 := map_cell okk k m hm (by omega)
      have s4 := map_cell o1 k m hmt hkN
      have s5 := map_cell o2 k m hmt hkN
      have s6 := map_cell o3 k m hmt hkN
      have s7 := map_cell o4 k m hmt hkN
      simp only [nameS, nameK, valS, valK, if_true] at s3 s4 s5 s6 s7
      have HP : Hid (∀ W : World, (∀ a, W.cell? a = w.cell? a) → Row W b (o + m.vs) (m.ve - m.vs) (fun i => B (m.vs + i))) := fun W hW i hi => (hW _).trans (row_part (s := m.vs) (e := m.ve) HR.out hlt.2.2 i hi)
      have a0 : (0 : Int) ≤ (k : Int) := by omega
      have a1 : (k : Int) < (N : Int) := by omega
      have a2 : (k : Int) < (L : Int) := by omega
      have a3 : (0 : Int) ≤ (m.vs : Int) := by omega
      have a4 : (m.vs : Int) ≤ (m.ve : Int) := by omega
      have a5 : (m.ve : Int) ≤ (cap : Int) := by omega
      have a6 : (m.k != m.k) = false := by simp
      have a7 : ¬ cap = m.vs := by omega
      have HQ : Hid (∀ W : World, (∀ a, W.cell? a = w.cell? a) → Row W b (o + m.s) (m.ne - m.s) (fun i => B (m.s + i))) := fun W hW i hi => (hW _).trans (row_part (s := m.s) (e := m.ne) HR.out (by omega) i hi)
      have c3 : (0 : Int) ≤ (m.s : Int) := by omega
      have c4 : (m.s : Int) ≤ (m.ne : Int) := by omega
      have c5 : (m.ne : Int) ≤ (cap : Int) := by omega
      have c7 : ¬ cap = m.s := by omega
      clear on ov okk o1 o2 o3 o4 hm hmt hmem
      go_wp2_with fail
      go_region_held3 (fun w' => w'.cell? ⟨gv, k * 2, none⟩ = some (.int .i64 (m.vs : Int)) ∧ w'.cell? ⟨gv, k * 2 + 1, none⟩ = some (.int .i64 (m.ve : Int)) ∧ w'.cell? ⟨g3, k, none⟩ = some (.slice (some ⟨b, o + m.vs, none⟩) (m.ve - m.vs) (cap - m.vs))) (go_keep)
        (first | (go_at_call 23; refine (bytesEq_same _ b (o + m.vs) (m.ve - m.vs) _ _ (fun i => B (m.vs + i)) (HP.out _ (fun _ => by simp)) (by omega)).mono ?_; rintro e w' ⟨rfl, q', rfl⟩))
      go_wp2_with fail
      go_quiet (fail)
      go_wp2_with fail
      go_region_held3 (fun w' => w'.cell? ⟨gn, k * 2, none⟩ = some (.int .i64 (m.s : Int)) ∧ w'.cell? ⟨gn, k * 2 + 1, none⟩ = some (.int .i64 (m.ne : Int)) ∧ w'.cell? ⟨g1, k, none⟩ = some (.slice (some ⟨b, o + m.s, none⟩) (m.ne - m.s) (cap - m.s)) ∧ w'.cell? ⟨g2, k, none⟩ = some (.int .i64 4)) (go_keep)
        (first | (go_at_call 23; refine (bytesEq_same _ b (o + m.s) (m.ne - m.s) _ _ (fun i => B (m.s + i)) (HQ.out _ (fun _ => by simp)) (by omega)).mono ?_; rintro e w' ⟨rfl, q', rfl⟩))
      go_wp2_with fail
      go_roundw
      case rel => exact ⟨k + 1, _, by omega, by go_num, rfl⟩
      case measure => simp [intOf]; omega
    · go_wp2
      go_ret
      exact ⟨rfl, q, rfl⟩
end Go.Proofs.Qxb6603514a.Js
