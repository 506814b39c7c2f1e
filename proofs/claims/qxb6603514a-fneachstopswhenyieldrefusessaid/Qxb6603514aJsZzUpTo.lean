import Derived.Test.Qxb6603514aJsUpTo
import Derived.Test.Qxb6603514aJsZzAll
namespace Go.Proofs.Qxb6603514a.Js
open Go.RowKit
set_option linter.unusedVariables false
attribute [local go_sem ↓] Go.wp_at_zero Go.wp_at_succ

/-- How many members are wanted. -/
def want (L : Nat) (lim : Int) : Nat := if lim < 1 then min L 1 else min L lim.toNat
theorem want_le (L : Nat) (lim : Int) : want L lim ≤ L := by unfold want; split <;> omega
def contL (lim : Int) (t : Nat) : Bool := decide ((t : Int) + 1 < lim)
theorem want_is {L t : Nat} {lim : Int} (h1 : t ≤ L) (h2 : ∀ s, s + 1 < t → contL lim s = true) (h3 : t = L ∨ ∃ s, t = s + 1 ∧ contL lim s = false) : t = want L lim := by
  have h4 : 2 ≤ t → (t : Int) ≤ lim := fun h => by
    have := h2 (t - 2) (by omega)
    simp [contL] at this
    omega
  unfold want
  rcases h3 with h | ⟨s, hs, hc⟩
  · by_cases hl : lim < 1
    · rw [if_pos hl]
      by_cases h5 : 2 ≤ t
      · have := h4 h5; omega
      · omega
    · rw [if_neg hl]
      by_cases h5 : 2 ≤ t
      · have := h4 h5; omega
      · omega
  · simp [contL] at hc
    by_cases hl : lim < 1
    · rw [if_pos hl]
      by_cases h5 : 2 ≤ t
      · have := h4 h5; omega
      · omega
    · rw [if_neg hl]
      by_cases h5 : 2 ≤ t
      · have := h4 h5; omega
      · omega

/-- The four variables and the limit's. -/
def Inv5 (obj : Bool) (b o cap : Nat) (ms : List Mem) (c1 c2 c3 c4 c5 : Nat) (lim : Int) (H t : Nat) (w : World) : Prop :=
  Inv4 obj b o cap ms c1 c2 c3 c4 H t w ∧ c5 < H ∧ w.cell? ⟨c5, 0, none⟩ = some (.int .i64 lim)
theorem inv4_size {obj : Bool} {b o cap : Nat} {ms : List Mem} {c1 c2 c3 c4 H t : Nat} {w : World} (h : Inv4 obj b o cap ms c1 c2 c3 c4 H t w) : H ≤ w.heap.size := by
  obtain ⟨_, _, _, _, _, h4⟩ := h
  exact h4.2.2.2
theorem inv5_below {obj : Bool} {b o cap : Nat} {ms : List Mem} {c1 c2 c3 c4 c5 H t : Nat} {lim : Int} {w w' : World} (h : Inv5 obj b o cap ms c1 c2 c3 c4 c5 lim H t w) (hb : Below w.heap.size w w') : Inv5 obj b o cap ms c1 c2 c3 c4 c5 lim H t w' := by
  have hs := inv4_size h.1
  exact ⟨inv4_below h.1 hb, h.2.1, (hb.cell (p := ⟨c5, 0, none⟩) (by have := h.2.1; show c5 < _; omega)).trans h.2.2⟩

theorem upto_yield_inv (obj : Bool) (b o cap : Nat) (ms : List Mem) (hlen : ms.length ≤ 65536) (c1 c2 c3 c4 c5 : Nat) (lim : Int) (C : Nat → Prop) (hC1 : C c1) (hC2 : C c2) (hC3 : C c3) (hC4 : C c4) (hC5 : ¬ C c5) (H t : Nat) (m : Mem) (w : World) (hm : ms[t]? = some m) (hi : Inv5 obj b o cap ms c1 c2 c3 c4 c5 lim H t w) :
    Calls Try.prog 24 (#[nameVal obj b o cap m, valVal b o cap m] ++ #[.pointer (some ⟨c1, 0, none⟩), .pointer (some ⟨c2, 0, none⟩), .pointer (some ⟨c3, 0, none⟩), .pointer (some ⟨c4, 0, none⟩), .pointer (some ⟨c5, 0, none⟩)]) w fun e w' =>
      e = .returned (.bool (contL lim t)) ∧ Inv5 obj b o cap ms c1 c2 c3 c4 c5 lim H (t + 1) w' ∧ Kp H C w w' ∧ K50 w w' := by
  obtain ⟨⟨h1, v1, v2, v3, v4, h4⟩, h5, h6⟩ := hi
  have hl : t < ms.length := (List.getElem?_eq_some_iff.1 hm).1
  have ht := take_snoc_mem hm
  cases obj
  · refine (upto_yield H c1 c2 c3 c4 C hC1 hC2 hC3 hC4 t (by omega) _ _ _ _ 0 m.k none (some ⟨b, o + m.vs, none⟩) 0 0 (m.ve - m.vs) (cap - m.vs) v1 v2 v3 v4 w c5 lim h5 hC5 h6 h4).mono ?_
    rintro e w' ⟨he, u1, u2, u3, u4, hF, hK, h50⟩
    refine ⟨he, ⟨⟨by omega, u1, u2, u3, u4, ?_⟩, h5, (kp_cell hK (p := ⟨c5, 0, none⟩) h5 hC5).trans h6⟩, hK, h50⟩
    rw [ht]; simp only [List.map_append, List.map_cons, List.map_nil]
    exact hF
  · refine (upto_yield H c1 c2 c3 c4 C hC1 hC2 hC3 hC4 t (by omega) _ _ _ _ 4 m.k (some ⟨b, o + m.s, none⟩) (some ⟨b, o + m.vs, none⟩) (m.ne - m.s) (cap - m.s) (m.ve - m.vs) (cap - m.vs) v1 v2 v3 v4 w c5 lim h5 hC5 h6 h4).mono ?_
    rintro e w' ⟨he, u1, u2, u3, u4, hF, hK, h50⟩
    refine ⟨he, ⟨⟨by omega, u1, u2, u3, u4, ?_⟩, h5, (kp_cell hK (p := ⟨c5, 0, none⟩) h5 hC5).trans h6⟩, hK, h50⟩
    rw [ht]; simp only [List.map_append, List.map_cons, List.map_nil]
    exact hF

/-- The world with the limit's variable and the four. -/
def W5 (w : World) (lim : Int) : World := W4 (w.alloc (.cells #[.int .i64 lim] 3))
theorem w5_below (w : World) (lim : Int) : Below w.heap.size w (W5 w lim) := ((Below.refl _ _).alloc (Nat.le_refl _) _).trans ((w4_below _).mono (by simp))
theorem w5_size (w : World) (lim : Int) : (W5 w lim).heap.size = w.heap.size + 5 := by unfold W5; rw [w4_size]; simp
theorem inv5_start (obj : Bool) (b o cap : Nat) (ms : List Mem) (w : World) (lim : Int) (H : Nat) (w' : World) (hb : Below (W5 w lim).heap.size (W5 w lim) w') (h1 : (W5 w lim).heap.size ≤ H) (h2 : H ≤ w'.heap.size) :
    Inv5 obj b o cap ms (w.heap.size + 1) (w.heap.size + 2) (w.heap.size + 3) (w.heap.size + 4) w.heap.size lim H 0 w' := by
  have h4 := inv4_start obj b o cap ms (w.alloc (.cells #[.int .i64 lim] 3)) H w' hb h1 h2
  have hs5 := w5_size w lim
  have e : (w.alloc (.cells #[.int .i64 lim] 3)).heap.size = w.heap.size + 1 := by simp
  rw [e] at h4
  refine ⟨h4, by omega, ?_⟩
  rw [hb.cell (p := ⟨w.heap.size, 0, none⟩) (by show w.heap.size < _; omega)]
  unfold W5
  rw [(w4_below (w.alloc (.cells #[.int .i64 lim] 3))).cell (p := ⟨w.heap.size, 0, none⟩) (by simp)]
  simp
theorem below_of_kp5 {w w' : World} {lim : Int} (h : Kp (W5 w lim).heap.size (Cap4 (w.heap.size + 1)) (W5 w lim) w') : Below w.heap.size w w' :=
  (w5_below w lim).trans ⟨h.1, h.2.1, h.2.2.1, h.2.2.2.1, fun k hk => h.2.2.2.2 k (by rw [w5_size]; omega) (fun hc => by have := hc.1; omega)⟩

def UpOut (obj : Bool) (b o cap : Nat) (ms : List Mem) (lim : Int) (w : World) (e : Ending) (w' : World) : Prop :=
  ∃ v1 v2 v3 v4, e = .returned (.tuple #[v1, v2, v3, v4]) ∧ Below w.heap.size w w' ∧ Outs obj b o cap (ms.take (want ms.length lim)) w.heap.size v1 v2 v3 v4 w'

set_option maxRecDepth 100000 in
set_option maxHeartbeats 3200000 in
theorem zzUpTo_any (obj : Bool) (b o n cap : Nat) (B : Nat → Int) (hn : n ≤ 65536) (hcap : n ≤ cap) (ms : List Mem) (hms : Done B n obj (sk B n 1) ms n) (lim : Int) (w : World) (hr : Row w b o n B) :
    Calls Try.prog 16 #[.int .i64 (kindNo obj), .slice (some ⟨b, o, none⟩) n cap, .int .i64 lim] w fun e w' => UpOut obj b o cap ms lim w e w' := by
  have hlen := done_len B n obj _ _ _ hms
  have hblt : b < w.heap.size := World.block_lt_of_cell? w _ (hr 0 (by omega))
  have hs5 := w5_size w lim
  have HE := hide (each_any obj 24 #[.pointer (some ⟨w.heap.size + 1, 0, none⟩), .pointer (some ⟨w.heap.size + 2, 0, none⟩), .pointer (some ⟨w.heap.size + 3, 0, none⟩), .pointer (some ⟨w.heap.size + 4, 0, none⟩), .pointer (some ⟨w.heap.size, 0, none⟩)] (Cap4 (w.heap.size + 1))
    (Inv5 obj b o cap ms (w.heap.size + 1) (w.heap.size + 2) (w.heap.size + 3) (w.heap.size + 4) w.heap.size lim) (contL lim) b o n cap B hn hcap ms hms cf24 (fun H t w w' h hb => inv5_below h hb)
    (fun H t m w hm hi _ => upto_yield_inv obj b o cap ms (by omega) _ _ _ _ _ lim (Cap4 _) ⟨by omega, by omega⟩ ⟨by omega, by omega⟩ ⟨by omega, by omega⟩ ⟨by omega, by omega⟩ (fun h => by have := h.1; omega) H t m w hm hi)
    (W5 w lim) (row_below hr hblt (w5_below w lim)) (fun h => by have := h.1; omega) (fun k h => by have := h.2; omega) (fun H w' hb h1 h2 => inv5_start obj b o cap ms w lim H w' hb h1 h2))
  clear hms hr
  go_enter Try.func16, Try.ntmps16
  go_wp2_with fail
  refine HE.out.mono ?_
  rintro e w1 ⟨rfl, H, t, hinv, hH, ht1, ht2, ht3, hkp⟩
  have htw := want_is ht1 ht2 ht3
  have hbl := below_of_kp5 hkp
  obtain ⟨⟨_, v1, v2, v3, v4, hF⟩, _, _⟩ := hinv
  have hHw : w.heap.size ≤ H := by have := hF.1.1.2.2; omega
  obtain ⟨a1, k1, rfl⟩ := own_form hF.1.1.2.1
  obtain ⟨a2, k2, rfl⟩ := own_form hF.1.2.1.2.1
  obtain ⟨a3, k3, rfl⟩ := own_form hF.1.2.2.1.2.1
  obtain ⟨a4, k4, rfl⟩ := own_form hF.1.2.2.2.2.1
  have g1 : w1.heap[w.heap.size + 1]? = some (Obj.cells #[.slice a1 t k1] 36 (0, 0)) := hF.1.1.1
  have g2 : w1.heap[w.heap.size + 1 + 1]? = some (Obj.cells #[.slice a2 t k2] 37 (0, 0)) := hF.1.2.1.1
  have g3 : w1.heap[w.heap.size + 1 + 1 + 1]? = some (Obj.cells #[.slice a3 t k3] 36 (0, 0)) := hF.1.2.2.1.1
  have g4 : w1.heap[w.heap.size + 1 + 1 + 1 + 1]? = some (Obj.cells #[.slice a4 t k4] 37 (0, 0)) := hF.1.2.2.2.1
  have q1 := cell_of_one g1
  have q2 := cell_of_one g2
  have q3 := cell_of_one g3
  have q4 := cell_of_one g4
  have r1 := free_of_one g1
  have r2 := free_of_one g2
  have r3 := free_of_one g3
  have r4 := free_of_one g4
  have z1 : w1.drew.setCell ⟨w.heap.size + 1, 0, none⟩ (.slice a1 t k1) = w1.drew := self_set (T := 36) g1
  have z2 : w1.drew.setCell ⟨w.heap.size + 1 + 1, 0, none⟩ (.slice a2 t k2) = w1.drew := self_set (T := 37) g2
  have z3 : w1.drew.setCell ⟨w.heap.size + 1 + 1 + 1, 0, none⟩ (.slice a3 t k3) = w1.drew := self_set (T := 36) g3
  have z4 : w1.drew.setCell ⟨w.heap.size + 1 + 1 + 1 + 1, 0, none⟩ (.slice a4 t k4) = w1.drew := self_set (T := 37) g4
  have hout : Outs obj b o cap (ms.take (want ms.length lim)) w.heap.size (.slice a1 t k1) (.slice a2 t k2) (.slice a3 t k3) (.slice a4 t k4) w1.drew := by
    rw [← htw]
    have hl : (ms.take t).length = t := by simp; omega
    unfold Outs
    rw [hl]
    exact ⟨own_mono hF.1.1.2.1 hHw, own_mono hF.1.2.1.2.1 hHw, own_mono hF.1.2.2.1.2.1 hHw, own_mono hF.1.2.2.2.2.1 hHw⟩
  have HO := hide (And.intro hbl.drew hout)
  clear hF g1 g2 g3 g4 hkp ht1 ht2 ht3 htw hbl hH hout HE
  go_wp2_with fail
  go_region_held3 (fun w' => w'.cell? ⟨w.heap.size + 1, 0, none⟩ = some (.slice a1 t k1) ∧ w'.cell? ⟨w.heap.size + 1 + 1, 0, none⟩ = some (.slice a2 t k2) ∧ w'.cell? ⟨w.heap.size + 1 + 1 + 1, 0, none⟩ = some (.slice a3 t k3) ∧ w'.cell? ⟨w.heap.size + 1 + 1 + 1 + 1, 0, none⟩ = some (.slice a4 t k4)) (go_keep) (fail)
  go_wp2_with fail
  refine bodyPost_ret (v := .tuple #[.slice a1 t k1, .slice a2 t k2, .slice a3 t k3, .slice a4 t k4]) (by simp [results, Try.results16, go_sem, q1, q2, q3, q4]) rfl ?_
  exact ⟨_, _, _, _, rfl, HO.out.1, HO.out.2⟩
end Go.Proofs.Qxb6603514a.Js
