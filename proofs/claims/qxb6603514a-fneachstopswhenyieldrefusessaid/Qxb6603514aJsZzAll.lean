import Derived.Test.Qxb6603514aJsEachAll
import Derived.WalkSmall
namespace Go.Proofs.Qxb6603514a.Js
open Go.RowKit
set_option linter.unusedVariables false
attribute [local go_sem ↓] Go.wp_at_zero Go.wp_at_succ

/-- The four slices of what was yielded. -/
def Outs (obj : Bool) (b o cap : Nat) (ms : List Mem) (base : Nat) (v1 v2 v3 v4 : Value) (w : World) : Prop :=
  w.ownsRow base 22 1 v1 ms.length (ms.map (nameS obj b o cap)) ∧ w.ownsRow base 40 1 v2 ms.length (ms.map fun _ => nameK obj) ∧ w.ownsRow base 22 1 v3 ms.length (ms.map (valS b o cap)) ∧ w.ownsRow base 40 1 v4 ms.length (ms.map valK)
theorem own_mono {w : World} {base base' : Nat} {e : TypeId} {size : Nat} {v : Value} {n : Nat} {xs : List Value} (h : w.ownsRow base e size v n xs) (hb : base' ≤ base) : w.ownsRow base' e size v n xs := by
  refine ⟨h.1, ?_⟩
  rcases h.2 with h | ⟨g, cap, cur, h1, h2, h3⟩
  · exact .inl h
  · exact .inr ⟨g, cap, cur, h1, Nat.le_trans hb h2, h3⟩
theorem own_form {w : World} {base : Nat} {e : TypeId} {size : Nat} {v : Value} {n : Nat} {xs : List Value} (h : w.ownsRow base e size v n xs) : ∃ a c, v = .slice a n c := by
  rcases h.2 with ⟨h, h'⟩ | ⟨g, cap, cur, h1, _⟩
  · exact ⟨none, 0, by rw [h, h']⟩
  · exact ⟨_, _, h1⟩
theorem self_set {w : World} {c : Nat} {T : TypeId} {v : Value} (h : w.heap[c]? = some (Obj.cells #[v] T (0, 0))) : w.setCell ⟨c, 0, none⟩ v = w := by
  rw [setCell_eq_setRow w c 0 #[v] T (0, 0) v h]
  have : (#[v] : Array Value).setIfInBounds 0 v = #[v] := by simp
  rw [this, setRow_self w c #[v] T (0, 0) h]

/-- The world with four new variables, each nil. -/
def W4 (w : World) : World := (((w.alloc (.cells #[.slice none 0 0] 36)).alloc (.cells #[.slice none 0 0] 37)).alloc (.cells #[.slice none 0 0] 36)).alloc (.cells #[.slice none 0 0] 37)
theorem w4_below (w : World) : Below w.heap.size w (W4 w) := (((((Below.refl _ _).alloc (Nat.le_refl _) _).alloc (by simp) _).alloc (by simp; omega) _).alloc (by simp; omega) _)
theorem w4_size (w : World) : (W4 w).heap.size = w.heap.size + 4 := by simp [W4]
theorem w4_block (w : World) : (W4 w).heap[w.heap.size]? = some (Obj.cells #[.slice none 0 0] 36 (0, 0)) ∧ (W4 w).heap[w.heap.size + 1]? = some (Obj.cells #[.slice none 0 0] 37 (0, 0)) ∧ (W4 w).heap[w.heap.size + 2]? = some (Obj.cells #[.slice none 0 0] 36 (0, 0)) ∧ (W4 w).heap[w.heap.size + 3]? = some (Obj.cells #[.slice none 0 0] 37 (0, 0)) := by
  unfold W4
  refine ⟨?_, ?_, ?_, ?_⟩
  · rw [Below.heap_alloc _ _ _ (by simp; omega), Below.heap_alloc _ _ _ (by simp; omega), Below.heap_alloc _ _ _ (by simp)]
    exact heap_alloc_new w _
  · rw [Below.heap_alloc _ _ _ (by simp), Below.heap_alloc _ _ _ (by simp)]
    have := heap_alloc_new (w.alloc (.cells #[.slice none 0 0] 36)) (.cells #[.slice none 0 0] 37)
    simpa using this
  · rw [Below.heap_alloc _ _ _ (by simp)]
    have := heap_alloc_new ((w.alloc (.cells #[.slice none 0 0] 36)).alloc (.cells #[.slice none 0 0] 37)) (.cells #[.slice none 0 0] 36)
    simpa using this
  · have := heap_alloc_new (((w.alloc (.cells #[.slice none 0 0] 36)).alloc (.cells #[.slice none 0 0] 37)).alloc (.cells #[.slice none 0 0] 36)) (.cells #[.slice none 0 0] 37)
    simpa using this
/-- The captured variables' blocks. -/
def Cap4 (k0 : Nat) (k : Nat) : Prop := k0 ≤ k ∧ k < k0 + 4
theorem inv4_start (obj : Bool) (b o cap : Nat) (ms : List Mem) (w : World) (H : Nat) (w' : World) (hb : Below (W4 w).heap.size (W4 w) w') (h1 : (W4 w).heap.size ≤ H) (h2 : H ≤ w'.heap.size) :
    Inv4 obj b o cap ms w.heap.size (w.heap.size + 1) (w.heap.size + 2) (w.heap.size + 3) H 0 w' := by
  have hs := w4_size w
  obtain ⟨b1, b2, b3, b4⟩ := w4_block w
  have k1 := (hb.block w.heap.size (by omega)).trans b1
  have k2 := (hb.block (w.heap.size + 1) (by omega)).trans b2
  have k3 := (hb.block (w.heap.size + 2) (by omega)).trans b3
  have k4 := (hb.block (w.heap.size + 3) (by omega)).trans b4
  refine ⟨Nat.zero_le _, .slice none 0 0, .slice none 0 0, .slice none 0 0, .slice none 0 0, ⟨?_, ?_, ?_, ?_⟩, ⟨apart_nil _, apart_nil _, apart_nil _, apart_nil _, apart_nil _, apart_nil _⟩, ⟨by omega, by omega, by omega, by omega, by omega, by omega⟩, h2⟩
  · exact ⟨k1, World.ownsRow_nil _ _ _ _, by omega⟩
  · exact ⟨k2, World.ownsRow_nil _ _ _ _, by omega⟩
  · exact ⟨k3, World.ownsRow_nil _ _ _ _, by omega⟩
  · exact ⟨k4, World.ownsRow_nil _ _ _ _, by omega⟩
/-- What each leaves behind, as seen from the world ahead of the variables. -/
theorem below_of_kp {w w' : World} (h : Kp (W4 w).heap.size (Cap4 w.heap.size) (W4 w) w') : Below w.heap.size w w' :=
  (w4_below w).trans ⟨h.1, h.2.1, h.2.2.1, h.2.2.2.1, fun k hk => h.2.2.2.2 k (by rw [w4_size]; omega) (fun hc => by have := hc.1; omega)⟩

def AllOut (obj : Bool) (b o cap : Nat) (ms : List Mem) (w : World) (e : Ending) (w' : World) : Prop :=
  ∃ v1 v2 v3 v4, e = .returned (.tuple #[v1, v2, v3, v4]) ∧ Below w.heap.size w w' ∧ Outs obj b o cap ms w.heap.size v1 v2 v3 v4 w'

set_option maxRecDepth 100000 in
set_option maxHeartbeats 3200000 in
theorem zzAll_any (obj : Bool) (b o n cap : Nat) (B : Nat → Int) (hn : n ≤ 65536) (hcap : n ≤ cap) (ms : List Mem) (hms : Done B n obj (sk B n 1) ms n) (w : World) (hr : Row w b o n B) :
    Calls Try.prog 13 #[.int .i64 (kindNo obj), .slice (some ⟨b, o, none⟩) n cap] w fun e w' => AllOut obj b o cap ms w e w' := by
  have hlen := done_len B n obj _ _ _ hms
  have hblt : b < w.heap.size := World.block_lt_of_cell? w _ (hr 0 (by omega))
  have hs4 := w4_size w
  have HE := hide (each_any obj 22 #[.pointer (some ⟨w.heap.size, 0, none⟩), .pointer (some ⟨w.heap.size + 1, 0, none⟩), .pointer (some ⟨w.heap.size + 2, 0, none⟩), .pointer (some ⟨w.heap.size + 3, 0, none⟩)] (Cap4 w.heap.size)
    (Inv4 obj b o cap ms w.heap.size (w.heap.size + 1) (w.heap.size + 2) (w.heap.size + 3)) (fun _ => true) b o n cap B hn hcap ms hms cf22 (fun H t w w' h hb => inv4_below h hb)
    (fun H t m w hm hi _ => all_yield_inv obj b o cap ms (by omega) _ _ _ _ (Cap4 _) ⟨by omega, by omega⟩ ⟨by omega, by omega⟩ ⟨by omega, by omega⟩ ⟨by omega, by omega⟩ H t m w hm hi)
    (W4 w) (row_below hr hblt (w4_below w)) (fun h => by have := h.1; omega) (fun k h => by have := h.2; omega) (fun H w' hb h1 h2 => inv4_start obj b o cap ms w H w' hb h1 h2))
  clear hms hr
  go_enter Try.func13, Try.ntmps13
  go_wp2_with fail
  refine HE.out.mono ?_
  rintro e w1 ⟨rfl, H, t, hinv, hH, _, _, htt, hkp⟩
  have htl : t = ms.length := by
    rcases htt with h | ⟨s, _, h⟩
    · exact h
    · simp at h
  subst htl
  have hbl := below_of_kp hkp
  obtain ⟨_, v1, v2, v3, v4, hF⟩ := hinv
  rw [List.take_length] at hF
  obtain ⟨a1, k1, rfl⟩ := own_form hF.1.1.2.1
  obtain ⟨a2, k2, rfl⟩ := own_form hF.1.2.1.2.1
  obtain ⟨a3, k3, rfl⟩ := own_form hF.1.2.2.1.2.1
  obtain ⟨a4, k4, rfl⟩ := own_form hF.1.2.2.2.2.1
  have g1 : w1.heap[w.heap.size]? = some (Obj.cells #[.slice a1 ms.length k1] 36 (0, 0)) := hF.1.1.1
  have g2 : w1.heap[w.heap.size + 1]? = some (Obj.cells #[.slice a2 ms.length k2] 37 (0, 0)) := hF.1.2.1.1
  have g3 : w1.heap[w.heap.size + 1 + 1]? = some (Obj.cells #[.slice a3 ms.length k3] 36 (0, 0)) := hF.1.2.2.1.1
  have g4 : w1.heap[w.heap.size + 1 + 1 + 1]? = some (Obj.cells #[.slice a4 ms.length k4] 37 (0, 0)) := hF.1.2.2.2.1
  have q1 := cell_of_one g1
  have q2 := cell_of_one g2
  have q3 := cell_of_one g3
  have q4 := cell_of_one g4
  have r1 := free_of_one g1
  have r2 := free_of_one g2
  have r3 := free_of_one g3
  have r4 := free_of_one g4
  have z1 : w1.drew.setCell ⟨w.heap.size, 0, none⟩ (.slice a1 ms.length k1) = w1.drew := self_set (T := 36) g1
  have z2 : w1.drew.setCell ⟨w.heap.size + 1, 0, none⟩ (.slice a2 ms.length k2) = w1.drew := self_set (T := 37) g2
  have z3 : w1.drew.setCell ⟨w.heap.size + 1 + 1, 0, none⟩ (.slice a3 ms.length k3) = w1.drew := self_set (T := 36) g3
  have z4 : w1.drew.setCell ⟨w.heap.size + 1 + 1 + 1, 0, none⟩ (.slice a4 ms.length k4) = w1.drew := self_set (T := 37) g4
  have hout : Outs obj b o cap ms w.heap.size (.slice a1 ms.length k1) (.slice a2 ms.length k2) (.slice a3 ms.length k3) (.slice a4 ms.length k4) w1.drew := by
    have hHw : w.heap.size ≤ H := by have := hF.1.1.2.2; omega
    exact ⟨own_mono hF.1.1.2.1 hHw, own_mono hF.1.2.1.2.1 hHw, own_mono hF.1.2.2.1.2.1 hHw, own_mono hF.1.2.2.2.2.1 hHw⟩
  have HO := hide (And.intro hbl.drew hout)
  clear hF g1 g2 g3 g4 hkp htt hbl hH hout HE
  go_wp2_with fail
  go_region_held3 (fun w' => w'.cell? ⟨w.heap.size, 0, none⟩ = some (.slice a1 ms.length k1) ∧ w'.cell? ⟨w.heap.size + 1, 0, none⟩ = some (.slice a2 ms.length k2) ∧ w'.cell? ⟨w.heap.size + 1 + 1, 0, none⟩ = some (.slice a3 ms.length k3) ∧ w'.cell? ⟨w.heap.size + 1 + 1 + 1, 0, none⟩ = some (.slice a4 ms.length k4)) (go_keep) (fail)
  go_wp2_with fail
  refine bodyPost_ret (v := .tuple #[.slice a1 ms.length k1, .slice a2 ms.length k2, .slice a3 ms.length k3, .slice a4 ms.length k4]) (by simp [results, Try.results13, go_sem, q1, q2, q3, q4]) rfl ?_
  exact ⟨_, _, _, _, rfl, HO.out.1, HO.out.2⟩

theorem zzAll_none (k : Int) (a : Option Addr) (n c : Nat) (w : World) (h5 : k ≠ 5) (h6 : k ≠ 6) :
    Calls Try.prog 13 #[.int .i64 k, .slice a n c] w fun e w' => e = .returned (.tuple #[.slice none 0 0, .slice none 0 0, .slice none 0 0, .slice none 0 0]) ∧ Below w.heap.size w w' := by
  have HE := hide (each_none k a n c (.func (.func 22) #[] #[.pointer (some ⟨w.heap.size, 0, none⟩), .pointer (some ⟨w.heap.size + 1, 0, none⟩), .pointer (some ⟨w.heap.size + 2, 0, none⟩), .pointer (some ⟨w.heap.size + 3, 0, none⟩)]) (W4 w) h5 h6)
  go_enter Try.func13, Try.ntmps13
  go_wp2_with fail
  refine HE.out.mono ?_
  rintro e w1 ⟨rfl, hb⟩
  have hs := w4_size w
  obtain ⟨b1, b2, b3, b4⟩ := w4_block w
  have g1 := (hb.block w.heap.size (by omega)).trans b1
  have g2 : w1.heap[w.heap.size + 1]? = _ := (hb.block (w.heap.size + 1) (by omega)).trans b2
  have g3 : w1.heap[w.heap.size + 1 + 1]? = _ := (hb.block (w.heap.size + 2) (by omega)).trans b3
  have g4 : w1.heap[w.heap.size + 1 + 1 + 1]? = _ := (hb.block (w.heap.size + 3) (by omega)).trans b4
  have q1 := cell_of_one g1
  have q2 := cell_of_one g2
  have q3 := cell_of_one g3
  have q4 := cell_of_one g4
  have r1 := free_of_one g1
  have r2 := free_of_one g2
  have r3 := free_of_one g3
  have r4 := free_of_one g4
  have z1 : w1.drew.setCell ⟨w.heap.size, 0, none⟩ (.slice none 0 0) = w1.drew := self_set (T := 36) g1
  have z2 : w1.drew.setCell ⟨w.heap.size + 1, 0, none⟩ (.slice none 0 0) = w1.drew := self_set (T := 37) g2
  have z3 : w1.drew.setCell ⟨w.heap.size + 1 + 1, 0, none⟩ (.slice none 0 0) = w1.drew := self_set (T := 36) g3
  have z4 : w1.drew.setCell ⟨w.heap.size + 1 + 1 + 1, 0, none⟩ (.slice none 0 0) = w1.drew := self_set (T := 37) g4
  have HO : Hid (Below w.heap.size w w1.drew) := ((w4_below w).trans (hb.mono (by omega))).drew
  clear g1 g2 g3 g4 b1 b2 b3 b4 hb HE
  go_wp2_with fail
  go_region_held3 (fun w' => w'.cell? ⟨w.heap.size, 0, none⟩ = some (.slice none 0 0) ∧ w'.cell? ⟨w.heap.size + 1, 0, none⟩ = some (.slice none 0 0) ∧ w'.cell? ⟨w.heap.size + 1 + 1, 0, none⟩ = some (.slice none 0 0) ∧ w'.cell? ⟨w.heap.size + 1 + 1 + 1, 0, none⟩ = some (.slice none 0 0)) (go_keep) (fail)
  go_wp2_with fail
  refine bodyPost_ret (v := .tuple #[.slice none 0 0, .slice none 0 0, .slice none 0 0, .slice none 0 0]) (by simp [results, Try.results13, go_sem, q1, q2, q3, q4]) rfl ?_
  exact ⟨rfl, HO.out⟩
end Go.Proofs.Qxb6603514a.Js
