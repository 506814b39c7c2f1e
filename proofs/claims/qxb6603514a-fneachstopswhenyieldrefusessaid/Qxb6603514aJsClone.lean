import Derived.Test.Qxb6603514aJsTri
namespace Go.Proofs.Qxb6603514a.Js
open Go.RowKit
set_option linter.unusedVariables false

theorem info5 : (Try.prog.info? 5).map (fun i => (i.zero, i.size, i.bytes)) = some (some (.int .u8 0), 1, 1) := by kernel_rfl
theorem eql22 : ∀ (w : World) (a : Option Addr) (n c n' c' : Nat), (binOp .eql 22 (.slice a n c) (.slice none n' c')).run Try.prog w = .ok (.bool a.isNone) w := fun w a n c n' c' => Lib.run_eql_slice_nil w _ _ a n c n' c' Try.underlying22
theorem make22 (n : Nat) (hn : n ≤ 65536) : ∀ w, (Instr.makeSlice 22 (.int .i64 (n : Int)) (.int .i64 (n : Int))).run Try.prog w = .ok (.slice (some ⟨w.heap.size, 0, none⟩) n n) (w.alloc (.cells (madeCells #[.int .u8 0] n) 5)) := by
  intro w
  obtain ⟨i0, hi, hz0, hz1, hz2⟩ := info_parts info5
  have h := run_make (P := Try.prog) w 22 5 i0 (.int .u8 0) Try.underlying22 hi hz0 .i64 .i64 (n : Int) (n : Int) (by omega) (by omega) (by rw [hz2]; omega) (by omega)
  simpa [hz1, Value.cells] using h

theorem clone_nil (w : World) : Calls Try.prog 9 #[.slice none 0 0] w fun e w' => e = .returned (.slice none 0 0) ∧ w' = w := by
  have q22 := eql22
  go_enter Try.func9, Try.ntmps9
  go_wp2
  go_ret
  exact ⟨rfl, rfl⟩

/-- Of the new row the first k bytes are laid. -/
def Laid (H n : Nat) (B : Nat → Int) (k : Nat) (w : World) : Prop := ∃ cur : Array Value, w.heap[H]? = some (.cells cur 5 (0, 0)) ∧ cur.size = n ∧ ∀ j, j < k → cur[j]? = some (.int .u8 (B j))
theorem laid_cell {H n k : Nat} {B : Nat → Int} {w : World} (h : Laid H n B k w) (j : Nat) (hj : j < n) : ∃ v, w.cell? ⟨H, j, none⟩ = some v := by
  obtain ⟨cur, h1, h2, _⟩ := h
  refine ⟨cur[j]'(by omega), ?_⟩
  simp [World.cell?, h1, h2, hj]
theorem laid_free {H n k : Nat} {B : Nat → Int} {w : World} (h : Laid H n B k w) (j : Nat) : w.frozen? ⟨H, j, none⟩ = false := by
  obtain ⟨cur, h1, h2, _⟩ := h
  simp [World.frozen?, h1]
theorem laid_step {H n k : Nat} {B : Nat → Int} {w : World} (h : Laid H n B k w) (hk : k < n) : Laid H n B (k + 1) (w.setCell ⟨H, k, none⟩ (.int .u8 (B k))) := by
  obtain ⟨cur, h1, h2, h3⟩ := h
  refine ⟨cur.setIfInBounds k (.int .u8 (B k)), ?_, by simp [h2], ?_⟩
  · rw [setCell_eq_setRow w H k cur 5 (0, 0) _ h1]
    exact setRow_heap w H cur _ 5 _ h1
  · intro j hj
    by_cases e : j = k
    · subst e; simp [h2, hk]
    · rw [Array.getElem?_setIfInBounds_ne (by omega)]
      exact h3 j (by omega)
theorem laid_row {H n : Nat} {B : Nat → Int} {w : World} (h : Laid H n B n w) : Row w H 0 n B := fun j hj => by
  obtain ⟨cur, h1, h2, h3⟩ := h
  have := h3 j hj
  simp [World.cell?, h1, this]

theorem clone_empty (x : Addr) (cap : Nat) (w : World) : Calls Try.prog 9 #[.slice (some x) 0 cap] w fun e w' => e = .returned (.slice (some ⟨w.heap.size, 0, none⟩) 0 0) ∧ Below w.heap.size w w' := by
  have q22 := eql22
  have hmk : ∀ w, (Instr.makeSlice 22 (.int .i64 0) (.int .i64 0)).run Try.prog w = .ok (.slice (some ⟨w.heap.size, 0, none⟩) 0 0) (w.alloc (.cells (madeCells #[.int .u8 0] 0) 5)) := make22 0 (by omega)
  go_enter Try.func9, Try.ntmps9
  go_wp2
  refine wp_loop_rounds 1 ?_
  rw [rounds_succ]
  go_wp2
  go_ret
  exact ⟨rfl, (Below.refl _ _).alloc (Nat.le_refl _) _⟩

set_option maxHeartbeats 800000 in
theorem clone_any (w : World) (b o n cap : Nat) (B : Nat → Int) (hr : Row w b o n B) (hn : n ≤ 65536) (h0 : 0 < n) :
    Calls Try.prog 9 #[.slice (some ⟨b, o, none⟩) n cap] w fun e w' => e = .returned (.slice (some ⟨w.heap.size, 0, none⟩) n n) ∧ Row w' w.heap.size 0 n B ∧ Below w.heap.size w w' := by
  have q22 := eql22
  have hmk := make22 n hn
  have hblt : b < w.heap.size := World.block_lt_of_cell? w _ (hr 0 h0)
  have hL : Laid w.heap.size n B 0 (w.alloc (.cells (madeCells #[.int .u8 0] n) 5)) := ⟨_, heap_alloc_new w _, by simp [size_madeCells], fun j hj => by omega⟩
  have HL := hide hL; clear hL
  go_enter Try.func9, Try.ntmps9
  go_wp2
  go_loopw [4] (fun v wr => ∃ k : Nat, k ≤ n ∧ v = .int .i64 k ∧ Hid (Laid w.heap.size n B k wr) ∧ Hid (Below w.heap.size w wr)) (fun v _ => n - (intOf v).toNat)
  case atStart => exact ⟨0, Nat.zero_le _, rfl, HL, (Below.refl _ _).alloc (Nat.le_refl _) _⟩
  case round =>
    obtain ⟨k, hk, rfl, HLk, HB⟩ := hrel
    by_cases hkn : k < n
    · obtain ⟨v, hv⟩ := laid_cell HLk.out k hkn
      have hf := laid_free HLk.out k
      have hc := row_below hr hblt HB.out k hkn
      go_wp2
      go_roundw
      case rel => exact ⟨k + 1, by omega, by go_num, laid_step HLk.out hkn, HB.out.setCell (Nat.le_refl _) _⟩
      case measure => simp [intOf]; omega
    · go_wp2
      go_ret
      have e : k = n := by omega
      have hl := HLk.out
      rw [e] at hl
      exact ⟨rfl, laid_row hl, HB.out⟩
end Go.Proofs.Qxb6603514a.Js
