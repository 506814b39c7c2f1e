import Derived.Test.Qxb6603215aProg
import Derived.WalkKit
import Derived.WalkSpells
import Derived.Laws.CopyOwn
import Derived.Laws.BytesArg
namespace Go.Proofs.Qxb6603215a.Dt
open Go.RowKit

theorem hide {p : Prop} (h : p) : Hid p := h

theorem info5 : (Try.prog.info? 5).map (fun i => (i.zero, i.size, i.bytes)) = some (some (.int .u8 0), 1, 1) := by kernel_rfl

/-- A clone of nil is nil. -/
theorem clone_nil (w : World) : Calls Try.prog 10 #[.slice none 0 0] w fun e w' => e = .returned (.slice none 0 0) ∧ w' = w := by
  have q22 : ∀ (w : World) (a : Option Addr) (n c n' c' : Nat), (binOp .eql 22 (.slice a n c) (.slice none n' c')).run Try.prog w = .ok (.bool a.isNone) w := fun w a n c n' c' => Lib.run_eql_slice_nil w _ _ a n c n' c' Try.underlying22
  go_enter Try.func10, Try.ntmps10
  go_wp2
  go_ret
  exact ⟨rfl, rfl⟩

/-- A clone of a slice that is not nil: a new row with the same bytes. -/
theorem clone_some (x : Addr) (len cap : Nat) (zs : List Int) (w : World) (hl : len ≤ zs.length) (hlen : len ≤ 1048576)
    (hc : ∀ i, i < zs.length → w.cell? (x.add i) = some (.int .u8 (zs.getD i 0))) :
    Calls Try.prog 10 #[.slice (some x) len cap] w fun e w' => e = .returned (.slice (some ⟨w.heap.size, 0, none⟩) len len) ∧
      Hid (w'.heap[w.heap.size]? = some (.cells ((zs.take len).map (Value.int .u8)).toArray 5 (0, 0))) ∧ Below w.heap.size w w' := by
  have q22 : ∀ (w : World) (a : Option Addr) (n c n' c' : Nat), (binOp .eql 22 (.slice a n c) (.slice none n' c')).run Try.prog w = .ok (.bool a.isNone) w := fun w a n c n' c' => Lib.run_eql_slice_nil w _ _ a n c n' c' Try.underlying22
  obtain ⟨i0, hi, hz0, hz1, hz2⟩ := info_parts info5
  have hmk : ∀ w, (Instr.makeSlice 22 (.int .i64 (len : Int)) (.int .i64 (len : Int))).run Try.prog w = .ok (.slice (some ⟨w.heap.size, 0, none⟩) len len) (w.alloc (.cells (madeCells #[.int .u8 0] len) 5)) := by
    intro w
    have h := run_make (P := Try.prog) w 22 5 i0 (.int .u8 0) Try.underlying22 hi hz0 .i64 .i64 (len : Int) (len : Int) (by omega) (by omega) (by rw [hz2]; omega) (by omega)
    simpa [hz1, Value.cells] using h
  have hsz5 : (Try.prog.info? 5).map (·.size) = some 1 := by rw [hi]; simp [hz1]
  obtain ⟨C, hC⟩ : ∃ C, C = (zs.take len).map (Value.int .u8) := ⟨_, rfl⟩
  have hCl : C.length = len := by rw [hC]; simp; omega
  have hC1 : ∀ v ∈ C, v.oneCell' = true := by rw [hC]; intro v hv; obtain ⟨n, _, rfl⟩ := List.mem_map.1 hv; rfl
  have hCc : ∀ j v, C[j]? = some v → (w.alloc (.cells (madeCells #[.int .u8 0] len) 5)).cell? (x.add j) = some v := by
    intro j v hj
    have hjl : j < len := by
      rcases Nat.lt_or_ge j len with h | h
      · exact h
      · rw [List.getElem?_eq_none (by omega)] at hj; simp at hj
    have hcj := hc j (by omega)
    have hlt := World.block_lt_of_cell? w _ hcj
    have hb := ((Below.refl w.heap.size w).alloc (Nat.le_refl _) (.cells (madeCells #[.int .u8 0] len) 5)).cell (p := x.add j) hlt
    rw [hb, hcj]
    rw [hC] at hj
    simp [hjl] at hj
    obtain ⟨a, ha, rfl⟩ := hj
    simp [List.getD, ha]
  obtain ⟨Z, hZ⟩ : ∃ Z, Z = (madeCells #[.int .u8 0] len).toList := ⟨_, rfl⟩
  have hZl : Z.length = len := by rw [hZ]; simp [size_madeCells]
  have hZg : (w.alloc (.cells (madeCells #[.int .u8 0] len) 5)).heap[w.heap.size]? = some (.cells Z.toArray 5 (0, 0)) := by
    rw [hZ]; simpa using heap_alloc_new w (.cells (madeCells #[.int .u8 0] len) 5)
  have HC := hide hC; clear hC
  have HZ := hide hZ; clear hZ
  have HZg := hide hZg; clear hZg
  have HZl := hide hZl; clear hZl
  have HCl := hide hCl; clear hCl
  go_enter Try.func10, Try.ntmps10
  go_wp2_with (refine wpList_copy_splice rfl (.tmp 9) (.tmp 10) 22 22 rfl 5 Try.underlying22 hsz5 _ _ _ _ _ _ rfl rfl w.heap.size 0 Z 5 HZg.out C (by rw [HCl.out]; exact (Nat.min_self _).symm) (fun _ => ⟨rfl, _, rfl, hCc⟩) (by rw [HCl.out, HZl.out]; omega) hC1 w.heap.size w ((Below.refl _ _).alloc (Nat.le_refl _) _) (Nat.le_refl _) ?_; intro w2 HG2 hB2)
  go_ret
  refine ⟨rfl, ?_, hB2⟩
  have e : splice Z 0 C = C := by
    unfold splice; simp [HCl.out, HZl.out]
  rw [e, HC.out] at HG2
  exact HG2

theorem ret_str {s : ByteArray} {l : List UInt8} (h : (s.toList == l) = true) : Ending.returned (.string ⟨l.toArray⟩) = .returned (.string s) := by
  have e : s.toList = l := by simpa using h
  subst e
  rw [ByteArray.toList_eq]

/-- discountType, whatever slice: the string that the bytes make. -/
theorem dt_any (a : Option Addr) (len cap : Nat) (s : ByteArray) (w : World)
    (h9 : (convert 22 9 (.slice a len cap)).run Try.prog w = .ok (.string s) w) (h27 : (convert 22 27 (.slice a len cap)).run Try.prog w = .ok (.string s) w) :
    Calls Try.prog 15 #[.slice a len cap] w fun e w' => e = .returned (.string s) ∧ w' = w := by
  go_enter Try.func15, Try.ntmps15
  go_wp2
  · go_ret
    exact ⟨ret_str ‹_›, rfl⟩
  · go_ret
    exact ⟨ret_str ‹(s.toList == [117, 110, 105, 116, 95, 97, 109, 111, 117, 110, 116]) = true›, rfl⟩
  · go_ret
    exact ⟨ret_str ‹(s.toList == [97, 109, 111, 117, 110, 116]) = true›, rfl⟩
  · go_ret
    exact ⟨rfl, rfl⟩

/-- The clone's bytes as a string, at either string type. -/
theorem conv_clone {w1 : World} {b len : Nat} {zs : List Int} (hl : len ≤ zs.length) (HG : Hid (w1.heap[b]? = some (.cells ((zs.take len).map (Value.int .u8)).toArray 5 (0, 0))))
    (dst : TypeId) (hd : Try.prog.underlying dst = some .string) :
    (convert 22 dst (.slice (some ⟨b, 0, none⟩) len len)).run Try.prog w1 = .ok (.string (strOfNums (zs.take len))) w1 := by
  refine run_convert_bytes_arg (P := Try.prog) w1 22 5 Try.underlying22 Try.underlying5 b 0 len len (zs.take len) (by simp; omega) ?_ dst hd
  intro i hi
  have hg := HG.out
  have hiz : i < zs.length := by omega
  simp [World.cell?, hg, hi, hiz]
end Go.Proofs.Qxb6603215a.Dt
