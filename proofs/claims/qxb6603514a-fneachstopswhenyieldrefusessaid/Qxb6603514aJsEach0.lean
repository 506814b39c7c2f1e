import Derived.Test.Qxb6603514aJsTri
import Derived.Test.Qxb6603514aJsVal
import Derived.Deep.RegionHeld3
import Derived.Deep.DrawnRows
namespace Go.Proofs.Qxb6603514a.Js
open Go.RowKit
set_option linter.unusedVariables false

theorem cells50 : Try.prog.cellsOf 50 = 3 := by kernel_rfl

/-- A document that is nil: nothing is known of large values. -/
theorem from_nil (a : Option Addr) (n c : Nat) (w : World) : Calls Try.prog 30 #[.pointer none, .slice a n c] w fun e w' => e = .returned (.tuple #[.int .i64 0, .slice none 0 0]) ∧ Below w.heap.size w w' := by
  go_enter Try.func30, Try.ntmps30
  go_wp2
  exact bodyPost_ret (v := .tuple #[.int .i64 0, .slice none 0 0]) (by simp [results, Try.results30, go_sem]) rfl ⟨rfl, (((Below.refl _ _).alloc (Nat.le_refl _) _).alloc (by simp) _)⟩

/-- No array, no object: nothing is yielded. -/
theorem each_none (k : Int) (a : Option Addr) (n c : Nat) (y : Value) (w : World) (h5 : k ≠ 5) (h6 : k ≠ 6) : Calls Try.prog 21 #[.agg #[.int .i64 k, .slice a n c, .pointer none], y] w fun e w' => e = .returned (.tuple #[]) ∧ Below w.heap.size w w' := by
  have e5 : (k != 5) = true := by simpa using h5
  have e6 : (k != 6) = true := by simpa using h6
  go_enter Try.func21, Try.ntmps21
  go_wp2
  refine bodyPost_ret (results_none rfl _ _ _) rfl ?_
  exact ⟨rfl, (Below.refl _ _).alloc (Nat.le_refl _) _⟩

/-- What stays as it was: all below H but for the blocks of C. -/
def Kp (H : Nat) (C : Nat → Prop) (w w' : World) : Prop := w'.os = w.os ∧ w'.tape = w.tape ∧ w'.output = w.output ∧ w.heap.size ≤ w'.heap.size ∧ ∀ k, k < H → ¬ C k → w'.heap[k]? = w.heap[k]?
theorem Kp.refl' (H : Nat) (C : Nat → Prop) (w : World) : Kp H C w w := ⟨rfl, rfl, rfl, Nat.le_refl _, fun _ _ _ => rfl⟩
theorem Kp.trans' {H : Nat} {C : Nat → Prop} {a b c : World} (h : Kp H C a b) (k : Kp H C b c) : Kp H C a c :=
  ⟨k.1.trans h.1, k.2.1.trans h.2.1, k.2.2.1.trans h.2.2.1, Nat.le_trans h.2.2.2.1 k.2.2.2.1, fun i hi hc => (k.2.2.2.2 i hi hc).trans (h.2.2.2.2 i hi hc)⟩
theorem kp_below {H B0 : Nat} {C : Nat → Prop} {w w' : World} (h : Below B0 w w') (hH : H ≤ B0) : Kp H C w w' := ⟨h.os, h.tape, h.output, h.size, fun k hk _ => h.block k (Nat.lt_of_lt_of_le hk hH)⟩
theorem Kp.mono' {H H' : Nat} {C : Nat → Prop} {w w' : World} (h : Kp H C w w') (hH : H' ≤ H) : Kp H' C w w' := ⟨h.1, h.2.1, h.2.2.1, h.2.2.2.1, fun k hk hc => h.2.2.2.2 k (Nat.lt_of_lt_of_le hk hH) hc⟩
theorem kp_cell {H : Nat} {C : Nat → Prop} {w w' : World} (h : Kp H C w w') {p : Addr} (hp : p.block < H) (hc : ¬ C p.block) : w'.cell? p = w.cell? p := World.cell?_of_block (h.2.2.2.2 p.block hp hc)
theorem kp_row {H : Nat} {C : Nat → Prop} {w w' : World} {b o n : Nat} {B : Nat → Int} (h : Kp H C w w') (hp : b < H) (hc : ¬ C b) (hr : Row w b o n B) : Row w' b o n B := fun i hi => by
  rw [kp_cell (p := ⟨b, o + i, none⟩) h hp hc]; exact hr i hi

/-- No block of Value structs is written. -/
def K50 (w w' : World) : Prop := ∀ (k : Nat) (cs : Array Value) (fr : Nat × Nat), w.heap[k]? = some (Obj.cells cs 50 fr) → w'.heap[k]? = some (Obj.cells cs 50 fr)
theorem three_cells {w : World} {g : Nat} {x y z : Value} {t : TypeId} (h : w.heap[g]? = some (.cells #[x, y, z] t (0, 0))) : w.cell? ⟨g, 0, none⟩ = some x ∧ w.cell? ⟨g, 1, none⟩ = some y ∧ w.cell? ⟨g, 2, none⟩ = some z := by
  simp [World.cell?, h]

theorem Done.start {B : Nat → Int} {n : Nat} {obj : Bool} {m : Mem} {ms : List Mem} {a e : Nat} (h : Done B n obj a (m :: ms) e) : m.s = a := h.1

/-- The name and the value that a member is yielded as. -/
def nameVal (obj : Bool) (b o cap : Nat) (m : Mem) : Value :=
  if obj = true then .agg #[.int .i64 4, .slice (some ⟨b, o + m.s, none⟩) (m.ne - m.s) (cap - m.s), .pointer none] else .agg #[.int .i64 0, .slice none 0 0, .pointer none]
def valVal (b o cap : Nat) (m : Mem) : Value := .agg #[.int .i64 m.k, .slice (some ⟨b, o + m.vs, none⟩) (m.ve - m.vs) (cap - m.vs), .pointer none]

/-- Where each's loop stands: at the head of a member, or at the closing bracket. -/
def Stand (B : Nat → Int) (n : Nat) (obj : Bool) (e : Nat) (k : Nat) (rest : List Mem) : Prop := Done B n obj k rest e ∨ (rest = [] ∧ k < n ∧ B k = closer obj)
end Go.Proofs.Qxb6603514a.Js
