import Derived.Test.Qxb6603514aJsEach0
namespace Go.Proofs.Qxb6603514a.Js
open Go.RowKit
set_option linter.unusedVariables false

/-- A captured variable: a block of one cell, below H, that holds a slice of the call's own (from H on). -/
def Var (H c : Nat) (T e : TypeId) (v : Value) (n : Nat) (xs : List Value) (w : World) : Prop := w.heap[c]? = some (Obj.cells #[v] T (0, 0)) ∧ w.ownsRow H e 1 v n xs ∧ c < H

section
variable {H c ci : Nat} {T e Ti ei : TypeId} {v vi v' : Value} {n ni m : Nat} {xs xsi ys : List Value} {W W1 : World} {o : Obj}

theorem own_lt (h : W.ownsRow H e 1 v n xs) : ∀ k, v.ownBlock = some k → H ≤ k := fun k hk => (h.lt k hk).1

theorem grown_old (hi : W.ownsRow H ei 1 vi ni xsi) (hs : H ≤ W.heap.size) (hg : (W.alloc o).grownBy W1 vi.ownBlock) (k : Nat) (hk : k < H) : W1.heap[k]? = W.heap[k]? := by
  have h1 : k < W.heap.size := by omega
  rw [hg.block k (by simp; omega) (fun h => by have := own_lt hi k h.symm; omega)]
  exact Below.heap_alloc W o k h1

theorem setCell_other (W : World) (a : Addr) (u : Value) (k : Nat) (h : k ≠ a.block) : (W.setCell a u).heap[k]? = W.heap[k]? := Below.heap_setCell W a u k h

theorem var_keep (hV : Var H c T e v n xs W) (hi : W.ownsRow H ei 1 vi ni xsi) (hs : H ≤ W.heap.size) (hg : (W.alloc o).grownBy W1 vi.ownBlock) (hne : c ≠ ci) (hci : ci < H) (ha : Apart v vi) (u : Value) :
    Var H c T e v n xs (W1.setCell ⟨ci, 0, none⟩ u) := by
  refine ⟨?_, ?_, hV.2.2⟩
  · rw [setCell_other _ _ _ _ hne, grown_old hi hs hg c hV.2.2]; exact hV.1
  · exact ownsRow_setCell_below (own_other (hV.2.1.alloc o) hg ha) hci u
theorem var_push (hV : Var H c T e v n xs W) (hs : H ≤ W.heap.size) (hg : (W.alloc o).grownBy W1 v.ownBlock) (ho : W1.ownsRow H e 1 v' m ys) : Var H c T e v' m ys (W1.setCell ⟨c, 0, none⟩ v') := by
  refine ⟨?_, ownsRow_setCell_below ho hV.2.2 v', hV.2.2⟩
  exact one_setCell (v := v) (by rw [grown_old hV.2.1 hs hg c hV.2.2]; exact hV.1)
theorem apart_push (hV : W.ownsRow H e 1 v n xs) (ha : Apart v vi) (hv : v'.ownBlock = vi.ownBlock ∨ v'.ownBlock = some (W.alloc o).heap.size) : Apart v v' := apart_new (hV.alloc o) ha hv
theorem k50_push (hV : Var H c T e v n xs W) (hT : T ≠ 50) (he : e ≠ 50) (hg : (W.alloc o).grownBy W1 v.ownBlock) (u : Value) : K50 W (W1.setCell ⟨c, 0, none⟩ u) := by
  intro k cs fr hk
  have h1 : k < W.heap.size := lt_of_block hk
  have h2 : k ≠ c := fun h => by rw [h, hV.1] at hk; simp at hk; exact hT hk.2.1
  have h3 : some k ≠ v.ownBlock := fun h => by
    rcases hV.2.1.2 with ⟨rfl, _⟩ | ⟨g, cap, cur, rfl, _, hgg, _⟩
    · simp [Value.ownBlock] at h
    · simp [Value.ownBlock] at h
      rw [h, hgg] at hk; simp at hk; exact he hk.2.1
  rw [setCell_other _ _ _ _ h2, hg.block k (by simp; omega) h3, Below.heap_alloc W o k h1]
  exact hk
theorem kp_push {C : Nat → Prop} (hV : Var H c T e v n xs W) (hs : H ≤ W.heap.size) (hC : C c) (hg : (W.alloc o).grownBy W1 v.ownBlock) (u : Value) : Kp H C W (W1.setCell ⟨c, 0, none⟩ u) := by
  refine ⟨hg.os, hg.tape, hg.output, ?_, fun k hk hc => ?_⟩
  · have := hg.size; simp at this; simp; omega
  · have h2 : k ≠ c := fun h => hc (by rw [h]; exact hC)
    rw [setCell_other _ _ _ _ h2, grown_old hV.2.1 hs hg k hk]
theorem size_push (hs : H ≤ W.heap.size) {row : Option Nat} (hg : (W.alloc o).grownBy W1 row) (a : Addr) (u : Value) : H ≤ (W1.setCell a u).heap.size := by
  have := hg.size; simp at this; simp; omega
/-- The variable's cell behind the append, ahead of the store. -/
theorem var_cell (hV : Var H c T e v n xs W) (hs : H ≤ W.heap.size) (hg : (W.alloc o).grownBy W1 v.ownBlock) : W1.cell? ⟨c, 0, none⟩ = some v ∧ W1.frozen? ⟨c, 0, none⟩ = false := by
  have h : W1.heap[c]? = some (Obj.cells #[v] T (0, 0)) := by rw [grown_old hV.2.1 hs hg c hV.2.2]; exact hV.1
  exact ⟨cell_of_one h, free_of_one h⟩
theorem var_below {W' : World} (hV : Var H c T e v n xs W) (hs : H ≤ W.heap.size) (hb : Below W.heap.size W W') : Var H c T e v n xs W' :=
  ⟨by rw [hb.block c (by have := hV.2.2; omega)]; exact hV.1, own_below hV.2.1 hb, hV.2.2⟩
end

theorem k50_below {W W' : World} (hb : Below W.heap.size W W') : K50 W W' := fun k cs fr hk => by rw [hb.block k (lt_of_block hk)]; exact hk
theorem K50.trans' {a b c : World} (h : K50 a b) (k : K50 b c) : K50 a c := fun i cs fr hi => k i cs fr (h i cs fr hi)

/-- Four variables, and the two boxed structs. -/
def Four (H c1 c2 c3 c4 : Nat) (v1 v2 v3 v4 : Value) (n1 n2 n3 n4 : Nat) (x1 x2 x3 x4 : List Value) (w : World) : Prop :=
  (Var H c1 36 22 v1 n1 x1 w ∧ Var H c2 37 40 v2 n2 x2 w ∧ Var H c3 36 22 v3 n3 x3 w ∧ Var H c4 37 40 v4 n4 x4 w) ∧
  (Apart v1 v2 ∧ Apart v1 v3 ∧ Apart v1 v4 ∧ Apart v2 v3 ∧ Apart v2 v4 ∧ Apart v3 v4) ∧ (c1 ≠ c2 ∧ c1 ≠ c3 ∧ c1 ≠ c4 ∧ c2 ≠ c3 ∧ c2 ≠ c4 ∧ c3 ≠ c4) ∧ H ≤ w.heap.size
section
variable {H c1 c2 c3 c4 : Nat} {v1 v2 v3 v4 v' : Value} {n1 n2 n3 n4 m : Nat} {x1 x2 x3 x4 ys : List Value} {W W1 : World} {o : Obj}
theorem four_below {W' : World} (h : Four H c1 c2 c3 c4 v1 v2 v3 v4 n1 n2 n3 n4 x1 x2 x3 x4 W) (hb : Below W.heap.size W W') : Four H c1 c2 c3 c4 v1 v2 v3 v4 n1 n2 n3 n4 x1 x2 x3 x4 W' := by
  obtain ⟨⟨h1, h2, h3, h4⟩, ha, hc, hs⟩ := h
  exact ⟨⟨var_below h1 hs hb, var_below h2 hs hb, var_below h3 hs hb, var_below h4 hs hb⟩, ha, hc, Nat.le_trans hs hb.size⟩
theorem four_push1 (h : Four H c1 c2 c3 c4 v1 v2 v3 v4 n1 n2 n3 n4 x1 x2 x3 x4 W) (ho : W1.ownsRow H 22 1 v' m ys) (hg : (W.alloc o).grownBy W1 v1.ownBlock) (hv : v'.ownBlock = v1.ownBlock ∨ v'.ownBlock = some (W.alloc o).heap.size) :
    Four H c1 c2 c3 c4 v' v2 v3 v4 m n2 n3 n4 ys x2 x3 x4 (W1.setCell ⟨c1, 0, none⟩ v') := by
  obtain ⟨⟨h1, h2, h3, h4⟩, ⟨a12, a13, a14, a23, a24, a34⟩, ⟨d12, d13, d14, d23, d24, d34⟩, hs⟩ := h
  refine ⟨⟨var_push h1 hs hg ho, var_keep h2 h1.2.1 hs hg d12.symm h1.2.2 a12.symm' _, var_keep h3 h1.2.1 hs hg d13.symm h1.2.2 a13.symm' _, var_keep h4 h1.2.1 hs hg d14.symm h1.2.2 a14.symm' _⟩,
    ⟨(apart_push h2.2.1 a12.symm' hv).symm', (apart_push h3.2.1 a13.symm' hv).symm', (apart_push h4.2.1 a14.symm' hv).symm', a23, a24, a34⟩, ⟨d12, d13, d14, d23, d24, d34⟩, size_push hs hg _ _⟩
theorem four_push2 (h : Four H c1 c2 c3 c4 v1 v2 v3 v4 n1 n2 n3 n4 x1 x2 x3 x4 W) (ho : W1.ownsRow H 40 1 v' m ys) (hg : (W.alloc o).grownBy W1 v2.ownBlock) (hv : v'.ownBlock = v2.ownBlock ∨ v'.ownBlock = some (W.alloc o).heap.size) :
    Four H c1 c2 c3 c4 v1 v' v3 v4 n1 m n3 n4 x1 ys x3 x4 (W1.setCell ⟨c2, 0, none⟩ v') := by
  obtain ⟨⟨h1, h2, h3, h4⟩, ⟨a12, a13, a14, a23, a24, a34⟩, ⟨d12, d13, d14, d23, d24, d34⟩, hs⟩ := h
  refine ⟨⟨var_keep h1 h2.2.1 hs hg d12 h2.2.2 a12 _, var_push h2 hs hg ho, var_keep h3 h2.2.1 hs hg d23.symm h2.2.2 a23.symm' _, var_keep h4 h2.2.1 hs hg d24.symm h2.2.2 a24.symm' _⟩,
    ⟨apart_push h1.2.1 a12 hv, a13, a14, (apart_push h3.2.1 a23.symm' hv).symm', (apart_push h4.2.1 a24.symm' hv).symm', a34⟩, ⟨d12, d13, d14, d23, d24, d34⟩, size_push hs hg _ _⟩
theorem four_push3 (h : Four H c1 c2 c3 c4 v1 v2 v3 v4 n1 n2 n3 n4 x1 x2 x3 x4 W) (ho : W1.ownsRow H 22 1 v' m ys) (hg : (W.alloc o).grownBy W1 v3.ownBlock) (hv : v'.ownBlock = v3.ownBlock ∨ v'.ownBlock = some (W.alloc o).heap.size) :
    Four H c1 c2 c3 c4 v1 v2 v' v4 n1 n2 m n4 x1 x2 ys x4 (W1.setCell ⟨c3, 0, none⟩ v') := by
  obtain ⟨⟨h1, h2, h3, h4⟩, ⟨a12, a13, a14, a23, a24, a34⟩, ⟨d12, d13, d14, d23, d24, d34⟩, hs⟩ := h
  refine ⟨⟨var_keep h1 h3.2.1 hs hg d13 h3.2.2 a13 _, var_keep h2 h3.2.1 hs hg d23 h3.2.2 a23 _, var_push h3 hs hg ho, var_keep h4 h3.2.1 hs hg d34.symm h3.2.2 a34.symm' _⟩,
    ⟨a12, apart_push h1.2.1 a13 hv, a14, apart_push h2.2.1 a23 hv, a24, (apart_push h4.2.1 a34.symm' hv).symm'⟩, ⟨d12, d13, d14, d23, d24, d34⟩, size_push hs hg _ _⟩
theorem four_push4 (h : Four H c1 c2 c3 c4 v1 v2 v3 v4 n1 n2 n3 n4 x1 x2 x3 x4 W) (ho : W1.ownsRow H 40 1 v' m ys) (hg : (W.alloc o).grownBy W1 v4.ownBlock) (hv : v'.ownBlock = v4.ownBlock ∨ v'.ownBlock = some (W.alloc o).heap.size) :
    Four H c1 c2 c3 c4 v1 v2 v3 v' n1 n2 n3 m x1 x2 x3 ys (W1.setCell ⟨c4, 0, none⟩ v') := by
  obtain ⟨⟨h1, h2, h3, h4⟩, ⟨a12, a13, a14, a23, a24, a34⟩, ⟨d12, d13, d14, d23, d24, d34⟩, hs⟩ := h
  refine ⟨⟨var_keep h1 h4.2.1 hs hg d14 h4.2.2 a14 _, var_keep h2 h4.2.1 hs hg d24 h4.2.2 a24 _, var_keep h3 h4.2.1 hs hg d34 h4.2.2 a34 _, var_push h4 hs hg ho⟩,
    ⟨a12, a13, apart_push h1.2.1 a14 hv, a23, apart_push h2.2.1 a24 hv, apart_push h3.2.1 a34 hv⟩, ⟨d12, d13, d14, d23, d24, d34⟩, size_push hs hg _ _⟩
end
theorem info22 : (Try.prog.info? 22).map (fun i => (i.zero, i.size, i.bytes)) = some (some (.slice none 0 0), 1, 24) := by kernel_rfl
theorem info40 : (Try.prog.info? 40).map (fun i => (i.zero, i.size, i.bytes)) = some (some (.int .i64 0), 1, 8) := by kernel_rfl
theorem one_slice (a : Option Addr) (n c : Nat) : ∀ u ∈ [Value.slice a n c], u.oneCell' = true := by
  intro u hu; simp at hu; subst hu; rfl
end Go.Proofs.Qxb6603514a.Js
