import Derived.Test.Qxb6603514aJsValue
import Derived.Maps.AppendAt
namespace Go.Proofs.Qxb6603514a.Js
open Go.RowKit
set_option linter.unusedVariables false

/-- Two slices that lie in no common row. -/
def Apart (u v : Value) : Prop := u.ownBlock = none ∨ v.ownBlock = none ∨ u.ownBlock ≠ v.ownBlock
theorem Apart.symm' {u v : Value} (h : Apart u v) : Apart v u := by
  rcases h with h | h | h
  · exact .inr (.inl h)
  · exact .inl h
  · exact .inr (.inr (Ne.symm h))
theorem apart_nil (v : Value) : Apart (.slice none 0 0) v := .inl rfl

theorem grownBy_of_below {w w' : World} (h : Below w.heap.size w w') (row : Option Nat) : w.grownBy w' row := ⟨h.os, h.tape, h.output, h.size, fun k hk _ => h.block k hk⟩
theorem own_below {w w' : World} {base : Nat} {e : TypeId} {size : Nat} {v : Value} {n : Nat} {xs : List Value} (h : w.ownsRow base e size v n xs) (hb : Below w.heap.size w w') : w'.ownsRow base e size v n xs := by
  refine h.kept (grownBy_of_below hb none) ?_
  cases hv : v.ownBlock
  · exact .inl rfl
  · exact .inr (by simp)
theorem own_other {w w' : World} {base : Nat} {e : TypeId} {size : Nat} {u v : Value} {n : Nat} {xs : List Value} (h : w.ownsRow base e size u n xs) (hg : w.grownBy w' v.ownBlock) (ha : Apart u v) : w'.ownsRow base e size u n xs := by
  rcases ha with ha | ha | ha
  · exact h.kept hg (.inl ha)
  · rw [ha] at hg
    refine h.kept hg ?_
    cases hv : u.ownBlock
    · exact .inl rfl
    · exact .inr (by simp)
  · exact h.kept hg (.inr ha)
/-- The new slice of an append lies apart from whatever the old one lay apart from. -/
theorem apart_new {w : World} {base : Nat} {e : TypeId} {size : Nat} {u v v' : Value} {n : Nat} {xs : List Value} (hu : w.ownsRow base e size u n xs) (ha : Apart u v) (hv : v'.ownBlock = v.ownBlock ∨ v'.ownBlock = some w.heap.size) : Apart u v' := by
  rcases hv with hv | hv
  · rcases ha with h | h | h
    · exact .inl h
    · exact .inr (.inl (by rw [hv, h]))
    · exact .inr (.inr (by rw [hv]; exact h))
  · cases hb : u.ownBlock with
    | none => exact .inl hb
    | some k =>
      have := hu.lt k hb
      exact .inr (.inr (by rw [hb, hv]; simp; omega))

/-- Three slices of the call's own, apart from one another: two of spans, one of numbers. -/
def Tri (base : Nat) (u1 : Value) (n1 : Nat) (xs1 : List Value) (u2 : Value) (n2 : Nat) (xs2 : List Value) (u3 : Value) (n3 : Nat) (xs3 : List Value) (w : World) : Prop :=
  w.ownsRow base 55 2 u1 n1 xs1 ∧ w.ownsRow base 55 2 u2 n2 xs2 ∧ w.ownsRow base 3 1 u3 n3 xs3 ∧ Apart u1 u2 ∧ Apart u1 u3 ∧ Apart u2 u3
section
variable {base : Nat} {u1 u2 u3 : Value} {n1 n2 n3 : Nat} {xs1 xs2 xs3 : List Value} {w w' : World}
theorem tri_nil (base : Nat) (w : World) : Tri base (.slice none 0 0) 0 [] (.slice none 0 0) 0 [] (.slice none 0 0) 0 [] w :=
  ⟨World.ownsRow_nil _ _ _ _, World.ownsRow_nil _ _ _ _, World.ownsRow_nil _ _ _ _, apart_nil _, apart_nil _, apart_nil _⟩
theorem tri_below (h : Tri base u1 n1 xs1 u2 n2 xs2 u3 n3 xs3 w) (hb : Below w.heap.size w w') : Tri base u1 n1 xs1 u2 n2 xs2 u3 n3 xs3 w' :=
  ⟨own_below h.1 hb, own_below h.2.1 hb, own_below h.2.2.1 hb, h.2.2.2⟩
theorem tri_alloc (h : Tri base u1 n1 xs1 u2 n2 xs2 u3 n3 xs3 w) (o : Obj) : Tri base u1 n1 xs1 u2 n2 xs2 u3 n3 xs3 (w.alloc o) := tri_below h ((Below.refl _ _).alloc (Nat.le_refl _) o)
theorem tri_push1 {v' : Value} {m : Nat} {ys : List Value} (h : Tri base u1 n1 xs1 u2 n2 xs2 u3 n3 xs3 w) (ho : w'.ownsRow base 55 2 v' m ys) (hg : w.grownBy w' u1.ownBlock) (hv : v'.ownBlock = u1.ownBlock ∨ v'.ownBlock = some w.heap.size) :
    Tri base v' m ys u2 n2 xs2 u3 n3 xs3 w' :=
  ⟨ho, own_other h.2.1 hg h.2.2.2.1.symm', own_other h.2.2.1 hg h.2.2.2.2.1.symm', (apart_new h.2.1 h.2.2.2.1.symm' hv).symm', (apart_new h.2.2.1 h.2.2.2.2.1.symm' hv).symm', h.2.2.2.2.2⟩
theorem tri_push2 {v' : Value} {m : Nat} {ys : List Value} (h : Tri base u1 n1 xs1 u2 n2 xs2 u3 n3 xs3 w) (ho : w'.ownsRow base 55 2 v' m ys) (hg : w.grownBy w' u2.ownBlock) (hv : v'.ownBlock = u2.ownBlock ∨ v'.ownBlock = some w.heap.size) :
    Tri base u1 n1 xs1 v' m ys u3 n3 xs3 w' :=
  ⟨own_other h.1 hg h.2.2.2.1, ho, own_other h.2.2.1 hg h.2.2.2.2.2.symm', apart_new h.1 h.2.2.2.1 hv, h.2.2.2.2.1, (apart_new h.2.2.1 h.2.2.2.2.2.symm' hv).symm'⟩
theorem tri_push3 {v' : Value} {m : Nat} {ys : List Value} (h : Tri base u1 n1 xs1 u2 n2 xs2 u3 n3 xs3 w) (ho : w'.ownsRow base 3 1 v' m ys) (hg : w.grownBy w' u3.ownBlock) (hv : v'.ownBlock = u3.ownBlock ∨ v'.ownBlock = some w.heap.size) :
    Tri base u1 n1 xs1 u2 n2 xs2 v' m ys w' :=
  ⟨own_other h.1 hg h.2.2.2.2.1, own_other h.2.1 hg h.2.2.2.2.2, ho, h.2.2.2.1, apart_new h.1 h.2.2.2.2.1 hv, apart_new h.2.1 h.2.2.2.2.2 hv⟩
/-- A push writes nothing below the base. -/
theorem below_push {B0 : Nat} {w0 : World} {u : Value} {e : TypeId} {size m : Nat} {ys : List Value} (hb : Below B0 w0 w) (hown : w.ownsRow base e size u m ys) (hB : B0 ≤ base) (hs : B0 ≤ w.heap.size) (hg : w.grownBy w' u.ownBlock) : Below B0 w0 w' :=
  hb.grown hg hs fun k hk => Nat.le_trans hB (hown.lt k hk).1
section
variable {W : World} {v' : Value} {m : Nat} {ys : List Value} {o : Obj}
/-- The three pushes, behind the block that the new element was laid in. -/
theorem push1_at (h : Tri base u1 n1 xs1 u2 n2 xs2 u3 n3 xs3 w) (hb : Below base W w) (hs : base ≤ w.heap.size) (ho : w'.ownsRow base 55 2 v' m ys) (hg : (w.alloc o).grownBy w' u1.ownBlock) (hv : v'.ownBlock = u1.ownBlock ∨ v'.ownBlock = some (w.alloc o).heap.size) :
    Tri base v' m ys u2 n2 xs2 u3 n3 xs3 w' ∧ Below base W w' ∧ base ≤ w'.heap.size := by
  have hs' : base ≤ (w.alloc o).heap.size := by simp; omega
  have hB := below_push (base := base) (hb.alloc hs o) (tri_alloc h o).1 (Nat.le_refl _) hs' hg
  exact ⟨tri_push1 (tri_alloc h o) ho hg hv, hB, Nat.le_trans hs' hg.size⟩
theorem push2_at (h : Tri base u1 n1 xs1 u2 n2 xs2 u3 n3 xs3 w) (hb : Below base W w) (hs : base ≤ w.heap.size) (ho : w'.ownsRow base 55 2 v' m ys) (hg : (w.alloc o).grownBy w' u2.ownBlock) (hv : v'.ownBlock = u2.ownBlock ∨ v'.ownBlock = some (w.alloc o).heap.size) :
    Tri base u1 n1 xs1 v' m ys u3 n3 xs3 w' ∧ Below base W w' ∧ base ≤ w'.heap.size := by
  have hs' : base ≤ (w.alloc o).heap.size := by simp; omega
  have hB := below_push (base := base) (hb.alloc hs o) (tri_alloc h o).2.1 (Nat.le_refl _) hs' hg
  exact ⟨tri_push2 (tri_alloc h o) ho hg hv, hB, Nat.le_trans hs' hg.size⟩
theorem push3_at (h : Tri base u1 n1 xs1 u2 n2 xs2 u3 n3 xs3 w) (hb : Below base W w) (hs : base ≤ w.heap.size) (ho : w'.ownsRow base 3 1 v' m ys) (hg : (w.alloc o).grownBy w' u3.ownBlock) (hv : v'.ownBlock = u3.ownBlock ∨ v'.ownBlock = some (w.alloc o).heap.size) :
    Tri base u1 n1 xs1 u2 n2 xs2 v' m ys w' ∧ Below base W w' ∧ base ≤ w'.heap.size := by
  have hs' : base ≤ (w.alloc o).heap.size := by simp; omega
  have hB := below_push (base := base) (hb.alloc hs o) (tri_alloc h o).2.2.1 (Nat.le_refl _) hs' hg
  exact ⟨tri_push3 (tri_alloc h o) ho hg hv, hB, Nat.le_trans hs' hg.size⟩
end
end

theorem le_alloc {k : Nat} {w : World} (h : k ≤ w.heap.size) (o : Obj) : k ≤ (w.alloc o).heap.size := by simp; omega
theorem spans_snoc (f g : Mem → Nat) (m : Mem) : ∀ ms, spans f g (ms ++ [m]) = spans f g ms ++ [.int .i64 (f m : Int), .int .i64 (g m : Int)]
  | [] => rfl
  | x :: ms => by simp [spans, spans_snoc f g m ms]
theorem kinds_snoc (ms : List Mem) (m : Mem) : kinds (ms ++ [m]) = kinds ms ++ [.int .i64 m.k] := by simp [kinds]

theorem row_below {w w' : World} {b o n B0 : Nat} {B : Nat → Int} (hr : Row w b o n B) (hlt : b < B0) (hb : Below B0 w w') : Row w' b o n B := fun i hi => by
  rw [hb.cell (p := ⟨b, o + i, none⟩) hlt]; exact hr i hi

/-- The cells of a span, laid in a new block. -/
theorem two_new (w : World) (x y : Value) (t : TypeId) : ∀ j u, [x, y][j]? = some u → (w.alloc (.cells #[x, y] t)).cell? ((⟨w.heap.size, 0, none⟩ : Addr).add j) = some u := by
  intro j u hj
  match j, hj with
  | 0, hj => simp at hj; subst hj; simp [Addr.add]
  | 1, hj => simp at hj; subst hj; simp [Addr.add]
theorem two_one (x y : Int) : ∀ u ∈ [Value.int .i64 x, Value.int .i64 y], u.oneCell' = true := by
  intro u hu; simp at hu; rcases hu with rfl | rfl <;> rfl
theorem one_one (x : Int) : ∀ u ∈ [Value.int .i64 x], u.oneCell' = true := by
  intro u hu; simp at hu; subst hu; rfl

theorem info55 : (Try.prog.info? 55).map (fun i => (i.zero, i.size, i.bytes)) = some (some (.agg #[.int .i64 0, .int .i64 0]), 2, 16) := by kernel_rfl
theorem info3 : (Try.prog.info? 3).map (fun i => (i.zero, i.size, i.bytes)) = some (some (.int .i64 0), 1, 8) := by kernel_rfl

theorem contOut_no {B : Nat → Int} {n i : Nat} {w w' : World} (hb : Below w.heap.size w w') : ContOut B n i w (.returned (.tuple #[.int .i64 0, .slice none 0 0, .slice none 0 0, .slice none 0 0, .bool false])) w' :=
  ⟨0, _, _, _, false, rfl, hb, fun h => by simp at h⟩
theorem contOut_yes {B : Nat → Int} {n i : Nat} {w w' : World} {vn vv vk : Value} (hb : Below w.heap.size w w') (obj : Bool) (ms : List Mem) (e' : Nat) (en : Int) (hen : en = (e' : Int)) (hB : B i = if obj = true then 123 else 91)
    (hd : Done B n obj (sk B n (i + 1)) ms e') (hl : Lists obj ms w.heap.size vn vv vk w') : ContOut B n i w (.returned (.tuple #[.int .i64 en, vn, vv, vk, .bool true])) w' :=
  ⟨en, vn, vv, vk, true, rfl, hb, fun _ => ⟨obj, ms, e', hen, hB, hd, hl⟩⟩
end Go.Proofs.Qxb6603514a.Js
