import Derived.Test.Qxb6603514aJsEach1
import Derived.Test.Qxb6603514aJsEach2
import Derived.Test.Qxb6603514aJsAll
namespace Go.Proofs.Qxb6603514a.Js
open Go.RowKit
set_option linter.unusedVariables false
attribute [local go_sem ↓] Go.wp_at_zero Go.wp_at_succ

theorem cf22 (args : Array Value) (w : World) : (callFunc 22 args).run Try.prog w = .ok (.enter 22 args) w := by kernel_rfl
theorem cf24 (args : Array Value) (w : World) : (callFunc 24 args).run Try.prog w = .ok (.enter 24 args) w := by kernel_rfl
theorem cf35 (args : Array Value) (w : World) : (callFunc 35 args).run Try.prog w = .ok (.enter 35 args) w := by kernel_rfl

def kindNo (obj : Bool) : Int := if obj = true then 6 else 5

/-- What each leaves, whatever the closure: 't' members were yielded. -/
def EachOut (C : Nat → Prop) (Inv : Nat → Nat → World → Prop) (cont : Nat → Bool) (len : Nat) (w : World) (e : Ending) (w' : World) : Prop :=
  e = .returned (.tuple #[]) ∧ ∃ H t, Inv H t w' ∧ H ≤ w'.heap.size ∧ t ≤ len ∧ (∀ s, s + 1 < t → cont s = true) ∧ (t = len ∨ ∃ s, t = s + 1 ∧ cont s = false) ∧ Kp w.heap.size C w w'

theorem each_any (obj : Bool) (F : Nat) (caps : Array Value) (C : Nat → Prop) (Inv : Nat → Nat → World → Prop) (cont : Nat → Bool) (b o n cap : Nat) (B : Nat → Int) (hn : n ≤ 65536) (hcap : n ≤ cap) (ms : List Mem) (hms : Done B n obj (sk B n 1) ms n)
    (hcf : ∀ (args : Array Value) (w : World), (callFunc F args).run Try.prog w = .ok (.enter F args) w)
    (hst : ∀ H t w w', Inv H t w → Below w.heap.size w w' → Inv H t w')
    (hy : ∀ H t m w, ms[t]? = some m → Inv H t w → H ≤ w.heap.size → Calls Try.prog F (#[nameVal obj b o cap m, valVal b o cap m] ++ caps) w fun e w' => e = .returned (.bool (cont t)) ∧ Inv H (t + 1) w' ∧ Kp H C w w' ∧ K50 w w')
    (w : World) (hr : Row w b o n B) (hbC : ¬ C b) (hC : ∀ k, C k → k < w.heap.size) (hI : ∀ H w', Below w.heap.size w w' → w.heap.size ≤ H → H ≤ w'.heap.size → Inv H 0 w') :
    Calls Try.prog 21 #[.agg #[.int .i64 (kindNo obj), .slice (some ⟨b, o, none⟩) n cap, .pointer none], .func (.func F) #[] caps] w fun e w' => EachOut C Inv cont ms.length w e w' := by
  cases obj
  · exact each_arr F caps C Inv cont b o n cap B hn hcap ms hms hcf hst hy w hr hbC hC hI
  · exact each_obj F caps C Inv cont b o n cap B hn hcap ms hms hcf hst hy w hr hbC hC hI

/-! ### The four lists -/
def nameS (obj : Bool) (b o cap : Nat) (m : Mem) : Value := if obj = true then .slice (some ⟨b, o + m.s, none⟩) (m.ne - m.s) (cap - m.s) else .slice none 0 0
def nameK (obj : Bool) : Value := if obj = true then .int .i64 4 else .int .i64 0
def valS (b o cap : Nat) (m : Mem) : Value := .slice (some ⟨b, o + m.vs, none⟩) (m.ve - m.vs) (cap - m.vs)
def valK (m : Mem) : Value := .int .i64 m.k

/-- The four variables hold the first t members. -/
def Inv4 (obj : Bool) (b o cap : Nat) (ms : List Mem) (c1 c2 c3 c4 : Nat) (H t : Nat) (w : World) : Prop :=
  t ≤ ms.length ∧ ∃ v1 v2 v3 v4, Four H c1 c2 c3 c4 v1 v2 v3 v4 t t t t ((ms.take t).map (nameS obj b o cap)) ((ms.take t).map fun _ => nameK obj) ((ms.take t).map (valS b o cap)) ((ms.take t).map valK) w
theorem inv4_below {obj : Bool} {b o cap : Nat} {ms : List Mem} {c1 c2 c3 c4 H t : Nat} {w w' : World} (h : Inv4 obj b o cap ms c1 c2 c3 c4 H t w) (hb : Below w.heap.size w w') : Inv4 obj b o cap ms c1 c2 c3 c4 H t w' := by
  obtain ⟨h1, v1, v2, v3, v4, h2⟩ := h
  exact ⟨h1, v1, v2, v3, v4, four_below h2 hb⟩
theorem take_snoc_mem {ms : List Mem} {t : Nat} {m : Mem} (h : ms[t]? = some m) : ms.take (t + 1) = ms.take t ++ [m] := by
  obtain ⟨hl, rfl⟩ := List.getElem?_eq_some_iff.1 h
  exact List.take_succ_eq_append_getElem hl

theorem all_yield_inv (obj : Bool) (b o cap : Nat) (ms : List Mem) (hlen : ms.length ≤ 65536) (c1 c2 c3 c4 : Nat) (C : Nat → Prop) (hC1 : C c1) (hC2 : C c2) (hC3 : C c3) (hC4 : C c4) (H t : Nat) (m : Mem) (w : World) (hm : ms[t]? = some m) (hi : Inv4 obj b o cap ms c1 c2 c3 c4 H t w) :
    Calls Try.prog 22 (#[nameVal obj b o cap m, valVal b o cap m] ++ #[.pointer (some ⟨c1, 0, none⟩), .pointer (some ⟨c2, 0, none⟩), .pointer (some ⟨c3, 0, none⟩), .pointer (some ⟨c4, 0, none⟩)]) w fun e w' =>
      e = .returned (.bool true) ∧ Inv4 obj b o cap ms c1 c2 c3 c4 H (t + 1) w' ∧ Kp H C w w' ∧ K50 w w' := by
  obtain ⟨h1, v1, v2, v3, v4, h4⟩ := hi
  have hl : t < ms.length := (List.getElem?_eq_some_iff.1 hm).1
  have ht := take_snoc_mem hm
  cases obj
  · refine (all_yield H c1 c2 c3 c4 C hC1 hC2 hC3 hC4 t (by omega) _ _ _ _ 0 m.k none (some ⟨b, o + m.vs, none⟩) 0 0 (m.ve - m.vs) (cap - m.vs) v1 v2 v3 v4 w h4).mono ?_
    rintro e w' ⟨he, u1, u2, u3, u4, hF, hK, h5⟩
    refine ⟨he, ⟨by omega, u1, u2, u3, u4, ?_⟩, hK, h5⟩
    rw [ht]; simp only [List.map_append, List.map_cons, List.map_nil]
    exact hF
  · refine (all_yield H c1 c2 c3 c4 C hC1 hC2 hC3 hC4 t (by omega) _ _ _ _ 4 m.k (some ⟨b, o + m.s, none⟩) (some ⟨b, o + m.vs, none⟩) (m.ne - m.s) (cap - m.s) (m.ve - m.vs) (cap - m.vs) v1 v2 v3 v4 w h4).mono ?_
    rintro e w' ⟨he, u1, u2, u3, u4, hF, hK, h5⟩
    refine ⟨he, ⟨by omega, u1, u2, u3, u4, ?_⟩, hK, h5⟩
    rw [ht]; simp only [List.map_append, List.map_cons, List.map_nil]
    exact hF
end Go.Proofs.Qxb6603514a.Js
