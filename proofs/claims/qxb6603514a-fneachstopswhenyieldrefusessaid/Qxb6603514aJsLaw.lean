import Derived.Test.Qxb6603514aJsSame
import Derived.Test.Qxb6603514aJsTop
import Derived.Test.Qxb6603514aJsClone
namespace Go.Proofs.Qxb6603514a.Js
open Go.RowKit
set_option linter.unusedVariables false

/-- Nothing to compare. -/
theorem same_zero (r vn vv vk : Value) (kd : Int) (a1 a2 a3 a4 : Option Addr) (d1 d2 d3 d4 : Nat) (w : World) :
    Calls Try.prog 14 #[r, .int .i64 kd, vn, vv, vk, .slice a1 0 d1, .slice a2 0 d2, .slice a3 0 d3, .slice a4 0 d4, .int .i64 0] w fun e w' => e = .returned (.bool true) ∧ w' = w := by
  go_enter Try.func14, Try.ntmps14
  go_wp2
  refine wp_loop_rounds 1 ?_
  rw [rounds_succ]
  go_wp2
  go_ret
  exact ⟨rfl, rfl⟩

theorem done_mem {B : Nat → Int} {n : Nat} {obj : Bool} : ∀ (ms : List Mem) (a e : Nat), Done B n obj a ms e → ∀ m ∈ ms, MemOK B n obj m
  | [], _, _, _, m, hm => by simp at hm
  | x :: ms, a, e, h, m, hm => by
    obtain ⟨_, hok, _, hc⟩ := h
    rcases List.mem_cons.1 hm with rfl | hm
    · exact hok
    · rcases hc with ⟨_, h0, _⟩ | ⟨_, _, hd⟩
      · subst h0; simp at hm
      · exact done_mem ms _ _ hd m hm

theorem same_any (obj : Bool) (b o n cap : Nat) (B : Nat → Int) (hn : n ≤ 65536) (hcap : n ≤ cap) (ms : List Mem) (a e : Nat) (hd : Done B n obj a ms e) (N : Nat) (hN : N ≤ ms.length) (vn vv vk v1 v2 v3 v4 : Value) (base base2 : Nat) (w : World) (hr : Row w b o n B)
    (hl : Lists obj ms base vn vv vk w) (ho : Outs obj b o cap (ms.take N) base2 v1 v2 v3 v4 w) :
    Calls Try.prog 14 #[.slice (some ⟨b, o, none⟩) n cap, .int .i64 (kindNo obj), vn, vv, vk, v1, v2, v3, v4, .int .i64 (N : Int)] w fun e w' => e = .returned (.bool true) ∧ ∃ q, w' = w.drewN q := by
  have hlen := done_len B n obj _ _ _ hd
  obtain ⟨ln, lv, lk⟩ := hl
  obtain ⟨o1, o2, o3, o4⟩ := ho
  have hNl : (ms.take N).length = N := by simp; omega
  rw [hNl] at o1 o2 o3 o4
  rcases Nat.eq_zero_or_pos N with rfl | hpos
  · obtain ⟨a1, d1, rfl⟩ := own_form o1
    obtain ⟨a2, d2, rfl⟩ := own_form o2
    obtain ⟨a3, d3, rfl⟩ := own_form o3
    obtain ⟨a4, d4, rfl⟩ := own_form o4
    exact (same_zero _ _ _ _ _ _ _ _ _ _ _ _ _ w).mono fun _ _ h => ⟨h.1, 0, h.2⟩
  · obtain ⟨g1, d1, rfl⟩ := own_some o1 hpos
    obtain ⟨g2, d2, rfl⟩ := own_some o2 hpos
    obtain ⟨g3, d3, rfl⟩ := own_some o3 hpos
    obtain ⟨g4, d4, rfl⟩ := own_some o4 hpos
    obtain ⟨gv, cv, rfl⟩ := own_some lv (by omega)
    obtain ⟨gk, ck, rfl⟩ := own_some lk (by omega)
    cases obj
    · exact same_arr b o n cap B hn hcap ms (done_mem _ _ _ hd) N ms.length hpos hN rfl (by omega) vn gv cv gk ck g1 d1 g2 d2 g3 d3 g4 d4 base base2 w hr lv lk o1 o2 o3 o4
    · obtain ⟨gn, cn, rfl⟩ := own_some (ln rfl) (by omega)
      exact same_obj b o n cap B hn hcap ms (done_mem _ _ _ hd) N ms.length hpos hN rfl (by omega) gn cn gv cv gk ck g1 d1 g2 d2 g3 d3 g4 d4 base base2 w hr (ln rfl) lv lk o1 o2 o3 o4

theorem lists_below {obj : Bool} {ms : List Mem} {base : Nat} {vn vv vk : Value} {w w' : World} (h : Lists obj ms base vn vv vk w) (hb : Below w.heap.size w w') : Lists obj ms base vn vv vk w' :=
  ⟨fun ho => own_below (h.1 ho) hb, own_below h.2.1 hb, own_below h.2.2 hb⟩
end Go.Proofs.Qxb6603514a.Js
