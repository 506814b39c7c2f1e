import Derived.Test.Qxb6603514aJsAll
namespace Go.Proofs.Qxb6603514a.Js
open Go.RowKit
set_option linter.unusedVariables false

theorem own_form' {w : World} {base : Nat} {e : TypeId} {size : Nat} {v : Value} {n : Nat} {xs : List Value} (h : w.ownsRow base e size v n xs) : ∃ a c, v = .slice a n c := by
  rcases h.2 with ⟨h, h'⟩ | ⟨g, cap, cur, h1, _⟩
  · exact ⟨none, 0, by rw [h, h']⟩
  · exact ⟨_, _, h1⟩

set_option maxRecDepth 100000 in
set_option maxHeartbeats 3200000 in
theorem upto_yield (H c1 c2 c3 c4 : Nat) (C : Nat → Prop) (hC1 : C c1) (hC2 : C c2) (hC3 : C c3) (hC4 : C c4) (t : Nat) (ht : t < 65536) (x1 x2 x3 x4 : List Value) (nk vk : Int) (na va : Option Addr) (nl ncp vl vcp : Nat) (v1 v2 v3 v4 : Value) (w : World) (c5 : Nat) (lim : Int) (h5H : c5 < H) (h5C : ¬ C c5) (h5c : w.cell? ⟨c5, 0, none⟩ = some (.int .i64 lim))
    (h4 : Four H c1 c2 c3 c4 v1 v2 v3 v4 t t t t x1 x2 x3 x4 w) :
    Calls Try.prog 24 #[.agg #[.int .i64 nk, .slice na nl ncp, .pointer none], .agg #[.int .i64 vk, .slice va vl vcp, .pointer none], .pointer (some ⟨c1, 0, none⟩), .pointer (some ⟨c2, 0, none⟩), .pointer (some ⟨c3, 0, none⟩), .pointer (some ⟨c4, 0, none⟩), .pointer (some ⟨c5, 0, none⟩)] w fun e w' =>
      e = .returned (.bool (decide ((t : Int) + 1 < lim))) ∧ ∃ v1 v2 v3 v4, Four H c1 c2 c3 c4 v1 v2 v3 v4 (t + 1) (t + 1) (t + 1) (t + 1) (x1 ++ [.slice na nl ncp]) (x2 ++ [.int .i64 nk]) (x3 ++ [.slice va vl vcp]) (x4 ++ [.int .i64 vk]) w' ∧ Kp H C w w' ∧ K50 w w' := by
  obtain ⟨i22, hi22, hz0, hz1, hz2⟩ := info_parts info22
  obtain ⟨i40, hi40, hy0, hy1, hy2⟩ := info_parts info40
  have hm1 : t + 1 ≤ maxLen := by unfold maxLen; omega
  have hm2 : (t + 1) * 24 ≤ 140737488355328 := by omega
  have hm3 : (t + 1) * 8 ≤ 140737488355328 := by omega
  have HM0 := hide (mid_start (C := C) (X := #[.int .i64 nk, .slice na nl ncp, .pointer none]) (Y := #[.int .i64 vk, .slice va vl vcp, .pointer none]) h4)
  have HC5 := hide (And.intro h5H (And.intro h5C h5c))
  clear h4 h5H h5C h5c
  go_enter Try.func24, Try.ntmps24
  go_upto_region 1 with fail
  go_cut [] from 10 (fun wc => Mid H c1 c2 c3 c4 C #[.int .i64 nk, .slice na nl ncp, .pointer none] #[.int .i64 vk, .slice va vl vcp, .pointer none] (t + 1) t t t (x1 ++ [.slice na nl ncp]) x2 x3 x4 w wc)
  case first =>
    have hcut := HM0.out
    obtain ⟨v1, v2, v3, v4, hF, hX, hY, hK, h5⟩ := hcut
    clear HM0
    obtain ⟨wc, hwc⟩ : ∃ wc, wc = (w.alloc (.cells #[.int .i64 nk, .slice na nl ncp, .pointer none] 50)).alloc (.cells #[.int .i64 vk, .slice va vl vcp, .pointer none] 50) := ⟨_, rfl⟩
    rw [← hwc] at hF hX hY hK h5 ⊢
    clear hwc
    have hs := hF.2.2.2
    have hcc := cell_of_one hF.1.1.1
    have hcl : c1 < wc.heap.size := by have := hF.1.1.2.2; omega
    have hnl := lt_of_block hX
    have hvl := lt_of_block hY
    have h3 := three_cells hX
    have hA : ∀ o, (wc.alloc o).ownsRow H 22 1 v1 t x1 := fun o => hF.1.1.2.1.alloc o
    have HA := hide hA
    have HF := hide hF; have HXY := hide (And.intro hX (And.intro hY (And.intro hK h5)))
    obtain ⟨h30, h31, h32⟩ := h3
    clear hA hF hX hY hK h5
    go_wp2_with (at_builtin; refine wpList_append_lies _ rfl (.tmp 10) (.tmp 13) 36 rfl H 22 i22 _ 1 24 Try.underlying36 hi22 hz0 hz1 hz2 rfl (by decide) _ _ _ rfl (HA.out _) ⟨wc.heap.size, 0, none⟩ 1 1 [.slice na nl ncp] rfl rfl (cell_one_new _ _ _) (one_slice _ _ _) (by decide) hm1 hm2 (le_alloc hs _) _ rfl ?_; intro g cp W1 ho hg ha _; obtain ⟨hq1, hq2⟩ := var_cell (HF.out.1.1) hs hg; have HO := hide ho; have HG := hide hg; have HAA := hide ha; clear ho hg ha)
    go_meet
    case rel =>
      have hF2 := four_push1 HF.out HO.out HG.out (lies_at HAA.out)
      exact mid_step HXY.out.1 HXY.out.2.1 HXY.out.2.2.1 HXY.out.2.2.2 hF2 (kp_push HF.out.1.1 hs hC1 HG.out _) (k50_push HF.out.1.1 (by decide) (by decide) HG.out _)
  case rest =>
    go_upto_region 2 with fail
    go_cut [] from 10 (fun wc => Mid H c1 c2 c3 c4 C #[.int .i64 nk, .slice na nl ncp, .pointer none] #[.int .i64 vk, .slice va vl vcp, .pointer none] (t + 1) (t + 1) t t (x1 ++ [.slice na nl ncp]) (x2 ++ [.int .i64 nk]) x3 x4 w wc)
    case first =>
      obtain ⟨v1, v2, v3, v4, hF, hX, hY, hK, h5⟩ := hcut
      have hs := hF.2.2.2
      have hcc := cell_of_one hF.1.2.1.1
      have hcl : c2 < wc.heap.size := by have := hF.1.2.1.2.2; omega
      have hnl := lt_of_block hX
      have hvl := lt_of_block hY
      have h3 := three_cells hX
      have hA : ∀ o, (wc.alloc o).ownsRow H 40 1 v2 t x2 := fun o => hF.1.2.1.2.1.alloc o
      have HA := hide hA
      have HF := hide hF; have HXY := hide (And.intro hX (And.intro hY (And.intro hK h5)))
      obtain ⟨h30, h31, h32⟩ := h3
      clear hA hF hX hY hK h5
      go_wp2_with (at_builtin; refine wpList_append_lies _ rfl (.tmp 15) (.tmp 18) 37 rfl H 40 i40 _ 1 8 Try.underlying37 hi40 hy0 hy1 hy2 rfl (by decide) _ _ _ rfl (HA.out _) ⟨wc.heap.size, 0, none⟩ 1 1 [.int .i64 nk] rfl rfl (cell_one_new _ _ _) (one_one _) (by decide) hm1 hm3 (le_alloc hs _) _ rfl ?_; intro g cp W1 ho hg ha _; obtain ⟨hq1, hq2⟩ := var_cell (HF.out.1.2.1) hs hg; have HO := hide ho; have HG := hide hg; have HAA := hide ha; clear ho hg ha)
      go_meet
      case rel =>
        have hF2 := four_push2 HF.out HO.out HG.out (lies_at HAA.out)
        exact mid_step HXY.out.1 HXY.out.2.1 HXY.out.2.2.1 HXY.out.2.2.2 hF2 (kp_push HF.out.1.2.1 hs hC2 HG.out _) (k50_push HF.out.1.2.1 (by decide) (by decide) HG.out _)
    case rest =>
      go_upto_region 3 with fail
      go_cut [] from 10 (fun wc => Mid H c1 c2 c3 c4 C #[.int .i64 nk, .slice na nl ncp, .pointer none] #[.int .i64 vk, .slice va vl vcp, .pointer none] (t + 1) (t + 1) (t + 1) t (x1 ++ [.slice na nl ncp]) (x2 ++ [.int .i64 nk]) (x3 ++ [.slice va vl vcp]) x4 w wc)
      case first =>
        obtain ⟨v1, v2, v3, v4, hF, hX, hY, hK, h5⟩ := hcut
        have hs := hF.2.2.2
        have hcc := cell_of_one hF.1.2.2.1.1
        have hcl : c3 < wc.heap.size := by have := hF.1.2.2.1.2.2; omega
        have hnl := lt_of_block hX
        have hvl := lt_of_block hY
        have h3 := three_cells hY
        have hA : ∀ o, (wc.alloc o).ownsRow H 22 1 v3 t x3 := fun o => hF.1.2.2.1.2.1.alloc o
        have HA := hide hA
        have HF := hide hF; have HXY := hide (And.intro hX (And.intro hY (And.intro hK h5)))
        obtain ⟨h30, h31, h32⟩ := h3
        clear hA hF hX hY hK h5
        go_wp2_with (at_builtin; refine wpList_append_lies _ rfl (.tmp 20) (.tmp 23) 36 rfl H 22 i22 _ 1 24 Try.underlying36 hi22 hz0 hz1 hz2 rfl (by decide) _ _ _ rfl (HA.out _) ⟨wc.heap.size, 0, none⟩ 1 1 [.slice va vl vcp] rfl rfl (cell_one_new _ _ _) (one_slice _ _ _) (by decide) hm1 hm2 (le_alloc hs _) _ rfl ?_; intro g cp W1 ho hg ha _; obtain ⟨hq1, hq2⟩ := var_cell (HF.out.1.2.2.1) hs hg; have HO := hide ho; have HG := hide hg; have HAA := hide ha; clear ho hg ha)
        go_meet
        case rel =>
          have hF2 := four_push3 HF.out HO.out HG.out (lies_at HAA.out)
          exact mid_step HXY.out.1 HXY.out.2.1 HXY.out.2.2.1 HXY.out.2.2.2 hF2 (kp_push HF.out.1.2.2.1 hs hC3 HG.out _) (k50_push HF.out.1.2.2.1 (by decide) (by decide) HG.out _)
      case rest =>
        go_upto_region 4 with fail
        go_cut [] from 10 (fun wc => Mid H c1 c2 c3 c4 C #[.int .i64 nk, .slice na nl ncp, .pointer none] #[.int .i64 vk, .slice va vl vcp, .pointer none] (t + 1) (t + 1) (t + 1) (t + 1) (x1 ++ [.slice na nl ncp]) (x2 ++ [.int .i64 nk]) (x3 ++ [.slice va vl vcp]) (x4 ++ [.int .i64 vk]) w wc)
        case first =>
          obtain ⟨v1, v2, v3, v4, hF, hX, hY, hK, h5⟩ := hcut
          have hs := hF.2.2.2
          have hcc := cell_of_one hF.1.2.2.2.1
          have hcl : c4 < wc.heap.size := by have := hF.1.2.2.2.2.2; omega
          have hnl := lt_of_block hX
          have hvl := lt_of_block hY
          have h3 := three_cells hY
          have hA : ∀ o, (wc.alloc o).ownsRow H 40 1 v4 t x4 := fun o => hF.1.2.2.2.2.1.alloc o
          have HA := hide hA
          have HF := hide hF; have HXY := hide (And.intro hX (And.intro hY (And.intro hK h5)))
          obtain ⟨h30, h31, h32⟩ := h3
          clear hA hF hX hY hK h5
          go_wp2_with (at_builtin; refine wpList_append_lies _ rfl (.tmp 25) (.tmp 28) 37 rfl H 40 i40 _ 1 8 Try.underlying37 hi40 hy0 hy1 hy2 rfl (by decide) _ _ _ rfl (HA.out _) ⟨wc.heap.size, 0, none⟩ 1 1 [.int .i64 vk] rfl rfl (cell_one_new _ _ _) (one_one _) (by decide) hm1 hm3 (le_alloc hs _) _ rfl ?_; intro g cp W1 ho hg ha _; obtain ⟨hq1, hq2⟩ := var_cell (HF.out.1.2.2.2) hs hg; have HO := hide ho; have HG := hide hg; have HAA := hide ha; clear ho hg ha)
          go_meet
          case rel =>
            have hF2 := four_push4 HF.out HO.out HG.out (lies_at HAA.out)
            exact mid_step HXY.out.1 HXY.out.2.1 HXY.out.2.2.1 HXY.out.2.2.2 hF2 (kp_push HF.out.1.2.2.2 hs hC4 HG.out _) (k50_push HF.out.1.2.2.2 (by decide) (by decide) HG.out _)
        case rest =>
          obtain ⟨v1, v2, v3, v4, hF, hX, hY, hK, h5⟩ := hcut
          have hc5 := (kp_cell hK (p := ⟨c5, 0, none⟩) HC5.out.1 HC5.out.2.1).trans HC5.out.2.2
          have hcv := cell_of_one hF.1.2.2.1.1
          obtain ⟨a3, d3, hv3⟩ := own_form' hF.1.2.2.1.2.1
          rw [hv3] at hcv
          have HF := hide (And.intro hF (And.intro hK h5))
          clear hF hX hY hK h5 hv3
          go_wp2_with fail
          go_ret
          exact ⟨ret_bool (by go_num), v1, v2, v3, v4, HF.out.1, HF.out.2.1, HF.out.2.2⟩

/-- Len's closure: it counts. -/
theorem len_yield (c t : Nat) (ht : t < 65536) (nk vk : Int) (na va : Option Addr) (nl ncp vl vcp : Nat) (w : World) (hc : w.heap[c]? = some (Obj.cells #[.int .i64 (t : Int)] 3 (0, 0))) :
    Calls Try.prog 35 #[.agg #[.int .i64 nk, .slice na nl ncp, .pointer none], .agg #[.int .i64 vk, .slice va vl vcp, .pointer none], .pointer (some ⟨c, 0, none⟩)] w fun e w' =>
      e = .returned (.bool true) ∧ w' = ((w.setCell ⟨c, 0, none⟩ (.int .i64 ((t : Int) + 1))).alloc (.cells #[.int .i64 nk, .slice na nl ncp, .pointer none] 50)).alloc (.cells #[.int .i64 vk, .slice va vl vcp, .pointer none] 50) := by
  have q1 := cell_of_one hc
  have q2 := free_of_one hc
  have q3 : c < w.heap.size := lt_of_block hc
  have q4 : c < w.heap.size + 1 := by omega
  clear hc
  go_enter Try.func35, Try.ntmps35
  go_wp2
  go_ret
  exact ⟨rfl, rfl⟩

/-- What the count's variable holds. -/
def InvLen (c H t : Nat) (w : World) : Prop := w.heap[c]? = some (Obj.cells #[.int .i64 (t : Int)] 3 (0, 0)) ∧ c < H ∧ H ≤ w.heap.size
theorem invLen_below {c H t : Nat} {w w' : World} (h : InvLen c H t w) (hb : Below w.heap.size w w') : InvLen c H t w' :=
  ⟨by rw [hb.block c (lt_of_block h.1)]; exact h.1, h.2.1, Nat.le_trans h.2.2 hb.size⟩
theorem len_step {c H t : Nat} {w : World} {X Y : Obj} (h : InvLen c H t w) :
    InvLen c H (t + 1) (((w.setCell ⟨c, 0, none⟩ (.int .i64 ((t : Int) + 1))).alloc X).alloc Y) ∧ Kp H (fun k => k = c) w (((w.setCell ⟨c, 0, none⟩ (.int .i64 ((t : Int) + 1))).alloc X).alloc Y) ∧ K50 w (((w.setCell ⟨c, 0, none⟩ (.int .i64 ((t : Int) + 1))).alloc X).alloc Y) := by
  have hc := lt_of_block h.1
  have old : ∀ k, k < w.heap.size → (((w.setCell ⟨c, 0, none⟩ (.int .i64 ((t : Int) + 1))).alloc X).alloc Y).heap[k]? = (w.setCell ⟨c, 0, none⟩ (.int .i64 ((t : Int) + 1))).heap[k]? := fun k hk => by
    rw [Below.heap_alloc _ _ _ (by simp; omega), Below.heap_alloc _ _ _ (by simpa using hk)]
  refine ⟨⟨?_, h.2.1, ?_⟩, ⟨rfl, rfl, rfl, ?_, fun k hk hn => ?_⟩, fun k cs fr hk => ?_⟩
  · rw [old c hc, one_setCell h.1]; rfl
  · have := h.2.2; simp; omega
  · simp; omega
  · rw [old k (by have := h.2.2; omega)]; exact Below.heap_setCell w _ _ k hn
  · have hkc : k ≠ c := fun e => by rw [e, h.1] at hk; simp at hk
    rw [old k (lt_of_block hk), Below.heap_setCell w _ _ k hkc]
    exact hk
end Go.Proofs.Qxb6603514a.Js
