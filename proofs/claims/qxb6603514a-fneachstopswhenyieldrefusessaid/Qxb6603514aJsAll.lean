import Derived.Test.Qxb6603514aJsVars
import Derived.Deep.Cut
import Derived.Deep.AppendLies
namespace Go.Proofs.Qxb6603514a.Js
open Go.RowKit
set_option linter.unusedVariables false

/-- Where a closure stands between two of its statements. -/
def Mid (H c1 c2 c3 c4 : Nat) (C : Nat → Prop) (X Y : Array Value) (n1 n2 n3 n4 : Nat) (x1 x2 x3 x4 : List Value) (w wc : World) : Prop :=
  ∃ v1 v2 v3 v4, Four H c1 c2 c3 c4 v1 v2 v3 v4 n1 n2 n3 n4 x1 x2 x3 x4 wc ∧ wc.heap[w.heap.size]? = some (Obj.cells X 50 (0, 0)) ∧ wc.heap[w.heap.size + 1]? = some (Obj.cells Y 50 (0, 0)) ∧ Kp H C w wc ∧ K50 w wc
theorem mid_start {H c1 c2 c3 c4 : Nat} {C : Nat → Prop} {X Y : Array Value} {v1 v2 v3 v4 : Value} {n1 n2 n3 n4 : Nat} {x1 x2 x3 x4 : List Value} {w : World} (h : Four H c1 c2 c3 c4 v1 v2 v3 v4 n1 n2 n3 n4 x1 x2 x3 x4 w) :
    Mid H c1 c2 c3 c4 C X Y n1 n2 n3 n4 x1 x2 x3 x4 w ((w.alloc (.cells X 50)).alloc (.cells Y 50)) := by
  have hb : Below w.heap.size w ((w.alloc (.cells X 50)).alloc (.cells Y 50)) := (((Below.refl _ _).alloc (Nat.le_refl _) _).alloc (by simp) _)
  refine ⟨v1, v2, v3, v4, four_below h hb, ?_, ?_, kp_below hb h.2.2.2, k50_below hb⟩
  · rw [Below.heap_alloc _ _ _ (by simp)]; exact heap_alloc_new w _
  · have := heap_alloc_new (w.alloc (.cells X 50)) (.cells Y 50)
    simpa using this
theorem mid_step {H c1 c2 c3 c4 : Nat} {C : Nat → Prop} {X Y : Array Value} {v1 v2 v3 v4 : Value} {n1 n2 n3 n4 : Nat} {x1 x2 x3 x4 : List Value} {w wc W2 : World} (hX : wc.heap[w.heap.size]? = some (Obj.cells X 50 (0, 0))) (hY : wc.heap[w.heap.size + 1]? = some (Obj.cells Y 50 (0, 0))) (hk : Kp H C w wc) (h5 : K50 w wc)
    (h : Four H c1 c2 c3 c4 v1 v2 v3 v4 n1 n2 n3 n4 x1 x2 x3 x4 W2) (hk' : Kp H C wc W2) (h5' : K50 wc W2) : Mid H c1 c2 c3 c4 C X Y n1 n2 n3 n4 x1 x2 x3 x4 w W2 :=
  ⟨v1, v2, v3, v4, h, h5' _ _ _ hX, h5' _ _ _ hY, hk.trans' hk', h5.trans' h5'⟩

theorem lies_at {v : Value} {g n cap K : Nat} (h : v.ownBlock = some g ∨ g = K) : (Value.slice (some ⟨g, 0, none⟩) n cap).ownBlock = v.ownBlock ∨ (Value.slice (some ⟨g, 0, none⟩) n cap).ownBlock = some K := by
  rcases h with h | h
  · exact .inl h.symm
  · exact .inr (by rw [h]; rfl)

set_option maxRecDepth 100000 in
set_option maxHeartbeats 3200000 in
theorem all_yield (H c1 c2 c3 c4 : Nat) (C : Nat → Prop) (hC1 : C c1) (hC2 : C c2) (hC3 : C c3) (hC4 : C c4) (t : Nat) (ht : t < 65536) (x1 x2 x3 x4 : List Value) (nk vk : Int) (na va : Option Addr) (nl ncp vl vcp : Nat) (v1 v2 v3 v4 : Value) (w : World)
    (h4 : Four H c1 c2 c3 c4 v1 v2 v3 v4 t t t t x1 x2 x3 x4 w) :
    Calls Try.prog 22 #[.agg #[.int .i64 nk, .slice na nl ncp, .pointer none], .agg #[.int .i64 vk, .slice va vl vcp, .pointer none], .pointer (some ⟨c1, 0, none⟩), .pointer (some ⟨c2, 0, none⟩), .pointer (some ⟨c3, 0, none⟩), .pointer (some ⟨c4, 0, none⟩)] w fun e w' =>
      e = .returned (.bool true) ∧ ∃ v1 v2 v3 v4, Four H c1 c2 c3 c4 v1 v2 v3 v4 (t + 1) (t + 1) (t + 1) (t + 1) (x1 ++ [.slice na nl ncp]) (x2 ++ [.int .i64 nk]) (x3 ++ [.slice va vl vcp]) (x4 ++ [.int .i64 vk]) w' ∧ Kp H C w w' ∧ K50 w w' := by
  obtain ⟨i22, hi22, hz0, hz1, hz2⟩ := info_parts info22
  obtain ⟨i40, hi40, hy0, hy1, hy2⟩ := info_parts info40
  have hm1 : t + 1 ≤ maxLen := by unfold maxLen; omega
  have hm2 : (t + 1) * 24 ≤ 140737488355328 := by omega
  have hm3 : (t + 1) * 8 ≤ 140737488355328 := by omega
  have HM0 := hide (mid_start (C := C) (X := #[.int .i64 nk, .slice na nl ncp, .pointer none]) (Y := #[.int .i64 vk, .slice va vl vcp, .pointer none]) h4)
  clear h4
  go_enter Try.func22, Try.ntmps22
  go_upto_region 1 with fail
  go_cut [] from 9 (fun wc => Mid H c1 c2 c3 c4 C #[.int .i64 nk, .slice na nl ncp, .pointer none] #[.int .i64 vk, .slice va vl vcp, .pointer none] (t + 1) t t t (x1 ++ [.slice na nl ncp]) x2 x3 x4 w wc)
  case first =>
    have hcut := HM0.out
    obtain ⟨v1, v2, v3, v4, hF, hX, hY, hK, h5⟩ := hcut
    clear HM0
    obtain ⟨wc, hwc⟩ : ∃ wc, wc = (w.alloc (.cells #[.int .i64 nk, .slice na nl ncp, .pointer none] 50)).alloc (.cells #[.int .i64 vk, .slice va vl vcp, .pointer none] 50) := ⟨_, rfl⟩
    rw [← hwc] at hF hX hY hK h5 ⊢
    clear hwc
    have hs := hF.2.2.2
    have hcc := cell_of_one hF.1.1.1
    have hcl : c1 < wc.heap.size := by have := hF.1.1.2.2; omega
    have hnl := lt_of_block hX
    have hvl := lt_of_block hY
    have h3 := three_cells hX
    have hA : ∀ o, (wc.alloc o).ownsRow H 22 1 v1 t x1 := fun o => hF.1.1.2.1.alloc o
    have HA := hide hA
    have HF := hide hF; have HXY := hide (And.intro hX (And.intro hY (And.intro hK h5)))
    obtain ⟨h30, h31, h32⟩ := h3
    clear hA hF hX hY hK h5
    go_wp2_with (at_builtin; refine wpList_append_lies _ rfl (.tmp 9) (.tmp 12) 36 rfl H 22 i22 _ 1 24 Try.underlying36 hi22 hz0 hz1 hz2 rfl (by decide) _ _ _ rfl (HA.out _) ⟨wc.heap.size, 0, none⟩ 1 1 [.slice na nl ncp] rfl rfl (cell_one_new _ _ _) (one_slice _ _ _) (by decide) hm1 hm2 (le_alloc hs _) _ rfl ?_; intro g cp W1 ho hg ha _; obtain ⟨hq1, hq2⟩ := var_cell (HF.out.1.1) hs hg; have HO := hide ho; have HG := hide hg; have HAA := hide ha; clear ho hg ha)
    go_meet
    case rel =>
      have hF2 := four_push1 HF.out HO.out HG.out (lies_at HAA.out)
      exact mid_step HXY.out.1 HXY.out.2.1 HXY.out.2.2.1 HXY.out.2.2.2 hF2 (kp_push HF.out.1.1 hs hC1 HG.out _) (k50_push HF.out.1.1 (by decide) (by decide) HG.out _)
  case rest =>
    go_upto_region 2 with fail
    go_cut [] from 9 (fun wc => Mid H c1 c2 c3 c4 C #[.int .i64 nk, .slice na nl ncp, .pointer none] #[.int .i64 vk, .slice va vl vcp, .pointer none] (t + 1) (t + 1) t t (x1 ++ [.slice na nl ncp]) (x2 ++ [.int .i64 nk]) x3 x4 w wc)
    case first =>
      obtain ⟨v1, v2, v3, v4, hF, hX, hY, hK, h5⟩ := hcut
      have hs := hF.2.2.2
      have hcc := cell_of_one hF.1.2.1.1
      have hcl : c2 < wc.heap.size := by have := hF.1.2.1.2.2; omega
      have hnl := lt_of_block hX
      have hvl := lt_of_block hY
      have h3 := three_cells hX
      have hA : ∀ o, (wc.alloc o).ownsRow H 40 1 v2 t x2 := fun o => hF.1.2.1.2.1.alloc o
      have HA := hide hA
      have HF := hide hF; have HXY := hide (And.intro hX (And.intro hY (And.intro hK h5)))
      obtain ⟨h30, h31, h32⟩ := h3
      clear hA hF hX hY hK h5
      go_wp2_with (at_builtin; refine wpList_append_lies _ rfl (.tmp 14) (.tmp 17) 37 rfl H 40 i40 _ 1 8 Try.underlying37 hi40 hy0 hy1 hy2 rfl (by decide) _ _ _ rfl (HA.out _) ⟨wc.heap.size, 0, none⟩ 1 1 [.int .i64 nk] rfl rfl (cell_one_new _ _ _) (one_one _) (by decide) hm1 hm3 (le_alloc hs _) _ rfl ?_; intro g cp W1 ho hg ha _; obtain ⟨hq1, hq2⟩ := var_cell (HF.out.1.2.1) hs hg; have HO := hide ho; have HG := hide hg; have HAA := hide ha; clear ho hg ha)
      go_meet
      case rel =>
        have hF2 := four_push2 HF.out HO.out HG.out (lies_at HAA.out)
        exact mid_step HXY.out.1 HXY.out.2.1 HXY.out.2.2.1 HXY.out.2.2.2 hF2 (kp_push HF.out.1.2.1 hs hC2 HG.out _) (k50_push HF.out.1.2.1 (by decide) (by decide) HG.out _)
    case rest =>
      go_upto_region 3 with fail
      go_cut [] from 9 (fun wc => Mid H c1 c2 c3 c4 C #[.int .i64 nk, .slice na nl ncp, .pointer none] #[.int .i64 vk, .slice va vl vcp, .pointer none] (t + 1) (t + 1) (t + 1) t (x1 ++ [.slice na nl ncp]) (x2 ++ [.int .i64 nk]) (x3 ++ [.slice va vl vcp]) x4 w wc)
      case first =>
        obtain ⟨v1, v2, v3, v4, hF, hX, hY, hK, h5⟩ := hcut
        have hs := hF.2.2.2
        have hcc := cell_of_one hF.1.2.2.1.1
        have hcl : c3 < wc.heap.size := by have := hF.1.2.2.1.2.2; omega
        have hnl := lt_of_block hX
        have hvl := lt_of_block hY
        have h3 := three_cells hY
        have hA : ∀ o, (wc.alloc o).ownsRow H 22 1 v3 t x3 := fun o => hF.1.2.2.1.2.1.alloc o
        have HA := hide hA
        have HF := hide hF; have HXY := hide (And.intro hX (And.intro hY (And.intro hK h5)))
        obtain ⟨h30, h31, h32⟩ := h3
        clear hA hF hX hY hK h5
        go_wp2_with (at_builtin; refine wpList_append_lies _ rfl (.tmp 19) (.tmp 22) 36 rfl H 22 i22 _ 1 24 Try.underlying36 hi22 hz0 hz1 hz2 rfl (by decide) _ _ _ rfl (HA.out _) ⟨wc.heap.size, 0, none⟩ 1 1 [.slice va vl vcp] rfl rfl (cell_one_new _ _ _) (one_slice _ _ _) (by decide) hm1 hm2 (le_alloc hs _) _ rfl ?_; intro g cp W1 ho hg ha _; obtain ⟨hq1, hq2⟩ := var_cell (HF.out.1.2.2.1) hs hg; have HO := hide ho; have HG := hide hg; have HAA := hide ha; clear ho hg ha)
        go_meet
        case rel =>
          have hF2 := four_push3 HF.out HO.out HG.out (lies_at HAA.out)
          exact mid_step HXY.out.1 HXY.out.2.1 HXY.out.2.2.1 HXY.out.2.2.2 hF2 (kp_push HF.out.1.2.2.1 hs hC3 HG.out _) (k50_push HF.out.1.2.2.1 (by decide) (by decide) HG.out _)
      case rest =>
        go_upto_region 4 with fail
        go_cut [] from 9 (fun wc => Mid H c1 c2 c3 c4 C #[.int .i64 nk, .slice na nl ncp, .pointer none] #[.int .i64 vk, .slice va vl vcp, .pointer none] (t + 1) (t + 1) (t + 1) (t + 1) (x1 ++ [.slice na nl ncp]) (x2 ++ [.int .i64 nk]) (x3 ++ [.slice va vl vcp]) (x4 ++ [.int .i64 vk]) w wc)
        case first =>
          obtain ⟨v1, v2, v3, v4, hF, hX, hY, hK, h5⟩ := hcut
          have hs := hF.2.2.2
          have hcc := cell_of_one hF.1.2.2.2.1
          have hcl : c4 < wc.heap.size := by have := hF.1.2.2.2.2.2; omega
          have hnl := lt_of_block hX
          have hvl := lt_of_block hY
          have h3 := three_cells hY
          have hA : ∀ o, (wc.alloc o).ownsRow H 40 1 v4 t x4 := fun o => hF.1.2.2.2.2.1.alloc o
          have HA := hide hA
          have HF := hide hF; have HXY := hide (And.intro hX (And.intro hY (And.intro hK h5)))
          obtain ⟨h30, h31, h32⟩ := h3
          clear hA hF hX hY hK h5
          go_wp2_with (at_builtin; refine wpList_append_lies _ rfl (.tmp 24) (.tmp 27) 37 rfl H 40 i40 _ 1 8 Try.underlying37 hi40 hy0 hy1 hy2 rfl (by decide) _ _ _ rfl (HA.out _) ⟨wc.heap.size, 0, none⟩ 1 1 [.int .i64 vk] rfl rfl (cell_one_new _ _ _) (one_one _) (by decide) hm1 hm3 (le_alloc hs _) _ rfl ?_; intro g cp W1 ho hg ha _; obtain ⟨hq1, hq2⟩ := var_cell (HF.out.1.2.2.2) hs hg; have HO := hide ho; have HG := hide hg; have HAA := hide ha; clear ho hg ha)
          go_meet
          case rel =>
            have hF2 := four_push4 HF.out HO.out HG.out (lies_at HAA.out)
            exact mid_step HXY.out.1 HXY.out.2.1 HXY.out.2.2.1 HXY.out.2.2.2 hF2 (kp_push HF.out.1.2.2.2 hs hC4 HG.out _) (k50_push HF.out.1.2.2.2 (by decide) (by decide) HG.out _)
        case rest =>
          obtain ⟨v1, v2, v3, v4, hF, hX, hY, hK, h5⟩ := hcut
          have HF := hide (And.intro hF (And.intro hK h5))
          clear hF hX hY hK h5
          go_wp2_with fail
          go_ret
          exact ⟨rfl, v1, v2, v3, v4, HF.out.1, HF.out.2.1, HF.out.2.2⟩
end Go.Proofs.Qxb6603514a.Js
