import Derived.Test.Qxb6603514aJsTri
import Derived.Deep.RegionWith
namespace Go.Proofs.Qxb6603514a.Js
open Go.RowKit
set_option linter.unusedVariables false

def ContAt (b o n cap : Nat) (B : Nat → Int) (i : Nat) : Prop :=
  ∀ w, Row w b o n B → Calls Try.prog 19 #[.slice (some ⟨b, o, none⟩) n cap, .int .i64 (i : Int)] w fun e w' => ContOut B n i w e w'

/-- The skip's arm in a walk over whatever world. -/
theorem skip_at {w w' : World} {b o n B0 : Nat} {B : Nat → Int} (cap i : Nat) (hr : Row w b o n B) (hlt : b < B0) (hb : Below B0 w w') (hn : n ≤ 65536) (hi : i ≤ 70000) :
    Calls Try.prog 26 #[.slice (some ⟨b, o, none⟩) n cap, .int .i64 (i : Int)] w' fun e w'' => e = .returned (.int .i64 (sk B n i : Int)) ∧ w'' = w' :=
  skip_any w' b o n cap i B (row_below hr hlt hb) hn hi

def arrMem (k ve : Nat) (kd : Int) : Mem := { s := k, ne := 0, vs := k, ve := ve, k := kd }
theorem arrMem_ok {B : Nat → Int} {n k ve : Nat} {kd : Int} (h : GoodVal B n k ve kd) : MemOK B n false (arrMem k ve kd) := ⟨.inr ⟨rfl, rfl⟩, h⟩

theorem arr_lists {ms : List Mem} {k ve base : Nat} {kd : Int} {vn v2 v3 : Value} {w : World}
    (h : Tri base vn 0 [] v2 (ms.length + 1) (spans Mem.vs Mem.ve ms ++ [.int .i64 (k : Int), .int .i64 (ve : Int)]) v3 (ms.length + 1) (kinds ms ++ [.int .i64 kd]) w) :
    Tri base vn 0 [] v2 (ms ++ [arrMem k ve kd]).length (spans Mem.vs Mem.ve (ms ++ [arrMem k ve kd])) v3 (ms ++ [arrMem k ve kd]).length (kinds (ms ++ [arrMem k ve kd])) w := by
  rw [spans_snoc, kinds_snoc, List.length_append]
  exact h

set_option maxRecDepth 100000 in
set_option maxHeartbeats 3200000 in
theorem arr_step (b o n cap : Nat) (B : Nat → Int) (hn : n ≤ 65536) (i : Nat) (hi : i < n) (hb : B i = 91)
    (ih : ∀ j, i < j → j < n → (B j = 91 ∨ B j = 123) → ContAt b o n cap B j) : ContAt b o n cap B i := by
  intro w hr
  have hc0 := hr i hi
  have hblt : b < w.heap.size := World.block_lt_of_cell? w _ hc0
  have HI := hide ih; clear ih
  have HB := hide hb
  have hsk1 := le_sk B n (i + 1)
  have hsk2 := sk_le B n (i := i + 1) (by omega)
  by_cases hcl : sk B n (i + 1) < n ∧ B (sk B n (i + 1)) = 93
  · obtain ⟨hj, hcl⟩ := hcl
    have HC := hide hcl
    have hc1 := hr _ hj
    go_enter Try.func19, Try.ntmps19
    go_wp2_with (go_at_call 26; refine (skip_any _ b o n cap (i + 1) B hr hn (by omega)).mono ?_; rintro e w ⟨rfl, rfl⟩)
    refine bodyPost_ret (v := .tuple #[.int .i64 ((sk B n (i + 1) : Int) + 1), .slice none 0 0, .slice none 0 0, .slice none 0 0, .bool true]) (by simp [results, Try.results19, go_sem]) rfl ?_
    exact contOut_yes (Below.refl _ _) false [] (sk B n (i + 1) + 1) _ (by omega) HB.out ⟨hj, HC.out, rfl⟩ ⟨fun h => by simp at h, World.ownsRow_nil _ _ _ _, World.ownsRow_nil _ _ _ _⟩
  · obtain ⟨i55, hi55, hz0, hz1, hz2⟩ := info_parts info55
    obtain ⟨i3, hi3, hy0, hy1, hy2⟩ := info_parts info3
    have hc1 : sk B n (i + 1) < n → w.cell? ⟨b, o + sk B n (i + 1), none⟩ = some (.int .u8 (B (sk B n (i + 1)))) := fun h => hr _ h
    have hcl' : sk B n (i + 1) < n → (B (sk B n (i + 1)) == 93) = false := fun h => by simp; exact fun h' => hcl ⟨h, h'⟩
    clear hcl
    obtain ⟨a, ha⟩ : ∃ a, a = sk B n (i + 1) := ⟨_, rfl⟩
    rw [← ha] at hsk1 hsk2 hc1 hcl'
    have HA := hide ha; clear ha
    by_cases hj : a < n
    · have hc1 := hc1 hj
      have hcl' := hcl' hj
      go_enter Try.func19, Try.ntmps19
      go_wp2_with (go_at_call 26; refine (skip_any _ b o n cap (i + 1) B hr hn (by omega)).mono ?_; rintro e w ⟨rfl, rfl⟩; rw [← HA.out])
      clear hc1 hcl' hb hc0
      go_loopw [11, 12, 13, 14] (fun v11 v12 v13 v14 wr => ∃ (ms : List Mem) (k : Nat), Pre B n false a ms k ∧ k ≤ n ∧ v14 = .int .i64 k ∧ v11 = .slice none 0 0 ∧
          Tri w.heap.size v11 0 [] v12 ms.length (spans Mem.vs Mem.ve ms) v13 ms.length (kinds ms) wr ∧ Below w.heap.size w wr) (fun _ _ _ v14 _ => n - (intOf v14).toNat)
      case atStart => exact ⟨[], a, rfl, hsk2, rfl, rfl, tri_nil _ _, Below.refl _ _⟩
      case round =>
        obtain ⟨ms, k, hpre, hk, rfl, rfl, hT, hbw⟩ := hrel
        have hlen := pre_len B n false _ _ _ hpre
        have HP := hide hpre; clear hpre
        by_cases hkn : k < n
        · go_wp2_with fail
          refine (value_any _ b o n cap k B (row_below hr hblt hbw) hn (by omega) (fun h1 h2 => HI.out k (by omega) h1 h2 _ (row_below hr hblt hbw))).mono ?_
          rintro e w1 ⟨ve, kd, ok, rfl, hbl, hok⟩
          have hB1 : Below w.heap.size w w1 := hbw.trans (hbl.mono hbw.size)
          cases ok
          · clear hok
            go_wp2_with fail
            refine bodyPost_ret (v := .tuple #[.int .i64 0, .slice none 0 0, .slice none 0 0, .slice none 0 0, .bool false]) (by simp [results, Try.results19, go_sem]) rfl ?_
            exact contOut_no hB1
          · obtain ⟨ve', hve, hg⟩ := hok rfl
            have hT1 := tri_below hT hbl
            rw [hve]
            have hlt1 := hg.1
            have hlt2 := hg.2.1
            have hs1 := le_sk B n ve'
            have hs2 := sk_le B n hlt2
            have HG := hide hg
            clear hok hve hg hbl hT hbw
            obtain ⟨c, hc⟩ : ∃ c, c = sk B n ve' := ⟨_, rfl⟩
            rw [← hc] at hs1 hs2
            have HC := hide hc; clear hc
            have hsz := hB1.size
            have hm1 : ms.length + 1 ≤ maxLen := by unfold maxLen; omega
            have hm2 : (ms.length + 1) * 16 ≤ 140737488355328 := by omega
            have hm3 : (ms.length + 1) * 8 ≤ 140737488355328 := by omega
            by_cases hcn : c < n
            · by_cases h93 : B c = 93
              · have HD : Hid (Done B n false a (ms ++ [arrMem k ve' kd]) (c + 1)) := by
                  show Done B n false a (ms ++ [arrMem k ve' kd]) (c + 1)
                  have := pre_done B n false (arrMem k ve' kd) (arrMem_ok HG.out) (by show sk B n ve' < n; rw [← HC.out]; exact hcn) (by show B (sk B n ve') = _; rw [← HC.out]; exact h93) ms a HP.out
                  rw [HC.out]; exact this
                go_wp2_with (first
                | (at_builtin; refine wpList_append_own_at _ rfl (.tmp 94) (.tmp 98) 32 rfl w.heap.size 55 i55 _ 2 16 Try.underlying32 hi55 hz0 hz1 hz2 rfl (by decide) _ _ _ rfl (tri_alloc hT1 _).2.1 ⟨w1.heap.size, 0, none⟩ 1 1 [.int .i64 (k : Int), .int .i64 (ve' : Int)] rfl rfl (two_new _ _ _ _) (two_one _ _) hm1 hm2 (le_alloc hsz _) ?_; intro v2 w2 ho2 hg2 _ ha2; obtain ⟨hT2, hB2, hsz2⟩ := push2_at hT1 hB1 hsz ho2 hg2 ha2; clear ho2 hg2 ha2)
                | (at_builtin; refine wpList_append_own_at _ rfl (.tmp 100) (.tmp 102) 33 rfl w.heap.size 3 i3 _ 1 8 Try.underlying33 hi3 hy0 hy1 hy2 rfl (by decide) _ _ _ rfl (tri_alloc hT2 _).2.2.1 ⟨w2.heap.size, 0, none⟩ 1 1 [.int .i64 kd] rfl rfl (cell_one_new _ _ _) (one_one _) hm1 hm3 (le_alloc hsz2 _) ?_; intro v3 w3 ho3 hg3 _ ha3; obtain ⟨hT3, hB3, hsz3⟩ := push3_at hT2 hB2 hsz2 ho3 hg3 ha3; clear ho3 hg3 ha3 hT2)
                | (go_at_call_of 26 (Value.int IntKind.i64 (ve' : Int)); refine (skip_at cap ve' hr hblt hB3 hn (by omega)).mono ?_; rintro e w4 ⟨rfl, rfl⟩; rw [← HC.out]; have hcc := row_below hr hblt hB3 c hcn))
                refine bodyPost_ret (v := .tuple #[.int .i64 ((c : Int) + 1), .slice none 0 0, v2, v3, .bool true]) (by simp [results, Try.results19, go_sem]) rfl ?_
                refine contOut_yes hB3 false (ms ++ [arrMem k ve' kd]) (c + 1) _ (by omega) HB.out (by rw [← HA.out]; exact HD.out) ?_
                have hL := arr_lists hT3
                exact ⟨fun h => by simp at h, hL.2.1, hL.2.2.1⟩
              · have e93 : (B c == 93) = false := by simpa using h93
                by_cases h44 : B c = 44
                · have HP2 : Hid (Pre B n false a (ms ++ [arrMem k ve' kd]) (sk B n (c + 1))) := by
                    show Pre B n false a (ms ++ [arrMem k ve' kd]) (sk B n (c + 1))
                    have := pre_snoc B n false (arrMem k ve' kd) (arrMem_ok HG.out) (by show sk B n ve' < n; rw [← HC.out]; exact hcn) (by show B (sk B n ve') = _; rw [← HC.out]; exact h44) ms a HP.out
                    rw [HC.out]; exact this
                  have hs3 := le_sk B n (c + 1)
                  have hs4 := sk_le B n (i := c + 1) (by omega)
                  go_wp2_with (first
                | (at_builtin; refine wpList_append_own_at _ rfl (.tmp 94) (.tmp 98) 32 rfl w.heap.size 55 i55 _ 2 16 Try.underlying32 hi55 hz0 hz1 hz2 rfl (by decide) _ _ _ rfl (tri_alloc hT1 _).2.1 ⟨w1.heap.size, 0, none⟩ 1 1 [.int .i64 (k : Int), .int .i64 (ve' : Int)] rfl rfl (two_new _ _ _ _) (two_one _ _) hm1 hm2 (le_alloc hsz _) ?_; intro v2 w2 ho2 hg2 _ ha2; obtain ⟨hT2, hB2, hsz2⟩ := push2_at hT1 hB1 hsz ho2 hg2 ha2; clear ho2 hg2 ha2)
                | (at_builtin; refine wpList_append_own_at _ rfl (.tmp 100) (.tmp 102) 33 rfl w.heap.size 3 i3 _ 1 8 Try.underlying33 hi3 hy0 hy1 hy2 rfl (by decide) _ _ _ rfl (tri_alloc hT2 _).2.2.1 ⟨w2.heap.size, 0, none⟩ 1 1 [.int .i64 kd] rfl rfl (cell_one_new _ _ _) (one_one _) hm1 hm3 (le_alloc hsz2 _) ?_; intro v3 w3 ho3 hg3 _ ha3; obtain ⟨hT3, hB3, hsz3⟩ := push3_at hT2 hB2 hsz2 ho3 hg3 ha3; clear ho3 hg3 ha3 hT2)
                | (go_at_call_of 26 (Value.int IntKind.i64 (ve' : Int)); refine (skip_at cap ve' hr hblt hB3 hn (by omega)).mono ?_; rintro e w4 ⟨rfl, rfl⟩; rw [← HC.out]; have hcc := row_below hr hblt hB3 c hcn))
                  refine (skip_at cap (c + 1) hr hblt hB3 hn (by omega)).mono ?_
                  rintro e w5 ⟨rfl, rfl⟩
                  go_wp2_with fail
                  go_roundw
                  case rel => exact ⟨ms ++ [arrMem k ve' kd], sk B n (c + 1), HP2.out, hs4, rfl, rfl, arr_lists hT3, hB3⟩
                  case measure => simp [intOf]; omega
                · have e44 : (B c != 44) = true := by simpa using h44
                  go_wp2_with (first
                | (at_builtin; refine wpList_append_own_at _ rfl (.tmp 94) (.tmp 98) 32 rfl w.heap.size 55 i55 _ 2 16 Try.underlying32 hi55 hz0 hz1 hz2 rfl (by decide) _ _ _ rfl (tri_alloc hT1 _).2.1 ⟨w1.heap.size, 0, none⟩ 1 1 [.int .i64 (k : Int), .int .i64 (ve' : Int)] rfl rfl (two_new _ _ _ _) (two_one _ _) hm1 hm2 (le_alloc hsz _) ?_; intro v2 w2 ho2 hg2 _ ha2; obtain ⟨hT2, hB2, hsz2⟩ := push2_at hT1 hB1 hsz ho2 hg2 ha2; clear ho2 hg2 ha2)
                | (at_builtin; refine wpList_append_own_at _ rfl (.tmp 100) (.tmp 102) 33 rfl w.heap.size 3 i3 _ 1 8 Try.underlying33 hi3 hy0 hy1 hy2 rfl (by decide) _ _ _ rfl (tri_alloc hT2 _).2.2.1 ⟨w2.heap.size, 0, none⟩ 1 1 [.int .i64 kd] rfl rfl (cell_one_new _ _ _) (one_one _) hm1 hm3 (le_alloc hsz2 _) ?_; intro v3 w3 ho3 hg3 _ ha3; obtain ⟨hT3, hB3, hsz3⟩ := push3_at hT2 hB2 hsz2 ho3 hg3 ha3; clear ho3 hg3 ha3 hT2)
                | (go_at_call_of 26 (Value.int IntKind.i64 (ve' : Int)); refine (skip_at cap ve' hr hblt hB3 hn (by omega)).mono ?_; rintro e w4 ⟨rfl, rfl⟩; rw [← HC.out]; have hcc := row_below hr hblt hB3 c hcn))
                  refine bodyPost_ret (v := .tuple #[.int .i64 0, .slice none 0 0, .slice none 0 0, .slice none 0 0, .bool false]) (by simp [results, Try.results19, go_sem]) rfl ?_
                  exact contOut_no hB3
            · go_wp2_with (first
                | (at_builtin; refine wpList_append_own_at _ rfl (.tmp 94) (.tmp 98) 32 rfl w.heap.size 55 i55 _ 2 16 Try.underlying32 hi55 hz0 hz1 hz2 rfl (by decide) _ _ _ rfl (tri_alloc hT1 _).2.1 ⟨w1.heap.size, 0, none⟩ 1 1 [.int .i64 (k : Int), .int .i64 (ve' : Int)] rfl rfl (two_new _ _ _ _) (two_one _ _) hm1 hm2 (le_alloc hsz _) ?_; intro v2 w2 ho2 hg2 _ ha2; obtain ⟨hT2, hB2, hsz2⟩ := push2_at hT1 hB1 hsz ho2 hg2 ha2; clear ho2 hg2 ha2)
                | (at_builtin; refine wpList_append_own_at _ rfl (.tmp 100) (.tmp 102) 33 rfl w.heap.size 3 i3 _ 1 8 Try.underlying33 hi3 hy0 hy1 hy2 rfl (by decide) _ _ _ rfl (tri_alloc hT2 _).2.2.1 ⟨w2.heap.size, 0, none⟩ 1 1 [.int .i64 kd] rfl rfl (cell_one_new _ _ _) (one_one _) hm1 hm3 (le_alloc hsz2 _) ?_; intro v3 w3 ho3 hg3 _ ha3; obtain ⟨hT3, hB3, hsz3⟩ := push3_at hT2 hB2 hsz2 ho3 hg3 ha3; clear ho3 hg3 ha3 hT2)
                | (go_at_call_of 26 (Value.int IntKind.i64 (ve' : Int)); refine (skip_at cap ve' hr hblt hB3 hn (by omega)).mono ?_; rintro e w4 ⟨rfl, rfl⟩; rw [← HC.out]))
              refine bodyPost_ret (v := .tuple #[.int .i64 0, .slice none 0 0, .slice none 0 0, .slice none 0 0, .bool false]) (by simp [results, Try.results19, go_sem]) rfl ?_
              exact contOut_no hB3
        · go_wp2_with fail
          refine bodyPost_ret (v := .tuple #[.int .i64 0, .slice none 0 0, .slice none 0 0, .slice none 0 0, .bool false]) (by simp [results, Try.results19, go_sem]) rfl ?_
          exact contOut_no hbw
    · clear hc1 hcl'
      go_enter Try.func19, Try.ntmps19
      go_wp2_with (go_at_call 26; refine (skip_any _ b o n cap (i + 1) B hr hn (by omega)).mono ?_; rintro e w ⟨rfl, rfl⟩; rw [← HA.out])
      refine wp_loop_rounds 1 ?_
      rw [rounds_succ]
      go_wp2_with fail
      refine bodyPost_ret (v := .tuple #[.int .i64 0, .slice none 0 0, .slice none 0 0, .slice none 0 0, .bool false]) (by simp [results, Try.results19, go_sem]) rfl ?_
      exact contOut_no (Below.refl _ _)
end Go.Proofs.Qxb6603514a.Js
