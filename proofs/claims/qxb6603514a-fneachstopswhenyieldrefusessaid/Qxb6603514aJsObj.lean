import Derived.Test.Qxb6603514aJsArr
namespace Go.Proofs.Qxb6603514a.Js
open Go.RowKit
set_option linter.unusedVariables false

def objMem (k ne vs ve : Nat) (kd : Int) : Mem := { s := k, ne := ne, vs := vs, ve := ve, k := kd }
theorem objMem_ok {B : Nat → Int} {n k ne vs ve : Nat} {kd : Int} (h1 : k < n) (h2 : B k = 34) (h3 : ne = sE B n (k + 1)) (h4 : sk B n ne < n) (h5 : B (sk B n ne) = 58) (h6 : vs = sk B n (sk B n ne + 1)) (h : GoodVal B n vs ve kd) :
    MemOK B n true (objMem k ne vs ve kd) := ⟨.inl ⟨rfl, h1, h2, h3.symm, h4, h5, h6⟩, h⟩
theorem obj_lists {ms : List Mem} {k ne vs ve base : Nat} {kd : Int} {v1 v2 v3 : Value} {w : World}
    (h : Tri base v1 (ms.length + 1) (spans Mem.s Mem.ne ms ++ [.int .i64 (k : Int), .int .i64 (ne : Int)]) v2 (ms.length + 1) (spans Mem.vs Mem.ve ms ++ [.int .i64 (vs : Int), .int .i64 (ve : Int)]) v3 (ms.length + 1) (kinds ms ++ [.int .i64 kd]) w) :
    Tri base v1 (ms ++ [objMem k ne vs ve kd]).length (spans Mem.s Mem.ne (ms ++ [objMem k ne vs ve kd])) v2 (ms ++ [objMem k ne vs ve kd]).length (spans Mem.vs Mem.ve (ms ++ [objMem k ne vs ve kd])) v3 (ms ++ [objMem k ne vs ve kd]).length (kinds (ms ++ [objMem k ne vs ve kd])) w := by
  rw [spans_snoc, spans_snoc, kinds_snoc, List.length_append]
  exact h

set_option maxRecDepth 100000 in
set_option maxHeartbeats 6400000 in
theorem obj_step (b o n cap : Nat) (B : Nat → Int) (hn : n ≤ 65536) (i : Nat) (hi : i < n) (hb : B i = 123)
    (ih : ∀ j, i < j → j < n → (B j = 91 ∨ B j = 123) → ContAt b o n cap B j) : ContAt b o n cap B i := by
  intro w hr
  have hc0 := hr i hi
  have hblt : b < w.heap.size := World.block_lt_of_cell? w _ hc0
  have HI := hide ih; clear ih
  have HB := hide hb
  have hsk1 := le_sk B n (i + 1)
  have hsk2 := sk_le B n (i := i + 1) (by omega)
  by_cases hcl : sk B n (i + 1) < n ∧ B (sk B n (i + 1)) = 125
  · obtain ⟨hj, hcl⟩ := hcl
    have HC := hide hcl
    have hc1 := hr _ hj
    go_enter Try.func19, Try.ntmps19
    go_wp2_with (go_at_call 26; refine (skip_any _ b o n cap (i + 1) B hr hn (by omega)).mono ?_; rintro e w ⟨rfl, rfl⟩)
    refine bodyPost_ret (v := .tuple #[.int .i64 ((sk B n (i + 1) : Int) + 1), .slice none 0 0, .slice none 0 0, .slice none 0 0, .bool true]) (by simp [results, Try.results19, go_sem]) rfl ?_
    exact contOut_yes (Below.refl _ _) true [] (sk B n (i + 1) + 1) _ (by omega) HB.out ⟨hj, HC.out, rfl⟩ ⟨fun h => World.ownsRow_nil _ _ _ _, World.ownsRow_nil _ _ _ _, World.ownsRow_nil _ _ _ _⟩
  · obtain ⟨i55, hi55, hz0, hz1, hz2⟩ := info_parts info55
    obtain ⟨i3, hi3, hy0, hy1, hy2⟩ := info_parts info3
    have hc1 : sk B n (i + 1) < n → w.cell? ⟨b, o + sk B n (i + 1), none⟩ = some (.int .u8 (B (sk B n (i + 1)))) := fun h => hr _ h
    have hcl' : sk B n (i + 1) < n → (B (sk B n (i + 1)) == 125) = false := fun h => by simp; exact fun h' => hcl ⟨h, h'⟩
    clear hcl
    obtain ⟨a, ha⟩ : ∃ a, a = sk B n (i + 1) := ⟨_, rfl⟩
    rw [← ha] at hsk1 hsk2 hc1 hcl'
    have HA := hide ha; clear ha
    by_cases hj : a < n
    · have hc1 := hc1 hj
      have hcl' := hcl' hj
      go_enter Try.func19, Try.ntmps19
      go_wp2_with (go_at_call 26; refine (skip_any _ b o n cap (i + 1) B hr hn (by omega)).mono ?_; rintro e w ⟨rfl, rfl⟩; rw [← HA.out])
      clear hc1 hcl' hb hc0
      go_loopw [11, 12, 13, 14] (fun v11 v12 v13 v14 wr => ∃ (ms : List Mem) (k : Nat), Pre B n true a ms k ∧ k ≤ n ∧ v14 = .int .i64 k ∧
          Tri w.heap.size v11 ms.length (spans Mem.s Mem.ne ms) v12 ms.length (spans Mem.vs Mem.ve ms) v13 ms.length (kinds ms) wr ∧ Below w.heap.size w wr) (fun _ _ _ v14 _ => n - (intOf v14).toNat)
      case atStart => exact ⟨[], a, rfl, hsk2, rfl, tri_nil _ _, Below.refl _ _⟩
      case round =>
        obtain ⟨ms, k, hpre, hk, rfl, hT, hbw⟩ := hrel
        have hlen := pre_len B n true _ _ _ hpre
        have HP := hide hpre; clear hpre
        by_cases hkn : k < n
        · have hm1 : ms.length + 1 ≤ maxLen := by unfold maxLen; omega
          have hm2 : (ms.length + 1) * 16 ≤ 140737488355328 := by omega
          have hm3 : (ms.length + 1) * 8 ≤ 140737488355328 := by omega
          have hszr := hbw.size
          go_wp2_with fail
          refine (str_any _ b o n cap k B (row_below hr hblt hbw) hn (by omega)).mono ?_
          rintro e wr ⟨v, ok, rfl, hok, rfl⟩
          cases ok
          · clear hok
            go_wp2_with fail
            refine bodyPost_ret (v := .tuple #[.int .i64 0, .slice none 0 0, .slice none 0 0, .slice none 0 0, .bool false]) (by simp [results, Try.results19, go_sem]) rfl ?_
            exact contOut_no hbw
          · obtain ⟨_, hq, hv⟩ := hok rfl
            rw [hv]
            have hne1 := le_sE B n (i := k + 1) (by omega)
            have hne2 := sE_le B n (k + 1)
            have HQ := hide hq
            clear hok hv hq
            obtain ⟨ne, hne⟩ : ∃ ne, ne = sE B n (k + 1) := ⟨_, rfl⟩
            rw [← hne] at hne1 hne2 ⊢
            have HN := hide hne; clear hne
            have hd1 := le_sk B n ne
            have hd2 := sk_le B n hne2
            obtain ⟨d, hd⟩ : ∃ d, d = sk B n ne := ⟨_, rfl⟩
            rw [← hd] at hd1 hd2
            have HDD := hide hd; clear hd
            by_cases hdn : d < n
            · by_cases h58 : B d = 58
              · have H58 := hide h58
                have hv1 := le_sk B n (d + 1)
                have hv2 := sk_le B n (i := d + 1) (by omega)
                go_wp2_with (first
                | (at_builtin; refine wpList_append_own_at _ rfl (.tmp 61) (.tmp 65) 32 rfl w.heap.size 55 i55 _ 2 16 Try.underlying32 hi55 hz0 hz1 hz2 rfl (by decide) _ _ _ rfl (tri_alloc hT _).1 ⟨wr.heap.size, 0, none⟩ 1 1 [.int .i64 (k : Int), .int .i64 (ne : Int)] rfl rfl (two_new _ _ _ _) (two_one _ _) hm1 hm2 (le_alloc hszr _) ?_; intro v1 w0 ho1 hg1 _ ha1; obtain ⟨hT0, hB0, hsz0⟩ := push1_at hT hbw hszr ho1 hg1 ha1; clear ho1 hg1 ha1)
                | (go_at_call_of 26 (Value.int IntKind.i64 (ne : Int)); refine (skip_at cap ne hr hblt hB0 hn (by omega)).mono ?_; rintro e w0 ⟨rfl, rfl⟩; rw [← HDD.out]; have hcc := row_below hr hblt hB0 d hdn))
                clear h58
                refine (skip_at cap (d + 1) hr hblt hB0 hn (by omega)).mono ?_
                rintro e w0 ⟨rfl, rfl⟩
                obtain ⟨vs, hvs⟩ : ∃ vs, vs = sk B n (d + 1) := ⟨_, rfl⟩
                rw [← hvs] at hv1 hv2 ⊢
                have HVS := hide hvs; clear hvs
                go_wp2_with fail
                refine (value_any _ b o n cap vs B (row_below hr hblt hB0) hn (by omega) (fun h1 h2 => HI.out vs (by omega) h1 h2 _ (row_below hr hblt hB0))).mono ?_
                rintro e w1 ⟨ve, kd, ok, rfl, hbl, hok⟩
                have hB1 : Below w.heap.size w w1 := hB0.trans (hbl.mono hB0.size)
                cases ok
                · clear hok
                  go_wp2_with fail
                  refine bodyPost_ret (v := .tuple #[.int .i64 0, .slice none 0 0, .slice none 0 0, .slice none 0 0, .bool false]) (by simp [results, Try.results19, go_sem]) rfl ?_
                  exact contOut_no hB1
                · obtain ⟨ve', hve, hg⟩ := hok rfl
                  have hT1 := tri_below hT0 hbl
                  rw [hve]
                  have hlt1 := hg.1
                  have hlt2 := hg.2.1
                  have hs1 := le_sk B n ve'
                  have hs2 := sk_le B n hlt2
                  have HM : Hid (MemOK B n true (objMem k ne vs ve' kd)) := objMem_ok hkn HQ.out HN.out (by rw [← HDD.out]; exact hdn) (by rw [← HDD.out]; exact H58.out) (by rw [← HDD.out]; exact HVS.out) hg
                  clear hok hve hg hbl hT0 hB0
                  obtain ⟨c, hc⟩ : ∃ c, c = sk B n ve' := ⟨_, rfl⟩
                  rw [← hc] at hs1 hs2
                  have HC := hide hc; clear hc
                  have hsz := hB1.size
                  by_cases hcn : c < n
                  · by_cases h125 : B c = 125
                    · have HD : Hid (Done B n true a (ms ++ [objMem k ne vs ve' kd]) (c + 1)) := by
                        show Done B n true a (ms ++ [objMem k ne vs ve' kd]) (c + 1)
                        have := pre_done B n true (objMem k ne vs ve' kd) HM.out (by show sk B n ve' < n; rw [← HC.out]; exact hcn) (by show B (sk B n ve') = _; rw [← HC.out]; exact h125) ms a HP.out
                        rw [HC.out]; exact this
                      go_wp2_with (first
                | (at_builtin; refine wpList_append_own_at _ rfl (.tmp 94) (.tmp 98) 32 rfl w.heap.size 55 i55 _ 2 16 Try.underlying32 hi55 hz0 hz1 hz2 rfl (by decide) _ _ _ rfl (tri_alloc hT1 _).2.1 ⟨w1.heap.size, 0, none⟩ 1 1 [.int .i64 (vs : Int), .int .i64 (ve' : Int)] rfl rfl (two_new _ _ _ _) (two_one _ _) hm1 hm2 (le_alloc hsz _) ?_; intro v2 w2 ho2 hg2 _ ha2; obtain ⟨hT2, hB2, hsz2⟩ := push2_at hT1 hB1 hsz ho2 hg2 ha2; clear ho2 hg2 ha2)
                | (at_builtin; refine wpList_append_own_at _ rfl (.tmp 100) (.tmp 102) 33 rfl w.heap.size 3 i3 _ 1 8 Try.underlying33 hi3 hy0 hy1 hy2 rfl (by decide) _ _ _ rfl (tri_alloc hT2 _).2.2.1 ⟨w2.heap.size, 0, none⟩ 1 1 [.int .i64 kd] rfl rfl (cell_one_new _ _ _) (one_one _) hm1 hm3 (le_alloc hsz2 _) ?_; intro v3 w3 ho3 hg3 _ ha3; obtain ⟨hT3, hB3, hsz3⟩ := push3_at hT2 hB2 hsz2 ho3 hg3 ha3; clear ho3 hg3 ha3 hT2)
                | (go_at_call_of 26 (Value.int IntKind.i64 (ve' : Int)); refine (skip_at cap ve' hr hblt hB3 hn (by omega)).mono ?_; rintro e w4 ⟨rfl, rfl⟩; rw [← HC.out]; have hcc := row_below hr hblt hB3 c hcn))
                      refine bodyPost_ret (v := .tuple #[.int .i64 ((c : Int) + 1), v1, v2, v3, .bool true]) (by simp [results, Try.results19, go_sem]) rfl ?_
                      refine contOut_yes hB3 true (ms ++ [objMem k ne vs ve' kd]) (c + 1) _ (by omega) HB.out (by rw [← HA.out]; exact HD.out) ?_
                      have hL := obj_lists hT3
                      exact ⟨fun h => hL.1, hL.2.1, hL.2.2.1⟩
                    · have e125 : (B c == 125) = false := by simpa using h125
                      by_cases h44 : B c = 44
                      · have HP2 : Hid (Pre B n true a (ms ++ [objMem k ne vs ve' kd]) (sk B n (c + 1))) := by
                          show Pre B n true a (ms ++ [objMem k ne vs ve' kd]) (sk B n (c + 1))
                          have := pre_snoc B n true (objMem k ne vs ve' kd) HM.out (by show sk B n ve' < n; rw [← HC.out]; exact hcn) (by show B (sk B n ve') = _; rw [← HC.out]; exact h44) ms a HP.out
                          rw [HC.out]; exact this
                        have hs3 := le_sk B n (c + 1)
                        have hs4 := sk_le B n (i := c + 1) (by omega)
                        go_wp2_with (first
                | (at_builtin; refine wpList_append_own_at _ rfl (.tmp 94) (.tmp 98) 32 rfl w.heap.size 55 i55 _ 2 16 Try.underlying32 hi55 hz0 hz1 hz2 rfl (by decide) _ _ _ rfl (tri_alloc hT1 _).2.1 ⟨w1.heap.size, 0, none⟩ 1 1 [.int .i64 (vs : Int), .int .i64 (ve' : Int)] rfl rfl (two_new _ _ _ _) (two_one _ _) hm1 hm2 (le_alloc hsz _) ?_; intro v2 w2 ho2 hg2 _ ha2; obtain ⟨hT2, hB2, hsz2⟩ := push2_at hT1 hB1 hsz ho2 hg2 ha2; clear ho2 hg2 ha2)
                | (at_builtin; refine wpList_append_own_at _ rfl (.tmp 100) (.tmp 102) 33 rfl w.heap.size 3 i3 _ 1 8 Try.underlying33 hi3 hy0 hy1 hy2 rfl (by decide) _ _ _ rfl (tri_alloc hT2 _).2.2.1 ⟨w2.heap.size, 0, none⟩ 1 1 [.int .i64 kd] rfl rfl (cell_one_new _ _ _) (one_one _) hm1 hm3 (le_alloc hsz2 _) ?_; intro v3 w3 ho3 hg3 _ ha3; obtain ⟨hT3, hB3, hsz3⟩ := push3_at hT2 hB2 hsz2 ho3 hg3 ha3; clear ho3 hg3 ha3 hT2)
                | (go_at_call_of 26 (Value.int IntKind.i64 (ve' : Int)); refine (skip_at cap ve' hr hblt hB3 hn (by omega)).mono ?_; rintro e w4 ⟨rfl, rfl⟩; rw [← HC.out]; have hcc := row_below hr hblt hB3 c hcn))
                        refine (skip_at cap (c + 1) hr hblt hB3 hn (by omega)).mono ?_
                        rintro e w5 ⟨rfl, rfl⟩
                        go_wp2_with fail
                        go_roundw
                        case rel => exact ⟨ms ++ [objMem k ne vs ve' kd], sk B n (c + 1), HP2.out, hs4, rfl, obj_lists hT3, hB3⟩
                        case measure => simp [intOf]; omega
                      · have e44 : (B c != 44) = true := by simpa using h44
                        go_wp2_with (first
                | (at_builtin; refine wpList_append_own_at _ rfl (.tmp 94) (.tmp 98) 32 rfl w.heap.size 55 i55 _ 2 16 Try.underlying32 hi55 hz0 hz1 hz2 rfl (by decide) _ _ _ rfl (tri_alloc hT1 _).2.1 ⟨w1.heap.size, 0, none⟩ 1 1 [.int .i64 (vs : Int), .int .i64 (ve' : Int)] rfl rfl (two_new _ _ _ _) (two_one _ _) hm1 hm2 (le_alloc hsz _) ?_; intro v2 w2 ho2 hg2 _ ha2; obtain ⟨hT2, hB2, hsz2⟩ := push2_at hT1 hB1 hsz ho2 hg2 ha2; clear ho2 hg2 ha2)
                | (at_builtin; refine wpList_append_own_at _ rfl (.tmp 100) (.tmp 102) 33 rfl w.heap.size 3 i3 _ 1 8 Try.underlying33 hi3 hy0 hy1 hy2 rfl (by decide) _ _ _ rfl (tri_alloc hT2 _).2.2.1 ⟨w2.heap.size, 0, none⟩ 1 1 [.int .i64 kd] rfl rfl (cell_one_new _ _ _) (one_one _) hm1 hm3 (le_alloc hsz2 _) ?_; intro v3 w3 ho3 hg3 _ ha3; obtain ⟨hT3, hB3, hsz3⟩ := push3_at hT2 hB2 hsz2 ho3 hg3 ha3; clear ho3 hg3 ha3 hT2)
                | (go_at_call_of 26 (Value.int IntKind.i64 (ve' : Int)); refine (skip_at cap ve' hr hblt hB3 hn (by omega)).mono ?_; rintro e w4 ⟨rfl, rfl⟩; rw [← HC.out]; have hcc := row_below hr hblt hB3 c hcn))
                        refine bodyPost_ret (v := .tuple #[.int .i64 0, .slice none 0 0, .slice none 0 0, .slice none 0 0, .bool false]) (by simp [results, Try.results19, go_sem]) rfl ?_
                        exact contOut_no hB3
                  · go_wp2_with (first
                | (at_builtin; refine wpList_append_own_at _ rfl (.tmp 94) (.tmp 98) 32 rfl w.heap.size 55 i55 _ 2 16 Try.underlying32 hi55 hz0 hz1 hz2 rfl (by decide) _ _ _ rfl (tri_alloc hT1 _).2.1 ⟨w1.heap.size, 0, none⟩ 1 1 [.int .i64 (vs : Int), .int .i64 (ve' : Int)] rfl rfl (two_new _ _ _ _) (two_one _ _) hm1 hm2 (le_alloc hsz _) ?_; intro v2 w2 ho2 hg2 _ ha2; obtain ⟨hT2, hB2, hsz2⟩ := push2_at hT1 hB1 hsz ho2 hg2 ha2; clear ho2 hg2 ha2)
                | (at_builtin; refine wpList_append_own_at _ rfl (.tmp 100) (.tmp 102) 33 rfl w.heap.size 3 i3 _ 1 8 Try.underlying33 hi3 hy0 hy1 hy2 rfl (by decide) _ _ _ rfl (tri_alloc hT2 _).2.2.1 ⟨w2.heap.size, 0, none⟩ 1 1 [.int .i64 kd] rfl rfl (cell_one_new _ _ _) (one_one _) hm1 hm3 (le_alloc hsz2 _) ?_; intro v3 w3 ho3 hg3 _ ha3; obtain ⟨hT3, hB3, hsz3⟩ := push3_at hT2 hB2 hsz2 ho3 hg3 ha3; clear ho3 hg3 ha3 hT2)
                | (go_at_call_of 26 (Value.int IntKind.i64 (ve' : Int)); refine (skip_at cap ve' hr hblt hB3 hn (by omega)).mono ?_; rintro e w4 ⟨rfl, rfl⟩; rw [← HC.out]))
                    refine bodyPost_ret (v := .tuple #[.int .i64 0, .slice none 0 0, .slice none 0 0, .slice none 0 0, .bool false]) (by simp [results, Try.results19, go_sem]) rfl ?_
                    exact contOut_no hB3
              · have e58 : (B d != 58) = true := by simpa using h58
                go_wp2_with (first
                | (at_builtin; refine wpList_append_own_at _ rfl (.tmp 61) (.tmp 65) 32 rfl w.heap.size 55 i55 _ 2 16 Try.underlying32 hi55 hz0 hz1 hz2 rfl (by decide) _ _ _ rfl (tri_alloc hT _).1 ⟨wr.heap.size, 0, none⟩ 1 1 [.int .i64 (k : Int), .int .i64 (ne : Int)] rfl rfl (two_new _ _ _ _) (two_one _ _) hm1 hm2 (le_alloc hszr _) ?_; intro v1 w0 ho1 hg1 _ ha1; obtain ⟨hT0, hB0, hsz0⟩ := push1_at hT hbw hszr ho1 hg1 ha1; clear ho1 hg1 ha1)
                | (go_at_call_of 26 (Value.int IntKind.i64 (ne : Int)); refine (skip_at cap ne hr hblt hB0 hn (by omega)).mono ?_; rintro e w0 ⟨rfl, rfl⟩; rw [← HDD.out]; have hcc := row_below hr hblt hB0 d hdn))
                refine bodyPost_ret (v := .tuple #[.int .i64 0, .slice none 0 0, .slice none 0 0, .slice none 0 0, .bool false]) (by simp [results, Try.results19, go_sem]) rfl ?_
                exact contOut_no hB0
            · go_wp2_with (first
                | (at_builtin; refine wpList_append_own_at _ rfl (.tmp 61) (.tmp 65) 32 rfl w.heap.size 55 i55 _ 2 16 Try.underlying32 hi55 hz0 hz1 hz2 rfl (by decide) _ _ _ rfl (tri_alloc hT _).1 ⟨wr.heap.size, 0, none⟩ 1 1 [.int .i64 (k : Int), .int .i64 (ne : Int)] rfl rfl (two_new _ _ _ _) (two_one _ _) hm1 hm2 (le_alloc hszr _) ?_; intro v1 w0 ho1 hg1 _ ha1; obtain ⟨hT0, hB0, hsz0⟩ := push1_at hT hbw hszr ho1 hg1 ha1; clear ho1 hg1 ha1)
                | (go_at_call_of 26 (Value.int IntKind.i64 (ne : Int)); refine (skip_at cap ne hr hblt hB0 hn (by omega)).mono ?_; rintro e w0 ⟨rfl, rfl⟩; rw [← HDD.out]))
              refine bodyPost_ret (v := .tuple #[.int .i64 0, .slice none 0 0, .slice none 0 0, .slice none 0 0, .bool false]) (by simp [results, Try.results19, go_sem]) rfl ?_
              exact contOut_no hB0
        · go_wp2_with fail
          refine bodyPost_ret (v := .tuple #[.int .i64 0, .slice none 0 0, .slice none 0 0, .slice none 0 0, .bool false]) (by simp [results, Try.results19, go_sem]) rfl ?_
          exact contOut_no hbw
    · clear hc1 hcl'
      go_enter Try.func19, Try.ntmps19
      go_wp2_with (go_at_call 26; refine (skip_any _ b o n cap (i + 1) B hr hn (by omega)).mono ?_; rintro e w ⟨rfl, rfl⟩; rw [← HA.out])
      refine wp_loop_rounds 1 ?_
      rw [rounds_succ]
      go_wp2_with fail
      refine bodyPost_ret (v := .tuple #[.int .i64 0, .slice none 0 0, .slice none 0 0, .slice none 0 0, .bool false]) (by simp [results, Try.results19, go_sem]) rfl ?_
      exact contOut_no (Below.refl _ _)

/-- The container at every place, by induction on what is left of the text. -/
theorem cont_any (b o n cap : Nat) (B : Nat → Int) (hn : n ≤ 65536) : ∀ (m i : Nat), n - i ≤ m → i < n → (B i = 91 ∨ B i = 123) → ContAt b o n cap B i
  | 0, i, h, hi, _ => by omega
  | m + 1, i, h, hi, hb => by
    have ih : ∀ j, i < j → j < n → (B j = 91 ∨ B j = 123) → ContAt b o n cap B j := fun j h1 h2 h3 => cont_any b o n cap B hn m j (by omega) h2 h3
    rcases hb with hb | hb
    · exact arr_step b o n cap B hn i hi hb ih
    · exact obj_step b o n cap B hn i hi hb ih
end Go.Proofs.Qxb6603514a.Js
