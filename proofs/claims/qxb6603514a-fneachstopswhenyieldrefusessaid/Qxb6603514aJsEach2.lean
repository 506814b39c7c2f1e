import Derived.Test.Qxb6603514aJsEach0
import Derived.Deep.RegionWith
namespace Go.Proofs.Qxb6603514a.Js
open Go.RowKit
set_option linter.unusedVariables false
attribute [local go_sem ↓] Go.wp_at_zero Go.wp_at_succ

set_option maxRecDepth 100000 in
set_option maxHeartbeats 3200000 in
theorem each_obj (F : Nat) (caps : Array Value) (C : Nat → Prop) (Inv : Nat → Nat → World → Prop) (cont : Nat → Bool) (b o n cap : Nat) (B : Nat → Int) (hn : n ≤ 65536) (hcap : n ≤ cap) (ms : List Mem) (hms : Done B n true (sk B n 1) ms n)
    (hcf : ∀ (args : Array Value) (w : World), (callFunc F args).run Try.prog w = .ok (.enter F args) w)
    (hst : ∀ H t w w', Inv H t w → Below w.heap.size w w' → Inv H t w')
    (hy : ∀ H t m w, ms[t]? = some m → Inv H t w → H ≤ w.heap.size → Calls Try.prog F (#[nameVal true b o cap m, valVal b o cap m] ++ caps) w fun e w' => e = .returned (.bool (cont t)) ∧ Inv H (t + 1) w' ∧ Kp H C w w' ∧ K50 w w')
    (w : World) (hr : Row w b o n B) (hbC : ¬ C b) (hC : ∀ k, C k → k < w.heap.size) (hI : ∀ H w', Below w.heap.size w w' → w.heap.size ≤ H → H ≤ w'.heap.size → Inv H 0 w') :
    Calls Try.prog 21 #[.agg #[.int .i64 6, .slice (some ⟨b, o, none⟩) n cap, .pointer none], .func (.func F) #[] caps] w fun e w' =>
      e = .returned (.tuple #[]) ∧ ∃ H t, Inv H t w' ∧ H ≤ w'.heap.size ∧ t ≤ ms.length ∧ (∀ s, s + 1 < t → cont s = true) ∧ (t = ms.length ∨ ∃ s, t = s + 1 ∧ cont s = false) ∧ Kp w.heap.size C w w' := by
  have HMS := hide hms; have HCF := hide hcf; have HST := hide hst; have HY := hide hy; have HC := hide hC; have HI := hide hI; have HBC := hide hbC
  have hlen := done_len B n true _ _ _ hms
  have h1n : 1 < n := by have := le_sk B n 1; omega
  have hblt : b < w.heap.size := World.block_lt_of_cell? w _ (hr 0 (by omega))
  have HR := hide hr
  clear hms hcf hst hy hC hI hr hbC
  go_enter Try.func21, Try.ntmps21
  go_wp2_with (first
    | (go_at_call 30; refine (from_nil _ _ _ _).mono ?_; rintro e w1 ⟨rfl, hb1⟩)
    | (go_at_call 31; refine (skipSpace_any _ b o n cap 1 B (row_below HR.out hblt (((Below.refl _ _).alloc (Nat.le_refl _) _).trans (hb1.mono (by simp)))) hn (by omega)).mono ?_; rintro e w1 ⟨rfl, rfl⟩))
  have hb0 : Below w.heap.size w w1 := ((Below.refl _ _).alloc (Nat.le_refl _) _).trans (hb1.mono (by simp))
  have hv0 : w1.cell? ⟨w.heap.size, 0, none⟩ = some (.int .i64 6) := by rw [hb1.cell (p := ⟨w.heap.size, 0, none⟩) (by simp)]; simp
  have hv2 : w1.cell? ⟨w.heap.size, 2, none⟩ = some (.pointer none) := by rw [hb1.cell (p := ⟨w.heap.size, 2, none⟩) (by simp)]; simp
  have hsz1 : w.heap.size < w1.heap.size := by have := hb1.size; simp at this; omega
  have hR1 := row_below HR.out hblt hb0
  have HV := hide (And.intro hv0 (And.intro hv2 hR1))
  have HB0 := hide hb0
  have hvC : ¬ C w.heap.size := fun h => by have := HC.out _ h; omega
  have HVC := hide hvC
  clear hv0 hv2 hR1 hb0 hb1 hvC
  go_loopw [6, 7] (fun s6 s7 wr => ∃ (pr rs : List Mem) (k : Nat), Hid (ms = pr ++ rs) ∧ Hid (Stand B n true n k rs) ∧ s6 = .slice none 0 0 ∧ s7 = .int .i64 k ∧ Hid (Inv w1.heap.size pr.length wr) ∧ Hid (Kp w1.heap.size C w1 wr) ∧ Hid (∀ s, s < pr.length → cont s = true)) (fun _ s7 _ => n - (intOf s7).toNat)
  case atStart => exact ⟨[], ms, sk B n 1, rfl, .inl HMS.out, rfl, rfl, HI.out _ _ HB0.out (by omega) (Nat.le_refl _), Kp.refl' _ _ _, fun s h => by simp at h⟩
  case round =>
    obtain ⟨pr, rs, k, hms, hsd, rfl, rfl, hinv, hkp, hct⟩ := hrel
    have hkc := kp_cell hkp.out (p := ⟨w.heap.size, 0, none⟩) hsz1 HVC.out
    have hw0 := hkc.trans HV.out.1
    have hw2 := (kp_cell hkp.out (p := ⟨w.heap.size, 2, none⟩) hsz1 HVC.out).trans HV.out.2.1
    have hR := kp_row hkp.out (by omega) HBC.out HV.out.2.2
    have hszr : w1.heap.size ≤ wr.heap.size := hkp.out.2.2.2.1
    clear hkc
    cases rs with
    | nil =>
      have hcl : k < n ∧ B k = 125 := by
        rcases hsd.out with h | ⟨_, h1, h2⟩
        · exact ⟨h.1, h.2.1⟩
        · exact ⟨h1, h2⟩
      obtain ⟨hkn, hcl⟩ := hcl
      have hcc := hR k hkn
      go_wp2_with fail
      go_end0
      have hl : pr.length = ms.length := by rw [hms.out]; simp
      exact ⟨rfl, w1.heap.size, pr.length, hinv.out, hszr, by omega, fun s h => hct.out s (by omega), .inl hl, (kp_below HB0.out (Nat.le_refl _)).trans' (hkp.out.mono' (by omega))⟩
    | cons m rs =>
      have hdn : Done B n true k (m :: rs) n := by
        rcases hsd.out with h | ⟨h, _⟩
        · exact h
        · simp at h
      obtain ⟨hs, hok, hl, hcs⟩ := hdn
      have hlt := memOK_lt B n true hok
      have hobj : m.s < n ∧ B m.s = 34 ∧ sE B n (m.s + 1) = m.ne ∧ sk B n m.ne < n ∧ B (sk B n m.ne) = 58 ∧ m.vs = sk B n (sk B n m.ne + 1) := by
        rcases hok.1 with ⟨_, h⟩ | ⟨h, _⟩
        · exact h
        · simp at h
      rw [hs] at hobj
      obtain ⟨hkn, hq, hse, hd1, hd2, hvs⟩ := hobj
      have hgv := hok.2
      have hkd : m.k = kindOf (B m.vs) := hgv.2.2.1
      have hend : valEnd B n m.vs = m.ve := by
        refine goodVal_end B n hgv hl ?_
        rcases hcs with ⟨h, _⟩ | ⟨h, _⟩
        · rw [h]; exact .inr (closer_or true)
        · exact .inl h
      have hcc := hR k hkn
      have hne1 := le_sE B n (i := k + 1) (by omega)
      have hne2 := sE_le B n (k + 1)
      rw [hse] at hne1 hne2
      have hsk1 := le_sk B n m.ne
      have hsk2 := le_sk B n (sk B n m.ne + 1)
      rw [← hvs] at hsk2
      have hvn : m.vs < n := by omega
      have hccv := hR m.vs hvn
      have f1 : (B k != 93) = true := by simp; omega
      have f2 : (B k != 125) = true := by simp; omega
      have HCS := hide hcs; have HEND := hide hend; have HKD := hide hkd; have HVS := hide hvs; have HRR := hide hR; have HSE := hide hse; have HS := hide hs
      clear hcs hend hkd hvs hgv hok hs hR hse hq hd2
      have hx1 : w.heap.size < wr.heap.size := by omega
      have hx2 : b < wr.heap.size := by omega
      have hx3 : w.heap.size ≠ wr.heap.size := by omega
      have hx4 : b ≠ wr.heap.size := by omega
      have hRn : ∀ o', Row (wr.alloc o') b o n B := fun o' => row_below HRR.out hx2 ((Below.refl _ _).alloc (Nat.le_refl _) o')
      have HRN := hide hRn; clear hRn
      have hve2 : (m.ve : Int) ≤ (cap : Int) := by omega
      have hnc : (m.ne : Int) ≤ (cap : Int) := by omega
      have hkne : (k : Int) ≤ (m.ne : Int) := by omega
      have hvv : (m.vs : Int) ≤ (m.ve : Int) := by omega
      have hv0 : (0 : Int) ≤ (m.vs : Int) := by omega
      have hvn' : (m.vs : Int) < (n : Int) := by omega
      have hcf := HCF.out
      have hmt : ms[pr.length]? = some m := by rw [hms.out]; simp
      have hyk : Calls Try.prog F (#[.agg #[.int .i64 4, .slice (some ⟨b, o + k, none⟩) (m.ne - k) (cap - k), .pointer none], .agg #[.int .i64 (kindOf (B m.vs)), .slice (some ⟨b, o + m.vs, none⟩) (m.ve - m.vs) (cap - m.vs), .pointer none]] ++ caps)
          (wr.alloc (.cells #[.int .i64 4, .slice (some ⟨b, o + k, none⟩) (m.ne - k) (cap - k), .pointer none] 50)).drew fun e w' => e = .returned (.bool (cont pr.length)) ∧ Inv w1.heap.size (pr.length + 1) w' ∧ Kp w1.heap.size C (wr.alloc (.cells #[.int .i64 4, .slice (some ⟨b, o + k, none⟩) (m.ne - k) (cap - k), .pointer none] 50)).drew w' ∧ K50 (wr.alloc (.cells #[.int .i64 4, .slice (some ⟨b, o + k, none⟩) (m.ne - k) (cap - k), .pointer none] 50)).drew w' := by
        have h := HY.out w1.heap.size pr.length m (wr.alloc (.cells #[.int .i64 4, .slice (some ⟨b, o + k, none⟩) (m.ne - k) (cap - k), .pointer none] 50)).drew hmt (HST.out _ _ _ _ hinv.out (((Below.refl _ _).alloc (Nat.le_refl _) _).drew)) (by simp; omega)
        simp only [nameVal, valVal, HS.out, HKD.out, if_true] at h
        exact h
      have HYK := hide hyk; clear hyk
      have hgn : (wr.alloc (.cells #[.int .i64 4, .slice (some ⟨b, o + k, none⟩) (m.ne - k) (cap - k), .pointer none] 50)).drew.heap[wr.heap.size]? = some (.cells #[.int .i64 4, .slice (some ⟨b, o + k, none⟩) (m.ne - k) (cap - k), .pointer none] 50 (0, 0)) := heap_alloc_new _ _
      have HK0 : Hid (Kp w1.heap.size C w1 (wr.alloc (.cells #[.int .i64 4, .slice (some ⟨b, o + k, none⟩) (m.ne - k) (cap - k), .pointer none] 50)).drew) := hkp.out.trans' (kp_below (((Below.refl _ _).alloc (Nat.le_refl _) _).drew) hszr)
      cases hcb : cont pr.length
      all_goals
        go_wp2_with (first
          | (go_at_call 32; refine (stringEnd_any _ b o n cap k B (HRN.out _) hn (by omega)).mono ?_; rintro e wn ⟨rfl, hwn⟩; rw [HSE.out, hwn]; clear hwn)
          | (go_at_call_of 31 (Value.int IntKind.i64 (m.ne : Int)); refine (skipSpace_any _ b o n cap m.ne B (HRN.out _) hn (by omega)).mono ?_; rintro e wn ⟨rfl, hwn⟩; rw [hwn]; clear hwn))
        refine (skipSpace_any _ b o n cap (sk B n m.ne + 1) B (HRN.out _) hn (by omega)).mono ?_
        rintro e wn ⟨rfl, hwn⟩
        rw [hwn, ← HVS.out]
        clear hwn
        go_wp2_with fail
        refine wp_loop_rounds 1 ?_
        rw [rounds_succ]
        go_wp2_with (go_at_call 33; refine (valueEnd_any _ b o n cap m.vs B (HRN.out _) hn hvn).mono ?_; rintro e wn ⟨rfl, hwn⟩; rw [HEND.out, hwn]; clear hwn)
        go_region_held3 (fun w' => w'.heap[wr.heap.size]? = some (.cells #[.int .i64 4, .slice (some ⟨b, o + k, none⟩) (m.ne - k) (cap - k), .pointer none] 50 (0, 0)) ∧ w'.cell? ⟨wr.heap.size, 0, none⟩ = some (.int .i64 4) ∧ w'.cell? ⟨wr.heap.size, 1, none⟩ = some (.slice (some ⟨b, o + k, none⟩) (m.ne - k) (cap - k)) ∧ w'.cell? ⟨wr.heap.size, 2, none⟩ = some (.pointer none) ∧ w'.cell? ⟨b, o + m.vs, none⟩ = some (.int .u8 (B m.vs)) ∧ w'.cell? ⟨w.heap.size, 2, none⟩ = some (.pointer none))
          (first | (refine ⟨hgn, ?_⟩; go_keep) | (go_split_ands; refine ⟨by assumption, ?_⟩; go_keep) | (have h3 := h50 _ _ _ hgn; exact ⟨h3, (three_cells h3).1, (three_cells h3).2.1, (three_cells h3).2.2, (kp_row (HK0.out.trans' hkp2) (by omega) HBC.out HV.out.2.2 m.vs hvn), (kp_cell (HK0.out.trans' hkp2) (p := ⟨w.heap.size, 2, none⟩) hsz1 HVC.out).trans HV.out.2.1⟩))
          (first | (go_at_call 34; refine (kind_any _ _).mono ?_; rintro e w' ⟨rfl, rfl⟩) | (refine HYK.out.mono ?_; rintro e w2 ⟨rfl, hinv2, hkp2, h50⟩; rw [hcb]))
      · go_wp2_with fail
        refine bodyPost_ret (results_none rfl _ _ _) rfl ?_
        have hkp3 := HK0.out.trans' hkp2
        have hl2 : pr.length + 1 ≤ ms.length := by rw [hms.out]; simp
        exact ⟨rfl, w1.heap.size, pr.length + 1, hinv2, hkp3.2.2.2.1, hl2, fun s h => hct.out s (by omega), .inr ⟨pr.length, rfl, hcb⟩, (kp_below HB0.out (Nat.le_refl _)).trans' (hkp3.mono' (by omega))⟩
      · have hkp3 := HK0.out.trans' hkp2
        have hR2 := kp_row hkp3 (by omega) HBC.out HV.out.2.2
        have hc1 := le_sk B n m.ve
        have hct2 : Hid (∀ s, s < (pr ++ [m]).length → cont s = true) := fun s h => by
          by_cases e : s < pr.length
          · exact hct.out s e
          · have : s = pr.length := by simp at h; omega
            rw [this]; exact hcb
        have hms2 : Hid (ms = (pr ++ [m]) ++ rs) := by show ms = (pr ++ [m]) ++ rs; rw [hms.out]; simp
        have hinv3 : Hid (Inv w1.heap.size (pr ++ [m]).length w2) := by show Inv w1.heap.size (pr ++ [m]).length w2; rw [List.length_append]; exact hinv2
        have hcell := hR2 _ hl
        have HR2 := hide hR2
        have HKP3 := hide hkp3
        clear hkp2 h50 hinv2 hgn hR2 hkp3 hcf hcc hccv
        obtain ⟨c, hc⟩ : ∃ c, c = sk B n m.ve := ⟨_, rfl⟩
        have hcs := HCS.out
        rw [← hc] at hl hc1 hcell hcs
        have HCC := hide hc; clear hc HCS
        rcases hcs with ⟨h93, hrs, hne⟩ | ⟨h44, _, hd⟩
        · have h93' : B c = 125 := h93
          have HB3 := hide h93'
          have HSD : Hid (Stand B n true n c rs) := show Stand B n true n c rs from .inr ⟨hrs, hl, h93'⟩
          have g1 : (B c == 44) = false := by simp; omega
          clear h93 h93' hrs hne
          go_wp2_with (go_at_call 31; refine (skipSpace_any _ b o n cap m.ve B HR2.out hn (by omega)).mono ?_; rintro e w2 ⟨rfl, rfl⟩; rw [← HCC.out])
          go_roundw
          case rel => exact ⟨pr ++ [m], rs, c, hms2, HSD, rfl, rfl, hinv3, HKP3, hct2⟩
          case measure => simp [intOf]; omega
        · have g1 : (B c == 44) = true := by simpa using h44
          have HSD : Hid (Stand B n true n (sk B n (c + 1)) rs) := show Stand B n true n (sk B n (c + 1)) rs from .inl hd
          have hs3 := le_sk B n (c + 1)
          have hs4 := sk_le B n (i := c + 1) (by omega)
          clear h44 hd
          go_wp2_with (go_at_call_of 31 (Value.int IntKind.i64 (m.ve : Int)); refine (skipSpace_any _ b o n cap m.ve B HR2.out hn (by omega)).mono ?_; rintro e w2 ⟨rfl, rfl⟩; rw [← HCC.out])
          refine (skipSpace_any _ b o n cap (c + 1) B HR2.out hn (by omega)).mono ?_
          rintro e w2 ⟨rfl, rfl⟩
          go_wp2_with fail
          go_roundw
          case rel => exact ⟨pr ++ [m], rs, sk B n (c + 1), hms2, HSD, rfl, rfl, hinv3, HKP3, hct2⟩
          case measure => simp [intOf]; omega
end Go.Proofs.Qxb6603514a.Js
