import Derived.Test.Qxb6603514aJsObj
namespace Go.Proofs.Qxb6603514a.Js
open Go.RowKit
set_option linter.unusedVariables false

/-- What the model says of a text that it has taken whole. -/
def TopOK (B : Nat → Int) (n : Nat) (base : Nat) (k : Int) (vn vv vk : Value) (w' : World) : Prop :=
  (∃ (obj : Bool) (ms : List Mem), k = (if obj = true then 6 else 5) ∧ Done B n obj (sk B n 1) ms n ∧ Lists obj ms base vn vv vk w') ∨
  (1 ≤ k ∧ k ≤ 4 ∧ vn = .slice none 0 0 ∧ vv = .slice none 0 0 ∧ vk = .slice none 0 0)
def TopOut (B : Nat → Int) (n : Nat) (w : World) (e : Ending) (w' : World) : Prop :=
  ∃ (k : Int) (vn vv vk : Value) (ok : Bool), e = .returned (.tuple #[.int .i64 k, vn, vv, vk, .bool ok]) ∧ Below w.heap.size w w' ∧ (ok = true → TopOK B n w.heap.size k vn vv vk w')
theorem topOut_no {B : Nat → Int} {n : Nat} {w w' : World} (hb : Below w.heap.size w w') : TopOut B n w (.returned (.tuple #[.int .i64 0, .slice none 0 0, .slice none 0 0, .slice none 0 0, .bool false])) w' :=
  ⟨0, _, _, _, false, rfl, hb, fun h => by simp at h⟩
theorem topOut_yes {B : Nat → Int} {n : Nat} {w w' : World} {k : Int} {vn vv vk : Value} (hb : Below w.heap.size w w') (h : TopOK B n w.heap.size k vn vv vk w') : TopOut B n w (.returned (.tuple #[.int .i64 k, vn, vv, vk, .bool true])) w' :=
  ⟨k, _, _, _, true, rfl, hb, fun _ => h⟩

theorem top_empty (a : Option Addr) (cap : Nat) (w : World) : Calls Try.prog 12 #[.slice a 0 cap] w fun e w' => e = .returned (.tuple #[.int .i64 0, .slice none 0 0, .slice none 0 0, .slice none 0 0, .bool false]) ∧ w' = w := by
  go_enter Try.func12, Try.ntmps12
  go_wp2
  exact bodyPost_ret (v := .tuple #[.int .i64 0, .slice none 0 0, .slice none 0 0, .slice none 0 0, .bool false]) (by simp [results, Try.results12, go_sem]) rfl ⟨rfl, rfl⟩

set_option maxRecDepth 100000 in
set_option maxHeartbeats 3200000 in
theorem top_any (w : World) (b o n cap : Nat) (B : Nat → Int) (hr : Row w b o n B) (hn : n ≤ 65536) (h0 : 0 < n) :
    Calls Try.prog 12 #[.slice (some ⟨b, o, none⟩) n cap] w fun e w' => TopOut B n w e w' := by
  have hc := hr 0 h0
  simp only [Nat.add_zero] at hc
  have hz : ((n : Int) == 0) = false := by simp; omega
  have HCA := hide (fun h => cont_any b o n cap B hn n 0 (by omega) h0 h w hr)
  by_cases h91 : B 0 = 91
  · have H := hide h91
    have f : (B 0 == 91) = true := by simpa using h91
    have HC := hide (HCA.out (.inl h91))
    clear h91 HCA
    go_enter Try.func12, Try.ntmps12
    go_wp2_with fail
    refine HC.out.mono ?_
    rintro e w1 ⟨en, vn, vv, vk, ok, rfl, hbl, hok⟩
    have hcc : w1.cell? ⟨b, o, none⟩ = some (.int .u8 (B 0)) := (hbl.cell (p := ⟨b, o, none⟩) (World.block_lt_of_cell? w _ hc)).trans hc
    cases ok
    · clear hok
      go_wp2_with fail
      exact bodyPost_ret (v := .tuple #[.int .i64 0, .slice none 0 0, .slice none 0 0, .slice none 0 0, .bool false]) (by simp [results, Try.results12, go_sem]) rfl (topOut_no hbl)
    · obtain ⟨obj, ms, e', rfl, hB, hd, hl⟩ := hok rfl
      have hob : obj = false := by
        cases obj
        · rfl
        · rw [H.out] at hB; simp at hB
      subst hob
      have HD := hide (And.intro hd hl)
      clear hok hd hl hB
      by_cases hen : e' = n
      · have hen' : ((e' : Int) != (n : Int)) = false := by simp; omega
        have HN := hide hen; clear hen
        go_wp2_with fail
        refine bodyPost_ret (v := .tuple #[.int .i64 5, vn, vv, vk, .bool true]) (by simp [results, Try.results12, go_sem]) rfl (topOut_yes hbl ?_)
        have hd := HD.out.1
        rw [HN.out] at hd
        exact .inl ⟨false, ms, rfl, hd, HD.out.2⟩
      · have hen' : ((e' : Int) != (n : Int)) = true := by simp; omega
        clear hen
        go_wp2_with fail
        exact bodyPost_ret (v := .tuple #[.int .i64 0, .slice none 0 0, .slice none 0 0, .slice none 0 0, .bool false]) (by simp [results, Try.results12, go_sem]) rfl (topOut_no hbl)
  have e91 : (B 0 == 91) = false := by simpa using h91
  by_cases h123 : B 0 = 123
  · have H := hide h123
    have f : (B 0 == 123) = true := by simpa using h123
    have HC := hide (HCA.out (.inr h123))
    clear h91 h123 HCA
    go_enter Try.func12, Try.ntmps12
    go_wp2_with fail
    refine HC.out.mono ?_
    rintro e w1 ⟨en, vn, vv, vk, ok, rfl, hbl, hok⟩
    have hcc : w1.cell? ⟨b, o, none⟩ = some (.int .u8 (B 0)) := (hbl.cell (p := ⟨b, o, none⟩) (World.block_lt_of_cell? w _ hc)).trans hc
    cases ok
    · clear hok
      go_wp2_with fail
      exact bodyPost_ret (v := .tuple #[.int .i64 0, .slice none 0 0, .slice none 0 0, .slice none 0 0, .bool false]) (by simp [results, Try.results12, go_sem]) rfl (topOut_no hbl)
    · obtain ⟨obj, ms, e', rfl, hB, hd, hl⟩ := hok rfl
      have hob : obj = true := by
        cases obj
        · rw [H.out] at hB; simp at hB
        · rfl
      subst hob
      have HD := hide (And.intro hd hl)
      clear hok hd hl hB
      by_cases hen : e' = n
      · have hen' : ((e' : Int) != (n : Int)) = false := by simp; omega
        have HN := hide hen; clear hen
        go_wp2_with fail
        refine bodyPost_ret (v := .tuple #[.int .i64 6, vn, vv, vk, .bool true]) (by simp [results, Try.results12, go_sem]) rfl (topOut_yes hbl ?_)
        have hd := HD.out.1
        rw [HN.out] at hd
        exact .inl ⟨true, ms, rfl, hd, HD.out.2⟩
      · have hen' : ((e' : Int) != (n : Int)) = true := by simp; omega
        clear hen
        go_wp2_with fail
        exact bodyPost_ret (v := .tuple #[.int .i64 0, .slice none 0 0, .slice none 0 0, .slice none 0 0, .bool false]) (by simp [results, Try.results12, go_sem]) rfl (topOut_no hbl)
  have e123 : (B 0 == 123) = false := by simpa using h123
  have HK : Hid (1 ≤ kindOf (B 0) ∧ kindOf (B 0) ≤ 4) := by
    show 1 ≤ kindOf (B 0) ∧ kindOf (B 0) ≤ 4
    unfold kindOf
    rw [if_neg h123, if_neg h91]
    split
    · omega
    · split
      · omega
      · split <;> omega
  clear h91 h123
  go_enter Try.func12, Try.ntmps12
  go_wp2_with fail
  refine (value_any w b o n cap 0 B hr hn (by omega) (fun h1 h2 => HCA.out h2)).mono ?_
  rintro e w1 ⟨ve, kd, ok, rfl, hbl, hok⟩
  clear HCA
  cases ok
  · clear hok
    go_wp2_with fail
    exact bodyPost_ret (v := .tuple #[.int .i64 0, .slice none 0 0, .slice none 0 0, .slice none 0 0, .bool false]) (by simp [results, Try.results12, go_sem]) rfl (topOut_no hbl)
  · obtain ⟨e', rfl, hg⟩ := hok rfl
    have HG := hide hg.2.2.1
    clear hok hg
    by_cases hen : e' = n
    · have hen' : ((e' : Int) != (n : Int)) = false := by simp; omega
      clear hen
      go_wp2_with fail
      refine bodyPost_ret (v := .tuple #[.int .i64 kd, .slice none 0 0, .slice none 0 0, .slice none 0 0, .bool true]) (by simp [results, Try.results12, go_sem]) rfl (topOut_yes hbl ?_)
      refine .inr ⟨?_, ?_, rfl, rfl, rfl⟩
      · rw [HG.out]; exact HK.out.1
      · rw [HG.out]; exact HK.out.2
    · have hen' : ((e' : Int) != (n : Int)) = true := by simp; omega
      clear hen
      go_wp2_with fail
      exact bodyPost_ret (v := .tuple #[.int .i64 0, .slice none 0 0, .slice none 0 0, .slice none 0 0, .bool false]) (by simp [results, Try.results12, go_sem]) rfl (topOut_no hbl)
end Go.Proofs.Qxb6603514a.Js
