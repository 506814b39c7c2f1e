import Derived.Test.Qxb6603514aJsStr
import Derived.Test.Qxb6603514aJsLit
namespace Go.Proofs.Qxb6603514a.Js
open Go.RowKit
set_option linter.unusedVariables false

/-- The cells of a list of spans. -/
def spans (f g : Mem → Nat) : List Mem → List Value
  | [] => []
  | m :: ms => .int .i64 (f m : Int) :: .int .i64 (g m : Int) :: spans f g ms
def kinds (ms : List Mem) : List Value := ms.map fun m => .int .i64 m.k

/-- The three lists that the model hands out lie in new memory. -/
def Lists (obj : Bool) (ms : List Mem) (base : Nat) (vn vv vk : Value) (w : World) : Prop :=
  (obj = true → w.ownsRow base 55 2 vn ms.length (spans Mem.s Mem.ne ms)) ∧ w.ownsRow base 55 2 vv ms.length (spans Mem.vs Mem.ve ms) ∧ w.ownsRow base 3 1 vk ms.length (kinds ms)

def ContOut (B : Nat → Int) (n i : Nat) (w : World) (e : Ending) (w' : World) : Prop :=
  ∃ (en : Int) (vn vv vk : Value) (ok : Bool), e = .returned (.tuple #[.int .i64 en, vn, vv, vk, .bool ok]) ∧ Below w.heap.size w w' ∧
    (ok = true → ∃ (obj : Bool) (ms : List Mem) (e' : Nat), en = (e' : Int) ∧ B i = (if obj = true then 123 else 91) ∧ Done B n obj (sk B n (i + 1)) ms e' ∧ Lists obj ms w.heap.size vn vv vk w')

def ValOut (B : Nat → Int) (n j : Nat) (w : World) (e : Ending) (w' : World) : Prop :=
  ∃ (ve k : Int) (ok : Bool), e = .returned (.tuple #[.int .i64 ve, .int .i64 k, .bool ok]) ∧ Below w.heap.size w w' ∧ (ok = true → ∃ ve' : Nat, ve = (ve' : Int) ∧ GoodVal B n j ve' k)
theorem valOut_mk {B : Nat → Int} {n j : Nat} {w w' : World} (ve k : Int) (ok : Bool) (hb : Below w.heap.size w w') (h : ok = true → ∃ ve' : Nat, ve = (ve' : Int) ∧ GoodVal B n j ve' k) :
    ValOut B n j w (.returned (.tuple #[.int .i64 ve, .int .i64 k, .bool ok])) w' := ⟨ve, k, ok, rfl, hb, h⟩

theorem ok_true (k : Nat) (h : k < (⟨#[116, 114, 117, 101]⟩ : ByteArray).size) : okCh (((⟨#[116, 114, 117, 101]⟩ : ByteArray)[k]'h).toNat : Int) = true := by
  have : ∀ i : Fin 4, okCh (((⟨#[116, 114, 117, 101]⟩ : ByteArray)[i.1]'i.2).toNat : Int) = true := by decide
  exact this ⟨k, h⟩
theorem ok_false (k : Nat) (h : k < (⟨#[102, 97, 108, 115, 101]⟩ : ByteArray).size) : okCh (((⟨#[102, 97, 108, 115, 101]⟩ : ByteArray)[k]'h).toNat : Int) = true := by
  have : ∀ i : Fin 5, okCh (((⟨#[102, 97, 108, 115, 101]⟩ : ByteArray)[i.1]'i.2).toNat : Int) = true := by decide
  exact this ⟨k, h⟩
theorem ok_null (k : Nat) (h : k < (⟨#[110, 117, 108, 108]⟩ : ByteArray).size) : okCh (((⟨#[110, 117, 108, 108]⟩ : ByteArray)[k]'h).toNat : Int) = true := by
  have : ∀ i : Fin 4, okCh (((⟨#[110, 117, 108, 108]⟩ : ByteArray)[i.1]'i.2).toNat : Int) = true := by decide
  exact this ⟨k, h⟩

/-- A literal's or a number's run, as a value. -/
theorem good_of_run {B : Nat → Int} {n j : Nat} {v k : Int} {ok : Bool} (hk : k = kindOf (B j)) (h : ok = true → ∃ e : Nat, v = (e : Int) ∧ j < e ∧ e ≤ n ∧ Run B j e) :
    ok = true → ∃ ve' : Nat, v = (ve' : Int) ∧ GoodVal B n j ve' k := fun ht => by
  obtain ⟨e, he, h1, h2, h3⟩ := h ht
  exact ⟨e, he, good_run B n h1 h2 hk h3⟩

set_option maxRecDepth 100000 in
set_option maxHeartbeats 3200000 in
theorem value_any (w : World) (b o n cap j : Nat) (B : Nat → Int) (hr : Row w b o n B) (hn : n ≤ 65536) (hj : j ≤ 70000)
    (hcont : j < n → B j = 91 ∨ B j = 123 → Calls Try.prog 19 #[.slice (some ⟨b, o, none⟩) n cap, .int .i64 (j : Int)] w fun e w' => ContOut B n j w e w') :
    Calls Try.prog 20 #[.slice (some ⟨b, o, none⟩) n cap, .int .i64 (j : Int)] w fun e w' => ValOut B n j w e w' := by
  by_cases hjn : j < n
  · have hc := hr j hjn
    have hdn : decide ((n : Int) ≤ (j : Int)) = false := by simp; omega
    by_cases h34 : B j = 34
    · have H := hide h34
      clear hcont
      go_enter Try.func20, Try.ntmps20
      go_wp2_with (go_at_call 27; refine (str_any _ b o n cap j B hr hn hj).mono ?_; rintro e w' ⟨v, ok, rfl, hok, rfl⟩; have HOK := hide hok; clear hok)
      go_ret3
      exact valOut_mk _ _ _ (Below.refl _ _) (fun h => by obtain ⟨h1, h2, h3⟩ := HOK.out h; exact ⟨_, h3, good_str B n h1 h2 rfl⟩)
    have e34 : (B j == 34) = false := by simpa using h34
    by_cases h116 : B j = 116
    · have HK : Hid ((2 : Int) = kindOf (B j)) := by show (2 : Int) = kindOf (B j); rw [h116]; rfl
      have f : (B j == 116) = true := by simpa using h116
      clear hcont h34 h116
      go_enter Try.func20, Try.ntmps20
      go_wp2_with (go_at_call 28; refine (lit_any _ b o n cap j B _ hr hn hj (by decide) (by decide) ok_true).mono ?_; rintro e w' ⟨q, w1, rfl, rfl, v, ok, rfl, hok, _⟩; have HOK := hide hok; clear hok)
      go_ret3
      exact valOut_mk _ _ _ (below_drewN (Below.refl _ _) _) (good_of_run HK.out HOK.out)
    have e116 : (B j == 116) = false := by simpa using h116
    by_cases h102 : B j = 102
    · have HK : Hid ((2 : Int) = kindOf (B j)) := by show (2 : Int) = kindOf (B j); rw [h102]; rfl
      have f : (B j == 102) = true := by simpa using h102
      clear hcont h34 h116 h102
      go_enter Try.func20, Try.ntmps20
      go_wp2_with (go_at_call 28; refine (lit_any _ b o n cap j B _ hr hn hj (by decide) (by decide) ok_false).mono ?_; rintro e w' ⟨q, w1, rfl, rfl, v, ok, rfl, hok, _⟩; have HOK := hide hok; clear hok)
      go_ret3
      exact valOut_mk _ _ _ (below_drewN (Below.refl _ _) _) (good_of_run HK.out HOK.out)
    have e102 : (B j == 102) = false := by simpa using h102
    by_cases h110 : B j = 110
    · have HK : Hid ((1 : Int) = kindOf (B j)) := by show (1 : Int) = kindOf (B j); rw [h110]; rfl
      have f : (B j == 110) = true := by simpa using h110
      clear hcont h34 h116 h102 h110
      go_enter Try.func20, Try.ntmps20
      go_wp2_with (go_at_call 28; refine (lit_any _ b o n cap j B _ hr hn hj (by decide) (by decide) ok_null).mono ?_; rintro e w' ⟨q, w1, rfl, rfl, v, ok, rfl, hok, _⟩; have HOK := hide hok; clear hok)
      go_ret3
      exact valOut_mk _ _ _ (below_drewN (Below.refl _ _) _) (good_of_run HK.out HOK.out)
    have e110 : (B j == 110) = false := by simpa using h110
    by_cases h91 : B j = 91
    · have H := hide h91
      have HC := hide (hcont hjn (.inl h91))
      have f : (B j == 91) = true := by simpa using h91
      clear hcont h34 h116 h102 h110 h91
      go_enter Try.func20, Try.ntmps20
      go_wp2_with (go_at_call 19; refine HC.out.mono ?_; rintro e w' ⟨en, vn, vv, vk, ok, rfl, hbl, hok⟩; have HOK := hide hok; clear hok)
      go_ret3
      refine valOut_mk _ _ _ (by assumption) (fun h => ?_)
      obtain ⟨obj, ms, e', h1, h2, h3, _⟩ := HOK.out h
      refine ⟨e', h1, ?_⟩
      have ho : obj = false := by
        cases obj
        · rfl
        · rw [H.out] at h2; simp at h2
      subst ho
      exact good_cont B n false hjn h2 h3
    have e91 : (B j == 91) = false := by simpa using h91
    by_cases h123 : B j = 123
    · have H := hide h123
      have HC := hide (hcont hjn (.inr h123))
      have f : (B j == 123) = true := by simpa using h123
      clear hcont h34 h116 h102 h110 h91 h123
      go_enter Try.func20, Try.ntmps20
      go_wp2_with (go_at_call 19; refine HC.out.mono ?_; rintro e w' ⟨en, vn, vv, vk, ok, rfl, hbl, hok⟩; have HOK := hide hok; clear hok)
      go_ret3
      refine valOut_mk _ _ _ (by assumption) (fun h => ?_)
      obtain ⟨obj, ms, e', h1, h2, h3, _⟩ := HOK.out h
      refine ⟨e', h1, ?_⟩
      have ho : obj = true := by
        cases obj
        · rw [H.out] at h2; simp at h2
        · rfl
      subst ho
      exact good_cont B n true hjn h2 h3
    have e123 : (B j == 123) = false := by simpa using h123
    have HK : Hid ((3 : Int) = kindOf (B j)) := by show (3 : Int) = kindOf (B j); simp [kindOf, h34, h116, h102, h110, h91, h123]
    clear hcont h34 h116 h102 h110 h91 h123
    go_enter Try.func20, Try.ntmps20
    go_wp2_with (go_at_call 29; refine (num_any _ b o n cap j B hr hn hj).mono ?_; rintro e w' ⟨v, ok, rfl, hok, rfl⟩; have HOK := hide hok; clear hok)
    go_ret3
    exact valOut_mk _ _ _ (Below.refl _ _) (good_of_run HK.out HOK.out)
  · clear hcont
    go_enter Try.func20, Try.ntmps20
    go_wp2
    go_ret3
    exact valOut_mk _ _ _ (Below.refl _ _) (fun h => by simp at h)
end Go.Proofs.Qxb6603514a.Js
