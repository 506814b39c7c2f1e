import Derived.Laws.Strings
namespace Go.Proofs.Qxb6603446a.Sk

/-- The byte at a place, as the walk writes it; 0 outside. -/
def bt (s : ByteArray) (i : Nat) : Int := if h : i < s.size then ((s[i]'h).toNat : Int) else 0
theorem bt_at (s : ByteArray) (i : Nat) (h : i < s.size) : bt s i = ((s[i]'h).toNat : Int) := dif_pos h

/-- How many backslashes stand right before a place, counted back to place 2. -/
def bsRun (b : Nat → Int) : Nat → Nat
  | 0 => 0
  | q + 1 => if 2 ≤ q ∧ b q = 92 then bsRun b q + 1 else 0
theorem bsRun_hit {b : Nat → Int} {q : Nat} (h2 : 2 ≤ q) (h : b q = 92) : bsRun b (q + 1) = bsRun b q + 1 := by simp [bsRun, h2, h]
theorem bsRun_miss {b : Nat → Int} {q : Nat} (h : b q ≠ 92) : bsRun b (q + 1) = 0 := by simp [bsRun, h]
theorem bsRun_two {b : Nat → Int} : bsRun b 2 = 0 := by simp [bsRun]
theorem bsRun_le (b : Nat → Int) : ∀ q, bsRun b q ≤ q
  | 0 => by simp [bsRun]
  | q + 1 => by have := bsRun_le b q; simp only [bsRun]; split <;> omega

/-- A closing quote: the request is open, a quote here, a space behind it, an even run of backslashes before it. -/
def Close (b : Nat → Int) (n q : Nat) : Prop := (b 0 = 32 ∧ b 1 = 34) ∧ 2 ≤ q ∧ q + 1 < n ∧ b q = 34 ∧ b (q + 1) = 32 ∧ bsRun b q % 2 = 0

/-- The answer: the least closing quote, or none. -/
def Ans (b : Nat → Int) (n : Nat) : Option Nat → Prop
  | some q => Close b n q ∧ ∀ p, p < q → ¬ Close b n p
  | none => ∀ p, ¬ Close b n p

theorem ans_one {b : Nat → Int} {n : Nat} {r r' : Option Nat} (h : Ans b n r) (h' : Ans b n r') : r = r' := by
  match r, r', h, h' with
  | none, none, _, _ => rfl
  | some q, none, h, h' => exact absurd h.1 (h' q)
  | none, some q, h, h' => exact absurd h'.1 (h q)
  | some q, some q', h, h' =>
    rcases Nat.lt_trichotomy q q' with hl | he | hl
    · exact absurd h.1 (h'.2 q hl)
    · rw [he]
    · exact absurd h'.1 (h.2 q' hl)

/-- Where the text does not open with a space and a quote: none. -/
theorem ans_shut {b : Nat → Int} {n : Nat} (h : ¬ (b 0 = 32 ∧ b 1 = 34)) : Ans b n none := fun _ hc => h hc.1
theorem ans_short {b : Nat → Int} {n : Nat} (h : n < 2) : Ans b n none := fun _ hc => by have := hc.2.1; have := hc.2.2.1; omega

/-- The scan's relation at a place. -/
def Scan (b : Nat → Int) (n i : Nat) : Prop := 2 ≤ i ∧ bsRun b i % 2 = 0 ∧ ∀ p, p < i → ¬ Close b n p
theorem scan_start (b : Nat → Int) (n : Nat) : Scan b n 2 := ⟨Nat.le_refl _, by simp [bsRun_two], fun p hp hc => by have := hc.2.1; omega⟩
theorem scan_bs {b : Nat → Int} {n i : Nat} (h : Scan b n i) (hb : b i = 92) : Scan b n (i + 2) := by
  obtain ⟨h2, hr, hp⟩ := h
  have e1 := bsRun_hit h2 hb
  refine ⟨by omega, ?_, ?_⟩
  · by_cases hb' : b (i + 1) = 92
    · have := bsRun_hit (b := b) (q := i + 1) (by omega) hb'
      rw [show i + 2 = i + 1 + 1 from rfl, this]
      omega
    · rw [bsRun_miss hb']
  · intro p hlt hc
    by_cases h1 : p < i
    · exact hp p h1 hc
    · by_cases h3 : p = i
      · subst h3; have := hc.2.2.2.1; omega
      · obtain rfl : p = i + 1 := by omega
        have := hc.2.2.2.2.2
        omega
theorem scan_step {b : Nat → Int} {n i : Nat} (h : Scan b n i) (hb : b i ≠ 92) (hn : ¬ (b i = 34 ∧ i + 1 < n ∧ b (i + 1) = 32)) : Scan b n (i + 1) := by
  obtain ⟨h2, hr, hp⟩ := h
  refine ⟨by omega, by rw [bsRun_miss hb], ?_⟩
  intro p hlt hc
  by_cases h1 : p < i
  · exact hp p h1 hc
  · obtain rfl : p = i := by omega
    exact hn ⟨hc.2.2.2.1, hc.2.2.1, hc.2.2.2.2.1⟩
theorem scan_found {b : Nat → Int} {n i : Nat} (h : Scan b n i) (ho : b 0 = 32 ∧ b 1 = 34) (hq : b i = 34) (hl : i + 1 < n) (hs : b (i + 1) = 32) : Ans b n (some i) :=
  ⟨⟨ho, h.1, hl, hq, hs, h.2.1⟩, h.2.2⟩
theorem scan_end {b : Nat → Int} {n i : Nat} (h : Scan b n i) (hl : n ≤ i + 1) : Ans b n none := by
  intro p hc
  have := hc.2.2.1
  exact h.2.2 p (by omega) hc

/-- The model's relation at a place: no closing quote before it. -/
def Seek (b : Nat → Int) (n q : Nat) : Prop := 2 ≤ q ∧ ∀ p, p < q → ¬ Close b n p
theorem seek_start (b : Nat → Int) (n : Nat) : Seek b n 2 := ⟨Nat.le_refl _, fun p hp hc => by have := hc.2.1; omega⟩
theorem seek_step {b : Nat → Int} {n q : Nat} (h : Seek b n q) (hn : ¬ Close b n q) : Seek b n (q + 1) := by
  refine ⟨by have := h.1; omega, fun p hp hc => ?_⟩
  by_cases h1 : p < q
  · exact h.2 p h1 hc
  · obtain rfl : p = q := by omega
    exact hn hc
theorem seek_end {b : Nat → Int} {n q : Nat} (h : Seek b n q) (hl : n ≤ q + 1) : Ans b n none := by
  intro p hc
  have := hc.2.2.1
  exact h.2 p (by omega) hc
theorem seek_found {b : Nat → Int} {n q : Nat} (h : Seek b n q) (hc : Close b n q) : Ans b n (some q) := ⟨hc, h.2⟩

/-- What is handed back. -/
def rest (s : ByteArray) : Option Nat → ByteArray
  | some q => s.extract (q + 2) s.size
  | none => ⟨#[]⟩
end Go.Proofs.Qxb6603446a.Sk
