namespace Go.Proofs.Qxb6603514a.Js
set_option linter.unusedVariables false

/-! The plain readers over a row of bytes 'B' of length 'n': no Go in sight. -/
section
variable (B : Nat → Int) (n : Nat)

def isWs (c : Int) : Bool := c == 32 || c == 9 || c == 10 || c == 13
def isDel (c : Int) : Bool := isWs c || c == 44 || c == 93 || c == 125
def notDel (c : Int) : Bool := !isDel c
/-- A byte of a number or of a word: no delimiter, no quote, no opening bracket. -/
def okCh (c : Int) : Bool := !isDel c && !(c == 34) && !(c == 91) && !(c == 123)

/-- The first place at or behind i where p fails, or n. -/
def spF (p : Int → Bool) : Nat → Nat → Nat
  | 0, i => i
  | f + 1, i => if i < n ∧ p (B i) = true then spF p f (i + 1) else i
def sp (p : Int → Bool) (i : Nat) : Nat := spF B n p (n - i) i
def sk (i : Nat) : Nat := sp B n isWs i

theorem sp_go {p : Int → Bool} {i : Nat} (h : i < n) (hp : p (B i) = true) : sp B n p i = sp B n p (i + 1) := by
  unfold sp
  rw [show n - i = (n - (i + 1)) + 1 from by omega]
  simp [spF, h, hp]
theorem sp_end {p : Int → Bool} {i : Nat} (h : ¬ (i < n ∧ p (B i) = true)) : sp B n p i = i := by
  unfold sp
  match n - i with
  | 0 => rfl
  | f + 1 => simp only [spF]; rw [if_neg h]
theorem spF_spec (p : Int → Bool) : ∀ f i, n - i ≤ f → i ≤ spF B n p f i ∧ (i ≤ n → spF B n p f i ≤ n) ∧ (spF B n p f i < n → p (B (spF B n p f i)) = false) ∧ ∀ m, i ≤ m → m < spF B n p f i → p (B m) = true
  | 0, i, h => by
    simp only [spF]
    exact ⟨Nat.le_refl _, fun h => h, fun h' => by omega, fun m h1 h2 => by omega⟩
  | f + 1, i, h => by
    simp only [spF]
    by_cases c : i < n ∧ p (B i) = true
    · rw [if_pos c]
      obtain ⟨h1, h2, h3, h4⟩ := spF_spec p f (i + 1) (by omega)
      refine ⟨by omega, fun _ => h2 (by omega), h3, fun m hm hl => ?_⟩
      by_cases e : m = i
      · subst e; exact c.2
      · exact h4 m (by omega) hl
    · rw [if_neg c]
      refine ⟨Nat.le_refl _, fun h => h, fun h' => ?_, fun m h1 h2 => by omega⟩
      cases hp : p (B i)
      · rfl
      · exact absurd ⟨h', hp⟩ c
theorem le_sp (p : Int → Bool) (i : Nat) : i ≤ sp B n p i := (spF_spec B n p (n - i) i (Nat.le_refl _)).1
theorem sp_le {p : Int → Bool} {i : Nat} (h : i ≤ n) : sp B n p i ≤ n := (spF_spec B n p (n - i) i (Nat.le_refl _)).2.1 h
theorem sp_at {p : Int → Bool} {i : Nat} (h : sp B n p i < n) : p (B (sp B n p i)) = false := (spF_spec B n p (n - i) i (Nat.le_refl _)).2.2.1 h
theorem sp_mid {p : Int → Bool} {i m : Nat} (h : i ≤ m) (h' : m < sp B n p i) : p (B m) = true := (spF_spec B n p (n - i) i (Nat.le_refl _)).2.2.2 m h h'
theorem le_sk (i : Nat) : i ≤ sk B n i := le_sp B n _ i
theorem sk_le {i : Nat} (h : i ≤ n) : sk B n i ≤ n := sp_le B n h
/-- A run up to e that stops there ends at e. -/
theorem sp_is {p : Int → Bool} : ∀ (d i e : Nat), e = i + d → e ≤ n → (∀ m, i ≤ m → m < e → p (B m) = true) → (e < n → p (B e) = false) → sp B n p i = e
  | 0, i, e, he, _, _, hs => by
    subst he
    refine sp_end B n fun c => ?_
    have := hs c.1
    rw [this] at c
    exact absurd c.2 (by simp)
  | d + 1, i, e, he, hn, hm, hs => by
    rw [sp_go B n (by omega) (hm i (Nat.le_refl _) (by omega))]
    exact sp_is d (i + 1) e (by omega) hn (fun m h1 h2 => hm m (by omega) h2) hs

/-- stringEnd's loop. -/
def sF : Nat → Nat → Nat
  | 0, _ => n
  | f + 1, i => if i < n then (if B i = 92 then sF f (i + 2) else if B i = 34 then i + 1 else sF f (i + 1)) else n
def sE (i : Nat) : Nat := sF B n (n - i) i
theorem sF_any : ∀ f g i, n - i ≤ f → n - i ≤ g → sF B n f i = sF B n g i
  | 0, 0, _, _, _ => rfl
  | 0, g + 1, i, h, _ => by simp only [sF]; rw [if_neg (by omega)]
  | f + 1, 0, i, _, h => by simp only [sF]; rw [if_neg (by omega)]
  | f + 1, g + 1, i, h1, h2 => by
    simp only [sF]
    rw [sF_any f g (i + 2) (by omega) (by omega), sF_any f g (i + 1) (by omega) (by omega)]
theorem sE_eq (i : Nat) : sE B n i = if i < n then (if B i = 92 then sE B n (i + 2) else if B i = 34 then i + 1 else sE B n (i + 1)) else n := by
  unfold sE
  by_cases h : i < n
  · rw [show n - i = (n - (i + 1)) + 1 from by omega]
    simp only [sF]
    rw [sF_any B n (n - (i + 1)) (n - (i + 2)) (i + 2) (by omega) (by omega)]
  · rw [if_neg h, show n - i = 0 from by omega]; rfl
theorem sE_ge {i : Nat} (h : n ≤ i) : sE B n i = n := by rw [sE_eq, if_neg (by omega)]
theorem sE_bs {i : Nat} (h : i < n) (hb : B i = 92) : sE B n i = sE B n (i + 2) := by rw [sE_eq, if_pos h, if_pos hb]
theorem sE_q {i : Nat} (h : i < n) (hb : B i = 34) : sE B n i = i + 1 := by rw [sE_eq, if_pos h, if_neg (by omega), if_pos hb]
theorem sE_go {i : Nat} (h : i < n) (h1 : B i ≠ 92) (h2 : B i ≠ 34) : sE B n i = sE B n (i + 1) := by rw [sE_eq, if_pos h, if_neg h1, if_neg h2]
theorem sF_bd : ∀ f i, sF B n f i ≤ n ∧ (i ≤ n → i ≤ sF B n f i)
  | 0, i => by simp only [sF]; exact ⟨Nat.le_refl _, fun h => h⟩
  | f + 1, i => by
    simp only [sF]
    by_cases h : i < n
    · rw [if_pos h]
      by_cases hb : B i = 92
      · rw [if_pos hb]
        obtain ⟨h1, h2⟩ := sF_bd f (i + 2)
        refine ⟨h1, fun _ => ?_⟩
        by_cases h3 : i + 2 ≤ n
        · have := h2 h3; omega
        · have e : sF B n f (i + 2) = n := by
            match f with
            | 0 => rfl
            | f + 1 => simp only [sF]; rw [if_neg (by omega)]
          omega
      · rw [if_neg hb]
        by_cases hq : B i = 34
        · rw [if_pos hq]; exact ⟨by omega, fun _ => by omega⟩
        · rw [if_neg hq]
          obtain ⟨h1, h2⟩ := sF_bd f (i + 1)
          exact ⟨h1, fun _ => by have := h2 (by omega); omega⟩
    · rw [if_neg h]; exact ⟨Nat.le_refl _, fun h => h⟩
theorem sE_le (i : Nat) : sE B n i ≤ n := (sF_bd B n _ i).1
theorem le_sE {i : Nat} (h : i ≤ n) : i ≤ sE B n i := (sF_bd B n _ i).2 h

/-- valueEnd's second loop, at a depth. -/
def vF : Nat → Nat → Int → Nat
  | 0, _, _ => n
  | f + 1, i, d => if i < n then (if B i = 34 then vF f (sE B n (i + 1)) d else if B i = 91 ∨ B i = 123 then vF f (i + 1) (d + 1)
      else if B i = 93 ∨ B i = 125 then (if d - 1 = 0 then i + 1 else vF f (i + 1) (d - 1)) else vF f (i + 1) d) else n
def vE (i : Nat) (d : Int) : Nat := vF B n (n - i) i d
theorem vF_any : ∀ f g i d, n - i ≤ f → n - i ≤ g → vF B n f i d = vF B n g i d
  | 0, 0, _, _, _, _ => rfl
  | 0, g + 1, i, d, h, _ => by simp only [vF]; rw [if_neg (by omega)]
  | f + 1, 0, i, d, _, h => by simp only [vF]; rw [if_neg (by omega)]
  | f + 1, g + 1, i, d, h1, h2 => by
    simp only [vF]
    by_cases h : i < n
    · have hs := le_sE B n (i := i + 1) (by omega)
      rw [vF_any f g (sE B n (i + 1)) d (by omega) (by omega), vF_any f g (i + 1) (d + 1) (by omega) (by omega), vF_any f g (i + 1) (d - 1) (by omega) (by omega), vF_any f g (i + 1) d (by omega) (by omega)]
    · rw [if_neg h, if_neg h]
theorem vE_eq (i : Nat) (d : Int) : vE B n i d = if i < n then (if B i = 34 then vE B n (sE B n (i + 1)) d else if B i = 91 ∨ B i = 123 then vE B n (i + 1) (d + 1)
      else if B i = 93 ∨ B i = 125 then (if d - 1 = 0 then i + 1 else vE B n (i + 1) (d - 1)) else vE B n (i + 1) d) else n := by
  unfold vE
  by_cases h : i < n
  · have hs := le_sE B n (i := i + 1) (by omega)
    rw [show n - i = (n - (i + 1)) + 1 from by omega]
    simp only [vF]
    rw [vF_any B n (n - (i + 1)) (n - sE B n (i + 1)) (sE B n (i + 1)) d (by omega) (by omega)]
  · rw [if_neg h, show n - i = 0 from by omega]; rfl
theorem vE_ge {i : Nat} {d : Int} (h : n ≤ i) : vE B n i d = n := by rw [vE_eq, if_neg (by omega)]
theorem vE_q {i : Nat} {d : Int} (h : i < n) (hb : B i = 34) : vE B n i d = vE B n (sE B n (i + 1)) d := by rw [vE_eq, if_pos h, if_pos hb]
theorem vE_open {i : Nat} {d : Int} (h : i < n) (hb : B i = 91 ∨ B i = 123) : vE B n i d = vE B n (i + 1) (d + 1) := by rw [vE_eq, if_pos h, if_neg (by omega), if_pos hb]
theorem vE_out {i : Nat} {d : Int} (h : i < n) (hb : B i = 93 ∨ B i = 125) (hd : d - 1 = 0) : vE B n i d = i + 1 := by rw [vE_eq, if_pos h, if_neg (by omega), if_neg (by omega), if_pos hb, if_pos hd]
theorem vE_close {i : Nat} {d : Int} (h : i < n) (hb : B i = 93 ∨ B i = 125) (hd : d - 1 ≠ 0) : vE B n i d = vE B n (i + 1) (d - 1) := by rw [vE_eq, if_pos h, if_neg (by omega), if_neg (by omega), if_pos hb, if_neg hd]
theorem vE_go {i : Nat} {d : Int} (h : i < n) (h1 : B i ≠ 34) (h2 : ¬ (B i = 91 ∨ B i = 123)) (h3 : ¬ (B i = 93 ∨ B i = 125)) : vE B n i d = vE B n (i + 1) d := by rw [vE_eq, if_pos h, if_neg h1, if_neg h2, if_neg h3]

/-- valueEnd. -/
def valEnd (i : Nat) : Nat := if B i = 34 then sE B n (i + 1) else if B i = 91 ∨ B i = 123 then vE B n i 0 else sp B n notDel i
def kindOf (c : Int) : Int := if c = 123 then 6 else if c = 91 then 5 else if c = 34 then 4 else if c = 116 ∨ c = 102 then 2 else if c = 110 then 1 else 3

/-! ### Passing over a stretch at any depth of at least one -/
def Pass (i j : Nat) : Prop := ∀ d : Int, 1 ≤ d → vE B n i d = vE B n j d
theorem Pass.rfl' {i : Nat} : Pass B n i i := fun _ _ => rfl
theorem Pass.trans' {i j k : Nat} (h : Pass B n i j) (h' : Pass B n j k) : Pass B n i k := fun d hd => (h d hd).trans (h' d hd)
theorem pass_one {i : Nat} (h : i < n) (h1 : B i ≠ 34) (h2 : ¬ (B i = 91 ∨ B i = 123)) (h3 : ¬ (B i = 93 ∨ B i = 125)) : Pass B n i (i + 1) := fun _ _ => vE_go B n h h1 h2 h3
theorem pass_run : ∀ (d i e : Nat), e = i + d → e ≤ n → (∀ m, i ≤ m → m < e → B m ≠ 34 ∧ ¬ (B m = 91 ∨ B m = 123) ∧ ¬ (B m = 93 ∨ B m = 125)) → Pass B n i e
  | 0, i, e, he, _, _ => by subst he; exact Pass.rfl' B n
  | d + 1, i, e, he, hn, hm => by
    obtain ⟨h1, h2, h3⟩ := hm i (Nat.le_refl _) (by omega)
    exact (pass_one B n (by omega) h1 h2 h3).trans' B n (pass_run d (i + 1) e (by omega) hn (fun m h1 h2 => hm m (by omega) h2))
theorem ws_cases {c : Int} (h : isWs c = true) : c = 32 ∨ c = 9 ∨ c = 10 ∨ c = 13 := by
  simp [isWs] at h; omega
theorem pass_sk {i : Nat} (h : i ≤ n) : Pass B n i (sk B n i) := by
  refine pass_run B n (sk B n i - i) i (sk B n i) (by have := le_sk B n i; omega) (sk_le B n h) fun m h1 h2 => ?_
  have := ws_cases (sp_mid B n h1 h2)
  omega
theorem pass_str {i : Nat} (h : i < n) (hb : B i = 34) : Pass B n i (sE B n (i + 1)) := fun _ _ => vE_q B n h hb
theorem okCh_cases {c : Int} (h : okCh c = true) : isDel c = false ∧ c ≠ 34 ∧ ¬ (c = 91 ∨ c = 123) ∧ ¬ (c = 93 ∨ c = 125) := by
  simp [okCh] at h
  obtain ⟨⟨⟨h1, h2⟩, h3⟩, h4⟩ := h
  have h5 := h1
  simp [isDel] at h5
  exact ⟨h1, h2, by omega, by omega⟩

/-! ### What is known of a value that the model has read -/
def GoodVal (j ve : Nat) (k : Int) : Prop :=
  j < ve ∧ ve ≤ n ∧ k = kindOf (B j) ∧ ¬ (B j = 93 ∨ B j = 125) ∧ Pass B n j ve ∧
  ((B j = 34 ∧ sE B n (j + 1) = ve) ∨ ((B j = 91 ∨ B j = 123) ∧ vE B n j 0 = ve) ∨ (∀ m, j ≤ m → m < ve → okCh (B m) = true))

theorem goodVal_end {j ve : Nat} {k : Int} (h : GoodVal B n j ve k) (hl : sk B n ve < n) (hb : B (sk B n ve) = 44 ∨ B (sk B n ve) = 93 ∨ B (sk B n ve) = 125) : valEnd B n j = ve := by
  obtain ⟨h1, h2, _, _, _, hc⟩ := h
  unfold valEnd
  rcases hc with ⟨hq, he⟩ | ⟨hq, he⟩ | hm
  · rw [if_pos hq, he]
  · rw [if_neg (by omega), if_pos hq, he]
  · have h0 := okCh_cases (hm j (Nat.le_refl _) h1)
    rw [if_neg h0.2.1, if_neg h0.2.2.1]
    refine sp_is B n (ve - j) j ve (by omega) h2 (fun m h1 h2 => ?_) (fun hlt => ?_)
    · simp [notDel, (okCh_cases (hm m h1 h2)).1]
    · have hle := le_sk B n ve
      by_cases e : ve = sk B n ve
      · rw [e]
        simp [notDel, isDel]
        omega
      · have hw := sp_mid B n (p := isWs) (i := ve) (m := ve) (Nat.le_refl _) (by show ve < sk B n ve; omega)
        simp [notDel, isDel, hw]

theorem good_str {j ve : Nat} (h : j < n) (hq : B j = 34) (he : sE B n (j + 1) = ve) : GoodVal B n j ve 4 := by
  have h1 := le_sE B n (i := j + 1) (by omega)
  have h2 := sE_le B n (j + 1)
  refine ⟨by omega, by omega, by simp [kindOf, hq], by omega, ?_, .inl ⟨hq, he⟩⟩
  rw [← he]
  exact pass_str B n h hq
theorem good_run {j ve : Nat} {k : Int} (h : j < ve) (hn : ve ≤ n) (hk : k = kindOf (B j)) (hm : ∀ m, j ≤ m → m < ve → okCh (B m) = true) : GoodVal B n j ve k := by
  refine ⟨h, hn, hk, (okCh_cases (hm j (Nat.le_refl _) h)).2.2.2, ?_, .inr (.inr hm)⟩
  exact pass_run B n (ve - j) j ve (by omega) hn fun m h1 h2 => (okCh_cases (hm m h1 h2)).2

end

/-- A member: where it starts, where its name ends (objects), where its value starts and ends, its kind. -/
structure Mem where
  s : Nat
  ne : Nat
  vs : Nat
  ve : Nat
  k : Int

section
variable (B : Nat → Int) (n : Nat) (obj : Bool)

def MemOK (m : Mem) : Prop :=
  ((obj = true ∧ m.s < n ∧ B m.s = 34 ∧ sE B n (m.s + 1) = m.ne ∧ sk B n m.ne < n ∧ B (sk B n m.ne) = 58 ∧ m.vs = sk B n (sk B n m.ne + 1)) ∨ (obj = false ∧ m.vs = m.s)) ∧ GoodVal B n m.vs m.ve m.k

def closer : Int := if obj = true then 125 else 93
theorem closer_or : closer obj = 93 ∨ closer obj = 125 := by cases obj <;> simp [closer]

/-- From place a the members ms, each with a comma behind it, lead to place j. -/
def Pre : Nat → List Mem → Nat → Prop
  | a, [], j => j = a
  | a, m :: ms, j => m.s = a ∧ MemOK B n obj m ∧ sk B n m.ve < n ∧ B (sk B n m.ve) = 44 ∧ Pre (sk B n (sk B n m.ve + 1)) ms j
/-- From place a the members ms lead to the container's end e. -/
def Done : Nat → List Mem → Nat → Prop
  | a, [], e => a < n ∧ B a = closer obj ∧ e = a + 1
  | a, m :: ms, e => m.s = a ∧ MemOK B n obj m ∧ sk B n m.ve < n ∧ ((B (sk B n m.ve) = closer obj ∧ ms = [] ∧ e = sk B n m.ve + 1) ∨ (B (sk B n m.ve) = 44 ∧ ms ≠ [] ∧ Done (sk B n (sk B n m.ve + 1)) ms e))

theorem pre_snoc (m : Mem) (hm : MemOK B n obj m) (hl : sk B n m.ve < n) (hc : B (sk B n m.ve) = 44) : ∀ (ms : List Mem) (a : Nat), Pre B n obj a ms m.s → Pre B n obj a (ms ++ [m]) (sk B n (sk B n m.ve + 1))
  | [], a, h => ⟨h, hm, hl, hc, rfl⟩
  | x :: ms, a, h => ⟨h.1, h.2.1, h.2.2.1, h.2.2.2.1, pre_snoc m hm hl hc ms _ h.2.2.2.2⟩
theorem pre_done (m : Mem) (hm : MemOK B n obj m) (hl : sk B n m.ve < n) (hc : B (sk B n m.ve) = closer obj) : ∀ (ms : List Mem) (a : Nat), Pre B n obj a ms m.s → Done B n obj a (ms ++ [m]) (sk B n m.ve + 1)
  | [], a, h => ⟨h, hm, hl, .inl ⟨hc, rfl, rfl⟩⟩
  | x :: ms, a, h => ⟨h.1, h.2.1, h.2.2.1, .inr ⟨h.2.2.2.1, by simp, pre_done m hm hl hc ms _ h.2.2.2.2⟩⟩

theorem memOK_lt {m : Mem} (h : MemOK B n obj m) : m.s ≤ m.vs ∧ m.vs < m.ve ∧ m.ve ≤ n := by
  obtain ⟨h1, h2⟩ := h
  refine ⟨?_, h2.1, h2.2.1⟩
  rcases h1 with ⟨_, hs, _, he, _, _, hv⟩ | ⟨_, hv⟩
  · have a1 := le_sE B n (i := m.s + 1) (by omega)
    have a2 := le_sk B n m.ne
    have a3 := le_sk B n (sk B n m.ne + 1)
    omega
  · omega
theorem pre_len : ∀ (ms : List Mem) (a j : Nat), Pre B n obj a ms j → a + ms.length ≤ j
  | [], a, j, h => by simp [Pre] at h; simp; omega
  | m :: ms, a, j, h => by
    have h1 := pre_len ms _ _ h.2.2.2.2
    have h2 := memOK_lt B n obj h.2.1
    have h3 := le_sk B n m.ve
    have h4 := le_sk B n (sk B n m.ve + 1)
    have h5 := h.1
    simp; omega
theorem done_len : ∀ (ms : List Mem) (a e : Nat), Done B n obj a ms e → a + ms.length < e ∧ e ≤ n
  | [], a, e, h => by have h1 := h.1; have h2 := h.2.2; simp; omega
  | m :: ms, a, e, h => by
    obtain ⟨hs, hm, hl, hc⟩ := h
    have h2 := memOK_lt B n obj hm
    have h3 := le_sk B n m.ve
    rcases hc with ⟨_, rfl, rfl⟩ | ⟨_, _, hd⟩
    · simp; omega
    · have h1 := done_len ms _ _ hd
      have h4 := le_sk B n (sk B n m.ve + 1)
      simp; omega

/-- A member is passed over, up to the value's end. -/
theorem memOK_pass {m : Mem} (h : MemOK B n obj m) : Pass B n m.s m.ve := by
  obtain ⟨h1, h2⟩ := h
  have hp := h2.2.2.2.2.1
  rcases h1 with ⟨_, hs, hq, he, hl, hb, hv⟩ | ⟨_, hv⟩
  · have a1 : Pass B n m.s m.ne := by rw [← he]; exact pass_str B n hs hq
    have hne : m.ne ≤ n := by rw [← he]; exact sE_le B n _
    have a2 := pass_sk B n hne
    have a3 := pass_one B n hl (by omega) (by omega) (by omega)
    have a4 := pass_sk B n (i := sk B n m.ne + 1) (by omega)
    rw [← hv] at a4
    exact (((a1.trans' B n a2).trans' B n a3).trans' B n a4).trans' B n hp
  · rw [← hv]; exact hp
theorem done_pass : ∀ (ms : List Mem) (a e : Nat), Done B n obj a ms e → ∃ c, c < n ∧ B c = closer obj ∧ e = c + 1 ∧ Pass B n a c
  | [], a, e, h => ⟨a, h.1, h.2.1, h.2.2, Pass.rfl' B n⟩
  | m :: ms, a, e, h => by
    obtain ⟨hs, hm, hl, hc⟩ := h
    have hp := memOK_pass B n obj hm
    have hv := memOK_lt B n obj hm
    rw [hs] at hp
    have a2 := hp.trans' B n (pass_sk B n hv.2.2)
    rcases hc with ⟨hb, rfl, rfl⟩ | ⟨hb, _, hd⟩
    · exact ⟨_, hl, hb, rfl, a2⟩
    · obtain ⟨c, h1, h2, h3, h4⟩ := done_pass ms _ _ hd
      exact ⟨c, h1, h2, h3, ((a2.trans' B n (pass_one B n hl (by omega) (by omega) (by omega))).trans' B n (pass_sk B n (by omega))).trans' B n h4⟩
/-- A container that the model has read, as a value. -/
theorem good_cont {i e : Nat} {ms : List Mem} (h : i < n) (hb : B i = if obj = true then 123 else 91) (hd : Done B n obj (sk B n (i + 1)) ms e) : GoodVal B n i e (if obj = true then 6 else 5) := by
  obtain ⟨c, h1, h2, h3, h4⟩ := done_pass B n obj _ _ _ hd
  have hl := done_len B n obj _ _ _ hd
  have hs := le_sk B n (i + 1)
  have ho : B i = 91 ∨ B i = 123 := by rw [hb]; cases obj <;> simp
  have hc : B c = 93 ∨ B c = 125 := by rw [h2]; exact closer_or obj
  have hp := (pass_sk B n (i := i + 1) (by omega)).trans' B n h4
  have hd' : ∀ d : Int, 0 ≤ d → vE B n i d = vE B n c (d + 1) := fun d h0 => (vE_open B n h ho).trans (hp (d + 1) (by omega))
  refine ⟨by omega, hl.2, ?_, by omega, ?_, .inr (.inl ⟨ho, ?_⟩)⟩
  · rw [hb]; cases obj <;> simp [kindOf]
  · intro d h0
    rw [hd' d (by omega), vE_close B n h1 hc (by omega), h3, show d + 1 - 1 = d from by omega]
  · rw [hd' 0 (by omega), vE_out B n h1 hc (by omega), h3]
end
end Go.Proofs.Qxb6603514a.Js
