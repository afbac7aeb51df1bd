namespace Go.Proofs.Qxb6602877a
namespace Num

def dgt (c : Int) : Bool := decide (48 ≤ c) && decide (c ≤ 57)
def nz (c : Int) : Bool := decide (49 ≤ c) && decide (c ≤ 57)
def mark (c : Int) : Bool := c == 101 || c == 69
def sign (c : Int) : Bool := c == 43 || c == 45

def next (s c : Int) : Int :=
  if s = 0 then (if c = 45 then 1 else if c = 48 then 2 else if nz c = true then 3 else 9)
  else if s = 1 then (if c = 48 then 2 else if nz c = true then 3 else 9)
  else if s = 2 then (if c = 46 then 4 else if mark c = true then 6 else 9)
  else if s = 3 then (if dgt c = true then 3 else if c = 46 then 4 else if mark c = true then 6 else 9)
  else if s = 4 then (if dgt c = true then 5 else 9)
  else if s = 5 then (if dgt c = true then 5 else if mark c = true then 6 else 9)
  else if s = 6 then (if sign c = true then 7 else if dgt c = true then 8 else 9)
  else if s = 7 ∨ s = 8 then (if dgt c = true then 8 else 9)
  else 9

def acc (s : Int) : Bool := s == 2 || s == 3 || s == 5 || s == 8

def runA (C : Nat → Int) : Nat → Int → Nat → Int × Nat
  | 0, s, j => (s, j)
  | m + 1, s, j => if next s (C j) = 9 then (s, j) else runA C m (next s (C j)) (j + 1)

def fin (p : Int × Nat) : Nat × Bool := if acc p.1 = true then (p.2, true) else (0, false)

/-- What the automaton answers from state s at place j. -/
def R (C : Nat → Int) (n : Nat) (s : Int) (j : Nat) : Nat × Bool := fin (runA C (n - j) s j)

def dig (C : Nat → Int) : Nat → Nat → Nat
  | 0, j => j
  | m + 1, j => if dgt (C j) = true then dig C m (j + 1) else j

/-- The end of the run of digits at j. -/
def D (C : Nat → Int) (n j : Nat) : Nat := dig C (n - j) j

def tailX (C : Nat → Int) (n k : Nat) : Nat × Bool := if k < D C n k then (D C n k, true) else (0, false)
def tailS (C : Nat → Int) (n k : Nat) : Nat × Bool := if k < n ∧ sign (C k) = true then tailX C n (k + 1) else tailX C n k
def tailE (C : Nat → Int) (n j : Nat) : Nat × Bool := if j < n ∧ mark (C j) = true then tailS C n (j + 1) else (j, true)
def tailF (C : Nat → Int) (n j : Nat) : Nat × Bool :=
  if j < n ∧ C j = 46 then (if j + 1 < D C n (j + 1) then tailE C n (D C n (j + 1)) else (0, false)) else tailE C n j
def scan1 (C : Nat → Int) (n i : Nat) : Nat × Bool :=
  if i = n then (0, false) else if C i = 48 then tailF C n (i + 1) else if nz (C i) = true then tailF C n (D C n i) else (0, false)
def scan (C : Nat → Int) (n i : Nat) : Nat × Bool := if C i = 45 then scan1 C n (i + 1) else scan1 C n i

variable {C : Nat → Int} {n : Nat}

theorem R_end (s : Int) : R C n s n = fin (s, n) := by simp [R, runA]
theorem R_step {j : Nat} (s : Int) (h : j < n) : R C n s j = if next s (C j) = 9 then fin (s, j) else R C n (next s (C j)) (j + 1) := by
  obtain ⟨m, hm⟩ : ∃ m, n - j = m + 1 := ⟨n - j - 1, by omega⟩
  have h2 : n - (j + 1) = m := by omega
  unfold R
  rw [hm, h2]
  simp only [runA]
  split <;> rfl

theorem D_end : D C n n = n := by simp [D, dig]
theorem D_step {j : Nat} (h : j < n) : D C n j = if dgt (C j) = true then D C n (j + 1) else j := by
  obtain ⟨m, hm⟩ : ∃ m, n - j = m + 1 := ⟨n - j - 1, by omega⟩
  have h2 : n - (j + 1) = m := by omega
  unfold D
  rw [hm, h2]
  rfl

theorem D_spec : ∀ (m j : Nat), n - j = m → j ≤ n → j ≤ D C n j ∧ D C n j ≤ n ∧ (D C n j < n → dgt (C (D C n j)) = false)
  | 0, j, hm, hj => by
    obtain rfl : j = n := by omega
    rw [D_end]
    exact ⟨Nat.le_refl _, Nat.le_refl _, fun h => by omega⟩
  | m + 1, j, hm, hj => by
    rw [D_step (by omega)]
    split
    · obtain ⟨h1, h2, h3⟩ := D_spec m (j + 1) (by omega) (by omega)
      exact ⟨by omega, h2, h3⟩
    · rename_i h
      exact ⟨Nat.le_refl _, hj, fun _ => by simpa using h⟩

theorem D_ge {j : Nat} (hj : j ≤ n) : j ≤ D C n j := (D_spec _ j rfl hj).1
theorem D_le {j : Nat} (hj : j ≤ n) : D C n j ≤ n := (D_spec _ j rfl hj).2.1
theorem D_not {j : Nat} (hj : j ≤ n) (h : D C n j < n) : dgt (C (D C n j)) = false := (D_spec _ j rfl hj).2.2 h

/-- A state that keeps itself at digits is carried over the run. -/
theorem R_run {s : Int} (hs : ∀ c, dgt c = true → next s c = s) (h9 : s ≠ 9) : ∀ (m j : Nat), n - j = m → j ≤ n → R C n s j = R C n s (D C n j)
  | 0, j, hm, hj => by
    obtain rfl : j = n := by omega
    rw [D_end]
  | m + 1, j, hm, hj => by
    rw [D_step (by omega)]
    by_cases hd : dgt (C j) = true
    · rw [if_pos hd, R_step s (by omega), hs _ hd, if_neg h9]
      exact R_run hs h9 m (j + 1) (by omega) (by omega)
    · rw [if_neg hd]

theorem next3 (c : Int) (h : dgt c = true) : next 3 c = 3 := by simp [next, h]
theorem next5 (c : Int) (h : dgt c = true) : next 5 c = 5 := by simp [next, h]
theorem next8 (c : Int) (h : dgt c = true) : next 8 c = 8 := by simp [next, h]

theorem R8 {j : Nat} (hj : j ≤ n) : R C n 8 j = (D C n j, true) := by
  rw [R_run next8 (by decide) _ j rfl hj]
  have hle := D_le (C := C) hj
  by_cases h : D C n j < n
  · rw [R_step 8 h]
    have := D_not hj h
    simp [next, this, fin, acc]
  · have e : D C n j = n := by omega
    rw [e, R_end]
    simp [fin, acc]

theorem R7 {k : Nat} (hk : k ≤ n) : R C n 7 k = tailX C n k := by
  unfold tailX
  by_cases h : k < n
  · rw [R_step 7 h, D_step h]
    by_cases hd : dgt (C k) = true
    · have hg := D_ge (C := C) (n := n) (j := k + 1) (by omega)
      rw [if_pos hd, show next 7 (C k) = 8 by simp [next, hd], if_neg (by decide), R8 (by omega), if_pos (by omega)]
    · rw [if_neg hd, show next 7 (C k) = 9 by simp [next, hd], if_pos rfl, if_neg (by omega)]
      rfl
  · obtain rfl : k = n := by omega
    rw [R_end, D_end, if_neg (by omega)]
    rfl

theorem sign_not_dgt {c : Int} (h : sign c = true) : dgt c = false := by
  simp [sign] at h
  simp [dgt]
  omega

theorem R6 {k : Nat} (hk : k ≤ n) : R C n 6 k = tailS C n k := by
  unfold tailS
  by_cases h : k < n
  · by_cases hs : sign (C k) = true
    · rw [if_pos ⟨h, hs⟩, R_step 6 h, show next 6 (C k) = 7 by simp [next, hs], if_neg (by decide), R7 (by omega)]
    · rw [if_neg (fun e => hs e.2), ← R7 hk, R_step 6 h, R_step 7 h]
      by_cases hd : dgt (C k) = true
      · rw [show next 6 (C k) = 8 by simp [next, hs, hd], show next 7 (C k) = 8 by simp [next, hd]]
        rfl
      · rw [show next 6 (C k) = 9 by simp [next, hs, hd], show next 7 (C k) = 9 by simp [next, hd]]
        rfl
  · obtain rfl : k = n := by omega
    rw [R_end, if_neg (by omega), ← R7 hk, R_end]
    rfl

/-- From an accepting state with no digit (and, for 2 and 3, no point) ahead. -/
theorem R_E {s : Int} {j : Nat} (hj : j ≤ n) (hs : ∀ c, j < n → c = C j → next s c = if mark c = true then 6 else 9) (ha : acc s = true) : R C n s j = tailE C n j := by
  unfold tailE
  by_cases h : j < n
  · rw [R_step s h, hs _ h rfl]
    by_cases hm : mark (C j) = true
    · rw [if_pos hm, if_neg (by decide), if_pos ⟨h, hm⟩, R6 (by omega)]
    · rw [if_neg hm, if_pos rfl, if_neg (fun e => hm e.2)]
      simp [fin, ha]
  · obtain rfl : j = n := by omega
    rw [R_end, if_neg (by omega)]
    simp [fin, ha]

theorem R5 {j : Nat} (hj : j ≤ n) : R C n 5 j = tailE C n (D C n j) := by
  rw [R_run next5 (by decide) _ j rfl hj]
  refine R_E (D_le hj) (fun c h e => ?_) (by decide)
  subst e
  have := D_not hj h
  simp [next, this]

theorem R4 {k : Nat} (hk : k ≤ n) : R C n 4 k = if k < D C n k then tailE C n (D C n k) else (0, false) := by
  by_cases h : k < n
  · rw [R_step 4 h, D_step h]
    by_cases hd : dgt (C k) = true
    · have hg := D_ge (C := C) (n := n) (j := k + 1) (by omega)
      rw [if_pos hd, show next 4 (C k) = 5 by simp [next, hd], if_neg (by decide), R5 (by omega), if_pos (by omega)]
    · rw [if_neg hd, show next 4 (C k) = 9 by simp [next, hd], if_pos rfl, if_neg (by omega)]
      rfl
  · obtain rfl : k = n := by omega
    rw [R_end, D_end, if_neg (by omega)]
    rfl

theorem R_F {s : Int} {j : Nat} (hj : j ≤ n) (hs : j < n → next s (C j) = if C j = 46 then 4 else if mark (C j) = true then 6 else 9) (ha : acc s = true) : R C n s j = tailF C n j := by
  unfold tailF
  by_cases h : j < n ∧ C j = 46
  · rw [if_pos h, R_step s h.1, hs h.1, if_pos h.2, if_neg (by decide), R4 (by omega)]
  · rw [if_neg h]
    refine R_E hj (fun c hc e => ?_) ha
    subst e
    rw [hs hc, if_neg (fun e => h ⟨hc, e⟩)]

theorem R2 {j : Nat} (hj : j ≤ n) : R C n 2 j = tailF C n j := R_F hj (fun _ => by simp [next]) (by decide)

theorem R3 {j : Nat} (hj : j ≤ n) : R C n 3 j = tailF C n (D C n j) := by
  rw [R_run next3 (by decide) _ j rfl hj]
  refine R_F (D_le hj) (fun h => ?_) (by decide)
  have := D_not hj h
  simp [next, this]

theorem nz_dgt {c : Int} (h : nz c = true) : dgt c = true := by
  simp [nz] at h
  simp [dgt]
  omega

theorem R1 {j : Nat} (hj : j ≤ n) : R C n 1 j = scan1 C n j := by
  unfold scan1
  by_cases h : j = n
  · subst h
    rw [if_pos rfl, R_end]
    rfl
  · rw [if_neg h, R_step 1 (by omega)]
    by_cases h0 : C j = 48
    · rw [if_pos h0, show next 1 (C j) = 2 by simp [next, h0], if_neg (by decide), R2 (by omega)]
    · rw [if_neg h0]
      by_cases hn : nz (C j) = true
      · rw [if_pos hn, show next 1 (C j) = 3 by simp [next, h0, hn], if_neg (by decide), R3 (by omega), D_step (j := j) (by omega), if_pos (nz_dgt hn)]
      · rw [if_neg hn, show next 1 (C j) = 9 by simp [next, h0, hn], if_pos rfl]
        rfl

theorem R0 {j : Nat} (hj : j < n) : R C n 0 j = scan C n j := by
  unfold scan
  rw [R_step 0 hj]
  by_cases hm : C j = 45
  · rw [if_pos hm, show next 0 (C j) = 1 by simp [next, hm], if_neg (by decide), R1 (by omega)]
  · rw [if_neg hm, ← R1 (by omega), R_step 1 hj]
    have e : next 0 (C j) = next 1 (C j) := by simp [next, hm]
    rw [e]
    rfl

end Num
end Go.Proofs.Qxb6602877a
