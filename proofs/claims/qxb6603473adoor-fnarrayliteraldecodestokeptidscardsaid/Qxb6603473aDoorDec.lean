import Derived.Test.Qxb6603473aDoorLit
namespace Go.Proofs.Qxb6603473aDoor

/-! THE PLAIN LAW: where the parts of a literal lie. -/

/-- The literal of the first j strings of K, all kept, without its closing brace. -/
def eb (K : Nat → ByteArray) : Nat → List UInt8
  | 0 => [123]
  | j + 1 => eb K j ++ comma (eb K j) ++ elem (K j)

theorem eb_succ (K : Nat → ByteArray) (j : Nat) : eb K (j + 1) = eb K j ++ comma (eb K j) ++ elem (K j) := rfl

theorem eb_len (K : Nat → ByteArray) : ∀ j, j + 1 ≤ (eb K j).length
  | 0 => Nat.le_refl _
  | j + 1 => by
    have := eb_len K j
    simp only [eb_succ, elem, List.length_append, List.length_cons, List.length_nil]
    omega
theorem comma_eb (K : Nat → ByteArray) (j : Nat) : comma (eb K (j + 1)) = [44] := by
  have := eb_len K (j + 1)
  unfold comma
  rw [if_pos (by omega)]
theorem eb_congr {K K' : Nat → ByteArray} : ∀ j, (∀ i, i < j → K i = K' i) → eb K j = eb K' j
  | 0, _ => rfl
  | j + 1, h => by rw [eb_succ, eb_succ, eb_congr j (fun i hi => h i (by omega)), h j (by omega)]

/-- Where element j opens. -/
def pos (K : Nat → ByteArray) (j : Nat) : Nat := (eb K j).length + (comma (eb K j)).length
theorem pos_zero (K : Nat → ByteArray) : pos K 0 = 1 := rfl
theorem pos_succ (K : Nat → ByteArray) (j : Nat) : pos K (j + 1) = (eb K (j + 1)).length + 1 := by unfold pos; rw [comma_eb]; rfl
theorem eb_pos (K : Nat → ByteArray) (j : Nat) : (eb K (j + 1)).length = pos K j + 1 + (escTo (K j) (K j).size).length + 1 := by
  unfold pos
  simp only [eb_succ, elem, List.length_append, List.length_cons, List.length_nil]
  omega

/-- What follows behind element j. -/
theorem eb_end (K : Nat → ByteArray) (j : Nat) : ∀ d, ∃ C, eb K (j + 1 + d) ++ [125] = eb K (j + 1) ++ (if d = 0 then 125 else 44) :: C ∧ (d = 0 → C = [])
  | 0 => ⟨[], rfl, fun _ => rfl⟩
  | d + 1 => by
    obtain ⟨C, h, _⟩ := eb_end K j d
    refine ⟨if d = 0 then elem (K (j + 1)) ++ [125] else C.dropLast ++ [44] ++ elem (K (j + 1 + d)) ++ [125], ?_, fun h => by omega⟩
    rw [if_neg (by omega), ← Nat.add_assoc, eb_succ, show j + 1 + d = j + d + 1 by omega, comma_eb, show j + d + 1 = j + 1 + d by omega]
    by_cases hd : d = 0
    · subst hd
      simp
    · rw [if_neg hd] at h ⊢
      have hl := congrArg List.dropLast h
      rw [List.dropLast_concat] at hl
      rw [hl]
      cases C with
      | nil =>
        have h2 := congrArg List.getLast? h
        simp at h2
      | cons c r =>
        rw [List.dropLast_append_of_ne_nil (by simp), List.dropLast_cons_of_ne_nil (by simp)]
        simp

theorem bat_of (u : ByteArray) {A B : List UInt8} {c : UInt8} (h : u.data.toList = A ++ c :: B) : A.length < u.size ∧ bat u A.length = c := by
  have e : u.data.toList.length = u.size := Array.length_toList
  refine ⟨by rw [← e, h]; simp, ?_⟩
  unfold bat
  rw [h]
  simp [List.getD]

theorem escTo_pre (s : ByteArray) (r : Nat) : ∀ d, ∃ C, escTo s (r + d) = escTo s r ++ C
  | 0 => ⟨[], by simp⟩
  | d + 1 => by
    obtain ⟨C, h⟩ := escTo_pre s r d
    exact ⟨C ++ esc1 (bat s (r + d)), by rw [← Nat.add_assoc, escTo, h, List.append_assoc]⟩

/-- The text u is the literal of K's first m. -/
def IsLit (u : ByteArray) (K : Nat → ByteArray) (m : Nat) : Prop := u.data.toList = eb K m ++ [125]

theorem IsLit.size {u : ByteArray} {K : Nat → ByteArray} {m : Nat} (h : IsLit u K m) : u.size = (eb K m).length + 1 := by
  have e : u.data.toList.length = u.size := Array.length_toList
  rw [← e, h]; simp
theorem IsLit.first {u : ByteArray} {K : Nat → ByteArray} {m : Nat} (h : IsLit u K m) : bat u 0 = 123 := by
  have h1 : ∀ j, ∃ r, eb K j = 123 :: r := fun j => by
    induction j with
    | zero => exact ⟨[], rfl⟩
    | succ j ih =>
      obtain ⟨r, e⟩ := ih
      exact ⟨r ++ comma (eb K j) ++ elem (K j), by rw [eb_succ, e]; simp⟩
  obtain ⟨r, e⟩ := h1 m
  exact (bat_of u (A := []) (B := r ++ [125]) (c := 123) (by rw [h, e]; simp)).2
theorem IsLit.last {u : ByteArray} {K : Nat → ByteArray} {m : Nat} (h : IsLit u K m) : bat u (u.size - 1) = 125 := by
  rw [h.size]
  exact (bat_of u (B := []) h).2

theorem IsLit.split {u : ByteArray} {K : Nat → ByteArray} {m : Nat} (h : IsLit u K m) {j : Nat} (hj : j < m) :
    ∃ C, u.data.toList = eb K j ++ comma (eb K j) ++ [34] ++ escTo (K j) (K j).size ++ [34] ++ (if j + 1 = m then 125 else 44) :: C ∧ (j + 1 = m → C = []) := by
  obtain ⟨C, h1, h2⟩ := eb_end K j (m - (j + 1))
  rw [show j + 1 + (m - (j + 1)) = m by omega] at h1
  refine ⟨C, ?_, fun e => h2 (by omega)⟩
  rw [h, h1, eb_succ]
  by_cases e : j + 1 = m
  · rw [if_pos (by omega), if_pos e]; simp [elem]
  · rw [if_neg (by omega), if_neg e]; simp [elem]

theorem IsLit.open' {u : ByteArray} {K : Nat → ByteArray} {m : Nat} (h : IsLit u K m) {j : Nat} (hj : j < m) : pos K j < u.size ∧ bat u (pos K j) = 34 := by
  obtain ⟨C, hc, _⟩ := h.split hj
  have := bat_of u (A := eb K j ++ comma (eb K j)) (B := escTo (K j) (K j).size ++ [34] ++ (if j + 1 = m then 125 else 44) :: C) (c := 34) (by rw [hc]; simp)
  rw [List.length_append] at this
  exact this

/-- Where the r-th byte of element j is written. -/
def spot (K : Nat → ByteArray) (j r : Nat) : Nat := pos K j + 1 + (escTo (K j) r).length
theorem spot_zero (K : Nat → ByteArray) (j : Nat) : spot K j 0 = pos K j + 1 := rfl
theorem spot_succ (K : Nat → ByteArray) (j r : Nat) : spot K j (r + 1) = spot K j r + (esc1 (bat (K j) r)).length := by
  unfold spot; simp only [escTo, List.length_append]; omega

theorem IsLit.inner {u : ByteArray} {K : Nat → ByteArray} {m : Nat} (h : IsLit u K m) {j : Nat} (hj : j < m) {r : Nat} (hr : r < (K j).size) :
    ∃ B, u.data.toList = (eb K j ++ comma (eb K j) ++ [34] ++ escTo (K j) r) ++ esc1 (bat (K j) r) ++ B := by
  obtain ⟨C, hc, _⟩ := h.split hj
  obtain ⟨D, hd⟩ := escTo_pre (K j) (r + 1) ((K j).size - (r + 1))
  rw [show r + 1 + ((K j).size - (r + 1)) = (K j).size by omega] at hd
  exact ⟨D ++ [34] ++ (if j + 1 = m then 125 else 44) :: C, by rw [hc, hd, escTo]; simp⟩
theorem spot_len (K : Nat → ByteArray) (j r : Nat) : (eb K j ++ comma (eb K j) ++ [34] ++ escTo (K j) r).length = spot K j r := by
  unfold spot pos
  simp only [List.length_append, List.length_cons, List.length_nil]

theorem IsLit.plain {u : ByteArray} {K : Nat → ByteArray} {m : Nat} (h : IsLit u K m) {j : Nat} (hj : j < m) {r : Nat} (hr : r < (K j).size) (hc : ¬ (bat (K j) r = 34 ∨ bat (K j) r = 92)) :
    spot K j r < u.size ∧ bat u (spot K j r) = bat (K j) r ∧ spot K j (r + 1) = spot K j r + 1 := by
  obtain ⟨B, hB⟩ := h.inner hj hr
  have e : esc1 (bat (K j) r) = [bat (K j) r] := by unfold esc1; rw [if_neg hc]
  rw [e] at hB
  have := bat_of u (A := eb K j ++ comma (eb K j) ++ [34] ++ escTo (K j) r) (B := B) (c := bat (K j) r) (by rw [hB]; simp)
  rw [spot_len] at this
  exact ⟨this.1, this.2, by rw [spot_succ, e]; rfl⟩
theorem IsLit.escaped {u : ByteArray} {K : Nat → ByteArray} {m : Nat} (h : IsLit u K m) {j : Nat} (hj : j < m) {r : Nat} (hr : r < (K j).size) (hc : bat (K j) r = 34 ∨ bat (K j) r = 92) :
    spot K j r + 1 < u.size ∧ bat u (spot K j r) = 92 ∧ bat u (spot K j r + 1) = bat (K j) r ∧ spot K j (r + 1) = spot K j r + 2 := by
  obtain ⟨B, hB⟩ := h.inner hj hr
  have e : esc1 (bat (K j) r) = [92, bat (K j) r] := by unfold esc1; rw [if_pos hc]
  rw [e] at hB
  have h1 := bat_of u (A := eb K j ++ comma (eb K j) ++ [34] ++ escTo (K j) r) (B := bat (K j) r :: B) (c := 92) (by rw [hB]; simp)
  have h2 := bat_of u (A := eb K j ++ comma (eb K j) ++ [34] ++ escTo (K j) r ++ [92]) (B := B) (c := bat (K j) r) (by rw [hB]; simp)
  rw [spot_len] at h1
  rw [List.length_append, spot_len] at h2
  exact ⟨h2.1, h1.2, h2.2, by rw [spot_succ, e]; rfl⟩
theorem IsLit.close {u : ByteArray} {K : Nat → ByteArray} {m : Nat} (h : IsLit u K m) {j : Nat} (hj : j < m) :
    bat u (spot K j (K j).size) = 34 ∧ spot K j (K j).size + 1 < u.size ∧ bat u (spot K j (K j).size + 1) = (if j + 1 = m then 125 else 44) ∧ (j + 1 = m → u.size = spot K j (K j).size + 2) ∧ pos K (j + 1) = spot K j (K j).size + 2 := by
  obtain ⟨C, hc, hC⟩ := h.split hj
  have h1 := bat_of u (A := eb K j ++ comma (eb K j) ++ [34] ++ escTo (K j) (K j).size) (B := (if j + 1 = m then 125 else 44) :: C) (c := 34) (by rw [hc]; simp)
  have h2 := bat_of u (A := eb K j ++ comma (eb K j) ++ [34] ++ escTo (K j) (K j).size ++ [34]) (B := C) (c := if j + 1 = m then 125 else 44) (by rw [hc])
  rw [spot_len] at h1
  rw [List.length_append, spot_len] at h2
  refine ⟨h1.2, h2.1, h2.2, fun e => ?_, ?_⟩
  · subst e
    rw [h.size, eb_pos]
    unfold spot
    omega
  · rw [pos_succ, eb_pos]
    unfold spot
    omega
end Go.Proofs.Qxb6603473aDoor
