import Derived.Test.Qxb6603473aDoorCan
namespace Go.Proofs.Qxb6603473aDoor

theorem digs_at {l : List UInt8} (h : digs l = true) {i : Nat} (hi : i < l.length) : 48 ≤ (l.getD i 0).toNat ∧ (l.getD i 0).toNat ≤ 57 := by
  have := List.all_eq_true.1 h (l.getD i 0) (by simp [List.getD, List.getElem?_eq_getElem hi])
  simpa [dig] using this
theorem digs_true {l : List UInt8} (h : ∀ i, i < l.length → 48 ≤ (l.getD i 0).toNat ∧ (l.getD i 0).toNat ≤ 57) : digs l = true := by
  refine List.all_eq_true.2 fun c hc => ?_
  obtain ⟨i, hi, e⟩ := List.getElem_of_mem hc
  have := h i hi
  simp only [List.getD, List.getElem?_eq_getElem hi, Option.getD_some, e] at this
  simp [dig, this]
theorem digs_false {l : List UInt8} {i : Nat} (hi : i < l.length) (h : ¬ (48 ≤ (l.getD i 0).toNat ∧ (l.getD i 0).toNat ≤ 57)) : digs l = false := by
  cases hd : digs l with
  | false => rfl
  | true => exact absurd (digs_at hd hi) h

theorem val_snoc : ∀ (l : List UInt8) (acc : Nat) (c : UInt8), val acc (l ++ [c]) = val acc l * 10 + (c.toNat - 48)
  | [], _, _ => rfl
  | _ :: r, _, c => val_snoc r _ c
theorem val_take (l : List UInt8) {k : Nat} (hk : k < l.length) : val 0 (l.take (k + 1)) = val 0 (l.take k) * 10 + ((l.getD k 0).toNat - 48) := by
  rw [List.take_succ_eq_append_getElem hk, val_snoc]
  simp [List.getD, List.getElem?_eq_getElem hk]

theorem val_same {l g : List UInt8} (hn : l.length = g.length) : ∀ k, k ≤ l.length → (∀ i, i < k → l.getD i 0 = g.getD i 0) → val 0 (l.take k) = val 0 (g.take k)
  | 0, _, _ => by simp
  | k + 1, hk, h => by rw [val_take l (by omega), val_take g (by omega), val_same hn k (by omega) (fun i hi => h i (by omega)), h k (by omega)]

theorem val_less {l g : List UInt8} (hn : l.length = g.length) (hl : digs l = true) (hg : digs g = true) {k : Nat} (hk : k < l.length) (h : ∀ i, i < k → l.getD i 0 = g.getD i 0) (hlt : (l.getD k 0).toNat < (g.getD k 0).toNat) :
    ∀ d, k + 1 + d ≤ l.length → val 0 (l.take (k + 1 + d)) < val 0 (g.take (k + 1 + d))
  | 0, _ => by
    rw [Nat.add_zero, val_take l hk, val_take g (by omega), val_same hn k (by omega) h]
    have := digs_at hl hk
    omega
  | d + 1, hd => by
    have ih := val_less hn hl hg hk h hlt d (by omega)
    have h1 := digs_at hl (i := k + 1 + d) (by omega)
    rw [← Nat.add_assoc, val_take l (by omega), val_take g (by omega)]
    omega

theorem val_lt_of {l g : List UInt8} (hn : l.length = g.length) (hl : digs l = true) (hg : digs g = true) {k : Nat} (hk : k < l.length) (h : ∀ i, i < k → l.getD i 0 = g.getD i 0) (hlt : (l.getD k 0).toNat < (g.getD k 0).toNat) : val 0 l < val 0 g := by
  have := val_less hn hl hg hk h hlt (l.length - (k + 1)) (by omega)
  rw [show k + 1 + (l.length - (k + 1)) = l.length by omega] at this
  rw [List.take_length] at this
  rw [hn, List.take_length] at this
  exact this

theorem val_lo : ∀ (l : List UInt8) (acc : Nat), acc * 10 ^ l.length ≤ val acc l
  | [], acc => by rw [List.length_nil, Nat.pow_zero, Nat.mul_one]; exact Nat.le_refl _
  | c :: r, acc => by
    have ih := val_lo r (acc * 10 + (c.toNat - 48))
    have e : acc * 10 ^ (c :: r).length = acc * 10 * 10 ^ r.length := by rw [List.length_cons, Nat.pow_succ, Nat.mul_comm (10 ^ r.length) 10, Nat.mul_assoc]
    rw [e]
    exact Nat.le_trans (Nat.mul_le_mul_right _ (by omega)) ih
theorem val_hi : ∀ (l : List UInt8) (acc : Nat), digs l = true → val acc l < (acc + 1) * 10 ^ l.length
  | [], acc, _ => by rw [List.length_nil, Nat.pow_zero, Nat.mul_one]; exact Nat.lt_succ_self _
  | c :: r, acc, hd => by
    have hc : 48 ≤ c.toNat ∧ c.toNat ≤ 57 := by simp [digs, dig] at hd; exact hd.1
    have hr : digs r = true := by simp [digs] at hd; simpa [digs] using hd.2
    have ih := val_hi r (acc * 10 + (c.toNat - 48)) hr
    have e : (acc + 1) * 10 ^ (c :: r).length = (acc + 1) * 10 * 10 ^ r.length := by rw [List.length_cons, Nat.pow_succ, Nat.mul_comm (10 ^ r.length) 10, Nat.mul_assoc]
    rw [e]
    exact Nat.lt_of_lt_of_le ih (Nat.mul_le_mul_right _ (by omega))

def limP : List UInt8 := [57, 50, 50, 51, 51, 55, 50, 48, 51, 54, 56, 53, 52, 55, 55, 53, 56, 48, 55]
def limN : List UInt8 := [57, 50, 50, 51, 51, 55, 50, 48, 51, 54, 56, 53, 52, 55, 55, 53, 56, 48, 56]
def lim (neg : Bool) : List UInt8 := if neg = true then limN else limP
theorem lim_len (neg : Bool) : (lim neg).length = 19 := by cases neg <;> rfl
theorem lim_digs (neg : Bool) : digs (lim neg) = true := by cases neg <;> decide
theorem lim_val (neg : Bool) : val 0 (lim neg) = if neg = true then 9223372036854775808 else 9223372036854775807 := by cases neg <;> decide

theorem canon_nil (neg : Bool) : canon [] neg = false := by simp [canon]
theorem canon_bad {l : List UInt8} (neg : Bool) (h : digs l = false) : canon l neg = false := by simp [canon, h]
theorem canon_zero {l : List UInt8} (neg : Bool) (h0 : l ≠ []) (h : digs l = true) (h1 : l.getD 0 0 = 48) : canon l neg = (decide (l.length = 1) && !neg) := by
  unfold canon
  rw [if_pos h1, h]
  simp [h0]
theorem canon_val {l : List UInt8} (neg : Bool) (h0 : l ≠ []) (h : digs l = true) (h1 : ¬ l.getD 0 0 = 48) : canon l neg = decide (val 0 l ≤ val 0 (lim neg)) := by
  unfold canon
  rw [if_neg h1, h, lim_val]
  simp [h0]

theorem canon_len {l : List UInt8} (neg : Bool) (h0 : l ≠ []) (h : digs l = true) (h1 : ¬ l.getD 0 0 = 48) (hl : ¬ l.length = 19) : canon l neg = decide (l.length < 19) := by
  rw [canon_val neg h0 h h1, lim_val]
  by_cases hs : l.length < 19
  · have := val_hi l 0 h
    have h2 : 10 ^ l.length ≤ 10 ^ 18 := Nat.pow_le_pow_right (by decide) (by omega)
    have e : (10 : Nat) ^ 18 = 1000000000000000000 := by decide
    rw [e] at h2
    simp only [hs]
    simp
    split <;> omega
  · cases l with
    | nil => exact absurd rfl h0
    | cons c r =>
      have hc := digs_at h (i := 0) (by simp)
      simp only [List.getD_cons_zero] at hc h1
      have h9 : c.toNat ≠ 48 := fun e => h1 (UInt8.toNat_inj.1 e)
      have h3 := val_lo r (0 * 10 + (c.toNat - 48))
      have h2 : 10 ^ 19 ≤ 10 ^ r.length := Nat.pow_le_pow_right (by decide) (by simp at hl hs; omega)
      have h4 : 1 * 10 ^ r.length ≤ (0 * 10 + (c.toNat - 48)) * 10 ^ r.length := Nat.mul_le_mul_right _ (by omega)
      have e : (10 : Nat) ^ 19 = 10000000000000000000 := by decide
      rw [e] at h2
      have e2 : val 0 (c :: r) = val (0 * 10 + (c.toNat - 48)) r := rfl
      rw [e2]
      simp only [hs]
      simp only [decide_false, decide_eq_false_iff_not]
      split <;> omega

theorem canon_lex {l : List UInt8} (neg : Bool) (h : digs l = true) (h1 : ¬ l.getD 0 0 = 48) (hl : l.length = 19) {k : Nat} (hk : k < 19) (hs : ∀ i, i < k → l.getD i 0 = (lim neg).getD i 0) (hne : ¬ l.getD k 0 = (lim neg).getD k 0) :
    canon l neg = decide ((l.getD k 0).toNat < ((lim neg).getD k 0).toNat) := by
  have h0 : l ≠ [] := fun e => by subst e; cases hl
  rw [canon_val neg h0 h h1]
  have hn : l.length = (lim neg).length := by rw [lim_len]; exact hl
  by_cases hlt : (l.getD k 0).toNat < ((lim neg).getD k 0).toNat
  · have := val_lt_of hn h (lim_digs neg) (by omega) hs hlt
    simp only [hlt, decide_true, decide_eq_true_eq]
    omega
  · have hne' : (l.getD k 0).toNat ≠ ((lim neg).getD k 0).toNat := fun e => hne (UInt8.toNat_inj.1 e)
    have := val_lt_of hn.symm (lim_digs neg) h (k := k) (by rw [lim_len]; exact hk) (fun i hi => (hs i hi).symm) (by omega)
    simp only [hlt, decide_false, decide_eq_false_iff_not]
    omega

theorem canon_same {l : List UInt8} (neg : Bool) (h : digs l = true) (h1 : ¬ l.getD 0 0 = 48) (hl : l.length = 19) (hs : ∀ i, i < 19 → l.getD i 0 = (lim neg).getD i 0) : canon l neg = true := by
  have h0 : l ≠ [] := fun e => by subst e; cases hl
  rw [canon_val neg h0 h h1]
  have hn : l.length = (lim neg).length := by rw [lim_len]; exact hl
  have := val_same hn 19 (by omega) hs
  rw [List.take_of_length_le (by omega), List.take_of_length_le (by rw [lim_len]; exact Nat.le_refl _)] at this
  simp [this]
end Go.Proofs.Qxb6603473aDoor
