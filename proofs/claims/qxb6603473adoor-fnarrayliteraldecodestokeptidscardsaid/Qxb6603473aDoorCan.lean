import Derived.Test.Qxb6603473aDoorLit
import Derived.Lib.ParseIntBCases
namespace Go.Proofs.Qxb6603473aDoor

/-! THE PLAIN LAW OF A bigint: what strconv.ParseInt takes, with a leading digit that is not zero, is what a comparison of digit strings takes. -/

def val (acc : Nat) : List UInt8 → Nat
  | [] => acc
  | c :: r => val (acc * 10 + (c.toNat - 48)) r
def dig (c : UInt8) : Bool := decide (48 ≤ c.toNat ∧ c.toNat ≤ 57)
def digs (l : List UInt8) : Bool := l.all dig

theorem val_ge : ∀ (l : List UInt8) (acc : Nat), acc ≤ val acc l
  | [], acc => Nat.le_refl _
  | c :: r, acc => by
    have := val_ge r (acc * 10 + (c.toNat - 48))
    unfold val
    omega

theorem um_cons (M acc : Nat) (c : UInt8) (r : List UInt8) : Lib.parseUintM M acc (c :: r) = if 48 ≤ c.toNat ∧ c.toNat ≤ 57 then (if 1844674407370955162 ≤ acc then .range else if M < acc * 10 + (c.toNat - 48) then .range else Lib.parseUintM M (acc * 10 + (c.toNat - 48)) r) else Lib.parseUintM 0 0 [0] := rfl

theorem um_ok (M : Nat) (hM : M < 18446744073709551616) (l : List UInt8) : ∀ acc : Nat, digs l = true → acc ≤ M →
    Lib.parseUintM M acc l = if val acc l ≤ M then .ok (val acc l) else .range := by
  induction l with
  | nil =>
    intro acc _ ha
    show Lib.NumEnd.ok acc = if acc ≤ M then Lib.NumEnd.ok acc else Lib.NumEnd.range
    rw [if_pos ha]
  | cons c r ih =>
    intro acc hd ha
    have hc : 48 ≤ c.toNat ∧ c.toNat ≤ 57 := by simp [digs, dig] at hd; exact hd.1
    have hr : digs r = true := by simp [digs] at hd; simpa [digs] using hd.2
    have hv := val_ge r (acc * 10 + (c.toNat - 48))
    have e : val acc (c :: r) = val (acc * 10 + (c.toNat - 48)) r := rfl
    rw [um_cons, if_pos hc, e]
    split
    · rw [if_neg (by omega)]
    · split
      · rw [if_neg (by omega)]
      · exact ih _ hr (by omega)

theorem um_bad (M : Nat) : ∀ (l : List UInt8) (acc : Nat), digs l = false → ∀ u, Lib.parseUintM M acc l ≠ .ok u
  | [], acc, h => by simp [digs] at h
  | c :: r, acc, h => by
    intro u hu
    rw [um_cons] at hu
    split at hu
    · rename_i hc
      split at hu
      · cases hu
      · split at hu
        · cases hu
        · refine um_bad M r _ ?_ u hu
          have : dig c = true := by simp [dig, hc]
          simpa [digs, this] using h
    · cases hu

/-- What parseUintB answers, as far as we ask. -/
theorem ub (l : List UInt8) : (∃ u, Lib.parseUintB 64 l = .ok u ∧ l ≠ [] ∧ digs l = true ∧ u = val 0 l) ∨
    ((∀ u, Lib.parseUintB 64 l ≠ .ok u) ∧ (l = [] ∨ digs l = false ∨ 18446744073709551615 < val 0 l)) := by
  unfold Lib.parseUintB
  by_cases h0 : l = []
  · exact .inr ⟨fun u hu => by simp [h0] at hu, .inl h0⟩
  · rw [if_neg h0]
    cases hd : digs l with
    | false => exact .inr ⟨um_bad _ l 0 hd, .inr (.inl rfl)⟩
    | true =>
      rw [um_ok _ (by decide) l 0 hd (Nat.zero_le _)]
      split
      · exact .inl ⟨_, rfl, h0, rfl, rfl⟩
      · rename_i hv
        have e : (2 : Nat) ^ 64 - 1 = 18446744073709551615 := by decide
        rw [e] at hv
        exact .inr ⟨(fun u hu => by cases hu), .inr (.inr (by omega))⟩

theorem pok_minus (r : List UInt8) : (parses (45 :: r)).isSome = (decide (r ≠ []) && digs r && decide (val 0 r ≤ 9223372036854775808)) := by
  unfold parses
  rw [Lib.parseIntB_minus]
  rcases ub r with ⟨u, hu, h0, hd, rfl⟩ | ⟨hu, hc⟩
  · have e : (2 : Nat) ^ (64 - 1) = 9223372036854775808 := by decide
    rw [hu]
    simp only [Lib.signedC, e]
    by_cases hv : 9223372036854775808 < val 0 r
    · simp [hv]
    · simp [hv, h0, hd]; omega
  · have h1 : (decide (r ≠ []) && digs r && decide (val 0 r ≤ 9223372036854775808)) = false := by
      rcases hc with rfl | h | h
      · simp
      · simp [h]
      · simp; intro _ _; omega
    rw [h1]
    rcases hx : Lib.parseUintB 64 r with v | _ | _
    · exact absurd hx (hu v)
    · rfl
    · rfl

theorem pok_plain (c : UInt8) (r : List UInt8) (h43 : c.toNat ≠ 43) (h45 : c.toNat ≠ 45) : (parses (c :: r)).isSome = (digs (c :: r) && decide (val 0 (c :: r) < 9223372036854775808)) := by
  unfold parses
  rw [Lib.parseIntB_plain _ _ _ h43 h45]
  generalize hl : c :: r = l
  have hne : l ≠ [] := by rw [← hl]; simp
  rcases ub l with ⟨u, hu, h0, hd, rfl⟩ | ⟨hu, hc⟩
  · have e : (2 : Nat) ^ (64 - 1) = 9223372036854775808 := by decide
    rw [hu]
    simp only [Lib.signlessC, e]
    by_cases hv : 9223372036854775808 ≤ val 0 l
    · simp [hv]
    · simp [hv, hd]; omega
  · have h1 : (digs l && decide (val 0 l < 9223372036854775808)) = false := by
      rcases hc with h | h | h
      · exact absurd h hne
      · simp [h]
      · simp; intro _; omega
    rw [h1]
    rcases hx : Lib.parseUintB 64 l with v | _ | _
    · exact absurd hx (hu v)
    · rfl
    · rfl

/-- The case table's answer for the digits d behind the sign. -/
def canon (d : List UInt8) (neg : Bool) : Bool :=
  decide (d ≠ []) && digs d && (if d.getD 0 0 = 48 then decide (d.length = 1) && !neg else decide (val 0 d ≤ if neg then 9223372036854775808 else 9223372036854775807))

theorem lead_of (s : ByteArray) : lead s = (((Lib.trimPrefix s.data.toList [45]).getD 0 0).toNat : Int) := rfl

theorem gt48 {c : UInt8} (h : dig c = true) : decide ((48 : Int) < (c.toNat : Int)) = !decide (c = 48) := by
  have h1 : 48 ≤ c.toNat := by simp [dig] at h; exact h.1
  by_cases e : c = 48
  · subst e; rfl
  · have : c.toNat ≠ 48 := fun h => e (UInt8.toNat_inj.1 h)
    simp [e]; omega

theorem wBig_neg (s d : ByteArray) (h : s.data.toList = 45 :: d.data.toList) : wBig s = canon d.data.toList true := by
  unfold wBig
  rw [lead_of, ByteArray.toList_eq, h, pok_minus]
  have e1 : Lib.trimPrefix (45 :: d.data.toList) [45] = d.data.toList := by simp [Lib.trimPrefix, Lib.hasPrefix]
  rw [e1]
  generalize d.data.toList = l
  unfold canon
  cases hd : digs l with
  | false => simp
  | true =>
    cases l with
    | nil => simp
    | cons c r =>
      have hc : dig c = true := by simp [digs] at hd; exact hd.1
      have := gt48 hc
      simp only [List.getD_cons_zero, this]
      by_cases e : c = 48
      · simp [e]
      · simp [e]

theorem wBig_pos (s : ByteArray) (h : s.data.toList ≠ [] → s.data.toList.getD 0 0 ≠ 45) : wBig s = canon s.data.toList false := by
  unfold wBig
  rw [lead_of, ByteArray.toList_eq]
  generalize s.data.toList = l at *
  cases l with
  | nil => simp [canon, parses, Lib.parseIntB]
  | cons c r =>
    have h45 : c ≠ 45 := by simpa using h
    have n45 : c.toNat ≠ 45 := fun e => h45 (UInt8.toNat_inj.1 e)
    have e1 : Lib.trimPrefix (c :: r) [45] = c :: r := by simp [Lib.trimPrefix, Lib.hasPrefix]; intro e; exact absurd e.symm h45
    rw [e1]
    by_cases h43 : c = 43
    · subst h43
      have : digs (43 :: r) = false := by simp [digs, dig]
      simp [canon, this]
    · have n43 : c.toNat ≠ 43 := fun e => h43 (UInt8.toNat_inj.1 e)
      rw [pok_plain c r n43 n45]
      unfold canon
      cases hd : digs (c :: r) with
      | false => simp
      | true =>
        have hc : dig c = true := by simp [digs] at hd; exact hd.1
        have := gt48 hc
        simp only [List.getD_cons_zero, this]
        by_cases e : c = 48
        · subst e
          cases r with
          | nil =>
            have e0 : val 0 [48] = 0 := rfl
            rw [e0]
            rfl
          | cons r0 r => simp
        · simp [e]; omega
end Go.Proofs.Qxb6603473aDoor
