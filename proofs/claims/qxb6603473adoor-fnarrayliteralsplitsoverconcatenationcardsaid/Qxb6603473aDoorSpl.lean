import Derived.Test.Qxb6603473aDoorCl
namespace Go.Proofs.Qxb6603473aDoor
open Go.RowKit

/-! THE PLAIN LAW: the literal of one list followed by another. -/

theorem body_succ (t : ByteArray) (S : Nat → ByteArray) (k : Nat) : body t S (k + 1) = if keeps t (S k) = true then body t S k ++ comma (body t S k) ++ elem (S k) else body t S k := rfl

theorem body_head (t : ByteArray) (S : Nat → ByteArray) : ∀ k, ∃ r, body t S k = 123 :: r
  | 0 => ⟨[], rfl⟩
  | k + 1 => by
    obtain ⟨r, h⟩ := body_head t S k
    unfold body
    split
    · exact ⟨r ++ comma (body t S k) ++ elem (S k), by rw [h]; simp⟩
    · exact ⟨r, h⟩

/-- S's first n, then T. -/
def cat (S : Nat → ByteArray) (n : Nat) (T : Nat → ByteArray) (k : Nat) : ByteArray := if k < n then S k else T (k - n)

theorem body_congr (t : ByteArray) {S T : Nat → ByteArray} : ∀ k, (∀ i, i < k → S i = T i) → body t S k = body t T k
  | 0, _ => rfl
  | k + 1, h => by
    unfold body
    rw [body_congr t k (fun i hi => h i (by omega)), h k (by omega)]

def join (p q : List UInt8) : List UInt8 := if p.length ≤ 1 then q else if q.length ≤ 1 then p else p ++ 44 :: q.tail

theorem body_cat (t : ByteArray) (S T : Nat → ByteArray) (n : Nat) : ∀ j, body t (cat S n T) (n + j) = join (body t S n) (body t T j)
  | 0 => by
    have e : body t (cat S n T) n = body t S n := body_congr t n fun i hi => by simp [cat, hi]
    obtain ⟨r, h⟩ := body_head t S n
    rw [Nat.add_zero, e]
    unfold join
    split
    · rename_i hl
      rw [h] at hl ⊢
      simp at hl
      rw [hl]; rfl
    · simp [body]
  | j + 1 => by
    have ih := body_cat t S T n j
    have e : cat S n T (n + j) = T j := by rw [cat, if_neg (by omega), Nat.add_sub_cancel_left]
    rw [← Nat.add_assoc, body_succ, body_succ, ih, e]
    split
    · obtain ⟨r, h⟩ := body_head t T j
      have hel : 1 ≤ (elem (T j)).length := by simp [elem]
      generalize body t S n = p
      rw [h]
      generalize elem (T j) = z at hel
      unfold join
      by_cases hp : p.length ≤ 1
      · simp [hp]
      · cases r with
        | nil =>
          cases z with
          | nil => simp at hel
          | cons z0 z => simp [hp, comma, show 1 < p.length by omega]
        | cons r0 r => simp [hp, comma, show 1 < p.length + (r.length + 1 + 1) by omega]
    · rfl

theorem lit_two (t : ByteArray) (S : Nat → ByteArray) (n : Nat) : 2 ≤ (lit t S n).length := by
  obtain ⟨r, h⟩ := body_head t S n
  simp [lit, h]

theorem lit_empty {t : ByteArray} {S : Nat → ByteArray} {n : Nat} (h : lit t S n = [123, 125]) : (body t S n).length ≤ 1 := by
  have := congrArg List.length h
  simp [lit] at this
  omega
theorem lit_full {t : ByteArray} {S : Nat → ByteArray} {n : Nat} (h : ¬ lit t S n = [123, 125]) : ¬ (body t S n).length ≤ 1 := by
  intro hl
  obtain ⟨r, e⟩ := body_head t S n
  rw [e] at hl
  simp at hl
  subst hl
  exact h (by simp [lit, e])

theorem lit_cat_left {t : ByteArray} {S T : Nat → ByteArray} {n m : Nat} (h : lit t S n = [123, 125]) : lit t (cat S n T) (n + m) = lit t T m := by
  have := lit_empty h
  simp [lit, body_cat, join, this]
theorem lit_cat_right {t : ByteArray} {S T : Nat → ByteArray} {n m : Nat} (h : lit t T m = [123, 125]) : lit t (cat S n T) (n + m) = lit t S n := by
  have := lit_empty h
  rw [lit, body_cat, lit, join]
  split
  · rename_i h1
    obtain ⟨r, e⟩ := body_head t S n
    obtain ⟨r', e'⟩ := body_head t T m
    rw [e] at h1 ⊢
    rw [e'] at this ⊢
    simp at h1 this
    rw [h1, this]
  · rfl
theorem lit_cat_both {t : ByteArray} {S T : Nat → ByteArray} {n m : Nat} (h : ¬ lit t S n = [123, 125]) (h' : ¬ lit t T m = [123, 125]) :
    lit t (cat S n T) (n + m) = (lit t S n).take ((lit t S n).length - 1) ++ [44] ++ (lit t T m).drop 1 := by
  have h1 := lit_full h
  have h2 := lit_full h'
  obtain ⟨r', e'⟩ := body_head t T m
  rw [lit, body_cat, join, if_neg h1, if_neg h2]
  unfold lit
  rw [e']
  simp

theorem lit_len (t : ByteArray) (S : Nat → ByteArray) (n : Nat) (hn : n ≤ 131072) (hS : ∀ i, i < n → (S i).size ≤ 1048576) : (lit t S n).length ≤ 1099511627776 := by
  have := body_len t S n hS n (Nat.le_refl _)
  simp only [lit, List.length_append, List.length_cons, List.length_nil]
  omega
end Go.Proofs.Qxb6603473aDoor
