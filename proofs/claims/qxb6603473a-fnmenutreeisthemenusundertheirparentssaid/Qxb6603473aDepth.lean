import Derived.Test.Qxb6603473aTreeB
namespace Go.Proofs.Qxb6603473a
namespace Menu

/-- i stands at depth d: 1: a root; else under one at depth d - 1. -/
def Dep (F : Nat → Entry) (n : Nat) : Nat → Nat → Prop
  | 0, _ => False
  | 1, i => i < n ∧ rootB F i = true
  | d + 2, i => i < n ∧ ∃ j, Dep F n (d + 1) j ∧ kidB F j i = true

theorem Dep.lt {F : Nat → Entry} {n : Nat} : ∀ {d i : Nat}, Dep F n d i → i < n
  | 0, _, h => h.elim
  | 1, _, h => h.1
  | _ + 2, _, h => h.1

theorem kid_parent {F : Nat → Entry} {j i : Nat} (h : kidB F j i = true) : (F i).parent.toList.isEmpty = false ∧ (F i).parent = (F j).code := by
  simp only [kidB, Bool.and_eq_true, Bool.not_eq_true'] at h
  exact ⟨h.1.2, toList_inj h.2⟩

theorem Dep.uniq {F : Nat → Entry} {n : Nat} (hd : ∀ i j, i < n → j < n → i ≠ j → (F i).code ≠ (F j).code) : ∀ {d e i : Nat}, Dep F n d i → Dep F n e i → d = e
  | 0, _, _, h, _ => h.elim
  | _ + 1, 0, _, _, h => h.elim
  | 1, 1, _, _, _ => rfl
  | 1, e + 2, i, h, ⟨_, j, _, hk⟩ => by
    have h1 := h.2
    simp only [rootB, Bool.and_eq_true] at h1
    rw [(kid_parent hk).1] at h1
    cases h1.2
  | d + 2, 1, i, ⟨_, j, _, hk⟩, h => by
    have h1 := h.2
    simp only [rootB, Bool.and_eq_true] at h1
    rw [(kid_parent hk).1] at h1
    cases h1.2
  | d + 2, e + 2, i, ⟨_, j, hj, hk⟩, ⟨_, j', hj', hk'⟩ => by
    have e1 : j = j' := by
      by_cases e1 : j = j'
      · exact e1
      · exact absurd ((kid_parent hk).2.symm.trans (kid_parent hk').2) (hd j j' hj.lt hj'.lt e1)
    subst e1
    have := Dep.uniq hd hj hj'
    omega

theorem length_le_of_subset : ∀ (l1 l2 : List Nat), l1.Nodup → (∀ x, x ∈ l1 → x ∈ l2) → l1.length ≤ l2.length
  | [], _, _, _ => Nat.zero_le _
  | a :: l1, l2, hnd, hs => by
    rw [List.nodup_cons] at hnd
    have ha : a ∈ l2 := hs a (by simp)
    have ih := length_le_of_subset l1 (l2.erase a) hnd.2 (fun x hx => (List.mem_erase_of_ne (fun e => hnd.1 (by rw [← e]; exact hx))).2 (hs x (by simp [hx])))
    have hl := List.length_erase_of_mem ha
    have hp := List.length_pos_of_mem ha
    simp
    omega

theorem Dep.chain {F : Nat → Entry} {n : Nat} (hd : ∀ i j, i < n → j < n → i ≠ j → (F i).code ≠ (F j).code) : ∀ {d i : Nat}, Dep F n d i → ∃ l : List Nat, l.length = d ∧ l.Nodup ∧ ∀ x, x ∈ l → ∃ e, e ≤ d ∧ Dep F n e x
  | 0, _, h => h.elim
  | 1, i, h => ⟨[i], rfl, by simp, fun x hx => by simp at hx; subst hx; exact ⟨1, Nat.le_refl _, h⟩⟩
  | d + 2, i, h => by
    obtain ⟨_, j, hj, _⟩ := id h
    obtain ⟨l, hl, hnd, hx⟩ := Dep.chain hd hj
    refine ⟨i :: l, by simp [hl], ?_, fun x hm => ?_⟩
    · rw [List.nodup_cons]
      refine ⟨fun hm => ?_, hnd⟩
      obtain ⟨e, he, hdx⟩ := hx i hm
      have := Dep.uniq hd hdx h
      omega
    · rcases List.mem_cons.1 hm with rfl | hm
      · exact ⟨d + 2, Nat.le_refl _, h⟩
      · obtain ⟨e, he, hdx⟩ := hx x hm
        exact ⟨e, by omega, hdx⟩

theorem Dep.le {F : Nat → Entry} {n : Nat} (hd : ∀ i j, i < n → j < n → i ≠ j → (F i).code ≠ (F j).code) {d i : Nat} (h : Dep F n d i) : d ≤ n := by
  obtain ⟨l, hl, hnd, hx⟩ := Dep.chain hd h
  have := length_le_of_subset l (List.range n) hnd (fun x hm => by
    obtain ⟨e, _, hdx⟩ := hx x hm
    exact List.mem_range.2 hdx.lt)
  simp at this
  omega

/-! ### What is chosen out of 0 .. n-1 -/
def upTo (p : Nat → Bool) (t : Nat) : List Nat := (List.range t).filter p
theorem upTo_succ (p : Nat → Bool) (t : Nat) : upTo p (t + 1) = upTo p t ++ (if p t = true then [t] else []) := filter_succ p t
theorem upTo_prefix (p : Nat → Bool) (t : Nat) : ∀ m, t ≤ m → ∃ r, upTo p m = upTo p t ++ r
  | 0, h => ⟨[], by rw [show t = 0 by omega]; simp⟩
  | m + 1, h => by
    by_cases e : t = m + 1
    · exact ⟨[], by rw [e]; simp⟩
    · obtain ⟨r, hr⟩ := upTo_prefix p t m (by omega)
      exact ⟨r ++ (if p m = true then [m] else []), by rw [upTo_succ, hr, List.append_assoc]⟩
theorem upTo_at (p : Nat → Bool) {t n : Nat} (ht : t < n) (hp : p t = true) : (upTo p t).length < (upTo p n).length ∧ (upTo p n).getD (upTo p t).length 0 = t := by
  obtain ⟨r, hr⟩ := upTo_prefix p (t + 1) n (by omega)
  rw [upTo_succ, if_pos hp] at hr
  rw [hr]
  constructor
  · simp
  · simp [List.getD]
theorem upTo_le (p : Nat → Bool) (t : Nat) : (upTo p t).length ≤ t := by
  have := List.length_filter_le p (List.range t)
  simpa [upTo] using this
end Menu
end Go.Proofs.Qxb6603473a
